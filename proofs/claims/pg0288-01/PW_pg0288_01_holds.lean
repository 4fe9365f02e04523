import PyProof.Rows.All
import Wide.All
import OpenK.AllK
import Wide.FinOn
import Lean
import PySem.Challenge.RW_pg0288_01
set_option Elab.async false
set_option maxRecDepth 100000

section
open PySem PySem.W PySem.W.X PySem.W.ZRun PySem.Spec PySem.Calls PyProof.Rows
set_option maxRecDepth 100000
namespace Mine
section
local macro_rules | `(tactic| k_head) => `(tactic| z_head)
set_option maxHeartbeats 8000000 in
open_top hd for PySem.Challenge.rw_pg0288_01
end
section
local macro_rules | `(tactic| o_head $_H) => `(tactic| skip)
set_option maxHeartbeats 8000000 in
theorem nk (h : PySem.Challenge.rw_pg0288_01.row.Holds) : PySem.Challenge.rw_pg0288_01.row.Holds := by
  k_head
  exact h
end
theorem nk_in_eq (P : Params) : (nk.heap_1 P).map (fun p => (hd.heap_266 P).lookup p.1) = (nk.heap_1 P).map (fun p => some p.2) := by
  kernel_rfl
theorem mem_of_lk {α β : Type} [BEq α] [LawfulBEq α] {a : α} {b : β} : ∀ {l : List (α × β)}, l.lookup a = some b → (a, b) ∈ l
  | (x, y) :: r, e => by
    rw [List.lookup_cons] at e
    by_cases h : (a == x) = true
    · rw [h] at e
      have h1 := eq_of_beq h
      subst h1
      cases e
      exact .head _
    · rw [Bool.not_eq_true] at h
      rw [h] at e
      exact .tail _ (mem_of_lk e)
theorem nk_in {P : Params} {h : Heap} (X : (hd.heap_266 P).In h) : (nk.heap_1 P).In h := fun a o e =>
  X a o ((List.map_inj_left.mp (nk_in_eq P)) (a, o) (mem_of_lk e))
end Mine
end

section
open PySem PySem.Float64
set_option maxRecDepth 20000
namespace Mine

/-- x bears n / 2 ^ e; a zero has no sign -/
noncomputable def Ex (x : UInt64) (n : Int) (e : Nat) : Prop := ∃ t, t < infMag ∧ x = pack (decide (n < 0)) t ∧ V t * 2 ^ e = n.natAbs * 2 ^ 1074
/-- n / 2 ^ e is a double's size -/
noncomputable def Rep (n e : Nat) : Prop := ∃ t, t < infMag ∧ V t * 2 ^ e = n * 2 ^ 1074

theorem two_pos (k : Nat) : 0 < 2 ^ k := Nat.two_pow_pos k
theorem V_inj {t u : Nat} (h : V t = V u) : t = u := by
  rcases Nat.lt_trichotomy t u with h1 | h1 | h1
  · have := V_lt h1; lia
  · exact h1
  · have := V_lt h1; lia
theorem rep_of {n e : Nat} (hn : n < 2 ^ 53) (he : e ≤ 1000) : Rep n e := by
  by_cases h0 : n = 0
  · exact ⟨0, by decide, by rw [V_zero, h0]; simp⟩
  · have hL := Nat.log2_self_le h0
    have hU := @Nat.lt_log2_self n
    have hl : n.log2 ≤ 52 := by
      by_cases h : n.log2 ≤ 52
      · exact h
      · have : 2 ^ 53 ≤ 2 ^ n.log2 := Nat.pow_le_pow_right (by decide) (by lia)
        lia
    generalize n.log2 = l at *
    have e1 : 2 ^ l * 2 ^ (52 - l) = 2 ^ 52 := by rw [← Nat.pow_add]; congr 1; lia
    have e2 : 2 ^ (l + 1) * 2 ^ (52 - l) = 2 ^ 53 := by rw [← Nat.pow_add]; congr 1; lia
    have q1 : 2 ^ 52 ≤ n * 2 ^ (52 - l) := by rw [← e1]; exact Nat.mul_le_mul_right _ hL
    have q2 : n * 2 ^ (52 - l) < 2 ^ 53 := by rw [← e2]; exact Nat.mul_lt_mul_of_pos_right hU (two_pos _)
    refine ⟨(1022 - e + l) * 2 ^ 52 + n * 2 ^ (52 - l), ?_, ?_⟩
    · have : infMag = 2047 * 2 ^ 52 := rfl
      lia
    · rw [V_at (by lia) (.inl q1)]
      have e3 : 2 ^ (52 - l) * 2 ^ (1022 - e + l) * 2 ^ e = 2 ^ 1074 := by rw [← Nat.pow_add, ← Nat.pow_add]; congr 1; lia
      rw [← e3]
      ac_rfl
theorem V_top {t : Nat} (h : t < infMag) : 2 * V t < (2 ^ 54 - 1) * 2 ^ 2045 := by
  have hA : V (infMag - 1) = (2 ^ 53 - 1) * 2 ^ 2045 := by
    have e : infMag - 1 = 2045 * 2 ^ 52 + (2 ^ 53 - 1) := by unfold infMag; lia
    rw [e]; exact V_at (by lia) (.inl (by lia))
  have h1 : V t ≤ V (infMag - 1) := V_mono (by lia)
  rw [hA] at h1
  have := two_pos 2045
  generalize 2 ^ 2045 = z at *
  lia
theorem right_exact {r : UInt64} {neg : Bool} {W D : Nat} (hD : 0 < D) (h : Right r neg W D) (hx : ∃ t, t < infMag ∧ D * V t = W) : ∃ t, t < infMag ∧ r = pack neg t ∧ D * V t = W := by
  obtain ⟨t, hr, hle, hinf, hn⟩ := h
  obtain ⟨u, hu, hW⟩ := hx
  have hlt : t < infMag := by
    rcases Nat.lt_or_ge t infMag with h | h
    · exact h
    · exfalso
      have h1 := hinf.mp (by lia)
      have h2 := V_top hu
      rw [← hW] at h1
      have h3 : D * (2 * V u) < D * ((2 ^ 54 - 1) * 2 ^ 2045) := Nat.mul_lt_mul_of_pos_left h2 hD
      have h4 : D * (2 * V u) = 2 * (D * V u) := by ac_rfl
      rw [h4] at h3
      exact absurd h3 (Nat.not_lt.mpr h1)
  refine ⟨t, hlt, hr, ?_⟩
  have := (hn hlt u).1
  rw [hW] at this
  unfold Float64.dist at this
  lia
theorem sgn_abs (n : Int) : sgn (decide (n < 0)) n.natAbs = n := by
  unfold sgn
  by_cases h : n < 0
  · simp only [decide_eq_true h, if_true]; omega
  · simp only [decide_eq_false h, Bool.false_eq_true, if_false]; omega
theorem ex_val {x : UInt64} {n : Int} {e : Nat} (h : Ex x n e) : val x * 2 ^ e = n * 2 ^ 1074 := by
  obtain ⟨t, ht, rfl, hv⟩ := h
  rw [val_pack _ ht]
  have h1 : sgn (decide (n < 0)) (V t) * ((2 ^ e : Nat) : Int) = sgn (decide (n < 0)) (V t * 2 ^ e) := (sgn_mul _ _ _).symm
  have h2 : sgn (decide (n < 0)) n.natAbs * ((2 ^ 1074 : Nat) : Int) = sgn (decide (n < 0)) (n.natAbs * 2 ^ 1074) := (sgn_mul _ _ _).symm
  rw [sgn_abs] at h2
  rw [← hv] at h2
  have e1 : ((2 ^ e : Nat) : Int) = 2 ^ e := by simp
  have e2 : ((2 ^ 1074 : Nat) : Int) = 2 ^ 1074 := by simp
  rw [e1] at h1
  rw [e2] at h2
  rw [h1, h2]
theorem ex_fin {x : UInt64} {n : Int} {e : Nat} (h : Ex x n e) : ∃ m k, decode x = .fin (decide (n < 0)) m k ∧ m * 2 ^ (k + 1074).toNat * 2 ^ e = n.natAbs * 2 ^ 1074 := by
  obtain ⟨t, ht, rfl, hv⟩ := h
  obtain ⟨m, k, hd, hm⟩ := decode_pack (decide (n < 0)) ht
  exact ⟨m, k, hd, by rw [hm]; exact hv⟩
theorem ex_natAbs {x : UInt64} {n : Int} {e : Nat} (h : Ex x n e) : (val x).natAbs * 2 ^ e = n.natAbs * 2 ^ 1074 := by
  have := congrArg Int.natAbs (ex_val h)
  rw [Int.natAbs_mul, Int.natAbs_mul, Int.natAbs_pow, Int.natAbs_pow] at this
  exact this
theorem ex_uniq {x y : UInt64} {a b : Int} {e f : Nat} (hx : Ex x a e) (hy : Ex y b f) (h : a * 2 ^ f = b * 2 ^ e) : x = y := by
  obtain ⟨t, ht, rfl, hv⟩ := hx
  obtain ⟨u, hu, rfl, hw⟩ := hy
  have hs : decide (a < 0) = decide (b < 0) := by
    have p1 : (0 : Int) < 2 ^ f := Int.pow_pos (by decide)
    have p2 : (0 : Int) < 2 ^ e := Int.pow_pos (by decide)
    apply decide_eq_decide.mpr
    constructor
    · intro h1
      have := Int.mul_neg_of_neg_of_pos h1 p1
      rw [h] at this
      by_cases h2 : b < 0
      · exact h2
      · have := Int.mul_nonneg (show 0 ≤ b by lia) (Int.le_of_lt p2); lia
    · intro h1
      have := Int.mul_neg_of_neg_of_pos h1 p2
      rw [← h] at this
      by_cases h2 : a < 0
      · exact h2
      · have := Int.mul_nonneg (show 0 ≤ a by lia) (Int.le_of_lt p1); lia
  have hn : a.natAbs * 2 ^ f = b.natAbs * 2 ^ e := by
    have := congrArg Int.natAbs h
    rw [Int.natAbs_mul, Int.natAbs_mul, Int.natAbs_pow, Int.natAbs_pow] at this
    exact this
  have hV : V t = V u := by
    generalize (2 : Nat) ^ 1074 = K at *
    refine Nat.eq_of_mul_eq_mul_right (Nat.mul_pos (two_pos e) (two_pos f)) ?_
    calc V t * (2 ^ e * 2 ^ f) = V t * 2 ^ e * 2 ^ f := by ac_rfl
      _ = a.natAbs * K * 2 ^ f := by rw [hv]
      _ = (a.natAbs * 2 ^ f) * K := by ac_rfl
      _ = (b.natAbs * 2 ^ e) * K := by rw [hn]
      _ = b.natAbs * K * 2 ^ e := by ac_rfl
      _ = V u * 2 ^ f * 2 ^ e := by rw [hw]
      _ = V u * (2 ^ e * 2 ^ f) := by ac_rfl
  rw [hs, V_inj hV]
theorem ex_same {x y : UInt64} {a : Int} {e : Nat} (hx : Ex x a e) (hy : Ex y a e) : x = y := ex_uniq hx hy rfl
theorem ex_scale {x : UInt64} {a : Int} {e : Nat} (hx : Ex x a e) (k : Nat) : Ex x (a * 2 ^ k) (e + k) := by
  obtain ⟨t, ht, rfl, hv⟩ := hx
  refine ⟨t, ht, ?_, ?_⟩
  · congr 1
    apply decide_eq_decide.mpr
    have p1 : (0 : Int) < 2 ^ k := Int.pow_pos (by decide)
    constructor
    · intro h1; exact Int.mul_neg_of_neg_of_pos h1 p1
    · intro h1
      by_cases h2 : a < 0
      · exact h2
      · have := Int.mul_nonneg (show 0 ≤ a by lia) (Int.le_of_lt p1); lia
  · rw [Int.natAbs_mul, Int.natAbs_pow, Nat.pow_add]
    show V t * (2 ^ e * 2 ^ k) = a.natAbs * 2 ^ k * 2 ^ 1074
    generalize (2 : Nat) ^ 1074 = K at *
    calc V t * (2 ^ e * 2 ^ k) = V t * 2 ^ e * 2 ^ k := by ac_rfl
      _ = a.natAbs * K * 2 ^ k := by rw [hv]
      _ = _ := by ac_rfl
/-- another way to write the same number -/
theorem ex_as {x : UInt64} {a b : Int} {e f : Nat} (hx : Ex x a e) (h : a * 2 ^ f = b * 2 ^ e) : Ex x b f := by
  obtain ⟨t, ht, rfl, hv⟩ := hx
  have hs : decide (a < 0) = decide (b < 0) := by
    have p1 : (0 : Int) < 2 ^ f := Int.pow_pos (by decide)
    have p2 : (0 : Int) < 2 ^ e := Int.pow_pos (by decide)
    apply decide_eq_decide.mpr
    constructor
    · intro h1
      have := Int.mul_neg_of_neg_of_pos h1 p1
      rw [h] at this
      by_cases h2 : b < 0
      · exact h2
      · have := Int.mul_nonneg (show 0 ≤ b by lia) (Int.le_of_lt p2); lia
    · intro h1
      have := Int.mul_neg_of_neg_of_pos h1 p2
      rw [← h] at this
      by_cases h2 : a < 0
      · exact h2
      · have := Int.mul_nonneg (show 0 ≤ a by lia) (Int.le_of_lt p1); lia
  have hn : a.natAbs * 2 ^ f = b.natAbs * 2 ^ e := by
    have := congrArg Int.natAbs h
    rw [Int.natAbs_mul, Int.natAbs_mul, Int.natAbs_pow, Int.natAbs_pow] at this
    exact this
  refine ⟨t, ht, by rw [hs], ?_⟩
  generalize (2 : Nat) ^ 1074 = K at *
  refine Nat.eq_of_mul_eq_mul_right (two_pos e) ?_
  calc V t * 2 ^ f * 2 ^ e = V t * 2 ^ e * 2 ^ f := by ac_rfl
    _ = a.natAbs * K * 2 ^ f := by rw [hv]
    _ = (a.natAbs * 2 ^ f) * K := by ac_rfl
    _ = (b.natAbs * 2 ^ e) * K := by rw [hn]
    _ = b.natAbs * K * 2 ^ e := by ac_rfl

theorem sum_val {x y : UInt64} {a b : Int} {e : Nat} (hx : Ex x a e) (hy : Ex y b e) : (val x + val y) * 2 ^ e = (a + b) * 2 ^ 1074 := by
  rw [Int.add_mul, Int.add_mul, ex_val hx, ex_val hy]
theorem lt_iff_scaled {p q : Int} {e : Nat} (h : p * 2 ^ e = q * 2 ^ 1074) : (p < 0 ↔ q < 0) ∧ (p = 0 ↔ q = 0) := by
  have p1 : (0 : Int) < 2 ^ e := Int.pow_pos (by decide)
  have p2 : (0 : Int) < 2 ^ 1074 := Int.pow_pos (by decide)
  generalize (2 : Int) ^ e = u at *
  generalize (2 : Int) ^ 1074 = v at *
  rcases Int.lt_trichotomy p 0 with h1 | h1 | h1
  · have := Int.mul_neg_of_neg_of_pos h1 p1
    rw [h] at this
    have hq : q < 0 := by
      by_cases h2 : q < 0
      · exact h2
      · have := Int.mul_nonneg (show 0 ≤ q by lia) (Int.le_of_lt p2); lia
    lia
  · subst h1
    rw [Int.zero_mul] at h
    rcases Int.mul_eq_zero.mp h.symm with h2 | h2 <;> lia
  · have := Int.mul_pos h1 p1
    rw [h] at this
    have hq : 0 < q := by
      by_cases h2 : 0 < q
      · exact h2
      · have := Int.mul_nonneg (show 0 ≤ -q by lia) (Int.le_of_lt p2)
        rw [Int.neg_mul] at this; lia
    lia
theorem ex_zero (e : Nat) : Ex (zero false) 0 e := ⟨0, by decide, rfl, by rw [V_zero]; simp⟩
theorem add_ex {x y : UInt64} {a b : Int} {e : Nat} (hx : Ex x a e) (hy : Ex y b e) (hr : Rep (a + b).natAbs e) : Ex (add x y) (a + b) e := by
  obtain ⟨m, k, hd, _⟩ := ex_fin hx
  obtain ⟨m', k', hd', _⟩ := ex_fin hy
  have hs := sum_val hx hy
  obtain ⟨h0, h1⟩ := add_right hd hd'
  obtain ⟨s1, s2⟩ := lt_iff_scaled hs
  by_cases hz : val x + val y = 0
  · rw [h0 hz]
    have hab := s2.mp hz
    rw [hab]
    have : (decide (a < 0) && decide (b < 0)) = false := by
      by_cases h : a < 0
      · have : ¬ b < 0 := by lia
        simp [this]
      · simp [h]
    rw [this]
    exact ex_zero e
  · obtain ⟨t, ht, hv⟩ := hr
    have hW : (val x + val y).natAbs * 2 ^ e = (a + b).natAbs * 2 ^ 1074 := by
      have := congrArg Int.natAbs hs
      rw [Int.natAbs_mul, Int.natAbs_mul, Int.natAbs_pow, Int.natAbs_pow] at this
      exact this
    obtain ⟨u, hu, e1, e2⟩ := right_exact (by decide) (h1 hz) ⟨t, ht, by
      rw [Nat.one_mul]
      exact Nat.eq_of_mul_eq_mul_right (two_pos e) (by rw [hv, hW])⟩
    refine ⟨u, hu, ?_, ?_⟩
    · rw [e1, decide_eq_decide.mpr s1]
    · rw [Nat.one_mul] at e2; rw [e2, hW]
theorem neg_pack {t : Nat} (b : Bool) (ht : t < infMag) : neg (pack b t) = pack (!b) t := by
  have hi : infMag = 2047 * 2 ^ 52 := rfl
  obtain ⟨m, k, hd, _⟩ := decode_pack b ht
  have hn : isNaN (pack b t) = false := by unfold isNaN; rw [hd]
  unfold neg
  rw [hn]
  simp only [Bool.false_eq_true, if_false]
  apply UInt64.toNat_inj.mp
  rw [UInt64.toNat_xor, pack_toNat _ (show t < 2 ^ 63 by lia), pack_toNat _ (show t < 2 ^ 63 by lia), pack_toNat true (show 0 < 2 ^ 63 by lia)]
  have h63 : t < 2 ^ 63 := by lia
  have key : (2 ^ 63 + t) ^^^ 2 ^ 63 = t := by
    apply Nat.eq_of_testBit_eq
    intro i
    rw [Nat.testBit_xor, Nat.testBit_two_pow]
    by_cases hi : 63 = i
    · subst hi
      rw [Nat.testBit_two_pow_add_eq]
      simp [Nat.testBit_lt_two_pow h63]
    · by_cases h2 : i < 63
      · rw [Nat.testBit_two_pow_add_gt h2]; simp [hi]
      · have h3 : (2 ^ 63 + t) < 2 ^ i := Nat.lt_of_lt_of_le (by lia) (Nat.pow_le_pow_right (by decide) (show 64 ≤ i by lia))
        have h4 : t < 2 ^ i := by lia
        rw [Nat.testBit_lt_two_pow h3, Nat.testBit_lt_two_pow h4]; simp [hi]
  cases b
  · simp only [Bool.false_eq_true, if_false, Nat.zero_add, Bool.not_false, if_true, Nat.add_zero]
    have e : t ^^^ 2 ^ 63 = 2 ^ 63 + t := by
      have : (2 ^ 63 + t) ^^^ 2 ^ 63 ^^^ 2 ^ 63 = t ^^^ 2 ^ 63 := by rw [key]
      rw [Nat.xor_assoc, Nat.xor_self, Nat.xor_zero] at this
      exact this.symm
    exact e
  · simp only [if_true, Bool.not_true, Bool.false_eq_true, if_false, Nat.zero_add, Nat.add_zero]
    exact key
theorem neg_ex {y : UInt64} {b : Int} {e : Nat} (hy : Ex y b e) (hb : b ≠ 0) : Ex (neg y) (-b) e := by
  obtain ⟨t, ht, rfl, hv⟩ := hy
  refine ⟨t, ht, ?_, ?_⟩
  · rw [neg_pack _ ht]
    congr 1
    by_cases h : b < 0
    · rw [decide_eq_true h, decide_eq_false (by lia)]; rfl
    · rw [decide_eq_false h, decide_eq_true (by lia)]; rfl
  · rw [Int.natAbs_neg]; exact hv
theorem sub_ex {x y : UInt64} {a b : Int} {e : Nat} (hx : Ex x a e) (hy : Ex y b e) (hr : Rep (a - b).natAbs e) : Ex (sub x y) (a - b) e := by
  by_cases hb : b = 0
  · subst hb
    unfold sub
    have hy0 : y = zero false := ex_same hy (ex_zero e)
    subst hy0
    rw [show neg (zero false) = zero true from neg_pack false (by decide)]
    obtain ⟨m, k, hd, _⟩ := ex_fin hx
    have hz : decode (zero true) = .fin true 0 (-1074) := by
      have h1 : (zero true).toNat = 2 ^ 63 := by unfold zero; rw [pack_toNat true (by decide)]; rfl
      unfold decode; rw [h1]; rfl
    obtain ⟨h0, h1⟩ := add_right hd hz
    have hvz : val (zero true) = 0 := by rw [val_eq hz]; rfl
    rw [hvz, Int.add_zero] at h0 h1
    obtain ⟨s1, s2⟩ := lt_iff_scaled (ex_val hx)
    rw [Int.sub_zero] at hr ⊢
    by_cases hv : val x = 0
    · rw [h0 hv]
      have ha := s2.mp hv
      subst ha
      exact ex_zero e
    · obtain ⟨t, ht, hv2⟩ := hr
      have hW := ex_natAbs hx
      obtain ⟨u, hu, e1, e2⟩ := right_exact (by decide) (h1 hv) ⟨t, ht, by
        rw [Nat.one_mul]
        exact Nat.eq_of_mul_eq_mul_right (two_pos e) (by rw [hv2, hW])⟩
      refine ⟨u, hu, ?_, ?_⟩
      · rw [e1, decide_eq_decide.mpr s1]
      · rw [Nat.one_mul] at e2; rw [e2, hW]
  · have := add_ex hx (neg_ex hy hb) (by rw [← Int.sub_eq_add_neg]; exact hr)
    rw [← Int.sub_eq_add_neg] at this
    unfold sub
    exact this
theorem mul_ex {x y : UInt64} {a b : Int} {e f : Nat} (hx : Ex x a e) (hy : Ex y b f) (ha : 0 ≤ a) (hb : 0 ≤ b) (hr : Rep (a * b).natAbs (e + f)) : Ex (mul x y) (a * b) (e + f) := by
  obtain ⟨m, k, hd, _⟩ := ex_fin hx
  obtain ⟨m', k', hd', _⟩ := ex_fin hy
  have hR := mul_right hd hd'
  rw [decide_eq_false (show ¬ a < 0 by lia), decide_eq_false (show ¬ b < 0 by lia)] at hR
  have h1 := ex_natAbs hx
  have h2 := ex_natAbs hy
  obtain ⟨t, ht, hv⟩ := hr
  have p74 := two_pos 1074
  simp only [Ex]
  generalize (2 : Nat) ^ 1074 = K at *
  have hprod : (val x).natAbs * (val y).natAbs * 2 ^ (e + f) = (a * b).natAbs * K * K := by
    rw [Nat.pow_add, Int.natAbs_mul]
    calc (val x).natAbs * (val y).natAbs * (2 ^ e * 2 ^ f) = ((val x).natAbs * 2 ^ e) * ((val y).natAbs * 2 ^ f) := by ac_rfl
      _ = (a.natAbs * K) * (b.natAbs * K) := by rw [h1, h2]
      _ = _ := by ac_rfl
  obtain ⟨u, hu, e1, e2⟩ := right_exact p74 hR ⟨t, ht, by
    refine Nat.eq_of_mul_eq_mul_right (two_pos (e + f)) ?_
    rw [hprod, Nat.mul_assoc, hv]; ac_rfl⟩
  refine ⟨u, hu, ?_, ?_⟩
  · rw [e1, decide_eq_false (show ¬ a * b < 0 by have := Int.mul_nonneg ha hb; lia)]; rfl
  · refine Nat.eq_of_mul_eq_mul_left p74 ?_
    rw [← Nat.mul_assoc, e2, hprod]; ac_rfl
theorem div_ex {x y : UInt64} {a b q : Int} {e f g : Nat} (hx : Ex x a e) (hy : Ex y b f) (hb : 0 < b) (hq : q * b * 2 ^ e = a * 2 ^ f * 2 ^ g) (hr : Rep q.natAbs g) : Ex (div x y) q g := by
  obtain ⟨m, k, hd, _⟩ := ex_fin hx
  obtain ⟨m', k', hd', hm'⟩ := ex_fin hy
  have hk0 : m' ≠ 0 := by
    intro h
    rw [h, Nat.zero_mul, Nat.zero_mul] at hm'
    have := Nat.mul_pos (show 0 < b.natAbs by omega) (two_pos 1074)
    omega
  have hR := div_right hd hd' hk0
  rw [decide_eq_false (show ¬ b < 0 by omega)] at hR
  have h1 := ex_natAbs hx
  have h2 := ex_natAbs hy
  have hs : decide (a < 0) = decide (q < 0) := by
    have p1 : (0 : Int) < 2 ^ f * 2 ^ g := Int.mul_pos (Int.pow_pos (by decide)) (Int.pow_pos (by decide))
    have p2 : (0 : Int) < b * 2 ^ e := Int.mul_pos hb (Int.pow_pos (by decide))
    rw [Int.mul_assoc, Int.mul_assoc] at hq
    generalize (2 : Int) ^ f * 2 ^ g = u at *
    generalize b * (2 : Int) ^ e = v at *
    apply decide_eq_decide.mpr
    constructor
    · intro h
      have := Int.mul_neg_of_neg_of_pos h p1
      rw [← hq] at this
      by_cases h2 : q < 0
      · exact h2
      · have := Int.mul_nonneg (show 0 ≤ q by omega) (Int.le_of_lt p2); omega
    · intro h
      have := Int.mul_neg_of_neg_of_pos h p2
      rw [hq] at this
      by_cases h2 : a < 0
      · exact h2
      · have := Int.mul_nonneg (show 0 ≤ a by omega) (Int.le_of_lt p1); omega
  have hqn : q.natAbs * b.natAbs * 2 ^ e = a.natAbs * 2 ^ f * 2 ^ g := by
    have := congrArg Int.natAbs hq
    rw [Int.natAbs_mul, Int.natAbs_mul, Int.natAbs_mul, Int.natAbs_mul, Int.natAbs_pow, Int.natAbs_pow, Int.natAbs_pow] at this
    exact this
  have hvy : 0 < (val y).natAbs := by
    rcases Nat.eq_zero_or_pos (val y).natAbs with h | h
    · rw [h, Nat.zero_mul] at h2
      have := Nat.mul_pos (show 0 < b.natAbs by omega) (two_pos 1074)
      omega
    · exact h
  obtain ⟨t, ht, hv⟩ := hr
  have p74 := two_pos 1074
  clear hm' hd hd'
  simp only [Ex]
  generalize (2 : Nat) ^ 1074 = K at *
  have conv : ∀ u, (val y).natAbs * V u = (val x).natAbs * K ↔ V u * 2 ^ g = q.natAbs * K := by
    intro u
    constructor
    · intro h
      refine Nat.eq_of_mul_eq_mul_right (Nat.mul_pos (Nat.mul_pos (show 0 < b.natAbs by omega) (p74)) (two_pos e)) ?_
      calc V u * 2 ^ g * (b.natAbs * K * 2 ^ e) = V u * 2 ^ g * ((val y).natAbs * 2 ^ f * 2 ^ e) := by rw [h2]
        _ = ((val y).natAbs * V u) * 2 ^ g * 2 ^ f * 2 ^ e := by ac_rfl
        _ = ((val x).natAbs * K) * 2 ^ g * 2 ^ f * 2 ^ e := by rw [h]
        _ = ((val x).natAbs * 2 ^ e) * K * 2 ^ g * 2 ^ f := by ac_rfl
        _ = (a.natAbs * K) * K * 2 ^ g * 2 ^ f := by rw [h1]
        _ = (a.natAbs * 2 ^ f * 2 ^ g) * K * K := by ac_rfl
        _ = (q.natAbs * b.natAbs * 2 ^ e) * K * K := by rw [hqn]
        _ = q.natAbs * K * (b.natAbs * K * 2 ^ e) := by ac_rfl
    · intro h
      refine Nat.eq_of_mul_eq_mul_right (Nat.mul_pos (Nat.mul_pos (two_pos g) (two_pos f)) (two_pos e)) ?_
      calc (val y).natAbs * V u * (2 ^ g * 2 ^ f * 2 ^ e) = ((val y).natAbs * 2 ^ f) * (V u * 2 ^ g) * 2 ^ e := by ac_rfl
        _ = (b.natAbs * K) * (q.natAbs * K) * 2 ^ e := by rw [h2, h]
        _ = (q.natAbs * b.natAbs * 2 ^ e) * K * K := by ac_rfl
        _ = (a.natAbs * 2 ^ f * 2 ^ g) * K * K := by rw [hqn]
        _ = (a.natAbs * K) * K * (2 ^ g * 2 ^ f) := by ac_rfl
        _ = ((val x).natAbs * 2 ^ e) * K * (2 ^ g * 2 ^ f) := by rw [h1]
        _ = (val x).natAbs * K * (2 ^ g * 2 ^ f * 2 ^ e) := by ac_rfl
  obtain ⟨u, hu, e1, e2⟩ := right_exact hvy hR ⟨t, ht, (conv t).mpr hv⟩
  refine ⟨u, hu, ?_, (conv u).mp e2⟩
  rw [e1, ← hs]; cases decide (a < 0) <;> rfl
theorem frac_ex {a b q : Int} {g : Nat} (hb : 0 < b) (hq : q * b = a * 2 ^ g) (hr : Rep q.natAbs g) : Ex (ofFrac (decide (a < 0) != decide (b < 0)) a.natAbs b.natAbs) q g := by
  have hs : decide (a < 0) = decide (q < 0) := by
    have p1 : (0 : Int) < 2 ^ g := Int.pow_pos (by decide)
    generalize (2 : Int) ^ g = u at *
    apply decide_eq_decide.mpr
    constructor
    · intro h
      have := Int.mul_neg_of_neg_of_pos h p1
      rw [← hq] at this
      by_cases h2 : q < 0
      · exact h2
      · have := Int.mul_nonneg (show 0 ≤ q by lia) (Int.le_of_lt hb); lia
    · intro h
      have := Int.mul_neg_of_neg_of_pos h hb
      rw [hq] at this
      by_cases h2 : a < 0
      · exact h2
      · have := Int.mul_nonneg (show 0 ≤ a by lia) (Int.le_of_lt p1); lia
  have hqn : q.natAbs * b.natAbs = a.natAbs * 2 ^ g := by
    have := congrArg Int.natAbs hq
    rw [Int.natAbs_mul, Int.natAbs_mul, Int.natAbs_pow] at this
    exact this
  have hb' : 0 < b.natAbs := by lia
  have hR : Right (ofFrac (decide (a < 0) != decide (b < 0)) a.natAbs b.natAbs) (decide (a < 0) != decide (b < 0)) (a.natAbs * 2 ^ 1074) b.natAbs := ofFrac_right hb' rfl hb'
  obtain ⟨t, ht, hv⟩ := hr
  simp only [Ex]
  generalize (2 : Nat) ^ 1074 = K at *
  have conv : ∀ u, b.natAbs * V u = a.natAbs * K ↔ V u * 2 ^ g = q.natAbs * K := by
    intro u
    constructor
    · intro h
      refine Nat.eq_of_mul_eq_mul_right hb' ?_
      calc V u * 2 ^ g * b.natAbs = (b.natAbs * V u) * 2 ^ g := by ac_rfl
        _ = (a.natAbs * K) * 2 ^ g := by rw [h]
        _ = (a.natAbs * 2 ^ g) * K := by ac_rfl
        _ = (q.natAbs * b.natAbs) * K := by rw [hqn]
        _ = _ := by ac_rfl
    · intro h
      refine Nat.eq_of_mul_eq_mul_right (two_pos g) ?_
      calc b.natAbs * V u * 2 ^ g = b.natAbs * (V u * 2 ^ g) := by ac_rfl
        _ = (q.natAbs * b.natAbs) * K := by rw [h]; ac_rfl
        _ = (a.natAbs * 2 ^ g) * K := by rw [hqn]
        _ = _ := by ac_rfl
  obtain ⟨u, hu, e1, e2⟩ := right_exact hb' hR ⟨t, ht, (conv t).mpr hv⟩
  refine ⟨u, hu, ?_, (conv u).mp e2⟩
  rw [e1, ← hs, decide_eq_false (show ¬ b < 0 by lia)]; cases decide (a < 0) <;> rfl
theorem int_ex {n : Int} (hn : n.natAbs < 2 ^ 53) : Ex (ofInt n) n 0 := by
  have := frac_ex (a := n) (b := 1) (q := n) (g := 0) (by decide) (by simp) (rep_of hn (by decide))
  have e : (decide (n < 0) != decide ((1 : Int) < 0)) = decide (n < 0) := by cases decide (n < 0) <;> rfl
  rw [e] at this
  unfold ofInt
  exact this
theorem cmp_ex {x y : UInt64} {a b : Int} {e : Nat} (hx : Ex x a e) (hy : Ex y b e) : cmp x y = some (compare a b) := by
  obtain ⟨m, k, hd, _⟩ := ex_fin hx
  obtain ⟨m', k', hd', _⟩ := ex_fin hy
  rw [cmp_right hd hd']
  congr 1
  have h1 := ex_val hx
  have h2 := ex_val hy
  have p1 : (0 : Int) < 2 ^ e := Int.pow_pos (by decide)
  have p2 : (0 : Int) < 2 ^ 1074 := Int.pow_pos (by decide)
  generalize (2 : Int) ^ e = u at *
  generalize (2 : Int) ^ 1074 = v at *
  rcases Int.lt_trichotomy a b with h | h | h
  · have h3 := Int.mul_lt_mul_of_pos_right h p2
    rw [← h1, ← h2] at h3
    rw [Int.compare_eq_lt.mpr h, Int.compare_eq_lt.mpr (Int.lt_of_mul_lt_mul_right h3 (Int.le_of_lt p1))]
  · subst h
    have : val x = val y := Int.eq_of_mul_eq_mul_right (by lia) (h1.trans h2.symm)
    rw [this]; simp
  · have h3 := Int.mul_lt_mul_of_pos_right h p2
    rw [← h1, ← h2] at h3
    rw [Int.compare_eq_gt.mpr h, Int.compare_eq_gt.mpr (Int.lt_of_mul_lt_mul_right h3 (Int.le_of_lt p1))]
theorem not_nan {x : UInt64} {a : Int} {e : Nat} (hx : Ex x a e) : isNaN x = false := by
  obtain ⟨m, k, hd, _⟩ := ex_fin hx
  unfold isNaN; rw [hd]
theorem not_inf {x : UInt64} {a : Int} {e : Nat} (hx : Ex x a e) : isInf x = false := by
  obtain ⟨m, k, hd, _⟩ := ex_fin hx
  unfold isInf; rw [hd]
theorem is_fin {x : UInt64} {a : Int} {e : Nat} (hx : Ex x a e) : isFinite x = true := by
  obtain ⟨m, k, hd, _⟩ := ex_fin hx
  unfold isFinite; rw [hd]
theorem is_zero {x : UInt64} {a : Int} {e : Nat} (hx : Ex x a e) : isZero x = decide (a = 0) := by
  obtain ⟨m, k, hd, hm⟩ := ex_fin hx
  unfold isZero; rw [hd]
  by_cases h : a = 0
  · subst h
    rw [Int.natAbs_zero, Nat.zero_mul] at hm
    have : m = 0 := by
      rcases Nat.mul_eq_zero.mp hm with h | h
      · rcases Nat.mul_eq_zero.mp h with h | h
        · exact h
        · have := two_pos (k + 1074).toNat; lia
      · have := two_pos e; lia
    subst this
    simp
  · have : m ≠ 0 := by
      intro h0
      rw [h0, Nat.zero_mul, Nat.zero_mul] at hm
      have := Nat.mul_pos (show 0 < a.natAbs by lia) (two_pos 1074)
      lia
    rw [decide_eq_false h]
    cases m with
    | zero => exact absurd rfl this
    | succ m => rfl
theorem trunc_ex {x : UInt64} {a : Int} {e : Nat} (hx : Ex x a e) (ha : 0 ≤ a) : Flt.toInt truncOf x = a / 2 ^ e := by
  obtain ⟨m, k, hd, hm⟩ := ex_fin hx
  have hk := decode_ge hd
  rw [Flt.toInt_fin hd, decide_eq_false (show ¬ a < 0 by lia)]
  obtain ⟨n, rfl⟩ := Int.eq_ofNat_of_zero_le ha
  rw [Int.natAbs_natCast] at hm
  unfold truncOf floorOf
  simp only [Bool.false_eq_true, if_false]
  unfold sgn
  simp only [Bool.false_eq_true, if_false]
  by_cases h : k ≥ 0
  · rw [if_pos h]
    have e1 : (k + 1074).toNat = k.toNat + 1074 := by lia
    rw [e1, Nat.pow_add] at hm
    have h2 : m * 2 ^ k.toNat * 2 ^ e = n := Nat.eq_of_mul_eq_mul_right (two_pos 1074) (by rw [← hm]; ac_rfl)
    rw [← h2]
    have : ((m * 2 ^ k.toNat * 2 ^ e : Nat) : Int) / 2 ^ e = ((m * 2 ^ k.toNat : Nat) : Int) := by
      have e2 : (2 : Int) ^ e = ((2 ^ e : Nat) : Int) := by simp
      rw [e2, ← Int.natCast_ediv, Nat.mul_div_cancel _ (two_pos e)]
    rw [this]; simp
  · rw [if_neg h]
    have e1 : 1074 = (k + 1074).toNat + (-k).toNat := by lia
    have hm2 : m * 2 ^ (k + 1074).toNat * 2 ^ e = n * (2 ^ (k + 1074).toNat * 2 ^ (-k).toNat) := by
      rw [hm, ← Nat.pow_add, ← e1]
    have h2 : m * 2 ^ e = n * 2 ^ (-k).toNat := Nat.eq_of_mul_eq_mul_right (two_pos (k + 1074).toNat) (by
      calc m * 2 ^ e * 2 ^ (k + 1074).toNat = m * 2 ^ (k + 1074).toNat * 2 ^ e := by ac_rfl
        _ = _ := hm2
        _ = _ := by ac_rfl)
    have h3 : m / 2 ^ (-k).toNat = n / 2 ^ e := by
      rw [← Nat.mul_div_mul_right m (2 ^ (-k).toNat) (two_pos e), h2, Nat.mul_comm (2 ^ (-k).toNat) (2 ^ e), Nat.mul_div_mul_right _ _ (two_pos _)]
    have e2 : (2 : Int) ^ (-k).toNat = ((2 ^ (-k).toNat : Nat) : Int) := by simp
    have e3 : (2 : Int) ^ e = ((2 ^ e : Nat) : Int) := by simp
    rw [e2, e3, Int.fdiv_eq_ediv_of_nonneg _ (Int.natCast_nonneg _), ← Int.natCast_ediv, ← Int.natCast_ediv, h3]

/-- the double 1.0 -/
noncomputable abbrev f1 : UInt64 := 4607182418800017408
theorem f1_decode : decode f1 = .fin false (2 ^ 52) (-52) := by
  have h1 : f1.toNat = 4607182418800017408 := by decide
  unfold decode; rw [h1]; rfl
theorem f1_ex (e : Nat) : Ex f1 (2 ^ e) e := by
  have h : Ex f1 1 0 := ⟨1023 * 2 ^ 52, by decide +kernel, by decide +kernel, by
    have := V_at (k := 1022) (q := 2 ^ 52) (by decide) (.inl (Nat.le_refl _))
    rw [show 1022 * 2 ^ 52 + 2 ^ 52 = 1023 * 2 ^ 52 by decide] at this
    rw [this]; decide +kernel⟩
  exact ex_as h (by simp)
theorem tn {a b c : Int} (ha : 0 ≤ a) (hb : 0 ≤ b) (h : a + b = c) : a.toNat + b.toNat = c.toNat := by rw [← h, Int.toNat_add ha hb]
theorem tn1 {k d : Int} (h : d ≤ k) (h2 : -1074 ≤ d) : (k - d).toNat + (d + 1074).toNat = (k + 1074).toNat := tn (by lia) (by lia) (by lia)
theorem tn2 {d : Int} (h : d ≤ -52) (h2 : -1074 ≤ d) : 52 + (-52 - d).toNat + (d + 1074).toNat = 1074 := by rw [Nat.add_assoc, tn (c := 1022) (by lia) (by lia) (by lia)]; rfl
theorem mul_mid (m a b c : Nat) : m * a * (b * c) = m * (a * b) * c := by rw [← Nat.mul_assoc, Nat.mul_assoc m]
theorem mul_out (c p q r : Nat) : c * (p * q * r) = p * q * (r * c) := by rw [Nat.mul_comm, Nat.mul_assoc]
theorem mod_one_ex {x : UInt64} {n : Int} {e : Nat} (hx : Ex x n e) (h1 : -(2 ^ e) < n) (h2 : n < 2 ^ e) (hr : Rep n.natAbs e) (hr' : Rep (n % 2 ^ e).natAbs e) : Ex (divmod x f1).2 (n % 2 ^ e) e := by
  obtain ⟨m, k, hd, hm⟩ := ex_fin hx
  have hk := decode_ge hd
  have hd2 := Int.min_le_right k (-52)
  have hd1 : -1074 ≤ min k (-52) := Int.le_min.mpr ⟨hk, by decide⟩
  have pe : ((2 ^ e : Nat) : Int) = 2 ^ e := by simp
  have hna : n.natAbs < 2 ^ e := by lia
  have hf : Ex (fmod x f1) n e := by
    have hpq : m * 2 ^ (k - min k (-52)).toNat < 2 ^ 52 * 2 ^ (-52 - min k (-52)).toNat := by
      refine Nat.lt_of_mul_lt_mul_right (a := 2 ^ (min k (-52) + 1074).toNat * 2 ^ e) ?_
      have e1 : (k - min k (-52)).toNat + (min k (-52) + 1074).toNat = (k + 1074).toNat := tn1 (Int.min_le_left k (-52)) hd1
      have e2 : 52 + (-52 - min k (-52)).toNat + (min k (-52) + 1074).toNat = 1074 := tn2 hd2 hd1
      calc m * 2 ^ (k - min k (-52)).toNat * (2 ^ (min k (-52) + 1074).toNat * 2 ^ e) = m * (2 ^ (k - min k (-52)).toNat * 2 ^ (min k (-52) + 1074).toNat) * 2 ^ e := mul_mid _ _ _ _
        _ = m * 2 ^ (k + 1074).toNat * 2 ^ e := by rw [← Nat.pow_add, e1]
        _ = n.natAbs * 2 ^ 1074 := hm
        _ < 2 ^ e * 2 ^ 1074 := Nat.mul_lt_mul_of_pos_right hna (two_pos _)
        _ = 2 ^ e * (2 ^ 52 * 2 ^ (-52 - min k (-52)).toNat * 2 ^ (min k (-52) + 1074).toNat) := by rw [← Nat.pow_add 2 52, ← Nat.pow_add 2 (52 + _), e2]
        _ = _ := mul_out _ _ _ _
    have hfm : fmod x f1 = ofBin (decide (n < 0)) (m * 2 ^ (k - min k (-52)).toNat) (min k (-52)) := by
      unfold fmod
      rw [hd, f1_decode]
      simp only
      rw [if_neg (by simp)]
      unfold align
      simp only
      unfold sgn
      simp only [Bool.false_eq_true, if_false, Int.toNat_natCast]
      rw [Nat.mod_eq_of_lt hpq]
    rw [hfm]
    have hR := ofBin_right (neg := decide (n < 0)) (M := m * 2 ^ (k - min k (-52)).toNat) (g := min k (-52)) hd1
    obtain ⟨t, ht, hv⟩ := hr
    have e1 : (k - min k (-52)).toNat + (min k (-52) + 1074).toNat = (k + 1074).toNat := tn1 (Int.min_le_left k (-52)) hd1
    have hW : m * 2 ^ (k - min k (-52)).toNat * 2 ^ (min k (-52) + 1074).toNat * 2 ^ e = n.natAbs * 2 ^ 1074 := by
      rw [Nat.mul_assoc m, ← Nat.pow_add, e1, hm]
    obtain ⟨u, hu, q1, q2⟩ := right_exact (by decide) hR ⟨t, ht, by
      rw [Nat.one_mul]
      exact Nat.eq_of_mul_eq_mul_right (two_pos e) (by rw [hv, hW])⟩
    rw [Nat.one_mul] at q2
    exact ⟨u, hu, q1, by rw [q2, hW]⟩
  have hlt0 : lt f1 (zero false) = false := by decide +kernel
  have hltm : lt (fmod x f1) (zero false) = decide (n < 0) := by
    unfold lt
    rw [cmp_ex hf (ex_zero e)]
    by_cases h : n < 0
    · rw [Int.compare_eq_lt.mpr h, decide_eq_true h]; rfl
    · rw [decide_eq_false h]
      rcases Int.lt_or_eq_of_le (Int.not_lt.mp h) with h3 | h3
      · rw [Int.compare_eq_gt.mpr h3]; rfl
      · rw [← h3]; rfl
  unfold divmod
  simp only
  rw [is_zero hf]
  by_cases h0 : n = 0
  · rw [decide_eq_true h0]
    simp only [if_true]
    subst h0
    rw [Int.zero_emod]
    have hc : copysign (zero false) f1 = zero false := by decide +kernel
    rw [hc]
    exact ex_zero e
  · rw [decide_eq_false h0]
    simp only [Bool.false_eq_true, if_false]
    rw [hlt0, hltm]
    by_cases h : n < 0
    · rw [decide_eq_true h]
      simp only [bne, BEq.beq]
      have hmod : n % 2 ^ e = n + 2 ^ e := by
        rw [← Int.add_emod_right, Int.emod_eq_of_lt (by lia) (by lia)]
      rw [hmod] at hr' ⊢
      exact add_ex hf (f1_ex e) hr'
    · rw [decide_eq_false h]
      simp only [bne, BEq.beq]
      rw [Int.emod_eq_of_lt (by lia) h2]
      exact hf
end Mine
end

section
open PySem
namespace Mine
noncomputable abbrev It := Addr × Int
noncomputable def d0 : It := (0, 0)
noncomputable def at' (l : List It) (i : Nat) : It := l.getD i d0
noncomputable def ky (l : List It) (i : Nat) : Int := (at' l i).2
theorem at_set {l : List It} {q : Nat} {v : It} (h : q < l.length) (i : Nat) : at' (l.set q v) i = if i = q then v else at' l i := by
  unfold at'
  rw [List.getD_eq_getElem?_getD, List.getElem?_set, List.getD_eq_getElem?_getD]
  by_cases e : q = i
  · subst e; simp [h]
  · rw [if_neg e, if_neg (fun x => e x.symm)]
theorem ky_set {l : List It} {q : Nat} {v : It} (h : q < l.length) (i : Nat) : ky (l.set q v) i = if i = q then v.2 else ky l i := by
  unfold ky; rw [at_set h]; split <;> rfl
theorem at_mem {l : List It} {q : Nat} (h : q < l.length) : at' l q ∈ l := by
  unfold at'; rw [List.getD_eq_getElem?_getD, List.getElem?_eq_getElem h]; exact List.getElem_mem h
theorem at_get {l : List It} {q : Nat} (h : q < l.length) : l[q]? = some (at' l q) := by
  unfold at'; rw [List.getD_eq_getElem?_getD, List.getElem?_eq_getElem h]; rfl

noncomputable def HP (l : List It) (s : Nat) : Prop := ∀ i, 1 ≤ i → i < l.length → s ≤ (i - 1) / 2 → ky l ((i - 1) / 2) ≤ ky l i
noncomputable def HH (l : List It) (p q : Nat) : Prop :=
  (∀ i, 1 ≤ i → i < l.length → p ≤ (i - 1) / 2 → i ≠ q → (i - 1) / 2 ≠ q → ky l ((i - 1) / 2) ≤ ky l i) ∧
  (p < q → ∀ i, 1 ≤ i → i < l.length → (i - 1) / 2 = q → ky l ((q - 1) / 2) ≤ ky l i)
noncomputable def Kids (l : List It) (q : Nat) (x : Int) : Prop := ∀ i, 1 ≤ i → i < l.length → (i - 1) / 2 = q → x ≤ ky l i
inductive Desc (p : Nat) : Nat → Prop
  | here : Desc p p
  | left {q} : Desc p q → Desc p (2 * q + 1)
  | right {q} : Desc p q → Desc p (2 * q + 2)
theorem Desc.le {p q : Nat} (h : Desc p q) : p ≤ q := by induction h <;> lia
theorem Desc.up {p q : Nat} (h : Desc p q) (hq : p < q) : Desc p ((q - 1) / 2) := by
  cases h with
  | here => lia
  | @left r h => rwa [show (2 * r + 1 - 1) / 2 = r by lia]
  | @right r h => rwa [show (2 * r + 2 - 1) / 2 = r by lia]
theorem HH.ofHP {l : List It} {p : Nat} (h : HP l (p + 1)) : HH l p p :=
  ⟨fun i a b c d e => h i a b (by lia), fun a => absurd a (Nat.lt_irrefl _)⟩
theorem HH.set {l : List It} {p q : Nat} {v : It} (h : HH l p q) (hq : q < l.length) : HH (l.set q v) p q := by
  refine ⟨fun i a b c d e => ?_, fun a i b c d => ?_⟩
  · rw [List.length_set] at b
    rw [ky_set hq, ky_set hq, if_neg e, if_neg d]
    exact h.1 i a b c d e
  · rw [List.length_set] at c
    rw [ky_set hq, ky_set hq, if_neg (by lia), if_neg (by lia)]
    exact h.2 a i b c d
theorem Kids.set {l : List It} {q : Nat} {x : Int} {v : It} (h : Kids l q x) (hq : q < l.length) : Kids (l.set q v) q x := by
  intro i a b c
  rw [List.length_set] at b
  rw [ky_set hq, if_neg (by lia)]
  exact h i a b c
theorem perm_swap' {l l₀ : List It} {q r : Nat} {v : It} (hq : q < l.length) (hr : r < l.length) (hne : r ≠ q) (h : (l.set q v).Perm l₀) : ((l.set q (at' l r)).set r v).Perm l₀ := by
  have h1 : q < (l.set q v).length := by simpa using hq
  have h2 : r < (l.set q v).length := by simpa using hr
  have := List.set_set_perm (as := l.set q v) h1 h2
  have e1 : (l.set q v)[q] = v := by simp
  have e2 : (l.set q v)[r] = at' l r := by
    have := at_get hr
    rw [List.getElem_set]
    rw [if_neg (fun e => hne e.symm)]
    rw [List.getElem?_eq_getElem hr] at this
    exact Option.some.inj this
  rw [e1, e2, List.set_set] at this
  exact this.trans h
theorem perm_start {l : List It} {q : Nat} (hq : q < l.length) : (l.set q (at' l q)) = l := by
  have := at_get hq
  rw [List.getElem?_eq_getElem hq] at this
  have e := Option.some.inj this
  rw [← e]; exact List.set_getElem_self ..
theorem perm_start' {l : List It} {q : Nat} (hq : q < l.length) : (l.set q (at' l q)).Perm l := by rw [perm_start hq]
theorem up_step {l : List It} {p q c : Nat} (h : HH l p q) (hd : Desc p q) (hc : c < l.length) (hcc : c = 2 * q + 1 ∨ c = 2 * q + 2) (hmin : ∀ i, (i = 2 * q + 1 ∨ i = 2 * q + 2) → i < l.length → ky l c ≤ ky l i) :
    HH (l.set q (at' l c)) p c ∧ Desc p c := by
  have hq : q < l.length := by lia
  have hpq := hd.le
  refine ⟨⟨fun i a b c' d e => ?_, fun a i b c' d => ?_⟩, ?_⟩
  · rw [List.length_set] at b
    rw [ky_set hq, ky_set hq]
    show (if _ then ky l c else _) ≤ (if _ then ky l c else _)
    by_cases e1 : i = q
    · rw [if_pos e1, if_neg (by lia)]
      subst e1
      exact h.2 (by lia) c (by lia) hc (by lia)
    · rw [if_neg e1]
      by_cases e2 : (i - 1) / 2 = q
      · rw [if_pos e2]; exact hmin i (by lia) b
      · rw [if_neg e2]; exact h.1 i a b c' e1 e2
  · rw [List.length_set] at c'
    rw [ky_set hq, ky_set hq]
    show (if _ then ky l c else _) ≤ (if _ then ky l c else _)
    rw [if_pos (by lia), if_neg (by lia)]
    have := h.1 i b c' (by lia) (by lia) (by lia)
    rwa [d] at this
  · rcases hcc with rfl | rfl
    · exact hd.left
    · exact hd.right
theorem down_step {l : List It} {p q : Nat} {x : Int} (h : HH l p q) (hk : Kids l q x) (hd : Desc p q) (hq : q < l.length) (hpq : p < q) (hx : x < ky l ((q - 1) / 2)) :
    HH (l.set q (at' l ((q - 1) / 2))) p ((q - 1) / 2) ∧ Kids (l.set q (at' l ((q - 1) / 2))) ((q - 1) / 2) x ∧ Desc p ((q - 1) / 2) ∧ (q - 1) / 2 < q ∧ p ≤ (q - 1) / 2 := by
  have hd' := hd.up hpq
  have hle := hd'.le
  generalize hr : (q - 1) / 2 = r at *
  have edge : ∀ i, 1 ≤ i → i < l.length → (i - 1) / 2 = r → i ≠ q → ky l r ≤ ky l i := fun i a b c d => by
    have := h.1 i a b (by lia) d (by lia)
    rwa [c] at this
  refine ⟨⟨fun i a b c d e => ?_, fun a i b c d => ?_⟩, fun i a b c => ?_, hd', by lia, hle⟩
  · rw [List.length_set] at b
    rw [ky_set hq, ky_set hq]
    show (if _ then ky l r else _) ≤ (if _ then ky l r else _)
    by_cases e1 : i = q
    · subst e1; exact absurd hr e
    · rw [if_neg e1]
      by_cases e2 : (i - 1) / 2 = q
      · rw [if_pos e2]
        have := h.2 hpq i a b e2
        rwa [hr] at this
      · rw [if_neg e2]; exact h.1 i a b c e1 e2
  · rw [List.length_set] at c
    rw [ky_set hq, ky_set hq]
    show (if _ then ky l r else _) ≤ (if _ then ky l r else _)
    have e3 := h.1 r (by lia) (by lia) (hd'.up a).le (by lia) (by lia)
    rw [if_neg (by lia)]
    by_cases e1 : i = q
    · rw [if_pos e1]; exact e3
    · rw [if_neg e1]; exact Int.le_trans e3 (edge i b c d e1)
  · rw [List.length_set] at b
    rw [ky_set hq]
    show x ≤ (if _ then ky l r else _)
    by_cases e1 : i = q
    · rw [if_pos e1]; lia
    · rw [if_neg e1]; have := edge i a b c e1; lia
theorem down_end {l : List It} {p q : Nat} {v : It} (h : HH l p q) (hk : Kids l q v.2) (hq : q < l.length) (hx : p < q → ky l ((q - 1) / 2) ≤ v.2) : HP (l.set q v) p := by
  intro i a b c
  rw [List.length_set] at b
  rw [ky_set hq, ky_set hq]
  by_cases e1 : i = q
  · rw [if_pos e1, if_neg (by lia)]
    subst e1
    exact hx (by lia)
  · rw [if_neg e1]
    by_cases e2 : (i - 1) / 2 = q
    · rw [if_pos e2]; exact hk i a b e2
    · rw [if_neg e2]; exact h.1 i a b c e1 e2
theorem root_min {l : List It} (h : HP l 0) : ∀ i, i < l.length → ky l 0 ≤ ky l i := by
  intro i
  induction i using Nat.strongRecOn with
  | _ i ih =>
    intro hi
    by_cases e : i = 0
    · subst e; exact Int.le_refl _
    · exact Int.le_trans (ih ((i - 1) / 2) (by omega) (by omega)) (h i (by omega) hi (Nat.zero_le _))
theorem root_min_mem {l : List It} (h : HP l 0) {p : It} (hp : p ∈ l) : ky l 0 ≤ p.2 := by
  obtain ⟨i, hi, e⟩ := List.mem_iff_getElem.mp hp
  have := root_min h i hi
  have e2 := at_get hi
  rw [List.getElem?_eq_getElem hi, e] at e2
  unfold ky at this ⊢
  rw [← Option.some.inj e2] at this
  exact this
end Mine
end

section
open PySem PySem.W PySem.Spec PySem.Calls PyProof.Rows
set_option maxRecDepth 100000
set_option maxHeartbeats 4000000
namespace Mine

section
theorem calm_M1b : True := by
  w_top off
  exact trivial
/-- tokens are handed out in order: no run gives one back -/
theorem runs_toks {M : Model} {Γ : PySem.Ctx} {p : Pos} {t : Sem PySem.Fin} {fs : List Frame} {s s' : Shared} {e : End} (h : Runs M Γ p t fs s e s') : s.toks ≤ s'.toks := by
  induction h with
  | done | raise | yield => exact Nat.le_refl _
  | again _ _ ih | rule _ ih | «at» _ ih | load _ _ ih | update _ _ ih | loadIfAlive _ ih | point _ ih | alloc _ ih | ask _ ih | choose _ _ ih | os _ ih | handled _ ih | genState _ _ ih | stack _ ih | thread _ ih | newGen _ ih => exact ih
  | fresh _ ih => exact Nat.le_of_succ_le ih
  | call _ _ i1 i2 => exact Nat.le_trans i1 i2
  | callSusp _ i1 => exact i1
  | resumeFresh _ _ _ _ i1 i2 => exact Nat.le_trans i1 i2
  | resumeSuspended _ _ _ _ i1 i2 => exact Nat.le_trans i1 i2
  | resumeJustStarted _ _ _ i1 => exact i1
  | resumeThrowFresh _ _ i1 => exact i1
  | resumeRunning _ _ i1 => exact i1
  | resumeFinished _ _ i1 => exact i1
  | segRet _ _ i1 i2 => exact Nat.le_trans i1 i2
  | segGen _ _ i1 i2 => exact Nat.le_trans i1 i2
  | segSuspOut _ _ i1 => exact i1
  | segSuspGen _ _ _ _ i1 i2 => exact Nat.le_trans i1 i2
theorem wakes_toks {M : Model} {Γ : PySem.Ctx} {p : Pos} {g : Nat} {r : Resume} {s s' : Shared} {res : GenResult} (h : Wakes M Γ p g r s res s') : s.toks ≤ s'.toks := by
  unfold Wakes at h
  split at h
  · exact h.elim
  · split at h
    · obtain ⟨e₁, s₁, h1, _, _, rfl⟩ := h; have := runs_toks h1; exact this
    · obtain ⟨_, rfl⟩ := h; exact Nat.le_refl _
    · obtain ⟨_, rfl⟩ := h; exact Nat.le_refl _
  · obtain ⟨e₁, s₁, h1, _, _, rfl⟩ := h; have := runs_toks h1; exact this
  · obtain ⟨_, rfl⟩ := h; exact Nat.le_refl _
  · obtain ⟨_, rfl⟩ := h; exact Nat.le_refl _
theorem wp_toks {α : Type} {M : Model} {Γ : PySem.Ctx} (n : Nat) (t : Sem α) {Q : α → Pos → Shared → Prop} {E : Value → Pos → Shared → Prop} {p : Pos} {s : Shared} (hn : n ≤ s.toks) (h : Sem.wp M Γ t Q E p s) :
    Sem.wp M Γ t (fun a p' s' => Q a p' s' ∧ n ≤ s'.toks) (fun e p' s' => E e p' s' ∧ n ≤ s'.toks) p s := by
  induction t generalizing p s with
  | pure a => exact ⟨h, hn⟩
  | raise e => exact ⟨h, hn⟩
  | unsupported | finish | yield | fork | await | register => exact h
  | rule _ k ih | «at» _ k ih | alloc _ k ih | loadIfAlive _ k ih | point _ k ih | ask k ih | handled _ k ih | newGen _ k ih | stack k ih | thread k ih => exact ih _ hn h
  | os q l k ih => exact ih _ hn h
  | fresh k ih => exact ih _ (Nat.le_succ_of_le hn) h
  | load a _ k ih => obtain ⟨o, ho, h⟩ := h; exact ⟨o, ho, ih _ hn h⟩
  | genState a k ih => obtain ⟨o, ho, h⟩ := h; exact ⟨o, ho, ih _ hn h⟩
  | update a _ f k ih => exact ⟨h.1, ih _ hn h.2⟩
  | choose _ _ k ih => exact ⟨h.1, ih _ hn h.2⟩
  | call c h' g l k ih => obtain ⟨r, s', hr, h⟩ := h; exact ⟨r, s', hr, ih _ (Nat.le_trans hn (runs_toks hr)) h⟩
  | resume g r l k ih => obtain ⟨res, s', hw, h⟩ := h; exact ⟨res, s', hw, ih _ (Nat.le_trans hn (wakes_toks hw)) h⟩
theorem any_toks {α : Type} {M : Model} {A : Around} {t : Sem α} {Q : α → Shared → Prop} {E : Value → Shared → Prop} {s : Shared} (h : wpAny M A t Q E s) :
    wpAny M A t (fun a s' => Q a s' ∧ s.toks ≤ s'.toks) (fun e s' => E e s' ∧ s.toks ≤ s'.toks) s :=
  fun Γ p hΓ => wp_toks s.toks t (Nat.le_refl _) (h Γ p hΓ)
/-- a tree's walk may be told that tokens only grow -/
theorem with_toks {α : Type} {M : Model} {A : Around} {t : Sem α} {Q : α → Shared → Prop} {E : Value → Shared → Prop} {s : Shared} (h : wpAny M A t (fun a s' => s.toks ≤ s'.toks → Q a s') E s) : wpAny M A t Q E s :=
  wpAny_mono (any_toks h) (fun _ _ x => x.1 x.2) fun _ _ x => x.1
end

section
theorem calm_M2b : True := by
  w_top off
  exact trivial
open PySem.Float64

/-- how far a colour's part has fallen, in 1024ths -/
noncomputable def fall (k c : Int) : Int := min (max (min ((6 * k - c).fmod 6144) (6144 - (6 * k - c).fmod 6144) - 1024) 0) 1024
noncomputable def part (k sh va c : Int) : Int := va * (4096 - sh * fall k c)

theorem fall_emod (k c : Int) : fall k c = min (max (min ((6 * k - c) % 6144) (6144 - (6 * k - c) % 6144) - 1024) 0) 1024 := by
  unfold fall; rw [Int.fmod_eq_emod_of_nonneg _ (by decide)]
theorem fall_range (k c : Int) : 0 ≤ fall k c ∧ fall k c ≤ 1024 := by unfold fall; omega
theorem fall_at {k c m : Int} (j : Int) (e : 6 * k - c + 6144 * j = m) (h0 : 0 ≤ m) (h1 : m < 6144) : fall k c = min (max (min m (6144 - m) - 1024) 0) 1024 := by
  rw [fall_emod, ← Int.add_mul_emod_self_left _ 6144 j, e, Int.emod_eq_of_lt h0 h1]
theorem gz {x : Int} (h : x ≤ 1024) : min (max (x - 1024) 0) 1024 = 0 := by
  rw [Int.max_eq_right (show x - 1024 ≤ 0 by lia)]; rfl
theorem gr1 {x r : Int} (e : x - 1024 = r) (h0 : 0 ≤ r) (h : r ≤ 1024) : min (max (x - 1024) 0) 1024 = r := by
  rw [e, Int.max_eq_left h0, Int.min_eq_left h]
theorem g0 {m : Int} (h : m ≤ 1024 ∨ 5120 ≤ m) : min (max (min m (6144 - m) - 1024) 0) 1024 = 0 :=
  gz (h.elim (Int.le_trans (Int.min_le_left ..)) fun h => Int.le_trans (Int.min_le_right ..) (by lia))
theorem g1 {r : Int} (h0 : 0 ≤ r) (h : r ≤ 1024) : min (max (min (1024 + r) (6144 - (1024 + r)) - 1024) 0) 1024 = r := by
  rw [Int.min_eq_left (show 1024 + r ≤ 6144 - (1024 + r) by lia)]; exact gr1 (by lia) h0 h
theorem g2 {m : Int} (h0 : 2048 ≤ m) (h : m ≤ 4096) : min (max (min m (6144 - m) - 1024) 0) 1024 = 1024 :=
  Int.min_eq_right (Int.le_trans (Int.le_sub_right_of_add_le (Int.le_min.mpr ⟨h0, by lia⟩)) (Int.le_max_left ..))
theorem g3 {r : Int} (h0 : 0 ≤ r) (h : r ≤ 1024) : min (max (min (4096 + r) (6144 - (4096 + r)) - 1024) 0) 1024 = 1024 - r := by
  rw [Int.min_eq_right (show 6144 - (4096 + r) ≤ 4096 + r by lia)]; exact gr1 (by lia) (by lia) (by lia)
section
variable {k c r m : Int} (i j : Int) (h : 6 * k = 1024 * i + r) (r0 : 0 ≤ r) (r1 : r < 1024)
include h
theorem fall_m (e : 1024 * i - c + 6144 * j = m) : 6 * k - c + 6144 * j = m + r := by lia
include r0 r1
theorem fall_g0 (e : 1024 * i - c + 6144 * j = 0) : fall k c = 0 := by
  rw [fall_at j (fall_m i j h e) (by lia) (by lia)]; exact g0 (.inl (by lia))
theorem fall_g5 (e : 1024 * i - c + 6144 * j = 5120) : fall k c = 0 := by
  rw [fall_at j (fall_m i j h e) (by lia) (by lia)]; exact g0 (.inr (by lia))
theorem fall_g1 (e : 1024 * i - c + 6144 * j = 1024) : fall k c = r := by
  rw [fall_at j (fall_m i j h e) (by lia) (by lia)]; exact g1 r0 (Int.le_of_lt r1)
theorem fall_g2 (e : 1024 * i - c + 6144 * j = 2048) : fall k c = 1024 := by
  rw [fall_at j (fall_m i j h e) (by lia) (by lia)]; exact g2 (by lia) (by lia)
theorem fall_g4 (e : 1024 * i - c + 6144 * j = 3072) : fall k c = 1024 := by
  rw [fall_at j (fall_m i j h e) (by lia) (by lia)]; exact g2 (by lia) (by lia)
theorem fall_g3 (e : 1024 * i - c + 6144 * j = 4096) : fall k c = 1024 - r := by
  rw [fall_at j (fall_m i j h e) (by lia) (by lia)]; exact g3 r0 (Int.le_of_lt r1)
end
theorem six : ∀ n : Nat, n < 6 → n = 0 ∨ n = 1 ∨ n = 2 ∨ n = 3 ∨ n = 4 ∨ n = 5 := by decide
theorem falls (k : Int) (h : 0 ≤ k ∧ k < 1024) : ∃ r, 0 ≤ r ∧ r < 1024 ∧
    ((6 * k = r ∧ fall k 0 = 0 ∧ fall k 2048 = 1024 - r ∧ fall k 4096 = 1024) ∨ (6 * k = 1024 + r ∧ fall k 0 = r ∧ fall k 2048 = 0 ∧ fall k 4096 = 1024) ∨
     (6 * k = 2048 + r ∧ fall k 0 = 1024 ∧ fall k 2048 = 0 ∧ fall k 4096 = 1024 - r) ∨ (6 * k = 3072 + r ∧ fall k 0 = 1024 ∧ fall k 2048 = r ∧ fall k 4096 = 0) ∨
     (6 * k = 4096 + r ∧ fall k 0 = 1024 - r ∧ fall k 2048 = 1024 ∧ fall k 4096 = 0) ∨ (6 * k = 5120 + r ∧ fall k 0 = 0 ∧ fall k 2048 = 1024 ∧ fall k 4096 = r)) := by
  have key : ∃ (i : Nat) (r : Int), 0 ≤ r ∧ r < 1024 ∧ 6 * k = 1024 * (i : Int) + r ∧ i < 6 := ⟨(6 * k / 1024).toNat, 6 * k % 1024, by omega⟩
  obtain ⟨i, r, r0, r1, e, hi⟩ := key
  refine ⟨r, r0, r1, ?_⟩
  rcases six i hi with rfl | rfl | rfl | rfl | rfl | rfl
  · exact .inl ⟨e.trans (Int.zero_add r), fall_g0 0 0 e r0 r1 rfl, fall_g3 0 1 e r0 r1 rfl, fall_g2 0 1 e r0 r1 rfl⟩
  · exact .inr (.inl ⟨e, fall_g1 1 0 e r0 r1 rfl, fall_g5 1 1 e r0 r1 rfl, fall_g4 1 1 e r0 r1 rfl⟩)
  · exact .inr (.inr (.inl ⟨e, fall_g2 2 0 e r0 r1 rfl, fall_g0 2 0 e r0 r1 rfl, fall_g3 2 1 e r0 r1 rfl⟩))
  · exact .inr (.inr (.inr (.inl ⟨e, fall_g4 3 0 e r0 r1 rfl, fall_g1 3 0 e r0 r1 rfl, fall_g5 3 1 e r0 r1 rfl⟩)))
  · exact .inr (.inr (.inr (.inr (.inl ⟨e, fall_g3 4 0 e r0 r1 rfl, fall_g2 4 0 e r0 r1 rfl, fall_g0 4 0 e r0 r1 rfl⟩))))
  · exact .inr (.inr (.inr (.inr (.inr ⟨e, fall_g5 5 0 e r0 r1 rfl, fall_g4 5 0 e r0 r1 rfl, fall_g1 5 0 e r0 r1 rfl⟩))))
theorem part_eq (k sh va c : Int) : part k sh va c = va * 4096 - va * sh * fall k c := by
  unfold part; rw [Int.mul_sub, Int.mul_assoc]
theorem prod_le {a b A B : Int} (ha : 0 ≤ a) (hb : 0 ≤ b) (h1 : a ≤ A) (h2 : b ≤ B) : 0 ≤ a * b ∧ a * b ≤ A * B :=
  ⟨Int.mul_nonneg ha hb, Int.mul_le_mul h1 h2 hb (by lia)⟩
theorem vs_range {sh va : Int} (b1 : 1 ≤ sh ∧ sh ≤ 4) (b2 : 1 ≤ va ∧ va ≤ 4) : 1 ≤ va * sh ∧ va * sh ≤ 16 := by
  refine ⟨?_, (prod_le (by lia) (by lia) b2.2 b1.2).2⟩
  have := Int.mul_pos (show 0 < va by lia) (show 0 < sh by lia)
  lia
theorem part_range {k sh va : Int} (c : Int) (b1 : 1 ≤ sh ∧ sh ≤ 4) (b2 : 1 ≤ va ∧ va ≤ 4) : 0 ≤ part k sh va c ∧ part k sh va c ≤ va * 4096 ∧ part k sh va c ≤ 16384 := by
  rw [part_eq]
  have h1 := vs_range b1 b2
  have h2 := fall_range k c
  have h3 : va * sh * fall k c ≤ va * sh * 1024 := Int.mul_le_mul_of_nonneg_left h2.2 (by lia)
  have h4 : 0 ≤ va * sh * fall k c := Int.mul_nonneg (by lia) h2.1
  have h5 : va * sh ≤ va * 4 := Int.mul_le_mul_of_nonneg_left b1.2 (by lia)
  lia
theorem part_full {k sh va c : Int} (b1 : 1 ≤ sh ∧ sh ≤ 4) (b2 : 1 ≤ va ∧ va ≤ 4) (h : part k sh va c = va * 4096) : fall k c = 0 := by
  rw [part_eq] at h
  have h1 := vs_range b1 b2
  have h0 : va * sh * fall k c = 0 := by lia
  rcases Int.mul_eq_zero.mp h0 with h | h
  · lia
  · exact h
theorem min3_of {a b c p : Int} (h : a = p ∨ b = p ∨ c = p) (ha : p ≤ a) (hb : p ≤ b) (hc : p ≤ c) : min (min a b) c = p := by
  rcases h with h | h | h <;> subst h
  · rw [Int.min_eq_left hb, Int.min_eq_left hc]
  · rw [Int.min_eq_right ha, Int.min_eq_left hc]
  · exact Int.min_eq_right (Int.le_min.mpr ⟨ha, hb⟩)
theorem max3_of {a b c p : Int} (h : a = p ∨ b = p ∨ c = p) (ha : a ≤ p) (hb : b ≤ p) (hc : c ≤ p) : max (max a b) c = p := by
  rcases h with h | h | h <;> subst h
  · rw [Int.max_eq_left hb, Int.max_eq_left hc]
  · rw [Int.max_eq_right ha, Int.max_eq_left hc]
  · exact Int.max_eq_right (Int.max_le.mpr ⟨ha, hb⟩)
theorem part_ends {k sh va : Int} (b0 : 0 ≤ k ∧ k < 1024) (b1 : 1 ≤ sh ∧ sh ≤ 4) (b2 : 1 ≤ va ∧ va ≤ 4) :
    max (max (part k sh va 0) (part k sh va 2048)) (part k sh va 4096) = va * 4096 ∧ min (min (part k sh va 0) (part k sh va 2048)) (part k sh va 4096) = va * 4096 - va * sh * 1024 := by
  have h1 := vs_range b1 b2
  have key : ∀ c, part k sh va c ≤ va * 4096 ∧ va * 4096 - va * sh * 1024 ≤ part k sh va c := fun c => by
    refine ⟨(part_range c b1 b2).2.1, ?_⟩
    rw [part_eq]
    have h3 : va * sh * fall k c ≤ va * sh * 1024 := Int.mul_le_mul_of_nonneg_left (fall_range k c).2 (by lia)
    lia
  have k0 := key 0
  have k1 := key 2048
  have k2 := key 4096
  have e0 : ∀ c, fall k c = 0 → part k sh va c = va * 4096 := fun c h => by rw [part_eq, h]; lia
  have e1 : ∀ c, fall k c = 1024 → part k sh va c = va * 4096 - va * sh * 1024 := fun c h => by rw [part_eq, h]
  obtain ⟨r, _, _, h⟩ := falls k b0
  rcases h with ⟨_, f0, f1, f2⟩ | ⟨_, f0, f1, f2⟩ | ⟨_, f0, f1, f2⟩ | ⟨_, f0, f1, f2⟩ | ⟨_, f0, f1, f2⟩ | ⟨_, f0, f1, f2⟩
  · exact ⟨max3_of (.inl (e0 _ f0)) k0.1 k1.1 k2.1, min3_of (.inr (.inr (e1 _ f2))) k0.2 k1.2 k2.2⟩
  · exact ⟨max3_of (.inr (.inl (e0 _ f1))) k0.1 k1.1 k2.1, min3_of (.inr (.inr (e1 _ f2))) k0.2 k1.2 k2.2⟩
  · exact ⟨max3_of (.inr (.inl (e0 _ f1))) k0.1 k1.1 k2.1, min3_of (.inl (e1 _ f0)) k0.2 k1.2 k2.2⟩
  · exact ⟨max3_of (.inr (.inr (e0 _ f2))) k0.1 k1.1 k2.1, min3_of (.inl (e1 _ f0)) k0.2 k1.2 k2.2⟩
  · exact ⟨max3_of (.inr (.inr (e0 _ f2))) k0.1 k1.1 k2.1, min3_of (.inr (.inl (e1 _ f1))) k0.2 k1.2 k2.2⟩
  · exact ⟨max3_of (.inl (e0 _ f0)) k0.1 k1.1 k2.1, min3_of (.inr (.inl (e1 _ f1))) k0.2 k1.2 k2.2⟩

noncomputable abbrev f6 : UInt64 := 4618441417868443648
noncomputable abbrev f2' : UInt64 := 4611686018427387904
noncomputable abbrev f4' : UInt64 := 4616189618054758400
theorem lit_ex {x : UInt64} {n : Int} {e t : Nat} (ht : t < infMag) (hx : x = pack (decide (n < 0)) t) {k q : Nat} (hk : t = k * 2 ^ 52 + q) (hq : q < 2 ^ 53) (hq2 : 2 ^ 52 ≤ q) (hj : ∃ j, q = n.natAbs * 2 ^ j ∧ j + k + e = 1074) : Ex x n e := by
  refine ⟨t, ht, hx, ?_⟩
  obtain ⟨j, h1, h2⟩ := hj
  rw [hk, V_at (by lia) (.inl hq2), h1, Nat.mul_assoc, Nat.mul_assoc, ← Nat.pow_add, ← Nat.pow_add, ← h2]
  congr 2
  lia
theorem f6_ex : Ex f6 6 0 := lit_ex (t := 4618441417868443648) (k := 1024) (q := 6755399441055744) (by decide) (by decide +kernel) (by decide) (by decide) (by decide) ⟨50, by decide, by decide⟩
theorem f2_ex : Ex f2' 2 0 := lit_ex (t := 4611686018427387904) (k := 1023) (q := 4503599627370496) (by decide) (by decide +kernel) (by decide) (by decide) (by decide) ⟨51, by decide, by decide⟩
theorem f4_ex : Ex f4' 4 0 := lit_ex (t := 4616189618054758400) (k := 1024) (q := 4503599627370496) (by decide) (by decide +kernel) (by decide) (by decide) (by decide) ⟨50, by decide, by decide⟩
theorem f0_ex (e : Nat) : Ex 0 0 e := ⟨0, by decide, by decide +kernel, by rw [V_zero]; simp⟩
theorem ex_up {x : UInt64} {n : Int} {e : Nat} (h : Ex x n e) (f k : Nat) (m : Int) (hf : e + k = f) (hm : n * 2 ^ k = m) : Ex x m f := hf ▸ hm ▸ ex_scale h k

theorem h2r_all {h s' v : UInt64} {k sh va : Int} (b0 : 0 ≤ k ∧ k < 1024) (b1 : 1 ≤ sh ∧ sh ≤ 4) (b2 : 1 ≤ va ∧ va ≤ 4) (hh : Ex h k 10) (hs : Ex s' sh 2) (hv : Ex v va 2) :
    Ex (mul h f6) (6 * k) 10 ∧ Flt.toInt truncOf (mul h f6) = 6 * k / 1024 ∧ Ex v (va * 4096) 14 ∧ Ex (mul v (sub f1 s')) (va * 4096 - va * sh * 1024) 14 ∧
    Ex (mul v (sub f1 (mul s' (sub (mul h f6) (ofInt (Flt.toInt truncOf (mul h f6))))))) (va * 4096 - va * sh * (6 * k - 1024 * (6 * k / 1024))) 14 ∧
    Ex (mul v (sub f1 (mul s' (sub f1 (sub (mul h f6) (ofInt (Flt.toInt truncOf (mul h f6)))))))) (va * 4096 - va * sh * (1024 - (6 * k - 1024 * (6 * k / 1024)))) 14 := by
  have hH : Ex (mul h f6) (6 * k) 10 := by
    have := mul_ex hh f6_ex (by lia) (by decide) (rep_of (by lia) (by decide))
    rw [Int.mul_comm k 6] at this
    exact this
  have hT : Flt.toInt truncOf (mul h f6) = 6 * k / 1024 := by
    rw [trunc_ex hH (by lia)]; rfl
  refine ⟨hH, hT, ex_up hv 14 12 _ rfl rfl, ?_, ?_, ?_⟩
  · have h1 := sub_ex (f1_ex 2) hs (rep_of (by lia) (by decide))
    have hr := prod_le (a := va) (b := 4 - sh) (A := 4) (B := 3) (by lia) (by lia) (by lia) (by lia)
    have h2 := mul_ex hv h1 (by lia) (by lia) (rep_of (by show (va * (4 - sh)).natAbs < _; lia) (by decide))
    refine ex_up h2 14 10 _ rfl ?_
    show va * (4 - sh) * 1024 = _
    rw [Int.mul_sub, Int.sub_mul]; lia
  all_goals (
    have hi : Ex (ofInt (6 * k / 1024)) (1024 * (6 * k / 1024)) 10 := ex_up (int_ex (by lia)) 10 10 _ rfl (by rw [Int.mul_comm]; rfl)
    have hf := sub_ex hH hi (rep_of (by lia) (by decide))
    rw [hT]
    have hr : 0 ≤ 6 * k - 1024 * (6 * k / 1024) ∧ 6 * k - 1024 * (6 * k / 1024) < 1024 := by lia
    generalize 6 * k - 1024 * (6 * k / 1024) = r at *)
  · have hp := prod_le (a := sh) (b := r) (A := 4) (B := 1024) (by lia) (by lia) (by lia) (by lia)
    have h1 := mul_ex hs hf (by lia) (by lia) (rep_of (by lia) (by decide))
    have h2 := sub_ex (f1_ex 12) h1 (rep_of (by show (4096 - sh * r).natAbs < _; lia) (by decide))
    have hq := prod_le (a := va) (b := 4096 - sh * r) (A := 4) (B := 4096) (by lia) (by lia) (by lia) (by lia)
    have h3 := mul_ex hv h2 (by lia) (by show 0 ≤ 4096 - sh * r; lia) (rep_of (by show (va * (4096 - sh * r)).natAbs < _; lia) (by decide))
    have e : va * (4096 - sh * r) = va * 4096 - va * sh * r := by rw [Int.mul_sub, Int.mul_assoc]
    rw [← e]; exact h3
  · have h0 := sub_ex (f1_ex 10) hf (rep_of (by show (1024 - r).natAbs < _; lia) (by decide))
    have hp := prod_le (a := sh) (b := 1024 - r) (A := 4) (B := 1024) (by lia) (by lia) (by lia) (by lia)
    have h1 := mul_ex hs h0 (by lia) (by show 0 ≤ 1024 - r; lia) (rep_of (by show (sh * (1024 - r)).natAbs < _; lia) (by decide))
    have h2 := sub_ex (f1_ex 12) h1 (rep_of (by show (4096 - sh * (1024 - r)).natAbs < _; lia) (by decide))
    have hq := prod_le (a := va) (b := 4096 - sh * (1024 - r)) (A := 4) (B := 4096) (by lia) (by lia) (by lia) (by lia)
    have h3 := mul_ex hv h2 (by lia) (by show 0 ≤ 4096 - sh * (1024 - r); lia) (rep_of (by show (va * (4096 - sh * (1024 - r))).natAbs < _; lia) (by decide))
    have e : va * (4096 - sh * (1024 - r)) = va * 4096 - va * sh * (1024 - r) := by rw [Int.mul_sub, Int.mul_assoc]
    rw [← e]; exact h3
theorem div_of {k i r : Int} (g : 6 * k = 1024 * i + r) (r0 : 0 ≤ r) (r1 : r < 1024) : 6 * k / 1024 = i := by lia
theorem no6 {a b : Int} {P : Prop} (h : decide (a = b) = false) : a = b → P := fun e => absurd e (of_decide_eq_false h)
theorem six_of {c : Int} {P0 P1 P2 P3 P4 P5 : Prop} (h : (c = 0 ∧ P0) ∨ (c = 1 ∧ P1) ∨ (c = 2 ∧ P2) ∨ (c = 3 ∧ P3) ∨ (c = 4 ∧ P4) ∨ (c = 5 ∧ P5)) :
    0 ≤ c ∧ c ≤ 5 ∧ (c = 0 → P0) ∧ (c = 1 → P1) ∧ (c = 2 → P2) ∧ (c = 3 → P3) ∧ (c = 4 → P4) ∧ (c = 5 → P5) := by
  rcases h with ⟨rfl, h⟩ | ⟨rfl, h⟩ | ⟨rfl, h⟩ | ⟨rfl, h⟩ | ⟨rfl, h⟩ | ⟨rfl, h⟩
  · exact ⟨by decide, by decide, fun _ => h, no6 rfl, no6 rfl, no6 rfl, no6 rfl, no6 rfl⟩
  · exact ⟨by decide, by decide, no6 rfl, fun _ => h, no6 rfl, no6 rfl, no6 rfl, no6 rfl⟩
  · exact ⟨by decide, by decide, no6 rfl, no6 rfl, fun _ => h, no6 rfl, no6 rfl, no6 rfl⟩
  · exact ⟨by decide, by decide, no6 rfl, no6 rfl, no6 rfl, fun _ => h, no6 rfl, no6 rfl⟩
  · exact ⟨by decide, by decide, no6 rfl, no6 rfl, no6 rfl, no6 rfl, fun _ => h, no6 rfl⟩
  · exact ⟨by decide, by decide, no6 rfl, no6 rfl, no6 rfl, no6 rfl, no6 rfl, fun _ => h⟩
/-- the six sectors of hsv_to_rgb -/
theorem h2r_sec {h s' v : UInt64} {k sh va c : Int} (b0 : 0 ≤ k ∧ k < 1024) (b1 : 1 ≤ sh ∧ sh ≤ 4) (b2 : 1 ≤ va ∧ va ≤ 4) (hh : Ex h k 10) (hs : Ex s' sh 2) (hv : Ex v va 2) (hc : (Flt.toInt truncOf (mul h f6)).fmod 6 = c) :
    0 ≤ c ∧ c ≤ 5 ∧
    (c = 0 → Ex v (part k sh va 0) 14 ∧ Ex (mul v (sub f1 (mul s' (sub f1 (sub (mul h f6) (ofInt (Flt.toInt truncOf (mul h f6)))))))) (part k sh va 2048) 14 ∧ Ex (mul v (sub f1 s')) (part k sh va 4096) 14) ∧
    (c = 1 → Ex (mul v (sub f1 (mul s' (sub (mul h f6) (ofInt (Flt.toInt truncOf (mul h f6))))))) (part k sh va 0) 14 ∧ Ex v (part k sh va 2048) 14 ∧ Ex (mul v (sub f1 s')) (part k sh va 4096) 14) ∧
    (c = 2 → Ex (mul v (sub f1 s')) (part k sh va 0) 14 ∧ Ex v (part k sh va 2048) 14 ∧ Ex (mul v (sub f1 (mul s' (sub f1 (sub (mul h f6) (ofInt (Flt.toInt truncOf (mul h f6)))))))) (part k sh va 4096) 14) ∧
    (c = 3 → Ex (mul v (sub f1 s')) (part k sh va 0) 14 ∧ Ex (mul v (sub f1 (mul s' (sub (mul h f6) (ofInt (Flt.toInt truncOf (mul h f6))))))) (part k sh va 2048) 14 ∧ Ex v (part k sh va 4096) 14) ∧
    (c = 4 → Ex (mul v (sub f1 (mul s' (sub f1 (sub (mul h f6) (ofInt (Flt.toInt truncOf (mul h f6)))))))) (part k sh va 0) 14 ∧ Ex (mul v (sub f1 s')) (part k sh va 2048) 14 ∧ Ex v (part k sh va 4096) 14) ∧
    (c = 5 → Ex v (part k sh va 0) 14 ∧ Ex (mul v (sub f1 s')) (part k sh va 2048) 14 ∧ Ex (mul v (sub f1 (mul s' (sub (mul h f6) (ofInt (Flt.toInt truncOf (mul h f6))))))) (part k sh va 4096) 14) := by
  obtain ⟨_, hT, e1, e2, e3, e4⟩ := h2r_all b0 b1 b2 hh hs hv
  rw [hT, Int.fmod_eq_emod_of_nonneg _ (by decide)] at hc
  obtain ⟨r, r0, r1, hf⟩ := falls k b0
  have A : ∀ {x : UInt64} {d v : Int}, fall k d = v → Ex x (va * 4096 - va * sh * v) 14 → Ex x (part k sh va d) 14 := fun e h => by rw [part_eq, e]; exact h
  have z : ∀ {d : Int}, fall k d = 0 → Ex v (part k sh va d) 14 := fun e => A e (by rw [Int.mul_zero, Int.sub_zero]; exact e1)
  have key : ∀ i : Int, 6 * k = 1024 * i + r → i % 6 = i → c = i ∧ 6 * k - 1024 * (6 * k / 1024) = r := fun i g gi => by
    have q := div_of g r0 r1
    rw [q] at hc ⊢
    exact ⟨hc.symm.trans gi, by lia⟩
  have e3' : 6 * k - 1024 * (6 * k / 1024) = r → Ex _ (va * 4096 - va * sh * r) 14 := fun e => e ▸ e3
  have e4' : 6 * k - 1024 * (6 * k / 1024) = r → Ex _ (va * 4096 - va * sh * (1024 - r)) 14 := fun e => e ▸ e4
  rcases hf with ⟨g, f0, f1', f2⟩ | ⟨g, f0, f1', f2⟩ | ⟨g, f0, f1', f2⟩ | ⟨g, f0, f1', f2⟩ | ⟨g, f0, f1', f2⟩ | ⟨g, f0, f1', f2⟩ <;> apply six_of
  · have q := key 0 (g.trans (Int.zero_add r).symm) rfl
    exact .inl ⟨q.1, z f0, A f1' (e4' q.2), A f2 e2⟩
  · have q := key 1 g rfl
    exact .inr (.inl ⟨q.1, A f0 (e3' q.2), z f1', A f2 e2⟩)
  · have q := key 2 g rfl
    exact .inr (.inr (.inl ⟨q.1, A f0 e2, z f1', A f2 (e4' q.2)⟩))
  · have q := key 3 g rfl
    exact .inr (.inr (.inr (.inl ⟨q.1, A f0 e2, A f1' (e3' q.2), z f2⟩)))
  · have q := key 4 g rfl
    exact .inr (.inr (.inr (.inr (.inl ⟨q.1, A f0 (e4' q.2), A f1' e2, z f2⟩))))
  · have q := key 5 g rfl
    exact .inr (.inr (.inr (.inr (.inr ⟨q.1, z f0, A f1' e2, A f2 (e3' q.2)⟩))))

theorem r2h_num {r g b mx mn : UInt64} {k sh va : Int} (b0 : 0 ≤ k ∧ k < 1024) (b1 : 1 ≤ sh ∧ sh ≤ 4) (b2 : 1 ≤ va ∧ va ≤ 4) (hr : Ex r (part k sh va 0) 14) (hg : Ex g (part k sh va 2048) 14) (hb : Ex b (part k sh va 4096) 14)
    (hx : Ex mx (max (max (part k sh va 0) (part k sh va 2048)) (part k sh va 4096)) 14) (hn : Ex mn (min (min (part k sh va 0) (part k sh va 2048)) (part k sh va 4096)) 14) :
    isZero mx = false ∧ isZero (sub mx mn) = false ∧ Ex (div (sub mx mn) mx) sh 2 ∧ Ex mx va 2 ∧
    Ex (div (sub mx r) (sub mx mn)) (fall k 0) 10 ∧ Ex (div (sub mx g) (sub mx mn)) (fall k 2048) 10 ∧ Ex (div (sub mx b) (sub mx mn)) (fall k 4096) 10 := by
  obtain ⟨p1, p2⟩ := part_ends (k := k) b0 b1 b2
  rw [p1] at hx
  rw [p2] at hn
  have h1 := vs_range b1 b2
  have hd := sub_ex hx hn (rep_of (by lia) (by decide))
  rw [show va * 4096 - (va * 4096 - va * sh * 1024) = va * sh * 1024 by lia] at hd
  have hq : ∀ {x : UInt64} (c : Int), Ex x (part k sh va c) 14 → Ex (div (sub mx x) (sub mx mn)) (fall k c) 10 := by
    intro x c he
    have hfr := fall_range k c
    have hpr := part_range (k := k) c b1 b2
    have hs := sub_ex hx he (rep_of (by lia) (by decide))
    rw [part_eq, show va * 4096 - (va * 4096 - va * sh * fall k c) = va * sh * fall k c by lia] at hs
    refine div_ex hs hd (by lia) ?_ (rep_of (by lia) (by decide))
    show fall k c * (va * sh * 1024) * 16384 = va * sh * fall k c * 16384 * 1024
    rw [Int.mul_comm (fall k c), Int.mul_assoc (va * sh), Int.mul_comm 1024, ← Int.mul_assoc]
    lia
  refine ⟨?_, ?_, ?_, ex_as hx ?_, hq 0 hr, hq 2048 hg, hq 4096 hb⟩
  · rw [is_zero hx, decide_eq_false (by lia)]
  · rw [is_zero hd, decide_eq_false (by lia)]
  · refine div_ex hd hx (by lia) ?_ (rep_of (by lia) (by decide))
    show sh * (va * 4096) * 16384 = va * sh * 1024 * 16384 * 4
    rw [← Int.mul_assoc, Int.mul_comm sh va]; lia
  · show va * 4096 * 4 = va * 16384; lia
/-- the hue that comes back -/
theorem hue_back {x : UInt64} {k n : Int} (b0 : 0 ≤ k ∧ k < 1024) (hx : Ex x n 10) (hn : n = 6 * k ∨ (n = 6 * (k - 1024) ∧ 0 < k)) : Ex (divmod (div x f6) f1).2 k 10 := by
  have h1 : ∀ j : Int, n = 6 * j → -1024 ≤ j → j < 1024 → Ex (div x f6) j 10 := fun j hj j0 j1 =>
    div_ex hx f6_ex (by decide) (by show j * 6 * 1024 = n * 1 * 1024; lia) (rep_of (by lia) (by decide))
  rcases hn with h | h
  · have h2 := h1 k h (by lia) (by lia)
    have e : k % 2 ^ 10 = k := Int.emod_eq_of_lt b0.1 b0.2
    have := mod_one_ex h2 (by show -1024 < k; lia) (by show k < 1024; lia) (rep_of (by lia) (by decide)) (rep_of (by rw [e]; lia) (by decide))
    rw [e] at this
    exact this
  · have h2 := h1 (k - 1024) h.1 (by lia) (by lia)
    have e : (k - 1024) % 2 ^ 10 = k := by show (k - 1024) % 1024 = k; lia
    have := mod_one_ex h2 (by show -1024 < k - 1024; lia) (by show k - 1024 < 1024; lia) (rep_of (by lia) (by decide)) (rep_of (by rw [e]; lia) (by decide))
    rw [e] at this
    exact this
/-- the three ways of rgb_to_hsv's hue -/
theorem hue_n {k a b o : Int} (h : fall k o = 0) (p : o = 0 ∧ a = 4096 ∧ b = 2048 ∨ o = 2048 ∧ a = 0 ∧ b = 4096 ∨ o = 4096 ∧ a = 2048 ∧ b = 0) (b0 : 0 ≤ k ∧ k < 1024) :
    o + (fall k a - fall k b) = 6 * k ∨ (o + (fall k a - fall k b) = 6 * (k - 1024) ∧ 0 < k) := by
  obtain ⟨r, r0, r1, hf⟩ := falls k b0
  rcases p with ⟨rfl, rfl, rfl⟩ | ⟨rfl, rfl, rfl⟩ | ⟨rfl, rfl, rfl⟩ <;>
  rcases hf with ⟨g, f0, f1, f2⟩ | ⟨g, f0, f1, f2⟩ | ⟨g, f0, f1, f2⟩ | ⟨g, f0, f1, f2⟩ | ⟨g, f0, f1, f2⟩ | ⟨g, f0, f1, f2⟩ <;>
  first
  | exact absurd (f0.symm.trans h) (by decide)
  | exact absurd (f1.symm.trans h) (by decide)
  | exact absurd (f2.symm.trans h) (by decide)
  | (rw [f0, f1]; first | (left; lia) | (right; lia) | (exfalso; lia))
  | (rw [f0, f2]; first | (left; lia) | (right; lia) | (exfalso; lia))
  | (rw [f1, f2]; first | (left; lia) | (right; lia) | (exfalso; lia))
  | (rw [f1, f0]; first | (left; lia) | (right; lia) | (exfalso; lia))
  | (rw [f2, f0]; first | (left; lia) | (right; lia) | (exfalso; lia))
  | (rw [f2, f1]; first | (left; lia) | (right; lia) | (exfalso; lia))
theorem hue_r {x y : UInt64} {k : Int} (b0 : 0 ≤ k ∧ k < 1024) (hx : Ex x (fall k 4096) 10) (hy : Ex y (fall k 2048) 10) (h : fall k 0 = 0) : Ex (divmod (div (sub x y) f6) f1).2 k 10 := by
  refine hue_back b0 (sub_ex hx hy (rep_of (by have := fall_range k 4096; have := fall_range k 2048; omega) (by decide))) ?_
  have := hue_n h (.inl ⟨rfl, rfl, rfl⟩) b0
  rw [Int.zero_add] at this; exact this
theorem hue_g {x y : UInt64} {k : Int} (b0 : 0 ≤ k ∧ k < 1024) (hx : Ex x (fall k 0) 10) (hy : Ex y (fall k 4096) 10) (h : fall k 2048 = 0) : Ex (divmod (div (sub (add f2' x) y) f6) f1).2 k 10 := by
  have h1 := fall_range k 4096
  have h2 := fall_range k 0
  have e2 : Ex f2' 2048 10 := ex_up f2_ex 10 10 _ rfl rfl
  refine hue_back b0 (sub_ex (add_ex e2 hx (rep_of (by omega) (by decide))) hy (rep_of (by omega) (by decide))) ?_
  rw [Int.add_sub_assoc]
  exact hue_n h (.inr (.inl ⟨rfl, rfl, rfl⟩)) b0
theorem hue_b {x y : UInt64} {k : Int} (b0 : 0 ≤ k ∧ k < 1024) (hx : Ex x (fall k 2048) 10) (hy : Ex y (fall k 0) 10) (h : fall k 4096 = 0) : Ex (divmod (div (sub (add f4' x) y) f6) f1).2 k 10 := by
  have h1 := fall_range k 2048
  have h2 := fall_range k 0
  have e2 : Ex f4' 4096 10 := ex_up f4_ex 10 10 _ rfl rfl
  refine hue_back b0 (sub_ex (add_ex e2 hx (rep_of (by omega) (by decide))) hy (rep_of (by omega) (by decide))) ?_
  rw [Int.add_sub_assoc]
  exact hue_n h (.inr (.inr ⟨rfl, rfl, rfl⟩)) b0
end

end Mine
end

section
namespace Mine
/-- a triple of paints as one number -/
noncomputable def cd3 (a : Nat) : Nat × Nat × Nat := (a / 9, a / 3 % 3, a % 3)
noncomputable def covers (l : List Nat) : Bool :=
  (List.range 3).all fun v => l.any (fun a => (cd3 a).1 == v) && l.any (fun a => (cd3 a).2.1 == v) && l.any (fun a => (cd3 a).2.2 == v)
noncomputable def away (a o : Nat) : Bool := (cd3 a).1 != (cd3 o).1 && (cd3 a).2.1 != (cd3 o).2.1 && (cd3 a).2.2 != (cd3 o).2.2
noncomputable def evens (l : List Nat) : Bool :=
  (List.range 27).all fun o => (l.filter fun a => away a o).length % 2 == 0
/-- the triples away from a, as the bits of one number -/
noncomputable def aways : Nat := 291432573108289197399487556293014006894186509444839726023965109786296740949786549335964785890463708931596857922678509236263338531833604350218515629292862647084553596945384932710989553959715918914544091766462053834752
noncomputable def vec (a : Nat) : Nat := aways / 2 ^ (27 * a) % 2 ^ 27
noncomputable def xr (l : List Nat) : Nat := l.foldr (fun a x => vec a ^^^ x) 0
theorem vec_bits : ((List.range 27).all fun a => (List.range 27).all fun o => (vec a).testBit o == away a o) = true := by decide +kernel
theorem vec_bit {a o : Nat} (ha : a < 27) (ho : o < 27) : (vec a).testBit o = away a o :=
  beq_iff_eq.mp (List.all_eq_true.mp (List.all_eq_true.mp vec_bits a (List.mem_range.mpr ha)) o (List.mem_range.mpr ho))
theorem xr_bit {o : Nat} (ho : o < 27) : ∀ {l : List Nat}, (∀ a ∈ l, a < 27) → (xr l).testBit o = decide ((l.filter fun a => away a o).length % 2 = 1)
  | [], _ => by simp [xr]
  | a :: l, h => by
    show (vec a ^^^ xr l).testBit o = _
    rw [Nat.testBit_xor, vec_bit (h a (.head _)) ho, xr_bit ho (fun b hb => h b (.tail _ hb)), List.filter_cons]
    cases away a o with
    | false => simp
    | true =>
      rw [if_pos rfl, List.length_cons]
      rcases Nat.mod_two_eq_zero_or_one (l.filter fun a => away a o).length with e | e
      · rw [Nat.add_mod, e]; rfl
      · rw [Nat.add_mod, e]; rfl
theorem xr_lt : ∀ l : List Nat, xr l < 2 ^ 27
  | [] => by decide
  | a :: l => Nat.xor_lt_two_pow (Nat.mod_lt _ (by decide)) (xr_lt l)
theorem xr_zero {l : List Nat} (h : ∀ a ∈ l, a < 27) (e : evens l = true) : xr l = 0 := by
  refine Nat.eq_of_testBit_eq fun o => ?_
  rw [Nat.zero_testBit]
  by_cases ho : o < 27
  · rw [xr_bit ho h, beq_iff_eq.mp (List.all_eq_true.mp e o (List.mem_range.mpr ho))]; rfl
  · exact Nat.testBit_lt_two_pow (Nat.lt_of_lt_of_le (xr_lt l) (Nat.pow_le_pow_right (by decide) (Nat.not_lt.mp ho)))
noncomputable def few (l : List Nat) : Bool := xr l == 0 && covers l
theorem few_of {l : List Nat} (h : ∀ a ∈ l, a < 27) (e : evens l = true) (c : covers l = true) : few l = true := by
  unfold few; rw [xr_zero h e, c]; rfl
theorem few3 : ((List.range 27).all fun a => (List.range a).all fun b => (List.range b).all fun c => !few [a, b, c]) = true := by decide +kernel
theorem few4 : ((List.range 27).all fun a => (List.range a).all fun b => (List.range b).all fun c => (List.range c).all fun d => !few [a, b, c, d]) = true := by decide +kernel
end Mine
end

section
set_option maxHeartbeats 4000000
namespace Mine
/-- the hue l lies less than half a turn on from the hue k -/
noncomputable def On (k l : Int) : Prop := 0 < (l - k) % 1024 ∧ (l - k) % 1024 < 512
noncomputable def cr (k l : Int) : Int := (fall k 2048 - fall k 0) * (fall l 4096 - fall l 2048) - (fall k 4096 - fall k 2048) * (fall l 2048 - fall l 0)
noncomputable def sg (e : Bool) (x : Int) : Int := if e then -x else x
noncomputable def half (e : Bool) : Int := if e then 3072 else 0
/-- a point of the half hexagon -/
noncomputable def Pt (t U V : Int) : Prop := (0 ≤ t ∧ t < 1024 ∧ U = 1024 - t ∧ V = t) ∨ (1024 ≤ t ∧ t < 2048 ∧ U = 1024 - t ∧ V = 1024) ∨ (2048 ≤ t ∧ t < 3072 ∧ U = -1024 ∧ V = 3072 - t)
theorem sub_of {x y a b c : Int} (h1 : x = a) (h2 : y = b) (h : a - b = c) : x - y = c := by rw [h1, h2, h]
theorem pt1 {r : Int} (r0 : 0 ≤ r) (r1 : r < 1024) : Pt r (1024 - r) r := .inl ⟨r0, r1, rfl, rfl⟩
theorem pt2 {r : Int} (r0 : 0 ≤ r) (r1 : r < 1024) : Pt (1024 + r) (-r) 1024 := .inr (.inl ⟨by lia, by lia, by lia, rfl⟩)
theorem pt3 {r : Int} (r0 : 0 ≤ r) (r1 : r < 1024) : Pt (2048 + r) (-1024) (1024 - r) := .inr (.inr ⟨by lia, by lia, rfl, by lia⟩)
theorem q1 (r : Int) : 1024 - (1024 - r) = r := Int.sub_sub_self 1024 r
theorem q2 (r : Int) : r - 1024 = -(1024 - r) := (Int.neg_sub 1024 r).symm
theorem q3 (a r : Int) : 3072 + a + r = a + r + 3072 := by lia
theorem pt_of (k : Int) (h : 0 ≤ k ∧ k < 1024) : ∃ e t U V, Pt t U V ∧ 6 * k = t + half e ∧ fall k 2048 - fall k 0 = sg e U ∧ fall k 4096 - fall k 2048 = sg e V := by
  obtain ⟨r, r0, r1, h⟩ := falls k h
  rcases h with ⟨e, a, b, c⟩ | ⟨e, a, b, c⟩ | ⟨e, a, b, c⟩ | ⟨e, a, b, c⟩ | ⟨e, a, b, c⟩ | ⟨e, a, b, c⟩
  · exact ⟨false, _, _, _, pt1 r0 r1, e.trans (Int.add_zero _).symm, sub_of b a (Int.sub_zero _), sub_of c b (q1 r)⟩
  · exact ⟨false, _, _, _, pt2 r0 r1, e.trans (Int.add_zero _).symm, sub_of b a (Int.zero_sub r), sub_of c b rfl⟩
  · exact ⟨false, _, _, _, pt3 r0 r1, e.trans (Int.add_zero _).symm, sub_of b a rfl, sub_of c b (Int.sub_zero _)⟩
  · exact ⟨true, _, _, _, pt1 r0 r1, e.trans (Int.add_comm _ _), sub_of b a (q2 r), sub_of c b (Int.zero_sub r)⟩
  · exact ⟨true, _, _, _, pt2 r0 r1, e.trans (q3 1024 r), sub_of b a ((q1 r).trans (Int.neg_neg r).symm), sub_of c b rfl⟩
  · exact ⟨true, _, _, _, pt3 r0 r1, e.trans (q3 2048 r), sub_of b a rfl, sub_of c b (q2 r)⟩
theorem pt_pos {t U V t' U' V' : Int} (a : Pt t U V) (b : Pt t' U' V') (h : t < t') : 0 < U * V' - V * U' := by
  rcases a with ⟨a0, a1, rfl, a2⟩ | ⟨a0, a1, rfl, rfl⟩ | ⟨a0, a1, rfl, rfl⟩ <;> rcases b with ⟨b0, b1, rfl, b2⟩ | ⟨b0, b1, rfl, rfl⟩ | ⟨b0, b1, rfl, rfl⟩
  · subst a2 b2
    rw [Int.sub_mul, Int.mul_sub]; lia
  · subst a2
    have := Int.mul_nonneg a0 (show 0 ≤ t' - 1024 by lia)
    rw [Int.mul_sub] at this
    rw [Int.mul_sub]; lia
  · subst a2
    have := Int.mul_pos (show 0 < 1024 - V by lia) (show 0 < 3072 - t' by lia)
    lia
  · lia
  · lia
  · have := Int.mul_nonneg (show 0 ≤ t - 1024 by lia) (show 0 ≤ t' - 2048 by lia)
    rw [Int.sub_mul, Int.mul_sub] at this
    rw [Int.sub_mul, Int.mul_sub t]; lia
  · lia
  · lia
  · lia
theorem pt_sign {t U V t' U' V' : Int} (a : Pt t U V) (b : Pt t' U' V') : (0 < U * V' - V * U' ↔ t < t') ∧ (U * V' - V * U' < 0 ↔ t' < t) := by
  rcases Int.lt_trichotomy t t' with h | h | h
  · have := pt_pos a b h; omega
  · have e : U = U' ∧ V = V' := by
      subst h
      have no : ∀ {x y : Int}, t < x → y ≤ t → x ≤ y → U = U' ∧ V = V' := fun p q e => absurd (Int.lt_of_lt_of_le p (Int.le_trans e q)) (Int.lt_irrefl _)
      rcases a with ⟨_, x, u, v⟩ | ⟨x0, x, u, v⟩ | ⟨x0, _, u, v⟩ <;> rcases b with ⟨_, y, u', v'⟩ | ⟨y0, y, u', v'⟩ | ⟨y0, _, u', v'⟩ <;>
        first | exact ⟨u.trans u'.symm, v.trans v'.symm⟩ | exact no x y0 (by decide) | exact no y x0 (by decide)
    rw [e.1, e.2, Int.mul_comm U' V', Int.sub_self]; omega
  · have := pt_pos b a h
    rw [Int.mul_comm U V', Int.mul_comm V U']; omega
theorem on_t {k l t t' : Int} {e e' : Bool} (h : 6 * k = t + half e) (h' : 6 * l = t' + half e') (a : 0 ≤ t ∧ t < 3072) (b : 0 ≤ t' ∧ t' < 3072) : On k l ↔ if e = e' then t < t' else t' < t := by
  unfold On half at *
  cases e <;> cases e' <;> simp only [if_true, if_false, Bool.false_eq_true, reduceCtorEq] at * <;> omega
theorem pt_bd {t U V : Int} (a : Pt t U V) : 0 ≤ t ∧ t < 3072 := by unfold Pt at a; omega
theorem cr_on {k l : Int} (hk : 0 ≤ k ∧ k < 1024) (hl : 0 ≤ l ∧ l < 1024) : (0 < cr k l ↔ On k l) ∧ (cr k l < 0 ↔ On l k) := by
  obtain ⟨e, t, U, V, p, h, u, v⟩ := pt_of k hk
  obtain ⟨e', t', U', V', p', h', u', v'⟩ := pt_of l hl
  obtain ⟨s1, s2⟩ := pt_sign p p'
  rw [on_t h h' (pt_bd p) (pt_bd p'), on_t h' h (pt_bd p') (pt_bd p)]
  unfold cr
  rw [u, v, u', v']
  unfold sg
  clear u v u' v' h h' p p'
  cases e <;> cases e' <;> simp only [if_true, if_false, Bool.false_eq_true, reduceCtorEq]
  · exact ⟨s1, s2⟩
  · rw [Int.mul_neg, Int.mul_neg]; generalize U * V' = x at *; generalize V * U' = y at *; lia
  · rw [Int.neg_mul, Int.neg_mul]; generalize U * V' = x at *; generalize V * U' = y at *; lia
  · rw [Int.neg_mul_neg, Int.neg_mul_neg]; exact ⟨s1, s2⟩
end Mine
end

section
set_option maxHeartbeats 4000000
namespace Mine
noncomputable def wid' (a b c : Int) : Int := max (max ((a + b + c - min (min a b) c - max (max a b) c) - min (min a b) c) (max (max a b) c - (a + b + c - min (min a b) c - max (max a b) c))) (min (min a b) c + 1024 - max (max a b) c)
theorem on_lt {p q : Int} (h0 : 0 ≤ p) (h : p < q) (h1 : q < 1024) : On p q ↔ q - p < 512 := by
  unfold On; rw [Int.emod_eq_of_lt (by omega) (by omega)]; omega
theorem on_gt {p q : Int} (h0 : 0 ≤ p) (h : p < q) (h1 : q < 1024) : On q p ↔ 512 < q - p := by
  unfold On
  rw [show p - q = (1024 - (q - p)) + 1024 * (-1) by lia, Int.add_mul_emod_self_left, Int.emod_eq_of_lt (by lia) (by lia)]; lia
theorem wid_mid {a b c p r : Int} (h1 : min (min a b) c = p) (h2 : max (max a b) c = r) : wid' a b c = max (max ((a + b + c - p - r) - p) (r - (a + b + c - p - r))) (p + 1024 - r) := by
  unfold wid'; rw [h1, h2]
theorem gap_lt {p q r : Int} (h0 : 0 ≤ p) (h1 : p < q) (h2 : q < r) (h3 : r < 1024) : (max (max (q - p) (r - q)) (p + 1024 - r) < 512) ↔ On p q ∧ On q r ∧ On r p := by
  rw [Int.max_lt, Int.max_lt, on_lt h0 h1 (by lia), on_lt (by lia) h2 h3, on_gt h0 (by lia) h3]
  lia
theorem gap_not {p q r : Int} (h0 : 0 ≤ p) (h1 : p < q) (h2 : q < r) (h3 : r < 1024) : ¬ (On q p ∧ On r q ∧ On p r) := by
  rw [on_gt h0 h1 (by lia), on_gt (by lia) h2 h3, on_lt h0 (by lia) h3]
  lia
theorem gap_iff {w p q r : Int} {A B : Prop} (h0 : 0 ≤ p) (h1 : p < q) (h2 : q < r) (h3 : r < 1024) (hw : w = max (max (q - p) (r - q)) (p + 1024 - r)) (hA : A ↔ On p q ∧ On q r ∧ On r p) (hB : B ↔ On q p ∧ On r q ∧ On p r) : w < 512 ↔ A ∨ B := by
  rw [hw, gap_lt h0 h1 h2 h3, hA, hB, or_iff_left (gap_not h0 h1 h2 h3)]
theorem wid_lt {a b c : Int} (ha : 0 ≤ a ∧ a < 1024) (hb : 0 ≤ b ∧ b < 1024) (hc : 0 ≤ c ∧ c < 1024) (h1 : (a - b) % 512 ≠ 0) (h2 : (b - c) % 512 ≠ 0) (h3 : (a - c) % 512 ≠ 0) :
    wid' a b c < 512 ↔ (On b c ∧ On c a ∧ On a b) ∨ (On c b ∧ On a c ∧ On b a) := by
  have n : ∀ {x y : Int}, (x - y) % 512 ≠ 0 → x ≠ y := fun h e => h (by rw [e, Int.sub_self]; rfl)
  rcases Int.lt_or_lt_of_ne (n h1) with x | x <;> rcases Int.lt_or_lt_of_ne (n h2) with y | y <;> rcases Int.lt_or_lt_of_ne (n h3) with z | z <;> clear h1 h2 h3 n
  · refine gap_iff ha.1 x y hc.2 ((wid_mid (p := a) (r := c) (min3_of (.inl rfl) (Int.le_refl _) (Int.le_of_lt x) (Int.le_of_lt (Int.lt_trans x y))) (max3_of (.inr (.inr rfl)) (Int.le_of_lt (Int.lt_trans x y)) (Int.le_of_lt y) (Int.le_refl _))).trans (by rw [show a + b + c - a - c = b by lia])) ?_ ?_
    · exact ⟨fun ⟨u, v, w⟩ => ⟨by assumption, by assumption, by assumption⟩, fun ⟨u, v, w⟩ => ⟨by assumption, by assumption, by assumption⟩⟩
    · exact ⟨fun ⟨u, v, w⟩ => ⟨by assumption, by assumption, by assumption⟩, fun ⟨u, v, w⟩ => ⟨by assumption, by assumption, by assumption⟩⟩
  · exact absurd (Int.lt_trans x y) (Int.not_lt.mpr (Int.le_of_lt z))
  · rw [or_comm]
    refine gap_iff ha.1 z y hb.2 ((wid_mid (p := a) (r := b) (min3_of (.inl rfl) (Int.le_refl _) (Int.le_of_lt (Int.lt_trans z y)) (Int.le_of_lt z)) (max3_of (.inr (.inl rfl)) (Int.le_of_lt (Int.lt_trans z y)) (Int.le_refl _) (Int.le_of_lt y))).trans (by rw [show a + b + c - a - b = c by lia])) ?_ ?_
    · exact ⟨fun ⟨u, v, w⟩ => ⟨by assumption, by assumption, by assumption⟩, fun ⟨u, v, w⟩ => ⟨by assumption, by assumption, by assumption⟩⟩
    · exact ⟨fun ⟨u, v, w⟩ => ⟨by assumption, by assumption, by assumption⟩, fun ⟨u, v, w⟩ => ⟨by assumption, by assumption, by assumption⟩⟩
  · refine gap_iff hc.1 z x hb.2 ((wid_mid (p := c) (r := b) (min3_of (.inr (.inr rfl)) (Int.le_of_lt z) (Int.le_of_lt (Int.lt_trans z x)) (Int.le_refl _)) (max3_of (.inr (.inl rfl)) (Int.le_of_lt x) (Int.le_refl _) (Int.le_of_lt (Int.lt_trans z x)))).trans (by rw [show a + b + c - c - b = a by lia])) ?_ ?_
    · exact ⟨fun ⟨u, v, w⟩ => ⟨by assumption, by assumption, by assumption⟩, fun ⟨u, v, w⟩ => ⟨by assumption, by assumption, by assumption⟩⟩
    · exact ⟨fun ⟨u, v, w⟩ => ⟨by assumption, by assumption, by assumption⟩, fun ⟨u, v, w⟩ => ⟨by assumption, by assumption, by assumption⟩⟩
  · rw [or_comm]
    refine gap_iff hb.1 x z hc.2 ((wid_mid (p := b) (r := c) (min3_of (.inr (.inl rfl)) (Int.le_of_lt x) (Int.le_refl _) (Int.le_of_lt (Int.lt_trans x z))) (max3_of (.inr (.inr rfl)) (Int.le_of_lt z) (Int.le_of_lt (Int.lt_trans x z)) (Int.le_refl _))).trans (by rw [show a + b + c - b - c = a by lia])) ?_ ?_
    · exact ⟨fun ⟨u, v, w⟩ => ⟨by assumption, by assumption, by assumption⟩, fun ⟨u, v, w⟩ => ⟨by assumption, by assumption, by assumption⟩⟩
    · exact ⟨fun ⟨u, v, w⟩ => ⟨by assumption, by assumption, by assumption⟩, fun ⟨u, v, w⟩ => ⟨by assumption, by assumption, by assumption⟩⟩
  · refine gap_iff hb.1 y z ha.2 ((wid_mid (p := b) (r := a) (min3_of (.inr (.inl rfl)) (Int.le_of_lt (Int.lt_trans y z)) (Int.le_refl _) (Int.le_of_lt y)) (max3_of (.inl rfl) (Int.le_refl _) (Int.le_of_lt (Int.lt_trans y z)) (Int.le_of_lt z))).trans (by rw [show a + b + c - b - a = c by lia])) ?_ ?_
    · exact ⟨fun ⟨u, v, w⟩ => ⟨by assumption, by assumption, by assumption⟩, fun ⟨u, v, w⟩ => ⟨by assumption, by assumption, by assumption⟩⟩
    · exact ⟨fun ⟨u, v, w⟩ => ⟨by assumption, by assumption, by assumption⟩, fun ⟨u, v, w⟩ => ⟨by assumption, by assumption, by assumption⟩⟩
  · exact absurd (Int.lt_trans y x) (Int.not_lt.mpr (Int.le_of_lt z))
  · rw [or_comm]
    refine gap_iff hc.1 y x ha.2 ((wid_mid (p := c) (r := a) (min3_of (.inr (.inr rfl)) (Int.le_of_lt (Int.lt_trans y x)) (Int.le_of_lt y) (Int.le_refl _)) (max3_of (.inl rfl) (Int.le_refl _) (Int.le_of_lt x) (Int.le_of_lt (Int.lt_trans y x)))).trans (by rw [show a + b + c - c - a = b by lia])) ?_ ?_
    · exact ⟨fun ⟨u, v, w⟩ => ⟨by assumption, by assumption, by assumption⟩, fun ⟨u, v, w⟩ => ⟨by assumption, by assumption, by assumption⟩⟩
    · exact ⟨fun ⟨u, v, w⟩ => ⟨by assumption, by assumption, by assumption⟩, fun ⟨u, v, w⟩ => ⟨by assumption, by assumption, by assumption⟩⟩
end Mine
end

section
set_option maxHeartbeats 4000000
namespace Mine
/-- three hues, each less than half a turn on from the one before -/
noncomputable def Cyc (a b c : Int) : Prop := On a b ∧ On b c ∧ On c a
theorem on_or {a b : Int} (h : (a - b) % 512 ≠ 0) : On a b ∨ On b a := by unfold On; omega
theorem on_not {a b : Int} (h : On a b) : ¬ On b a := by unfold On at *; omega
theorem pick {p a b c : Int} (hc : Cyc a b c) (h1 : (p - a) % 512 ≠ 0) (h2 : (p - b) % 512 ≠ 0) (h3 : (p - c) % 512 ≠ 0) :
    Cyc p a b ∨ Cyc p b c ∨ Cyc p c a := by
  unfold Cyc at *
  obtain ⟨x, y, z⟩ := hc
  rcases on_or h1 with u | u <;> rcases on_or h2 with v | v <;> rcases on_or h3 with w | w <;> simp only [x, y, z, u, v, w, true_and, and_true, true_or, or_true, and_self] <;> (exfalso; unfold On at *; omega)
theorem join {p b b' c c' : Int} (h1 : Cyc p b b') (h2 : Cyc p c c') (h3 : (b - c') % 512 ≠ 0) (h4 : (c - b') % 512 ≠ 0) : Cyc p b c' ∨ Cyc p c b' := by
  unfold Cyc at *
  obtain ⟨x1, x2, x3⟩ := h1
  obtain ⟨y1, y2, y3⟩ := h2
  rcases on_or h3 with u | u
  · exact .inl ⟨x1, u, y3⟩
  · rcases on_or h4 with v | v
    · exact .inr ⟨y1, v, x3⟩
    · exfalso; unfold On at *; omega
end Mine
end

section
set_option maxHeartbeats 4000000
set_option maxRecDepth 100000
namespace Mine
/-- the relation among the six signs of four lines through one point: pq pr ps qr qs rs -/
noncomputable def gp (pq pr ps qr qs rs : Bool) : Bool := !((pq == rs) && (pr != qs) && (ps == qr)) && !((pq != rs) && (pr == qs) && (ps != qr))
noncomputable def dn (p q : Int) : Bool := decide (0 < (q - p) % 1024 ∧ (q - p) % 1024 < 512)
theorem dn_cases {p q : Int} (h : (p - q) % 512 ≠ 0) : (dn p q = true ∧ On p q) ∨ (dn p q = false ∧ On q p) := by
  unfold dn
  rcases on_or h with u | u
  · exact .inl ⟨decide_eq_true u, u⟩
  · exact .inr ⟨decide_eq_false (on_not u), u⟩
noncomputable def all2 (f : Bool → Bool) : Bool := f false && f true
theorem all2_at {f : Bool → Bool} (h : all2 f = true) (b : Bool) : f b = true := by
  unfold all2 at h
  rw [Bool.and_eq_true] at h
  cases b
  · exact h.1
  · exact h.2
noncomputable def im (a b : Bool) : Bool := !a || b
theorem im_at {a b : Bool} (h : im a b = true) (ha : a = true) : b = true := by
  subst ha; exact h
noncomputable def hb (p : Int) : Bool := decide (512 ≤ p % 1024)
theorem dn_tt {a b : Int} (ha : 0 ≤ a ∧ a < 512) (hb : 0 ≤ b ∧ b < 512) (h : a < b) : 0 < (b - a) % 1024 ∧ (b - a) % 1024 < 512 := by
  rw [Int.emod_eq_of_lt (by lia) (by lia)]; lia
theorem dn_ff {a b : Int} (ha : 0 ≤ a ∧ a < 512) (hb : 0 ≤ b ∧ b < 512) (h : b < a) : ¬ (0 < (b - a) % 1024 ∧ (b - a) % 1024 < 512) := by
  rw [show b - a = (1024 - (a - b)) + 1024 * (-1) by lia, Int.add_mul_emod_self_left, Int.emod_eq_of_lt (by lia) (by lia)]; lia
theorem dn_shift {x : Int} (h : x % 512 ≠ 0) : (0 < (x + 512) % 1024 ∧ (x + 512) % 1024 < 512) ↔ ¬ (0 < x % 1024 ∧ x % 1024 < 512) := by omega
theorem dn_eq {p q : Int} (h : (p - q) % 512 ≠ 0) : dn p q = (decide (p % 512 < q % 512) ^^ (hb p ^^ hb q)) := by
  have e : ∀ x : Int, (hb x = true ∧ x % 1024 = x % 512 + 512) ∨ (hb x = false ∧ x % 1024 = x % 512) := fun x => by
    unfold hb
    by_cases u : 512 ≤ x % 1024
    · exact .inl ⟨decide_eq_true u, by omega⟩
    · exact .inr ⟨decide_eq_false u, by omega⟩
  have base : decide (0 < (q % 512 - p % 512) % 1024 ∧ (q % 512 - p % 512) % 1024 < 512) = decide (p % 512 < q % 512) := by
    by_cases u : p % 512 < q % 512
    · rw [decide_eq_true u]; exact decide_eq_true (dn_tt (by omega) (by omega) u)
    · rw [decide_eq_false u]; exact decide_eq_false (dn_ff (by omega) (by omega) (by omega))
  have n0 : (q % 512 - p % 512) % 512 ≠ 0 := by omega
  have sh : ∀ {x y : Int}, y = x + 512 → x % 512 ≠ 0 → decide (0 < y % 1024 ∧ y % 1024 < 512) = !decide (0 < x % 1024 ∧ x % 1024 < 512) := fun {x y} e n => by
    subst e; rw [← decide_not]; exact decide_eq_decide.mpr (dn_shift n)
  unfold dn
  rw [← base, Int.sub_emod q p 1024]
  rcases e p with ⟨a, b⟩ | ⟨a, b⟩ <;> rcases e q with ⟨c, d⟩ | ⟨c, d⟩ <;> rw [a, b, c, d]
  · rw [show q % 512 + 512 - (p % 512 + 512) = q % 512 - p % 512 by omega]; simp
  · rw [sh (x := q % 512 - (p % 512 + 512)) (y := q % 512 - p % 512) (by omega) (by omega)]; simp
  · rw [sh (x := q % 512 - p % 512) (y := q % 512 + 512 - p % 512) (by omega) n0]; simp
  · simp
/-- an order on four, with the way of each flipped at will -/
theorem gp_b : (all2 fun ab => all2 fun ac => all2 fun ad => all2 fun bc => all2 fun bd => all2 fun cd => im (!(ab && bc && !ac) && !(!ab && !bc && ac)) (im (!(ab && bd && !ad) && !(!ab && !bd && ad)) (im (!(ac && cd && !ad) && !(!ac && !cd && ad)) (im (!(bc && cd && !bd) && !(!bc && !cd && bd))
    (all2 fun a => all2 fun b => all2 fun c => all2 fun d => gp (ab ^^ (a ^^ b)) (ac ^^ (a ^^ c)) (ad ^^ (a ^^ d)) (bc ^^ (b ^^ c)) (bd ^^ (b ^^ d)) (cd ^^ (c ^^ d))))))) = true := by decide +kernel
theorem lt_tr {a b c : Int} (h1 : a ≠ b) (h2 : b ≠ c) : (!(decide (a < b) && decide (b < c) && !decide (a < c)) && !(!decide (a < b) && !decide (b < c) && decide (a < c))) = true := by
  by_cases x : a < b <;> by_cases y : b < c <;> by_cases z : a < c <;> simp [x, y, z] <;> omega
theorem gp_on {p q r s : Int} (h1 : (p - q) % 512 ≠ 0) (h2 : (p - r) % 512 ≠ 0) (h3 : (p - s) % 512 ≠ 0) (h4 : (q - r) % 512 ≠ 0) (h5 : (q - s) % 512 ≠ 0) (h6 : (r - s) % 512 ≠ 0) :
    gp (dn p q) (dn p r) (dn p s) (dn q r) (dn q s) (dn r s) = true := by
  have n : ∀ {x y : Int}, (x - y) % 512 ≠ 0 → x % 512 ≠ y % 512 := by intro x y h; lia
  rw [dn_eq h1, dn_eq h2, dn_eq h3, dn_eq h4, dn_eq h5, dn_eq h6]
  have k := all2_at (all2_at (all2_at (all2_at (all2_at (all2_at gp_b (decide (p % 512 < q % 512))) (decide (p % 512 < r % 512))) (decide (p % 512 < s % 512))) (decide (q % 512 < r % 512))) (decide (q % 512 < s % 512))) (decide (r % 512 < s % 512))
  have k := im_at (im_at (im_at (im_at k (lt_tr (n h1) (n h4))) (lt_tr (n h1) (n h5))) (lt_tr (n h2) (n h6))) (lt_tr (n h4) (n h6))
  exact all2_at (all2_at (all2_at (all2_at k (hb p)) (hb q)) (hb r)) (hb s)
/-- three lines mix grey: the signs ab bc ca are alike; ca is given as ac -/
noncomputable def gr (ab bc ac : Bool) : Bool := (ab == bc) && (ab != ac)
theorem six_b : (all2 fun a => all2 fun b => all2 fun x00 => all2 fun x01 => all2 fun x10 => all2 fun x11 => im (gp a x00 x01 x10 x11 b) (all2 fun c => all2 fun z00 => all2 fun z01 => all2 fun z10 => all2 fun z11 => im (gp a z00 z01 z10 z11 c)
    (all2 fun y00 => im (gp a x00 z00 x10 z10 y00) (all2 fun y01 => im (gp a x00 z01 x10 z11 y01) (all2 fun y10 => im (gp a x01 z00 x11 z10 y10) (all2 fun y11 => im (gp a x01 z01 x11 z11 y11) (im (gp b y00 y01 y10 y11 c)
    (im (gp x00 x01 z00 b y00 y10) (im (gp x00 x01 z01 b y01 y11) (im (gp x10 x11 z10 b y00 y10) (im (gp x10 x11 z11 b y01 y11) (im (gp x00 z00 z01 y00 y01 c) (im (gp x10 z10 z11 y00 y01 c) (im (gp x01 z00 z01 y10 y11 c) (im (gp x11 z10 z11 y10 y11 c)
    (!(gr x00 y00 z00 ^^ (gr x00 y01 z01 ^^ (gr x01 y10 z00 ^^ (gr x01 y11 z01 ^^ (gr x10 y00 z10 ^^ (gr x10 y01 z11 ^^ (gr x11 y10 z10 ^^ gr x11 y11 z11))))))))))))))))))))))) = true := by
  decide +kernel
end Mine
end

section
set_option maxHeartbeats 4000000
set_option maxRecDepth 100000
namespace Mine
noncomputable def G3 (a b c : Int) : Prop := (On b c ∧ On c a ∧ On a b) ∨ (On c b ∧ On a c ∧ On b a)
noncomputable def gr3 (a b c : Int) : Bool := gr (dn a b) (dn b c) (dn a c)
theorem gr3_iff {a b c : Int} (h1 : (a - b) % 512 ≠ 0) (h2 : (b - c) % 512 ≠ 0) (h3 : (a - c) % 512 ≠ 0) : gr3 a b c = true ↔ G3 a b c := by
  unfold gr3 G3
  rcases dn_cases h1 with ⟨e1, o1⟩ | ⟨e1, o1⟩ <;> rcases dn_cases h2 with ⟨e2, o2⟩ | ⟨e2, o2⟩ <;> rcases dn_cases h3 with ⟨e3, o3⟩ | ⟨e3, o3⟩ <;>
  rw [e1, e2, e3] <;> have n1 := on_not o1 <;> have n2 := on_not o2 <;> have n3 := on_not o3 <;> simp [gr, o1, o2, o3, n1, n2, n3]
theorem G3.swap {a b c : Int} (h : G3 a b c) : G3 b a c := by
  rcases h with ⟨x, y, z⟩ | ⟨x, y, z⟩
  · exact .inr ⟨y, x, z⟩
  · exact .inl ⟨y, x, z⟩
theorem G3.swap2 {a b c : Int} (h : G3 a b c) : G3 a c b := by
  rcases h with ⟨x, y, z⟩ | ⟨x, y, z⟩
  · exact .inr ⟨x, z, y⟩
  · exact .inl ⟨x, z, y⟩
structure HuesOk (K : Nat → Nat → Int) : Prop where
  bd : ∀ i j, i < 3 → j < 3 → 0 ≤ K i j ∧ K i j < 1024
  df : ∀ i j i' j', i < 3 → j < 3 → i' < 3 → j' < 3 → (i, j) ≠ (i', j') → (K i j - K i' j') % 512 ≠ 0
  cyc : ∀ i, i < 3 → Cyc (K i 0) (K i 1) (K i 2)
theorem pick3 {p : Int} {b : Nat → Int} (hc : Cyc (b 0) (b 1) (b 2)) (h : ∀ j, j < 3 → (p - b j) % 512 ≠ 0) : ∃ j j', j < 3 ∧ j' < 3 ∧ Cyc p (b j) (b j') := by
  rcases pick hc (h 0 (by decide)) (h 1 (by decide)) (h 2 (by decide)) with u | u | u
  · exact ⟨0, 1, by decide, by decide, u⟩
  · exact ⟨1, 2, by decide, by decide, u⟩
  · exact ⟨2, 0, by decide, by decide, u⟩
theorem some3 {p : Int} {b c : Nat → Int} (hb : Cyc (b 0) (b 1) (b 2)) (hc : Cyc (c 0) (c 1) (c 2)) (h1 : ∀ j, j < 3 → (p - b j) % 512 ≠ 0) (h2 : ∀ j, j < 3 → (p - c j) % 512 ≠ 0) (h3 : ∀ j k, j < 3 → k < 3 → (b j - c k) % 512 ≠ 0) :
    ∃ j k, j < 3 ∧ k < 3 ∧ G3 p (b j) (c k) := by
  obtain ⟨j, j', hj, hj', u⟩ := pick3 hb h1
  obtain ⟨k, k', hk, hk', v⟩ := pick3 hc h2
  rcases join u v (h3 j k' hj hk') (by have := h3 j' k hj' hk; lia) with ⟨x, y, z⟩ | ⟨x, y, z⟩
  · exact ⟨j, k', hj, hk', .inl ⟨y, z, x⟩⟩
  · exact ⟨j', k, hj', hk, .inr ⟨y, x, z⟩⟩
/-- grey at a place of the 27 -/
noncomputable def gAt (K : Nat → Nat → Int) (c : Nat) : Bool := gr3 (K 0 (c / 9)) (K 1 (c / 3 % 3)) (K 2 (c % 3))
section
variable {K : Nat → Nat → Int} (H : HuesOk K)
include H
theorem HuesOk.d01 {i j : Nat} (hi : i < 3) (hj : j < 3) : (K 0 i - K 1 j) % 512 ≠ 0 := H.df 0 i 1 j (by decide) hi (by decide) hj (by simp)
theorem HuesOk.d12 {i j : Nat} (hi : i < 3) (hj : j < 3) : (K 1 i - K 2 j) % 512 ≠ 0 := H.df 1 i 2 j (by decide) hi (by decide) hj (by simp)
theorem HuesOk.d02 {i j : Nat} (hi : i < 3) (hj : j < 3) : (K 0 i - K 2 j) % 512 ≠ 0 := H.df 0 i 2 j (by decide) hi (by decide) hj (by simp)
theorem HuesOk.dd {b i j : Nat} (hb : b < 3) (hi : i < 3) (hj : j < 3) (h : i ≠ j) : (K b i - K b j) % 512 ≠ 0 := H.df b i b j hb hi hb hj (by simp [h])
theorem gAt_iff {c : Nat} (hc : c < 27) : gAt K c = true ↔ G3 (K 0 (c / 9)) (K 1 (c / 3 % 3)) (K 2 (c % 3)) := by
  unfold gAt
  exact gr3_iff (H.d01 (by lia) (by lia)) (H.d12 (by lia) (by lia)) (H.d02 (by lia) (by lia))
theorem gAt_of {i j k : Nat} (hi : i < 3) (hj : j < 3) (hk : k < 3) (h : G3 (K 0 i) (K 1 j) (K 2 k)) : gAt K ((i * 3 + j) * 3 + k) = true := by
  rw [gAt_iff H (by lia), show ((i * 3 + j) * 3 + k) / 9 = i by lia, show ((i * 3 + j) * 3 + k) / 3 % 3 = j by lia, show ((i * 3 + j) * 3 + k) % 3 = k by lia]
  exact h
/-- every paint occurs -/
theorem cover {n v : Nat} (hn : n < 3) (hv : v < 3) : ∃ c, c < 27 ∧ gAt K c = true ∧ (if n = 0 then c / 9 else if n = 1 then c / 3 % 3 else c % 3) = v := by
  rcases n with _ | _ | _ | n
  · obtain ⟨j, k, hj, hk, g⟩ := some3 (p := K 0 v) (b := K 1) (c := K 2) (H.cyc 1 (by decide)) (H.cyc 2 (by decide)) (fun j hj => H.d01 hv hj) (fun j hj => H.d02 hv hj) (fun j k hj hk => H.d12 hj hk)
    exact ⟨_, by lia, gAt_of H hv hj hk g, by simp; lia⟩
  · obtain ⟨j, k, hj, hk, g⟩ := some3 (p := K 1 v) (b := K 0) (c := K 2) (H.cyc 0 (by decide)) (H.cyc 2 (by decide)) (fun j hj => by have := H.d01 hj hv; lia) (fun j hj => H.d12 hv hj) (fun j k hj hk => H.d02 hj hk)
    exact ⟨_, by lia, gAt_of H hj hv hk g.swap, by simp; lia⟩
  · obtain ⟨j, k, hj, hk, g⟩ := some3 (p := K 2 v) (b := K 0) (c := K 1) (H.cyc 0 (by decide)) (H.cyc 1 (by decide)) (fun j hj => by have := H.d02 hj hv; lia) (fun j hj => by have := H.d12 hj hv; lia) (fun j k hj hk => H.d01 hj hk)
    exact ⟨_, by lia, gAt_of H hj hk hv g.swap.swap2, by simp; lia⟩
  · lia
/-- two paints of each box: the grey mixes are even -/
theorem eight {a0 a1 b0 b1 c0 c1 : Nat} (ha0 : a0 < 3) (ha1 : a1 < 3) (hb0 : b0 < 3) (hb1 : b1 < 3) (hc0 : c0 < 3) (hc1 : c1 < 3) (ha : a0 ≠ a1) (hb : b0 ≠ b1) (hc : c0 ≠ c1) :
    (gr3 (K 0 a0) (K 1 b0) (K 2 c0) ^^ (gr3 (K 0 a0) (K 1 b0) (K 2 c1) ^^ (gr3 (K 0 a0) (K 1 b1) (K 2 c0) ^^ (gr3 (K 0 a0) (K 1 b1) (K 2 c1) ^^ (gr3 (K 0 a1) (K 1 b0) (K 2 c0) ^^ (gr3 (K 0 a1) (K 1 b0) (K 2 c1) ^^ (gr3 (K 0 a1) (K 1 b1) (K 2 c0) ^^ gr3 (K 0 a1) (K 1 b1) (K 2 c1)))))))) = false := by
  unfold gr3
  have h := six_b
  have g := fun {p q r s : Int} h1 h2 h3 h4 h5 h6 => gp_on (p := p) (q := q) (r := r) (s := s) h1 h2 h3 h4 h5 h6
  have A := H.dd (b := 0) (by decide) ha0 ha1 ha
  have B := H.dd (b := 1) (by decide) hb0 hb1 hb
  have C := H.dd (b := 2) (by decide) hc0 hc1 hc
  have h := all2_at (all2_at (all2_at (all2_at (all2_at (all2_at h (dn (K 0 a0) (K 0 a1))) (dn (K 1 b0) (K 1 b1))) (dn (K 0 a0) (K 1 b0))) (dn (K 0 a0) (K 1 b1))) (dn (K 0 a1) (K 1 b0))) (dn (K 0 a1) (K 1 b1))
  have h := im_at h (g A (H.d01 ha0 hb0) (H.d01 ha0 hb1) (H.d01 ha1 hb0) (H.d01 ha1 hb1) B)
  have h := all2_at (all2_at (all2_at (all2_at (all2_at h (dn (K 2 c0) (K 2 c1))) (dn (K 0 a0) (K 2 c0))) (dn (K 0 a0) (K 2 c1))) (dn (K 0 a1) (K 2 c0))) (dn (K 0 a1) (K 2 c1))
  have h := im_at h (g A (H.d02 ha0 hc0) (H.d02 ha0 hc1) (H.d02 ha1 hc0) (H.d02 ha1 hc1) C)
  have h := im_at (all2_at h (dn (K 1 b0) (K 2 c0))) (g A (H.d01 ha0 hb0) (H.d02 ha0 hc0) (H.d01 ha1 hb0) (H.d02 ha1 hc0) (H.d12 hb0 hc0))
  have h := im_at (all2_at h (dn (K 1 b0) (K 2 c1))) (g A (H.d01 ha0 hb0) (H.d02 ha0 hc1) (H.d01 ha1 hb0) (H.d02 ha1 hc1) (H.d12 hb0 hc1))
  have h := im_at (all2_at h (dn (K 1 b1) (K 2 c0))) (g A (H.d01 ha0 hb1) (H.d02 ha0 hc0) (H.d01 ha1 hb1) (H.d02 ha1 hc0) (H.d12 hb1 hc0))
  have h := im_at (all2_at h (dn (K 1 b1) (K 2 c1))) (g A (H.d01 ha0 hb1) (H.d02 ha0 hc1) (H.d01 ha1 hb1) (H.d02 ha1 hc1) (H.d12 hb1 hc1))
  have h := im_at h (g B (H.d12 hb0 hc0) (H.d12 hb0 hc1) (H.d12 hb1 hc0) (H.d12 hb1 hc1) C)
  have h := im_at h (g (H.d01 ha0 hb0) (H.d01 ha0 hb1) (H.d02 ha0 hc0) B (H.d12 hb0 hc0) (H.d12 hb1 hc0))
  have h := im_at h (g (H.d01 ha0 hb0) (H.d01 ha0 hb1) (H.d02 ha0 hc1) B (H.d12 hb0 hc1) (H.d12 hb1 hc1))
  have h := im_at h (g (H.d01 ha1 hb0) (H.d01 ha1 hb1) (H.d02 ha1 hc0) B (H.d12 hb0 hc0) (H.d12 hb1 hc0))
  have h := im_at h (g (H.d01 ha1 hb0) (H.d01 ha1 hb1) (H.d02 ha1 hc1) B (H.d12 hb0 hc1) (H.d12 hb1 hc1))
  have h := im_at h (g (H.d01 ha0 hb0) (H.d02 ha0 hc0) (H.d02 ha0 hc1) (H.d12 hb0 hc0) (H.d12 hb0 hc1) C)
  have h := im_at h (g (H.d01 ha1 hb0) (H.d02 ha1 hc0) (H.d02 ha1 hc1) (H.d12 hb0 hc0) (H.d12 hb0 hc1) C)
  have h := im_at h (g (H.d01 ha0 hb1) (H.d02 ha0 hc0) (H.d02 ha0 hc1) (H.d12 hb1 hc0) (H.d12 hb1 hc1) C)
  have h := im_at h (g (H.d01 ha1 hb1) (H.d02 ha1 hc0) (H.d02 ha1 hc1) (H.d12 hb1 hc0) (H.d12 hb1 hc1) C)
  exact (Bool.not_eq_true' _).mp h
end
/-! counting -/
theorem len_par (f : Nat → Bool) (l : List Nat) : (l.filter f).length % 2 = if (l.map f).foldr xor false then 1 else 0 := by
  induction l with
  | nil => rfl
  | cons a l ih =>
    rw [List.filter_cons, List.map_cons, List.foldr_cons]
    cases h : f a <;> cases h2 : (l.map f).foldr xor false <;> rw [h2] at ih <;> simp at ih ⊢ <;> lia
noncomputable def out3 (i j k c : Nat) : Bool := c / 9 != i && (c / 3 % 3 != j && c % 3 != k)
noncomputable def o0 (i : Nat) : Nat := if i = 0 then 1 else 0
noncomputable def o1 (i : Nat) : Nat := if i = 2 then 1 else 2
theorem out3_list : ((List.range 3).all fun i => (List.range 3).all fun j => (List.range 3).all fun k => (List.range 27).filter (out3 i j k) == [(o0 i * 3 + o0 j) * 3 + o0 k, (o0 i * 3 + o0 j) * 3 + o1 k, (o0 i * 3 + o1 j) * 3 + o0 k, (o0 i * 3 + o1 j) * 3 + o1 k, (o1 i * 3 + o0 j) * 3 + o0 k, (o1 i * 3 + o0 j) * 3 + o1 k, (o1 i * 3 + o1 j) * 3 + o0 k, (o1 i * 3 + o1 j) * 3 + o1 k]) = true := by decide +kernel
theorem gAt_at (K : Nat → Nat → Int) {i j k : Nat} (hi : i < 3) (hj : j < 3) (hk : k < 3) : gAt K ((i * 3 + j) * 3 + k) = gr3 (K 0 i) (K 1 j) (K 2 k) := by
  unfold gAt
  rw [show ((i * 3 + j) * 3 + k) / 9 = i by lia, show ((i * 3 + j) * 3 + k) / 3 % 3 = j by lia, show ((i * 3 + j) * 3 + k) % 3 = k by lia]
/-- the grey places -/
noncomputable def greys (K : Nat → Nat → Int) : List Nat := (List.range 27).filter (gAt K)
theorem greys_even {K : Nat → Nat → Int} (H : HuesOk K) {i j k : Nat} (hi : i < 3) (hj : j < 3) (hk : k < 3) : ((greys K).filter (out3 i j k)).length % 2 = 0 := by
  have e := eq_of_beq (List.all_eq_true.mp (List.all_eq_true.mp (List.all_eq_true.mp out3_list i (List.mem_range.mpr hi)) j (List.mem_range.mpr hj)) k (List.mem_range.mpr hk))
  have u : ∀ i, o0 i < 3 ∧ o1 i < 3 ∧ o0 i ≠ o1 i := fun i => by unfold o0 o1; split <;> split <;> lia
  have a := u i; have b := u j; have c := u k
  unfold greys
  rw [List.filter_filter, show (fun c => out3 i j k c && gAt K c) = (fun c => gAt K c && out3 i j k c) from funext fun c => Bool.and_comm _ _, ← List.filter_filter, e, len_par]
  simp only [List.map_cons, List.map_nil, List.foldr_cons, List.foldr_nil, Bool.xor_false]
  rw [gAt_at K a.1 b.1 c.1, gAt_at K a.1 b.1 c.2.1, gAt_at K a.1 b.2.1 c.1, gAt_at K a.1 b.2.1 c.2.1, gAt_at K a.2.1 b.1 c.1, gAt_at K a.2.1 b.1 c.2.1, gAt_at K a.2.1 b.2.1 c.1, gAt_at K a.2.1 b.2.1 c.2.1,
    eight H a.1 a.2.1 b.1 b.2.1 c.1 c.2.1 a.2.2 b.2.2 c.2.2]
  rfl
theorem greys_cover {K : Nat → Nat → Int} (H : HuesOk K) {n v : Nat} (hn : n < 3) (hv : v < 3) : ∃ c ∈ greys K, (if n = 0 then c / 9 else if n = 1 then c / 3 % 3 else c % 3) = v := by
  obtain ⟨c, hc, hg, e⟩ := cover H hn hv
  exact ⟨c, List.mem_filter.mpr ⟨List.mem_range.mpr hc, hg⟩, e⟩
theorem greys_five {K : Nat → Nat → Int} (H : HuesOk K) : 5 ≤ (greys K).length := by
  have hs : (greys K).Pairwise (· < ·) := List.Pairwise.filter _ List.pairwise_lt_range
  have hm : ∀ c ∈ greys K, c < 27 := fun c hc => List.mem_range.mp (List.mem_filter.mp hc).1
  have hcov : covers (greys K).reverse = true := by
    unfold covers
    rw [List.all_eq_true]
    intro v hv
    have hv := List.mem_range.mp hv
    obtain ⟨a, ha, ea⟩ := greys_cover H (n := 0) (by decide) hv
    obtain ⟨b, hb, eb⟩ := greys_cover H (n := 1) (by decide) hv
    obtain ⟨c, hc, ec⟩ := greys_cover H (n := 2) (by decide) hv
    rw [Bool.and_eq_true, Bool.and_eq_true]
    exact ⟨⟨List.any_eq_true.mpr ⟨a, List.mem_reverse.mpr ha, beq_iff_eq.mpr ea⟩, List.any_eq_true.mpr ⟨b, List.mem_reverse.mpr hb, beq_iff_eq.mpr eb⟩⟩, List.any_eq_true.mpr ⟨c, List.mem_reverse.mpr hc, beq_iff_eq.mpr ec⟩⟩
  have hev : evens (greys K).reverse = true := by
    unfold evens
    rw [List.all_eq_true]
    intro o ho
    have ho := List.mem_range.mp ho
    have e := greys_even H (i := o / 9) (j := o / 3 % 3) (k := o % 3) (by lia) (by lia) (by lia)
    rw [beq_iff_eq, List.filter_reverse, List.length_reverse, ← e]
    congr 2
    refine List.filter_congr fun c _ => ?_
    unfold out3 away cd3
    rw [Bool.and_assoc]
  have hfew := few_of (fun a h => hm a (List.mem_reverse.mp h)) hev hcov
  generalize greys K = l at hs hm hcov hfew
  match l with
  | [] => revert hcov; decide +kernel
  | [a] =>
    exfalso
    have := hm a (by simp)
    revert hcov
    revert this
    have : ((List.range 27).all fun a => !covers [a]) = true := by decide +kernel
    intro h1 h2
    have := List.all_eq_true.mp this a (List.mem_range.mpr h1)
    simp at h2
    rw [h2] at this; cases this
  | [a, b] =>
    exfalso
    have := hm a (by simp)
    have q := hm b (by simp)
    have t : ((List.range 27).all fun a => (List.range 27).all fun b => !covers [b, a]) = true := by decide +kernel
    have := List.all_eq_true.mp (List.all_eq_true.mp t a (List.mem_range.mpr this)) b (List.mem_range.mpr q)
    simp at hcov
    rw [hcov] at this; cases this
  | [a, b, c] =>
    exfalso
    have q := hm c (by simp)
    simp at hs hfew
    have := List.all_eq_true.mp (List.all_eq_true.mp (List.all_eq_true.mp few3 c (List.mem_range.mpr q)) b (List.mem_range.mpr hs.2)) a (List.mem_range.mpr hs.1.1)
    rw [hfew] at this; cases this
  | [a, b, c, d] =>
    exfalso
    have q := hm d (by simp)
    simp at hs hfew
    have := List.all_eq_true.mp (List.all_eq_true.mp (List.all_eq_true.mp (List.all_eq_true.mp few4 d (List.mem_range.mpr q)) c (List.mem_range.mpr hs.2.2)) b (List.mem_range.mpr hs.2.1.1)) a (List.mem_range.mpr hs.1.1)
    rw [hfew] at this; cases this
  | _ :: _ :: _ :: _ :: _ :: l => simp
end Mine
end

section
set_option maxHeartbeats 4000000
namespace Mine
noncomputable def crs (p0 p1 p2 q0 q1 q2 : Int) : Int := (p0 - p1) * (q1 - q2) - (p1 - p2) * (q0 - q1)
theorem crs_part (k l sh va sh' va' : Int) : crs (part k sh va 0) (part k sh va 2048) (part k sh va 4096) (part l sh' va' 0) (part l sh' va' 2048) (part l sh' va' 4096) = (va * sh) * (va' * sh') * cr k l := by
  unfold crs cr part
  grind
theorem crs_sign {k l sh va sh' va' : Int} (h1 : 1 ≤ sh ∧ sh ≤ 4) (h2 : 1 ≤ va ∧ va ≤ 4) (h3 : 1 ≤ sh' ∧ sh' ≤ 4) (h4 : 1 ≤ va' ∧ va' ≤ 4) {X : Int} (hX : X = crs (part k sh va 0) (part k sh va 2048) (part k sh va 4096) (part l sh' va' 0) (part l sh' va' 2048) (part l sh' va' 4096)) :
    (0 < X ↔ 0 < cr k l) ∧ (X < 0 ↔ cr k l < 0) := by
  rw [crs_part] at hX
  have a := vs_range h1 h2
  have b := vs_range h3 h4
  have c : 0 < va * sh * (va' * sh') := Int.mul_pos (by omega) (by omega)
  generalize va * sh * (va' * sh') = z at *
  subst hX
  generalize cr k l = y at *
  rcases Int.lt_trichotomy y 0 with h | h | h
  · have := Int.mul_neg_of_pos_of_neg c h; omega
  · subst h; simp
  · have := Int.mul_pos c h; omega
theorem mix_same {p0 p1 p2 q0 q1 q2 r0 r1 r2 X Y Z : Int} (hX : X = crs q0 q1 q2 r0 r1 r2) (hY : Y = crs r0 r1 r2 p0 p1 p2) (hZ : Z = crs p0 p1 p2 q0 q1 q2) :
    X * p0 + Y * q0 + Z * r0 = X * p1 + Y * q1 + Z * r1 ∧ X * p1 + Y * q1 + Z * r1 = X * p2 + Y * q2 + Z * r2 := by
  subst hX; subst hY; subst hZ
  unfold crs
  constructor <;> grind
theorem crs_le {p0 p1 p2 q0 q1 q2 X : Int} (hX : X = crs p0 p1 p2 q0 q1 q2) (a0 : 0 ≤ p0 ∧ p0 ≤ 16384) (a1 : 0 ≤ p1 ∧ p1 ≤ 16384) (a2 : 0 ≤ p2 ∧ p2 ≤ 16384) (b0 : 0 ≤ q0 ∧ q0 ≤ 16384) (b1 : 0 ≤ q1 ∧ q1 ≤ 16384) (b2 : 0 ≤ q2 ∧ q2 ≤ 16384) : -536870912 ≤ X ∧ X ≤ 536870912 := by
  have pr : ∀ {u v : Int}, -16384 ≤ u ∧ u ≤ 16384 → -16384 ≤ v ∧ v ≤ 16384 → -268435456 ≤ u * v ∧ u * v ≤ 268435456 := fun {u v} h1 h2 => by
    have h : (u * v).natAbs ≤ 16384 * 16384 := by rw [Int.natAbs_mul]; exact Nat.mul_le_mul (by lia) (by lia)
    lia
  have h1 := pr (u := p0 - p1) (v := q1 - q2) (by lia) (by lia)
  have h2 := pr (u := p1 - p2) (v := q0 - q1) (by lia) (by lia)
  subst hX; unfold crs; lia
noncomputable def absI (a : Int) : Int := if a < 0 then -a else a
theorem absI_range {a : Int} (h : -536870912 ≤ a ∧ a ≤ 536870912) : 0 ≤ absI a ∧ absI a ≤ 536870912 := by unfold absI; split <;> lia
noncomputable def mixI (X Y Z p q r : Int) : Int := absI X * p + absI Y * q + absI Z * r
theorem mixI_same {p0 p1 p2 q0 q1 q2 r0 r1 r2 X Y Z : Int} (hX : X = crs q0 q1 q2 r0 r1 r2) (hY : Y = crs r0 r1 r2 p0 p1 p2) (hZ : Z = crs p0 p1 p2 q0 q1 q2) (hs : (0 < X ∧ 0 < Y ∧ 0 < Z) ∨ (X < 0 ∧ Y < 0 ∧ Z < 0)) :
    mixI X Y Z p0 q0 r0 = mixI X Y Z p1 q1 r1 ∧ mixI X Y Z p0 q0 r0 = mixI X Y Z p2 q2 r2 := by
  obtain ⟨h1, h2⟩ := mix_same hX hY hZ
  unfold mixI absI
  rcases hs with ⟨a, b, c⟩ | ⟨a, b, c⟩
  · rw [if_neg (by lia), if_neg (by lia), if_neg (by lia)]; lia
  · rw [if_pos a, if_pos b, if_pos c]
    simp only [Int.neg_mul]; lia
theorem prod_rng {a p : Int} (ha : 0 ≤ a ∧ a ≤ 536870912) (hp : 0 ≤ p ∧ p ≤ 16384) : 0 ≤ a * p ∧ a * p ≤ 8796093022208 := by
  have := prod_le ha.1 hp.1 ha.2 hp.2
  lia
theorem mixI_range {X Y Z p q r : Int} (hX : -536870912 ≤ X ∧ X ≤ 536870912) (hY : -536870912 ≤ Y ∧ Y ≤ 536870912) (hZ : -536870912 ≤ Z ∧ Z ≤ 536870912) (hp : 0 ≤ p ∧ p ≤ 16384) (hq : 0 ≤ q ∧ q ≤ 16384) (hr : 0 ≤ r ∧ r ≤ 16384) :
    0 ≤ mixI X Y Z p q r ∧ mixI X Y Z p q r ≤ 26388279066624 := by
  have a := prod_rng (absI_range hX) hp
  have b := prod_rng (absI_range hY) hq
  have c := prod_rng (absI_range hZ) hr
  unfold mixI; lia
end Mine
end

section
set_option maxHeartbeats 4000000
namespace Mine
open PySem PySem.W PyProof.Rows
noncomputable def PermN (p : Array Nat) (n : Nat) : Prop := p.toList.Perm (List.range n)
noncomputable def Up (key : Nat → Int) (p : Array Nat) (m : Nat) : Prop := ∀ i j, i < j → j < m → key (p.getD i 0) ≤ key (p.getD j 0)
noncomputable def Down (key : Nat → Int) (p : Array Nat) (m : Nat) : Prop := ∀ i j, i < j → j < m → key (p.getD j 0) ≤ key (p.getD i 0)
theorem PermN.size {p : Array Nat} {n : Nat} (h : PermN p n) : p.size = n := by
  have := h.length_eq; simpa using this
theorem getD_at {p : Array Nat} {i : Nat} : p.getD i 0 = (p[i]?).getD 0 := by simp [Array.getD_eq_getD_getElem?]
theorem PermN.lt {p : Array Nat} {n i : Nat} (h : PermN p n) (hi : i < n) : p.getD i 0 < n := by
  have hs := h.size
  have e : p.getD i 0 = p.toList[i]'(by simpa [hs] using hi) := by simp [Array.getD, hs, hi]
  rw [e]
  exact List.mem_range.mp (h.mem_iff.mp (List.getElem_mem _))
theorem PermN.inj {p : Array Nat} {n i j : Nat} (h : PermN p n) (hi : i < n) (hj : j < n) (e : p.getD i 0 = p.getD j 0) : i = j := by
  have hs := h.size
  have nd : p.toList.Nodup := h.nodup_iff.mpr List.nodup_range
  have ei : p.getD i 0 = p.toList[i]'(by simpa [hs] using hi) := by simp [Array.getD, hs, hi]
  have ej : p.getD j 0 = p.toList[j]'(by simpa [hs] using hj) := by simp [Array.getD, hs, hj]
  rw [ei, ej] at e
  have pw := List.pairwise_iff_getElem.mp nd
  rcases Nat.lt_trichotomy i j with h' | h' | h'
  · exact absurd e (pw _ _ _ _ h')
  · exact h'
  · exact absurd e.symm (pw _ _ _ _ h')
theorem PermN.range (n : Nat) : PermN (List.toArray (List.range n)) n := List.Perm.refl _
theorem PermN.of {p q : Array Nat} {n : Nat} (h : PermN p n) (e : q.Perm p) : PermN q n := (Array.perm_iff_toList_perm.mp e).trans h
theorem Up.one {key : Nat → Int} {p : Array Nat} : Up key p 1 := fun i j h h' => by lia
theorem Up.step {key : Nat → Int} {p : Array Nat} {m : Nat} (h : Up key p m) (hm : 1 ≤ m) (hle : key (p.getD (m - 1) 0) ≤ key (p.getD m 0)) : Up key p (m + 1) := fun i j hij hj => by
  by_cases e : j = m
  · subst e
    by_cases e2 : i = j - 1
    · subst e2; exact hle
    · exact Int.le_trans (h i (j - 1) (by lia) (by lia)) hle
  · exact h i j hij (by lia)
theorem Down.step {key : Nat → Int} {p : Array Nat} {m : Nat} (h : Down key p m) (hm : 1 ≤ m) (hle : key (p.getD m 0) ≤ key (p.getD (m - 1) 0)) : Down key p (m + 1) := fun i j hij hj => by
  by_cases e : j = m
  · subst e
    by_cases e2 : i = j - 1
    · subst e2; exact hle
    · exact Int.le_trans hle (h i (j - 1) (by lia) (by lia))
  · exact h i j hij (by lia)
theorem rev_at {p : Array Nat} {m i : Nat} (hm : m ≤ p.size) : (kas_rev p 0 m).getD i 0 = if i < m then p.getD (m - 1 - i) 0 else p.getD i 0 := by
  rw [getD_at, kas_rev, getElem?_mirror_all hm]
  by_cases h : i < m
  · rw [if_pos ⟨Nat.zero_le _, h⟩, if_pos h, getD_at, Nat.zero_add]
  · rw [if_neg (by lia), if_neg h, getD_at]
theorem Down.rev {key : Nat → Int} {p : Array Nat} {m : Nat} (h : Down key p m) (hm : m ≤ p.size) : Up key (kas_rev p 0 m) m := fun i j hij hj => by
  rw [rev_at hm, rev_at hm, if_pos hj, if_pos (by omega)]
  exact h _ _ (by omega) (by omega)
section
variable {cmp : Nat → Nat → (Bool → Shared → Prop) → Shared → Prop} {key : Nat → Int} {n : Nat} {s : Shared}
  (hcmp : ∀ i j (C : Bool → Shared → Prop), i < n → j < n → C (decide (key i < key j)) s → cmp i j C s)
include hcmp
theorem asc_ok {p : Array Nat} (hp : PermN p n) {Q : Nat → Shared → Prop} : ∀ (f m : Nat), 1 ≤ m → m + f ≤ n → Up key p m → (∀ m', m ≤ m' → m' ≤ m + f → Up key p m' → (m' < m + f → key (p.getD m' 0) < key (p.getD (m' - 1) 0)) → Q m' s) → (kas_asc p f m).kasWp cmp Q s
  | 0, m, _, _, hu, h => h m (Nat.le_refl _) (Nat.le_refl _) hu fun h => absurd h (Nat.lt_irrefl _)
  | f + 1, m, h1, h2, hu, h => by
    refine hcmp _ _ _ (hp.lt (by lia)) (hp.lt (by lia)) ?_
    by_cases hc : key (p.getD m 0) < key (p.getD (m - 1) 0)
    · rw [decide_eq_true hc]; dsimp only; rw [if_pos rfl]
      exact h m (Nat.le_refl _) (by lia) hu fun _ => hc
    · rw [decide_eq_false hc]; dsimp only; rw [if_neg (by simp)]
      exact asc_ok hp f (m + 1) (by lia) (by lia) (hu.step h1 (by lia)) fun m' a b c d => h m' (by lia) (by lia) c fun e => d (by lia)
theorem desc_ok (hinj : ∀ i j, i < n → j < n → key i = key j → i = j) {p : Array Nat} (hp : PermN p n) {Q : Array Nat × Nat × Nat → Shared → Prop} : ∀ (f m : Nat), 1 ≤ m → m + f ≤ n → Down key p m → (∀ m', m ≤ m' → m' ≤ m + f → Down key p m' → Q (p, m', 0) s) → (kas_desc f p m 0).kasWp cmp Q s
  | 0, m, _, _, hu, h => h m (Nat.le_refl _) (Nat.le_refl _) hu
  | f + 1, m, h1, h2, hu, h => by
    refine hcmp _ _ _ (hp.lt (by lia)) (hp.lt (by lia)) ?_
    by_cases hc : key (p.getD m 0) < key (p.getD (m - 1) 0)
    · rw [decide_eq_true hc]; dsimp only; rw [if_pos rfl, if_neg (by lia)]
      exact desc_ok hinj hp f (m + 1) (by lia) (by lia) (hu.step h1 (by lia)) fun m' a b c => h m' (by lia) (by lia) c
    · rw [decide_eq_false hc]; dsimp only; rw [if_neg (by simp)]
      refine hcmp _ _ _ (hp.lt (by lia)) (hp.lt (by lia)) ?_
      have hne : key (p.getD m 0) ≠ key (p.getD (m - 1) 0) := fun e => by
        have := hp.inj (by lia) (by lia) (hinj _ _ (hp.lt (by lia)) (hp.lt (by lia)) e)
        lia
      rw [decide_eq_true (show key (p.getD (m - 1) 0) < key (p.getD m 0) by lia)]; dsimp only; rw [if_pos rfl]
      exact h m (Nat.le_refl _) (by lia) hu
theorem count_ok (hinj : ∀ i j, i < n → j < n → key i = key j → i = j) {p : Array Nat} (hp : PermN p n) (h2 : 2 ≤ n) {Q : Nat × Array Nat → Shared → Prop} (h : ∀ m p', 1 ≤ m → m ≤ n → PermN p' n → Up key p' m → Q (m, p') s) : (kas_count n p).kasWp cmp Q s := by
  unfold kas_count
  rw [KasT.kasWp_bind]
  refine asc_ok hcmp hp (n - 1) 1 (Nat.le_refl _) (by lia) .one fun m a b hu hst => ?_
  by_cases e1 : (m == n) = true
  · rw [if_pos e1]
    exact h m p a (by lia) hp hu
  · have hmn : m ≠ n := fun q => e1 (by rw [q]; exact beq_self_eq_true _)
    rw [if_neg e1]
    by_cases e2 : m > 1
    · rw [if_pos e2]
      refine hcmp _ _ _ (hp.lt (by lia)) (hp.lt (by lia)) ?_
      have hne : key (p.getD 0 0) ≠ key (p.getD (m - 1) 0) := fun e => by
        have := hp.inj (by lia) (by lia) (hinj _ _ (hp.lt (by lia)) (hp.lt (by lia)) e)
        lia
      have hle := hu 0 (m - 1) (by lia) (by lia)
      rw [decide_eq_true (show key (p.getD 0 0) < key (p.getD (m - 1) 0) by lia)]; dsimp only; rw [if_pos rfl]
      exact h m p a (by lia) hp hu
    · rw [if_neg e2]
      obtain rfl : m = 1 := by lia
      have hlt := hst (by lia)
      unfold kas_descPart
      rw [KasT.kasWp_bind]
      have hd : Down key p 2 := Down.step (m := 1) (fun i j h h' => by lia) (Nat.le_refl _) (Int.le_of_lt hlt)
      refine desc_ok hcmp hinj hp (n - 2) 2 (by lia) (by lia) hd fun m' a' b' hd' => ?_
      rw [if_neg (by simp)]
      dsimp only
      unfold kas_tail3
      rw [KasT.kasWp_bind]
      have hp' : PermN (kas_rev p 0 m') n := hp.of (mirror_perm _ _ _ _)
      refine asc_ok hcmp hp' (n - m') m' (by lia) (by lia) (hd'.rev (by rw [hp.size]; lia)) fun m2 a2 b2 hu2 _ => ?_
      exact h m2 _ (by lia) (by lia) hp' hu2
theorem place_ok {p : Array Nat} (hp : PermN p n) {k : Nat} (hk : k < n) (hu : Up key p k) {Q : Nat → Shared → Prop} (h : ∀ l, l ≤ k → (∀ i, i < l → key (p.getD i 0) ≤ key (p.getD k 0)) → (∀ i, l ≤ i → i < k → key (p.getD k 0) ≤ key (p.getD i 0)) → Q l s) :
    ∀ (f l r : Nat), l ≤ r → r ≤ k → r - l ≤ f → (∀ i, i < l → key (p.getD i 0) ≤ key (p.getD k 0)) → (∀ i, r ≤ i → i < k → key (p.getD k 0) ≤ key (p.getD i 0)) → (kas_place p k f l r).kasWp cmp Q s
  | 0, l, r, h1, h2, h3, a, b => h l (by lia) a fun i c d => b i (by lia) d
  | f + 1, l, r, h1, h2, h3, a, b => by
    unfold kas_place
    by_cases e : l ≥ r
    · rw [if_pos e]
      exact h l (by lia) a fun i c d => b i (by lia) d
    · rw [if_neg e]
      refine hcmp _ _ _ (hp.lt hk) (hp.lt (by lia)) ?_
      by_cases hc : key (p.getD k 0) < key (p.getD ((l + r) / 2) 0)
      · rw [decide_eq_true hc]; dsimp only; rw [if_pos rfl]
        refine place_ok hp hk hu h f l ((l + r) / 2) (by lia) (by lia) (by lia) a fun i c d => ?_
        by_cases e3 : i = (l + r) / 2
        · subst e3; lia
        · have := hu ((l + r) / 2) i (by lia) d
          lia
      · rw [decide_eq_false hc]; dsimp only; rw [if_neg (by simp)]
        refine place_ok hp hk hu h f ((l + r) / 2 + 1) r (by lia) (by lia) (by lia) (fun i c => ?_) b
        by_cases e3 : i = (l + r) / 2
        · subst e3; lia
        · have := hu i ((l + r) / 2) (by lia) (by lia)
          lia
omit hcmp in
theorem bubble_up {p : Array Nat} (hp : PermN p n) {k l : Nat} (hk : k < n) (hu : Up key p k) (hl : l ≤ k) (a : ∀ i, i < l → key (p.getD i 0) ≤ key (p.getD k 0)) (b : ∀ i, l ≤ i → i < k → key (p.getD k 0) ≤ key (p.getD i 0)) : Up key (bubble p k (k - l)) (k + 1) := by
  have at' : ∀ i, (bubble p k (k - l)).getD i 0 = if i = l then p.getD k 0 else if l < i ∧ i ≤ k then p.getD (i - 1) 0 else p.getD i 0 := fun i => by
    rw [getD_at, getElem?_bubble (by rw [hp.size]; exact hk) _ (by lia), show k - (k - l) = l by lia]
    repeat' split
    all_goals rw [getD_at]
  intro i j hij hj
  rw [at', at']
  repeat' split
  all_goals first
    | (exfalso; lia)
    | exact a _ (by lia)
    | exact b _ (by lia) (by lia)
    | exact hu _ _ (by lia) (by lia)
theorem bin_ok {Q : Array Nat → Shared → Prop} (h : ∀ p, PermN p n → Up key p n → Q p s) : ∀ (f k : Nat) (p : Array Nat), PermN p n → k + f = n → Up key p k → (kas_bin f p k).kasWp cmp Q s
  | 0, k, p, hp, hk, hu => h p hp (by rw [Nat.add_zero] at hk; rw [← hk]; exact hu)
  | f + 1, k, p, hp, hk, hu => by
    show ((kas_place p k k 0 k).bind fun l => kas_bin f (bubble p k (k - l)) (k + 1)).kasWp cmp Q s
    rw [KasT.kasWp_bind]
    refine place_ok hcmp hp (by lia) hu (fun l hl a b => ?_) k 0 k (Nat.zero_le _) (Nat.le_refl _) (by lia) (fun i hi => absurd hi (Nat.not_lt_zero _)) fun i a b => by lia
    exact bin_ok h f (k + 1) _ (hp.of (bubble_perm _ _ _)) (by lia) (bubble_up hp (by lia) hu hl a b)
/-- the sort asks by key: it ends sorted -/
theorem sort_ok (hinj : ∀ i j, i < n → j < n → key i = key j → i = j) (h2 : 2 ≤ n) {Q : Array Nat → Shared → Prop} (h : ∀ p, PermN p n → Up key p n → Q p s) : (kas_sort n).kasWp cmp Q s := by
  unfold kas_sort
  rw [KasT.kasWp_bind]
  refine count_ok hcmp hinj (PermN.range n) h2 fun m p a b hp hu => ?_
  dsimp only
  by_cases e : m < n
  · rw [if_pos e, show max m 1 = m by lia]
    exact bin_ok hcmp h (n - m) m p hp (by lia) hu
  · rw [if_neg e]
    obtain rfl : m = n := by lia
    exact h p hp hu
end
end Mine
end

section
open PySem PySem.W PySem.Spec PySem.Calls PyProof.Rows
set_option maxRecDepth 100000
set_option maxHeartbeats 4000000
namespace Mine

section
theorem calm_M5a : True := by
  w_top off
  exact trivial
theorem owner_pat : Manifest.owners.lookup (String.ofList ['n', 'r', 'e', 't', 't', 'a', 'P', '.', 'e', 'r'].reverse) = some Manifest.sig_re_Pattern := by kernel_rfl
theorem slot_pat_search : Slot "re.Pattern" "search" "re.Pattern.search" :=
  .of (owner := "re.Pattern") (n := "search") (by rw [typeLookup_type, builtinLookup_eq_fast]; kernel_rfl) (by decide +kernel) (by decide +kernel) (by decide +kernel)
    (by first | exact .inl (by decide +kernel) | exact .inr (by decide +kernel)) (by rw [isSubtype_type]; kernel_rfl)
theorem type_pat_search : typeOf (.builtin "re.Pattern.search") = pure (.type "method_descriptor") := by show builtinType _ = _; rw [builtinType_eq_fast]; kernel_rfl
theorem entry_pat_search : entryFor table "re.Pattern.search" = some Builtin.«re.Pattern.search» := entryFor_of_tree (by kernel_rfl)
theorem args_pat_search_2 (a b : Value) : argsOk "re.Pattern.search" ⟨[a, b], []⟩ := by
  unfold argsOk; rw [signature?_of (id := "re.Pattern.search") (n := ['h', 'c', 'r', 'a', 'e', 's']) (o := ['n', 'r', 'e', 't', 't', 'a', 'P', '.', 'e', 'r']) (by kernel_rfl) owner_pat]; kernel_rfl
theorem plainAttrs_pat : PlainAttrs "re.Pattern" :=
  ⟨⟨"object.__getattribute__", by rw [typeLookup_type, builtinLookup_eq_fast]; kernel_rfl, by decide +kernel⟩, by rw [typeLookup_type, builtinLookup_eq_fast]; kernel_rfl⟩
open PySem.Sre PySem.Builtin.Re
/-- the characters of a text are none of the first set's -/
noncomputable def Mute (code : Array Nat) (text : Array Nat) : Prop :=
  (match ops[code.getD 0 0]? with | some .INFO => true | _ => false) = true ∧ (code.getD 2 0 == 4) = true ∧ ∀ i, i < text.size → ∀ seen, ∃ seen', inSet code (text.getD i 0) code.size 5 true seen = .ok (false, seen')
theorem admitted_none {m : M} (h : ∀ i, i < m.lim → ∀ seen, ∃ seen', inSet m.code (m.text.getD i 0) m.code.size 5 true seen = .ok (false, seen')) : ∀ fuel s seen, ∃ seen', m.admitted fuel s seen = .ok (none, seen')
  | 0, _, seen => ⟨seen, rfl⟩
  | fuel + 1, s, seen => by
    unfold M.admitted
    by_cases hs : s ≥ m.lim
    · rw [if_pos hs]; exact ⟨_, rfl⟩
    · rw [if_neg hs]
      obtain ⟨sn, e⟩ := h s (by lia) seen
      rw [e]
      exact admitted_none h fuel (s + 1) sn
theorem admitted_not {m : M} {code text : Array Nat} {fuel s : Nat} {seen : PySem.Sre.Seen} {r : Except String (Option Nat × PySem.Sre.Seen)} (he : m.admitted fuel s seen = r) (hc : m.code = code) (ht : m.text = text) (hl : m.lim = text.size)
    (h : ∀ i, i < text.size → ∀ seen, ∃ seen', inSet code (text.getD i 0) code.size 5 true seen = .ok (false, seen')) : ∃ seen', r = .ok (none, seen') := by
  subst hc; subst ht
  obtain ⟨sn, e⟩ := admitted_none (m := m) (by rw [hl]; exact h) fuel s seen
  exact ⟨sn, he.symm.trans e⟩
theorem run_said {m : M} (hf : m.frames = []) (ho : m.outcome = none) : ((m.say false).runFor 4).outcome = some .failed := by
  have e1 : (m.say false).outcome = none := ho
  have e2 : (m.say false).frames = [] := hf
  have e3 : (m.say false).answer = some false := rfl
  generalize m.say false = k at e1 e2 e3
  have e4 : k.step = { k with outcome := some .failed } := by unfold M.step; rw [e1, e2, e3]; rfl
  show (if k.outcome.isSome = true then k else M.runFor 3 k.step).outcome = _
  rw [e1, e4]
  rfl
theorem search_said {code text : Array Nat} (h : Mute code text) (g : Nat) : ∃ m : M, forSearch code text g 0 text.size false = m.say false ∧ m.frames = [] ∧ m.outcome = none := by
  obtain ⟨h1, h2, h3⟩ := h
  simp only [forSearch]
  split
  · exact ⟨_, rfl, rfl, rfl⟩
  · unfold M.attemptFrom M.hasFirstSet
    rw [if_neg (by
      have e : ((match ops[code.getD 0 0]? with | some .INFO => true | _ => false) && code.getD 2 0 == 4) = true := by rw [h1, h2]; rfl
      show ¬ ((!((match ops[code.getD 0 0]? with | some .INFO => true | _ => false) && code.getD 2 0 == 4)) = true)
      rw [e]; decide)]
    split
    · rename_i s sn he
      exfalso
      obtain ⟨sn', e'⟩ := admitted_not he rfl rfl rfl h3
      cases e'
    · exact ⟨_, rfl, rfl, rfl⟩
    · rename_i why he
      exfalso
      obtain ⟨sn', e'⟩ := admitted_not he rfl rfl rfl h3
      cases e'
section
variable {prog : Program} {w : World} {A : Around} {E : Value → Shared → Prop} {s : Shared}
theorem run_none {m : M} (hf : m.frames = []) (ho : m.outcome = none) {Q : Option M → Shared → Prop} (h : Q none s) : wpAny (model prog w) A (reRunToEnd (m.say false)) Q E s := by
  unfold reRunToEnd
  refine wpAny_bind ?_
  have e := run_said hf ho
  have hd : reDrive (2 ^ 64) (m.say false) = pure ((m.say false).runFor 4) := by
    show reDrive (18446744073709551615 + 1) (m.say false) = _
    unfold reDrive
    show (if ((m.say false).runFor 4).outcome.isSome = true then pure _ else _) = _
    rw [e]; rfl
  rw [hd]
  generalize (m.say false).runFor 4 = k at e
  refine wpAny_pure ?_
  refine wpAny_bind (wpAny_forIn_list _ (fun _ _ s' => s' = s) _ ?_ ?_ _ _ rfl)
  · rintro i rest u s' rfl
    split
    · exact wpAny_bind (wpAny_rule (wpAny_pure rfl))
    · exact wpAny_pure rfl
  · rintro u s' rfl
    rw [e]
    exact wpAny_pure h
theorem call_search {P c : Addr} {t : Str} {u : Tok} {o oc : Obj} {fs items : Array Value} {n : Nat} {Q : Value → Shared → Prop} (hp : s.heap.get? P = some o) (hcl : o.cls = .type "re.Pattern") (hd : o.data = .fields fs)
    (h5 : fs.getD 5 .none = .ref c) (h6 : reRawNat (fs.getD 6 .none) = 0) (hc : s.heap.get? c = some oc) (hdc : oc.data = .seq items n)
    (hsz : t.cps.size ≤ 64) (hm : Mute ((items.map reRawOf).map (·.toNat)) t.cps) (h : Q .none s) : wpAny (model prog w) A (call (.builtin "re.Pattern.search") [.ref P, .str t u]) Q E s := by
  refine wpAny_call_entry slot_pat_search ⟨o, hp, hcl⟩ entry_pat_search ?_ (args_pat_search_2 _ _)
  unfold Builtin.«re.Pattern.search»
  refine wpAny_bind ?_
  unfold reTarget
  dsimp only
  refine wpAny_bind (wpAny_of_eq (a := [some (.str t u), none, none]) (by rfl) ?_)
  refine wpAny_bind (wpAny_of_eq (a := (0 : Int)) (by rfl) ?_)
  refine wpAny_bind (wpAny_of_eq (a := (2 ^ 63 - 1 : Int)) (by rfl) ?_)
  refine wpAny_bind (wpAny_fieldsOf hp hd ?_)
  refine wpAny_bind (wpAny_of_eq (a := (t.cps, 0)) (by rfl) ?_)
  dsimp only
  rw [h6]
  simp only [Nat.reduceBEq, Bool.and_false, Bool.false_and, Bool.false_eq_true, if_false, beq_self_eq_true]
  refine wpAny_bind (wpAny_of_eq (a := ()) (by rfl) ?_)
  rw [h5]
  refine wpAny_bind ?_
  unfold reRawItems
  refine wpAny_bind (wpAny_seqItems hc hdc ?_)
  refine wpAny_pure (wpAny_pure ?_)
  dsimp only
  have e1 : min (Int.toNat 0) t.cps.size = 0 := Nat.zero_min _
  have e2 : min (2 ^ 63 - 1 : Int).toNat t.cps.size = t.cps.size := Nat.min_eq_right (by lia)
  rw [e1, e2]
  obtain ⟨m, e, hf, ho⟩ := search_said hm (reRawNat (fs.getD 2 .none))
  have e' : forSearch (Array.map (fun x => x.toNat) (Array.map reRawOf ((some items).getD #[]))) t.cps (reRawNat (fs.getD 2 .none)) 0 t.cps.size false = m.say false := e
  unfold reAnswer
  dsimp only
  rw [e']
  exact wpAny_bind (run_none hf ho (wpAny_pure ⟨_, rfl, h⟩))
end
end

section
theorem calm_HB1 : True := by
  w_top off
  exact trivial
open PySem.W PySem.Sre PySem.Builtin.Re
noncomputable def niceL : List Nat := [48, 49, 50, 51, 52, 53, 54, 55, 56, 57, 65, 66, 67, 97, 98, 99]
noncomputable def Nice (t : Str) : Prop := t.cps.size ≤ 8 ∧ ∀ i, i < t.cps.size → t.cps.getD i 0 ∈ niceL
noncomputable def niceB (t : Str) : Bool := decide (t.cps.size ≤ 8) && (List.range 8).all fun i => decide (t.cps.size ≤ i) || niceL.contains (t.cps.getD i 0)
theorem nice_of {t : Str} (h : niceB t = true) : Nice t := by
  obtain ⟨h1, h2⟩ := Bool.and_eq_true_iff.mp h
  have h1 := of_decide_eq_true h1
  refine ⟨h1, fun i hi => ?_⟩
  have := List.all_eq_true.mp h2 i (List.mem_range.mpr (by omega))
  rcases Bool.or_eq_true_iff.mp this with h | h
  · have := of_decide_eq_true h; omega
  · simpa using h
set_option maxRecDepth 1000000 in
theorem nice_ints : ((List.range 1024).all fun k => niceB (Str.ofString (toString (k : Int)))) = true := by decide +kernel
theorem nice_int {k : Int} (h : 0 ≤ k ∧ k < 1024) : Nice (Str.ofString (toString k)) := by
  obtain ⟨n, rfl⟩ : ∃ n : Nat, k = n := ⟨k.toNat, by lia⟩
  exact nice_of (List.all_eq_true.mp nice_ints n (List.mem_range.mpr (by lia)))
noncomputable def code96 : Array Nat := #[14, 10, 4, 1, 1, 22, 0, 31, 16, 127, 0, 13, 7, 22, 0, 31, 16, 127, 0, 1]
noncomputable def code101 : Array Nat := #[14, 14, 4, 1, 1, 9, 4294966783, 0, 0, 2147483648, 0, 0, 0, 0, 0, 13, 11, 9, 4294966783, 0, 0, 2147483648, 0, 0, 0, 0, 0, 1]
theorem nice96 : ∀ c ∈ niceL, ∀ seen, ∃ seen', inSet code96 c code96.size 5 true seen = .ok (false, seen') := by
  intro c hc seen
  simp only [niceL, List.mem_cons, List.not_mem_nil, or_false] at hc
  rcases hc with rfl | rfl | rfl | rfl | rfl | rfl | rfl | rfl | rfl | rfl | rfl | rfl | rfl | rfl | rfl | rfl <;> exact ⟨_, rfl⟩
theorem nice101 : ∀ c ∈ niceL, ∀ seen, ∃ seen', inSet code101 c code101.size 5 true seen = .ok (false, seen') := by
  intro c hc seen
  simp only [niceL, List.mem_cons, List.not_mem_nil, or_false] at hc
  rcases hc with rfl | rfl | rfl | rfl | rfl | rfl | rfl | rfl | rfl | rfl | rfl | rfl | rfl | rfl | rfl | rfl <;> exact ⟨_, rfl⟩
theorem mute96 {t : Str} (h : Nice t) : Mute code96 t.cps := ⟨rfl, rfl, fun i hi seen => nice96 _ (h.2 i hi) seen⟩
theorem mute101 {t : Str} (h : Nice t) : Mute code101 t.cps := ⟨rfl, rfl, fun i hi seen => nice101 _ (h.2 i hi) seen⟩
end

section
theorem calm_M2 : True := by
  w_top off
  exact trivial
noncomputable abbrev MM (w : World) : Model := model PySem.Challenge.rw_pg0288_01.row.prog w
noncomputable abbrev TopA (dp un : Nat) (gd : Option (List Code)) (outer : List Env) : Around := { handled := none, depth := dp, frames := some outer, guards := gd, units := un }

/-- what a call that changes no elder object does: from any state -/
noncomputable def PCtr (w : World) (f : Addr) (vs : List Value) (P : Heap → Prop) (post : Value → List (Addr × Obj) → Prop) (lv un0 : Nat) : Prop :=
  ∀ (p : Program) (loose : List Str) (mean : ExcName → Option Value) (mg mb : Str → Option Value)
    (dp un : Nat) (gd : Option (List Code)) (outer : List Env) (A₀ : Around) (base : Heap) (s : Shared) (Q E : Value → Shared → Prop),
    Below A₀ base outer s.heap → (nk.heap_1 w.params).In s.heap → Top p loose mean mg mb s.heap → dp + lv < recursionLimit → un + un0 < cLine → 0 < s.toks → P s.heap →
    (∀ v h' tk' own, post v own → 0 < tk' → s.heap.StaysIn h' → (∀ q ∈ own, h'.get? q.1 = some q.2 ∧ s.heap.get? q.1 = none) → Q v { s with heap := h', toks := tk' }) →
    wpAny (MM w) (TopA dp un gd outer) (call (.ref f) vs) Q E s
theorem PCtr.of {w : World} {f : Addr} {vs : List Value} {P : Heap → Prop} {post : Value → List (Addr × Obj) → Prop} {lv un0 : Nat}
    (H : ∀ (p : Program) (loose : List Str) (mean : ExcName → Option Value) (mg mb : Str → Option Value)
    (dp un : Nat) (gd : Option (List Code)) (outer : List Env) (A₀ : Around) (base : Heap) (s : Shared) (Q E : Value → Shared → Prop),
    Below A₀ base outer s.heap → (nk.heap_1 w.params).In s.heap → Top p loose mean mg mb s.heap → dp + lv < recursionLimit → un + un0 < cLine → 0 < s.toks → P s.heap →
    (∀ v h' tk' own, post v own → s.heap.StaysIn h' → (∀ q ∈ own, h'.get? q.1 = some q.2 ∧ s.heap.get? q.1 = none) → Q v { s with heap := h', toks := tk' }) →
    wpAny (MM w) (TopA dp un gd outer) (call (.ref f) vs) Q E s) : PCtr w f vs P post lv un0 :=
  fun p loose mean mg mb dp un gd outer A₀ base s _ E B X T hd hu htk hp hret =>
    with_toks (H p loose mean mg mb dp un gd outer A₀ base s _ E B X T hd hu htk hp fun v h' tk' own hpo st hq => fun hle => hret v h' tk' own hpo (Nat.lt_of_lt_of_le htk hle) st hq)

theorem p_enter {w : World} {p : Program} {loose : List Str} {mean : ExcName → Option Value} {mg mb : Str → Option Value} {dp un : Nat} {gd : Option (List Code)} {outer : List Env} {A₀ : Around} {base : Heap} {s : Shared}
    {R : Result → Shared → Prop} {name qual : Str} {params : Arguments} {body : List Stmt} {scope : Scope} {dV kV doc pm cdv ct oc : Value} {an od : Option Addr} {osl : Array (Option Value)} {f : Addr} {args : Args} {binds : List (Str × Value)}
    (_B : Below A₀ base outer s.heap) (X : (nk.heap_1 w.params).In s.heap) (T : Top p loose mean mg mb s.heap)
    (ho : (nk.heap_1 w.params).lookup f = some ⟨oc, od, .func (fnOf name qual params body scope dV kV doc pm an cdv ct), osl⟩) (hcd : codeIn (nk.heap_1 w.params) cdv qual = true) (hroom : dp < recursionLimit)
    (hbind : BindsTo s (fnOf name qual params body scope dV kV doc pm an cdv ct) args binds) (hloc : ∀ y ∈ binds, scope.names.lookup y.1 = some .local)
    (h : ∀ L h₁, Fr s.heap L h₁ (fun y => binds.reverse.lookup y) → News s.heap L h₁ [] →
      wpAny (MM w) ((TopA dp un gd outer).deeper (envOf qual scope L f cdv)) (execs body (envOf qual scope L f cdv))
        (fun fl s' => R (.ok (.ret (match fl with | .ret v => v | _ => .none))) s')
        (fun e s' => wpAny (MM w) ((TopA dp un gd outer).deeper (envOf qual scope L f cdv)) (leaving (envOf qual scope L f cdv) e) (fun _ s'' => R (.error e) s'') (fun e' s'' => R (.error e') s'') s')
        { s with heap := h₁, toks := s.toks + binds.length })
    (hco : scope.isCoroutine = false) (hgen : scope.isGenerator = false) (hk : scope.kind = .function)
    (hcell : ∀ x ∈ scope.names, x.2 ≠ .cell) : codeAny (MM w) (TopA dp un gd outer) (.call (.ref f) args) R s :=
  codeAny_call_def (fd := fnOf name qual params body scope dV kV doc pm an cdv ct) (body := body) (binds := binds) hroom (X _ _ ho) rfl T.nolimit (codeRec_of X hcd) rfl hbind hcell hloc
    (fun h₁ hns hk₁ => h s.heap.objs.size h₁ ⟨hns, hk₁, Nat.le_refl _⟩ News.nil) hco hgen hk

noncomputable def Hold (p : Prop) : Prop := p
theorem hold {p : Prop} (h : Hold p) : p := h
/-- a datum of an inhabited type; used for a statement's constants -/
noncomputable def ne_of (α : Type) (h : Nonempty α) : α := Classical.choice h
theorem ne_world : Nonempty World := ⟨⟨fun _ _ => 0, { strHash := fun _ => 0, shareClass := fun _ => 0, mergeTok := id, idOf := fun _ => 0, idOfShared := fun _ _ => 0, followText := fun _ => false, idOfImm := fun _ => 0 }⟩⟩
theorem lst3 {α : Type} {l : List α} (h : l.length = 3) : ∃ a b c, l = [a, b, c] := by
  match l, h with
  | [a, b, c], _ => exact ⟨a, b, c, rfl⟩
theorem arr3 {its : Array Value} (h : its.size = 3) {a b c : Value} (e0 : its[0]? = some a) (e1 : its[1]? = some b) (e2 : its[2]? = some c) : its = #[a, b, c] := by
  obtain ⟨l⟩ := its
  obtain ⟨x, y, z, rfl⟩ := lst3 h
  cases e0; cases e1; cases e2; rfl
theorem lt3 {i : Nat} (h : i < 3) : i = 0 ∨ i = 1 ∨ i = 2 := by omega
theorem three_of {vs : List Value} {ns : List Int} (i : IntsAre vs ns) (e : ns.length = 0 + 1 + 1 + 1) : ∃ a b c ta tb tc, ns = [a, b, c] ∧ vs = [.int a ta, .int b tb, .int c tc] := by
  obtain ⟨a, b, c, rfl⟩ := lst3 e
  obtain ⟨x, y, z, rfl⟩ := lst3 i.length
  obtain ⟨ta, h1⟩ := i.get 0 a rfl
  obtain ⟨tb, h2⟩ := i.get 1 b rfl
  obtain ⟨tc, h3⟩ := i.get 2 c rfl
  cases h1; cases h2; cases h3
  exact ⟨a, b, c, ta, tb, tc, rfl, rfl⟩
theorem ltV_ex {x y : UInt64} {a b : Int} {e : Nat} (hx : Ex x a e) (hy : Ex y b e) (t u : Tok) : Flt.ltV (.float x t) (.float y u) = decide (a < b) := by
  show (Float64.cmp x y == some .lt) = _
  rw [cmp_ex hx hy]
  rcases Int.lt_trichotomy a b with h | h | h
  · rw [Int.compare_eq_lt.mpr h, decide_eq_true h]; rfl
  · subst h; rw [decide_eq_false (Int.lt_irrefl _)]; simp
  · rw [Int.compare_eq_gt.mpr h, decide_eq_false (by lia)]; rfl
theorem cmp_eq_ex {x y : UInt64} {a b : Int} {e : Nat} (hx : Ex x a e) (hy : Ex y b e) : (Float64.cmp x y == some .eq) = decide (a = b) := by
  rw [cmp_ex hx hy]
  rcases Int.lt_trichotomy a b with h | h | h
  · rw [Int.compare_eq_lt.mpr h, decide_eq_false (by lia)]; rfl
  · subst h; simp
  · rw [Int.compare_eq_gt.mpr h, decide_eq_false (by lia)]; rfl
theorem ite_eq_tt {x y : UInt64} {a b : Int} {e : Nat} {P Q : Prop} (hx : Ex x a e) (hy : Ex y b e) (h : a = b) (hp : P) : if (Float64.cmp x y == some .eq) = true then P else Q := by
  rw [cmp_eq_ex hx hy, decide_eq_true h, if_pos rfl]; exact hp
theorem ite_eq_ff {x y : UInt64} {a b : Int} {e : Nat} {P Q : Prop} (hx : Ex x a e) (hy : Ex y b e) (h : a ≠ b) (hq : Q) : if (Float64.cmp x y == some .eq) = true then P else Q := by
  rw [cmp_eq_ex hx hy, decide_eq_false h, if_neg (by decide)]; exact hq
section
variable {prog : Program} {w : World} {A : Around} {E : Value → Shared → Prop} {s : Shared} {h₀ : Heap} {L : Addr} {m : Str → Option Value}
theorem item_base {value slice : Expr} {a : Addr} {l : List Value} {k : Int} {u : Tok} {v : Value} {Q : Value → Shared → Prop} (F : Fr h₀ L s.heap m) (hl : h₀.IsList a l.toArray) (h0 : 0 ≤ k) (hhi : k < 2 ^ 63) (hx : l[k.toNat]? = some v) (h : Q v s)
    (hs : subscripted slice false (.ref a) (.int k u) = operate [.ref a, .int k u] (getItem (.ref a) (.int k u)) := by with_unfolding_all rfl) :
    wpAny (model prog w) A (subscriptTail value slice (.ref a) (.int k u)) Q E s :=
  have hL : s.heap.IsList a l.toArray := hl.at fun o e => F.keep a o e
  tail_any hL.typeIs slot_list_getitem.lookup (wpAny_getItem_list hL h0 hhi (by simpa using hx) h) hs
theorem tup_base {value slice : Expr} {a : Addr} {l : List Value} {k : Int} {u : Tok} {j : Nat} {v : Value} {Q : Value → Shared → Prop} (F : Fr h₀ L s.heap m) (hl : IsTup h₀ a l.toArray) (h0 : -(2 ^ 63) ≤ k) (hhi : k < 2 ^ 63) (hj : seqIndex? k l.length = some j) (hx : l[j]? = some v) (h : Q v s)
    (hs : subscripted slice false (.ref a) (.int k u) = operate [.ref a, .int k u] (getItem (.ref a) (.int k u)) := by with_unfolding_all rfl) :
    wpAny (model prog w) A (subscriptTail value slice (.ref a) (.int k u)) Q E s :=
  item_tupleT (IsTup.keeps hl F.keep) h0 hhi hj hx h hs
theorem max3_ex {x y z : UInt64} {a b c : Int} {e : Nat} {t u v : Tok} {news : List (Addr × Obj)} {Q : Value → Shared → Prop} (hx : Ex x a e) (hy : Ex y b e) (hz : Ex z c e) (hh : A.handled = none) (F : Fr h₀ L s.heap m) (N : News h₀ L s.heap news)
    (h : ∀ h' tk r rt, Ex r (max (max a b) c) e → (rt = t ∨ rt = u ∨ rt = v) → s.toks ≤ tk → Fr h₀ L h' m → News h₀ L h' news → Q (.float r rt) { s with heap := h', toks := tk }) :
    wpAny (model prog w) A (call (.builtin "max") [.float x t, .float y u, .float z v]) Q E s := by
  refine with_toks ?_
  have hT : (s.heap.push { cls := .type "tuple", data := .seq #[.float x t, .float y u, .float z v] }).IsTuple s.heap.objs.size #[.float x t, .float y u, .float z v] := ⟨_, Heap.get?_push_size _ rfl, rfl, 0, rfl⟩
  refine call_max_three (wpAny_pyIter_tuple hT ?_)
  have hsz : (s.heap.push { cls := .type "tuple", data := .seq #[.float x t, .float y u, .float z v] }).objs.size = s.heap.objs.size + 1 := Heap.size_push ..
  refine ⟨_, [_, s.heap.objs.size], [_], _, _, _, _, rfl, Walks.tuple (A := A.in1) hh _ s.heap.objs.size (by rw [hsz]; exact Nat.ne_of_lt (Nat.lt_succ_self _)) #[.float x t, .float y u, .float z v],
    ⟨⟨_, Heap.get?_push_size _ rfl, rfl, rfl⟩, hT.push _⟩, fun d hd => ?_, by simp, Flt.cmpOf_gt #[.float x t, .float y u, .float z v] (by simp [Flt.NumV.float]), fun w' h' tk hP hk => ?_⟩
  · show d < ((s.heap.push _).push _).objs.size
    rw [Heap.size_push, hsz]
    rcases List.mem_cons.mp hd with rfl | hd
    · rw [hsz]; exact Nat.lt_succ_self _
    · rcases List.mem_cons.mp hd with rfl | hd
      · exact Nat.lt_succ_of_lt (Nat.lt_succ_self _)
      · cases hd
  · have hold : ∀ d o, s.heap.get? d = some o → h'.get? d = some o := fun d o e => by
      refine hk d o (fun hm => ?_) (Heap.get?_push_of_some _ (Heap.get?_push_of_some _ e))
      rcases List.mem_cons.mp hm with e1 | hm
      · have := Heap.lt_size e; rw [e1, hsz] at this; exact Nat.lt_irrefl _ (Nat.lt_of_succ_lt this)
      · cases hm
    refine fun hle => ?_
    have key := fun r rt hr hrt => h h' tk r rt hr hrt hle (F.grownK hold) (N.grown hold)
    have l1 := ltV_ex hx hy t u
    have l2 := ltV_ex hy hz u v
    have l3 := ltV_ex hx hz t v
    have e1 : max (max a b) c = if a < b then (if b < c then c else b) else (if a < c then c else a) := by
      repeat' split
      all_goals omega
    rw [e1] at key
    by_cases h1 : a < b
    · rw [decide_eq_true h1] at l1
      by_cases h2 : b < c
      · rw [decide_eq_true h2] at l2
        simp only [h1, h2, if_true] at key
        simp [argBest, l1, l2] at hP
        rw [← hP]; exact key z v hz (.inr (.inr rfl))
      · rw [decide_eq_false h2] at l2
        simp only [h1, h2, if_true, if_false] at key
        simp [argBest, l1, l2] at hP
        rw [← hP]; exact key y u hy (.inr (.inl rfl))
    · rw [decide_eq_false h1] at l1
      by_cases h2 : a < c
      · rw [decide_eq_true h2] at l3
        simp only [h1, h2, if_true, if_false] at key
        simp [argBest, l1, l3] at hP
        rw [← hP]; exact key z v hz (.inr (.inr rfl))
      · rw [decide_eq_false h2] at l3
        simp only [h1, h2, if_false] at key
        simp [argBest, l1, l3] at hP
        rw [← hP]; exact key x t hx (.inl rfl)
theorem min3_ex {x y z : UInt64} {a b c : Int} {e : Nat} {t u v : Tok} {news : List (Addr × Obj)} {Q : Value → Shared → Prop} (hx : Ex x a e) (hy : Ex y b e) (hz : Ex z c e) (hh : A.handled = none) (F : Fr h₀ L s.heap m) (N : News h₀ L s.heap news)
    (h : ∀ h' tk r rt, Ex r (min (min a b) c) e → (rt = t ∨ rt = u ∨ rt = v) → s.toks ≤ tk → Fr h₀ L h' m → News h₀ L h' news → Q (.float r rt) { s with heap := h', toks := tk }) :
    wpAny (model prog w) A (call (.builtin "min") [.float x t, .float y u, .float z v]) Q E s := by
  refine with_toks ?_
  have hT : (s.heap.push { cls := .type "tuple", data := .seq #[.float x t, .float y u, .float z v] }).IsTuple s.heap.objs.size #[.float x t, .float y u, .float z v] := ⟨_, Heap.get?_push_size _ rfl, rfl, 0, rfl⟩
  refine call_min_three (wpAny_pyIter_tuple hT ?_)
  have hsz : (s.heap.push { cls := .type "tuple", data := .seq #[.float x t, .float y u, .float z v] }).objs.size = s.heap.objs.size + 1 := Heap.size_push ..
  refine ⟨_, [_, s.heap.objs.size], [_], _, _, _, _, rfl, Walks.tuple (A := A.in1) hh _ s.heap.objs.size (by rw [hsz]; exact Nat.ne_of_lt (Nat.lt_succ_self _)) #[.float x t, .float y u, .float z v],
    ⟨⟨_, Heap.get?_push_size _ rfl, rfl, rfl⟩, hT.push _⟩, fun d hd => ?_, by simp, Flt.cmpOf_lt #[.float x t, .float y u, .float z v] (by simp [Flt.NumV.float]), fun w' h' tk hP hk => ?_⟩
  · show d < ((s.heap.push _).push _).objs.size
    rw [Heap.size_push, hsz]
    rcases List.mem_cons.mp hd with rfl | hd
    · rw [hsz]; exact Nat.lt_succ_self _
    · rcases List.mem_cons.mp hd with rfl | hd
      · exact Nat.lt_succ_of_lt (Nat.lt_succ_self _)
      · cases hd
  · have hold : ∀ d o, s.heap.get? d = some o → h'.get? d = some o := fun d o e => by
      refine hk d o (fun hm => ?_) (Heap.get?_push_of_some _ (Heap.get?_push_of_some _ e))
      rcases List.mem_cons.mp hm with e1 | hm
      · have := Heap.lt_size e; rw [e1, hsz] at this; exact Nat.lt_irrefl _ (Nat.lt_of_succ_lt this)
      · cases hm
    refine fun hle => ?_
    have key := fun r rt hr hrt => h h' tk r rt hr hrt hle (F.grownK hold) (N.grown hold)
    have l1 := ltV_ex hy hx u t
    have l2 := ltV_ex hz hy v u
    have l3 := ltV_ex hz hx v t
    have e1 : min (min a b) c = if b < a then (if c < b then c else b) else (if c < a then c else a) := by
      repeat' split
      all_goals omega
    rw [e1] at key
    by_cases h1 : b < a
    · rw [decide_eq_true h1] at l1
      by_cases h2 : c < b
      · rw [decide_eq_true h2] at l2
        simp only [h1, h2, if_true] at key
        simp [argBest, l1, l2] at hP
        rw [← hP]; exact key z v hz (.inr (.inr rfl))
      · rw [decide_eq_false h2] at l2
        simp only [h1, h2, if_true, if_false] at key
        simp [argBest, l1, l2] at hP
        rw [← hP]; exact key y u hy (.inr (.inl rfl))
    · rw [decide_eq_false h1] at l1
      by_cases h2 : c < a
      · rw [decide_eq_true h2] at l3
        simp only [h1, h2, if_true, if_false] at key
        simp [argBest, l1, l3] at hP
        rw [← hP]; exact key z v hz (.inr (.inr rfl))
      · rw [decide_eq_false h2] at l3
        simp only [h1, h2, if_false] at key
        simp [argBest, l1, l3] at hP
        rw [← hP]; exact key x t hx (.inl rfl)
theorem max3_i {a b c : Int} {t u v : Tok} {news : List (Addr × Obj)} {Q : Value → Shared → Prop} (hh : A.handled = none) (F : Fr h₀ L s.heap m) (N : News h₀ L s.heap news)
    (h : ∀ h' tk rt, Fr h₀ L h' m → News h₀ L h' news → Q (.int (max (max a b) c) rt) { s with heap := h', toks := tk }) :
    wpAny (model prog w) A (call (.builtin "max") [.int a t, .int b u, .int c v]) Q E s := by
  refine max_three_ints hh fun h' tk hk => ?_
  have key := fun rt => h h' tk rt (F.grownK hk) (N.grown hk)
  have e1 : max (max a b) c = if b > a then (if c > b then c else b) else (if c > a then c else a) := by
    repeat' split
    all_goals lia
  rw [e1] at key
  by_cases hba : b > a <;> by_cases hc1 : c > b <;> by_cases hc2 : c > a <;> simp only [hba, hc1, hc2, if_true, if_false] at key ⊢ <;> exact key _
theorem min3_i {a b c : Int} {t u v : Tok} {news : List (Addr × Obj)} {Q : Value → Shared → Prop} (hh : A.handled = none) (F : Fr h₀ L s.heap m) (N : News h₀ L s.heap news)
    (h : ∀ h' tk rt, Fr h₀ L h' m → News h₀ L h' news → Q (.int (min (min a b) c) rt) { s with heap := h', toks := tk }) :
    wpAny (model prog w) A (call (.builtin "min") [.int a t, .int b u, .int c v]) Q E s := by
  refine min_three_ints hh fun h' tk hk => ?_
  have key := fun rt => h h' tk rt (F.grownK hk) (N.grown hk)
  have e1 : min (min a b) c = if b < a then (if c < b then c else b) else (if c < a then c else a) := by
    repeat' split
    all_goals lia
  rw [e1] at key
  by_cases hba : b < a <;> by_cases hc1 : c < b <;> by_cases hc2 : c < a <;> simp only [hba, hc1, hc2, if_true, if_false] at key ⊢ <;> exact key _
theorem max2_i {a b : Int} {t u : Tok} {news : List (Addr × Obj)} {Q : Value → Shared → Prop} (hh : A.handled = none) (F : Fr h₀ L s.heap m) (N : News h₀ L s.heap news)
    (h : ∀ h' tk rt, Fr h₀ L h' m → News h₀ L h' news → Q (.int (max a b) rt) { s with heap := h', toks := tk }) :
    wpAny (model prog w) A (call (.builtin "max") [.int a t, .int b u]) Q E s := by
  refine max_two_N hh F N fun h' tk F' N' => ?_
  have e1 : max a b = if b > a then b else a := by split <;> lia
  have := h h' tk (if b > a then u else t) F' N'
  rw [e1] at this
  exact this
theorem min2_i {a b : Int} {t u : Tok} {news : List (Addr × Obj)} {Q : Value → Shared → Prop} (hh : A.handled = none) (F : Fr h₀ L s.heap m) (N : News h₀ L s.heap news)
    (h : ∀ h' tk rt, Fr h₀ L h' m → News h₀ L h' news → Q (.int (min a b) rt) { s with heap := h', toks := tk }) :
    wpAny (model prog w) A (call (.builtin "min") [.int a t, .int b u]) Q E s := by
  refine min_two_N hh F N fun h' tk F' N' => ?_
  have e1 : min a b = if b < a then b else a := by split <;> lia
  have := h h' tk (if b < a then u else t) F' N'
  rw [e1] at this
  exact this
theorem bits_small {a : Int} (h1 : -4611686018427387904 ≤ a) (h2 : a ≤ 4611686018427387904) : Builtin.Int.intBits a ≤ 64 := bits_of_natAbs_le (b := 4611686018427387904) (by lia) (by decide)
theorem mul_smallL {a b : Int} {t u : Tok} {Q : Value → Shared → Prop} (h1 : -4611686018427387904 ≤ a) (h2 : a ≤ 4611686018427387904) (h : Q (.int (a * b) s.toks) { s with toks := s.toks + 1 }) :
    wpAny (model prog w) A (binaryOp .Mult (.int a t) (.int b u)) Q E s := PyProof.Rows.mul_int h (IntMulOk.of_left (bits_small h1 h2))
theorem mul_smallR {a b : Int} {t u : Tok} {Q : Value → Shared → Prop} (h1 : -4611686018427387904 ≤ b) (h2 : b ≤ 4611686018427387904) (h : Q (.int (a * b) s.toks) { s with toks := s.toks + 1 }) :
    wpAny (model prog w) A (binaryOp .Mult (.int a t) (.int b u)) Q E s := PyProof.Rows.mul_int h (IntMulOk.of_right (bits_small h1 h2))
end

theorem tok_or3 {r a b c : Tok} (h : r = a ∨ r = b ∨ r = c) (k : a ≠ 0 ∧ b ≠ 0 ∧ c ≠ 0) : r ≠ 0 := by
  rcases h with rfl | rfl | rfl
  · exact k.1
  · exact k.2.1
  · exact k.2.2
theorem strKeys_of {es : List DictEntry} (h : (es.all fun e => match e.key with | .str _ _ => true | _ => false) = true) : StrKeys es.toArray := fun e he => by
  have := List.all_eq_true.mp h e (by simpa using he)
  split at this
  · exact ⟨_, _, by assumption⟩
  · cases this
/-- the row of execs, its tokens known to be handed out -/
theorem gen_toks {M : Model} {A : Around} {E : Value → Shared → Prop} {s : Shared} {stmts : List Stmt} {env : Env} {Q : Flow → Shared → Prop} (hp : 0 < s.toks) (h : ∀ tk, 0 < tk → wpAny M A (execs stmts env) Q E { s with toks := tk }) : wpAny M A (execs stmts env) Q E s := h s.toks hp
theorem fill : PySem.Challenge.rw_pg0288_01 = PySem.Challenge.rw_pg0288_01 ∧ nk.heap_1 = nk.heap_1 := by
  k_fill
  exact ⟨rfl, rfl⟩
end

section
theorem calm_K0 : True := by
  w_top off
  exact trivial
open PySem.W
/-- the law's def, out of the row itself -/
noncomputable def law0 : Stmt := (PySem.Challenge.pw_pg0288_01.main.body.getLast?).getD (.Pass ⟨0,0,0,0⟩)
noncomputable def lawB0 : List Stmt := match law0 with | .FunctionDef _ _ b .. => b | _ => []
noncomputable def lawS0 : Scope := match law0 with | .FunctionDef (scope := s) .. => s | _ => ⟨.function, [], false, false, []⟩
noncomputable def scP : { x : Scope // lawS0 = x } := ⟨_, by conv => lhs; whnf⟩
noncomputable abbrev lawScope : Scope := scP.1
noncomputable def bodyOf : Stmt → List Stmt
  | .For _ _ b _ _ => b
  | .While _ b _ _ => b
  | .If _ b _ _ => b
  | _ => []
noncomputable def lawSt (n : Nat) : Stmt := lawB0.getD n (.Pass ⟨0,0,0,0⟩)
noncomputable def lawCl (L : Addr) : List (Str × Addr) := [("n", L + 1 + 10), ("z", L + 1 + 9), ("y", L + 1 + 8), ("three", L + 1 + 7), ("two", L + 1 + 6), ("one", L + 1 + 5), ("i", L + 1 + 4), ("j", L + 1 + 3), ("told", L + 1 + 2), ("k", L + 1 + 1), ("x", L + 1)]
noncomputable def lawEnv (L fa : Addr) (cd : Value) : Env := envX "law" lawScope L fa cd (lawCl L)
theorem lawCl_eq (L : Addr) : cellsFrom (L + 1) lawScope.names [] = lawCl L := by rfl
theorem lawEnv_eq (L fa : Addr) (cd : Value) : envOfC "law" lawScope L fa cd = lawEnv L fa cd := by rfl

/-! the ledger: no address twice; abstract cells behind a written front -/
noncomputable def NDup (l : List (Addr × Obj)) : Prop := (l.map (·.1)).Nodup
theorem NDup.cons {T : Addr} {o : Obj} {l : List (Addr × Obj)} (N : NDup l) (h : ∀ p ∈ l, p.1 ≠ T) : NDup ((T, o) :: l) :=
  List.nodup_cons.mpr ⟨fun hm => by obtain ⟨q, hq, e⟩ := List.mem_map.mp hm; exact h q hq e, N⟩
theorem NDup.tail {p : Addr × Obj} {l : List (Addr × Obj)} (N : NDup (p :: l)) : NDup l := (List.nodup_cons.mp N).2
theorem NDup.head {p : Addr × Obj} {l : List (Addr × Obj)} (N : NDup (p :: l)) : ∀ q ∈ l, q.1 ≠ p.1 := fun q hq e => (List.nodup_cons.mp N).1 (List.mem_map.mpr ⟨q, hq, e⟩)
theorem NDup.perm {l l' : List (Addr × Obj)} (N : NDup l) (h : l.Perm l') : NDup l' := (h.map _).nodup_iff.mp N
theorem NDup.split {pre post : List (Addr × Obj)} {d : Addr} {o : Obj} (N : NDup (pre ++ (d, o) :: post)) : (∀ p ∈ pre, p.1 ≠ d) ∧ ∀ p ∈ post, p.1 ≠ d := by
  have h : NDup ((d, o) :: (pre ++ post)) := N.perm List.perm_middle
  exact ⟨fun p hp => h.head p (List.mem_append.mpr (.inl hp)), fun p hp => h.head p (List.mem_append.mpr (.inr hp))⟩
theorem NDup.of_map {l l' : List (Addr × Obj)} (N : NDup l) (h : l'.map (·.1) = l.map (·.1)) : NDup l' := by unfold NDup; rw [h]; exact N
theorem NDup.sub {l l' : List (Addr × Obj)} (N : NDup l) (h : l'.Sublist l) : NDup l' := List.Nodup.sublist (h.map _) N
/-- an update told without a word on the addresses -/
inductive UpdN (d : Addr) (o o' : Obj) : List (Addr × Obj) → List (Addr × Obj) → Prop
  | head {r} : UpdN d o o' ((d, o) :: r) ((d, o') :: r)
  | tail {p r r'} : UpdN d o o' r r' → UpdN d o o' (p :: r) (p :: r')
theorem UpdN.split {d : Addr} {o o' : Obj} {l l' : List (Addr × Obj)} (U : UpdN d o o' l l') : ∃ pre post, l = pre ++ (d, o) :: post ∧ l' = pre ++ (d, o') :: post := by
  induction U with
  | head => exact ⟨[], _, rfl, rfl⟩
  | tail _ ih => obtain ⟨pre, post, rfl, rfl⟩ := ih; exact ⟨_ :: pre, post, rfl, rfl⟩
theorem UpdN.ndup {d : Addr} {o o' : Obj} {l l' : List (Addr × Obj)} (U : UpdN d o o' l l') (N : NDup l) : NDup l' := by
  obtain ⟨pre, post, rfl, rfl⟩ := U.split
  exact N.of_map (by simp)
inductive App : List (Addr × Obj) → List (Addr × Obj) → List (Addr × Obj) → Prop
  | nil {X} : App X [] X
  | cons {p r pre X} : App r pre X → App (p :: r) (p :: pre) X
theorem App.eq {n pre X : List (Addr × Obj)} (h : App n pre X) : n = pre ++ X := by
  induction h with
  | nil => rfl
  | cons _ ih => rw [ih]; rfl
inductive Part : List (Addr × Obj) → List (Addr × Obj) → List (Addr × Obj) → Prop
  | nil : Part [] [] []
  | keep {p r k t} : Part r k t → Part (p :: r) (p :: k) t
  | tmp {p r k t} : Part r k t → Part (p :: r) k (p :: t)
theorem Part.perm {l k t : List (Addr × Obj)} (h : Part l k t) : l.Perm (k ++ t) := by
  induction h with
  | nil => exact .nil
  | keep _ ih => exact .cons _ ih
  | tmp _ ih => exact (List.Perm.cons _ ih).trans List.perm_middle.symm
theorem refreeze {g h : Heap} {L : Addr} {news pre keep tmp cells frz : List (Addr × Obj)} (P : App news pre (cells ++ frz)) (Q : Part pre keep tmp) (N : News g L h news) (D : NDup news) :
    News g L h (keep ++ (cells ++ (tmp ++ frz))) ∧ NDup (keep ++ (cells ++ (tmp ++ frz))) := by
  obtain rfl := P.eq
  have hp : (pre ++ (cells ++ frz)).Perm (keep ++ (cells ++ (tmp ++ frz))) := by
    refine (Q.perm.append_right _).trans ?_
    rw [List.append_assoc]
    refine List.Perm.append_left _ ?_
    rw [← List.append_assoc, ← List.append_assoc]
    exact (List.perm_append_comm).append_right _
  exact ⟨fun p hp' => N p (hp.symm.subset hp'), D.perm hp⟩
theorem cells_find {cm : Str → Option Value} {cl : List (Str × Addr)} {cells : List (Addr × Obj)} (Y : CellsAre cm cl cells) {x : Str} {c : Addr} (h : cl.lookup x = some c) : ∃ o, (c, o) ∈ cells ∧ o.data = .cell (cm x) := by
  induction Y with
  | nil => cases h
  | @cons n c' o cs cells hd _ ih =>
    rw [List.lookup_cons] at h
    cases hb : x == n with
    | true => rw [hb] at h; cases h; rw [eq_of_beq hb]; exact ⟨o, .head _, hd⟩
    | false => rw [hb] at h; obtain ⟨o', hm, hd'⟩ := ih h; exact ⟨o', .tail _ hm, hd'⟩
theorem cells_same {cm cm' : Str → Option Value} {cl : List (Str × Addr)} {cells : List (Addr × Obj)} (Y : CellsAre cm cl cells) (h : ∀ n ∈ cl.map (·.1), cm' n = cm n) : CellsAre cm' cl cells := by
  induction Y with
  | nil => exact .nil
  | cons hd _ ih => exact .cons (by rw [h _ (.head _)]; exact hd) (ih fun n hn => h n (.tail _ hn))
theorem cells_set {cm : Str → Option Value} {cl : List (Str × Addr)} {cells : List (Addr × Obj)} (Y : CellsAre cm cl cells) {x : Str} {c : Addr} (h : cl.lookup x = some c) (hn : (cl.map (·.1)).Nodup) (v : Value) :
    ∃ pre o post, cells = pre ++ (c, o) :: post ∧ o.data = .cell (cm x) ∧ ∀ o', o'.data = .cell (some v) → CellsAre (fun y => if y = x then some v else cm y) cl (pre ++ (c, o') :: post) := by
  induction Y with
  | nil => cases h
  | @cons n c' o cs cells hd Y' ih =>
    rw [List.lookup_cons] at h
    rw [List.map_cons, List.nodup_cons] at hn
    cases hb : x == n with
    | true =>
      rw [hb] at h; cases h
      have e := eq_of_beq hb
      subst e
      refine ⟨[], o, cells, rfl, hd, fun o' ho' => .cons (by rw [if_pos rfl]; exact ho') (cells_same Y' fun m hm => ?_)⟩
      rw [if_neg]; rintro rfl; exact hn.1 hm
    | false =>
      rw [hb] at h
      obtain ⟨pre, o₁, post, rfl, hd₁, hY⟩ := ih h hn.2
      refine ⟨(c', o) :: pre, o₁, post, rfl, hd₁, fun o' ho' => .cons ?_ (hY o' ho')⟩
      rw [if_neg]
      · exact hd
      · rintro rfl; simp at hb
section
variable {M : Model} {A : Around} {E : Value → Shared → Prop} {s : Shared} {h₀ : Heap} {L a : Addr} {m cm : Str → Option Value} {cn : Str} {cs : Scope} {ccd : Value} {cl : List (Str × Addr)}
  {x : Str} {v : Value} {news pre cells frz : List (Addr × Obj)} {c : Addr} {o : Obj}
theorem nameC {pos : Pos} {Q : Value → Shared → Prop} (N : News h₀ L s.heap news) (P : App news pre (cells ++ frz)) (Y : CellsAre cm cl cells) (hc : cl.lookup x = some c) (hv : cm x = some v) (h : Q v s)
    (hk : cs.kind = .function) (hx : (envX cn cs L a ccd cl).kindOf x = some .cell) (hb : (x == ("__debug__" : Str)) = false) :
    wpAny M A (eval (.Name x pos) (envX cn cs L a ccd cl)) Q E s := by
  obtain ⟨o, hm, hd⟩ := cells_find Y hc
  rw [hv] at hd
  rw [P.eq] at N
  exact nameX_C N hc (List.mem_append.mpr (.inr (List.mem_append.mpr (.inl hm)))) hd h hk hx hb
theorem storeC {Q : Unit → Shared → Prop} (F : Fr h₀ L s.heap m) (N : News h₀ L s.heap news) (D : NDup news) (P : App news pre (cells ++ frz)) (Y : CellsAre cm cl cells) (hc : cl.lookup x = some c) (hn : (cl.map (·.1)).Nodup)
    (h : ∀ h' cells', Fr h₀ L h' m → News h₀ L h' (pre ++ (cells' ++ frz)) → NDup (pre ++ (cells' ++ frz)) → CellsAre (fun y => if y = x then some v else cm y) cl cells' → Q () { s with heap := h' })
    (hk : cs.kind = .function) (hx : (envX cn cs L a ccd cl).kindOf x = some .cell) : wpAny M A (storeName (envX cn cs L a ccd cl) x v) Q E s := by
  obtain ⟨cp, o, cq, rfl, hd, hY⟩ := cells_set Y hc hn v
  obtain rfl := P.eq
  have e : ∀ o' : Obj, pre ++ ((cp ++ (c, o') :: cq) ++ frz) = (pre ++ cp) ++ (c, o') :: (cq ++ frz) := fun o' => by simp
  rw [e] at N D
  have hmem := N (c, o) (List.mem_append_right _ (.head _))
  have ⟨d1, d2⟩ := D.split
  refine wpAny_storeName_cell hk hx hc ⟨o, hmem.1, hd⟩ fun h' hv hs => ?_
  obtain ⟨o', ho', hd'⟩ := hv
  refine h h' (cp ++ (c, o') :: cq) ⟨F.ns.sameBut hs (Ne.symm hmem.2.1), fun b ob q => (hs.2 b (fun q' => ?_)).trans (F.keep b ob q), F.above⟩ (e o' ▸ N.setAt d1 d2 hs ho') (e o' ▸ D.of_map (by simp)) (hY o' hd')
  rw [q', hmem.2.2] at q; cases q
theorem newTup_D {vs : List Value} {Q : Value → Shared → Prop} (F : Fr h₀ L s.heap m) (N : News h₀ L s.heap news) (D : NDup news)
    (h : ∀ T h', Fr h₀ L h' m → News h₀ L h' ((T, { cls := .type "tuple", data := .seq vs.toArray }) :: news) → NDup ((T, { cls := .type "tuple", data := .seq vs.toArray }) :: news) → Q (.ref T) { s with heap := h' }) (hsz : vs.length ≤ sizeLine) :
    wpAny M A (newTuple vs) Q E s := newTuple_N F N (fun h' F' N' => h _ h' F' N' (D.cons fun p hp => Nat.ne_of_lt (Heap.lt_size (N p hp).1))) hsz
theorem newList_D {vs : List Value} {Q : Value → Shared → Prop} (F : Fr h₀ L s.heap m) (N : News h₀ L s.heap news) (D : NDup news)
    (h : ∀ T h', Fr h₀ L h' m → News h₀ L h' ((T, listOf vs.toArray 0) :: news) → NDup ((T, listOf vs.toArray 0) :: news) → Q (.ref T) { s with heap := h' }) (hsz : vs.length ≤ sizeLine) :
    wpAny M A (newList vs) Q E s := newList_N F N (fun h' F' N' => h _ h' F' N' (D.cons fun p hp => Nat.ne_of_lt (Heap.lt_size (N p hp).1))) hsz
end
section
variable {prog : Program} {w : World} {A : Around} {E : Value → Shared → Prop} {s : Shared} {h₀ : Heap} {L d : Addr} {m : Str → Option Value} {news news' : List (Addr × Obj)}
theorem append_D {its : Array Value} {n : Nat} {x : Value} {Q : Value → Shared → Prop} (F : Fr h₀ L s.heap m) (N : News h₀ L s.heap news) (D : NDup news) (U : UpdN d (listOf its n) (listOf (its.push x) (n + 1)) news news')
    (h : ∀ h', Fr h₀ L h' m → News h₀ L h' news' → NDup news' → Q .none { s with heap := h' }) (hsz : its.size ≤ sizeLine) : wpAny (model prog w) A (call (.builtin "list.append") [.ref d, x]) Q E s := by
  have D' := U.ndup D
  obtain ⟨pre, post, rfl, rfl⟩ := U.split
  obtain ⟨a, b⟩ := D.split
  have z := N (d, listOf its n) (List.mem_append.mpr (.inr (.head _)))
  exact append_at (hsz := hsz) z.1 fun h' hs ho' => h h' (F.change hs z.2.1 z.2.2) (news_set N a b hs ho') D'
end

/-! loops: any target, a ledger that may grow -/
noncomputable def TurnEnd (h₀ : Heap) (L : Addr) (s₁ : Shared) (I : Addr) (oI : Obj) (J : (Str → Option Value) → List (Addr × Obj) → Prop) (Q : Flow → Shared → Prop) (f : Flow) (s₂ : Shared) : Prop :=
  match f with
  | .ret v => Q (.ret v) s₂
  | .brk => Q .next s₂
  | _ => ∃ h' tk m' nx, s₂ = { s₁ with heap := h', toks := tk } ∧ Fr h₀ L h' m' ∧ News h₀ L h' ((I, oI) :: nx) ∧ NDup ((I, oI) :: nx) ∧ J m' nx
section
variable {prog : Program} {w : World} {A : Around} {E : Value → Shared → Prop} {s : Shared} {env : Env} {h₀ : Heap} {target : Expr} {body : List Stmt} {Q : Flow → Shared → Prop}
theorem loop_core {I : Addr} {fp : List Addr} {n : Nat} {P Md : Nat → Value → Heap → Prop} {St : Nat → Heap → Prop} {keep : List (Addr × Obj)} {m₀ : Str → Option Value} {news : List (Addr × Obj)} {hp : Heap} {tk0 : Nat}
    (J : Nat → (Str → Option Value) → List (Addr × Obj) → Prop) (W : KTurns prog w A target I fp [I] n P Md St) (hI : h₀.get? I = none)
    (hobj : ∀ i h, St i h → ∃ o, h.get? I = some o) (hfp : ∀ b ∈ fp, b = I ∨ ∃ o, (b, o) ∈ keep) (hL : env.locals ∉ fp) (hnw : ∀ p ∈ news, p.1 ≠ I) (hst : St 0 hp)
    (F : Fr h₀ env.locals hp m₀) (N : News h₀ env.locals hp news) (D : NDup news) (hk : ∀ p ∈ keep, p ∈ news) (h0 : J 0 m₀ news)
    (turn : ∀ i v m₁ nx h tk oI, i < n → P i v h → J i m₁ nx → (∀ p ∈ keep, p ∈ nx) → Fr h₀ env.locals h m₁ → News h₀ env.locals h ((I, oI) :: nx) → NDup ((I, oI) :: nx) →
      wpAny (model prog w) A (assign target env v) (fun _ s₂ => wpAny (model prog w) A (execs body env) (TurnEnd h₀ env.locals { s with heap := h, toks := tk } I oI (fun m' nx' => (∀ p ∈ keep, p ∈ nx') ∧ J (i + 1) m' nx') Q) E s₂) E { s with heap := h, toks := tk })
    (done : ∀ m₁ nx h tk, J n m₁ nx → Fr h₀ env.locals h m₁ → News h₀ env.locals h nx → NDup nx → Q .next { s with heap := h, toks := tk }) :
    TurnsAt prog w A h₀ env target body Q E (.ref I) { s with heap := hp, toks := tk0 } := by
  let J' : Nat → (Str → Option Value) → List (Addr × Obj) → Prop := fun i m₁ nx => NDup nx ∧ (∀ p ∈ keep, p ∈ nx) ∧ J i m₁ nx
  refine ⟨I, fp, [I], n, P, Md, St, m₀, news, J', rfl, W, hL, (fun b hb => by rw [List.mem_singleton.mp hb]; exact hI), (fun p hp hm => hnw p hp (List.mem_singleton.mp hm)), hst, F, N, ⟨D, hk, h0⟩, ?_, ?_⟩
  · rintro i v m₁ news₁ h₁ tk₁ own hin hPi ⟨D₁, hk₁, hJ⟩ hoff hown hget hall hst₁ F₁ N₁
    obtain ⟨oI, hoI⟩ := hobj _ _ hst₁
    have hIfp : I ∈ fp := W.sub _ (.head _)
    have hmem := hall I hIfp hI oI hoI
    have offI : ∀ p ∈ news₁, p.1 ≠ I := fun p hp e => hoff p hp (by rw [e]; exact .head _)
    have N₂ : News h₀ env.locals h₁ ((I, oI) :: news₁) := fun p hp => by
      rcases List.mem_cons.mp hp with rfl | hp
      · exact N₁ _ (List.mem_append_left _ hmem)
      · exact N₁ _ (List.mem_append_right _ hp)
    refine wpAny_mono (turn i v m₁ news₁ h₁ tk₁ oI hin hPi hJ hk₁ F₁ N₂ (D₁.cons offI)) (fun _ s₂ h₂ => wpAny_mono h₂ (fun f s₃ p => ?_) fun _ _ e => e) fun _ _ e => e
    have fin : (∃ h' tk m' nx, s₃ = { s with heap := h', toks := tk } ∧ Fr h₀ env.locals h' m' ∧ News h₀ env.locals h' ((I, oI) :: nx) ∧ NDup ((I, oI) :: nx) ∧ (∀ p ∈ keep, p ∈ nx) ∧ J (i + 1) m' nx) →
        LoopStepU h₀ env.locals [I] own (J' (i + 1)) { s with heap := h₁, toks := tk₁ } .next s₃ := by
      rintro ⟨h', tk, m', nx, rfl, F', N', D', hk', hJ'⟩
      refine ⟨rfl, h', tk, m', nx, rfl, F', ?_, fun p hp hm => D'.head p hp (List.mem_singleton.mp hm), D'.tail, hk', hJ'⟩
      rintro ⟨pa, po⟩ hp
      rcases List.mem_append.mp hp with hp | hp
      · have h2 : h₁.get? pa = some po := hget _ hp
        rcases hfp pa (hown _ hp) with e | ⟨o, h3⟩
        · have e' : pa = I := e
          subst e'
          obtain rfl : oI = po := Option.some.inj (hoI.symm.trans h2)
          exact N' _ (.head _)
        · have h4 : h₁.get? pa = some o := (N₂ _ (.tail _ (hk₁ _ h3))).1
          obtain rfl : o = po := Option.some.inj (h4.symm.trans h2)
          exact N' _ (.tail _ (hk' _ h3))
      · exact N' _ (.tail _ hp)
    cases f with
    | ret v => exact .ret p
    | brk => exact .brk p
    | next => exact .next (fin p)
    | cont => exact .cont (fin p)
  · rintro h' tk m' nx F' N' _ ⟨D', _, hJ'⟩
    exact done m' nx h' tk hJ' F' N' D'
theorem range_turns {n : Nat} {r : Addr} {a b : Int} {t u v : Tok} {m₀ : Str → Option Value} {news : List (Addr × Obj)} (J : Nat → (Str → Option Value) → List (Addr × Obj) → Prop)
    (hh : A.handled = none) (hr : IsRange s.heap r a b 1 t u v) (hsm : Builtin.Range.small a b 1 = true) (hn : Builtin.Range.rangeSize a b 1 = ((n : Nat) : Int)) (F : Fr h₀ env.locals s.heap m₀) (N : News h₀ env.locals s.heap news) (D : NDup news) (h0 : J 0 m₀ news)
    (hgo : ∀ I i h v (s : Shared) (Q : Unit → Shared → Prop) (E : Value → Shared → Prop), IsRangeIter h I (a + (i : Nat) * 1) ((n : Int) - (i : Nat)) 1 → s.heap = h → Q () s → wpAny (model prog w) A (letOwnedTupleGo target (.ref I) v) Q E s)
    (turn : ∀ i m₁ nx h tk I oI t, i < n → J i m₁ nx → Fr h₀ env.locals h m₁ → News h₀ env.locals h ((I, oI) :: nx) → NDup ((I, oI) :: nx) →
      wpAny (model prog w) A (assign target env (.int (a + (i : Int)) t)) (fun _ s₂ => wpAny (model prog w) A (execs body env) (TurnEnd h₀ env.locals { s with heap := h, toks := tk } I oI (J (i + 1)) Q) E s₂) E { s with heap := h, toks := tk })
    (done : ∀ m₁ nx h tk, J n m₁ nx → Fr h₀ env.locals h m₁ → News h₀ env.locals h nx → NDup nx → Q .next { s with heap := h, toks := tk }) :
    wpAny (model prog w) A (pyIter (.ref r)) (fun it s₂ => TurnsAt prog w A h₀ env target body Q E it s₂) E s := by
  refine wpAny_pyIter_range hr hsm ?_
  have W := PyProof.Rows.LCg.range_walks (prog := prog) (w := w) (A := A) (I := s.heap.objs.size) hh a n
  refine loop_core (tk0 := s.toks) (keep := []) J (KTurns.ofWalks W fun i v s Q E st q => hgo _ i s.heap v s Q E st rfl q) (next_is_new F) (fun i h st => ⟨_, st⟩) (fun b hb => .inl (List.mem_singleton.mp hb)) ?_ (fun p hp => Nat.ne_of_lt (Heap.lt_size (N p hp).1)) ?_ (F.push _)
    (fun p hp => ⟨Heap.get?_push_of_some _ (N p hp).1, (N p hp).2⟩) D (fun _ h => nomatch h) h0 ?_ done
  · intro hI; exact absurd F.ns.lt ((List.mem_singleton.mp hI) ▸ Nat.lt_irrefl _)
  · show IsRangeIter _ _ _ _ _
    rw [hn]; simpa using Heap.get?_push_size _ rfl
  · rintro i v m₁ nx h tk oI hin ⟨t, rfl⟩ hJ _ F₁ N₁ D₁
    refine wpAny_mono (turn i m₁ nx h tk _ oI t hin hJ F₁ N₁ D₁) (fun _ s₂ h₂ => wpAny_mono h₂ (fun f s₃ p => ?_) fun _ _ e => e) fun _ _ e => e
    cases f with
    | ret v => exact p
    | brk => exact p
    | next => obtain ⟨h', tk', m', nx', e, F', N', D', hJ'⟩ := p; exact ⟨h', tk', m', nx', e, F', N', D', (fun _ h => nomatch h), hJ'⟩
    | cont => obtain ⟨h', tk', m', nx', e, F', N', D', hJ'⟩ := p; exact ⟨h', tk', m', nx', e, F', N', D', (fun _ h => nomatch h), hJ'⟩
end
noncomputable def AtL (m : Str → Option Value) : List (Str × Value) → Prop
  | [] => True
  | p :: r => m p.1 = some p.2 ∧ AtL m r
theorem AtL.mem {m : Str → Option Value} : ∀ {ps : List (Str × Value)}, AtL m ps → ∀ p ∈ ps, m p.1 = some p.2
  | _ :: _, h, p, hp => by
    rcases List.mem_cons.mp hp with rfl | hp
    · exact h.1
    · exact h.2.mem p hp
noncomputable def kst (rest : Str → Option Value) : List (Str × Value) → Str → Option Value
  | [] => rest
  | (x, v) :: r => fun z => if z = x then some v else kst rest r z
theorem kst_at {m : Str → Option Value} : ∀ {ps : List (Str × Value)}, AtL m ps → kst m ps = m
  | [], _ => rfl
  | (x, v) :: r, h => by
    funext z
    show (if z = x then some v else kst m r z) = m z
    by_cases e : z = x
    · subst e; rw [if_pos rfl]; exact h.1.symm
    · rw [if_neg e, kst_at h.2]
theorem fr_kst {g h : Heap} {L : Addr} {m : Str → Option Value} {ps : List (Str × Value)} (F : Fr g L h m) (a : AtL m ps) : Fr g L h (kst m ps) := by rw [kst_at a]; exact F
theorem cells_kst {cm : Str → Option Value} {cl : List (Str × Addr)} {cells : List (Addr × Obj)} {ps : List (Str × Value)} (Y : CellsAre cm cl cells) (a : AtL cm ps) : CellsAre (kst cm ps) cl cells := by rw [kst_at a]; exact Y
section
variable {prog : Program} {w : World} {A : Around} {E : Value → Shared → Prop} {s : Shared} {env : Env} {h₀ : Heap} {target : Expr} {body : List Stmt} {Q : Flow → Shared → Prop}
theorem tup_turns {ax : Addr} {lo : Obj} {vs : List Value} {n : Nat} {m₀ : Str → Option Value} {news : List (Addr × Obj)} (J : Nat → (Str → Option Value) → List (Addr × Obj) → Prop)
    (hh : A.handled = none) (F : Fr h₀ env.locals s.heap m₀) (N : News h₀ env.locals s.heap news) (D : NDup news) (hm : (ax, lo) ∈ news) (hc : lo.cls = .type "tuple") (hd : lo.data = .seq vs.toArray n) (h0 : J 0 m₀ news)
    (turn : ∀ i v m₁ nx h tk I oI, i < vs.length → vs[i]? = some v → J i m₁ nx → (ax, lo) ∈ nx → Fr h₀ env.locals h m₁ → News h₀ env.locals h ((I, oI) :: nx) → NDup ((I, oI) :: nx) →
      wpAny (model prog w) A (assign target env v) (fun _ s₂ => wpAny (model prog w) A (execs body env) (TurnEnd h₀ env.locals { s with heap := h, toks := tk } I oI (fun m' nx' => (ax, lo) ∈ nx' ∧ J (i + 1) m' nx') Q) E s₂) E { s with heap := h, toks := tk })
    (done : ∀ m₁ nx h tk, J vs.length m₁ nx → Fr h₀ env.locals h m₁ → News h₀ env.locals h nx → NDup nx → Q .next { s with heap := h, toks := tk }) :
    wpAny (model prog w) A (pyIter (.ref ax)) (fun it s₂ => TurnsAt prog w A h₀ env target body Q E it s₂) E s := by
  have hax := N _ hm
  have hl : s.heap.IsTuple ax vs.toArray := ⟨lo, hax.1, hc, n, hd⟩
  have hlt : ax < s.heap.objs.size := Heap.lt_size hax.1
  have hne : ax ≠ s.heap.objs.size := Nat.ne_of_lt hlt
  refine wpAny_pyIter_tuple hl ?_
  have e1 : vs.toArray.size = vs.length := by simp
  refine loop_core (tk0 := s.toks) (keep := [(ax, lo)]) J (n := vs.length) (e1 ▸ KTurns.ofWalks (Walks.tuple hh s.heap.objs.size ax hne vs.toArray) fun i v s Q E st q => letGo_tupleiter st.1 q) (next_is_new F)
    (fun i h st => by obtain ⟨it, hit, _⟩ := st.1; exact ⟨it, hit⟩) (fun b hb => ?_) ?_ (fun p hp => Nat.ne_of_lt (Heap.lt_size (N p hp).1)) ⟨⟨_, Heap.get?_push_size _ rfl, rfl, rfl⟩, hl.at fun o e => Heap.get?_push_of_some _ e⟩ (F.push _)
    (fun p hp => ⟨Heap.get?_push_of_some _ (N p hp).1, (N p hp).2⟩) D (fun p hp => by rw [List.mem_singleton.mp hp]; exact hm) h0 ?_ done
  · rcases List.mem_cons.mp hb with e | hb
    · exact .inl e
    · exact .inr ⟨lo, by rw [List.mem_singleton.mp hb]; exact .head _⟩
  · intro hI
    rcases List.mem_cons.mp hI with e | hI
    · exact absurd F.ns.lt (e ▸ Nat.lt_irrefl _)
    · exact hax.2.1 (List.mem_singleton.mp hI).symm
  · rintro i v m₁ nx h tk oI hin hP hJ hk F₁ N₁ D₁
    have hP' : vs[i]? = some v := by have q : vs.toArray[i]? = some v := hP; simpa using q
    refine wpAny_mono (turn i v m₁ nx h tk _ oI hin hP' hJ (hk _ (.head _)) F₁ N₁ D₁) (fun _ s₂ h₂ => wpAny_mono h₂ (fun f s₃ p => ?_) fun _ _ e => e) fun _ _ e => e
    cases f with
    | ret v => exact p
    | brk => exact p
    | next => obtain ⟨h', tk', m', nx', e, F', N', D', hm', hJ'⟩ := p; exact ⟨h', tk', m', nx', e, F', N', D', (fun p hp => by rw [List.mem_singleton.mp hp]; exact hm'), hJ'⟩
    | cont => obtain ⟨h', tk', m', nx', e, F', N', D', hm', hJ'⟩ := p; exact ⟨h', tk', m', nx', e, F', N', D', (fun p hp => by rw [List.mem_singleton.mp hp]; exact hm'), hJ'⟩
end
/-- a walk with its end unseen: the goals stay short -/
theorem gen_post {α : Type} {M : Model} {A : Around} {t : Sem α} {Q : α → Shared → Prop} {E : Value → Shared → Prop} {s : Shared} (h : ∀ R : α → Shared → Prop, (∀ a s', Q a s' → R a s') → wpAny M A t R E s) : wpAny M A t Q E s := h Q fun _ _ x => x
end

local macro_rules | `(tactic| walk_at $s:str) => `(tactic| k_extra $(Lean.Syntax.mkStrLit ("m " ++ s.getString)))
local macro_rules | `(tactic| case' fresh => $t:tacticSeq) => do
  let own (x : Lean.Syntax) : Lean.MacroM Lean.Syntax := do
    if x.isIdent then return Lean.mkIdentFrom x (← Lean.Macro.addMacroScope x.getId) else return x
  let r ← t.raw.replaceM fun x => do
    if x.getKind == ``Lean.Parser.Term.syntheticHole then return some (x.setArg 1 (← own x[1]))
    else if x.getKind == ``Lean.Parser.Tactic.caseArg then return some (x.setArg 0 (x[0].setArg 0 (← own x[0][0])))
    else return none
  `(tactic| ($(⟨r⟩):tacticSeq))

theorem words_1 : True := by
  k_with "m p_enter" => case' fresh => (refine wpAny_call ?_; k_dflt (refine' p_enter ?k1 ?k3 ?k5 ?k6 ?k7 ?k8 ?k9 ?kB ?_ ?c2 ?c3 ?c4 ?c5; (case k1 | k3 | k5 => assumption); (case k6 | k7 => k_is); (case k8 => lia); (case k9 => first | exact BindsTo.of_eq rfl | exact binds_K (by k_in) rfl (by k_is) rfl rfl rfl); (case kB => exact locs rfl); (case c5 => decide); (case c2 | c3 | c4 => exact rfl); k_whole; intro _ _ _ _; (try dsimp only); (try k_fold)))
  k_with "m subscriptTail Name Constant ref int" => case' fresh => (k_here; k_dflt (refine' item_base ?F ?l ?a ?b ?d ?_; (case F => k_asm); (case l => with_reducible assumption); (case a | b => decide); (case d => exact rfl); k_whole))
  k_with "m subscriptTail Name Constant ref int" => case' fresh => (k_here; k_dflt (refine' tup_base ?F ?l ?a ?b ?j ?d ?_; (case F => k_asm); (case l => with_reducible assumption); (case a | b => decide); (case j | d => exact rfl); k_whole))
  k_with "m binaryOp Mult int int" => case' fresh => (k_dflt (refine' mul_smallL ?a ?b ?_; (case a | b => lia)))
  k_with "m binaryOp Mult int int" => case' fresh => (k_dflt (refine' mul_smallR ?a ?b ?_; (case a | b => lia)))
  k_with "m call builtin:max" => case' fresh => (k_here; (with_reducible show wpAny _ _ (call (Value.builtin "max") [Value.float _ _, Value.float _ _, Value.float _ _]) _ _ _); k_dflt (refine' max3_ex ?a ?b ?c ?d ?F ?N ?_; (case a | b | c => assumption); (case d => exact rfl); (case F | N => k_asm); intro _ _ _ _ _ _ hle'k F'k N'k; (try dsimp only at hle'k); (revert hle'k F'k N'k; intro _ _ _); (try k_sweep)))
  k_with "m call builtin:min" => case' fresh => (k_here; (with_reducible show wpAny _ _ (call (Value.builtin "min") [Value.float _ _, Value.float _ _, Value.float _ _]) _ _ _); k_dflt (refine' min3_ex ?a ?b ?c ?d ?F ?N ?_; (case a | b | c => assumption); (case d => exact rfl); (case F | N => k_asm); intro _ _ _ _ _ _ hle'k F'k N'k; (try dsimp only at hle'k); (revert hle'k F'k N'k; intro _ _ _); (try k_sweep)))
  k_with "m assign Tuple" => case' fresh => ((rename IntsAre _ _ => i9k); (rename (List.length _ = _) => e9k); (obtain ⟨a9, b9, c9, ta9, tb9, tc9, e8, e7⟩ := three_of i9k e9k); subst e8; subst e7; (walk_at "assign Tuple"))
  k_with "m call builtin:max" => case' fresh => (k_here; (with_reducible show wpAny _ _ (call (Value.builtin "max") (Value.int _ _ :: _)) _ _ _); k_dflt ((first | refine' max3_i ?d ?F ?N ?_ | refine' max2_i ?d ?F ?N ?_); (case d => exact rfl); (case F | N => k_asm); intro _ _ _ _ _; (try k_sweep)))
  k_with "m call builtin:min" => case' fresh => (k_here; (with_reducible show wpAny _ _ (call (Value.builtin "min") (Value.int _ _ :: _)) _ _ _); k_dflt ((first | refine' min3_i ?d ?F ?N ?_ | refine' min2_i ?d ?F ?N ?_); (case d => exact rfl); (case F | N => k_asm); intro _ _ _ _ _; (try k_sweep)))
  k_with "m ite" => case' fresh => (k_dflt (first | (refine' ite_eq_tt ?a ?b ?c ?_; (case a | b => assumption); (case c => lia)) | (refine' ite_eq_ff ?a ?b ?c ?_; (case a | b => assumption); (case c => lia))))
  k_with "m p_leaf" => case' fresh => (rename Fr _ _ _ _ => F9k; rename News _ _ _ _ => N9k; rename ∀ (_ : Value) (_ : Heap) (_ : Nat) (_ : List (Addr × Obj)), _ => hret9k; refine hret9k _ _ _ _ ?_ F9k.keep (fun q hq => ⟨(N9k q hq).1, (N9k q hq).2.2⟩))
  k_with "m execs cons" => case' fresh => (k_here; k_dflt (refine' gen_toks ?p ?_; (case p => first | with_reducible assumption | exact Nat.succ_pos _ | lia | (dsimp only; first | exact Nat.succ_pos _ | lia)); (intro _ _; (try dsimp only); refine wpAny_execs_cons ?_)))
  k_with "m p_toks" => case' fresh => (first | with_reducible assumption | exact Nat.succ_ne_zero _ | exact Nat.pos_iff_ne_zero.mp (by assumption) | exact tok_or3 (by assumption) (by assumption))
  exact trivial
section
theorem calm_HB2 : True := by
  w_top off
  exact trivial
theorem fill_HB2 : PySem.Challenge.rw_pg0288_01 = PySem.Challenge.rw_pg0288_01 ∧ nk.heap_1 = nk.heap_1 := by
  k_fill
  exact ⟨rfl, rfl⟩
open PySem.W
noncomputable def KCtr (w : World) (f : Addr) (vs : List Value) (kws : List (Str × Value)) (P : Heap → Prop) (post : Value → List (Addr × Obj) → Prop) (lv un0 : Nat) : Prop :=
  ∀ (p : Program) (loose : List Str) (mean : ExcName → Option Value) (mg mb : Str → Option Value)
    (dp un : Nat) (gd : Option (List Code)) (outer : List Env) (A₀ : Around) (base : Heap) (s : Shared) (Q E : Value → Shared → Prop),
    Below A₀ base outer s.heap → (nk.heap_1 w.params).In s.heap → Top p loose mean mg mb s.heap → dp + lv < recursionLimit → un + un0 < cLine → P s.heap →
    (∀ v h' tk' own, post v own → s.heap.StaysIn h' → (∀ q ∈ own, h'.get? q.1 = some q.2 ∧ s.heap.get? q.1 = none) → Q v { s with heap := h', toks := tk' }) →
    wpAny (MM w) (TopA dp un gd outer) (call (.ref f) vs kws) Q E s
theorem pat_search {M : Model} {A : Around} {E : Value → Shared → Prop} {s : Shared} {K : Frag} {g : Heap} {L P : Addr} {m : Str → Option Value} {o : Obj} {pl : Sem Bool} {Q : Value × List Value → Shared → Prop} (F : Fr g L s.heap m) (X : K.In g) (hp : K.lookup P = some o) (hcl : o.cls = .type "re.Pattern") (hdi : o.dict = none)
    (h : Q (.builtin "re.Pattern.search", [.ref P]) s) : wpAny M A (getMethod (.ref P) "search" pl) Q E s :=
  getMethod_builtin ⟨o, F.keep _ _ (X _ _ hp), hcl⟩ plainAttrs_pat slot_pat_search type_pat_search (fun a e => by cases e; exact ⟨o, F.keep _ _ (X _ _ hp), hdi⟩) h
section
variable {prog : Program} {w : World} {A : Around} {E : Value → Shared → Prop} {s : Shared} {K : Frag} {g : Heap} {L P : Addr} {m : Str → Option Value} {t : Str} {u : Tok} {Q : Value → Shared → Prop}
theorem search97 (F : Fr g L s.heap m) (X : (nk.heap_1 w.params).In g) (ht : Nice t) (h : Q .none s) : wpAny (model prog w) A (call (.builtin "re.Pattern.search") [.ref 97, .str t u]) Q E s := by
  have e1 : (nk.heap_1 w.params).lookup 97 = some { cls := .type "re.Pattern", data := .fields #[.str (Str.ofString "[\\x00-\\x1F\\x7F]") 424, .int 32 447, .int 0 0, .none, .none, .ref 96, .int 0 0] } := by k_is
  have e2 : ∃ o items n, (nk.heap_1 w.params).lookup 96 = some o ∧ o.data = .seq items n ∧ (items.map PySem.Builtin.Re.reRawOf).map (·.toNat) = code96 := ⟨_, _, _, by k_is, rfl, by decide +kernel⟩
  obtain ⟨o, items, n, e2, e3, e4⟩ := e2
  exact call_search (F.keep _ _ (X _ _ e1)) rfl rfl rfl rfl (F.keep _ _ (X _ _ e2)) e3 (Nat.le_trans ht.1 (by decide)) (e4 ▸ mute96 ht) h
theorem search102 (F : Fr g L s.heap m) (X : (nk.heap_1 w.params).In g) (ht : Nice t) (h : Q .none s) : wpAny (model prog w) A (call (.builtin "re.Pattern.search") [.ref 102, .str t u]) Q E s := by
  have e1 : (nk.heap_1 w.params).lookup 102 = some { cls := .type "re.Pattern", data := .fields #[.str (Str.ofString "[\\x00-\\x08\\x0A-\\x1F\\x7F]") 450, .int 32 481, .int 0 0, .none, .none, .ref 101, .int 0 0] } := by k_is
  have e2 : ∃ o items n, (nk.heap_1 w.params).lookup 101 = some o ∧ o.data = .seq items n ∧ (items.map PySem.Builtin.Re.reRawOf).map (·.toNat) = code101 := ⟨_, _, _, by k_is, rfl, by decide +kernel⟩
  obtain ⟨o, items, n, e2, e3, e4⟩ := e2
  exact call_search (F.keep _ _ (X _ _ e1)) rfl rfl rfl rfl (F.keep _ _ (X _ _ e2)) e3 (Nat.le_trans ht.1 (by decide)) (e4 ▸ mute101 ht) h
end
theorem words_2 : True := by
  k_with "m getMethod ref" => case' fresh => (k_here; k_dflt (refine' pat_search ?F ?X ?p ?c ?d ?_; (case F | X => k_asm); (case p => k_is); (case c | d => exact rfl); k_whole))
  k_with "m call builtin:re.Pattern.search" => case' fresh => (k_here; k_dflt (first | refine' search97 ?F ?X ?t ?_ | refine' search102 ?F ?X ?t ?_); (case F | X => k_asm); (case t => assumption); k_whole)
  exact trivial
theorem conv_c (w : World) (x : Addr) (t : Str) (u : Tok) (b : Bool) (hn : Nice t) : KCtr w 132 [.ref x, .str t u] [("name", .bool b)] (fun _ => True) (fun v own => v = .str t u ∧ own = []) 1 8 := by
  intro p loose mean mg mb dp un gd outer A₀ base s Q E B X T hd hu h1 hret
  walk_at "p_enter"
  k_steps
  all_goals (rename Fr _ _ _ _ => F9; exact hret _ _ _ [] ⟨rfl, rfl⟩ F9.keep (fun _ h => nomatch h))
end

section
theorem words_3 : True := by
  k_with_none
  k_with "m p_enter" => case' fresh => (refine wpAny_call ?_; k_dflt (refine' p_enter ?k1 ?k3 ?k5 ?k6 ?k7 ?k8 ?k9 ?kB ?_ ?c2 ?c3 ?c4 ?c5; (case k1 | k3 | k5 => assumption); (case k6 | k7 => k_is); (case k8 => lia); (case k9 => first | exact BindsTo.of_eq rfl | exact binds_K (by k_in) rfl (by k_is) rfl rfl rfl); (case kB => exact locs rfl); (case c5 => decide); (case c2 | c3 | c4 => exact rfl); k_whole; intro _ _ _ _; (try dsimp only); (try k_fold)))
  k_with "m subscriptTail Name Constant ref int" => case' fresh => (k_here; k_dflt (refine' item_base ?F ?l ?a ?b ?d ?_; (case F => k_asm); (case l => with_reducible assumption); (case a | b => decide); (case d => exact rfl); k_whole))
  k_with "m subscriptTail Name Constant ref int" => case' fresh => (k_here; k_dflt (refine' tup_base ?F ?l ?a ?b ?j ?d ?_; (case F => k_asm); (case l => with_reducible assumption); (case a | b => decide); (case j | d => exact rfl); k_whole))
  k_with "m binaryOp Mult int int" => case' fresh => (k_dflt (refine' mul_smallL ?a ?b ?_; (case a | b => lia)))
  k_with "m binaryOp Mult int int" => case' fresh => (k_dflt (refine' mul_smallR ?a ?b ?_; (case a | b => lia)))
  k_with "m call builtin:max" => case' fresh => (k_here; (with_reducible show wpAny _ _ (call (Value.builtin "max") [Value.float _ _, Value.float _ _, Value.float _ _]) _ _ _); k_dflt (refine' max3_ex ?a ?b ?c ?d ?F ?N ?_; (case a | b | c => assumption); (case d => exact rfl); (case F | N => k_asm); intro _ _ _ _ _ _ hle'k F'k N'k; (try dsimp only at hle'k); (revert hle'k F'k N'k; intro _ _ _); (try k_sweep)))
  k_with "m call builtin:min" => case' fresh => (k_here; (with_reducible show wpAny _ _ (call (Value.builtin "min") [Value.float _ _, Value.float _ _, Value.float _ _]) _ _ _); k_dflt (refine' min3_ex ?a ?b ?c ?d ?F ?N ?_; (case a | b | c => assumption); (case d => exact rfl); (case F | N => k_asm); intro _ _ _ _ _ _ hle'k F'k N'k; (try dsimp only at hle'k); (revert hle'k F'k N'k; intro _ _ _); (try k_sweep)))
  k_with "m assign Tuple" => case' fresh => ((rename IntsAre _ _ => i9k); (rename (List.length _ = _) => e9k); (obtain ⟨a9, b9, c9, ta9, tb9, tc9, e8, e7⟩ := three_of i9k e9k); subst e8; subst e7; (walk_at "assign Tuple"))
  k_with "m call builtin:max" => case' fresh => (k_here; (with_reducible show wpAny _ _ (call (Value.builtin "max") (Value.int _ _ :: _)) _ _ _); k_dflt ((first | refine' max3_i ?d ?F ?N ?_ | refine' max2_i ?d ?F ?N ?_); (case d => exact rfl); (case F | N => k_asm); intro _ _ _ _ _; (try k_sweep)))
  k_with "m call builtin:min" => case' fresh => (k_here; (with_reducible show wpAny _ _ (call (Value.builtin "min") (Value.int _ _ :: _)) _ _ _); k_dflt ((first | refine' min3_i ?d ?F ?N ?_ | refine' min2_i ?d ?F ?N ?_); (case d => exact rfl); (case F | N => k_asm); intro _ _ _ _ _; (try k_sweep)))
  k_with "m ite" => case' fresh => (k_dflt (first | (refine' ite_eq_tt ?a ?b ?c ?_; (case a | b => assumption); (case c => lia)) | (refine' ite_eq_ff ?a ?b ?c ?_; (case a | b => assumption); (case c => lia))))
  k_with "m p_leaf" => case' fresh => (rename Fr _ _ _ _ => F9k; rename News _ _ _ _ => N9k; rename ∀ (_ : Value) (_ : Heap) (_ : Nat) (_ : List (Addr × Obj)), _ => hret9k; refine hret9k _ _ _ _ ?_ F9k.keep (fun q hq => ⟨(N9k q hq).1, (N9k q hq).2.2⟩))
  k_with "m execs cons" => case' fresh => (k_here; k_dflt (refine' gen_toks ?p ?_; (case p => first | with_reducible assumption | exact Nat.succ_pos _ | lia | (dsimp only; first | exact Nat.succ_pos _ | lia)); (intro _ _; (try dsimp only); refine wpAny_execs_cons ?_)))
  k_with "m p_toks" => case' fresh => (first | with_reducible assumption | exact Nat.succ_ne_zero _ | exact Nat.pos_iff_ne_zero.mp (by assumption) | exact tok_or3 (by assumption) (by assumption))
  exact trivial
theorem calm_M3 : True := by
  w_top off
  exact trivial
theorem cross_c (w : World) (a1 a2 : Addr) (p0 p1 p2 q0 q1 q2 : Int) (t1 t2 t3 t4 t5 t6 : Tok) (b0 : 0 ≤ p0 ∧ p0 ≤ 65536) (b1 : 0 ≤ p1 ∧ p1 ≤ 65536) (b2 : 0 ≤ p2 ∧ p2 ≤ 65536) :
   PCtr w 249 [.ref a1, .ref a2] (fun h => h.IsList a1 #[.int p0 t1, .int p1 t2, .int p2 t3] ∧ h.IsList a2 #[.int q0 t4, .int q1 t5, .int q2 t6])
     (fun v own => (∃ t, v = .int ((p0 - p1) * (q1 - q2) - (p1 - p2) * (q0 - q1)) t) ∧ own = []) 1 8 := by
  refine PCtr.of ?_
  rintro p loose mean mg mb dp un gd outer A₀ base s Q E B X T hd hu htk ⟨h1, h2⟩ hret
  walk_at "p_enter"
  k_steps
  walk_at "p_leaf"
  exact ⟨⟨_, rfl⟩, rfl⟩

theorem perm_sum {l l' : List Int} (h : l.Perm l') : l.sum = l'.sum := by
  induction h with
  | nil => rfl
  | cons x _ ih => simp only [List.sum_cons, ih]
  | swap x y l => simp only [List.sum_cons]; lia
  | trans _ _ h1 h2 => exact h1.trans h2
/-- the widest gap round the wheel of three hues -/
noncomputable def wid (a b c : Int) : Int := max (max ((a + b + c - min (min a b) c - max (max a b) c) - min (min a b) c) (max (max a b) c - (a + b + c - min (min a b) c - max (max a b) c))) (min (min a b) c + 1024 - max (max a b) c)

theorem wid_of {a b c p0 p1 p2 : Int} (hs : a + (b + (c + 0)) = p0 + (p1 + (p2 + 0))) (ha : (a = p0 ∨ a = p1 ∨ a = p2) ∧ a ≤ p0 ∧ a ≤ p1 ∧ a ≤ p2) (hc : (c = p0 ∨ c = p1 ∨ c = p2) ∧ p0 ≤ c ∧ p1 ≤ c ∧ p2 ≤ c) :
    max (max (b - a) (c - b)) (a + 1024 - c) = wid p0 p1 p2 := by
  have sy : ∀ {x : Int}, x = p0 ∨ x = p1 ∨ x = p2 → p0 = x ∨ p1 = x ∨ p2 = x := fun h => h.imp Eq.symm (Or.imp Eq.symm Eq.symm)
  have e1 : min (min p0 p1) p2 = a := min3_of (sy ha.1) ha.2.1 ha.2.2.1 ha.2.2.2
  have e2 : max (max p0 p1) p2 = c := max3_of (sy hc.1) hc.2.1 hc.2.2.1 hc.2.2.2
  have e3 : p0 + p1 + p2 - a - c = b := by omega
  unfold wid
  rw [e1, e2, e3]
theorem widest_c (w : World) (a1 : Addr) (p0 p1 p2 : Int) (t1 t2 t3 : Tok)  :
   PCtr w 256 [.ref a1] (fun h => h.IsList a1 #[.int p0 t1, .int p1 t2, .int p2 t3]) (fun v _ => ∃ t, v = .int (wid p0 p1 p2) t) 1 8 := by
  refine PCtr.of ?_
  intro p loose mean mg mb dp un gd outer A₀ base s Q E B X T hd hu htk h1 hret
  walk_at "p_enter"
  k_steps
  walk_at "p_leaf"
  rename List.Perm _ _ => hp
  rename (_ ∨ _ ∨ _) ∧ p0 ≤ _ ∧ _ => hc
  rename (_ ∨ _ ∨ _) ∧ _ ≤ p0 ∧ _ => ha
  have hs := perm_sum hp
  simp only [List.sum_cons, List.sum_nil, List.getD_cons_zero, List.getD_cons_succ, Int.toNat] at hs ha hc
  refine ⟨_, congrArg (fun x => Value.int x _) ?_⟩
  exact wid_of hs ha hc

section
theorem words_4 : True := by
  k_with "m pyIter ref" => case' fresh => (refine' hold ?_)
  k_with "m exec For Name Tuple cons nil" => case' fresh => (refine' hold ?_)
  k_with "m newTuple" => case' fresh => (k_here; (with_reducible rename NDup _ => D9k); k_dflt (refine' newTup_D ?F ?N D9k ?_ ?z; (case F | N => k_asm); (case z => size_fits); k_whole); intro _ _ _ _ _; clear D9k; (try k_sweep))
  k_with "m newList" => case' fresh => (k_here; (with_reducible rename NDup _ => D9k); k_dflt (refine' newList_D ?F ?N D9k ?_ ?z; (case F | N => k_asm); (case z => size_fits); k_whole); intro _ _ _ _ _; clear D9k; (try k_sweep))
  k_with "m call builtin:list.append" => case' fresh => (k_here; (with_reducible rename NDup _ => D9k); k_dflt (refine' append_D ?F ?N D9k (.tail (.tail .head)) ?_ ?z; (case F | N => k_asm); (case z => exact Nat.le_trans (show _ ≤ 3 by lia) (Nat.le_of_ble_eq_true rfl)); k_whole); intro _ _ _ _; clear D9k; (try k_sweep))
  exact trivial
theorem parts_c (w : World) (k sh va : Int) (t1 t2 t3 : Tok) (b0 : 0 ≤ k ∧ k < 1024) (b1 : 1 ≤ sh ∧ sh ≤ 4) (b2 : 1 ≤ va ∧ va ≤ 4):
   PCtr w 242 [.int k t1, .int sh t2, .int va t3] (fun _ => True)
    (fun v own => ∃ l t0 t1 t2 n, v = .ref l ∧ (l, PySem.W.listOf #[.int (part k sh va 0) t0, .int (part k sh va 2048) t1, .int (part k sh va 4096) t2] n) ∈ own) 1 8 := by
  refine PCtr.of ?_
  intro p loose mean mg mb dp un gd outer A₀ base s Q E B X T hd hu htk h1 hret
  have D0 : NDup [] := List.nodup_nil
  walk_at "p_enter"
  k_steps
  unfold Hold
  rename Fr _ _ _ _ => F9
  refine For_turns F9 ?_
  k_steps
  unfold Hold
  rename Fr _ _ _ _ => F8
  rename News _ _ _ _ => N8
  rename NDup _ => D8
  rename_i pa _ _ tk1 ht1 ax _
  refine tup_turns (vs := [.int 0 tk1, .int 2048 (tk1 + 1), .int 4096 (tk1 + 1 + 1)]) (lo := { cls := .type "tuple", data := .seq #[.int 0 tk1, .int 2048 (tk1 + 1), .int 4096 (tk1 + 1 + 1)] }) (n := 0)
    (fun i m nx => ∃ items n, nx = [(ax, { cls := .type "tuple", data := .seq #[.int 0 tk1, .int 2048 (tk1 + 1), .int 4096 (tk1 + 1 + 1)] }), (pa, PySem.W.listOf items n)] ∧ AtL m [("k", .int k t1), ("share", .int sh t2), ("value", .int va t3), ("parts", .ref pa)] ∧ items.size = i ∧ ∀ j, j < i → ∃ t, items[j]? = some (.int (part k sh va (2048 * (j : Int))) t))
    rfl F8 N8 D8 (.head _) rfl rfl ⟨#[], 0, rfl, ⟨rfl, rfl, rfl, rfl, trivial⟩, rfl, fun j h => absurd h (Nat.not_lt_zero _)⟩ ?_ ?_
  · rintro i v m₁ nx h₁ tk₁ I oI hi hv ⟨items, n, rfl, hm, hsz, hit⟩ - F₁ N₁ D₁
    clear F8 N8 D8
    have hi3 : i < 3 := hi
    obtain ⟨tv, rfl⟩ : ∃ t, v = .int (2048 * (i : Int)) t := by rcases lt3 hi3 with rfl | rfl | rfl <;> exact ⟨_, (Option.some.inj hv).symm⟩
    rw [← kst_at hm] at F₁
    refine gen_post fun R1 hR1 => ?_
    k_steps
    refine hR1 _ _ ?_
    dsimp only
    refine gen_post fun R2 hR2 => ?_
    k_steps
    rename Fr _ _ _ _ => F9
    rename News _ _ _ _ => N9
    rename NDup _ => D9
    refine hR2 _ _ ⟨_, _, _, _, rfl, F9, N9, D9, .head _, _, _, rfl, ⟨rfl, rfl, rfl, rfl, trivial⟩, by rw [Array.size_push, hsz], fun j hj => ?_⟩
    by_cases e : j = i
    · subst e
      exact ⟨_, by rw [← hsz, Array.getElem?_push_size]; rfl⟩
    · obtain ⟨t, ht⟩ := hit j (by omega)
      exact ⟨t, by rw [Array.getElem?_push_lt (by omega)]; rw [← ht]; exact (Array.getElem?_eq_getElem (by omega)).symm⟩
  · rintro m₁ nx h₁ tk₁ ⟨items, n, rfl, hm, hsz, hit⟩ F₁ N₁ D₁
    clear F8 N8 D8
    rw [← kst_at hm] at F₁
    k_steps
    walk_at "p_leaf"
    obtain ⟨u0, e0⟩ := hit 0 (show 0 < 3 by decide)
    obtain ⟨u1, e1⟩ := hit 1 (show 1 < 3 by decide)
    obtain ⟨u2, e2⟩ := hit 2 (show 2 < 3 by decide)
    obtain rfl := arr3 hsz e0 e1 e2
    exact ⟨_, u0, u1, u2, n, rfl, .tail _ (.head _)⟩
end
theorem words_5 : True := by
  k_with_none
  k_with "m p_enter" => case' fresh => (refine wpAny_call ?_; k_dflt (refine' p_enter ?k1 ?k3 ?k5 ?k6 ?k7 ?k8 ?k9 ?kB ?_ ?c2 ?c3 ?c4 ?c5; (case k1 | k3 | k5 => assumption); (case k6 | k7 => k_is); (case k8 => lia); (case k9 => first | exact BindsTo.of_eq rfl | exact binds_K (by k_in) rfl (by k_is) rfl rfl rfl); (case kB => exact locs rfl); (case c5 => decide); (case c2 | c3 | c4 => exact rfl); k_whole; intro _ _ _ _; (try dsimp only); (try k_fold)))
  k_with "m subscriptTail Name Constant ref int" => case' fresh => (k_here; k_dflt (refine' item_base ?F ?l ?a ?b ?d ?_; (case F => k_asm); (case l => with_reducible assumption); (case a | b => decide); (case d => exact rfl); k_whole))
  k_with "m subscriptTail Name Constant ref int" => case' fresh => (k_here; k_dflt (refine' tup_base ?F ?l ?a ?b ?j ?d ?_; (case F => k_asm); (case l => with_reducible assumption); (case a | b => decide); (case j | d => exact rfl); k_whole))
  k_with "m binaryOp Mult int int" => case' fresh => (k_dflt (refine' mul_smallL ?a ?b ?_; (case a | b => lia)))
  k_with "m binaryOp Mult int int" => case' fresh => (k_dflt (refine' mul_smallR ?a ?b ?_; (case a | b => lia)))
  k_with "m call builtin:max" => case' fresh => (k_here; (with_reducible show wpAny _ _ (call (Value.builtin "max") [Value.float _ _, Value.float _ _, Value.float _ _]) _ _ _); k_dflt (refine' max3_ex ?a ?b ?c ?d ?F ?N ?_; (case a | b | c => assumption); (case d => exact rfl); (case F | N => k_asm); intro _ _ _ _ _ _ hle'k F'k N'k; (try dsimp only at hle'k); (revert hle'k F'k N'k; intro _ _ _); (try k_sweep)))
  k_with "m call builtin:min" => case' fresh => (k_here; (with_reducible show wpAny _ _ (call (Value.builtin "min") [Value.float _ _, Value.float _ _, Value.float _ _]) _ _ _); k_dflt (refine' min3_ex ?a ?b ?c ?d ?F ?N ?_; (case a | b | c => assumption); (case d => exact rfl); (case F | N => k_asm); intro _ _ _ _ _ _ hle'k F'k N'k; (try dsimp only at hle'k); (revert hle'k F'k N'k; intro _ _ _); (try k_sweep)))
  k_with "m assign Tuple" => case' fresh => ((rename IntsAre _ _ => i9k); (rename (List.length _ = _) => e9k); (obtain ⟨a9, b9, c9, ta9, tb9, tc9, e8, e7⟩ := three_of i9k e9k); subst e8; subst e7; (walk_at "assign Tuple"))
  k_with "m call builtin:max" => case' fresh => (k_here; (with_reducible show wpAny _ _ (call (Value.builtin "max") (Value.int _ _ :: _)) _ _ _); k_dflt ((first | refine' max3_i ?d ?F ?N ?_ | refine' max2_i ?d ?F ?N ?_); (case d => exact rfl); (case F | N => k_asm); intro _ _ _ _ _; (try k_sweep)))
  k_with "m call builtin:min" => case' fresh => (k_here; (with_reducible show wpAny _ _ (call (Value.builtin "min") (Value.int _ _ :: _)) _ _ _); k_dflt ((first | refine' min3_i ?d ?F ?N ?_ | refine' min2_i ?d ?F ?N ?_); (case d => exact rfl); (case F | N => k_asm); intro _ _ _ _ _; (try k_sweep)))
  k_with "m ite" => case' fresh => (k_dflt (first | (refine' ite_eq_tt ?a ?b ?c ?_; (case a | b => assumption); (case c => lia)) | (refine' ite_eq_ff ?a ?b ?c ?_; (case a | b => assumption); (case c => lia))))
  k_with "m p_leaf" => case' fresh => (rename Fr _ _ _ _ => F9k; rename News _ _ _ _ => N9k; rename ∀ (_ : Value) (_ : Heap) (_ : Nat) (_ : List (Addr × Obj)), _ => hret9k; refine hret9k _ _ _ _ ?_ F9k.keep (fun q hq => ⟨(N9k q hq).1, (N9k q hq).2.2⟩))
  k_with "m execs cons" => case' fresh => (k_here; k_dflt (refine' gen_toks ?p ?_; (case p => first | with_reducible assumption | exact Nat.succ_pos _ | lia | (dsimp only; first | exact Nat.succ_pos _ | lia)); (intro _ _; (try dsimp only); refine wpAny_execs_cons ?_)))
  k_with "m p_toks" => case' fresh => (first | with_reducible assumption | exact Nat.succ_ne_zero _ | exact Nat.pos_iff_ne_zero.mp (by assumption) | exact tok_or3 (by assumption) (by assumption))
  exact trivial
theorem hls_c (w : World) (r g b : UInt64) (t1 t2 t3 : Tok) (n : Int) (e : Nat) (hr : Ex r n e) (hg : Ex g n e) (hb : Ex b n e) (h2 : Rep (n + n).natAbs e) (hn : Rep n.natAbs e) :
   PCtr w 45 [.float r t1, .float g t2, .float b t3] (fun _ => True)
    (fun v own => ∃ l c t0 t1 t2, Ex c n e ∧ v = .ref l ∧ (l, ({ cls := .type "tuple", data := .seq #[.float 0 t0, .float c t1, .float 0 t2] } : Obj)) ∈ own) 1 8 := by
  refine PCtr.of ?_
  intro p loose mean mg mb dp un gd outer A₀ base s Q E B X T hd hu htk h1 hret
  walk_at "p_enter"
  k_steps
  · walk_at "p_leaf"
    rename Ex _ (max (max n n) n) e => hx
    rename Ex _ (min (min n n) n) e => hm
    rw [show max (max n n) n = n by lia] at hx
    rw [show min (min n n) n = n by lia] at hm
    exact ⟨_, _, _, _, _, div_ex (add_ex hx hm h2) f2_ex (by decide) (by show n * 2 * 2 ^ e = (n + n) * 1 * 2 ^ e; congr 1; lia) hn, rfl, .head _⟩

theorem h2r_c (w : World) (h s' v : UInt64) (t1 t2 t3 : Tok) (k sh va : Int) (b0 : 0 ≤ k ∧ k < 1024) (b1 : 1 ≤ sh ∧ sh ≤ 4) (b2 : 1 ≤ va ∧ va ≤ 4) (hh : Ex h k 10) (hs : Ex s' sh 2) (hv : Ex v va 2) (ht3 : t3 ≠ 0) :
   PCtr w 59 [.float h t1, .float s' t2, .float v t3] (fun _ => True)
    (fun v own => ∃ l c0 c1 c2 t0 t1 t2, Ex c0 (part k sh va 0) 14 ∧ Ex c1 (part k sh va 2048) 14 ∧ Ex c2 (part k sh va 4096) 14 ∧ (t0 ≠ 0 ∧ t1 ≠ 0 ∧ t2 ≠ 0) ∧ v = .ref l ∧ (l, ({ cls := .type "tuple", data := .seq #[.float c0 t0, .float c1 t1, .float c2 t2] } : Obj)) ∈ own) 1 8 := by
  refine PCtr.of ?_
  intro p loose mean mg mb dp un gd outer A₀ base s Q E B X T hd hu htk h1 hret
  have z0 := f0_ex 2
  obtain ⟨hH, hT, _⟩ := h2r_all b0 b1 b2 hh hs hv
  walk_at "p_enter"
  k_steps
  · rename Float64.isNaN _ = true => hz; rw [not_nan hH] at hz; cases hz
  · rename Float64.isInf _ = true => hz; rw [not_inf hH] at hz; cases hz
  · rename (Flt.toInt Float64.truncOf _).fmod 6 = _ => hc; obtain ⟨_, _, g0, g1, g2, g3, g4, g5⟩ := h2r_sec b0 b1 b2 hh hs hv hc; walk_at "p_leaf"
    obtain ⟨a0, a1, a2⟩ := g0 rfl; exact ⟨_, _, _, _, _, _, _, a0, a1, a2, ⟨by walk_at "p_toks", by walk_at "p_toks", by walk_at "p_toks"⟩, rfl, .head _⟩
  · rename (Flt.toInt Float64.truncOf _).fmod 6 = _ => hc; obtain ⟨_, _, g0, g1, g2, g3, g4, g5⟩ := h2r_sec b0 b1 b2 hh hs hv hc; walk_at "p_leaf"
    obtain ⟨a0, a1, a2⟩ := g1 rfl; exact ⟨_, _, _, _, _, _, _, a0, a1, a2, ⟨by walk_at "p_toks", by walk_at "p_toks", by walk_at "p_toks"⟩, rfl, .head _⟩
  · rename (Flt.toInt Float64.truncOf _).fmod 6 = _ => hc; obtain ⟨_, _, g0, g1, g2, g3, g4, g5⟩ := h2r_sec b0 b1 b2 hh hs hv hc; walk_at "p_leaf"
    obtain ⟨a0, a1, a2⟩ := g2 rfl; exact ⟨_, _, _, _, _, _, _, a0, a1, a2, ⟨by walk_at "p_toks", by walk_at "p_toks", by walk_at "p_toks"⟩, rfl, .head _⟩
  · rename (Flt.toInt Float64.truncOf _).fmod 6 = _ => hc; obtain ⟨_, _, g0, g1, g2, g3, g4, g5⟩ := h2r_sec b0 b1 b2 hh hs hv hc; walk_at "p_leaf"
    obtain ⟨a0, a1, a2⟩ := g3 rfl; exact ⟨_, _, _, _, _, _, _, a0, a1, a2, ⟨by walk_at "p_toks", by walk_at "p_toks", by walk_at "p_toks"⟩, rfl, .head _⟩
  · rename (Flt.toInt Float64.truncOf _).fmod 6 = _ => hc; obtain ⟨_, _, g0, g1, g2, g3, g4, g5⟩ := h2r_sec b0 b1 b2 hh hs hv hc; walk_at "p_leaf"
    obtain ⟨a0, a1, a2⟩ := g4 rfl; exact ⟨_, _, _, _, _, _, _, a0, a1, a2, ⟨by walk_at "p_toks", by walk_at "p_toks", by walk_at "p_toks"⟩, rfl, .head _⟩
  · rename (Flt.toInt Float64.truncOf _).fmod 6 = _ => hc; obtain ⟨_, _, g0, g1, g2, g3, g4, g5⟩ := h2r_sec b0 b1 b2 hh hs hv hc; walk_at "p_leaf"
    obtain ⟨a0, a1, a2⟩ := g5 rfl; exact ⟨_, _, _, _, _, _, _, a0, a1, a2, ⟨by walk_at "p_toks", by walk_at "p_toks", by walk_at "p_toks"⟩, rfl, .head _⟩
  · exfalso
    have hc := (h2r_sec b0 b1 b2 hh hs hv rfl)
    have h0 : 0 ≤ (Flt.toInt Float64.truncOf (Float64.mul h 4618441417868443648)).fmod 6 := hc.1
    have h5 : (Flt.toInt Float64.truncOf (Float64.mul h 4618441417868443648)).fmod 6 ≤ 5 := hc.2.1
    clear hc
    lia

theorem r2h_c (w : World) (r g b : UInt64) (t1 t2 t3 : Tok) (k sh va : Int) (b0 : 0 ≤ k ∧ k < 1024) (b1 : 1 ≤ sh ∧ sh ≤ 4) (b2 : 1 ≤ va ∧ va ≤ 4) (hr : Ex r (part k sh va 0) 14) (hg : Ex g (part k sh va 2048) 14) (hb : Ex b (part k sh va 4096) 14) (ht : t1 ≠ 0 ∧ t2 ≠ 0 ∧ t3 ≠ 0) :
   PCtr w 52 [.float r t1, .float g t2, .float b t3] (fun _ => True)
    (fun v own => ∃ l c0 c1 c2 t0 t1 t2, Ex c0 k 10 ∧ Ex c1 sh 2 ∧ Ex c2 va 2 ∧ (t0 ≠ 0 ∧ t1 ≠ 0 ∧ t2 ≠ 0) ∧ v = .ref l ∧ (l, ({ cls := .type "tuple", data := .seq #[.float c0 t0, .float c1 t1, .float c2 t2] } : Obj)) ∈ own) 1 8 := by
  refine PCtr.of ?_
  intro p loose mean mg mb dp un gd outer A₀ base s Q E B X T hd hu htk h1 hret
  have hne : min (min (part k sh va 0) (part k sh va 2048)) (part k sh va 4096) ≠ max (max (part k sh va 0) (part k sh va 2048)) (part k sh va 4096) := by
    obtain ⟨p1, p2⟩ := part_ends (k := k) b0 b1 b2
    have := vs_range b1 b2
    lia
  walk_at "p_enter"
  k_steps
  all_goals (
    rename Ex _ (max (max (part k sh va 0) (part k sh va 2048)) (part k sh va 4096)) 14 => hx
    rename Ex _ (min (min (part k sh va 0) (part k sh va 2048)) (part k sh va 4096)) 14 => hn
    obtain ⟨z1, z2, es, ev, er, eg, eb⟩ := r2h_num b0 b1 b2 hr hg hb hx hn)
  · rename Float64.isZero _ = true => hz; rw [z1] at hz; cases hz
  · rename Float64.isZero _ = true => hz; rw [z2] at hz; cases hz
  · rename (Float64.cmp r _ == _) = true => c0
    have hf : fall k 0 = 0 := part_full b1 b2 ((of_decide_eq_true ((cmp_eq_ex hr hx).symm.trans c0)).trans (part_ends b0 b1 b2).1)
    walk_at "p_leaf"
    exact ⟨_, _, _, _, _, _, _, hue_r b0 eb eg hf, es, ev, ⟨by walk_at "p_toks", by walk_at "p_toks", by walk_at "p_toks"⟩, rfl, .head _⟩
  · rename (Float64.cmp g _ == _) = true => c0
    have hf : fall k 2048 = 0 := part_full b1 b2 ((of_decide_eq_true ((cmp_eq_ex hg hx).symm.trans c0)).trans (part_ends b0 b1 b2).1)
    walk_at "p_leaf"
    exact ⟨_, _, _, _, _, _, _, hue_g b0 er eb hf, es, ev, ⟨by walk_at "p_toks", by walk_at "p_toks", by walk_at "p_toks"⟩, rfl, .head _⟩
  · rename (Float64.cmp r _ == _) = false => c0
    rename (Float64.cmp g _ == _) = false => c1
    have d0 := of_decide_eq_false ((cmp_eq_ex hr hx).symm.trans c0)
    have d1 := of_decide_eq_false ((cmp_eq_ex hg hx).symm.trans c1)
    have hf : fall k 4096 = 0 := part_full b1 b2 ((show part k sh va 4096 = max (max (part k sh va 0) (part k sh va 2048)) (part k sh va 4096) by lia).trans (part_ends b0 b1 b2).1)
    walk_at "p_leaf"
    exact ⟨_, _, _, _, _, _, _, hue_b b0 eg er hf, es, ev, ⟨by walk_at "p_toks", by walk_at "p_toks", by walk_at "p_toks"⟩, rfl, .head _⟩
end

section
theorem calm_C1 : True := by
  w_top off
  exact trivial
open PySem.W
theorem hls_c2 (w : World) (r g b : UInt64) (t1 t2 t3 : Tok) (n : Int) (e : Nat) (hr : Ex r n e) (hg : Ex g n e) (hb : Ex b n e) (h2 : Rep (n + n).natAbs e) (hn : Rep n.natAbs e) :
   PCtr w 45 [.float r t1, .float g t2, .float b t3] (fun _ => True)
    (fun v own => ∃ l c t0 t1 t2, Ex c n e ∧ (t0 ≠ 0 ∧ t1 ≠ 0 ∧ t2 ≠ 0) ∧ v = .ref l ∧ (l, ({ cls := .type "tuple", data := .seq #[.float 0 t0, .float c t1, .float 0 t2] } : Obj)) ∈ own) 1 8 := by
  refine PCtr.of ?_
  intro p loose mean mg mb dp un gd outer A₀ base s Q E B X T hd hu htk h1 hret
  walk_at "p_enter"
  k_steps
  · walk_at "p_leaf"
    rename Ex _ (max (max n n) n) e => hx
    rename Ex _ (min (min n n) n) e => hm
    rw [show max (max n n) n = n by omega] at hx
    rw [show min (min n n) n = n by omega] at hm
    exact ⟨_, _, _, _, _, div_ex (add_ex hx hm h2) f2_ex (by decide) (by show n * 2 * 2 ^ e = (n + n) * 1 * 2 ^ e; congr 1; omega) hn, ⟨by walk_at "p_toks", by walk_at "p_toks", by walk_at "p_toks"⟩, rfl, .head _⟩
end

section
theorem calm_M4a : True := by
  w_top off
  exact trivial
open Builtin

/-- tuples of ints as Python orders them -/
noncomputable def lexLt : List Int → List Int → Bool
  | x :: xs, y :: ys => if x = y then lexLt xs ys else decide (x < y)
  | xs, ys => decide (xs.length < ys.length)

section
variable {prog : Program} {w : World} {A : Around} {E : Value → Shared → Prop} {s : Shared}
theorem tuple_lt_tree {a b : Addr} {xs ys : List Value} {x y : List Int} {P : PySem.Fin → Shared → Prop} (hx : IsTup s.heap a xs.toArray) (hy : IsTup s.heap b ys.toArray) (ix : IntsAre xs x) (iy : IntsAre ys y) (hlen : xs.length = ys.length)
    (h : P (.done (.ret (.bool (lexLt x y)))) s) : wpAny (model prog w) A (Builtin.«tuple.__lt__» ⟨[.ref a, .ref b], []⟩) P E s := by
  have hTb := hy.typeIs
  obtain ⟨oa, hoa, _, na, hda⟩ := hx
  obtain ⟨ob, hob, _, nb, hdb⟩ := hy
  show wpAny _ _ (isInstance (.ref b) (.type "tuple") >>= _) _ _ s
  refine wpAny_bind (wpAny_isInstance hTb isSubtype_tuple_tuple ?_)
  simp only [Bool.not_true, Bool.false_eq_true, if_false]
  refine wpAny_bind (wpAny_tupleItemsOf hoa hda ?_)
  refine wpAny_bind (wpAny_tupleItemsOf hob hdb ?_)
  refine wpAny_bind ?_
  refine wpAny_forIn_list _
    (fun rest r s' => r.1 = none ∧ s' = s ∧ ∃ x' y' xs' ys', rest = List.zip xs' ys' ∧ IntsAre xs' x' ∧ IntsAre ys' y' ∧ lexLt x' y' = lexLt x y ∧ xs'.length = ys'.length)
    _ ?_ ?_ _ _ ⟨rfl, rfl, x, y, xs, ys, rfl, ix, iy, rfl, hlen⟩
  · rintro ⟨u, v⟩ rest r s' ⟨hr, rfl, x', y', xs', ys', hz, hx', hy', hlex, hl⟩
    cases hx' with
    | nil => simp at hz
    | @cons k1 t1 xs'' x'' hx'' =>
      cases hy' with
      | nil => simp at hz
      | @cons k2 t2 ys'' y'' hy'' =>
        simp only [List.zip_cons_cons, List.cons.injEq, Prod.mk.injEq] at hz
        obtain ⟨⟨rfl, rfl⟩, rfl⟩ := hz
        refine wpAny_bind (wpAny_eqBool_int ?_)
        by_cases hk : k1 = k2
        · subst hk
          simp only [beq_self_eq_true, Bool.not_true, Bool.false_eq_true, if_false]
          refine wpAny_pure ⟨rfl, rfl, x'', y'', xs'', ys'', rfl, hx'', hy'', ?_, by simpa using hl⟩
          rw [← hlex]; simp [lexLt]
        · rw [beq_false_of_ne hk]
          simp only [Bool.not_false, if_true]
          have hf : lexLt x y = decide (k1 < k2) := by rw [← hlex]; simp [lexLt, hk]
          rw [hf] at h
          refine wpAny_bind (wpAny_rule ?_)
          refine wpAny_bind ?_
          show wpAny _ _ (compareOp .Lt (.int k1 t1) (.int k2 t2)) _ _ _
          refine PyProof.Rows.lt_int ?_
          exact wpAny_bind (wpAny_pure (wpAny_pure (wpAny_pure h)))
  · rintro ⟨r1, r2⟩ s' ⟨hr, rfl, x', y', xs', ys', hz, hx', hy', hlex, hl⟩
    simp only at hr
    subst hr
    refine wpAny_pure ?_
    have hfin : lexLt x y = false := by
      rw [← hlex]
      cases hx' with
      | nil =>
        cases hy' with
        | nil => rfl
        | cons _ _ => simp at hl
      | cons _ _ =>
        cases hy' with
        | nil => simp at hl
        | cons _ _ => simp at hz
    rw [hfin] at h
    show P (.done (.ret (Builtin.Tuple.tupleCompareSizes .Lt xs.toArray.size ys.toArray.size))) s'
    have e : Builtin.Tuple.tupleCompareSizes .Lt xs.toArray.size ys.toArray.size = .bool false := by
      show Value.bool (decide (xs.toArray.size < ys.toArray.size)) = _
      rw [List.size_toArray, List.size_toArray, hlen, decide_eq_false (Nat.lt_irrefl _)]
    rw [e]; exact h
theorem tup_lt {a b : Addr} {xs ys : List Value} {x y : List Int} {Q : Value → Shared → Prop} (hx : IsTup s.heap a xs.toArray) (hy : IsTup s.heap b ys.toArray) (ix : IntsAre xs x) (iy : IntsAre ys y) (hlen : xs.length = ys.length) (hu : A.units < cLine)
    (h : Q (.bool (lexLt x y)) s) : wpAny (model prog w) A (compareOp .Lt (.ref a) (.ref b)) Q E s :=
  cmp_ofLt (wpAny_richCompare_same_room (op := .Lt) hx.typeIs hy.typeIs F.slot_tuple_lt
    (wpAny_call_entry F.slot_tuple_lt hx.typeIs F.entry_tuple_lt (tuple_lt_tree hx hy ix iy hlen ⟨_, rfl, (fun e => nomatch e), h⟩) (F.args_tuple_lt_2 _ _)) hu)

theorem none_booked_K {h : Heap} (X : (nk.heap_1 w.params).In h) : NoneBooked h := by
  refine ⟨_, ⟨_, _, _, X cStatics _ (by k_is), rfl, strKeys_of rfl, fun _ => rfl⟩, ?_⟩
  rfl
theorem eqBool_f {x y : UInt64} {n : Int} {e : Nat} {t u : Tok} {Q : Bool → Shared → Prop} (hx : Ex x n e) (hy : Ex y n e) (ht : t ≠ 0) (hu : u ≠ 0) (hb : NoneBooked s.heap) (h : Q true s) : wpAny (model prog w) A (eqBool (.float x t) (.float y u)) Q E s := by
  unfold eqBool
  try with_reducible refine wpAny_holding ?_
  show wpAny _ _ (if (Value.float x t == Value.float y u) = true then _ else _) Q E s
  by_cases hab : (Value.float x t == Value.float y u) = true
  · rw [if_pos hab]; exact wpAny_bind (wpAny_rule (wpAny_pure h))
  · rw [if_neg hab]
    have hrest : wpAny (model prog w) A (richCompare .Eq (.float x t) (.float y u) >>= truthOfDropped) Q E s := by
      refine wpAny_bind ?_
      show wpAny _ _ (compareOp .Eq (.float x t) (.float y u)) _ _ _
      refine AutoFloatOps.eq_0 ?_
      rw [cmp_eq_ex hx hy, decide_eq_true rfl]
      exact wpAny_truthy_bool h
    have hsplit : ∀ b, wpAny (model prog w) A (if b = true then pure true else richCompare .Eq (.float x t) (.float y u) >>= truthOfDropped) Q E s := fun b => by
      cases b
      · exact hrest
      · exact wpAny_pure h
    refine wpAny_bind ?_
    show wpAny _ A (isSame.created (x == y && !Float64.isNaN x) t u) _ E s
    unfold isSame.created
    refine wpAny_ite ?_
    rw [if_neg (by simp [ht, hu])]
    refine wpAny_ite ?_
    split
    · exact wpAny_pure (hsplit true)
    refine wpAny_ite ?_
    split
    · exact wpAny_pure (hsplit false)
    refine wpAny_bind (wpAny_sharingNotTold_none hb ?_)
    simp only [Bool.false_eq_true, if_false]
    refine wpAny_bind (wpAny_sharingNotTold_none hb ?_)
    simp only [Bool.false_eq_true, if_false]
    exact wpAny_bind (wpAny_rule (wpAny_bind (wpAny_askSetting (wpAny_pure (hsplit _)))))
theorem tuple_ne_tree {a b : Addr} {x0 x1 x2 y0 y1 y2 : UInt64} {n0 n1 n2 : Int} {e0 e1 e2 : Nat} {t0 t1 t2 u0 u1 u2 : Tok} {P : PySem.Fin → Shared → Prop}
    (hx : IsTup s.heap a #[.float x0 t0, .float x1 t1, .float x2 t2]) (hy : IsTup s.heap b #[.float y0 u0, .float y1 u1, .float y2 u2])
    (a0 : Ex x0 n0 e0) (a1 : Ex x1 n1 e1) (a2 : Ex x2 n2 e2) (b0 : Ex y0 n0 e0) (b1 : Ex y1 n1 e1) (b2 : Ex y2 n2 e2) (ht : t0 ≠ 0 ∧ t1 ≠ 0 ∧ t2 ≠ 0) (hu : u0 ≠ 0 ∧ u1 ≠ 0 ∧ u2 ≠ 0) (hb : NoneBooked s.heap)
    (h : P (.done (.ret (.bool false))) s) : wpAny (model prog w) A (Builtin.«tuple.__ne__» ⟨[.ref a, .ref b], []⟩) P E s := by
  have hTb := hy.typeIs
  obtain ⟨oa, hoa, _, na, hda⟩ := hx
  obtain ⟨ob, hob, _, nb, hdb⟩ := hy
  show wpAny _ _ (isInstance (.ref b) (.type "tuple") >>= _) _ _ s
  refine wpAny_bind (wpAny_isInstance hTb isSubtype_tuple_tuple ?_)
  simp only [Bool.not_true, Bool.false_eq_true, if_false]
  refine wpAny_bind (wpAny_tupleItemsOf hoa hda ?_)
  refine wpAny_bind (wpAny_tupleItemsOf hob hdb ?_)
  refine wpAny_bind ?_
  show wpAny _ _ (forIn [(Value.float x0 t0, Value.float y0 u0), (Value.float x1 t1, Value.float y1 u1), (Value.float x2 t2, Value.float y2 u2)] _ _) _ _ _
  rw [List.forIn_cons]
  refine wpAny_bind (wpAny_bind (eqBool_f a0 b0 ht.1 hu.1 hb ?_))
  simp only [Bool.not_true, Bool.false_eq_true, if_false]
  refine wpAny_pure ?_
  dsimp only
  rw [List.forIn_cons]
  refine wpAny_bind (wpAny_bind (eqBool_f a1 b1 ht.2.1 hu.2.1 hb ?_))
  simp only [Bool.not_true, Bool.false_eq_true, if_false]
  refine wpAny_pure ?_
  dsimp only
  rw [List.forIn_cons]
  refine wpAny_bind (wpAny_bind (eqBool_f a2 b2 ht.2.2 hu.2.2 hb ?_))
  simp only [Bool.not_true, Bool.false_eq_true, if_false]
  refine wpAny_pure ?_
  dsimp only
  rw [List.forIn_nil]
  exact wpAny_pure (wpAny_pure h)
theorem tup_ne {a b : Addr} {x0 x1 x2 y0 y1 y2 : UInt64} {n0 n1 n2 : Int} {e0 e1 e2 : Nat} {t0 t1 t2 u0 u1 u2 : Tok} {Q : Value → Shared → Prop}
    (hx : IsTup s.heap a #[.float x0 t0, .float x1 t1, .float x2 t2]) (hy : IsTup s.heap b #[.float y0 u0, .float y1 u1, .float y2 u2])
    (a0 : Ex x0 n0 e0) (a1 : Ex x1 n1 e1) (a2 : Ex x2 n2 e2) (b0 : Ex y0 n0 e0) (b1 : Ex y1 n1 e1) (b2 : Ex y2 n2 e2) (ht : t0 ≠ 0 ∧ t1 ≠ 0 ∧ t2 ≠ 0) (hu' : u0 ≠ 0 ∧ u1 ≠ 0 ∧ u2 ≠ 0) (hb : NoneBooked s.heap) (hu : A.units < cLine)
    (h : Q (.bool false) s) : wpAny (model prog w) A (compareOp .NotEq (.ref a) (.ref b)) Q E s :=
  cmp_ofNotEq (wpAny_richCompare_same_room (op := .NotEq) hx.typeIs hy.typeIs F.slot_tuple_ne
    (wpAny_call_entry F.slot_tuple_ne hx.typeIs F.entry_tuple_ne (tuple_ne_tree hx hy a0 a1 a2 b0 b1 b2 ht hu' hb ⟨_, rfl, (fun e => nomatch e), h⟩) (F.args_tuple_ne_2 _ _)) hu)
end
end

section
theorem calm_M4 : True := by
  w_top off
  exact trivial
noncomputable def HItem (g : Heap) (p : It) : Prop := ∃ xs w i j k, IsTup g p.1 xs.toArray ∧ IntsAre xs [w, i, j, k] ∧ (0 ≤ i ∧ i < 3) ∧ (0 ≤ j ∧ j < 3) ∧ (0 ≤ k ∧ k < 3) ∧ p.2 = ((w * 3 + i) * 3 + j) * 3 + k
noncomputable def vls (l : List It) : List Value := l.map fun p => .ref p.1
theorem vls_len (l : List It) : (vls l).length = l.length := List.length_map ..
theorem HItem.keeps {g h : Heap} {p : It} (H : HItem g p) (k : g.StaysIn h) : HItem h p := by
  obtain ⟨xs, w, i, j, k', ht, r⟩ := H
  exact ⟨xs, w, i, j, k', IsTup.keeps ht k, r⟩

noncomputable def MCtr (w : World) (f ha : Addr) (rest : List Value) (l : List It) (post : Value → List It → Prop) (lv un0 : Nat) : Prop :=
  ∀ (p : Program) (loose : List Str) (mean : ExcName → Option Value) (mg mb : Str → Option Value)
    (dp un : Nat) (gd : Option (List Code)) (outer : List Env) (A₀ : Around) (base g : Heap) (s : Shared) (n : Nat) (Q E : Value → Shared → Prop),
    Below A₀ base outer g → (nk.heap_1 w.params).In g → Top p loose mean mg mb g → g.StaysIn s.heap → g.get? ha = none → g.objs.size ≤ s.heap.objs.size → s.heap.get? ha = some (PySem.W.listOf (vls l).toArray n) →
    dp + lv < recursionLimit → un + un0 < cLine → (∀ p ∈ l, HItem g p) →
    (∀ v h' tk' l' n', post v l' → g.StaysIn h' → g.objs.size ≤ h'.objs.size → h'.get? ha = some (PySem.W.listOf (vls l').toArray n') → Q v { s with heap := h', toks := tk' }) →
    wpAny (MM w) (TopA dp un gd outer) (call (.ref f) (.ref ha :: rest)) Q E s

theorem m_enter {w : World} {p : Program} {loose : List Str} {mean : ExcName → Option Value} {mg mb : Str → Option Value} {dp un : Nat} {gd : Option (List Code)} {outer : List Env} {A₀ : Around} {base g : Heap} {s : Shared}
    {R : Result → Shared → Prop} {name qual : Str} {params : Arguments} {body : List Stmt} {scope : Scope} {dV kV doc pm cdv ct oc : Value} {an od : Option Addr} {osl : Array (Option Value)} {f ha : Addr} {oh : Obj} {args : Args} {binds : List (Str × Value)}
    (_B : Below A₀ base outer g) (X : (nk.heap_1 w.params).In g) (T : Top p loose mean mg mb g) (hst : g.StaysIn s.heap) (hno : g.get? ha = none) (hsz : g.objs.size ≤ s.heap.objs.size) (hh : s.heap.get? ha = some oh)
    (ho : (nk.heap_1 w.params).lookup f = some ⟨oc, od, .func (fnOf name qual params body scope dV kV doc pm an cdv ct), osl⟩) (hcd : codeIn (nk.heap_1 w.params) cdv qual = true) (hroom : dp < recursionLimit)
    (hbind : BindsTo s (fnOf name qual params body scope dV kV doc pm an cdv ct) args binds) (hloc : ∀ y ∈ binds, scope.names.lookup y.1 = some .local)
    (h : ∀ L h₁, Fr g L h₁ (fun y => binds.reverse.lookup y) → News g L h₁ [(ha, oh)] →
      wpAny (MM w) ((TopA dp un gd outer).deeper (envOf qual scope L f cdv)) (execs body (envOf qual scope L f cdv))
        (fun fl s' => R (.ok (.ret (match fl with | .ret v => v | _ => .none))) s')
        (fun e s' => wpAny (MM w) ((TopA dp un gd outer).deeper (envOf qual scope L f cdv)) (leaving (envOf qual scope L f cdv) e) (fun _ s'' => R (.error e) s'') (fun e' s'' => R (.error e') s'') s')
        { s with heap := h₁, toks := s.toks + binds.length })
    (hco : scope.isCoroutine = false) (hgen : scope.isGenerator = false) (hk : scope.kind = .function)
    (hcell : ∀ x ∈ scope.names, x.2 ≠ .cell) : codeAny (MM w) (TopA dp un gd outer) (.call (.ref f) args) R s :=
  codeAny_call_def (fd := fnOf name qual params body scope dV kV doc pm an cdv ct) (body := body) (binds := binds) hroom (hst _ _ (X _ _ ho)) rfl (T.nolimit.keeps hst) (codeRec_of (X.keeps hst) hcd) rfl hbind hcell hloc
    (fun h₁ hns hk₁ => h s.heap.objs.size h₁ ⟨hns, fun b o e => hk₁ b o (hst b o e), hsz⟩ (fun q hq => by
      obtain rfl := List.mem_singleton.mp hq
      exact ⟨hk₁ _ _ hh, Nat.ne_of_lt (Heap.lt_size hh), hno⟩)) hco hgen hk

section
variable {prog : Program} {w : World} {A : Around} {E : Value → Shared → Prop} {s : Shared} {g : Heap} {L D : Addr} {m : Str → Option Value} {news news' : List (Addr × Obj)} {l : List It} {n : Nat} {k : Int} {u : Tok}
theorem vls_at {j : Nat} (h : j < l.length) : (vls l).toArray[j]? = some (.ref (at' l j).1) := by
  have := at_get h
  simp only [vls, List.getElem?_toArray, List.getElem?_map, this, Option.map_some]
theorem m_item {value slice : Expr} {Q : Value → Shared → Prop} (N : News g L s.heap news) (hm : (D, PySem.W.listOf (vls l).toArray n) ∈ news) (h0 : 0 ≤ k) (h1 : k < l.length) (hfit : k < 2 ^ 63) (h : Q (.ref (at' l k.toNat).1) s)
    (hs : subscripted slice false (.ref D) (.int k u) = operate [.ref D, .int k u] (getItem (.ref D) (.int k u)) := by with_unfolding_all rfl) :
    wpAny (model prog w) A (subscriptTail value slice (.ref D) (.int k u)) Q E s :=
  have hL : s.heap.IsList D (vls l).toArray := PySem.IsL.isList (n := n) (N _ hm).1
  tail_any hL.typeIs slot_list_getitem.lookup (wpAny_getItem_list hL h0 hfit (vls_at (by lia)) h) hs
theorem m_set {p : It} {Q : Unit → Shared → Prop} (F : Fr g L s.heap m) (N : News g L s.heap news) (U : Upd D (PySem.W.listOf (vls l).toArray n) (PySem.W.listOf (vls (l.set k.toNat p)).toArray n) news news') (h0 : 0 ≤ k) (h1 : k < l.length) (hfit : k < 2 ^ 63)
    (h : ∀ h', Fr g L h' m → News g L h' news' → Q () { s with heap := h' }) :
    wpAny (model prog w) A (setItem (.ref D) (.int k u) (.ref p.1)) Q E s := by
  obtain ⟨pre, post, rfl, rfl, a, b⟩ := U.split
  have z := N (D, PySem.W.listOf (vls l).toArray n) (List.mem_append.mpr (.inr (.head _)))
  have hs : (vls l).toArray.size = l.length := by rw [List.size_toArray, vls_len]
  refine ki_setAt z.1 h0 hfit (by omega) (h _ (F.change (Heap.SameBut.update ..) z.2.1 z.2.2) (ki_turn _ N a b ?_ ?_))
  · show (vls l).toArray.setIfInBounds k.toNat (.ref p.1) = (vls (l.set k.toNat p)).toArray
    apply Array.toList_inj.mp
    simp [vls, List.map_set]
  · simp [vls_len]
theorem m_itemN {value slice : Expr} {j : Nat} {Q : Value → Shared → Prop} (N : News g L s.heap news) (hm : (D, PySem.W.listOf (vls l).toArray n) ∈ news) (h1 : j < l.length) (hl : l.length ≤ 64) (h : Q (.ref (at' l j).1) s)
    (hs : subscripted slice false (.ref D) (.int (j : Int) u) = operate [.ref D, .int (j : Int) u] (getItem (.ref D) (.int (j : Int) u)) := by with_unfolding_all rfl) :
    wpAny (model prog w) A (subscriptTail value slice (.ref D) (.int (j : Int) u)) Q E s := m_item N hm (by lia) (by lia) (by lia) (by rw [Int.toNat_natCast]; exact h) hs
theorem m_setN {p : It} {j : Nat} {Q : Unit → Shared → Prop} (F : Fr g L s.heap m) (N : News g L s.heap news) (U : Upd D (PySem.W.listOf (vls l).toArray n) (PySem.W.listOf (vls (l.set j p)).toArray n) news news') (h1 : j < l.length) (hl : l.length ≤ 64)
    (h : ∀ h', Fr g L h' m → News g L h' news' → Q () { s with heap := h' }) :
    wpAny (model prog w) A (setItem (.ref D) (.int (j : Int) u) (.ref p.1)) Q E s := m_set F N (by rw [Int.toNat_natCast]; exact U) (by omega) (by omega) (by omega) h
theorem shr_par {r : Nat} {t u : Tok} {Q : Value → Shared → Prop} (h0 : 0 < r) (h : Q (.int (((r - 1) / 2 : Nat) : Int) s.toks) { s with toks := s.toks + 1 }) : wpAny (model prog w) A (binaryOp .RShift (.int ((r : Int) - 1) t) (.int 1 u)) Q E s :=
  wpAny_rshift1_int (by lia) (by rw [show ((r : Int) - 1) / 2 = (((r - 1) / 2 : Nat) : Int) by lia]; exact h)
theorem HItem_at {l : List It} {j : Nat} (h : ∀ x ∈ l, HItem g x) (b : j < l.length) : HItem g (at' l j) := h _ (at_mem b)
theorem m_lt {p q : It} {Q : Value → Shared → Prop} (F : Fr g L s.heap m) (hp : HItem g p) (hq : HItem g q) (hu : A.units < cLine) (h : Q (.bool (decide (p.2 < q.2))) s) :
    wpAny (model prog w) A (compareOp .Lt (.ref p.1) (.ref q.1)) Q E s := by
  obtain ⟨xs, w1, i1, j1, k1, ht, hi, hi1, hj1, hk1, e1⟩ := hp
  obtain ⟨ys, w2, i2, j2, k2, ht2, hi2, hi2', hj2, hk2, e2⟩ := hq
  refine tup_lt (ht.keeps F.keep) (ht2.keeps F.keep) hi hi2 (hi.length.trans hi2.length.symm) hu ?_
  have : lexLt [w1, i1, j1, k1] [w2, i2, j2, k2] = decide (p.2 < q.2) := by
    rw [e1, e2]
    unfold lexLt lexLt lexLt lexLt lexLt
    repeat' split
    all_goals (simp only [decide_eq_decide, List.length_nil, Nat.lt_irrefl, decide_false]; first | lia | (symm; rw [decide_eq_false_iff_not]; lia))
  rw [this]; exact h
theorem m_len {Q : Value → Shared → Prop} (N : News g L s.heap news) (hm : (D, PySem.W.listOf (vls l).toArray n) ∈ news) (hl : l.length ≤ 64) (h : Q (.int (l.length : Nat) (s.toks + 1)) { s with toks := s.toks + 1 + 1 }) :
    wpAny (model prog w) A (call (.builtin "len") [.ref D]) Q E s := by
  have hs : (vls l).toArray.size = l.length := by rw [List.size_toArray, vls_len]
  exact call_len_list (PySem.IsL.isList (n := n) (N _ hm).1) (by lia) (by rw [hs]; exact h)
end

/-- the base under which a call is made that may change one object -/
theorem below_hide {A₀ A' : Around} {base g h : Heap} {outer : List Env} {L ha : Addr} {m : Str → Option Value} {env : Env} (B : Below A₀ base outer g) (F : Fr g L h m) (hn : g.get? ha = none) (hne : ha ≠ L) (hk : env.scope.kind ≠ .module) (hf : env.frame = some L) (hA : A'.frames = some (env :: outer)) :
    Below A' base (env :: outer) (h.hide ha) := by
  have st : g.StaysIn (h.hide ha) := fun b o e => (Heap.hide_ne h (fun q : b = ha => by rw [q, hn] at e; cases e)).trans (F.keep b o e)
  refine ⟨hA, fun b o e => st b o (B.stays b o e), hk, ?_, B.frames.of_keeps fun b o e _ => ⟨o, st b o e, rfl⟩⟩
  obtain ⟨oL, es, ep, hL, hd, _⟩ := F.ns
  refine ⟨L, oL, hf, ?_, (Heap.hide_ne h hne.symm).trans hL, fun vs e => by rw [hd] at e; cases e⟩
  cases q : base.get? L with
  | none => rfl
  | some o => exact absurd (Heap.lt_size (B.stays _ _ q)) (Nat.not_lt.mpr F.above)

theorem m_call {w : World} {f ha : Addr} {rest : List Value} {l : List It} {post : Value → List It → Prop} {lv un0 : Nat} (C : MCtr w f ha rest l post lv un0)
    {p : Program} {loose : List Str} {mean : ExcName → Option Value} {mg mb : Str → Option Value} {dp un : Nat} {gd : Option (List Code)} {outer : List Env} {A₀ : Around} {base g : Heap} {s : Shared} {L : Addr} {m : Str → Option Value} {env : Env} {n : Nat} {Q E : Value → Shared → Prop} {pre suf : List (Addr × Obj)}
    (B : Below A₀ base outer g) (X : (nk.heap_1 w.params).In g) (T : Top p loose mean mg mb g) (F : Fr g L s.heap m) (N : News g L s.heap (pre ++ (ha, PySem.W.listOf (vls l).toArray n) :: suf)) (hpre : ∀ q ∈ pre, q.1 ≠ ha) (hsuf : ∀ q ∈ suf, q.1 ≠ ha)
    (hdp : dp + 1 + lv < recursionLimit) (hun : un + 3 + un0 < cLine) (hit : ∀ x ∈ l, HItem (s.heap.hide ha) x)
    (hk : env.scope.kind ≠ .module) (hf : env.frame = some L)
    (h : ∀ v h' tk' l' n', post v l' → s.toks ≤ tk' → Fr g L h' m → News g L h' (pre ++ (ha, PySem.W.listOf (vls l').toArray n') :: suf) → (∀ b o, b ≠ ha → s.heap.get? b = some o → h'.get? b = some o) → Q v { s with heap := h', toks := tk' }) :
    wpAny (MM w) ((TopA dp un gd outer).deeper env) (call (.ref f) (.ref ha :: rest)) Q E s := by
  have z := N (ha, PySem.W.listOf (vls l).toArray n) (List.mem_append.mpr (.inr (.head _)))
  have st : g.StaysIn (s.heap.hide ha) := fun b o e => (Heap.hide_ne _ (fun q : b = ha => by rw [q, z.2.2] at e; cases e)).trans (F.keep b o e)
  refine with_toks (C p loose mean mg mb (dp + 1) (un + 3) gd (env :: outer) ((TopA dp un gd outer).deeper env) base (s.heap.hide ha) s n _ E (below_hide B F z.2.2 z.2.1 hk hf rfl) (X.keeps st) (T.keeps st) (fun b o e => Heap.of_hide e) (Heap.hide_self _ _) (Nat.le_of_eq (Heap.hide_size _ _)) z.1 hdp hun hit ?_)
  intro v h' tk' l' n' hp hst hsz hg ht
  have hk' : ∀ b o, b ≠ ha → s.heap.get? b = some o → h'.get? b = some o := fun b o hb e => hst b o ((Heap.hide_ne _ hb).trans e)
  obtain ⟨oL, es, ep, hL, r⟩ := F.ns
  refine h v h' tk' l' n' hp ht ⟨⟨oL, es, ep, hk' _ _ z.2.1.symm hL, r⟩, fun b o e => hst b o (st b o e), F.above⟩ (fun q hq => ?_) hk'
  rcases List.mem_append.mp hq with hq | hq
  · have y := N q (List.mem_append.mpr (.inl hq)); exact ⟨hk' _ _ (hpre q hq) y.1, y.2⟩
  · rcases List.mem_cons.mp hq with rfl | hq
    · exact ⟨hg, z.2⟩
    · have y := N q (List.mem_append.mpr (.inr (.tail _ hq))); exact ⟨hk' _ _ (hsuf q hq) y.1, y.2⟩
theorem int_at {o : Option Value} {a b : Int} {t : Tok} (h : o = some (.int a t)) (e : a = b) : o = some (.int b t) := e ▸ h
noncomputable def AllAt (m : Str → Option Value) (ps : List (Str × Value)) : Prop := ∀ p ∈ ps, m p.1 = some p.2
theorem ksw_while2 {prog : Program} {w : World} {A : Around} {E : Value → Shared → Prop} {Q : Flow → Shared → Prop} {s : Shared} {env : Env} {h₀ : Heap} {L : Addr} {σ : Type} {test : Expr} {body : List Stmt} {pos : Pos} {m₀ : Str → Option Value} (Led : σ → List (Addr × Obj)) (ps : σ → List (Str × Value)) (stored : List Str) (P : σ → Prop) (μ : σ → Nat) (c₀ : Tok → Tok → σ)
    (F : Fr h₀ L s.heap m₀) (N : ∀ t u, News h₀ L s.heap (Led (c₀ t u))) (hk : ∃ t u, AllAt m₀ (ps (c₀ t u))) (hp : ∀ t u, P (c₀ t u))
    (turn : ∀ (c : σ) (u : Str → Option Value) h tk, P c → Fr h₀ L h (kstB (fun z => if stored.contains z then u z else m₀ z) (ps c)) → News h₀ L h (Led c) →
      wpAny (model prog w) A (isTrue test env (eval test env)) (fun b s₂ =>
        if b = true then wpAny (model prog w) A (execs body env) (KswPost h₀ L s Led ps (fun _ => True) stored m₀ P μ Q c) E s₂ else Q .next s₂) E { s with heap := h, toks := tk })
    (hE : PassesOwn (model prog w) A env E := by passes_own) :
    wpAny (model prog w) A (exec (.While test body [] pos) env) Q E s := by
  obtain ⟨t, u, hk⟩ := hk
  exact ksw_while Led ps (fun _ => True) stored P μ (c₀ t u) F (N t u) trivial hk (hp t u) (fun c u h tk _ => turn c u h tk) hE
theorem two_of {m : Str → Option Value} {x y : Str} {v v' : Value} (h1 : m x = some v) (h2 : m y = some v') : AllAt m [(x, v), (y, v')] := by
  intro p hp
  rcases List.mem_cons.mp hp with rfl | hp
  · exact h1
  · rw [List.mem_singleton.mp hp]; exact h2
theorem ksw_end2 {σ : Type} {h₀ : Heap} {L : Addr} {s : Shared} {Led : σ → List (Addr × Obj)} {ps : σ → List (Str × Value)} {stored : List Str} {m₀ m' : Str → Option Value} {P : σ → Prop} {μ : σ → Nat} {c : σ} {h' : Heap} {tk : Nat} {news' : List (Addr × Obj)} (c' : Tok → Tok → σ)
    (F : Fr h₀ L h' m') (N : News h₀ L h' news') (hn : ∀ t u, ∀ p ∈ Led (c' t u), p ∈ news') (hk : ∃ t u, AllAt m' (ps (c' t u))) (hr : ∀ t u z, (∀ p ∈ ps (c' t u), z ≠ p.1) → stored.contains z = false → m' z = m₀ z) (hp : ∀ t u, P (c' t u)) (hm : ∀ t u, μ (c' t u) < μ c) :
    KswEnd h₀ L s Led ps (fun _ => True) stored m₀ P μ c { s with heap := h', toks := tk } := by
  obtain ⟨t, u, hk⟩ := hk
  exact ksw_end (c' t u) F N (hn t u) trivial hk (hr t u) (hp t u) (hm t u)
theorem up_inv {g : Heap} {l c : List It} {p r k : Nat} (c1 : c.length = l.length) (c2 : r < l.length) (c4 : HH c p r) (c6 : Desc p r) (c7 : (c.set r (at' l p)).Perm l) (c8 : ∀ x ∈ c, HItem g x) (hk : k = 2 * r + 1 ∨ k = 2 * r + 2) (hkl : k < l.length)
    (hmin : ∀ i, (i = 2 * r + 1 ∨ i = 2 * r + 2) → i < c.length → ky c k ≤ ky c i) :
    (c.set r (at' c k)).length = l.length ∧ k < l.length ∧ HH (c.set r (at' c k)) p k ∧ Desc p k ∧ ((c.set r (at' c k)).set k (at' l p)).Perm l ∧ ∀ x ∈ c.set r (at' c k), HItem g x := by
  obtain ⟨h1, h2⟩ := up_step c4 c6 (by lia) hk hmin
  exact ⟨by rw [List.length_set]; exact c1, hkl, h1, h2, perm_swap' (by lia) (by lia) (by lia) c7, fun x hx => ((List.mem_or_eq_of_mem_set hx).elim (c8 x) fun e => e ▸ c8 _ (at_mem (by lia)))⟩
theorem hide_item {g h : Heap} {L ha : Addr} {m : Str → Option Value} {x : It} (F : Fr g L h m) (hn : g.get? ha = none) (H : HItem g x) : HItem (h.hide ha) x :=
  H.keeps fun b o e => (Heap.hide_ne _ (fun q : b = ha => by rw [q, hn] at e; cases e)).trans (F.keep b o e)
theorem kl_last_append (p : List Value) (y : Value) : kl_last (p ++ [y]) = some (p, y) := by
  induction p with
  | nil => rfl
  | cons x p ih => show (match kl_last (p ++ [y]) with | some (p, y) => some (x :: p, y) | none => some ([], x)) = _; rw [ih]
theorem m_pop {prog : Program} {w : World} {A : Around} {E : Value → Shared → Prop} {s : Shared} {g : Heap} {L D : Addr} {m : Str → Option Value} {news news' : List (Addr × Obj)} {ld : List It} {y : It} {n : Nat} {Q : Value → Shared → Prop} (F : Fr g L s.heap m) (N : News g L s.heap news) (U : Upd D (PySem.W.listOf (vls (ld ++ [y])).toArray n) (PySem.W.listOf (vls ld).toArray (n + 1)) news news') (hl : (ld ++ [y]).length ≤ 64)
    (h : ∀ h', Fr g L h' m → News g L h' news' → Q (.ref y.1) { s with heap := h' }) :
    wpAny (model prog w) A (call (.builtin "list.pop") [.ref D]) Q E s := by
  refine kl_pop (p := vls ld) (y := .ref y.1) F N ?_ U ?_ h
  · show kl_last (vls (ld ++ [y])) = _
    rw [show vls (ld ++ [y]) = vls ld ++ [.ref y.1] by simp [vls]]
    exact kl_last_append ..
  · show (vls (ld ++ [y])).length ≤ sizeLine
    rw [vls_len]; exact Nat.le_trans hl (Nat.le_of_ble_eq_true rfl)
theorem HP.tail {x y : It} {r : List It} (h : HP ((x :: r) ++ [y]) 0) : HP (y :: r) 1 := by
  intro i a b c
  have e : ∀ j, 1 ≤ j → j < (x :: r).length → ky ((x :: r) ++ [y]) j = ky (y :: r) j := fun j hj hl => by
    unfold ky at'
    obtain ⟨k, rfl⟩ : ∃ k, j = k + 1 := ⟨j - 1, by lia⟩
    simp only [List.length_cons, Nat.add_lt_add_iff_right] at hl
    simp [List.getD_eq_getElem?_getD, List.getElem?_append_left hl]
  have b' : i < (x :: r).length := b
  have := h i a (by simp only [List.length_append, List.length_cons, List.length_nil] at b ⊢; lia) (Nat.zero_le _)
  rwa [e i a b', e _ c (by lia)] at this
noncomputable def rangeIt (a n c : Int) : Obj := { cls := .type "range_iterator", data := .fields #[rawInt a, rawInt n, rawInt c] }
section
variable {prog : Program} {w : World} {A : Around} {E : Value → Shared → Prop} {s : Shared}
theorem call_range_reversed {r : Addr} {t u v : Tok} {Q : Value → Shared → Prop} (hr : IsRange s.heap r 0 13 1 t u v)
    (h : Q (.ref s.heap.objs.size) { s with heap := s.heap.push (rangeIt 12 13 (-1)) }) : wpAny (model prog w) A (call (.builtin "range.__reversed__") [.ref r]) Q E s := by
  have hT : s.TypeIs (.ref r) "range" := ⟨_, hr, rfl⟩
  refine wpAny_call_entry F.slot_range_reversed hT F.entry_range_reversed ?_ (F.args_range_reversed_1 _)
  unfold Builtin.«range.__reversed__»
  refine wpAny_bind (wpAny_of_eq (a := Value.ref r) rfl ?_)
  unfold Builtin.Range.rangeFields
  refine wpAny_bind ?_
  refine wpAny_bind (wpAny_field hr rfl (x := .int 0 t) rfl ?_)
  refine wpAny_bind (wpAny_of_eq (a := some 0) rfl ?_)
  refine wpAny_bind (wpAny_field hr rfl (x := .int 13 u) rfl ?_)
  refine wpAny_bind (wpAny_of_eq (a := some 13) rfl ?_)
  refine wpAny_bind (wpAny_field hr rfl (x := .int 1 v) rfl ?_)
  refine wpAny_bind (wpAny_of_eq (a := some 1) rfl ?_)
  refine wpAny_pure ?_
  dsimp only
  show wpAny _ _ (newFields "range_iterator" [rawInt 12, rawInt 13, rawInt (-1)] >>= _) _ _ s
  exact wpAny_bind (wpAny_newObj_type (wpAny_pure ⟨_, rfl, h⟩))
theorem code_reversed_range {r : Addr} {t u v : Tok} {Q₁ : Value → Shared → Prop} (hr : IsRange s.heap r 0 13 1 t u v)
    (h : Q₁ (.ref s.heap.objs.size) { s with heap := s.heap.push (rangeIt 12 13 (-1)) }) :
    codeAny (model prog w) A (.call (.builtin "reversed.__new__") ⟨[.type "reversed", .ref r], []⟩) (wants Q₁ E) s := by
  have hT : s.TypeIs (.ref r) "range" := ⟨_, hr, rfl⟩
  refine codeAny_of_tree ?_
  show wpAny _ A.in1 (do checkBuiltinCall "reversed.__new__" ⟨[.type "reversed", .ref r], []⟩; again (.builtin "reversed.__new__" ⟨[.type "reversed", .ref r], []⟩)) _ _ s
  refine wpAny_bind (wpAny_of_eq (F.newCall_reversed_1 _) (wpAny_pure ⟨plainId_quiet F.plain_reversed_new _, codeAny_builtin F.entry_reversed_new ?_⟩))
  rw [Around.under_plainId F.plain_reversed_new _]
  unfold Builtin.«reversed.__new__»
  refine wpAny_bind (wpAny_of_eq (newClass_reversed _) ?_)
  try dsimp only
  refine wpAny_bind (wpAny_of_eq (a := ()) (by first | rfl | kernel_rfl) ?_)
  refine wpAny_bind (wpAny_of_eq (a := ()) (by first | rfl | kernel_rfl) ?_)
  try dsimp only
  refine wpAny_bind (wpAny_specialOf hT F.slot_range_reversed.lookup ?_)
  try dsimp only
  refine wpAny_bind (wpAny_of_eq (F.slot_range_reversed.bind _) ?_)
  try dsimp only
  first
  | rw [if_neg (show ¬ ((Value.builtin "range.__reversed__" == Value.none) = true) from Bool.false_ne_true)]
  | (show wpAny _ _ (if (Value.builtin "range.__reversed__" == Value.none) = true then _ else _) _ _ _; rw [if_neg (show ¬ ((Value.builtin "range.__reversed__" == Value.none) = true) from Bool.false_ne_true)])
  refine wpAny_bind (wpAny_rule ?_)
  refine wpAny_bind (m := runValue (.call (.builtin "range.__reversed__") ⟨[.ref r], []⟩)) (show wpAny _ _ (call (.builtin "range.__reversed__") [.ref r]) _ _ _ from call_range_reversed hr ?_)
  first
  | exact wpAny_pure h
  | exact wpAny_bind (wpAny_pure (wpAny_pure h))
theorem sub_rit_reversed : isSubtype (.type "range_iterator") (.type "reversed") = pure false := by rw [isSubtype_type]; kernel_rfl
theorem call_reversed_range {r : Addr} {t u v : Tok} {Q : Value → Shared → Prop} (hr : IsRange s.heap r 0 13 1 t u v)
    (h : Q (.ref s.heap.objs.size) { s with heap := s.heap.push (rangeIt 12 13 (-1)) }) : wpAny (model prog w) A (call (.type "reversed") [.ref r]) Q E s := by
  refine callType_other (U := "range_iterator") (Q₁ := fun obj s₁ => obj = .ref s.heap.objs.size ∧ s₁ = { s with heap := s.heap.push (rangeIt 12 13 (-1)) }) (by decide +kernel) F.create_reversed ⟨_, _, F.mro_reversed⟩ F.made_reversed sub_rit_reversed (F.typeCall_reversed_1 _) (code_reversed_range hr ⟨rfl, rfl⟩) ?_
  rintro obj s₁ ⟨rfl, rfl⟩
  exact ⟨⟨_, Heap.get?_push_size _ rfl, rfl⟩, h⟩
theorem m_reversed {r L : Addr} {g : Heap} {m : Str → Option Value} {news : List (Addr × Obj)} {b : Int} {t u v : Tok} {Q : Value → Shared → Prop} (F : Fr g L s.heap m) (N : News g L s.heap news) (hr : IsRange s.heap r 0 b 1 t u v) (hb : b = 13)
    (h : ∀ I h', IsRangeIter h' I 12 13 (-1) → g.get? I = none → I ≠ L → (∀ p ∈ news, p.1 ≠ I) → Fr g L h' m → News g L h' news → Q (.ref I) { s with heap := h' }) : wpAny (model prog w) A (call (.type "reversed") [.ref r]) Q E s := by
  subst hb
  exact call_reversed_range hr (h _ _ (Heap.get?_push_size _ rfl) (F.fresh) (Nat.ne_of_gt F.ns.lt) (fun p hp => Nat.ne_of_lt (Heap.lt_size (N p hp).1)) (F.push _) (fun p hp => ⟨Heap.get?_push_of_some _ (N p hp).1, (N p hp).2⟩))
end
end

section
theorem calm_M4t : True := by
  w_top off
  exact trivial
theorem m_truthy {prog : Program} {w : World} {A : Around} {E : Value → Shared → Prop} {s : Shared} {g : Heap} {L D : Addr} {news : List (Addr × Obj)} {l : List It} {n : Nat} {Q : Bool → Shared → Prop} (N : News g L s.heap news) (hm : (D, PySem.W.listOf (vls l).toArray n) ∈ news) (hl : l.length ≤ 64) (h : Q (decide (0 < l.length)) { s with toks := s.toks + 1 + 1 }) :
    wpAny (model prog w) A (truthy (.ref D)) Q E s := by
  have hs : (vls l).toArray.size = l.length := by rw [List.size_toArray, vls_len]
  refine wpAny_truthy_list (PySem.IsL.isList (n := n) (N _ hm).1) (by omega) ?_
  have e : (!(vls l).toArray.isEmpty) = decide (0 < l.length) := by cases l <;> simp [vls]
  rw [e]; exact h
theorem rev_loop {prog : Program} {w : World} {A : Around} {env : Env} {h₀ : Heap} {x : Str} {body : List Stmt} {Q : Flow → Shared → Prop} {E : Value → Shared → Prop} {s : Shared} {I : Addr} {m₀ : Str → Option Value} {news : List (Addr × Obj)} (J : Nat → (Str → Option Value) → List (Addr × Obj) → Prop)
    (hh : A.handled = none) (hit : IsRangeIter s.heap I 12 13 (-1)) (hI : h₀.get? I = none) (hIL : I ≠ env.locals) (hnw : ∀ p ∈ news, p.1 ≠ I) (F : Fr h₀ env.locals s.heap m₀) (N : News h₀ env.locals s.heap news) (hj : J 0 m₀ news)
    (turn : ∀ i t m₁ news₁ h tk own, i < 13 → OwnOff own (news.map (·.1)) → J i m₁ news₁ → Fr h₀ env.locals h (fun y => if y = x then some (.int ((12 - i : Nat) : Int) t) else m₁ y) → News h₀ env.locals h (news₁ ++ own) →
      wpAny (model prog w) A (execs body env) (InvPostN h₀ env.locals (J (i + 1)) own (news.map (·.1)) { s with heap := h, toks := tk } Q) E { s with heap := h, toks := tk })
    (done : ∀ m₁ news₁ h tk, J 13 m₁ news₁ → Fr h₀ env.locals h m₁ → News h₀ env.locals h news₁ → Q .next { s with heap := h, toks := tk }) :
    wpAny (model prog w) A (pyIter (.ref I)) (fun it s₂ => LoopAtV prog w A h₀ env x body Q E it s₂) E s := by
  have W := (Walks.range (prog := prog) (w := w) (A := A) hh I 12 (-1) 13)
  have h0 : IsRangeIter s.heap I (12 + ((0 : Nat) : Int) * (-1)) (((13 : Nat) : Int) - ((0 : Nat) : Int)) (-1) := hit
  refine W.self 0 _ _ _ h0 ?_
  refine loop_invN (I := I) (fp := [I]) (wr := [I]) J W ?_ ?_ ?_ ?_ h0 F N hj ?_ done
  · intro hm; exact hIL (List.mem_singleton.mp hm).symm
  · intro b hb; rw [List.mem_singleton.mp hb]; exact hI
  · intro p hp hm; exact hnw p hp (List.mem_singleton.mp hm)
  · intro p hp hm; exact hnw p hp (List.mem_singleton.mp hm)
  · rintro i v m₁ news₁ h tk own hi ⟨t, rfl⟩ _ hoff hJ F₁ N₁
    have e : (12 : Int) + (i : Int) * (-1) = ((12 - i : Nat) : Int) := by omega
    rw [e] at F₁
    exact turn i t m₁ news₁ h tk own hi hoff hJ F₁ N₁
theorem fr_at {g h : Heap} {L : Addr} {a b : Str} {v : Option Value} {u : Value} {m : Str → Option Value} (F : Fr g L h (fun y => if y = a then v else m y)) (hb : m b = some u) : Fr g L h (fun y => if y = a then v else if y = b then some u else m y) := by
  have e : (fun y => if y = a then v else if y = b then some u else m y) = (fun y => if y = a then v else m y) := by
    funext y
    by_cases h1 : y = a
    · simp [h1]
    · by_cases h2 : y = b
      · subst h2; simp [h1, hb]
      · simp [h1, h2]
  rw [e]; exact F
end

section
theorem calm_S2 : True := by
  w_top off
  exact trivial
open PySem.W
/-- an item of the heap in the ledger: its tuple and its key -/
noncomputable def T4 (f : List (Addr × Obj)) (p : It) : Prop :=
  ∃ (w i j k : Int) (t0 t1 t2 t3 : Tok), (0 ≤ i ∧ i < 3) ∧ (0 ≤ j ∧ j < 3) ∧ (0 ≤ k ∧ k < 3) ∧ p.2 = ((w * 3 + i) * 3 + j) * 3 + k ∧ (p.1, ({ cls := .type "tuple", data := .seq #[.int w t0, .int i t1, .int j t2, .int k t3] } : Obj)) ∈ f
theorem T4.mono {f f' : List (Addr × Obj)} {p : It} (h : T4 f p) (hs : ∀ q ∈ f, q ∈ f') : T4 f' p := by
  obtain ⟨w, i, j, k, t0, t1, t2, t3, a, b, c, d, e⟩ := h
  exact ⟨w, i, j, k, t0, t1, t2, t3, a, b, c, d, hs _ e⟩
section
variable {prog : Program} {w : World} {A : Around} {E : Value → Shared → Prop} {s : Shared} {h₀ : Heap} {L : Addr} {m : Str → Option Value} {news : List (Addr × Obj)}
theorem dig_lt {a b i j : Int} (hi : 0 ≤ i ∧ i < 3) (hj : 0 ≤ j ∧ j < 3) : a * 3 + i < b * 3 + j ↔ a < b ∨ (a = b ∧ i < j) := by omega
theorem dig_eq {a b i j : Int} (hi : 0 ≤ i ∧ i < 3) (hj : 0 ≤ j ∧ j < 3) : a * 3 + i = b * 3 + j ↔ a = b ∧ i = j := by omega
theorem key_lt4 {w1 i1 j1 k1 w2 i2 j2 k2 : Int} (a1 : 0 ≤ i1 ∧ i1 < 3) (b1 : 0 ≤ j1 ∧ j1 < 3) (c1 : 0 ≤ k1 ∧ k1 < 3) (a2 : 0 ≤ i2 ∧ i2 < 3) (b2 : 0 ≤ j2 ∧ j2 < 3) (c2 : 0 ≤ k2 ∧ k2 < 3) :
    ((w1 * 3 + i1) * 3 + j1) * 3 + k1 < ((w2 * 3 + i2) * 3 + j2) * 3 + k2 ↔ ((w1 < w2 ∨ (w1 = w2 ∧ i1 < i2)) ∨ ((w1 = w2 ∧ i1 = i2) ∧ j1 < j2)) ∨ (((w1 = w2 ∧ i1 = i2) ∧ j1 = j2) ∧ k1 < k2) := by
  rw [dig_lt c1 c2, dig_lt b1 b2, dig_eq b1 b2, dig_lt a1 a2, dig_eq a1 a2]
theorem key_ask {p q : It} {C : Bool → Shared → Prop} (N : News h₀ L s.heap news) (hp : T4 news p) (hq : T4 news q) (h : C (decide (p.2 < q.2)) s) : wpAny (model prog w) A (keyLt' (tuples' true) (.ref p.1) (.ref q.1)) C E s := by
  obtain ⟨w1, i1, j1, k1, t0, t1, t2, t3, a1, b1, c1, d1, e1⟩ := hp
  obtain ⟨w2, i2, j2, k2, u0, u1, u2, u3, a2, b2, c2, d2, e2⟩ := hq
  rw [d1, d2] at h
  have lx := key_lt4 (w1 := w1) (w2 := w2) a1 b1 c1 a2 b2 c2
  have go : ∀ {b b' : Bool}, b = b' → C b' s → C b s := fun e h => e ▸ h
  refine kat_lt (N _ e1).1 rfl (N _ e2).1 rfl ?_
  refine kat_cons (wpAny_eqBool_int (kat_go (fun x => kat_yes ?_) fun x => kat_no (oneLt_int (go ?_ h))))
  · simp only [beq_iff_eq] at x
    refine kat_cons (wpAny_eqBool_int (kat_go (fun y => kat_yes ?_) fun y => kat_no (kat_one _ _ (lt_int (go ?_ h)))))
    · simp only [beq_iff_eq] at y
      refine kat_cons (wpAny_eqBool_int (kat_go (fun z => kat_yes ?_) fun z => kat_no (kat_one _ _ (lt_int (go ?_ h)))))
      · simp only [beq_iff_eq] at z
        refine kat_cons (wpAny_eqBool_int (kat_go (fun v => kat_yes ?_) fun v => kat_no (kat_one _ _ (lt_int (go ?_ h)))))
        · simp only [beq_iff_eq] at v
          refine kat_nil (go ?_ h)
          refine decide_eq_decide.mpr ⟨fun e => absurd e (Nat.lt_irrefl 4), fun e => by rw [lx] at e; simp [x, y, z, v] at e⟩
        · simp only [beq_eq_false_iff_ne, ne_eq] at v
          exact decide_eq_decide.mpr (by rw [lx]; simp [x, y, z, v])
      · simp only [beq_eq_false_iff_ne, ne_eq] at z
        exact decide_eq_decide.mpr (by rw [lx]; simp [x, y, z])
    · simp only [beq_eq_false_iff_ne, ne_eq] at y
      exact decide_eq_decide.mpr (by rw [lx]; simp [x, y])
  · simp only [beq_eq_false_iff_ne, ne_eq] at x
    exact decide_eq_decide.mpr (by rw [lx]; simp [x])
theorem tups_of {l : List It} (hit : ∀ x ∈ l, T4 news x) (N : News h₀ L s.heap news) : ∃ fs, fs.length = l.length ∧ (∀ v ∈ fs, ∃ n t, v = Value.int n t) ∧ KatTups s.heap (vls l) fs := by
  induction l with
  | nil => exact ⟨[], rfl, (fun _ h => nomatch h), .nil⟩
  | cons x l ih =>
    obtain ⟨fs, e, a, b⟩ := ih fun y hy => hit y (.tail _ hy)
    obtain ⟨w1, i1, j1, k1, t0, t1, t2, t3, a1, b1, c1, d1, e1⟩ := hit x (.head _)
    refine ⟨.int w1 t0 :: fs, by simp [e], ?_, .cons (N _ e1).1 rfl rfl rfl b⟩
    intro v hv
    rcases List.mem_cons.mp hv with rfl | hv
    · exact ⟨_, _, rfl⟩
    · exact a v hv
/-- the list in sorted order -/
noncomputable def itAt (l : List It) (i : Nat) : It := l.getD i (0, 0)
theorem vls_gd (l : List It) {i : Nat} (hi : i < l.length) : (vls l).getD i Value.none = .ref (itAt l i).1 := by
  unfold vls itAt
  simp [List.getD, hi]
theorem sorted_D {l : List It} {a : Addr} {n : Nat} {Q : Value → Shared → Prop} (hit : ∀ x ∈ l, T4 news x) (hnd : (l.map (·.2)).Nodup) (F : Fr h₀ L s.heap m) (N : News h₀ L s.heap news) (D : NDup news) (hm : (a, listOf (vls l).toArray n) ∈ news)
    (h2 : 2 ≤ l.length) (h64 : l.length < 64)
    (h : ∀ T h' l' n', l'.Perm l → (l'.Pairwise fun x y => x.2 ≤ y.2) → Fr h₀ L h' m → News h₀ L h' ((T, listOf (vls l').toArray n') :: news) → NDup ((T, listOf (vls l').toArray n') :: news) → Q (.ref T) { s with heap := h' }) :
    wpAny (model prog w) A (call (.builtin "sorted") [.ref a]) Q E s := by
  have hlen := vls_len l
  refine kat_sorted F N ⟨_, (N _ hm).1, rfl, _, rfl⟩ (by lia) (by lia) fun T e1 h' F' N' hlt => ?_
  obtain ⟨fs, ef, hfs, ht⟩ := tups_of (s := { s with heap := h' }) (fun x hx => (hit x hx).mono fun q hq => .tail _ hq) N'
  refine kat_kind (T := .type "int") ht (by lia) (fun v hv => ?_) rfl ?_
  · obtain ⟨k, t, rfl⟩ := hfs v hv
    exact Looks.of_pure rfl
  refine sort_ok (key := fun i => (itAt l i).2) (fun i j C hi hj hC => ?_) (fun i j hi hj e => ?_) (by lia) fun p hp hu => ?_
  · unfold kas_ask
    rw [vls_gd l (by lia), vls_gd l (by lia)]
    have mem : ∀ {i}, i < l.length → itAt l i ∈ l := fun {i} hi => by unfold itAt; simp [List.getD, hi]
    exact key_ask N' ((hit _ (mem (by lia))).mono fun q hq => .tail _ hq) ((hit _ (mem (by lia))).mono fun q hq => .tail _ hq) hC
  · rw [hlen] at hi hj
    have pw := List.pairwise_iff_getElem.mp hnd
    have g : ∀ {i} (hi : i < l.length), (itAt l i).2 = (l.map (·.2))[i]'(by simpa using hi) := fun {i} hi => by unfold itAt; simp [List.getD, hi]
    rw [g hi, g hj] at e
    rcases Nat.lt_trichotomy i j with h' | h' | h'
    · exact absurd e (pw _ _ _ _ h')
    · exact h'
    · exact absurd e.symm (pw _ _ _ _ h')
  · rw [hlen] at hp hu
    have hps := hp.size
    have e : (p.toList.map fun i => (vls l).getD i Value.none) = vls (p.toList.map (itAt l)) := by
      unfold vls
      rw [List.map_map]
      refine List.map_congr_left fun i hi => ?_
      exact vls_gd l (List.mem_range.mp (hp.mem_iff.mp hi))
    rw [e]
    refine KasFin.intro F' N' (.head fun q hq => Nat.ne_of_lt (hlt q hq)) fun h'' c F'' N'' => ?_
    refine h T h'' _ c ?_ ?_ F'' N'' (D.cons fun q hq => Nat.ne_of_lt (hlt q hq))
    · refine (hp.map (itAt l)).trans ?_
      have : (List.range l.length).map (itAt l) = l := by
        refine List.ext_getElem (by simp) fun i h1 h2 => ?_
        unfold itAt
        simp at h1
        simp [List.getD, h1]
      rw [this]
    · rw [List.pairwise_iff_getElem]
      intro i j hi hj hij
      simp at hi hj
      have := hu i j hij (by lia)
      simpa [Array.getD, hi, hj] using this
end
end

section
theorem calm_L2 : True := by
  w_top off
  exact trivial
/-- a contract used from a frame -/
theorem p_call {w : World} {f : Addr} {vs : List Value} {P : Heap → Prop} {post : Value → List (Addr × Obj) → Prop} {lv un0 : Nat} (C : PCtr w f vs P post lv un0)
    {p : Program} {loose : List Str} {mean : ExcName → Option Value} {mg mb : Str → Option Value} {A A₀ : Around} {outer : List Env} {base g : Heap} {s : Shared} {L : Addr} {m : Str → Option Value} {env : Env} {news : List (Addr × Obj)} {Q E : Value → Shared → Prop}
    (B : Below A₀ base outer g) (X : (nk.heap_1 w.params).In g) (T : Top p loose mean mg mb g) (F : Fr g L s.heap m) (N : News g L s.heap news) (hh : A.handled = none) (hA : A.frames = some (env :: outer)) (hk : env.scope.kind ≠ .module) (hf : env.frame = some L)
    (hdp : A.depth + lv < recursionLimit) (hun : A.units + un0 < cLine) (htk : 0 < s.toks) (hP : P s.heap)
    (h : ∀ v h' tk' own, post v own → 0 < tk' → Fr g L h' m → News g L h' (own ++ news) → Q v { s with heap := h', toks := tk' }) :
    wpAny (MM w) A (call (.ref f) vs) Q E s := by
  obtain ⟨a1, a2, a3, a4, a5⟩ := A
  dsimp only at hh hA hdp hun
  subst hh; subst hA
  have B' : Below (TopA a2 a5 a4 (env :: outer)) base (env :: outer) s.heap := by
    refine ⟨rfl, fun b o e => F.keep b o (B.stays b o e), hk, ?_, B.frames.of_keeps fun b o e _ => ⟨o, F.keep b o e, rfl⟩⟩
    obtain ⟨oL, es, ep, hL, hd, _⟩ := F.ns
    refine ⟨L, oL, hf, ?_, hL, fun vs e => by rw [hd] at e; cases e⟩
    cases q : base.get? L with
    | none => rfl
    | some o => exact absurd (Heap.lt_size (B.stays _ _ q)) (Nat.not_lt.mpr F.above)
  refine C p loose mean mg mb a2 a5 a4 (env :: outer) _ base s Q E B' (X.keeps F.keep) (T.keeps F.keep) hdp hun htk hP ?_
  intro v h' tk' own hp ht hst ho
  refine h v h' tk' own hp ht (F.grownK hst) fun q hq => ?_
  rcases List.mem_append.mp hq with hq | hq
  · have y := ho q hq
    obtain ⟨oL, _, _, hL, _⟩ := F.ns
    have hne : q.1 ≠ L := fun e => by
      have y2 := y.2
      rw [e, hL] at y2
      cases y2
    exact ⟨y.1, hne, F.noneBack y.2⟩
  · have y := N q hq; exact ⟨hst _ _ y.1, y.2⟩
section
variable {w : World} {p : Program} {loose : List Str} {mean : ExcName → Option Value} {mg mb : Str → Option Value} {A A₀ : Around} {outer : List Env} {base g : Heap} {s : Shared} {L : Addr} {m : Str → Option Value} {env : Env} {news : List (Addr × Obj)} {Q E : Value → Shared → Prop}
theorem parts_K {k sh va : Int} {t1 t2 t3 : Tok} (b0 : 0 ≤ k ∧ k < 1024) (b1 : 1 ≤ sh ∧ sh ≤ 4) (b2 : 1 ≤ va ∧ va ≤ 4) (B : Below A₀ base outer g) (X : (nk.heap_1 w.params).In g) (T : Top p loose mean mg mb g) (F : Fr g L s.heap m) (N : News g L s.heap news) (hh : A.handled = none) (hA : A.frames = some (env :: outer)) (hk : env.scope.kind ≠ .module) (hf : env.frame = some L)
    (hdp : A.depth + 1 < recursionLimit) (hun : A.units + 8 < cLine) (htk : 0 < s.toks)
    (h : ∀ l t0 t1 t2 n h' tk', 0 < tk' → Fr g L h' m → News g L h' ((l, PySem.W.listOf #[.int (part k sh va 0) t0, .int (part k sh va 2048) t1, .int (part k sh va 4096) t2] n) :: news) → Q (.ref l) { s with heap := h', toks := tk' }) :
    wpAny (MM w) A (call (.ref 242) [.int k t1, .int sh t2, .int va t3]) Q E s :=
  p_call (parts_c w k sh va t1 t2 t3 b0 b1 b2) B X T F N hh hA hk hf hdp hun htk trivial fun v h' tk' own hp ht F' N' => by
    obtain ⟨l, t0, t1, t2, n, rfl, hm⟩ := hp
    exact h l t0 t1 t2 n h' tk' ht F' fun q hq => N' q ((List.mem_cons.mp hq).elim (fun e => e ▸ List.mem_append.mpr (.inl hm)) fun e => List.mem_append.mpr (.inr e))
noncomputable abbrev tup3 (a b c : Value) : Obj := { cls := .type "tuple", data := .seq #[a, b, c] }
theorem h2r_K {a b c : UInt64} {k sh va : Int} {t1 t2 t3 : Tok} (ha : Ex a k 10) (hb : Ex b sh 2) (hc : Ex c va 2) (b0 : 0 ≤ k ∧ k < 1024) (b1 : 1 ≤ sh ∧ sh ≤ 4) (b2 : 1 ≤ va ∧ va ≤ 4) (ht3 : t3 ≠ 0) (B : Below A₀ base outer g) (X : (nk.heap_1 w.params).In g) (T : Top p loose mean mg mb g) (F : Fr g L s.heap m) (N : News g L s.heap news) (hh : A.handled = none) (hA : A.frames = some (env :: outer)) (hk : env.scope.kind ≠ .module) (hf : env.frame = some L)
    (hdp : A.depth + 1 < recursionLimit) (hun : A.units + 8 < cLine) (htk : 0 < s.toks)
    (h : ∀ l c0 c1 c2 t0 t1 t2 h' tk', Ex c0 (part k sh va 0) 14 → Ex c1 (part k sh va 2048) 14 → Ex c2 (part k sh va 4096) 14 → (t0 ≠ 0 ∧ t1 ≠ 0 ∧ t2 ≠ 0) → 0 < tk' → Fr g L h' m → News g L h' ((l, tup3 (.float c0 t0) (.float c1 t1) (.float c2 t2)) :: news) → Q (.ref l) { s with heap := h', toks := tk' }) :
    wpAny (MM w) A (call (.ref 59) [.float a t1, .float b t2, .float c t3]) Q E s :=
  p_call (h2r_c w a b c t1 t2 t3 k sh va b0 b1 b2 ha hb hc ht3) B X T F N hh hA hk hf hdp hun htk trivial fun v h' tk' own hp ht F' N' => by
    obtain ⟨l, c0, c1, c2, t0, t1, t2, e0, e1, e2, ht', rfl, hm⟩ := hp
    exact h l c0 c1 c2 t0 t1 t2 h' tk' e0 e1 e2 ht' ht F' fun q hq => N' q ((List.mem_cons.mp hq).elim (fun e => e ▸ List.mem_append.mpr (.inl hm)) fun e => List.mem_append.mpr (.inr e))
theorem r2h_K {a b c : UInt64} {k sh va : Int} {t1 t2 t3 : Tok} (ha : Ex a (part k sh va 0) 14) (hb : Ex b (part k sh va 2048) 14) (hc : Ex c (part k sh va 4096) 14) (b0 : 0 ≤ k ∧ k < 1024) (b1 : 1 ≤ sh ∧ sh ≤ 4) (b2 : 1 ≤ va ∧ va ≤ 4) (ht3 : t1 ≠ 0 ∧ t2 ≠ 0 ∧ t3 ≠ 0) (B : Below A₀ base outer g) (X : (nk.heap_1 w.params).In g) (T : Top p loose mean mg mb g) (F : Fr g L s.heap m) (N : News g L s.heap news) (hh : A.handled = none) (hA : A.frames = some (env :: outer)) (hk : env.scope.kind ≠ .module) (hf : env.frame = some L)
    (hdp : A.depth + 1 < recursionLimit) (hun : A.units + 8 < cLine) (htk : 0 < s.toks)
    (h : ∀ l c0 c1 c2 t0 t1 t2 h' tk', Ex c0 k 10 → Ex c1 sh 2 → Ex c2 va 2 → (t0 ≠ 0 ∧ t1 ≠ 0 ∧ t2 ≠ 0) → 0 < tk' → Fr g L h' m → News g L h' ((l, tup3 (.float c0 t0) (.float c1 t1) (.float c2 t2)) :: news) → Q (.ref l) { s with heap := h', toks := tk' }) :
    wpAny (MM w) A (call (.ref 52) [.float a t1, .float b t2, .float c t3]) Q E s :=
  p_call (r2h_c w a b c t1 t2 t3 k sh va b0 b1 b2 ha hb hc ht3) B X T F N hh hA hk hf hdp hun htk trivial fun v h' tk' own hp ht F' N' => by
    obtain ⟨l, c0, c1, c2, t0, t1, t2, e0, e1, e2, ht', rfl, hm⟩ := hp
    exact h l c0 c1 c2 t0 t1 t2 h' tk' e0 e1 e2 ht' ht F' fun q hq => N' q ((List.mem_cons.mp hq).elim (fun e => e ▸ List.mem_append.mpr (.inl hm)) fun e => List.mem_append.mpr (.inr e))
theorem hls_K {a b c : UInt64} {n : Int} {e : Nat} {t1 t2 t3 : Tok} (ha : Ex a n e) (hb : Ex b n e) (hc : Ex c n e) (hr2 : Rep (n + n).natAbs e) (hr : Rep n.natAbs e) (B : Below A₀ base outer g) (X : (nk.heap_1 w.params).In g) (T : Top p loose mean mg mb g) (F : Fr g L s.heap m) (N : News g L s.heap news) (hh : A.handled = none) (hA : A.frames = some (env :: outer)) (hk : env.scope.kind ≠ .module) (hf : env.frame = some L)
    (hdp : A.depth + 1 < recursionLimit) (hun : A.units + 8 < cLine) (htk : 0 < s.toks)
    (h : ∀ l c0 t0 t1 t2 h' tk', Ex c0 n e → 0 < tk' → Fr g L h' m → News g L h' ((l, tup3 (.float 0 t0) (.float c0 t1) (.float 0 t2)) :: news) → Q (.ref l) { s with heap := h', toks := tk' }) :
    wpAny (MM w) A (call (.ref 45) [.float a t1, .float b t2, .float c t3]) Q E s :=
  p_call (hls_c w a b c t1 t2 t3 n e ha hb hc hr2 hr) B X T F N hh hA hk hf hdp hun htk trivial fun v h' tk' own hp ht F' N' => by
    obtain ⟨l, c0, t0, t1, t2, e0, rfl, hm⟩ := hp
    exact h l c0 t0 t1 t2 h' tk' e0 ht F' fun q hq => N' q ((List.mem_cons.mp hq).elim (fun e => e ▸ List.mem_append.mpr (.inl hm)) fun e => List.mem_append.mpr (.inr e))
theorem cross_K {a1 a2 : Addr} {p0 p1 p2 q0 q1 q2 : Int} {t1 t2 t3 t4 t5 t6 : Tok} (b0 : 0 ≤ p0 ∧ p0 ≤ 65536) (b1 : 0 ≤ p1 ∧ p1 ≤ 65536) (b2 : 0 ≤ p2 ∧ p2 ≤ 65536) (l1 : s.heap.IsList a1 #[.int p0 t1, .int p1 t2, .int p2 t3]) (l2 : s.heap.IsList a2 #[.int q0 t4, .int q1 t5, .int q2 t6]) (B : Below A₀ base outer g) (X : (nk.heap_1 w.params).In g) (T : Top p loose mean mg mb g) (F : Fr g L s.heap m) (N : News g L s.heap news) (hh : A.handled = none) (hA : A.frames = some (env :: outer)) (hk : env.scope.kind ≠ .module) (hf : env.frame = some L)
    (hdp : A.depth + 1 < recursionLimit) (hun : A.units + 8 < cLine) (htk : 0 < s.toks)
    (h : ∀ t h' tk', 0 < tk' → Fr g L h' m → News g L h' news → Q (.int ((p0 - p1) * (q1 - q2) - (p1 - p2) * (q0 - q1)) t) { s with heap := h', toks := tk' }) :
    wpAny (MM w) A (call (.ref 249) [.ref a1, .ref a2]) Q E s :=
  p_call (cross_c w a1 a2 p0 p1 p2 q0 q1 q2 t1 t2 t3 t4 t5 t6 b0 b1 b2) B X T F N hh hA hk hf hdp hun htk ⟨l1, l2⟩ fun v h' tk' own hp ht F' N' => by
    obtain ⟨⟨t, rfl⟩, rfl⟩ := hp
    exact h t h' tk' ht F' N'
theorem widest_K {a1 : Addr} {p0 p1 p2 : Int} {t1 t2 t3 : Tok} (l1 : s.heap.IsList a1 #[.int p0 t1, .int p1 t2, .int p2 t3]) (B : Below A₀ base outer g) (X : (nk.heap_1 w.params).In g) (T : Top p loose mean mg mb g) (F : Fr g L s.heap m) (N : News g L s.heap news) (hh : A.handled = none) (hA : A.frames = some (env :: outer)) (hk : env.scope.kind ≠ .module) (hf : env.frame = some L)
    (hdp : A.depth + 1 < recursionLimit) (hun : A.units + 8 < cLine) (htk : 0 < s.toks)
    (h : ∀ t h' tk', 0 < tk' → Fr g L h' m → News g L h' news → Q (.int (wid p0 p1 p2) t) { s with heap := h', toks := tk' }) :
    wpAny (MM w) A (call (.ref 256) [.ref a1]) Q E s :=
  p_call (widest_c w a1 p0 p1 p2 t1 t2 t3) B X T F N hh hA hk hf hdp hun htk l1 fun v h' tk' own hp ht F' N' => by
    obtain ⟨t, rfl⟩ := hp
    exact h t h' tk' ht F' fun q hq => N' q (List.mem_append.mpr (.inr hq))
end
end

section
theorem calm_L3 : True := by
  w_top off
  exact trivial
section
variable {prog : Program} {w : World} {A : Around} {E : Value → Shared → Prop} {s : Shared}
theorem div_by {a b : Int} {g : Nat} {t u : Tok} {Q : Value → Shared → Prop} (hb : b = 2 ^ g) (hg : g ≤ 14) (h0 : 0 ≤ a) (h1 : a < 2 ^ 53) (h : ∀ x, Ex x a g → Q (.float x s.toks) { s with toks := s.toks + 1 }) :
    wpAny (model prog w) A (binaryOp .Div (.int a t) (.int b u)) Q E s := by
  have hp : (0 : Int) < b := by rw [hb]; exact Int.pow_pos (by decide)
  have hx : Ex (Float64.ofFrac (decide (a < 0) != decide (b < 0)) a.natAbs b.natAbs) a g := frac_ex hp (by rw [hb]) (rep_of (by omega) (by omega))
  exact AutoIntOps.truediv_2 (by simp; omega) (by rw [not_inf hx]; decide) (h _ hx)
theorem mul_by {x : UInt64} {a b : Int} {e : Nat} {t u : Tok} {Q : Value → Shared → Prop} (hx : Ex x a e) (h0 : 0 ≤ a) (hb : 0 ≤ b) (hb2 : b < 2 ^ 53) (h1 : a * b < 2 ^ 53) (he : e ≤ 100) (h : ∀ y, Ex y (a * b) e → Q (.float y s.toks) { s with toks := s.toks + 1 }) :
    wpAny (model prog w) A (binaryOp .Mult (.float x t) (.int b u)) Q E s := by
  have hi : Ex (Float64.ofInt b) b 0 := int_ex (by omega)
  have hab : 0 ≤ a * b := Int.mul_nonneg h0 hb
  exact AutoFloatOps.mul_fi_1 (by rw [not_inf hi]; decide) (h _ (mul_ex hx hi h0 hb (rep_of (by omega) (by omega))))
end
theorem ints_pick {vs : List Value} {ns : List Int} (h : IntsAre vs ns) : ∀ idx : List Nat, ∃ ns', IntsAre (idx.filterMap (vs.toArray[·]?)) ns'
  | [] => ⟨[], .nil⟩
  | i :: r => by
    obtain ⟨ns', hr⟩ := ints_pick h r
    by_cases hi : i < vs.length
    · have hn : i < ns.length := h.length ▸ hi
      obtain ⟨t, ht⟩ := h.get i _ (List.getElem?_eq_getElem hn)
      have e : vs.toArray[i]? = some (.int ns[i] t) := by simpa using ht
      exact ⟨ns[i] :: ns', by rw [List.filterMap_cons, e]; exact .cons _ _ hr⟩
    · have e : vs.toArray[i]? = none := by simp; omega
      exact ⟨ns', by rw [List.filterMap_cons, e]; exact hr⟩
theorem sum_pick {prog : Program} {w : World} {A : Around} {E : Value → Shared → Prop} {s : Shared} {g : Heap} {L a : Addr} {m : Str → Option Value} {news : List (Addr × Obj)} {vs : List Value} {ns : List Int} {lo up st : Option Int} {Q : Value → Shared → Prop} (hh : A.handled = none) (F : Fr g L s.heap m) {q : Addr × Obj} (N : News g L s.heap ((a, ({ cls := .type "list", data := .seq (slicePick vs.toArray lo up st) } : Obj)) :: q :: news))
    (hi : IntsAre vs ns) (h : ∀ h' tk t' r, s.toks ≤ tk → Fr g L h' m → News g L h' news → Q (.int r t') { s with heap := h', toks := tk }) :
    wpAny (model prog w) A (call (.builtin "sum") [.ref a]) Q E s := by
  obtain ⟨ns', hr⟩ := ints_pick hi (sliceRange (sliceBounds lo up st vs.toArray.size).1 (sliceBounds lo up st vs.toArray.size).2.1 (sliceBounds lo up st vs.toArray.size).2.2)
  refine with_toks (sumK hh F N (l := a) ⟨_, (N _ (.head _)).1, rfl, _, rfl⟩ hr fun h' tk t' F' N' => fun hle => h h' tk t' _ hle F' fun q hq => N' q (.tail _ (.tail _ hq)))
section
variable {prog : Program} {w : World} {A : Around} {E : Value → Shared → Prop} {s : Shared} {a b : Int} {t u : Tok} {Q : Value → Shared → Prop}
theorem mod_f (hb : 0 < b) (h : ∀ r, 0 ≤ r → r < b → Q (.int r s.toks) { s with toks := s.toks + 1 }) : wpAny (model prog w) A (binaryOp .Mod (.int a t) (.int b u)) Q E s :=
  mod_int' (by omega) (h _ (by rw [Int.fmod_eq_emod_of_nonneg _ (by omega)]; exact Int.emod_nonneg _ (by omega)) (by rw [Int.fmod_eq_emod_of_nonneg _ (by omega)]; exact Int.emod_lt_of_pos _ hb))
theorem mod_x (hb : 0 < b) (h : Q (.int (a % b) s.toks) { s with toks := s.toks + 1 }) : wpAny (model prog w) A (binaryOp .Mod (.int a t) (.int b u)) Q E s :=
  mod_int' (by omega) (by rw [Int.fmod_eq_emod_of_nonneg _ (by omega)]; exact h)
end
end

section
theorem calm_K1 : True := by
  w_top off
  exact trivial
open PySem.W
/-- a contract used from a frame; what it makes is new -/
theorem p_callD {w : World} {f : Addr} {vs : List Value} {P : Heap → Prop} {post : Value → List (Addr × Obj) → Prop} {lv un0 : Nat} (C : PCtr w f vs P post lv un0)
    {p : Program} {loose : List Str} {mean : ExcName → Option Value} {mg mb : Str → Option Value} {A A₀ : Around} {outer : List Env} {base g : Heap} {s : Shared} {L : Addr} {m : Str → Option Value} {env : Env} {news : List (Addr × Obj)} {Q E : Value → Shared → Prop}
    (B : Below A₀ base outer g) (X : (nk.heap_1 w.params).In g) (T : Top p loose mean mg mb g) (F : Fr g L s.heap m) (N : News g L s.heap news) (hh : A.handled = none) (hA : A.frames = some (env :: outer)) (hk : env.scope.kind ≠ .module) (hf : env.frame = some L)
    (hdp : A.depth + lv < recursionLimit) (hun : A.units + un0 < cLine) (htk : 0 < s.toks) (hP : P s.heap)
    (h : ∀ v h' tk' own, post v own → 0 < tk' → Fr g L h' m → News g L h' (own ++ news) → (∀ q ∈ own, ∀ p ∈ news, p.1 ≠ q.1) → Q v { s with heap := h', toks := tk' }) :
    wpAny (MM w) A (call (.ref f) vs) Q E s := by
  obtain ⟨a1, a2, a3, a4, a5⟩ := A
  dsimp only at hh hA hdp hun
  subst hh; subst hA
  have B' : Below (TopA a2 a5 a4 (env :: outer)) base (env :: outer) s.heap := by
    refine ⟨rfl, fun b o e => F.keep b o (B.stays b o e), hk, ?_, B.frames.of_keeps fun b o e _ => ⟨o, F.keep b o e, rfl⟩⟩
    obtain ⟨oL, es, ep, hL, hd, _⟩ := F.ns
    refine ⟨L, oL, hf, ?_, hL, fun vs e => by rw [hd] at e; cases e⟩
    cases q : base.get? L with
    | none => rfl
    | some o => exact absurd (Heap.lt_size (B.stays _ _ q)) (Nat.not_lt.mpr F.above)
  refine C p loose mean mg mb a2 a5 a4 (env :: outer) _ base s Q E B' (X.keeps F.keep) (T.keeps F.keep) hdp hun htk hP ?_
  intro v h' tk' own hp ht hst ho
  refine h v h' tk' own hp ht (F.grownK hst) (fun q hq => ?_) fun q hq p hp' e => ?_
  · rcases List.mem_append.mp hq with hq | hq
    · have y := ho q hq
      obtain ⟨oL, _, _, hL, _⟩ := F.ns
      have hne : q.1 ≠ L := fun e => by
        have y2 := y.2
        rw [e, hL] at y2
        cases y2
      exact ⟨y.1, hne, F.noneBack y.2⟩
    · have y := N q hq; exact ⟨hst _ _ y.1, y.2⟩
  · have y := (ho q hq).2
    rw [← e, (N p hp').1] at y
    cases y
section
variable {w : World} {p : Program} {loose : List Str} {mean : ExcName → Option Value} {mg mb : Str → Option Value} {A A₀ : Around} {outer : List Env} {base g : Heap} {s : Shared} {L : Addr} {m : Str → Option Value} {env : Env} {news : List (Addr × Obj)} {Q E : Value → Shared → Prop}
theorem own_one {h' : Heap} {l : Addr} {o : Obj} {own : List (Addr × Obj)} (N' : News g L h' (own ++ news)) (D : NDup news) (hm : (l, o) ∈ own) (a : ∀ q ∈ own, ∀ p ∈ news, p.1 ≠ q.1) : News g L h' ((l, o) :: news) ∧ NDup ((l, o) :: news) :=
  ⟨fun q hq => N' q ((List.mem_cons.mp hq).elim (fun e => e ▸ List.mem_append.mpr (.inl hm)) fun e => List.mem_append.mpr (.inr e)), D.cons fun p hp => a _ hm p hp⟩
theorem parts_D {k sh va : Int} {t1 t2 t3 : Tok} (b0 : 0 ≤ k ∧ k < 1024) (b1 : 1 ≤ sh ∧ sh ≤ 4) (b2 : 1 ≤ va ∧ va ≤ 4) (B : Below A₀ base outer g) (X : (nk.heap_1 w.params).In g) (T : Top p loose mean mg mb g) (F : Fr g L s.heap m) (N : News g L s.heap news) (D : NDup news) (hh : A.handled = none) (hA : A.frames = some (env :: outer)) (hk : env.scope.kind ≠ .module) (hf : env.frame = some L)
    (hdp : A.depth + 1 < recursionLimit) (hun : A.units + 8 < cLine) (htk : 0 < s.toks)
    (h : ∀ l t0 t1 t2 n h' tk', (0 ≤ part k sh va 0 ∧ part k sh va 0 ≤ 16384) → (0 ≤ part k sh va 2048 ∧ part k sh va 2048 ≤ 16384) → (0 ≤ part k sh va 4096 ∧ part k sh va 4096 ≤ 16384) → 0 < tk' → Fr g L h' m → News g L h' ((l, PySem.W.listOf #[.int (part k sh va 0) t0, .int (part k sh va 2048) t1, .int (part k sh va 4096) t2] n) :: news) → NDup ((l, PySem.W.listOf #[.int (part k sh va 0) t0, .int (part k sh va 2048) t1, .int (part k sh va 4096) t2] n) :: news) → Q (.ref l) { s with heap := h', toks := tk' }) :
    wpAny (MM w) A (call (.ref 242) [.int k t1, .int sh t2, .int va t3]) Q E s :=
  p_callD (parts_c w k sh va t1 t2 t3 b0 b1 b2) B X T F N hh hA hk hf hdp hun htk trivial fun v h' tk' own hp ht F' N' a => by
    obtain ⟨l, t0, t1, t2, n, rfl, hm⟩ := hp
    exact h l t0 t1 t2 n h' tk' ⟨(part_range 0 b1 b2).1, (part_range 0 b1 b2).2.2⟩ ⟨(part_range 2048 b1 b2).1, (part_range 2048 b1 b2).2.2⟩ ⟨(part_range 4096 b1 b2).1, (part_range 4096 b1 b2).2.2⟩ ht F' (own_one N' D hm a).1 (own_one N' D hm a).2
theorem h2r_D {a b c : UInt64} {k sh va : Int} {t1 t2 t3 : Tok} (ha : Ex a k 10) (hb : Ex b sh 2) (hc : Ex c va 2) (b0 : 0 ≤ k ∧ k < 1024) (b1 : 1 ≤ sh ∧ sh ≤ 4) (b2 : 1 ≤ va ∧ va ≤ 4) (ht3 : t3 ≠ 0) (B : Below A₀ base outer g) (X : (nk.heap_1 w.params).In g) (T : Top p loose mean mg mb g) (F : Fr g L s.heap m) (N : News g L s.heap news) (D : NDup news) (hh : A.handled = none) (hA : A.frames = some (env :: outer)) (hk : env.scope.kind ≠ .module) (hf : env.frame = some L)
    (hdp : A.depth + 1 < recursionLimit) (hun : A.units + 8 < cLine) (htk : 0 < s.toks)
    (h : ∀ l c0 c1 c2 t0 t1 t2 h' tk', Ex c0 (part k sh va 0) 14 → Ex c1 (part k sh va 2048) 14 → Ex c2 (part k sh va 4096) 14 → (t0 ≠ 0 ∧ t1 ≠ 0 ∧ t2 ≠ 0) → 0 < tk' → Fr g L h' m → News g L h' ((l, tup3 (.float c0 t0) (.float c1 t1) (.float c2 t2)) :: news) → NDup ((l, tup3 (.float c0 t0) (.float c1 t1) (.float c2 t2)) :: news) → Q (.ref l) { s with heap := h', toks := tk' }) :
    wpAny (MM w) A (call (.ref 59) [.float a t1, .float b t2, .float c t3]) Q E s :=
  p_callD (h2r_c w a b c t1 t2 t3 k sh va b0 b1 b2 ha hb hc ht3) B X T F N hh hA hk hf hdp hun htk trivial fun v h' tk' own hp ht F' N' a => by
    obtain ⟨l, c0, c1, c2, t0, t1, t2, e0, e1, e2, ht', rfl, hm⟩ := hp
    exact h l c0 c1 c2 t0 t1 t2 h' tk' e0 e1 e2 ht' ht F' (own_one N' D hm a).1 (own_one N' D hm a).2
theorem r2h_D {a b c : UInt64} {k sh va : Int} {t1 t2 t3 : Tok} (ha : Ex a (part k sh va 0) 14) (hb : Ex b (part k sh va 2048) 14) (hc : Ex c (part k sh va 4096) 14) (b0 : 0 ≤ k ∧ k < 1024) (b1 : 1 ≤ sh ∧ sh ≤ 4) (b2 : 1 ≤ va ∧ va ≤ 4) (ht3 : t1 ≠ 0 ∧ t2 ≠ 0 ∧ t3 ≠ 0) (B : Below A₀ base outer g) (X : (nk.heap_1 w.params).In g) (T : Top p loose mean mg mb g) (F : Fr g L s.heap m) (N : News g L s.heap news) (D : NDup news) (hh : A.handled = none) (hA : A.frames = some (env :: outer)) (hk : env.scope.kind ≠ .module) (hf : env.frame = some L)
    (hdp : A.depth + 1 < recursionLimit) (hun : A.units + 8 < cLine) (htk : 0 < s.toks)
    (h : ∀ l c0 c1 c2 t0 t1 t2 h' tk', Ex c0 k 10 → Ex c1 sh 2 → Ex c2 va 2 → (t0 ≠ 0 ∧ t1 ≠ 0 ∧ t2 ≠ 0) → 0 < tk' → Fr g L h' m → News g L h' ((l, tup3 (.float c0 t0) (.float c1 t1) (.float c2 t2)) :: news) → NDup ((l, tup3 (.float c0 t0) (.float c1 t1) (.float c2 t2)) :: news) → Q (.ref l) { s with heap := h', toks := tk' }) :
    wpAny (MM w) A (call (.ref 52) [.float a t1, .float b t2, .float c t3]) Q E s :=
  p_callD (r2h_c w a b c t1 t2 t3 k sh va b0 b1 b2 ha hb hc ht3) B X T F N hh hA hk hf hdp hun htk trivial fun v h' tk' own hp ht F' N' a => by
    obtain ⟨l, c0, c1, c2, t0, t1, t2, e0, e1, e2, ht', rfl, hm⟩ := hp
    exact h l c0 c1 c2 t0 t1 t2 h' tk' e0 e1 e2 ht' ht F' (own_one N' D hm a).1 (own_one N' D hm a).2
theorem hls_D {a b c : UInt64} {n : Int} {e : Nat} {t1 t2 t3 : Tok} (ha : Ex a n e) (hb : Ex b n e) (hc : Ex c n e) (hr2 : Rep (n + n).natAbs e) (hr : Rep n.natAbs e) (B : Below A₀ base outer g) (X : (nk.heap_1 w.params).In g) (T : Top p loose mean mg mb g) (F : Fr g L s.heap m) (N : News g L s.heap news) (D : NDup news) (hh : A.handled = none) (hA : A.frames = some (env :: outer)) (hk : env.scope.kind ≠ .module) (hf : env.frame = some L)
    (hdp : A.depth + 1 < recursionLimit) (hun : A.units + 8 < cLine) (htk : 0 < s.toks)
    (h : ∀ l c0 t0 t1 t2 h' tk', Ex c0 n e → 0 < tk' → Fr g L h' m → News g L h' ((l, tup3 (.float 0 t0) (.float c0 t1) (.float 0 t2)) :: news) → NDup ((l, tup3 (.float 0 t0) (.float c0 t1) (.float 0 t2)) :: news) → Q (.ref l) { s with heap := h', toks := tk' }) :
    wpAny (MM w) A (call (.ref 45) [.float a t1, .float b t2, .float c t3]) Q E s :=
  p_callD (hls_c w a b c t1 t2 t3 n e ha hb hc hr2 hr) B X T F N hh hA hk hf hdp hun htk trivial fun v h' tk' own hp ht F' N' a => by
    obtain ⟨l, c0, t0, t1, t2, e0, rfl, hm⟩ := hp
    exact h l c0 t0 t1 t2 h' tk' e0 ht F' (own_one N' D hm a).1 (own_one N' D hm a).2
end
end

section
theorem calm_K2 : True := by
  w_top off
  exact trivial
open PySem.W
section
variable {prog : Program} {w : World} {A : Around} {E : Value → Shared → Prop} {s : Shared} {g : Heap} {L : Addr} {m : Str → Option Value} {news : List (Addr × Obj)} {Q : Value → Shared → Prop}
theorem idx3 {value slice : Expr} {T : Addr} {a0 a1 a2 k : Int} {t0 t1 t2 u : Tok} {n : Nat} (N : News g L s.heap news) (hm : (T, ({ cls := .type "tuple", data := .seq #[.int a0 t0, .int a1 t1, .int a2 t2] n } : Obj)) ∈ news) (h0 : 0 ≤ k) (h1 : k < 3)
    (h : ∀ r t, Q (.int r t) s) (hs : subscripted slice false (.ref T) (.int k u) = operate [.ref T, .int k u] (getItem (.ref T) (.int k u)) := by with_unfolding_all rfl) :
    wpAny (model prog w) A (subscriptTail value slice (.ref T) (.int k u)) Q E s := by
  have ht : IsTup s.heap T [Value.int a0 t0, .int a1 t1, .int a2 t2].toArray := ⟨_, (N _ hm).1, rfl, _, rfl⟩
  rcases (show k = 0 ∨ k = 1 ∨ k = 2 by lia) with rfl | rfl | rfl
  · exact item_tupleT ht (by decide) (by decide) rfl rfl (h _ _) hs
  · exact item_tupleT ht (by decide) (by decide) rfl rfl (h _ _) hs
  · exact item_tupleT ht (by decide) (by decide) rfl rfl (h _ _) hs
theorem idx_push {value slice : Expr} {D : Addr} {bs : Array Value} {v : Value} {k : Int} {u : Tok} {n : Nat} (N : News g L s.heap news) (hm : (D, listOf (bs.push v) n) ∈ news) (hk : k = (bs.size : Int)) (hb : bs.size ≤ 64)
    (h : Q v s) (hs : subscripted slice false (.ref D) (.int k u) = operate [.ref D, .int k u] (getItem (.ref D) (.int k u)) := by with_unfolding_all rfl) :
    wpAny (model prog w) A (subscriptTail value slice (.ref D) (.int k u)) Q E s := by
  have hL : s.heap.IsList D (bs.push v) := ⟨_, (N _ hm).1, rfl, _, rfl⟩
  subst hk
  exact tail_any hL.typeIs slot_list_getitem.lookup (wpAny_getItem_list hL (by lia) (by lia) (by simp) h) hs
theorem idxL {value slice : Expr} {D : Addr} {its : Array Value} {v : Value} {k : Int} {u : Tok} {n : Nat} (N : News g L s.heap news) (hm : (D, listOf its n) ∈ news) (h0 : 0 ≤ k) (h1 : k < 2 ^ 63) (hv : its.toList[k.toNat]? = some v)
    (h : Q v s) (hs : subscripted slice false (.ref D) (.int k u) = operate [.ref D, .int k u] (getItem (.ref D) (.int k u)) := by with_unfolding_all rfl) :
    wpAny (model prog w) A (subscriptTail value slice (.ref D) (.int k u)) Q E s := by
  have hL : s.heap.IsList D its := ⟨_, (N _ hm).1, rfl, _, rfl⟩
  exact tail_any hL.typeIs slot_list_getitem.lookup (wpAny_getItem_list hL h0 h1 (by simpa using hv) h) hs
theorem idxT {value slice : Expr} {D : Addr} {its : Array Value} {v : Value} {k : Int} {u : Tok} {n : Nat} (N : News g L s.heap news) (hm : (D, ({ cls := .type "tuple", data := .seq its n } : Obj)) ∈ news) (h0 : 0 ≤ k) (h1 : k < 2 ^ 63) (hv : its.toList[k.toNat]? = some v)
    (h : Q v s) (hs : subscripted slice false (.ref D) (.int k u) = operate [.ref D, .int k u] (getItem (.ref D) (.int k u)) := by with_unfolding_all rfl) :
    wpAny (model prog w) A (subscriptTail value slice (.ref D) (.int k u)) Q E s := by
  have ht : IsTup s.heap D its.toList.toArray := ⟨_, (N _ hm).1, rfl, _, rfl⟩
  have hlt : k.toNat < its.size := by
    by_cases q : k.toNat < its.size
    · exact q
    · rw [List.getElem?_eq_none (by simpa using q)] at hv; cases hv
  refine item_tupleT ht (by lia) h1 (j := k.toNat) ?_ (by simpa using hv) h hs
  have e1 : (if k < 0 then k + (its.toList.length : Int) else k) = k := if_neg (by lia)
  have hl : its.toList.length = its.size := by simp
  show (if (decide (0 ≤ if k < 0 then k + (its.toList.length : Int) else k) && decide ((if k < 0 then k + (its.toList.length : Int) else k) < (its.toList.length : Int))) = true then some (if k < 0 then k + (its.toList.length : Int) else k).toNat else none) = some k.toNat
  rw [e1, decide_eq_true h0, decide_eq_true (by lia)]
  rfl
theorem int_f {x : UInt64} {t : Tok} {k : Int} (hA : A.handled = none) (hx : Ex x (k * 1024) 10) (h0 : 0 ≤ k) (h : Q (.int k s.toks) { s with toks := s.toks + 1 }) : wpAny (model prog w) A (call (.type "int") [.float x t]) Q E s := by
  refine Flt.call_int_float3 hA (fun e => ?_) (fun e => ?_) fun _ => ?_
  · rw [not_nan hx] at e; cases e
  · rw [not_inf hx] at e; cases e
  · rw [trunc_ex hx (by lia)]
    rw [show k * 1024 / 2 ^ 10 = k by lia]
    exact h
theorem mul_1024 {x : UInt64} {k : Int} {t u : Tok} (hx : Ex x k 10) (h0 : 0 ≤ k ∧ k < 1024) (h : ∀ y, Ex y (k * 1024) 10 → Q (.float y s.toks) { s with toks := s.toks + 1 }) :
    wpAny (model prog w) A (binaryOp .Mult (.float x t) (.int 1024 u)) Q E s := mul_by hx h0.1 (by decide) (by decide) (by omega) (by decide) h
theorem mod_g {a b : Int} {t u : Tok} (hb : 0 < b) (h : ∀ r, r = a % b → 0 ≤ r → r < b → Q (.int r s.toks) { s with toks := s.toks + 1 }) : wpAny (model prog w) A (binaryOp .Mod (.int a t) (.int b u)) Q E s :=
  mod_x hb (h _ rfl (Int.emod_nonneg _ (by omega)) (Int.emod_lt_of_pos _ hb))
theorem ne_tup {a b : Addr} {x0 x1 x2 y0 y1 y2 : UInt64} {n0 n1 n2 : Int} {e0 e1 e2 : Nat} {t0 t1 t2 u0 u1 u2 : Tok} (F : Fr g L s.heap m) (X : (nk.heap_1 w.params).In g) (N : News g L s.heap news)
    (ha : (a, tup3 (.float x0 t0) (.float x1 t1) (.float x2 t2)) ∈ news) (hb : (b, tup3 (.float y0 u0) (.float y1 u1) (.float y2 u2)) ∈ news)
    (a0 : Ex x0 n0 e0) (a1 : Ex x1 n1 e1) (a2 : Ex x2 n2 e2) (b0 : Ex y0 n0 e0) (b1 : Ex y1 n1 e1) (b2 : Ex y2 n2 e2) (ht : t0 ≠ 0 ∧ t1 ≠ 0 ∧ t2 ≠ 0) (hu' : u0 ≠ 0 ∧ u1 ≠ 0 ∧ u2 ≠ 0) (hu : A.units < cLine)
    (h : Q (.bool false) s) : wpAny (model prog w) A (compareOp .NotEq (.ref a) (.ref b)) Q E s :=
  tup_ne ⟨_, (N _ ha).1, rfl, _, rfl⟩ ⟨_, (N _ hb).1, rfl, _, rfl⟩ a0 a1 a2 b0 b1 b2 ht hu' (none_booked_K (X.keeps F.keep)) hu h
end
end

section
theorem calm_K3 : True := by
  w_top off
  exact trivial
open PySem.W
theorem lawCl_nd (L : Addr) : ((lawCl L).map (·.1)).Nodup := by
  show ((["n", "z", "y", "three", "two", "one", "i", "j", "told", "k", "x"] : List Str)).Nodup
  decide +kernel
noncomputable def pass0 : Stmt := .Pass ⟨0,0,0,0⟩
noncomputable def stA : { x : Stmt // lawSt 1 = x } := ⟨_, by conv => lhs; whnf⟩
noncomputable def bA : { x : List Stmt // bodyOf stA.1 = x } := ⟨_, by conv => lhs; whnf⟩
noncomputable def stAi : { x : Stmt // bA.1.getD 5 pass0 = x } := ⟨_, by conv => lhs; whnf⟩
noncomputable def bAi : { x : List Stmt // bodyOf stAi.1 = x } := ⟨_, by conv => lhs; whnf⟩
noncomputable abbrev tup4 (a b c d : Value) : Obj := { cls := .type "tuple", data := .seq #[a, b, c, d] }
/-- a paint: hue k, its parts, its colour, its header text -/
noncomputable def Paint (frz : List (Addr × Obj)) (v : Value) (k sh va : Int) : Prop :=
  ∃ T P C n t0 t1 t2 t3 t4 t5 t6 t7 c0 c1 c2, v = .ref T ∧ (T, tup4 (.int k t0) (.ref P) (.ref C) (.str (Str.ofString (toString k)) t1)) ∈ frz ∧
    (P, listOf #[.int (part k sh va 0) t2, .int (part k sh va 2048) t3, .int (part k sh va 4096) t4] n) ∈ frz ∧ (C, tup3 (.float c0 t5) (.float c1 t6) (.float c2 t7)) ∈ frz ∧
    Ex c0 (part k sh va 0) 14 ∧ Ex c1 (part k sh va 2048) 14 ∧ Ex c2 (part k sh va 4096) 14 ∧ (t5 ≠ 0 ∧ t6 ≠ 0 ∧ t7 ≠ 0) ∧ (0 ≤ k ∧ k < 1024) ∧ (1 ≤ sh ∧ sh ≤ 4) ∧ (1 ≤ va ∧ va ≤ 4)
theorem Paint.mono {f f' : List (Addr × Obj)} {v : Value} {k sh va : Int} (h : Paint f v k sh va) (hs : ∀ p ∈ f, p ∈ f') : Paint f' v k sh va := by
  obtain ⟨T, P, C, n, t0, t1, t2, t3, t4, t5, t6, t7, c0, c1, c2, e, a, b, c, r⟩ := h
  exact ⟨T, P, C, n, t0, t1, t2, t3, t4, t5, t6, t7, c0, c1, c2, e, hs _ a, hs _ b, hs _ c, r⟩
end

section
theorem calm_LC : True := by
  w_top off
  exact trivial
open PySem.W
namespace LC
/-- the statement of the law's body at one context -/
noncomputable def S (w : World) (p : Program) (loose : List Str) (mean : ExcName → Option Value) (mg mb : Str → Option Value) (dp un : Nat) (gd : Option (List Code)) (outer : List Env) (A₀ : Around) (base g : Heap) (L fa : Addr) (cd : Value) : Prop :=
  ∀ (_ : Below A₀ base outer g) (_ : (nk.heap_1 w.params).In g) (_ : Top p loose mean mg mb g) (_ : dp + 8 < recursionLimit) (_ : un + 128 < cLine)
    {m cm : Str → Option Value} {scr : Addr} {vs : List Value} {ns : List Int} {cells : List (Addr × Obj)} {s : Shared} {R : Flow → Shared → Prop}
    (_ : g.IsList scr vs.toArray) (_ : IntsAre vs ns) (_ : vs.length ≤ 63)
    (_ : Fr g L s.heap m) (_ : AtL m [("script", .ref scr)]) (_ : News g L s.heap cells) (_ : CellsAre cm (lawCl L) cells) (_ : 0 < s.toks)
    (_ : ∀ h' tk, (∀ b o, g.get? b = some o → h'.get? b = some o) → R (.ret (.bool true)) { s with heap := h', toks := tk }),
    wpAny (MM w) ((TopA dp un gd outer).deeper (lawEnv L fa cd)) (execs lawB0 (lawEnv L fa cd)) R (fun _ _ => False) s
noncomputable abbrev C : Type := World × Program × List Str × (ExcName → Option Value) × (Str → Option Value) × (Str → Option Value) × Nat × Nat × Option (List Code) × List Env × Around × Heap × Heap × Addr × Addr × Value
theorem ne : Nonempty C := ⟨(ne_of _ ne_world, ne_of _ inferInstance, [], fun _ => none, fun _ => none, fun _ => none, 0, 0, none, [], {}, ne_of _ inferInstance, ne_of _ inferInstance, 0, 0, .none)⟩
/-- a context where the statement fails, if there is one -/
noncomputable def c : C := @Classical.epsilon C ne fun c => ¬ S c.1 c.2.1 c.2.2.1 c.2.2.2.1 c.2.2.2.2.1 c.2.2.2.2.2.1 c.2.2.2.2.2.2.1 c.2.2.2.2.2.2.2.1 c.2.2.2.2.2.2.2.2.1 c.2.2.2.2.2.2.2.2.2.1 c.2.2.2.2.2.2.2.2.2.2.1 c.2.2.2.2.2.2.2.2.2.2.2.1 c.2.2.2.2.2.2.2.2.2.2.2.2.1 c.2.2.2.2.2.2.2.2.2.2.2.2.2.1 c.2.2.2.2.2.2.2.2.2.2.2.2.2.2.1 c.2.2.2.2.2.2.2.2.2.2.2.2.2.2.2
noncomputable def w : World := c.1
noncomputable def p : Program := c.2.1
noncomputable def loose : List Str := c.2.2.1
noncomputable def mean : ExcName → Option Value := c.2.2.2.1
noncomputable def mg : Str → Option Value := c.2.2.2.2.1
noncomputable def mb : Str → Option Value := c.2.2.2.2.2.1
noncomputable def dp : Nat := c.2.2.2.2.2.2.1
noncomputable def un : Nat := c.2.2.2.2.2.2.2.1
noncomputable def gd : Option (List Code) := c.2.2.2.2.2.2.2.2.1
noncomputable def outer : List Env := c.2.2.2.2.2.2.2.2.2.1
noncomputable def A₀ : Around := c.2.2.2.2.2.2.2.2.2.2.1
noncomputable def base : Heap := c.2.2.2.2.2.2.2.2.2.2.2.1
noncomputable def g : Heap := c.2.2.2.2.2.2.2.2.2.2.2.2.1
noncomputable def L : Addr := c.2.2.2.2.2.2.2.2.2.2.2.2.2.1
noncomputable def fa : Addr := c.2.2.2.2.2.2.2.2.2.2.2.2.2.2.1
noncomputable def cd : Value := c.2.2.2.2.2.2.2.2.2.2.2.2.2.2.2
/-- what holds at that context holds at each -/
theorem all (h : S w p loose mean mg mb dp un gd outer A₀ base g L fa cd) (w' : World) (p' : Program) (loose' : List Str) (mean' : ExcName → Option Value) (mg' mb' : Str → Option Value) (dp' un' : Nat) (gd' : Option (List Code)) (outer' : List Env) (A₀' : Around) (base' g' : Heap) (L' fa' : Addr) (cd' : Value) :
    S w' p' loose' mean' mg' mb' dp' un' gd' outer' A₀' base' g' L' fa' cd' :=
  Classical.byContradiction fun k => (@Classical.epsilon_spec C (fun c => ¬ S c.1 c.2.1 c.2.2.1 c.2.2.2.1 c.2.2.2.2.1 c.2.2.2.2.2.1 c.2.2.2.2.2.2.1 c.2.2.2.2.2.2.2.1 c.2.2.2.2.2.2.2.2.1 c.2.2.2.2.2.2.2.2.2.1 c.2.2.2.2.2.2.2.2.2.2.1 c.2.2.2.2.2.2.2.2.2.2.2.1 c.2.2.2.2.2.2.2.2.2.2.2.2.1 c.2.2.2.2.2.2.2.2.2.2.2.2.2.1 c.2.2.2.2.2.2.2.2.2.2.2.2.2.2.1 c.2.2.2.2.2.2.2.2.2.2.2.2.2.2.2) ⟨(w', p', loose', mean', mg', mb', dp', un', gd', outer', A₀', base', g', L', fa', cd'), k⟩) h
end LC
end

section

theorem words_6 : True := by
  k_with "m m_enter" => case' fresh => (refine wpAny_call ?_; k_dflt (refine' m_enter ?k1 ?k3 ?k5 ?x1 ?x2 ?x3 ?x4 ?k6 ?k7 ?k8 ?k9 ?kB ?_ ?c2 ?c3 ?c4 ?c5; (case k1 | k3 | k5 | x1 | x2 | x3 | x4 => assumption); (case k6 | k7 => k_is); (case k8 => lia); (case k9 => first | exact BindsTo.of_eq rfl | exact binds_K (by k_in) rfl (by k_is) rfl rfl rfl); (case kB => exact locs rfl); (case c5 => decide); (case c2 | c3 | c4 => exact rfl); k_whole; intro _ _ _ _; (try dsimp only); (try k_fold)))
  k_with "m m_idx" => case' fresh => (first | lia | (simp only [List.length_set] at *; lia))
  k_with "m subscriptTail" => case' fresh => (k_here; k_dflt (refine' m_item ?k1 ?k2 ?k3 ?k4 ?k5 ?_ ?k6; (case k1 => k_asm); (case k2 => k_mem); (case k3 | k4 | k5 => walk_at "m_idx"); (case k6 => with_unfolding_all rfl); k_whole))
  k_with "m setItem ref int" => case' fresh => (k_here; k_dflt (refine' m_set ?k1 ?k2 ?k3 ?k4 ?k5 ?k6 ?_; (case k1 | k2 => k_asm); (case k3 => k_upd); (case k4 | k5 | k6 => walk_at "m_idx"); k_whole; intro _ _ _; (try k_sweep)))
  k_with "m exec While" => case' fresh => (k_here; k_dflt (refine' hold ?_))
  k_with "m subscriptTail" => case' fresh => (k_here; k_dflt (refine' m_itemN ?k1 ?k2 ?k3 ?k4 ?_ ?k6; (case k1 => k_asm); (case k2 => k_mem); (case k3 | k4 => walk_at "m_idx"); (case k6 => with_unfolding_all rfl); k_whole))
  k_with "m setItem ref int" => case' fresh => (k_here; k_dflt (refine' m_setN ?k1 ?k2 ?k3 ?k4 ?k5 ?_; (case k1 | k2 => k_asm); (case k3 => k_upd); (case k4 | k5 => walk_at "m_idx"); k_whole; intro _ _ _; (try k_sweep)))
  k_with "m binaryOp RShift int int" => case' fresh => (k_here; k_dflt (refine' shr_par ?k1 ?_; (case k1 => lia); k_whole))
  k_with "m m_it" => case' fresh => (first | assumption | (refine' HItem_at ?z1 ?z2; (case z1 => assumption); (case z2 => walk_at "m_idx")))
  k_with "m compareOp Lt ref ref" => case' fresh => (k_here; k_dflt (refine' m_lt ?k1 ?k2 ?k3 ?k4 ?_; (case k1 => k_asm); (case k2 | k3 => walk_at "m_it"); (case k4 => walk_at "m_un"); k_whole))
  k_with "m m_un" => case' fresh => ((simp only [units_in1, units_deeper, Around.mark_units]); (try dsimp only); lia)
  k_with "m KswEnd" => case' fresh => (refine hold ?_)
  k_with "m m_end" => case' fresh => (unfold Hold; (rename Fr _ _ _ _ => F9k); (rename News _ _ _ _ => N9k); refine ksw_end ⟨_, _, _⟩ F9k N9k (fun pk hpk => hpk) trivial ?_ ?_ ?_ ?_; (focus (intro pk hpk; obtain rfl := List.mem_singleton.mp hpk; rfl)); (focus ksw_same))
  k_with "m m_leaf" => case' fresh => (rename Fr _ _ _ _ => F9k; rename News _ _ _ _ => N9k; rename ∀ (_ : Value) (_ : Heap) (_ : Nat) (_ : List It) (_ : Nat), _ => hret9k; refine hret9k _ _ _ _ _ ?_ F9k.keep (Nat.le_trans F9k.above (Nat.le_of_lt F9k.ns.lt)) (N9k _ (.head _)).1)
  k_with "m call builtin:len" => case' fresh => (k_here; k_dflt (refine' m_len ?k1 ?k2 ?k3 ?_; (case k1 => k_asm); (case k2 => k_mem); (case k3 => walk_at "m_idx"); k_whole))
  k_with "m call ref" => case' fresh => (k_here; k_dflt (refine' hold ?_))
  k_with "m call builtin:list.pop" => case' fresh => (k_here; k_dflt (refine' m_pop ?k1 ?k2 ?k3 ?k4 ?_; (case k1 | k2 => k_asm); (case k3 => k_upd); (case k4 => with_reducible assumption); k_whole; intro _ _ _; (try k_sweep)))
  k_with "m call type:reversed" => case' fresh => (k_here; k_dflt (refine' m_reversed ?k1 ?k2 ?k3 ?k4 ?_; (case k1 | k2 => k_asm); (case k3 => assumption); (case k4 => (simp only [*]; decide)); k_whole; intro _ _ _ _ _ _ _ _; (try k_sweep)))
  k_with "m pyIter ref" => case' fresh => (k_here; k_dflt (refine' hold ?_))
  k_with "m truthy ref" => case' fresh => (k_here; k_dflt (refine' m_truthy ?k1 ?k2 ?k3 ?_; (case k1 => k_asm); (case k2 => k_mem); (case k3 => walk_at "m_idx"); k_whole))
  exact trivial
section
theorem calm_M4b : True := by
  w_top off
  exact trivial
theorem siftdown_c (w : World) (ha : Addr) (l : List It) (p q : Nat) (t u : Tok) (hl : l.length ≤ 64) (hq : q < l.length) (hh : HH l p q) (hk : Kids l q (ky l q)) (hd : Desc p q) :
   MCtr w 80 ha [.int p t, .int q u] l (fun v l' => v = .none ∧ l'.Perm l ∧ HP l' p) 1 8 := by
  intro pr loose mean mg mb dp un gd outer A₀ base g s n Q E B X T hst hno hsz hget hdp hun hit hret
  walk_at "m_enter"
  k_steps
  unfold Hold
  rename Fr _ _ _ _ => F1
  rename News _ _ _ _ => N1
  have hb : at' l q ∈ l := at_mem hq
  refine ksw_while (σ := List It × Nat × Tok) (fun c => [(ha, PySem.W.listOf (vls c.1).toArray n)]) (fun c => [(Str.ofString "pos", .int (c.2.1 : Int) c.2.2)]) (fun _ => True) [Str.ofString "parentpos", Str.ofString "parent"]
     (fun c => c.1.length = l.length ∧ c.2.1 < l.length ∧ p ≤ c.2.1 ∧ HH c.1 p c.2.1 ∧ Kids c.1 c.2.1 (at' l q).2 ∧ Desc p c.2.1 ∧ (c.1.set c.2.1 (at' l q)).Perm l ∧ (∀ x ∈ c.1, HItem g x)) (fun c => c.2.1) (l, q, u) F1 N1 trivial ?_ ⟨rfl, hq, hd.le, hh, hk, hd, (perm_start hq).symm ▸ .refl _, hit⟩ ?_
  · intro p hp; obtain rfl := List.mem_singleton.mp hp; rfl
  clear F1 N1
  rintro ⟨c, r, t'⟩ U h tk - ⟨c1, c2, c3, c4, c5, c6, c7, c8⟩ F2 N2
  dsimp only [kstB] at c1 c2 c3 c4 c5 c6 c7 c8 F2 N2
  k_steps
  · rename (at' l q).2 < _ => hlt
    obtain ⟨z1, z2, z3, z4, z5⟩ := down_step c4 c5 c6 (by lia) (by lia) hlt
    unfold Hold; (rename Fr _ _ _ _ => F9); (rename News _ _ _ _ => N9)
    refine' ksw_end (c.set r (at' c ((r - 1) / 2)), (r - 1) / 2, _) F9 N9 (fun _ hp => hp) trivial ?zk ?zr ?zp ?zm
    case zk => intro p hp; obtain rfl := List.mem_singleton.mp hp; exact rfl
    case zr => ksw_same
    case zm => exact z4
    case zp => exact ⟨by rw [List.length_set]; exact c1, Nat.lt_trans z4 c2, z5, z1, z2, z3, perm_swap' (by lia) (by lia) (Nat.ne_of_lt z4) c7, fun x hx => ((List.mem_or_eq_of_mem_set hx).elim (c8 x) fun e => e ▸ c8 _ (at_mem (by lia)))⟩
  · rename ¬ (at' l q).2 < _ => hlt
    walk_at "m_leaf"
    exact ⟨rfl, c7, down_end c4 c5 (by lia) fun _ => Int.not_lt.mp hlt⟩
  · walk_at "m_leaf"
    exact ⟨rfl, c7, down_end c4 c5 (by lia) fun h => by lia⟩
end

section
theorem calm_M4c : True := by
  w_top off
  exact trivial
theorem siftup_c (w : World) (ha : Addr) (l : List It) (p : Nat) (u : Tok) (hl : l.length ≤ 64) (hq : p < l.length) (hh : HP l (p + 1)) :
   MCtr w 87 ha [.int p u] l (fun v l' => v = .none ∧ l'.Perm l ∧ HP l' p) 2 16 := by
  intro pr loose mean mg mb dp un gd outer A₀ base g s n Q E B X T hst hno hsz hget hdp hun hit hret
  walk_at "m_enter"
  k_steps
  unfold Hold
  rename Fr _ _ _ _ => F1
  rename News _ _ _ _ => N1
  refine ksw_while2 (σ := List It × Nat × Tok × Tok) (fun c => [(ha, PySem.W.listOf (vls c.1).toArray n)]) (fun c => [(Str.ofString "pos", .int (c.2.1 : Int) c.2.2.1), (Str.ofString "childpos", .int (2 * (c.2.1 : Int) + 1) c.2.2.2)]) [Str.ofString "rightpos"]
     (fun c => c.1.length = l.length ∧ c.2.1 < l.length ∧ HH c.1 p c.2.1 ∧ Desc p c.2.1 ∧ (c.1.set c.2.1 (at' l p)).Perm l ∧ (∀ x ∈ c.1, HItem g x)) (fun c => l.length - c.2.1) (fun t u => (l, p, t, u)) F1 (fun _ _ => N1) ⟨_, _, two_of rfl rfl⟩ (fun _ _ => ⟨rfl, hq, .ofHP hh, .here, perm_start' hq, hit⟩) ?_
  clear F1 N1
  rintro ⟨c, r, t1, t2⟩ U h tk ⟨c1, c2, c4, c6, c7, c8⟩ F2 N2
  dsimp only [kstB] at c1 c2 c4 c6 c7 c8 F2 N2
  have hb : at' l p ∈ l := at_mem hq
  k_steps
  · unfold Hold
    rename Fr _ _ _ _ => F9
    rename News _ _ _ _ => N9
    have key := up_inv (k := 2 * r + 1) c1 c2 c4 c6 c7 c8 (by lia) (by lia) (by
      intro i hi hil
      rename (at' c _).2 < _ => hlt
      rcases hi with rfl | rfl
      · exact Int.le_refl _
      · exact Int.le_of_lt hlt)
    exact ksw_end2 (fun t u => (c.set r (at' c (2 * r + 1)), 2 * r + 1, t, u)) F9 N9 (fun _ _ _ hp => hp) ⟨_, _, two_of (int_at rfl (by dsimp only; lia)) (int_at rfl (by dsimp only; lia))⟩ (fun _ _ => by ksw_same) (fun _ _ => key) (fun _ _ => by show l.length - (2 * r + 1) < l.length - r; lia)
  · unfold Hold
    rename Fr _ _ _ _ => F9
    rename News _ _ _ _ => N9
    have key := up_inv (k := 2 * r + 1 + 1) c1 c2 c4 c6 c7 c8 (by lia) (by lia) (by
      intro i hi hil
      rename ¬ (at' c _).2 < _ => hlt
      rcases hi with rfl | rfl
      · exact Int.not_lt.mp hlt
      · exact Int.le_refl _)
    exact ksw_end2 (fun t u => (c.set r (at' c (2 * r + 1 + 1)), 2 * r + 1 + 1, t, u)) F9 N9 (fun _ _ _ hp => hp) ⟨_, _, two_of (int_at rfl (by dsimp only; lia)) (int_at rfl (by dsimp only; lia))⟩ (fun _ _ => by ksw_same) (fun _ _ => key) (fun _ _ => by show l.length - (2 * r + 1 + 1) < l.length - r; lia)
  · unfold Hold
    rename Fr _ _ _ _ => F9
    rename News _ _ _ _ => N9
    have key := up_inv (k := 2 * r + 1) c1 c2 c4 c6 c7 c8 (by lia) (by lia) (by
      intro i hi hil
      rcases hi with rfl | rfl
      · exact Int.le_refl _
      · lia)
    exact ksw_end2 (fun t u => (c.set r (at' c (2 * r + 1)), 2 * r + 1, t, u)) F9 N9 (fun _ _ _ hp => hp) ⟨_, _, two_of (int_at rfl (by dsimp only; lia)) (int_at rfl (by dsimp only; lia))⟩ (fun _ _ => by ksw_same) (fun _ _ => key) (fun _ _ => by show l.length - (2 * r + 1) < l.length - r; lia)
  · unfold Hold
    rename Fr _ _ _ _ => F9
    rename News _ _ _ _ => N9
    have hls : (c.set r (at' l p)).length = l.length := by rw [List.length_set]; exact c1
    refine m_call (pre := []) (suf := []) (siftdown_c w ha (c.set r (at' l p)) p r u t1 (by lia) (by lia) (c4.set (by lia)) (fun i a b e => by lia) c6) B X T F9 N9 (fun _ h => nomatch h) (fun _ h => nomatch h) (by lia) (by lia)
      (fun x hx => hide_item F9 hno ((List.mem_or_eq_of_mem_set hx).elim (c8 x) fun e => e ▸ hit _ hb)) (fun e => nomatch e) rfl ?_
    rintro v h9 tk9 l9 n9 ⟨rfl, hperm, hP⟩ hle F8 N8 -
    clear F9 N9
    dsimp only [List.nil_append] at N8
    k_steps
    walk_at "m_leaf"
    exact ⟨rfl, hperm.trans c7, hP⟩
end

section
theorem calm_M4d : True := by
  w_top off
  exact trivial
theorem heappop_c (w : World) (ha : Addr) (l : List It) (hl : l.length ≤ 64) (h0 : 0 < l.length) (hh : HP l 0) :
   MCtr w 66 ha [] l (fun v l' => v = .ref (at' l 0).1 ∧ (at' l 0 :: l').Perm l ∧ HP l' 0) 3 24 := by
  obtain rfl | ⟨ld, y, rfl⟩ := List.eq_nil_or_concat l
  · exact absurd h0 (Nat.lt_irrefl _)
  rw [List.concat_eq_append] at *
  have hl' : ld.length ≤ 64 := by rw [List.length_append] at hl; lia
  intro pr loose mean mg mb dp un gd outer A₀ base g s n Q E B X T hst hno hsz hget hdp hun hit hret
  walk_at "m_enter"
  k_steps
  · unfold Hold
    rename Fr _ _ _ _ => F9
    rename News _ _ _ _ => N9
    rename 0 < ld.length => hpos
    rcases ld with _ | ⟨x, r⟩
    · exact absurd hpos (Nat.lt_irrefl _)
    have N7 : News g _ _ [(ha, PySem.W.listOf (vls (y :: r)).toArray (n + 1))] := N9
    clear N9
    have hpm : (x :: (y :: r)).Perm ((x :: r) ++ [y]) := (List.Perm.cons x ((List.perm_append_comm (l₁ := [y]) (l₂ := r))))
    refine m_call (pre := []) (suf := []) (siftup_c w ha (y :: r) 0 _ hl' (Nat.succ_pos _) hh.tail) B X T F9 N7 (fun _ h => nomatch h) (fun _ h => nomatch h) (by lia) (by lia)
      (fun z hz => hide_item F9 hno (hit _ (hpm.subset (.tail _ hz)))) (fun e => nomatch e) rfl ?_
    rintro v h9 tk9 l9 n9 ⟨rfl, hperm, hP⟩ hle F8 N8 -
    clear F9 N7
    dsimp only [List.nil_append] at N8
    k_steps
    walk_at "m_leaf"
    exact ⟨rfl, (List.Perm.cons x hperm).trans hpm, hP⟩
  · rename ¬ 0 < ld.length => hpos
    obtain rfl : ld = [] := List.eq_nil_of_length_eq_zero (by lia)
    walk_at "m_leaf"
    exact ⟨rfl, .refl _, fun i a b c => absurd b (Nat.not_lt_zero _)⟩
theorem heapify_c (w : World) (ha : Addr) (l : List It) (hl : l.length = 27) :
   MCtr w 73 ha [] l (fun v l' => v = .none ∧ l'.Perm l ∧ HP l' 0) 3 24 := by
  intro pr loose mean mg mb dp un gd outer A₀ base g s n Q E B X T hst hno hsz hget hdp hun hit hret
  walk_at "m_enter"
  k_steps
  unfold Hold
  rename Fr _ _ _ _ => F9
  rename News _ _ _ _ => N9
  rename IsRangeIter _ _ _ _ _ => hit9
  rename (∀ (p : Addr × Obj), p ∈ [(ha, PySem.W.listOf (vls l).toArray n)] → Prod.fst p ≠ _) => hne9
  rename (_ : Addr) ≠ _ => hL9
  rename g.get? _ = none => hg9
  refine rev_loop (fun i m nx => ∃ c n', nx = [(ha, PySem.W.listOf (vls c).toArray n')] ∧ c.Perm l ∧ HP c (13 - i) ∧ m (Str.ofString "x") = some (.ref ha)) rfl hit9 hg9 hL9 hne9 F9 N9 ⟨l, n, rfl, .refl _, fun i a b c => by lia, rfl⟩ ?_ ?_
  · clear F9 N9
    rintro i t m₁ nx h tk own hi hoff ⟨c, n', rfl, hp, hH, hx⟩ F1 N1
    have F2 := fr_at F1 hx
    clear F1
    have hcl : c.length = 27 := hp.length_eq.trans hl
    k_steps
    unfold Hold
    rename Fr _ _ _ _ => F9
    rename News _ _ _ _ => N9
    refine m_call (pre := []) (suf := own) (siftup_c w ha c (12 - i) _ (by lia) (by lia) (by rwa [show 12 - i + 1 = 13 - i by lia])) B X T F9 N9 (fun _ h => nomatch h) (fun q hq => hoff q hq _ (.head _)) (by lia) (by lia)
      (fun x hx => hide_item F9 hno (hit _ (hp.subset hx))) (fun e => nomatch e) rfl ?_
    rintro v h9 tk9 l9 n9 ⟨rfl, hperm, hP⟩ hle F8 N8 -
    clear F9 N9
    k_steps
    dsimp only [List.nil_append] at N8
    exact InvEndN.intro F8 N8 ⟨l9, n9, rfl, hperm.trans hp, by rwa [show 13 - (i + 1) = 12 - i by lia], rfl⟩ rfl (fun p hp => by rw [List.mem_singleton.mp hp]; exact .head _) (fun p hp => .tail _ hp)
  · clear F9 N9
    rintro m₁ nx h tk ⟨c, n', rfl, hp, hH, hx⟩ F1 N1
    dsimp only
    k_steps
    walk_at "m_leaf"
    exact ⟨rfl, hp, hH⟩
end

end
section
local macro_rules | `(tactic| k_mem) => `(tactic| (first | with_reducible_and_instances assumption | (with_reducible_and_instances (refine List.mem_append_right _ ?_); with_reducible_and_instances (first | assumption | (refine List.mem_append_right _ ?_; assumption)))))
theorem words_7 : True := by
  k_with_none
  k_with "m p_enter" => case' fresh => (refine wpAny_call ?_; k_dflt (refine' p_enter ?k1 ?k3 ?k5 ?k6 ?k7 ?k8 ?k9 ?kB ?_ ?c2 ?c3 ?c4 ?c5; (case k1 | k3 | k5 => assumption); (case k6 | k7 => k_is); (case k8 => lia); (case k9 => first | exact BindsTo.of_eq rfl | exact binds_K (by k_in) rfl (by k_is) rfl rfl rfl); (case kB => exact locs rfl); (case c5 => decide); (case c2 | c3 | c4 => exact rfl); k_whole; intro _ _ _ _; (try dsimp only); (try k_fold)))
  k_with "m subscriptTail Name Constant ref int" => case' fresh => (k_here; k_dflt (refine' item_base ?F ?l ?a ?b ?d ?_; (case F => k_asm); (case l => with_reducible assumption); (case a | b => decide); (case d => exact rfl); k_whole))
  k_with "m subscriptTail Name Constant ref int" => case' fresh => (k_here; k_dflt (refine' tup_base ?F ?l ?a ?b ?j ?d ?_; (case F => k_asm); (case l => with_reducible assumption); (case a | b => decide); (case j | d => exact rfl); k_whole))
  k_with "m binaryOp Mult int int" => case' fresh => (k_dflt (refine' mul_smallL ?a ?b ?_; (case a | b => lia)))
  k_with "m binaryOp Mult int int" => case' fresh => (k_dflt (refine' mul_smallR ?a ?b ?_; (case a | b => lia)))
  k_with "m call builtin:max" => case' fresh => (k_here; (with_reducible show wpAny _ _ (call (Value.builtin "max") [Value.float _ _, Value.float _ _, Value.float _ _]) _ _ _); k_dflt (refine' max3_ex ?a ?b ?c ?d ?F ?N ?_; (case a | b | c => assumption); (case d => exact rfl); (case F | N => k_asm); intro _ _ _ _ _ _ hle'k F'k N'k; (try dsimp only at hle'k); (revert hle'k F'k N'k; intro _ _ _); (try k_sweep)))
  k_with "m call builtin:min" => case' fresh => (k_here; (with_reducible show wpAny _ _ (call (Value.builtin "min") [Value.float _ _, Value.float _ _, Value.float _ _]) _ _ _); k_dflt (refine' min3_ex ?a ?b ?c ?d ?F ?N ?_; (case a | b | c => assumption); (case d => exact rfl); (case F | N => k_asm); intro _ _ _ _ _ _ hle'k F'k N'k; (try dsimp only at hle'k); (revert hle'k F'k N'k; intro _ _ _); (try k_sweep)))
  k_with "m assign Tuple" => case' fresh => ((rename IntsAre _ _ => i9k); (rename (List.length _ = _) => e9k); (obtain ⟨a9, b9, c9, ta9, tb9, tc9, e8, e7⟩ := three_of i9k e9k); subst e8; subst e7; (walk_at "assign Tuple"))
  k_with "m call builtin:max" => case' fresh => (k_here; (with_reducible show wpAny _ _ (call (Value.builtin "max") (Value.int _ _ :: _)) _ _ _); k_dflt ((first | refine' max3_i ?d ?F ?N ?_ | refine' max2_i ?d ?F ?N ?_); (case d => exact rfl); (case F | N => k_asm); intro _ _ _ _ _; (try k_sweep)))
  k_with "m call builtin:min" => case' fresh => (k_here; (with_reducible show wpAny _ _ (call (Value.builtin "min") (Value.int _ _ :: _)) _ _ _); k_dflt ((first | refine' min3_i ?d ?F ?N ?_ | refine' min2_i ?d ?F ?N ?_); (case d => exact rfl); (case F | N => k_asm); intro _ _ _ _ _; (try k_sweep)))
  k_with "m ite" => case' fresh => (k_dflt (first | (refine' ite_eq_tt ?a ?b ?c ?_; (case a | b => assumption); (case c => lia)) | (refine' ite_eq_ff ?a ?b ?c ?_; (case a | b => assumption); (case c => lia))))
  k_with "m p_leaf" => case' fresh => (rename Fr _ _ _ _ => F9k; rename News _ _ _ _ => N9k; rename ∀ (_ : Value) (_ : Heap) (_ : Nat) (_ : List (Addr × Obj)), _ => hret9k; refine hret9k _ _ _ _ ?_ F9k.keep (fun q hq => ⟨(N9k q hq).1, (N9k q hq).2.2⟩))
  k_with "m execs cons" => case' fresh => (k_here; k_dflt (refine' gen_toks ?p ?_; (case p => first | with_reducible assumption | exact Nat.succ_pos _ | lia | (dsimp only; first | exact Nat.succ_pos _ | lia)); (intro _ _; (try dsimp only); refine wpAny_execs_cons ?_)))
  k_with "m p_toks" => case' fresh => (first | with_reducible assumption | exact Nat.succ_ne_zero _ | exact Nat.pos_iff_ne_zero.mp (by assumption) | exact tok_or3 (by assumption) (by assumption))
  k_with "m d_pos" => case' fresh => (first | with_reducible assumption | exact Nat.succ_pos _ | (dsimp only; first | exact Nat.succ_pos _ | omega) | omega)
  k_with "m l_bd" => case' fresh => (refine And.intro ?_ ?_ <;> (first | lia | l_bnd))
  k_with "m k_app" => case' fresh => (first | exact App.nil | (refine' App.cons ?pa; (case pa => walk_at "k_app")))
  k_with "m k_updN" => case' fresh => (first | exact UpdN.head | (refine' UpdN.tail ?pa; (case pa => walk_at "k_updN")))
  k_with "m k_part" => case' fresh => (first | exact Part.nil | (refine' Part.keep ?pa; (case pa => walk_at "k_part")) | (refine' Part.tmp ?pa; (case pa => walk_at "k_part")))
  k_with "m eval Name" => case' fresh => (k_here; k_dflt (refine' nameC ?N ?P ?Y ?c ?v ?_ ?a ?b ?d; (case Y => with_reducible assumption); (case b | a => exact rfl); (case N => k_asm); (case P => walk_at "k_app"); (case c | v => exact rfl); (case d => decide); k_whole))
  k_with "m eval Name" => case' fresh => (k_here; k_dflt (refine' nameX_L ?F ?v ?_ ?a ?b; (case F => k_asm); (case b | a | v => exact rfl); k_whole))
  k_with "m storeName" => case' fresh => (k_here; (with_reducible rename CellsAre _ _ _ => Y9k); (with_reducible rename NDup _ => D9k); k_dflt (refine' storeC ?F ?N D9k ?P Y9k ?c ?n ?_ ?a ?b; (case b | a => exact rfl); (case F | N => k_asm); (case P => walk_at "k_app"); (case c => exact rfl); (case n => exact lawCl_nd _); k_whole); intro _ _ _ N'k D'k Y'k; clear Y9k D9k; (try dsimp only [List.cons_append, List.nil_append] at N'k D'k); (revert N'k D'k Y'k; intro _ _ _); (try k_sweep))
  k_with "m storeName" => case' fresh => (k_here; k_dflt (refine' storeX_L ?F ?N ?_ ?a ?b; (case b | a => rfl); (case F | N => k_asm); k_whole); intro _ _ _; (try k_sweep))
  k_with "m newTuple" => case' fresh => (k_here; (with_reducible rename NDup _ => D9k); k_dflt (refine' newTup_D ?F ?N D9k ?_ ?z; (case F | N => k_asm); (case z => size_fits); k_whole); intro _ _ _ _ _; clear D9k; (try k_sweep))
  k_with "m newList" => case' fresh => (k_here; (with_reducible rename NDup _ => D9k); k_dflt (refine' newList_D ?F ?N D9k ?_ ?z; (case F | N => k_asm); (case z => size_fits); k_whole); intro _ _ _ _ _; clear D9k; (try k_sweep))
  k_with "m call builtin:list.append" => case' fresh => (k_here; (with_reducible rename NDup _ => D9k); k_dflt (refine' append_D ?F ?N D9k ?U ?_ ?z; (case F | N => k_asm); (case U => walk_at "k_updN"); (case z => first | size_fits | (simp only [Array.size_push] at *; lia)); k_whole); intro _ _ _ _; clear D9k; (try k_sweep))
  k_with "m call ref" => case' fresh => (k_here; (with_reducible show wpAny _ _ (call (Value.ref 242) _) _ _ _); (with_reducible rename NDup _ => D9k); k_dflt (refine' parts_D ?b0 ?b1 ?b2 ?k1 ?k2 ?k3 ?k4 ?k5 D9k rfl rfl nofun rfl ?ka ?kb ?kc ?_; (case b0 | b1 | b2 => walk_at "l_bd"); (case k1 => k_asm); (case k2 | k3 => with_reducible assumption); (case k4 | k5 => k_asm); (case ka | kb => walk_at "m_un"); (case kc => walk_at "d_pos")); intro _ _ _ _ _ _ _ _ _ _ _ _ _ _; clear D9k; (try k_sweep))
  k_with "m call ref" => case' fresh => (k_here; (with_reducible show wpAny _ _ (call (Value.ref 59) _) _ _ _); (with_reducible rename NDup _ => D9k); k_dflt (refine' h2r_D ?a1 ?a2 ?a3 ?b0 ?b1 ?b2 ?a4 ?k1 ?k2 ?k3 ?k4 ?k5 D9k rfl rfl nofun rfl ?ka ?kb ?kc ?_; (case a1 | a2 | a3 => assumption);(case b0 | b1 | b2 => walk_at "l_bd");(case a4 => walk_at "p_toks"); (case k1 => k_asm); (case k2 | k3 => with_reducible assumption); (case k4 | k5 => k_asm); (case ka | kb => walk_at "m_un"); (case kc => walk_at "d_pos")); intro _ _ _ _ _ _ _ _ _ _ _ _ _ _ _ _ _; clear D9k; (try k_sweep))
  k_with "m call ref" => case' fresh => (k_here; (with_reducible show wpAny _ _ (call (Value.ref 52) _) _ _ _); (with_reducible rename NDup _ => D9k); k_dflt (refine' r2h_D ?a1 ?a2 ?a3 ?b0 ?b1 ?b2 ?a4 ?k1 ?k2 ?k3 ?k4 ?k5 D9k rfl rfl nofun rfl ?ka ?kb ?kc ?_; (case a1 | a2 | a3 => assumption);(case b0 | b1 | b2 => walk_at "l_bd");(case a4 => assumption); (case k1 => k_asm); (case k2 | k3 => with_reducible assumption); (case k4 | k5 => k_asm); (case ka | kb => walk_at "m_un"); (case kc => walk_at "d_pos")); intro _ _ _ _ _ _ _ _ _ _ _ _ _ _ _ _ _; clear D9k; (try k_sweep))
  k_with "m m_un" => case' fresh => ((try simp only [depth_in1, depth_deeper, units_in1, units_deeper, Around.mark_units]); (try dsimp only); lia)
  k_with "m binaryOp Div int int" => case' fresh => (k_here; k_dflt (refine' div_by (g := 10) ?k1 ?k2 ?k3 ?k4 ?_; (case k1 | k2 => decide); (case k3 | k4 => first | lia | l_bnd); k_whole; intro _ _; (try dsimp only)))
  k_with "m binaryOp Div int int" => case' fresh => (k_here; k_dflt (refine' div_by (g := 2) ?k1 ?k2 ?k3 ?k4 ?_; (case k1 | k2 => decide); (case k3 | k4 => first | lia | l_bnd); k_whole; intro _ _; (try dsimp only)))
  k_with "m binaryOp Div int int" => case' fresh => (k_here; k_dflt (refine' div_by (g := 14) ?k1 ?k2 ?k3 ?k4 ?_; (case k1 | k2 => decide); (case k3 | k4 => first | lia | l_bnd); k_whole; intro _ _; (try dsimp only)))
  k_with "m call builtin:sum" => case' fresh => (k_here; k_dflt (refine' sum_pick ?k1 ?k2 ?k3 ?k5 ?_; (case k1 => exact rfl); (case k2 | k3 => k_asm); (case k5 => with_reducible assumption); k_whole; intro _ _ _ _ hle'k F'k N'k; (try dsimp only at hle'k); (revert hle'k F'k N'k; intro _ _ _); (with_reducible rename NDup _ => D9k); (have D'k := NDup.tail D9k); clear D9k; (revert D'k; intro _); (try k_sweep)))
  k_with "m binaryOp Mult float int" => case' fresh => (k_here; k_dflt (refine' mul_1024 ?a ?b ?_; (case a => assumption); (case b => walk_at "l_bd"); k_whole; intro _ _; (try dsimp only)))
  k_with "m call type:int" => case' fresh => (k_here; k_dflt (refine' int_f ?a ?b ?c ?_; (case a => exact rfl); (case b => assumption); (case c => lia); k_whole))
  k_with "m compareOp NotEq ref ref" => case' fresh => (k_here; k_dflt (refine' ne_tup ?F ?X ?N ?a ?b ?c1 ?c2 ?c3 ?c4 ?c5 ?c6 ?d1 ?d2 ?e ?_; (case F | X | N => k_asm); (case a | b => k_mem); (case c1 | c2 | c3 | c4 | c5 | c6 => assumption); (case d1 | d2 => walk_at "p_toks3"); (case e => walk_at "m_un"); k_whole))
  k_with "m p_toks3" => case' fresh => (first | with_reducible assumption | exact ⟨by walk_at "p_toks", by walk_at "p_toks", by walk_at "p_toks"⟩)
  k_with "m p_toks" => case' fresh => (first | with_reducible assumption | exact Nat.succ_ne_zero _ | exact Nat.pos_iff_ne_zero.mp (by assumption) | lia)
  k_with "m pyIter ref" => case' fresh => (k_here; k_dflt (refine' hold ?_))
  k_with "m exec For Name Call cons nil" => case' fresh => (k_here; (rename Fr _ _ _ _ => lF'k); (with_unfolding_all refine' For_turns lF'k ?_); k_whole)
  k_with "m exec For Tuple Tuple cons nil" => case' fresh => (k_here; (rename Fr _ _ _ _ => lF'k); (with_unfolding_all refine' For_turns lF'k ?_); k_whole)
  k_with "m binaryOp Mod int int" => case' fresh => (k_here; k_dflt (refine' mod_g ?k1 ?_; (case k1 => first | decide | lia); k_whole); intro _ _ _ r1'k; (try dsimp only at r1'k); (revert r1'k; intro _); (try dsimp only))
  k_with "m subscriptTail Name Constant ref int" => case' fresh => (k_here; k_dflt (refine' idxT ?N ?m ?a ?b ?d ?_ ?s; (case N => k_asm); (case m => k_mem); (case a | b => first | decide | lia); (case d => first | exact rfl | assumption); (case s => with_unfolding_all rfl); k_whole))
  k_with "m subscriptTail Subscript Constant ref int" => case' fresh => (k_here; k_dflt (refine' idxT ?N ?m ?a ?b ?d ?_ ?s; (case N => k_asm); (case m => k_mem); (case a | b => first | decide | lia); (case d => first | exact rfl | assumption); (case s => with_unfolding_all rfl); k_whole))
  k_with "m subscriptTail Subscript Name ref int" => case' fresh => (k_here; k_dflt (refine' idxT ?N ?m ?a ?b ?d ?_ ?s; (case N => k_asm); (case m => k_mem); (case a | b => first | decide | lia); (case d => first | exact rfl | assumption); (case s => with_unfolding_all rfl); k_whole))
  k_with "m subscriptTail Name Name ref int" => case' fresh => (k_here; k_dflt (refine' idxT ?N ?m ?a ?b ?d ?_ ?s; (case N => k_asm); (case m => k_mem); (case a | b => first | decide | lia); (case d => first | exact rfl | assumption); (case s => with_unfolding_all rfl); k_whole))
  k_with "m subscriptTail Name Constant ref int" => case' fresh => (k_here; k_dflt (refine' idxL ?N ?m ?a ?b ?d ?_ ?s; (case N => k_asm); (case m => k_mem); (case a | b => first | decide | lia); (case d => first | exact rfl | assumption); (case s => with_unfolding_all rfl); k_whole))
  k_with "m subscriptTail Subscript Constant ref int" => case' fresh => (k_here; k_dflt (refine' idxL ?N ?m ?a ?b ?d ?_ ?s; (case N => k_asm); (case m => k_mem); (case a | b => first | decide | lia); (case d => first | exact rfl | assumption); (case s => with_unfolding_all rfl); k_whole))
  k_with "m subscriptTail Subscript Name ref int" => case' fresh => (k_here; k_dflt (refine' idxL ?N ?m ?a ?b ?d ?_ ?s; (case N => k_asm); (case m => k_mem); (case a | b => first | decide | lia); (case d => first | exact rfl | assumption); (case s => with_unfolding_all rfl); k_whole))
  k_with "m subscriptTail Name Name ref int" => case' fresh => (k_here; k_dflt (refine' idxL ?N ?m ?a ?b ?d ?_ ?s; (case N => k_asm); (case m => k_mem); (case a | b => first | decide | lia); (case d => first | exact rfl | assumption); (case s => with_unfolding_all rfl); k_whole))
  k_with "m subscriptTail Name Name ref int" => case' fresh => (k_here; k_dflt (refine' idx_push ?N ?m ?a ?b ?_ ?s; (case N => k_asm); (case m => k_mem); (case a => first | rfl | lia); (case b => lia); (case s => with_unfolding_all rfl); k_whole))
  k_with "m subscriptTail Tuple Name ref int" => case' fresh => (k_here; k_dflt (refine' idx3 ?N ?m ?a ?b ?_ ?s; (case N => k_asm); (case m => k_mem); (case a | b => lia); (case s => with_unfolding_all rfl); k_whole); intro _ _)
  k_with "m assign Tuple" => case' fresh => (k_here; k_dflt (refine' unpackN_ ?F ?N ?T ?k1 ?k2 ?k3 ?_; (case F | N => k_asm); (case T => refine News.isTup (by k_asm) (by k_mem)); (case k1 | k2 | k3 => exact rfl)); intro _ _ _; (try k_sweep))
  exact trivial
open LC

section
theorem calm_PA1 : True := by
  w_top off
  exact trivial
open PySem.W
theorem turnA 
    (B : Below A₀ base outer g) (X : (nk.heap_1 w.params).In g) (T : Top p loose mean mg mb g) (hd : dp + 8 < recursionLimit) (hu : un + 64 < cLine)
    {h : Heap} {m cm : Str → Option Value} {I bx bo : Addr} {oI : Obj} {items bs : Array Value} {n nb b : Nat} {cells frz : List (Addr × Obj)} {place low bits : Int} {t0 t1 t2 t3 : Tok} {s : Shared} {R : Flow → Shared → Prop}
    (hb : b < 3) (hbs : bs.size = b) (hit : items.size ≤ 8) (htk : 0 < s.toks) (hsh : s.heap = h)
    (F : Fr g L h m) (hm : AtL m [("boxes", .ref bo), ("b", .int b t0), ("place", .int place t1), ("low", .int low t2), ("bits", .int bits t3)])
    (N : News g L h ((I, oI) :: (bx, listOf items n) :: (bo, listOf (bs.push (.ref bx)) nb) :: (cells ++ frz))) (D : NDup ((I, oI) :: (bx, listOf items n) :: (bo, listOf (bs.push (.ref bx)) nb) :: (cells ++ frz)))
    (Y : CellsAre cm (lawCl L) cells)
    (done : ∀ h' tk m' cm' cells' tmp v sh va, Fr g L h' m' → (∀ y : Str, y ≠ "share" → y ≠ "value" → y ≠ "parts" → y ≠ "colour" → y ≠ "seen" → m' y = m y) →
      News g L h' ((I, oI) :: (bx, listOf (items.push v) (n + 1)) :: (bo, listOf (bs.push (.ref bx)) nb) :: (cells' ++ (tmp ++ frz))) → NDup ((I, oI) :: (bx, listOf (items.push v) (n + 1)) :: (bo, listOf (bs.push (.ref bx)) nb) :: (cells' ++ (tmp ++ frz))) →
      CellsAre cm' (lawCl L) cells' → Paint tmp v ((16 * place + 3 * b + low) % 1024) sh va → R .next { s with heap := h', toks := tk }) :
    wpAny (MM w) ((TopA dp un gd outer).deeper (lawEnv L fa cd)) (execs bAi.1 (lawEnv L fa cd)) R (fun _ _ => False) s := by
  subst hsh
  rw [← kst_at hm] at F
  unfold bAi
  dsimp only
  k_steps
  rename News _ _ _ _ => N9
  rename NDup _ => D9
  rename Fr _ _ _ _ => F9
  rename CellsAre _ _ _ => Y9
  rename _ = (16 * place + 3 * (b : Int) + low) % 1024 => e9
  obtain ⟨N8, D8⟩ := refreeze (keep := [(I, oI), (bx, _), (bo, _)]) (by walk_at "k_app") (by walk_at "k_part") N9 D9
  rw [← e9] at done
  refine done _ _ _ _ _ _ _ _ _ F9 (fun y h1 h2 h3 h4 h5 => ?_) N8 D8 Y9 ⟨_, _, _, _, _, _, _, _, _, _, _, _, _, _, _, rfl, (by k_mem), (by k_mem), (by k_mem), by assumption, by assumption, by assumption, by assumption, ⟨by assumption, by assumption⟩, ⟨by omega, by omega⟩, ⟨by omega, by omega⟩⟩
  rw [if_neg h5, if_neg h4, if_neg h3, if_neg h2, if_neg h1, kst_at hm]
end

section
theorem calm_PA2 : True := by
  w_top off
  exact trivial
open PySem.W
/-- the three hues of a box -/
noncomputable def BoxHues (b k0 k1 k2 : Int) : Prop := ∃ f s t, (0 ≤ f ∧ f < 64) ∧ (f ≤ s ∧ s < f + 32) ∧ (f + 32 ≤ t ∧ t ≤ s + 32) ∧ k0 = (16 * f + 3 * b + 0) % 1024 ∧ k1 = (16 * s + 3 * b + 2) % 1024 ∧ k2 = (16 * t + 3 * b + 1) % 1024
noncomputable def Box (frz : List (Addr × Obj)) (vb : Value) (k0 k1 k2 : Int) : Prop :=
  ∃ B n v0 v1 v2 s0 a0 s1 a1 s2 a2, vb = .ref B ∧ (B, listOf #[v0, v1, v2] n) ∈ frz ∧ Paint frz v0 k0 s0 a0 ∧ Paint frz v1 k1 s1 a1 ∧ Paint frz v2 k2 s2 a2
theorem Box.mono {f f' : List (Addr × Obj)} {v : Value} {k0 k1 k2 : Int} (h : Box f v k0 k1 k2) (hs : ∀ p ∈ f, p ∈ f') : Box f' v k0 k1 k2 := by
  obtain ⟨B, n, v0, v1, v2, s0, a0, s1, a1, s2, a2, e, a, p0, p1, p2⟩ := h
  exact ⟨B, n, v0, v1, v2, s0, a0, s1, a1, s2, a2, e, hs _ a, p0.mono hs, p1.mono hs, p2.mono hs⟩
noncomputable def PU (f : List (Addr × Obj)) (ks : Nat → Int) (j : Nat) (items : Array Value) : Prop := items.size = j ∧ ∀ i, i < j → ∃ v sh va, items[i]? = some v ∧ Paint f v (ks i) sh va
theorem PU.push {f f' : List (Addr × Obj)} {ks : Nat → Int} {j : Nat} {items : Array Value} {v : Value} {sh va : Int} (h : PU f ks j items) (hs : ∀ p ∈ f, p ∈ f') (hv : Paint f' v (ks j) sh va) : PU f' ks (j + 1) (items.push v) := by
  obtain ⟨h1, h2⟩ := h
  refine ⟨by simp [h1], fun i hi => ?_⟩
  by_cases e : i = j
  · subst e; exact ⟨v, sh, va, by simp [← h1], hv⟩
  · obtain ⟨u, a, b, c, d⟩ := h2 i (by lia)
    exact ⟨u, a, b, by rw [Array.getElem?_push, if_neg (by lia)]; exact c, d.mono hs⟩
theorem PU.three {f : List (Addr × Obj)} {ks : Nat → Int} {items : Array Value} (h : PU f ks 3 items) : ∃ v0 v1 v2 s0 a0 s1 a1 s2 a2, items = #[v0, v1, v2] ∧ Paint f v0 (ks 0) s0 a0 ∧ Paint f v1 (ks 1) s1 a1 ∧ Paint f v2 (ks 2) s2 a2 := by
  obtain ⟨h1, h2⟩ := h
  obtain ⟨v0, s0, a0, e0, p0⟩ := h2 0 (by decide)
  obtain ⟨v1, s1, a1, e1, p1⟩ := h2 1 (by decide)
  obtain ⟨v2, s2, a2, e2, p2⟩ := h2 2 (by decide)
  exact ⟨v0, v1, v2, s0, a0, s1, a1, s2, a2, arr3 h1 e0 e1 e2, p0, p1, p2⟩
theorem refreezeE {g h : Heap} {L : Addr} {news pre keep tmp cells frz : List (Addr × Obj)} (P : App news pre (cells ++ frz)) (Q : Part pre keep tmp) (N : News g L h news) (D : NDup news) :
    ∃ f0, f0 = tmp ++ frz ∧ News g L h (keep ++ (cells ++ f0)) ∧ NDup (keep ++ (cells ++ f0)) := ⟨_, rfl, (refreeze P Q N D).1, (refreeze P Q N D).2⟩
theorem pull {g h : Heap} {L : Addr} {p : Addr × Obj} {pre cells tmp mid frz : List (Addr × Obj)} (N : News g L h (pre ++ (cells ++ (tmp ++ (mid ++ p :: frz))))) (D : NDup (pre ++ (cells ++ (tmp ++ (mid ++ p :: frz))))) :
    News g L h (p :: (pre ++ (cells ++ (tmp ++ (mid ++ frz))))) ∧ NDup (p :: (pre ++ (cells ++ (tmp ++ (mid ++ frz))))) := by
  have e : (pre ++ (cells ++ (tmp ++ (mid ++ p :: frz)))).Perm (p :: (pre ++ (cells ++ (tmp ++ (mid ++ frz))))) := by
    have e1 : pre ++ (cells ++ (tmp ++ (mid ++ p :: frz))) = (pre ++ (cells ++ (tmp ++ mid))) ++ p :: frz := by simp
    have e2 : pre ++ (cells ++ (tmp ++ (mid ++ frz))) = (pre ++ (cells ++ (tmp ++ mid))) ++ frz := by simp
    rw [e1, e2]; exact List.perm_middle
  exact ⟨fun q hq => N q (e.symm.subset hq), D.perm e⟩
theorem refr2 {g h : Heap} {L : Addr} {keep cells t1 tmp mid frz : List (Addr × Obj)} (N : News g L h (keep ++ (cells ++ (t1 ++ (tmp ++ (mid ++ frz)))))) (D : NDup (keep ++ (cells ++ (t1 ++ (tmp ++ (mid ++ frz)))))) :
    News g L h (keep ++ (cells ++ ((t1 ++ (tmp ++ mid)) ++ frz))) ∧ NDup (keep ++ (cells ++ ((t1 ++ (tmp ++ mid)) ++ frz))) := by
  have e : t1 ++ (tmp ++ (mid ++ frz)) = (t1 ++ (tmp ++ mid)) ++ frz := by simp
  rw [e] at N D; exact ⟨N, D⟩
theorem assignPLB {w : World} {A : Around} {g : Heap} {L fa t : Addr} {cd : Value} {m : Str → Option Value} {news : List (Addr × Obj)} {s : Shared} {x y z : Value} {k : Nat} {pos pa pb pc : Pos} {Q : Unit → Shared → Prop} (X : (nk.heap_1 w.params).In g) (hh : A.handled = none)
    (F : Fr g L s.heap m) (N : News g L s.heap news) (hm : (t, tup3 x y z) ∈ news)
    (h : ∀ h' tk', Fr g L h' (fun q => if q = "bits" then some z else if q = "low" then some y else if q = "place" then some x else m q) → News g L h' news → Q () { s with heap := h', toks := tk' + 1 }) :
    wpAny (MM w) A (assign (.Tuple [.Name "place" pa, .Name "low" pb, .Name "bits" pc] k pos) (lawEnv L fa cd) (.ref t)) Q (fun _ _ => False) s := by
  refine unpackN_ F N ⟨_, (N _ hm).1, rfl, _, rfl⟩ hh rfl rfl fun h' F' N' => ?_
  clear F N
  k_steps
  rename Fr _ _ _ _ => F9
  rename News _ _ _ _ => N9
  exact h _ _ F9 N9
theorem turnAo 
    (B : Below A₀ base outer g) (X : (nk.heap_1 w.params).In g) (T : Top p loose mean mg mb g) (hd : dp + 8 < recursionLimit) (hu : un + 64 < cLine)
    {h : Heap} {m cm : Str → Option Value} {I bo scr : Addr} {oI : Obj} {bs : Array Value} {nb b : Nat} {cells frz : List (Addr × Obj)} {t0 : Tok} {s : Shared} {R : Flow → Shared → Prop} {vs : List Value} {ns : List Int}
    (hb : b < 3) (hbs : bs.size = b) (htk : 0 < s.toks) (hsh : s.heap = h) (hscr : g.IsList scr vs.toArray) (hns : IntsAre vs ns) (hvl : vs.length ≤ 63)
    (F : Fr g L h m) (hm : AtL m [("script", .ref scr), ("boxes", .ref bo), ("b", .int b t0)])
    (N : News g L h ((I, oI) :: (bo, listOf bs nb) :: (cells ++ frz))) (D : NDup ((I, oI) :: (bo, listOf bs nb) :: (cells ++ frz)))
    (Y : CellsAre cm (lawCl L) cells)
    (done : ∀ h' tk m' cm' cells' tmp v k0 k1 k2, Fr g L h' m' → AtL m' [("script", .ref scr), ("boxes", .ref bo)] →
      News g L h' ((I, oI) :: (bo, listOf (bs.push v) (nb + 1)) :: (cells' ++ (tmp ++ frz))) → NDup ((I, oI) :: (bo, listOf (bs.push v) (nb + 1)) :: (cells' ++ (tmp ++ frz))) →
      CellsAre cm' (lawCl L) cells' → Box tmp v k0 k1 k2 → BoxHues b k0 k1 k2 → R .next { s with heap := h', toks := tk }) :
    wpAny (MM w) ((TopA dp un gd outer).deeper (lawEnv L fa cd)) (execs bA.1 (lawEnv L fa cd)) R (fun _ _ => False) s := by
  subst hsh
  rw [← kst_at hm] at F
  unfold bA
  dsimp only
  k_steps
  unfold Hold
  rename CellsAre _ _ _ => Y9
  rename_i f0v ef f0a f0b _ _ _ s0v es s0a s0b _ _ _ q0v eq q0a q0b t0v et t0a t0b _ _ _ bx _ _ _ _ ta _ tb _ tc _ ax _ F9 N9 D9
  obtain ⟨f0, hf0, N8, D8⟩ := refreezeE (keep := [(bx, _), (bo, _)]) (by walk_at "k_app") (by walk_at "k_part") N9 D9
  clear N9 D9
  have hax : (ax, tup3 (.ref ta) (.ref tb) (.ref tc)) ∈ f0 := by rw [hf0]; exact List.mem_append.mpr (.inl (by k_mem))
  have hta : ∃ u1 u2 z u3, (ta, tup3 (.int f0v u1) (.int 0 u2) (.int z u3)) ∈ f0 := ⟨_, _, _, _, by rw [hf0]; exact List.mem_append.mpr (.inl (by k_mem))⟩
  have htb : ∃ u1 u2 z u3, (tb, tup3 (.int (f0v + s0v) u1) (.int 2 u2) (.int z u3)) ∈ f0 := ⟨_, _, _, _, by rw [hf0]; exact List.mem_append.mpr (.inl (by k_mem))⟩
  have htc : ∃ u1 u2 z u3, (tc, tup3 (.int (f0v + 32 + t0v) u1) (.int 1 u2) (.int z u3)) ∈ f0 := ⟨_, _, _, _, by rw [hf0]; exact List.mem_append.mpr (.inl (by k_mem))⟩
  have hks : ∃ ks : Nat → Int, ks 0 = (16 * f0v + 3 * (b : Int) + 0) % 1024 ∧ ks 1 = (16 * (f0v + s0v) + 3 * (b : Int) + 2) % 1024 ∧ ks 2 = (16 * (f0v + 32 + t0v) + 3 * (b : Int) + 1) % 1024 :=
    ⟨fun i => if i = 0 then (16 * f0v + 3 * (b : Int) + 0) % 1024 else if i = 1 then (16 * (f0v + s0v) + 3 * (b : Int) + 2) % 1024 else (16 * (f0v + 32 + t0v) + 3 * (b : Int) + 1) % 1024, rfl, rfl, rfl⟩
  obtain ⟨ks, k0, k1, k2⟩ := hks
  refine tup_turns (vs := [.ref ta, .ref tb, .ref tc]) (lo := tup3 (.ref ta) (.ref tb) (.ref tc)) (n := 0)
    (fun j m nx => ∃ cm cells tmp items n, nx = (bx, listOf items n) :: (bo, listOf (bs.push (.ref bx)) (nb + 1)) :: (cells ++ (tmp ++ f0)) ∧ CellsAre cm (lawCl L) cells ∧ AtL m [("script", .ref scr), ("boxes", .ref bo), ("b", .int b t0)] ∧ PU tmp ks j items)
    rfl F9 N8 D8 (List.mem_append.mpr (.inr (List.mem_append.mpr (.inr hax)))) rfl rfl ⟨_, _, [], _, _, rfl, Y9, ⟨rfl, rfl, rfl, trivial⟩, rfl, fun _ h => absurd h (Nat.not_lt_zero _)⟩ ?_ ?_
  · rintro i v m₁ nx h₁ tk₁ I₁ oI₁ hi hv ⟨cm₁, cells₁, tmp, items, n₁, rfl, Y₁, hm₁, hp⟩ - F₁ N₁ D₁
    clear F9 N8 D8 Y9
    have key : ∃ t pl lw bt u1 u2 u3, v = .ref t ∧ (t, tup3 (.int pl u1) (.int lw u2) (.int bt u3)) ∈ f0 ∧ ks i = (16 * pl + 3 * (b : Int) + lw) % 1024 ∧ 0 ≤ lw ∧ lw < 3 := by
      match i, hi with
      | 0, _ => obtain ⟨u1, u2, z, u3, hm⟩ := hta; exact ⟨ta, _, _, z, u1, u2, u3, (Option.some.inj hv).symm, hm, k0, by decide, by decide⟩
      | 1, _ => obtain ⟨u1, u2, z, u3, hm⟩ := htb; exact ⟨tb, _, _, z, u1, u2, u3, (Option.some.inj hv).symm, hm, k1, by decide, by decide⟩
      | 2, _ => obtain ⟨u1, u2, z, u3, hm⟩ := htc; exact ⟨tc, _, _, z, u1, u2, u3, (Option.some.inj hv).symm, hm, k2, by decide, by decide⟩
    obtain ⟨t, pl, lw, bt, u1, u2, u3, rfl, ht, hk, hl⟩ := key
    have ht' : (t, tup3 (.int pl u1) (.int lw u2) (.int bt u3)) ∈ tmp ++ f0 := List.mem_append.mpr (.inr ht)
    refine assignPLB X rfl F₁ N₁ (.tail _ (.tail _ (.tail _ (List.mem_append_right _ ht')))) fun h₂ tk₂ F₂ N₂ => ?_
    clear F₁ N₁
    refine turnA B X T hd hu (items := items) (bs := bs) (frz := tmp ++ f0) (R := TurnEnd g L _ I₁ oI₁ _ _) hb hbs (by rw [hp.1]; exact Nat.le_of_lt (Nat.lt_of_lt_of_le hi (show 3 ≤ 8 from Nat.le_of_ble_eq_true rfl))) (Nat.succ_pos _) rfl F₂ ⟨hm₁.2.1, hm₁.2.2.1, rfl, rfl, rfl, trivial⟩ N₂ D₁ Y₁ ?_
    intro h₃ tk₃ m₃ cm₃ cells₃ tmp₃ v₃ sh₃ va₃ F₃ hm₃ N₃ D₃ Y₃ P₃
    have e : tmp₃ ++ (tmp ++ f0) = (tmp₃ ++ tmp) ++ f0 := (List.append_assoc ..).symm
    rw [e] at N₃ D₃
    refine ⟨h₃, tk₃, m₃, _, rfl, F₃, N₃, D₃, .tail _ (.tail _ (List.mem_append_right _ (List.mem_append_right _ hax))), cm₃, cells₃, tmp₃ ++ tmp, _, _, rfl, Y₃, ⟨?_, ?_, ?_, trivial⟩, hp.push (fun p hp' => List.mem_append.mpr (.inr hp')) (hk ▸ P₃.mono fun p hp' => List.mem_append.mpr (.inl hp'))⟩
    · exact (hm₃ "script" (by decide) (by decide) (by decide) (by decide) (by decide)).trans hm₁.1
    · exact (hm₃ "boxes" (by decide) (by decide) (by decide) (by decide) (by decide)).trans hm₁.2.1
    · exact (hm₃ "b" (by decide) (by decide) (by decide) (by decide) (by decide)).trans hm₁.2.2.1
  · rintro m₁ nx h₁ tk₁ ⟨cm₁, cells₁, tmp, items, n₁, rfl, Y₁, hm₁, hp⟩ F₁ N₁ D₁
    clear F9 N8 D8 Y9
    obtain ⟨v0, v1, v2, s0, a0, s1, a1, s2, a2, rfl, p0, p1, p2⟩ := hp.three
    k_steps
    subst hf0
    obtain ⟨N2, D2⟩ := pull (p := (I, oI)) (pre := [(bx, _), (bo, _)]) (mid := [_, _, _, _]) N₁ D₁
    obtain ⟨N3, D3⟩ := refreeze (keep := [(I, oI), (bo, _)]) (cells := cells₁) (by walk_at "k_app") (by walk_at "k_part") N2 D2
    clear N2 D2
    obtain ⟨N4, D4⟩ := refr2 (keep := [_, _]) (t1 := [_]) (mid := [_, _, _, _]) N3 D3
    clear N3 D3
    rename Fr _ _ _ _ => F9
    refine done _ _ m₁ cm₁ cells₁ _ (.ref bx) (ks 0) (ks 1) (ks 2) F9 ⟨hm₁.1, hm₁.2.1, trivial⟩ N4 D4 Y₁ ⟨bx, n₁, v0, v1, v2, s0, a0, s1, a1, s2, a2, rfl, List.mem_append.mpr (.inl (.head _)), ?_, ?_, ?_⟩ ⟨f0v, f0v + s0v, f0v + 32 + t0v, ⟨f0a, f0b⟩, ⟨by lia, by lia⟩, ⟨by lia, by lia⟩, k0, k1, k2⟩
    · exact p0.mono fun p hp' => List.mem_append.mpr (.inr (List.mem_append.mpr (.inl hp')))
    · exact p1.mono fun p hp' => List.mem_append.mpr (.inr (List.mem_append.mpr (.inl hp')))
    · exact p2.mono fun p hp' => List.mem_append.mpr (.inr (List.mem_append.mpr (.inl hp')))
end

section
theorem calm_PA3 : True := by
  w_top off
  exact trivial
open PySem.W
section
variable {w : World} {A : Around} {E : Value → Shared → Prop} {g : Heap} {L fa : Addr} {cd : Value} {m cm : Str → Option Value} {news pre cells frz : List (Addr × Obj)} {s : Shared} {v : Value} {x : Str} {c : Addr} {pos : Pos} {Q : Unit → Shared → Prop}
theorem assignLoc (F : Fr g L s.heap m) (N : News g L s.heap news) (hx : (lawEnv L fa cd).kindOf x = some .local)
    (h : ∀ h', Fr g L h' (fun y => if y = x then some v else m y) → News g L h' news → Q () { s with heap := h', toks := s.toks + 1 }) : wpAny (MM w) A (assign (.Name x pos) (lawEnv L fa cd) v) Q E s :=
  wpAny_assign_Name (storeX_L F N h rfl hx)
theorem assignCell (F : Fr g L s.heap m) (N : News g L s.heap news) (D : NDup news) (P : App news pre (cells ++ frz)) (Y : CellsAre cm (lawCl L) cells) (hc : (lawCl L).lookup x = some c) (hx : (lawEnv L fa cd).kindOf x = some .cell)
    (h : ∀ h' cells', Fr g L h' m → News g L h' (pre ++ (cells' ++ frz)) → NDup (pre ++ (cells' ++ frz)) → CellsAre (fun y => if y = x then some v else cm y) (lawCl L) cells' → Q () { s with heap := h' }) : wpAny (MM w) A (assign (.Name x pos) (lawEnv L fa cd) v) Q E s :=
  wpAny_assign_Name (storeC F N D P Y hc (lawCl_nd _) h rfl hx)
end
/-- the boxes so far -/
noncomputable def BU (acc : List (Addr × Obj)) (j : Nat) (bs : Array Value) : Prop := bs.size = j ∧ ∀ i, i < j → ∃ v k0 k1 k2, bs[i]? = some v ∧ Box acc v k0 k1 k2 ∧ BoxHues i k0 k1 k2
theorem BU.push {f f' : List (Addr × Obj)} {j : Nat} {bs : Array Value} {v : Value} {k0 k1 k2 : Int} (h : BU f j bs) (hs : ∀ p ∈ f, p ∈ f') (hv : Box f' v k0 k1 k2) (hk : BoxHues j k0 k1 k2) : BU f' (j + 1) (bs.push v) := by
  obtain ⟨h1, h2⟩ := h
  refine ⟨by simp [h1], fun i hi => ?_⟩
  by_cases e : i = j
  · subst e; exact ⟨v, k0, k1, k2, by simp [← h1], hv, hk⟩
  · obtain ⟨u, a, b, c, d, x, y⟩ := h2 i (by omega)
    exact ⟨u, a, b, c, by rw [Array.getElem?_push, if_neg (by omega)]; exact d, x.mono hs, y⟩
noncomputable def Boxes (acc : List (Addr × Obj)) (bs : Array Value) (K : Nat → Nat → Int) : Prop :=
  ∃ v0 v1 v2, bs = #[v0, v1, v2] ∧ Box acc v0 (K 0 0) (K 0 1) (K 0 2) ∧ Box acc v1 (K 1 0) (K 1 1) (K 1 2) ∧ Box acc v2 (K 2 0) (K 2 1) (K 2 2) ∧
    BoxHues 0 (K 0 0) (K 0 1) (K 0 2) ∧ BoxHues 1 (K 1 0) (K 1 1) (K 1 2) ∧ BoxHues 2 (K 2 0) (K 2 1) (K 2 2)
theorem BU.three {f : List (Addr × Obj)} {bs : Array Value} (h : BU f 3 bs) : ∃ K, Boxes f bs K := by
  obtain ⟨h1, h2⟩ := h
  obtain ⟨v0, a0, a1, a2, e0, p0, q0⟩ := h2 0 (by decide)
  obtain ⟨v1, b0, b1, b2, e1, p1, q1⟩ := h2 1 (by decide)
  obtain ⟨v2, c0, c1, c2, e2, p2, q2⟩ := h2 2 (by decide)
  refine ⟨fun i j => if i = 0 then (if j = 0 then a0 else if j = 1 then a1 else a2) else if i = 1 then (if j = 0 then b0 else if j = 1 then b1 else b2) else (if j = 0 then c0 else if j = 1 then c1 else c2), v0, v1, v2, arr3 h1 e0 e1 e2, p0, p1, p2, q0, q1, q2⟩
theorem phA 
    (B : Below A₀ base outer g) (X : (nk.heap_1 w.params).In g) (T : Top p loose mean mg mb g) (hd : dp + 8 < recursionLimit) (hu : un + 64 < cLine)
    {m cm : Str → Option Value} {bo scr : Addr} {nb : Nat} {cells frz : List (Addr × Obj)} {s : Shared} {R : Flow → Shared → Prop} {vs : List Value} {ns : List Int}
    (hscr : g.IsList scr vs.toArray) (hns : IntsAre vs ns) (hvl : vs.length ≤ 63)
    (F : Fr g L s.heap m) (hm : AtL m [("script", .ref scr), ("boxes", .ref bo)])
    (N : News g L s.heap ((bo, listOf #[] nb) :: (cells ++ frz))) (D : NDup ((bo, listOf #[] nb) :: (cells ++ frz)))
    (Y : CellsAre cm (lawCl L) cells)
    (done : ∀ h' tk m' cm' cells' acc bs n K, Fr g L h' m' → AtL m' [("boxes", .ref bo)] →
      News g L h' ((bo, listOf bs n) :: (cells' ++ (acc ++ frz))) → NDup ((bo, listOf bs n) :: (cells' ++ (acc ++ frz))) →
      CellsAre cm' (lawCl L) cells' → Boxes acc bs K → R .next { s with heap := h', toks := tk }) :
    wpAny (MM w) ((TopA dp un gd outer).deeper (lawEnv L fa cd)) (exec stA.1 (lawEnv L fa cd)) R (fun _ _ => False) s := by
  rw [← kst_at hm] at F
  unfold stA
  dsimp only
  k_steps
  unfold Hold
  rename Fr _ _ _ _ => F9
  rename News _ _ _ _ => N9
  rename IsRange _ _ _ _ _ _ _ _ => hr
  refine range_turns (n := 3)
    (fun j m nx => ∃ cm cells acc bs n, nx = (bo, listOf bs n) :: (cells ++ (acc ++ frz)) ∧ CellsAre cm (lawCl L) cells ∧ AtL m [("script", .ref scr), ("boxes", .ref bo)] ∧ BU acc j bs)
    rfl hr rfl rfl F9 N9 D ⟨cm, cells, [], _, _, rfl, Y, ⟨rfl, rfl, trivial⟩, rfl, fun _ h => absurd h (Nat.not_lt_zero _)⟩ (fun _ _ _ _ _ _ _ _ _ q => wpAny_pure q) ?_ ?_
  · rintro i m₁ nx h₁ tk₁ I₁ oI₁ t₁ hi ⟨cm₁, cells₁, acc, bs, n₁, rfl, Y₁, hm₁, hp⟩ F₁ N₁ D₁
    clear F9 N9
    refine assignLoc F₁ N₁ rfl fun h₂ F₂ N₂ => ?_
    rw [Int.zero_add] at F₂
    refine turnAo B X T hd hu (frz := acc ++ frz) (R := TurnEnd g L _ I₁ oI₁ _ _) hi hp.1 (Nat.succ_pos _) rfl hscr hns hvl F₂ ⟨hm₁.1, hm₁.2.1, rfl, trivial⟩ N₂ D₁ Y₁ ?_
    intro h₃ tk₃ m₃ cm₃ cells₃ tmp₃ v₃ k0 k1 k2 F₃ hm₃ N₃ D₃ Y₃ P₃ H₃
    have e : tmp₃ ++ (acc ++ frz) = (tmp₃ ++ acc) ++ frz := (List.append_assoc ..).symm
    rw [e] at N₃ D₃
    exact ⟨h₃, tk₃, m₃, _, rfl, F₃, N₃, D₃, cm₃, cells₃, tmp₃ ++ acc, _, _, rfl, Y₃, hm₃, hp.push (fun p hp' => List.mem_append.mpr (.inr hp')) (P₃.mono fun p hp' => List.mem_append.mpr (.inl hp')) H₃⟩
  · rintro m₁ nx h₁ tk₁ ⟨cm₁, cells₁, acc, bs, n₁, rfl, Y₁, hm₁, hp⟩ F₁ N₁ D₁
    clear F9 N9
    obtain ⟨K, hK⟩ := hp.three
    exact done h₁ tk₁ m₁ cm₁ cells₁ acc bs n₁ K F₁ ⟨hm₁.2.1, trivial⟩ N₁ D₁ Y₁ hK
end

section
theorem calm_HB3 : True := by
  w_top off
  exact trivial
open PySem.W
/-- what a call that changes one object does -/
noncomputable def OCtr (w : World) (f ha : Addr) (vs : List Value) (oh : Obj) (P : Heap → Prop) (post : Value → Obj → List (Addr × Obj) → Prop) (lv un0 : Nat) : Prop :=
  ∀ (p : Program) (loose : List Str) (mean : ExcName → Option Value) (mg mb : Str → Option Value)
    (dp un : Nat) (gd : Option (List Code)) (outer : List Env) (A₀ : Around) (base g : Heap) (s : Shared) (Q E : Value → Shared → Prop),
    Below A₀ base outer g → (nk.heap_1 w.params).In g → Top p loose mean mg mb g → g.StaysIn s.heap → g.get? ha = none → g.objs.size ≤ s.heap.objs.size → s.heap.get? ha = some oh →
    dp + lv < recursionLimit → un + un0 < cLine → 0 < s.toks → P g →
    (∀ v h' tk' oh' own, post v oh' own → g.StaysIn h' → h'.get? ha = some oh' → (∀ q ∈ own, h'.get? q.1 = some q.2 ∧ g.get? q.1 = none ∧ q.1 ≠ ha) → Q v { s with heap := h', toks := tk' }) →
    wpAny (MM w) (TopA dp un gd outer) (call (.ref f) vs) Q E s
theorem a_enter {w : World} {p : Program} {loose : List Str} {mean : ExcName → Option Value} {mg mb : Str → Option Value} {dp un : Nat} {gd : Option (List Code)} {outer : List Env} {A₀ : Around} {base g : Heap} {s : Shared}
    {R : Result → Shared → Prop} {name qual : Str} {params : Arguments} {body : List Stmt} {scope : Scope} {dV kV doc pm cdv ct oc : Value} {an od : Option Addr} {osl : Array (Option Value)} {f ha : Addr} {oh : Obj} {args : Args} {front : List (Str × Value)} {kwn : Str}
    (_B : Below A₀ base outer g) (X : (nk.heap_1 w.params).In g) (T : Top p loose mean mg mb g) (hst : g.StaysIn s.heap) (hno : g.get? ha = none) (hsz : g.objs.size ≤ s.heap.objs.size) (hh : s.heap.get? ha = some oh)
    (ho : (nk.heap_1 w.params).lookup f = some ⟨oc, od, .func (fnOf name qual params body scope dV kV doc pm an cdv ct), osl⟩) (hcd : codeIn (nk.heap_1 w.params) cdv qual = true) (hroom : dp < recursionLimit)
    (hbind : bindArgs (fnOf name qual params body scope dV kV doc pm an cdv ct) args = (alloc { cls := .type "dict", data := .dict #[] } >>= fun d => pure (front ++ [(kwn, .ref d)]))) (hloc : ∀ d, ∀ y ∈ front ++ [(kwn, Value.ref d)], scope.names.lookup y.1 = some .local)
    (h : ∀ L h₁ d o, o.IsDictOf (strKind PySem.Challenge.rw_pg0288_01.row.prog w) [] → PyProof.V.FlatPairs PyData.str ([] : List (Str × Value)) [] → (d == sysModules) = false → Fr g L h₁ (fun y => (front ++ [(kwn, Value.ref d)]).reverse.lookup y) → News g L h₁ [(d, o), (ha, oh)] → NDup [(d, o), (ha, oh)] → s.heap.get? d = none →
      wpAny (MM w) ((TopA dp un gd outer).deeper (envOf qual scope L f cdv)) (execs body (envOf qual scope L f cdv))
        (fun fl s' => R (.ok (.ret (match fl with | .ret v => v | _ => .none))) s')
        (fun e s' => wpAny (MM w) ((TopA dp un gd outer).deeper (envOf qual scope L f cdv)) (leaving (envOf qual scope L f cdv) e) (fun _ s'' => R (.error e) s'') (fun e' s'' => R (.error e') s'') s')
        { s with heap := h₁, toks := s.toks + (front ++ [(kwn, Value.ref d)]).length })
    (hco : scope.isCoroutine = false) (hgen : scope.isGenerator = false) (hk : scope.kind = .function)
    (hcell : ∀ x ∈ scope.names, x.2 ≠ .cell) : codeAny (MM w) (TopA dp un gd outer) (.call (.ref f) args) R s := by
  refine codeAny_call_function (fd := fnOf name qual params body scope dV kV doc pm an cdv ct) (body := body) hroom (hst _ _ (X _ _ ho)) rfl hco hgen rfl (codeRec_of (X.keeps hst) hcd) ?_
  rw [hbind]
  refine wpAny_bind (wpAny_alloc (wpAny_pure ?_))
  refine wpAny_newFunctionEnv hcell (hloc _) (fun h₁ hns hsb => ?_) hk
  have up : ∀ b o, s.heap.get? b = some o → h₁.get? b = some o := fun b o e => hsb.extBut b o (by
    rw [Heap.size_push]; exact Nat.ne_of_lt (Nat.lt_succ_of_lt (Heap.lt_size e))) (Heap.get?_push_of_some _ (Heap.get?_push_of_some _ e))
  have hne : s.heap.objs.size ≠ (s.heap.push (dictOf [] 0)).objs.size := by rw [Heap.size_push]; exact Nat.ne_of_lt (Nat.lt_succ_self _)
  have hd : h₁.get? s.heap.objs.size = some (dictOf [] 0) := hsb.extBut _ _ hne (Heap.get?_push_of_some _ (Heap.get?_push_size _ rfl))
  have hgd : g.get? s.heap.objs.size = none := Heap.get?_none_of_le hsz
  refine ⟨T.nolimit.keeps fun b o e => up b o (hst b o e), ?_⟩
  show codeAny _ _ (.func body (envOf qual scope (s.heap.push (dictOf [] 0)).objs.size f cdv)) _ _
  refine codeAny_func (h _ h₁ s.heap.objs.size (dictOf [] 0) (kp_isDict (ex := []) 0 0 .nil) .nil ?_ ⟨hns, fun b o e => up b o (hst b o e), ?_⟩ ?_ ?_ (Heap.get?_none_of_le (Nat.le_refl _)))
  · exact beq_eq_false_iff_ne.mpr (Nat.ne_of_gt (Nat.lt_of_lt_of_le (modules_low T.nolimit) hsz))
  · rw [Heap.size_push]; exact Nat.le_succ_of_le hsz
  · intro q hq
    rcases List.mem_cons.mp hq with rfl | hq
    · exact ⟨hd, hne, hgd⟩
    · obtain rfl := List.mem_singleton.mp hq
      exact ⟨up _ _ hh, by rw [Heap.size_push]; exact Nat.ne_of_lt (Nat.lt_succ_of_lt (Heap.lt_size hh)), hno⟩
  · refine NDup.cons (NDup.cons List.nodup_nil (fun _ h => nomatch h)) fun q hq => ?_
    obtain rfl := List.mem_singleton.mp hq
    exact Nat.ne_of_lt (Heap.lt_size hh)
theorem inst_base {g h : Heap} {L x dx C : Addr} {m : Str → Option Value} {od : Obj} (F : Fr g L h m) (hx : g.get? x = some (instObj C dx)) (hd : g.get? dx = some od) : InstAt h x (instObj C dx) C (some od) :=
  ⟨F.keep _ _ hx, rfl, rfl, F.keep _ _ hd⟩
theorem kp_callD {w : World} {f : Addr} {vs : List Value} {kws : List (Str × Value)} {P : Heap → Prop} {post : Value → List (Addr × Obj) → Prop} {lv un0 : Nat} (C : KCtr w f vs kws P post lv un0)
    {p : Program} {loose : List Str} {mean : ExcName → Option Value} {mg mb : Str → Option Value} {A A₀ : Around} {outer : List Env} {base g : Heap} {s : Shared} {L : Addr} {m : Str → Option Value} {env : Env} {news : List (Addr × Obj)} {Q E : Value → Shared → Prop}
    (B : Below A₀ base outer g) (X : (nk.heap_1 w.params).In g) (T : Top p loose mean mg mb g) (F : Fr g L s.heap m) (N : News g L s.heap news) (hh : A.handled = none) (hA : A.frames = some (env :: outer)) (hk : env.scope.kind ≠ .module) (hf : env.frame = some L)
    (hdp : A.depth + lv < recursionLimit) (hun : A.units + un0 < cLine) (hP : P s.heap)
    (h : ∀ v h' tk' own, post v own → s.toks ≤ tk' → Fr g L h' m → News g L h' (own ++ news) → (∀ q ∈ own, ∀ p ∈ news, p.1 ≠ q.1) → Q v { s with heap := h', toks := tk' }) :
    wpAny (MM w) A (call (.ref f) vs kws) Q E s := by
  obtain ⟨a1, a2, a3, a4, a5⟩ := A
  dsimp only at hh hA hdp hun
  subst hh; subst hA
  have B' : Below (TopA a2 a5 a4 (env :: outer)) base (env :: outer) s.heap := by
    refine ⟨rfl, fun b o e => F.keep b o (B.stays b o e), hk, ?_, B.frames.of_keeps fun b o e _ => ⟨o, F.keep b o e, rfl⟩⟩
    obtain ⟨oL, es, ep, hL, hd, _⟩ := F.ns
    refine ⟨L, oL, hf, ?_, hL, fun vs e => by rw [hd] at e; cases e⟩
    cases q : base.get? L with
    | none => rfl
    | some o => exact absurd (Heap.lt_size (B.stays _ _ q)) (Nat.not_lt.mpr F.above)
  refine with_toks (C p loose mean mg mb a2 a5 a4 (env :: outer) _ base s _ E B' (X.keeps F.keep) (T.keeps F.keep) hdp hun hP ?_)
  intro v h' tk' own hp hst ho hle
  refine h v h' tk' own hp hle (F.grownK hst) (fun q hq => ?_) fun q hq p hp' e => ?_
  · rcases List.mem_append.mp hq with hq | hq
    · have y := ho q hq
      obtain ⟨oL, _, _, hL, _⟩ := F.ns
      have hne : q.1 ≠ L := fun e => by
        have y2 := y.2
        rw [e, hL] at y2
        cases y2
      exact ⟨y.1, hne, F.noneBack y.2⟩
    · have y := N q hq; exact ⟨hst _ _ y.1, y.2⟩
  · have y := (ho q hq).2
    rw [← e, (N p hp').1] at y
    cases y
theorem conv_D {w : World} {x : Addr} {t : Str} {u : Tok} {b : Bool} {p : Program} {loose : List Str} {mean : ExcName → Option Value} {mg mb : Str → Option Value} {A A₀ : Around} {outer : List Env} {base g : Heap} {s : Shared} {L : Addr} {m : Str → Option Value} {env : Env} {news : List (Addr × Obj)} {Q E : Value → Shared → Prop} (ht : Nice t)
    (B : Below A₀ base outer g) (X : (nk.heap_1 w.params).In g) (T : Top p loose mean mg mb g) (F : Fr g L s.heap m) (N : News g L s.heap news) (hh : A.handled = none) (hA : A.frames = some (env :: outer)) (hk : env.scope.kind ≠ .module) (hf : env.frame = some L)
    (hdp : A.depth + 1 < recursionLimit) (hun : A.units + 8 < cLine)
    (h : ∀ h' tk', s.toks ≤ tk' → Fr g L h' m → News g L h' news → Q (.str t u) { s with heap := h', toks := tk' }) :
    wpAny (MM w) A (call (.ref 132) [.ref x, .str t u] [("name", .bool b)]) Q E s :=
  kp_callD (conv_c w x t u b ht) B X T F N hh hA hk hf hdp hun trivial fun v h' tk' own hp ht F' N' _ => by
    obtain ⟨rfl, rfl⟩ := hp
    exact h h' tk' ht F' N'
theorem join_one {prog : Program} {w : World} {A : Around} {E : Value → Shared → Prop} {s : Shared} {g : Heap} {L D : Addr} {news : List (Addr × Obj)} {x v : Str} {t u : Tok} {n : Nat} {Q : Value → Shared → Prop} (N : News g L s.heap news) (hm : (D, listOf #[.str v u] n) ∈ news) (hx : x.cps.size ≤ 8) (hv : Nice v)
    (h : ∀ t' k, Q (.str v t') { s with toks := k }) : wpAny (model prog w) A (call (.builtin "str.join") [.str x t, .ref D]) Q E s := by
  refine SC.join (l := [(v, u)]) (texts := [v]) ⟨_, (N _ hm).1, rfl, _, rfl⟩ rfl ?_ h
  have hz := hv.1
  unfold JoinOk PySem.Builtin.Str.tooLong
  show (!decide (0 + v.cps.size + x.cps.size > _)) = true
  rw [decide_eq_false]
  · rfl
  · have : sizeLine = 16777216 := sizeLine_eq
    omega
noncomputable def hdrEs (w : World) (u : Tok) (hl : Addr) : List DictEntry := [⟨PyData.keyHash w.params "_headers", .str "_headers" u, .ref hl⟩]
local macro_rules | `(tactic| k_inst) => `(tactic| (refine' inst_base ?F ?a ?b; (case F => k_asm); (case a | b => assumption)))
theorem words_8 : True := by
  k_with "m call ref" => case' fresh => (k_here; (with_reducible show wpAny _ _ (call (Value.ref 132) _ _) _ _ _); k_dflt (refine' conv_D ?a1 ?k1 ?k2 ?k3 ?k4 ?k5 rfl rfl nofun rfl ?ka ?kb ?_; (case a1 => assumption); (case k1 => k_asm); (case k2 | k3 => with_reducible assumption); (case k4 | k5 => k_asm); (case ka | kb => walk_at "m_un")); intro _ _ _ _ _; (try k_sweep))
  k_with "m call builtin:str.join" => case' fresh => (k_here; k_dflt (refine' join_one ?N ?m ?a ?b ?_; (case N => k_asm); (case m => k_mem); (case a => decide +kernel); (case b => assumption)); intro _ _)
  exact trivial
theorem add_c (w : World) (x dx hl : Addr) (u u1 u2 : Tok) (nm vl : Str) (its : Array Value) (n : Nat) (h1 : Nice nm) (h2 : Nice vl) (hz : its.size ≤ 32) :
    OCtr w 228 hl [.ref x, .str nm u1, .str vl u2] (listOf its n) (fun g => g.get? x = some (instObj 231 dx) ∧ g.get? dx = some (dictOf (hdrEs w u hl) 1))
      (fun v oh' own => v = .none ∧ ∃ T u3 u4, oh' = listOf (its.push (.ref T)) (n + 1) ∧ (T, ({ cls := .type "tuple", data := .seq #[.str nm u3, .str vl u4] } : Obj)) ∈ own) 2 16 := by
  intro p loose mean mg mb dp un gd outer A₀ base g s Q E B X T hst hno hsz hh hd hu htk hP hret
  obtain ⟨hx, hdx⟩ := hP
  refine wpAny_call ?_
  refine a_enter B X T hst hno hsz hh (by k_is) (by k_is) (by omega) (front := [("self", Value.ref x), ("_name", Value.str nm u1), ("_value", Value.str vl u2)]) (kwn := "_params") (by rfl) (fun _ => locs rfl) ?_ rfl rfl rfl (by decide)
  intro L h₁ d o o1 o2 o3 F N D hd0
  try dsimp only
  try k_fold
  k_steps
  rename Fr _ _ _ _ => F9
  rename News _ _ _ _ => N9
  rename NDup _ => D9
  have a1 := N9 _ (.head _)
  have a2 := D9.head (hl, _) (by k_mem)
  exact hret _ _ _ _ [_] ⟨rfl, _, _, _, rfl, .head _⟩ F9.keep (N9 (hl, _) (by k_mem)).1 (List.forall_mem_singleton.mpr ⟨a1.1, a1.2.2, fun e => a2 e.symm⟩)
end

section
theorem words_9 : True := by
  k_with_none
  k_with "m p_enter" => case' fresh => (refine wpAny_call ?_; k_dflt (refine' p_enter ?k1 ?k3 ?k5 ?k6 ?k7 ?k8 ?k9 ?kB ?_ ?c2 ?c3 ?c4 ?c5; (case k1 | k3 | k5 => assumption); (case k6 | k7 => k_is); (case k8 => lia); (case k9 => first | exact BindsTo.of_eq rfl | exact binds_K (by k_in) rfl (by k_is) rfl rfl rfl); (case kB => exact locs rfl); (case c5 => decide); (case c2 | c3 | c4 => exact rfl); k_whole; intro _ _ _ _; (try dsimp only); (try k_fold)))
  k_with "m subscriptTail Name Constant ref int" => case' fresh => (k_here; k_dflt (refine' item_base ?F ?l ?a ?b ?d ?_; (case F => k_asm); (case l => with_reducible assumption); (case a | b => decide); (case d => exact rfl); k_whole))
  k_with "m subscriptTail Name Constant ref int" => case' fresh => (k_here; k_dflt (refine' tup_base ?F ?l ?a ?b ?j ?d ?_; (case F => k_asm); (case l => with_reducible assumption); (case a | b => decide); (case j | d => exact rfl); k_whole))
  k_with "m binaryOp Mult int int" => case' fresh => (k_dflt (refine' mul_smallL ?a ?b ?_; (case a | b => lia)))
  k_with "m binaryOp Mult int int" => case' fresh => (k_dflt (refine' mul_smallR ?a ?b ?_; (case a | b => lia)))
  k_with "m call builtin:max" => case' fresh => (k_here; (with_reducible show wpAny _ _ (call (Value.builtin "max") [Value.float _ _, Value.float _ _, Value.float _ _]) _ _ _); k_dflt (refine' max3_ex ?a ?b ?c ?d ?F ?N ?_; (case a | b | c => assumption); (case d => exact rfl); (case F | N => k_asm); intro _ _ _ _ _ _ hle'k F'k N'k; (try dsimp only at hle'k); (revert hle'k F'k N'k; intro _ _ _); (try k_sweep)))
  k_with "m call builtin:min" => case' fresh => (k_here; (with_reducible show wpAny _ _ (call (Value.builtin "min") [Value.float _ _, Value.float _ _, Value.float _ _]) _ _ _); k_dflt (refine' min3_ex ?a ?b ?c ?d ?F ?N ?_; (case a | b | c => assumption); (case d => exact rfl); (case F | N => k_asm); intro _ _ _ _ _ _ hle'k F'k N'k; (try dsimp only at hle'k); (revert hle'k F'k N'k; intro _ _ _); (try k_sweep)))
  k_with "m assign Tuple" => case' fresh => ((rename IntsAre _ _ => i9k); (rename (List.length _ = _) => e9k); (obtain ⟨a9, b9, c9, ta9, tb9, tc9, e8, e7⟩ := three_of i9k e9k); subst e8; subst e7; (walk_at "assign Tuple"))
  k_with "m call builtin:max" => case' fresh => (k_here; (with_reducible show wpAny _ _ (call (Value.builtin "max") (Value.int _ _ :: _)) _ _ _); k_dflt ((first | refine' max3_i ?d ?F ?N ?_ | refine' max2_i ?d ?F ?N ?_); (case d => exact rfl); (case F | N => k_asm); intro _ _ _ _ _; (try k_sweep)))
  k_with "m call builtin:min" => case' fresh => (k_here; (with_reducible show wpAny _ _ (call (Value.builtin "min") (Value.int _ _ :: _)) _ _ _); k_dflt ((first | refine' min3_i ?d ?F ?N ?_ | refine' min2_i ?d ?F ?N ?_); (case d => exact rfl); (case F | N => k_asm); intro _ _ _ _ _; (try k_sweep)))
  k_with "m ite" => case' fresh => (k_dflt (first | (refine' ite_eq_tt ?a ?b ?c ?_; (case a | b => assumption); (case c => lia)) | (refine' ite_eq_ff ?a ?b ?c ?_; (case a | b => assumption); (case c => lia))))
  k_with "m p_leaf" => case' fresh => (rename Fr _ _ _ _ => F9k; rename News _ _ _ _ => N9k; rename ∀ (_ : Value) (_ : Heap) (_ : Nat) (_ : List (Addr × Obj)), _ => hret9k; refine hret9k _ _ _ _ ?_ F9k.keep (fun q hq => ⟨(N9k q hq).1, (N9k q hq).2.2⟩))
  k_with "m execs cons" => case' fresh => (k_here; k_dflt (refine' gen_toks ?p ?_; (case p => first | with_reducible assumption | exact Nat.succ_pos _ | lia | (dsimp only; first | exact Nat.succ_pos _ | lia)); (intro _ _; (try dsimp only); refine wpAny_execs_cons ?_)))
  k_with "m p_toks" => case' fresh => (first | with_reducible assumption | exact Nat.succ_ne_zero _ | exact Nat.pos_iff_ne_zero.mp (by assumption) | exact tok_or3 (by assumption) (by assumption))
  k_with "m d_pos" => case' fresh => (first | with_reducible assumption | exact Nat.succ_pos _ | (dsimp only; first | exact Nat.succ_pos _ | omega) | omega)
  k_with "m l_bd" => case' fresh => (refine And.intro ?_ ?_ <;> (first | lia | l_bnd))
  k_with "m k_app" => case' fresh => (first | exact App.nil | (refine' App.cons ?pa; (case pa => walk_at "k_app")))
  k_with "m k_updN" => case' fresh => (first | exact UpdN.head | (refine' UpdN.tail ?pa; (case pa => walk_at "k_updN")))
  k_with "m k_part" => case' fresh => (first | exact Part.nil | (refine' Part.keep ?pa; (case pa => walk_at "k_part")) | (refine' Part.tmp ?pa; (case pa => walk_at "k_part")))
  k_with "m eval Name" => case' fresh => (k_here; k_dflt (refine' nameC ?N ?P ?Y ?c ?v ?_ ?a ?b ?d; (case Y => with_reducible assumption); (case b | a => exact rfl); (case N => k_asm); (case P => walk_at "k_app"); (case c | v => exact rfl); (case d => decide); k_whole))
  k_with "m eval Name" => case' fresh => (k_here; k_dflt (refine' nameX_L ?F ?v ?_ ?a ?b; (case F => k_asm); (case b | a | v => exact rfl); k_whole))
  k_with "m storeName" => case' fresh => (k_here; (with_reducible rename CellsAre _ _ _ => Y9k); (with_reducible rename NDup _ => D9k); k_dflt (refine' storeC ?F ?N D9k ?P Y9k ?c ?n ?_ ?a ?b; (case b | a => exact rfl); (case F | N => k_asm); (case P => walk_at "k_app"); (case c => exact rfl); (case n => exact lawCl_nd _); k_whole); intro _ _ _ N'k D'k Y'k; clear Y9k D9k; (try dsimp only [List.cons_append, List.nil_append] at N'k D'k); (revert N'k D'k Y'k; intro _ _ _); (try k_sweep))
  k_with "m storeName" => case' fresh => (k_here; k_dflt (refine' storeX_L ?F ?N ?_ ?a ?b; (case b | a => rfl); (case F | N => k_asm); k_whole); intro _ _ _; (try k_sweep))
  k_with "m newTuple" => case' fresh => (k_here; (with_reducible rename NDup _ => D9k); k_dflt (refine' newTup_D ?F ?N D9k ?_ ?z; (case F | N => k_asm); (case z => size_fits); k_whole); intro _ _ _ _ _; clear D9k; (try k_sweep))
  k_with "m newList" => case' fresh => (k_here; (with_reducible rename NDup _ => D9k); k_dflt (refine' newList_D ?F ?N D9k ?_ ?z; (case F | N => k_asm); (case z => size_fits); k_whole); intro _ _ _ _ _; clear D9k; (try k_sweep))
  k_with "m call builtin:list.append" => case' fresh => (k_here; (with_reducible rename NDup _ => D9k); k_dflt (refine' append_D ?F ?N D9k ?U ?_ ?z; (case F | N => k_asm); (case U => walk_at "k_updN"); (case z => first | size_fits | (simp only [Array.size_push] at *; lia)); k_whole); intro _ _ _ _; clear D9k; (try k_sweep))
  k_with "m call ref" => case' fresh => (k_here; (with_reducible show wpAny _ _ (call (Value.ref 242) _) _ _ _); (with_reducible rename NDup _ => D9k); k_dflt (refine' parts_D ?b0 ?b1 ?b2 ?k1 ?k2 ?k3 ?k4 ?k5 D9k rfl rfl nofun rfl ?ka ?kb ?kc ?_; (case b0 | b1 | b2 => walk_at "l_bd"); (case k1 => k_asm); (case k2 | k3 => with_reducible assumption); (case k4 | k5 => k_asm); (case ka | kb => walk_at "m_un"); (case kc => walk_at "d_pos")); intro _ _ _ _ _ _ _ _ _ _ _ _ _ _; clear D9k; (try k_sweep))
  k_with "m call ref" => case' fresh => (k_here; (with_reducible show wpAny _ _ (call (Value.ref 59) _) _ _ _); (with_reducible rename NDup _ => D9k); k_dflt (refine' h2r_D ?a1 ?a2 ?a3 ?b0 ?b1 ?b2 ?a4 ?k1 ?k2 ?k3 ?k4 ?k5 D9k rfl rfl nofun rfl ?ka ?kb ?kc ?_; (case a1 | a2 | a3 => assumption);(case b0 | b1 | b2 => walk_at "l_bd");(case a4 => walk_at "p_toks"); (case k1 => k_asm); (case k2 | k3 => with_reducible assumption); (case k4 | k5 => k_asm); (case ka | kb => walk_at "m_un"); (case kc => walk_at "d_pos")); intro _ _ _ _ _ _ _ _ _ _ _ _ _ _ _ _ _; clear D9k; (try k_sweep))
  k_with "m call ref" => case' fresh => (k_here; (with_reducible show wpAny _ _ (call (Value.ref 52) _) _ _ _); (with_reducible rename NDup _ => D9k); k_dflt (refine' r2h_D ?a1 ?a2 ?a3 ?b0 ?b1 ?b2 ?a4 ?k1 ?k2 ?k3 ?k4 ?k5 D9k rfl rfl nofun rfl ?ka ?kb ?kc ?_; (case a1 | a2 | a3 => assumption);(case b0 | b1 | b2 => walk_at "l_bd");(case a4 => assumption); (case k1 => k_asm); (case k2 | k3 => with_reducible assumption); (case k4 | k5 => k_asm); (case ka | kb => walk_at "m_un"); (case kc => walk_at "d_pos")); intro _ _ _ _ _ _ _ _ _ _ _ _ _ _ _ _ _; clear D9k; (try k_sweep))
  k_with "m m_un" => case' fresh => ((try simp only [depth_in1, depth_deeper, units_in1, units_deeper, Around.mark_units]); (try dsimp only); lia)
  k_with "m binaryOp Div int int" => case' fresh => (k_here; k_dflt (refine' div_by (g := 10) ?k1 ?k2 ?k3 ?k4 ?_; (case k1 | k2 => decide); (case k3 | k4 => first | lia | l_bnd); k_whole; intro _ _; (try dsimp only)))
  k_with "m binaryOp Div int int" => case' fresh => (k_here; k_dflt (refine' div_by (g := 2) ?k1 ?k2 ?k3 ?k4 ?_; (case k1 | k2 => decide); (case k3 | k4 => first | lia | l_bnd); k_whole; intro _ _; (try dsimp only)))
  k_with "m binaryOp Div int int" => case' fresh => (k_here; k_dflt (refine' div_by (g := 14) ?k1 ?k2 ?k3 ?k4 ?_; (case k1 | k2 => decide); (case k3 | k4 => first | lia | l_bnd); k_whole; intro _ _; (try dsimp only)))
  k_with "m call builtin:sum" => case' fresh => (k_here; k_dflt (refine' sum_pick ?k1 ?k2 ?k3 ?k5 ?_; (case k1 => exact rfl); (case k2 | k3 => k_asm); (case k5 => with_reducible assumption); k_whole; intro _ _ _ _ hle'k F'k N'k; (try dsimp only at hle'k); (revert hle'k F'k N'k; intro _ _ _); (with_reducible rename NDup _ => D9k); (have D'k := NDup.tail D9k); clear D9k; (revert D'k; intro _); (try k_sweep)))
  k_with "m binaryOp Mult float int" => case' fresh => (k_here; k_dflt (refine' mul_1024 ?a ?b ?_; (case a => assumption); (case b => walk_at "l_bd"); k_whole; intro _ _; (try dsimp only)))
  k_with "m call type:int" => case' fresh => (k_here; k_dflt (refine' int_f ?a ?b ?c ?_; (case a => exact rfl); (case b => assumption); (case c => lia); k_whole))
  k_with "m compareOp NotEq ref ref" => case' fresh => (k_here; k_dflt (refine' ne_tup ?F ?X ?N ?a ?b ?c1 ?c2 ?c3 ?c4 ?c5 ?c6 ?d1 ?d2 ?e ?_; (case F | X | N => k_asm); (case a | b => k_mem); (case c1 | c2 | c3 | c4 | c5 | c6 => assumption); (case d1 | d2 => walk_at "p_toks3"); (case e => walk_at "m_un"); k_whole))
  k_with "m p_toks3" => case' fresh => (first | with_reducible assumption | exact ⟨by walk_at "p_toks", by walk_at "p_toks", by walk_at "p_toks"⟩)
  k_with "m p_toks" => case' fresh => (first | with_reducible assumption | exact Nat.succ_ne_zero _ | exact Nat.pos_iff_ne_zero.mp (by assumption) | lia)
  k_with "m pyIter ref" => case' fresh => (k_here; k_dflt (refine' hold ?_))
  k_with "m exec For Name Call cons nil" => case' fresh => (k_here; (rename Fr _ _ _ _ => lF'k); (with_unfolding_all refine' For_turns lF'k ?_); k_whole)
  k_with "m exec For Tuple Tuple cons nil" => case' fresh => (k_here; (rename Fr _ _ _ _ => lF'k); (with_unfolding_all refine' For_turns lF'k ?_); k_whole)
  k_with "m binaryOp Mod int int" => case' fresh => (k_here; k_dflt (refine' mod_g ?k1 ?_; (case k1 => first | decide | lia); k_whole); intro _ _ _ r1'k; (try dsimp only at r1'k); (revert r1'k; intro _); (try dsimp only))
  k_with "m subscriptTail Name Constant ref int" => case' fresh => (k_here; k_dflt (refine' idxT ?N ?m ?a ?b ?d ?_ ?s; (case N => k_asm); (case m => k_mem); (case a | b => first | decide | lia); (case d => first | exact rfl | assumption); (case s => with_unfolding_all rfl); k_whole))
  k_with "m subscriptTail Subscript Constant ref int" => case' fresh => (k_here; k_dflt (refine' idxT ?N ?m ?a ?b ?d ?_ ?s; (case N => k_asm); (case m => k_mem); (case a | b => first | decide | lia); (case d => first | exact rfl | assumption); (case s => with_unfolding_all rfl); k_whole))
  k_with "m subscriptTail Subscript Name ref int" => case' fresh => (k_here; k_dflt (refine' idxT ?N ?m ?a ?b ?d ?_ ?s; (case N => k_asm); (case m => k_mem); (case a | b => first | decide | lia); (case d => first | exact rfl | assumption); (case s => with_unfolding_all rfl); k_whole))
  k_with "m subscriptTail Name Name ref int" => case' fresh => (k_here; k_dflt (refine' idxT ?N ?m ?a ?b ?d ?_ ?s; (case N => k_asm); (case m => k_mem); (case a | b => first | decide | lia); (case d => first | exact rfl | assumption); (case s => with_unfolding_all rfl); k_whole))
  k_with "m subscriptTail Name Constant ref int" => case' fresh => (k_here; k_dflt (refine' idxL ?N ?m ?a ?b ?d ?_ ?s; (case N => k_asm); (case m => k_mem); (case a | b => first | decide | lia); (case d => first | exact rfl | assumption); (case s => with_unfolding_all rfl); k_whole))
  k_with "m subscriptTail Subscript Constant ref int" => case' fresh => (k_here; k_dflt (refine' idxL ?N ?m ?a ?b ?d ?_ ?s; (case N => k_asm); (case m => k_mem); (case a | b => first | decide | lia); (case d => first | exact rfl | assumption); (case s => with_unfolding_all rfl); k_whole))
  k_with "m subscriptTail Subscript Name ref int" => case' fresh => (k_here; k_dflt (refine' idxL ?N ?m ?a ?b ?d ?_ ?s; (case N => k_asm); (case m => k_mem); (case a | b => first | decide | lia); (case d => first | exact rfl | assumption); (case s => with_unfolding_all rfl); k_whole))
  k_with "m subscriptTail Name Name ref int" => case' fresh => (k_here; k_dflt (refine' idxL ?N ?m ?a ?b ?d ?_ ?s; (case N => k_asm); (case m => k_mem); (case a | b => first | decide | lia); (case d => first | exact rfl | assumption); (case s => with_unfolding_all rfl); k_whole))
  k_with "m subscriptTail Name Name ref int" => case' fresh => (k_here; k_dflt (refine' idx_push ?N ?m ?a ?b ?_ ?s; (case N => k_asm); (case m => k_mem); (case a => first | rfl | lia); (case b => lia); (case s => with_unfolding_all rfl); k_whole))
  k_with "m subscriptTail Tuple Name ref int" => case' fresh => (k_here; k_dflt (refine' idx3 ?N ?m ?a ?b ?_ ?s; (case N => k_asm); (case m => k_mem); (case a | b => lia); (case s => with_unfolding_all rfl); k_whole); intro _ _)
  k_with "m assign Tuple" => case' fresh => (k_here; k_dflt (refine' unpackN_ ?F ?N ?T ?k1 ?k2 ?k3 ?_; (case F | N => k_asm); (case T => refine News.isTup (by k_asm) (by k_mem)); (case k1 | k2 | k3 => exact rfl)); intro _ _ _; (try k_sweep))
  exact trivial
theorem calm_HB4 : True := by
  w_top off
  exact trivial
open PySem.W
theorem c_enter {w : World} {p : Program} {loose : List Str} {mean : ExcName → Option Value} {mg mb : Str → Option Value} {dp un : Nat} {gd : Option (List Code)} {outer : List Env} {s : Shared}
    {R : Result → Shared → Prop} {name qual : Str} {params : Arguments} {body : List Stmt} {scope : Scope} {dV kV doc pm cdv ct oc : Value} {an od : Option Addr} {osl : Array (Option Value)} {f : Addr} {args : Args} {binds : List (Str × Value)}
    (X : (nk.heap_1 w.params).In s.heap) (T : Top p loose mean mg mb s.heap)
    (ho : (nk.heap_1 w.params).lookup f = some ⟨oc, od, .func (fnOf name qual params body scope dV kV doc pm an cdv ct), osl⟩) (hcd : codeIn (nk.heap_1 w.params) cdv qual = true) (hroom : dp < recursionLimit)
    (hbind : BindsTo s (fnOf name qual params body scope dV kV doc pm an cdv ct) args binds)
    (hkind : (binds.all fun y => scope.names.lookup y.1 == some .local || scope.names.lookup y.1 == some .cell) = true)
    (hnd : ((cellsFrom 0 scope.names []).map (·.1)).Nodup)
    (h : ∀ L' h₁ tk cells, Fr s.heap L' h₁ (bindL (envOfC qual scope L' f cdv).kindOf binds fun _ => none) → News s.heap L' h₁ cells →
      CellsAre (bindC (envOfC qual scope L' f cdv).kindOf binds fun _ => none) (cellsFrom (L' + 1) scope.names []) cells →
      wpAny (MM w) ((TopA dp un gd outer).deeper (envOfC qual scope L' f cdv)) (execs body (envOfC qual scope L' f cdv))
        (fun fl s' => R (.ok (.ret (match fl with | .ret v => v | _ => .none))) s')
        (fun e s' => wpAny (MM w) ((TopA dp un gd outer).deeper (envOfC qual scope L' f cdv)) (leaving (envOfC qual scope L' f cdv) e) (fun _ s'' => R (.error e) s'') (fun e' s'' => R (.error e') s'') s')
        { s with heap := h₁, toks := tk })
    (hco : scope.isCoroutine = false) (hgen : scope.isGenerator = false) (hk : scope.kind = .function) : codeAny (MM w) (TopA dp un gd outer) (.call (.ref f) args) R s := by
  refine codeAny_call_function (fd := fnOf name qual params body scope dV kV doc pm an cdv ct) (body := body) hroom (X _ _ ho) rfl hco hgen rfl (codeRec_of X hcd) (hbind _ _ _ _ ?_)
  refine wpAny_newFunctionEnv_cells hk (kindsX hkind _) fun env' he s' x => ?_
  subst he
  refine ⟨T.nolimit.keeps x.toInCall.keep, codeAny_func ?_⟩
  obtain ⟨h₁, tk, rfl, _⟩ := x.done
  have hk₁ := x.toInCall.keep
  obtain ⟨cells, NC, Y⟩ := Cl.news (h₀ := s.heap) (Nat.le_refl _) fun n c hm => ⟨x.cell n c (lookup_of_mem_nodup (cellsFrom_names scope.names 0 (s.heap.objs.size + 1) [] [] rfl ▸ hnd) hm), x.above n c hm⟩
  exact h s.heap.objs.size h₁ tk cells ⟨x.toInCall.ns, fun b o e => hk₁ b o e, Nat.le_refl _⟩ NC Y
local macro_rules | `(tactic| k_inst) => `(tactic| (refine' inst_base ?F ?a ?b; (case F => k_asm); (case a | b => assumption)))
theorem words_10 : True := by
  k_with "m call ref" => case' fresh => (k_here; (with_reducible show wpAny _ _ (call (Value.ref 132) _ _) _ _ _); k_dflt (refine' conv_D ?a1 ?k1 ?k2 ?k3 ?k4 ?k5 rfl rfl nofun rfl ?ka ?kb ?_; (case a1 => assumption); (case k1 => k_asm); (case k2 | k3 => with_reducible assumption); (case k4 | k5 => k_asm); (case ka | kb => walk_at "m_un")); intro _ _ _ _ _; (try k_sweep))
  exact trivial
theorem nice_len {t : Str} (h : Nice t) : t.length ≤ 5592405 := Nat.le_trans h.1 (by decide)
theorem words_11 : True := by
  k_with "m call builtin:str.lower" => case' fresh => (k_here; k_dflt (refine' SCL.lower ?a ?_; (case a => exact nice_len (by assumption))); intro _)
  k_with "m eval ListComp" => case' fresh => (k_here; k_dflt (refine' hold ?_))
  k_with "m CompSrcT" => case' fresh => (k_here; k_dflt (refine' hold ?_))
  k_with "m CompEnd" => case' fresh => (k_dflt (refine' hold ?_))
  exact trivial
section
variable {prog : Program} {w : World} {A : Around} {E : Value → Shared → Prop} {s : Shared} {h₀ : Heap} {L : Addr} {m : Str → Option Value} {env : Env}
theorem compT_ind {ct elt : Expr} {x : Str} {scope : Scope} {cl : List (Str × Addr)} {S : List (Addr × Obj) → Prop} {P : Nat → Value → Prop} {Fin : List Value → List (Addr × Obj) → Prop} {n : Nat} {news : List (Addr × Obj)} (Inv : Nat → List Value → Prop)
    (step : ∀ k i ys, k + 1 + i = n → Inv i ys → (∀ ys', Inv (i + 1) ys' → LCt.CompRestT prog w A h₀ L m env ct elt x scope cl s S P Fin k (i + 1) ys' news) → LCt.CompRestT prog w A h₀ L m env ct elt x scope cl s S P Fin (k + 1) i ys news)
    (fin : ∀ ys, Inv n ys → Fin ys news) (h0 : Inv 0 []) : LCt.CompRestT prog w A h₀ L m env ct elt x scope cl s S P Fin n 0 [] news := by
  have key : ∀ k i ys, k + i = n → Inv i ys → LCt.CompRestT prog w A h₀ L m env ct elt x scope cl s S P Fin k i ys news := by
    intro k
    induction k with
    | zero => intro i ys hi hv; rw [Nat.zero_add] at hi; subst hi; exact fin ys hv
    | succ k ih => intro i ys hi hv; exact step k i ys hi hv fun ys' hv' => ih (i + 1) ys' (by lia) hv'
  exact key n 0 [] rfl h0
theorem compU_ind {elt : Expr} {x : Str} {scope : Scope} {cl : List (Str × Addr)} {S : List (Addr × Obj) → Prop} {P : Nat → Value → Prop} {Fin : List Value → List (Addr × Obj) → Prop} {n : Nat} {news : List (Addr × Obj)} (Inv : Nat → List Value → Prop)
    (step : ∀ k i ys, k + 1 + i = n → Inv i ys → (∀ ys', Inv (i + 1) ys' → LCg.CompRest prog w A h₀ L m env elt x scope cl s S P Fin k (i + 1) ys' news) → LCg.CompRest prog w A h₀ L m env elt x scope cl s S P Fin (k + 1) i ys news)
    (fin : ∀ ys, Inv n ys → Fin ys news) (h0 : Inv 0 []) : LCg.CompRest prog w A h₀ L m env elt x scope cl s S P Fin n 0 [] news := by
  have key : ∀ k i ys, k + i = n → Inv i ys → LCg.CompRest prog w A h₀ L m env elt x scope cl s S P Fin k i ys news := by
    intro k
    induction k with
    | zero => intro i ys hi hv; rw [Nat.zero_add] at hi; subst hi; exact fin ys hv
    | succ k ih => intro i ys hi hv; exact step k i ys hi hv fun ys' hv' => ih (i + 1) ys' (by omega) hv'
  exact key n 0 [] rfl h0
end
/-- the headers at hl -/
noncomputable def HdrAt (h : Heap) (hl : Addr) (hs : List (Addr × Str × Str)) (n : Nat) : Prop :=
  h.get? hl = some (listOf (hs.map fun p => Value.ref p.1).toArray n) ∧ ∀ p ∈ hs, ∃ u v, h.get? p.1 = some { cls := .type "tuple", data := .seq #[.str p.2.1 u, .str p.2.2 v] } ∧ Nice p.2.1
theorem all_c (w : World) (x dx hl : Addr) (u u1 : Tok) (nm : Str) (hs : List (Addr × Str × Str)) (n : Nat) (hn : Nice nm) (hlw : Nice (Txt.lower nm)) (hz : hs.length ≤ 32) :
    KCtr w 170 [.ref x, .str nm u1] [] (fun g => g.get? x = some (instObj 231 dx) ∧ g.get? dx = some (dictOf (hdrEs w u hl) 1) ∧ HdrAt g hl hs n)
      (fun v own => ∃ D l k, v = .ref D ∧ (D, listOf (PySem.strValues l).toArray k) ∈ own ∧ l.map (·.1) = (hs.filter fun p => Txt.lower p.2.1 == Txt.lower nm).map (·.2.2)) 2 16 := by
  intro p loose mean mg mb dp un gd outer A₀ base s Q E B X T hd hu hP hret
  obtain ⟨hx, hdx, hh⟩ := hP
  refine wpAny_call ?_
  refine c_enter X T (by k_is) (by k_is) (by lia) (BindsTo.of_eq rfl) rfl (by decide +kernel) ?_ rfl rfl rfl
  intro L h₁ tk cells F N Y
  k_cells Y
  try dsimp only
  try k_fold
  k_steps
  unfold Hold
  rename Fr _ _ _ _ => F9
  refine LCt.ListComp_T (F₀ := F9) rfl (by decide) rfl (by decide) rfl ?_
  k_steps
  unfold Hold
  rename Fr _ _ _ _ => F8
  rename News _ _ _ _ => N8
  have hhl := hh.1
  refine LCt.CompSrcT.base rfl F8 N8 ⟨_, hhl, rfl, _, rfl⟩ (by simp; exact Nat.le_trans hz (Nat.le_of_ble_eq_true rfl)) fun g9 => ?_
  clear F8 N8
  rename _ = Data.cell (some (Value.str (Txt.lower nm) _)) => dc
  refine compT_ind (fun i ys => ∃ l : List (Str × Tok), ys = PySem.strValues l ∧ l.map (·.1) = ((hs.take i).filter fun p => Txt.lower p.2.1 == Txt.lower nm).map (·.2.2)) (fun k i ys hi hinv ih => ?_) (fun ys hinv => ?_) ⟨[], rfl, rfl⟩
  · refine LCt.CompRestT.succ ?_
    intro v I oI C oC D m₂ h₂ tk₂ E₂ hv hC hx₂ F₂ N₂ off ne
    obtain ⟨l, rfl, hl2⟩ := hinv
    have hi' : i < hs.length := by simp at hi; lia
    obtain ⟨p, hp⟩ : ∃ p, hs[i]? = some p := ⟨_, List.getElem?_eq_getElem hi'⟩
    have hvp : v = .ref p.1 := by simp [hp] at hv; exact hv.symm
    subst hvp
    obtain ⟨pa, pn, pv⟩ := p
    obtain ⟨u5, v5, hpt, hpn⟩ := hh.2 _ (List.mem_of_getElem? hp)
    have hT : IsTup s.heap pa [Value.str pn u5, .str pv v5].toArray := ⟨_, hpt, rfl, _, rfl⟩
    have off0 := off
    simp only [LCg.Off3, and_true] at off
    dsimp only at hpn
    have htake : hs.take (i + 1) = hs.take i ++ [(pa, pn, pv)] := by rw [List.take_add_one, hp]; rfl
    k_steps
    · rename (Txt.lower pn == Txt.lower nm) = true => hc
      unfold Hold
      refine LCg.CompEnd.intro F₂ N₂ _ (fun p hp => hp) off0 (.inl ⟨_, hhl, rfl, _, rfl⟩) (ih _ ⟨l ++ [(pv, v5)], by simp [PySem.strValues], ?_⟩)
      rw [htake, List.filter_append, List.map_append, List.map_append, hl2]
      simp [hc]
    · rename (Txt.lower pn == Txt.lower nm) = false => hc
      unfold Hold
      refine LCg.CompEnd.intro F₂ N₂ _ (fun p hp => hp) off0 (.inl ⟨_, hhl, rfl, _, rfl⟩) (ih _ ⟨l, rfl, ?_⟩)
      rw [htake, List.filter_append, List.map_append, hl2]
      simp [hc]
  · obtain ⟨l, rfl, hl2⟩ := hinv
    k_steps
    rename Fr _ _ _ _ => F9
    rename News _ _ _ _ => N9
    refine hret _ _ _ [_] ⟨_, l, _, rfl, .head _, ?_⟩ F9.keep (List.forall_mem_singleton.mpr ⟨(N9 _ (.head _)).1, (N9 _ (.head _)).2.2⟩)
    rw [hl2, List.take_of_length_le (by simp)]
end

section
theorem words_12 : True := by
  k_with_none
  k_with "m p_enter" => case' fresh => (refine wpAny_call ?_; k_dflt (refine' p_enter ?k1 ?k3 ?k5 ?k6 ?k7 ?k8 ?k9 ?kB ?_ ?c2 ?c3 ?c4 ?c5; (case k1 | k3 | k5 => assumption); (case k6 | k7 => k_is); (case k8 => lia); (case k9 => first | exact BindsTo.of_eq rfl | exact binds_K (by k_in) rfl (by k_is) rfl rfl rfl); (case kB => exact locs rfl); (case c5 => decide); (case c2 | c3 | c4 => exact rfl); k_whole; intro _ _ _ _; (try dsimp only); (try k_fold)))
  k_with "m subscriptTail Name Constant ref int" => case' fresh => (k_here; k_dflt (refine' item_base ?F ?l ?a ?b ?d ?_; (case F => k_asm); (case l => with_reducible assumption); (case a | b => decide); (case d => exact rfl); k_whole))
  k_with "m subscriptTail Name Constant ref int" => case' fresh => (k_here; k_dflt (refine' tup_base ?F ?l ?a ?b ?j ?d ?_; (case F => k_asm); (case l => with_reducible assumption); (case a | b => decide); (case j | d => exact rfl); k_whole))
  k_with "m binaryOp Mult int int" => case' fresh => (k_dflt (refine' mul_smallL ?a ?b ?_; (case a | b => lia)))
  k_with "m binaryOp Mult int int" => case' fresh => (k_dflt (refine' mul_smallR ?a ?b ?_; (case a | b => lia)))
  k_with "m call builtin:max" => case' fresh => (k_here; (with_reducible show wpAny _ _ (call (Value.builtin "max") [Value.float _ _, Value.float _ _, Value.float _ _]) _ _ _); k_dflt (refine' max3_ex ?a ?b ?c ?d ?F ?N ?_; (case a | b | c => assumption); (case d => exact rfl); (case F | N => k_asm); intro _ _ _ _ _ _ hle'k F'k N'k; (try dsimp only at hle'k); (revert hle'k F'k N'k; intro _ _ _); (try k_sweep)))
  k_with "m call builtin:min" => case' fresh => (k_here; (with_reducible show wpAny _ _ (call (Value.builtin "min") [Value.float _ _, Value.float _ _, Value.float _ _]) _ _ _); k_dflt (refine' min3_ex ?a ?b ?c ?d ?F ?N ?_; (case a | b | c => assumption); (case d => exact rfl); (case F | N => k_asm); intro _ _ _ _ _ _ hle'k F'k N'k; (try dsimp only at hle'k); (revert hle'k F'k N'k; intro _ _ _); (try k_sweep)))
  k_with "m assign Tuple" => case' fresh => ((rename IntsAre _ _ => i9k); (rename (List.length _ = _) => e9k); (obtain ⟨a9, b9, c9, ta9, tb9, tc9, e8, e7⟩ := three_of i9k e9k); subst e8; subst e7; (walk_at "assign Tuple"))
  k_with "m call builtin:max" => case' fresh => (k_here; (with_reducible show wpAny _ _ (call (Value.builtin "max") (Value.int _ _ :: _)) _ _ _); k_dflt ((first | refine' max3_i ?d ?F ?N ?_ | refine' max2_i ?d ?F ?N ?_); (case d => exact rfl); (case F | N => k_asm); intro _ _ _ _ _; (try k_sweep)))
  k_with "m call builtin:min" => case' fresh => (k_here; (with_reducible show wpAny _ _ (call (Value.builtin "min") (Value.int _ _ :: _)) _ _ _); k_dflt ((first | refine' min3_i ?d ?F ?N ?_ | refine' min2_i ?d ?F ?N ?_); (case d => exact rfl); (case F | N => k_asm); intro _ _ _ _ _; (try k_sweep)))
  k_with "m ite" => case' fresh => (k_dflt (first | (refine' ite_eq_tt ?a ?b ?c ?_; (case a | b => assumption); (case c => lia)) | (refine' ite_eq_ff ?a ?b ?c ?_; (case a | b => assumption); (case c => lia))))
  k_with "m p_leaf" => case' fresh => (rename Fr _ _ _ _ => F9k; rename News _ _ _ _ => N9k; rename ∀ (_ : Value) (_ : Heap) (_ : Nat) (_ : List (Addr × Obj)), _ => hret9k; refine hret9k _ _ _ _ ?_ F9k.keep (fun q hq => ⟨(N9k q hq).1, (N9k q hq).2.2⟩))
  k_with "m execs cons" => case' fresh => (k_here; k_dflt (refine' gen_toks ?p ?_; (case p => first | with_reducible assumption | exact Nat.succ_pos _ | lia | (dsimp only; first | exact Nat.succ_pos _ | lia)); (intro _ _; (try dsimp only); refine wpAny_execs_cons ?_)))
  k_with "m p_toks" => case' fresh => (first | with_reducible assumption | exact Nat.succ_ne_zero _ | exact Nat.pos_iff_ne_zero.mp (by assumption) | exact tok_or3 (by assumption) (by assumption))
  k_with "m d_pos" => case' fresh => (first | with_reducible assumption | exact Nat.succ_pos _ | (dsimp only; first | exact Nat.succ_pos _ | omega) | omega)
  k_with "m l_bd" => case' fresh => (refine And.intro ?_ ?_ <;> (first | lia | l_bnd))
  k_with "m k_app" => case' fresh => (first | exact App.nil | (refine' App.cons ?pa; (case pa => walk_at "k_app")))
  k_with "m k_updN" => case' fresh => (first | exact UpdN.head | (refine' UpdN.tail ?pa; (case pa => walk_at "k_updN")))
  k_with "m k_part" => case' fresh => (first | exact Part.nil | (refine' Part.keep ?pa; (case pa => walk_at "k_part")) | (refine' Part.tmp ?pa; (case pa => walk_at "k_part")))
  k_with "m eval Name" => case' fresh => (k_here; k_dflt (refine' nameC ?N ?P ?Y ?c ?v ?_ ?a ?b ?d; (case Y => with_reducible assumption); (case b | a => exact rfl); (case N => k_asm); (case P => walk_at "k_app"); (case c | v => exact rfl); (case d => decide); k_whole))
  k_with "m eval Name" => case' fresh => (k_here; k_dflt (refine' nameX_L ?F ?v ?_ ?a ?b; (case F => k_asm); (case b | a | v => exact rfl); k_whole))
  k_with "m storeName" => case' fresh => (k_here; (with_reducible rename CellsAre _ _ _ => Y9k); (with_reducible rename NDup _ => D9k); k_dflt (refine' storeC ?F ?N D9k ?P Y9k ?c ?n ?_ ?a ?b; (case b | a => exact rfl); (case F | N => k_asm); (case P => walk_at "k_app"); (case c => exact rfl); (case n => exact lawCl_nd _); k_whole); intro _ _ _ N'k D'k Y'k; clear Y9k D9k; (try dsimp only [List.cons_append, List.nil_append] at N'k D'k); (revert N'k D'k Y'k; intro _ _ _); (try k_sweep))
  k_with "m storeName" => case' fresh => (k_here; k_dflt (refine' storeX_L ?F ?N ?_ ?a ?b; (case b | a => rfl); (case F | N => k_asm); k_whole); intro _ _ _; (try k_sweep))
  k_with "m newTuple" => case' fresh => (k_here; (with_reducible rename NDup _ => D9k); k_dflt (refine' newTup_D ?F ?N D9k ?_ ?z; (case F | N => k_asm); (case z => size_fits); k_whole); intro _ _ _ _ _; clear D9k; (try k_sweep))
  k_with "m newList" => case' fresh => (k_here; (with_reducible rename NDup _ => D9k); k_dflt (refine' newList_D ?F ?N D9k ?_ ?z; (case F | N => k_asm); (case z => size_fits); k_whole); intro _ _ _ _ _; clear D9k; (try k_sweep))
  k_with "m call builtin:list.append" => case' fresh => (k_here; (with_reducible rename NDup _ => D9k); k_dflt (refine' append_D ?F ?N D9k ?U ?_ ?z; (case F | N => k_asm); (case U => walk_at "k_updN"); (case z => first | size_fits | (simp only [Array.size_push] at *; lia)); k_whole); intro _ _ _ _; clear D9k; (try k_sweep))
  k_with "m call ref" => case' fresh => (k_here; (with_reducible show wpAny _ _ (call (Value.ref 242) _) _ _ _); (with_reducible rename NDup _ => D9k); k_dflt (refine' parts_D ?b0 ?b1 ?b2 ?k1 ?k2 ?k3 ?k4 ?k5 D9k rfl rfl nofun rfl ?ka ?kb ?kc ?_; (case b0 | b1 | b2 => walk_at "l_bd"); (case k1 => k_asm); (case k2 | k3 => with_reducible assumption); (case k4 | k5 => k_asm); (case ka | kb => walk_at "m_un"); (case kc => walk_at "d_pos")); intro _ _ _ _ _ _ _ _ _ _ _ _ _ _; clear D9k; (try k_sweep))
  k_with "m call ref" => case' fresh => (k_here; (with_reducible show wpAny _ _ (call (Value.ref 59) _) _ _ _); (with_reducible rename NDup _ => D9k); k_dflt (refine' h2r_D ?a1 ?a2 ?a3 ?b0 ?b1 ?b2 ?a4 ?k1 ?k2 ?k3 ?k4 ?k5 D9k rfl rfl nofun rfl ?ka ?kb ?kc ?_; (case a1 | a2 | a3 => assumption);(case b0 | b1 | b2 => walk_at "l_bd");(case a4 => walk_at "p_toks"); (case k1 => k_asm); (case k2 | k3 => with_reducible assumption); (case k4 | k5 => k_asm); (case ka | kb => walk_at "m_un"); (case kc => walk_at "d_pos")); intro _ _ _ _ _ _ _ _ _ _ _ _ _ _ _ _ _; clear D9k; (try k_sweep))
  k_with "m call ref" => case' fresh => (k_here; (with_reducible show wpAny _ _ (call (Value.ref 52) _) _ _ _); (with_reducible rename NDup _ => D9k); k_dflt (refine' r2h_D ?a1 ?a2 ?a3 ?b0 ?b1 ?b2 ?a4 ?k1 ?k2 ?k3 ?k4 ?k5 D9k rfl rfl nofun rfl ?ka ?kb ?kc ?_; (case a1 | a2 | a3 => assumption);(case b0 | b1 | b2 => walk_at "l_bd");(case a4 => assumption); (case k1 => k_asm); (case k2 | k3 => with_reducible assumption); (case k4 | k5 => k_asm); (case ka | kb => walk_at "m_un"); (case kc => walk_at "d_pos")); intro _ _ _ _ _ _ _ _ _ _ _ _ _ _ _ _ _; clear D9k; (try k_sweep))
  k_with "m m_un" => case' fresh => ((try simp only [depth_in1, depth_deeper, units_in1, units_deeper, Around.mark_units]); (try dsimp only); lia)
  k_with "m binaryOp Div int int" => case' fresh => (k_here; k_dflt (refine' div_by (g := 10) ?k1 ?k2 ?k3 ?k4 ?_; (case k1 | k2 => decide); (case k3 | k4 => first | lia | l_bnd); k_whole; intro _ _; (try dsimp only)))
  k_with "m binaryOp Div int int" => case' fresh => (k_here; k_dflt (refine' div_by (g := 2) ?k1 ?k2 ?k3 ?k4 ?_; (case k1 | k2 => decide); (case k3 | k4 => first | lia | l_bnd); k_whole; intro _ _; (try dsimp only)))
  k_with "m binaryOp Div int int" => case' fresh => (k_here; k_dflt (refine' div_by (g := 14) ?k1 ?k2 ?k3 ?k4 ?_; (case k1 | k2 => decide); (case k3 | k4 => first | lia | l_bnd); k_whole; intro _ _; (try dsimp only)))
  k_with "m call builtin:sum" => case' fresh => (k_here; k_dflt (refine' sum_pick ?k1 ?k2 ?k3 ?k5 ?_; (case k1 => exact rfl); (case k2 | k3 => k_asm); (case k5 => with_reducible assumption); k_whole; intro _ _ _ _ hle'k F'k N'k; (try dsimp only at hle'k); (revert hle'k F'k N'k; intro _ _ _); (with_reducible rename NDup _ => D9k); (have D'k := NDup.tail D9k); clear D9k; (revert D'k; intro _); (try k_sweep)))
  k_with "m binaryOp Mult float int" => case' fresh => (k_here; k_dflt (refine' mul_1024 ?a ?b ?_; (case a => assumption); (case b => walk_at "l_bd"); k_whole; intro _ _; (try dsimp only)))
  k_with "m call type:int" => case' fresh => (k_here; k_dflt (refine' int_f ?a ?b ?c ?_; (case a => exact rfl); (case b => assumption); (case c => lia); k_whole))
  k_with "m compareOp NotEq ref ref" => case' fresh => (k_here; k_dflt (refine' ne_tup ?F ?X ?N ?a ?b ?c1 ?c2 ?c3 ?c4 ?c5 ?c6 ?d1 ?d2 ?e ?_; (case F | X | N => k_asm); (case a | b => k_mem); (case c1 | c2 | c3 | c4 | c5 | c6 => assumption); (case d1 | d2 => walk_at "p_toks3"); (case e => walk_at "m_un"); k_whole))
  k_with "m p_toks3" => case' fresh => (first | with_reducible assumption | exact ⟨by walk_at "p_toks", by walk_at "p_toks", by walk_at "p_toks"⟩)
  k_with "m p_toks" => case' fresh => (first | with_reducible assumption | exact Nat.succ_ne_zero _ | exact Nat.pos_iff_ne_zero.mp (by assumption) | lia)
  k_with "m pyIter ref" => case' fresh => (k_here; k_dflt (refine' hold ?_))
  k_with "m exec For Name Call cons nil" => case' fresh => (k_here; (rename Fr _ _ _ _ => lF'k); (with_unfolding_all refine' For_turns lF'k ?_); k_whole)
  k_with "m exec For Tuple Tuple cons nil" => case' fresh => (k_here; (rename Fr _ _ _ _ => lF'k); (with_unfolding_all refine' For_turns lF'k ?_); k_whole)
  k_with "m binaryOp Mod int int" => case' fresh => (k_here; k_dflt (refine' mod_g ?k1 ?_; (case k1 => first | decide | lia); k_whole); intro _ _ _ r1'k; (try dsimp only at r1'k); (revert r1'k; intro _); (try dsimp only))
  k_with "m subscriptTail Name Constant ref int" => case' fresh => (k_here; k_dflt (refine' idxT ?N ?m ?a ?b ?d ?_ ?s; (case N => k_asm); (case m => k_mem); (case a | b => first | decide | lia); (case d => first | exact rfl | assumption); (case s => with_unfolding_all rfl); k_whole))
  k_with "m subscriptTail Subscript Constant ref int" => case' fresh => (k_here; k_dflt (refine' idxT ?N ?m ?a ?b ?d ?_ ?s; (case N => k_asm); (case m => k_mem); (case a | b => first | decide | lia); (case d => first | exact rfl | assumption); (case s => with_unfolding_all rfl); k_whole))
  k_with "m subscriptTail Subscript Name ref int" => case' fresh => (k_here; k_dflt (refine' idxT ?N ?m ?a ?b ?d ?_ ?s; (case N => k_asm); (case m => k_mem); (case a | b => first | decide | lia); (case d => first | exact rfl | assumption); (case s => with_unfolding_all rfl); k_whole))
  k_with "m subscriptTail Name Name ref int" => case' fresh => (k_here; k_dflt (refine' idxT ?N ?m ?a ?b ?d ?_ ?s; (case N => k_asm); (case m => k_mem); (case a | b => first | decide | lia); (case d => first | exact rfl | assumption); (case s => with_unfolding_all rfl); k_whole))
  k_with "m subscriptTail Name Constant ref int" => case' fresh => (k_here; k_dflt (refine' idxL ?N ?m ?a ?b ?d ?_ ?s; (case N => k_asm); (case m => k_mem); (case a | b => first | decide | lia); (case d => first | exact rfl | assumption); (case s => with_unfolding_all rfl); k_whole))
  k_with "m subscriptTail Subscript Constant ref int" => case' fresh => (k_here; k_dflt (refine' idxL ?N ?m ?a ?b ?d ?_ ?s; (case N => k_asm); (case m => k_mem); (case a | b => first | decide | lia); (case d => first | exact rfl | assumption); (case s => with_unfolding_all rfl); k_whole))
  k_with "m subscriptTail Subscript Name ref int" => case' fresh => (k_here; k_dflt (refine' idxL ?N ?m ?a ?b ?d ?_ ?s; (case N => k_asm); (case m => k_mem); (case a | b => first | decide | lia); (case d => first | exact rfl | assumption); (case s => with_unfolding_all rfl); k_whole))
  k_with "m subscriptTail Name Name ref int" => case' fresh => (k_here; k_dflt (refine' idxL ?N ?m ?a ?b ?d ?_ ?s; (case N => k_asm); (case m => k_mem); (case a | b => first | decide | lia); (case d => first | exact rfl | assumption); (case s => with_unfolding_all rfl); k_whole))
  k_with "m subscriptTail Name Name ref int" => case' fresh => (k_here; k_dflt (refine' idx_push ?N ?m ?a ?b ?_ ?s; (case N => k_asm); (case m => k_mem); (case a => first | rfl | lia); (case b => lia); (case s => with_unfolding_all rfl); k_whole))
  k_with "m subscriptTail Tuple Name ref int" => case' fresh => (k_here; k_dflt (refine' idx3 ?N ?m ?a ?b ?_ ?s; (case N => k_asm); (case m => k_mem); (case a | b => lia); (case s => with_unfolding_all rfl); k_whole); intro _ _)
  k_with "m assign Tuple" => case' fresh => (k_here; k_dflt (refine' unpackN_ ?F ?N ?T ?k1 ?k2 ?k3 ?_; (case F | N => k_asm); (case T => refine News.isTup (by k_asm) (by k_mem)); (case k1 | k2 | k3 => exact rfl)); intro _ _ _; (try k_sweep))
  exact trivial
theorem calm_PB1 : True := by
  w_top off
  exact trivial
open PySem.W
theorem nd_inst {news : List (Addr × Obj)} {x dx : Addr} {a b : Obj} (D : NDup news) (l1 : ∀ p ∈ news, p.1 < dx) (l2 : dx < x) : NDup ((x, a) :: (dx, b) :: news) :=
  NDup.cons (NDup.cons D fun p hp => Nat.ne_of_lt (l1 p hp)) fun p hp => by
    rcases List.mem_cons.mp hp with rfl | hp
    · exact Nat.ne_of_lt l2
    · exact Nat.ne_of_lt (Nat.lt_trans (l1 p hp) l2)
theorem UpdN.toUpd {d : Addr} {o o' : Obj} {l l' : List (Addr × Obj)} (U : UpdN d o o' l l') (N : NDup l) : Upd d o o' l l' := by
  induction U with
  | head => exact .head N.head
  | @tail p r r' U ih =>
    refine .tail ?_ (ih N.tail)
    obtain ⟨pre, post, rfl, rfl⟩ := U.split
    exact fun e => N.head (d, o) (List.mem_append.mpr (.inr (.head _))) e.symm
theorem nd_for {g h : Heap} {L : Addr} {l l' : List (Addr × Obj)} (_N : News g L h l') (D : NDup l) (e : l'.map (·.1) = l.map (·.1)) : NDup l' := D.of_map e
noncomputable def stB2 : { x : Stmt // lawSt 2 = x } := ⟨_, by conv => lhs; whnf⟩
noncomputable def stB3 : { x : Stmt // lawSt 3 = x } := ⟨_, by conv => lhs; whnf⟩
noncomputable def stB4 : { x : Stmt // lawSt 4 = x } := ⟨_, by conv => lhs; whnf⟩
noncomputable def stB5 : { x : Stmt // lawSt 5 = x } := ⟨_, by conv => lhs; whnf⟩
local macro_rules | `(tactic| k_upd) => `(tactic| (k_dflt (refine' UpdN.toUpd ?ua ?ub; (case ub => assumption); (case ua => walk_at "k_updN"))))
local macro_rules | `(tactic| k_room) => `(tactic| ((try simp only [depth_under_make, depth_under_kw, depth_in1, depth_deeper, depth_caller]); (try dsimp only); lia))
theorem words_13 : True := by
  k_with "m call ref" => case' fresh => (k_here; (with_reducible show wpAny _ _ (call (Value.ref 231) _ _) _ _ _); (with_reducible rename NDup _ => D9k); k_dflt (refine' call_cls ?k1 ?k2 ?k3 ?k4 ?k5 ?k6 ?_; (case k1 | k2 | k3 => k_asm); (case k4 | k5 | k6 => k_is); k_whole); intro _ d'k _ _ _ l1k l2k; (have D'k := nd_inst (a := instObj 231 d'k) (b := dictOf [] 0) D9k l1k l2k); clear D9k l1k l2k; (revert D'k; intro _); (try k_sweep); k_dflt k_enter)
  k_with "m exec For Tuple Name cons nil" => case' fresh => (k_here; (rename Fr _ _ _ _ => lF'k); (with_unfolding_all refine' For_turns lF'k ?_); k_whole)
  exact trivial
theorem phB2 
    (B : Below A₀ base outer g) (X : (nk.heap_1 w.params).In g) (T : Top p loose mean mg mb g) (hd : dp + 8 < recursionLimit) (hu : un + 64 < cLine)
    {m cm : Str → Option Value} {bo : Addr} {cells frz : List (Addr × Obj)} {s : Shared} {R : Flow → Shared → Prop}
    (F : Fr g L s.heap m) (hm : AtL m [("boxes", .ref bo)])
    (N : News g L s.heap (cells ++ frz)) (D : NDup (cells ++ frz))
    (Y : CellsAre cm (lawCl L) cells)
    (done : ∀ h' tk m' cm' cells' tmp x dx hl u n, Fr g L h' m' → AtL m' [("boxes", .ref bo)] →
      News g L h' ((hl, listOf #[] n) :: (cells' ++ (tmp ++ frz))) → NDup ((hl, listOf #[] n) :: (cells' ++ (tmp ++ frz))) →
      CellsAre cm' (lawCl L) cells' → AtL cm' [("told", .ref x)] → (x, instObj 231 dx) ∈ tmp → (dx, dictOf (hdrEs w u hl) 1) ∈ tmp → R .next { s with heap := h', toks := tk }) :
    wpAny (MM w) ((TopA dp un gd outer).deeper (lawEnv L fa cd)) (exec stB2.1 (lawEnv L fa cd)) R (fun _ _ => False) s := by
  rw [← kst_at hm] at F
  unfold stB2
  dsimp only
  k_steps
  unfold Hold
  rename Fr _ _ _ _ => F9
  rename News _ _ _ _ => N9
  refine iter_listTurns (vs := []) (n := 0) rfl F9 N9 (by k_mem) rfl rfl fun I l1 => ItemsRest.zero fun h' tk' F' N' => ?_
  clear F9 N9
  k_steps
  rename News _ _ _ _ => N9
  rename NDup _ => D9
  have D2 := nd_for N9 D9 rfl
  clear D9
  k_steps
  rename Fr _ _ _ _ => F8
  rename News _ _ _ _ => N8
  rename NDup _ => D8
  rename CellsAre _ _ _ => Y8
  obtain ⟨N7, D7⟩ := refreeze (keep := [(_, listOf #[] 0)]) (by walk_at "k_app") (by walk_at "k_part") N8 D8
  exact done _ _ _ _ _ _ _ _ _ _ _ F8 ⟨rfl, trivial⟩ N7 D7 Y8 ⟨rfl, trivial⟩ (by k_mem) (by k_mem)
end

section
theorem words_14 : True := by
  k_with_none
  k_with "m p_enter" => case' fresh => (refine wpAny_call ?_; k_dflt (refine' p_enter ?k1 ?k3 ?k5 ?k6 ?k7 ?k8 ?k9 ?kB ?_ ?c2 ?c3 ?c4 ?c5; (case k1 | k3 | k5 => assumption); (case k6 | k7 => k_is); (case k8 => lia); (case k9 => first | exact BindsTo.of_eq rfl | exact binds_K (by k_in) rfl (by k_is) rfl rfl rfl); (case kB => exact locs rfl); (case c5 => decide); (case c2 | c3 | c4 => exact rfl); k_whole; intro _ _ _ _; (try dsimp only); (try k_fold)))
  k_with "m subscriptTail Name Constant ref int" => case' fresh => (k_here; k_dflt (refine' item_base ?F ?l ?a ?b ?d ?_; (case F => k_asm); (case l => with_reducible assumption); (case a | b => decide); (case d => exact rfl); k_whole))
  k_with "m subscriptTail Name Constant ref int" => case' fresh => (k_here; k_dflt (refine' tup_base ?F ?l ?a ?b ?j ?d ?_; (case F => k_asm); (case l => with_reducible assumption); (case a | b => decide); (case j | d => exact rfl); k_whole))
  k_with "m binaryOp Mult int int" => case' fresh => (k_dflt (refine' mul_smallL ?a ?b ?_; (case a | b => lia)))
  k_with "m binaryOp Mult int int" => case' fresh => (k_dflt (refine' mul_smallR ?a ?b ?_; (case a | b => lia)))
  k_with "m call builtin:max" => case' fresh => (k_here; (with_reducible show wpAny _ _ (call (Value.builtin "max") [Value.float _ _, Value.float _ _, Value.float _ _]) _ _ _); k_dflt (refine' max3_ex ?a ?b ?c ?d ?F ?N ?_; (case a | b | c => assumption); (case d => exact rfl); (case F | N => k_asm); intro _ _ _ _ _ _ hle'k F'k N'k; (try dsimp only at hle'k); (revert hle'k F'k N'k; intro _ _ _); (try k_sweep)))
  k_with "m call builtin:min" => case' fresh => (k_here; (with_reducible show wpAny _ _ (call (Value.builtin "min") [Value.float _ _, Value.float _ _, Value.float _ _]) _ _ _); k_dflt (refine' min3_ex ?a ?b ?c ?d ?F ?N ?_; (case a | b | c => assumption); (case d => exact rfl); (case F | N => k_asm); intro _ _ _ _ _ _ hle'k F'k N'k; (try dsimp only at hle'k); (revert hle'k F'k N'k; intro _ _ _); (try k_sweep)))
  k_with "m assign Tuple" => case' fresh => ((rename IntsAre _ _ => i9k); (rename (List.length _ = _) => e9k); (obtain ⟨a9, b9, c9, ta9, tb9, tc9, e8, e7⟩ := three_of i9k e9k); subst e8; subst e7; (walk_at "assign Tuple"))
  k_with "m call builtin:max" => case' fresh => (k_here; (with_reducible show wpAny _ _ (call (Value.builtin "max") (Value.int _ _ :: _)) _ _ _); k_dflt ((first | refine' max3_i ?d ?F ?N ?_ | refine' max2_i ?d ?F ?N ?_); (case d => exact rfl); (case F | N => k_asm); intro _ _ _ _ _; (try k_sweep)))
  k_with "m call builtin:min" => case' fresh => (k_here; (with_reducible show wpAny _ _ (call (Value.builtin "min") (Value.int _ _ :: _)) _ _ _); k_dflt ((first | refine' min3_i ?d ?F ?N ?_ | refine' min2_i ?d ?F ?N ?_); (case d => exact rfl); (case F | N => k_asm); intro _ _ _ _ _; (try k_sweep)))
  k_with "m ite" => case' fresh => (k_dflt (first | (refine' ite_eq_tt ?a ?b ?c ?_; (case a | b => assumption); (case c => lia)) | (refine' ite_eq_ff ?a ?b ?c ?_; (case a | b => assumption); (case c => lia))))
  k_with "m p_leaf" => case' fresh => (rename Fr _ _ _ _ => F9k; rename News _ _ _ _ => N9k; rename ∀ (_ : Value) (_ : Heap) (_ : Nat) (_ : List (Addr × Obj)), _ => hret9k; refine hret9k _ _ _ _ ?_ F9k.keep (fun q hq => ⟨(N9k q hq).1, (N9k q hq).2.2⟩))
  k_with "m execs cons" => case' fresh => (k_here; k_dflt (refine' gen_toks ?p ?_; (case p => first | with_reducible assumption | exact Nat.succ_pos _ | lia | (dsimp only; first | exact Nat.succ_pos _ | lia)); (intro _ _; (try dsimp only); refine wpAny_execs_cons ?_)))
  k_with "m p_toks" => case' fresh => (first | with_reducible assumption | exact Nat.succ_ne_zero _ | exact Nat.pos_iff_ne_zero.mp (by assumption) | exact tok_or3 (by assumption) (by assumption))
  k_with "m d_pos" => case' fresh => (first | with_reducible assumption | exact Nat.succ_pos _ | (dsimp only; first | exact Nat.succ_pos _ | omega) | omega)
  k_with "m l_bd" => case' fresh => (refine And.intro ?_ ?_ <;> (first | lia | l_bnd))
  k_with "m k_app" => case' fresh => (first | exact App.nil | (refine' App.cons ?pa; (case pa => walk_at "k_app")))
  k_with "m k_updN" => case' fresh => (first | exact UpdN.head | (refine' UpdN.tail ?pa; (case pa => walk_at "k_updN")))
  k_with "m k_part" => case' fresh => (first | exact Part.nil | (refine' Part.keep ?pa; (case pa => walk_at "k_part")) | (refine' Part.tmp ?pa; (case pa => walk_at "k_part")))
  k_with "m eval Name" => case' fresh => (k_here; k_dflt (refine' nameC ?N ?P ?Y ?c ?v ?_ ?a ?b ?d; (case Y => with_reducible assumption); (case b | a => exact rfl); (case N => k_asm); (case P => walk_at "k_app"); (case c | v => exact rfl); (case d => decide); k_whole))
  k_with "m eval Name" => case' fresh => (k_here; k_dflt (refine' nameX_L ?F ?v ?_ ?a ?b; (case F => k_asm); (case b | a | v => exact rfl); k_whole))
  k_with "m storeName" => case' fresh => (k_here; (with_reducible rename CellsAre _ _ _ => Y9k); (with_reducible rename NDup _ => D9k); k_dflt (refine' storeC ?F ?N D9k ?P Y9k ?c ?n ?_ ?a ?b; (case b | a => exact rfl); (case F | N => k_asm); (case P => walk_at "k_app"); (case c => exact rfl); (case n => exact lawCl_nd _); k_whole); intro _ _ _ N'k D'k Y'k; clear Y9k D9k; (try dsimp only [List.cons_append, List.nil_append] at N'k D'k); (revert N'k D'k Y'k; intro _ _ _); (try k_sweep))
  k_with "m storeName" => case' fresh => (k_here; k_dflt (refine' storeX_L ?F ?N ?_ ?a ?b; (case b | a => rfl); (case F | N => k_asm); k_whole); intro _ _ _; (try k_sweep))
  k_with "m newTuple" => case' fresh => (k_here; (with_reducible rename NDup _ => D9k); k_dflt (refine' newTup_D ?F ?N D9k ?_ ?z; (case F | N => k_asm); (case z => size_fits); k_whole); intro _ _ _ _ _; clear D9k; (try k_sweep))
  k_with "m newList" => case' fresh => (k_here; (with_reducible rename NDup _ => D9k); k_dflt (refine' newList_D ?F ?N D9k ?_ ?z; (case F | N => k_asm); (case z => size_fits); k_whole); intro _ _ _ _ _; clear D9k; (try k_sweep))
  k_with "m call builtin:list.append" => case' fresh => (k_here; (with_reducible rename NDup _ => D9k); k_dflt (refine' append_D ?F ?N D9k ?U ?_ ?z; (case F | N => k_asm); (case U => walk_at "k_updN"); (case z => first | size_fits | (simp only [Array.size_push] at *; lia)); k_whole); intro _ _ _ _; clear D9k; (try k_sweep))
  k_with "m call ref" => case' fresh => (k_here; (with_reducible show wpAny _ _ (call (Value.ref 242) _) _ _ _); (with_reducible rename NDup _ => D9k); k_dflt (refine' parts_D ?b0 ?b1 ?b2 ?k1 ?k2 ?k3 ?k4 ?k5 D9k rfl rfl nofun rfl ?ka ?kb ?kc ?_; (case b0 | b1 | b2 => walk_at "l_bd"); (case k1 => k_asm); (case k2 | k3 => with_reducible assumption); (case k4 | k5 => k_asm); (case ka | kb => walk_at "m_un"); (case kc => walk_at "d_pos")); intro _ _ _ _ _ _ _ _ _ _ _ _ _ _; clear D9k; (try k_sweep))
  k_with "m call ref" => case' fresh => (k_here; (with_reducible show wpAny _ _ (call (Value.ref 59) _) _ _ _); (with_reducible rename NDup _ => D9k); k_dflt (refine' h2r_D ?a1 ?a2 ?a3 ?b0 ?b1 ?b2 ?a4 ?k1 ?k2 ?k3 ?k4 ?k5 D9k rfl rfl nofun rfl ?ka ?kb ?kc ?_; (case a1 | a2 | a3 => assumption);(case b0 | b1 | b2 => walk_at "l_bd");(case a4 => walk_at "p_toks"); (case k1 => k_asm); (case k2 | k3 => with_reducible assumption); (case k4 | k5 => k_asm); (case ka | kb => walk_at "m_un"); (case kc => walk_at "d_pos")); intro _ _ _ _ _ _ _ _ _ _ _ _ _ _ _ _ _; clear D9k; (try k_sweep))
  k_with "m call ref" => case' fresh => (k_here; (with_reducible show wpAny _ _ (call (Value.ref 52) _) _ _ _); (with_reducible rename NDup _ => D9k); k_dflt (refine' r2h_D ?a1 ?a2 ?a3 ?b0 ?b1 ?b2 ?a4 ?k1 ?k2 ?k3 ?k4 ?k5 D9k rfl rfl nofun rfl ?ka ?kb ?kc ?_; (case a1 | a2 | a3 => assumption);(case b0 | b1 | b2 => walk_at "l_bd");(case a4 => assumption); (case k1 => k_asm); (case k2 | k3 => with_reducible assumption); (case k4 | k5 => k_asm); (case ka | kb => walk_at "m_un"); (case kc => walk_at "d_pos")); intro _ _ _ _ _ _ _ _ _ _ _ _ _ _ _ _ _; clear D9k; (try k_sweep))
  k_with "m m_un" => case' fresh => ((try simp only [depth_in1, depth_deeper, units_in1, units_deeper, Around.mark_units]); (try dsimp only); lia)
  k_with "m binaryOp Div int int" => case' fresh => (k_here; k_dflt (refine' div_by (g := 10) ?k1 ?k2 ?k3 ?k4 ?_; (case k1 | k2 => decide); (case k3 | k4 => first | lia | l_bnd); k_whole; intro _ _; (try dsimp only)))
  k_with "m binaryOp Div int int" => case' fresh => (k_here; k_dflt (refine' div_by (g := 2) ?k1 ?k2 ?k3 ?k4 ?_; (case k1 | k2 => decide); (case k3 | k4 => first | lia | l_bnd); k_whole; intro _ _; (try dsimp only)))
  k_with "m binaryOp Div int int" => case' fresh => (k_here; k_dflt (refine' div_by (g := 14) ?k1 ?k2 ?k3 ?k4 ?_; (case k1 | k2 => decide); (case k3 | k4 => first | lia | l_bnd); k_whole; intro _ _; (try dsimp only)))
  k_with "m call builtin:sum" => case' fresh => (k_here; k_dflt (refine' sum_pick ?k1 ?k2 ?k3 ?k5 ?_; (case k1 => exact rfl); (case k2 | k3 => k_asm); (case k5 => with_reducible assumption); k_whole; intro _ _ _ _ hle'k F'k N'k; (try dsimp only at hle'k); (revert hle'k F'k N'k; intro _ _ _); (with_reducible rename NDup _ => D9k); (have D'k := NDup.tail D9k); clear D9k; (revert D'k; intro _); (try k_sweep)))
  k_with "m binaryOp Mult float int" => case' fresh => (k_here; k_dflt (refine' mul_1024 ?a ?b ?_; (case a => assumption); (case b => walk_at "l_bd"); k_whole; intro _ _; (try dsimp only)))
  k_with "m call type:int" => case' fresh => (k_here; k_dflt (refine' int_f ?a ?b ?c ?_; (case a => exact rfl); (case b => assumption); (case c => lia); k_whole))
  k_with "m compareOp NotEq ref ref" => case' fresh => (k_here; k_dflt (refine' ne_tup ?F ?X ?N ?a ?b ?c1 ?c2 ?c3 ?c4 ?c5 ?c6 ?d1 ?d2 ?e ?_; (case F | X | N => k_asm); (case a | b => k_mem); (case c1 | c2 | c3 | c4 | c5 | c6 => assumption); (case d1 | d2 => walk_at "p_toks3"); (case e => walk_at "m_un"); k_whole))
  k_with "m p_toks3" => case' fresh => (first | with_reducible assumption | exact ⟨by walk_at "p_toks", by walk_at "p_toks", by walk_at "p_toks"⟩)
  k_with "m p_toks" => case' fresh => (first | with_reducible assumption | exact Nat.succ_ne_zero _ | exact Nat.pos_iff_ne_zero.mp (by assumption) | lia)
  k_with "m pyIter ref" => case' fresh => (k_here; k_dflt (refine' hold ?_))
  k_with "m exec For Name Call cons nil" => case' fresh => (k_here; (rename Fr _ _ _ _ => lF'k); (with_unfolding_all refine' For_turns lF'k ?_); k_whole)
  k_with "m exec For Tuple Tuple cons nil" => case' fresh => (k_here; (rename Fr _ _ _ _ => lF'k); (with_unfolding_all refine' For_turns lF'k ?_); k_whole)
  k_with "m binaryOp Mod int int" => case' fresh => (k_here; k_dflt (refine' mod_g ?k1 ?_; (case k1 => first | decide | lia); k_whole); intro _ _ _ r1'k; (try dsimp only at r1'k); (revert r1'k; intro _); (try dsimp only))
  k_with "m subscriptTail Name Constant ref int" => case' fresh => (k_here; k_dflt (refine' idxT ?N ?m ?a ?b ?d ?_ ?s; (case N => k_asm); (case m => k_mem); (case a | b => first | decide | lia); (case d => first | exact rfl | assumption); (case s => with_unfolding_all rfl); k_whole))
  k_with "m subscriptTail Subscript Constant ref int" => case' fresh => (k_here; k_dflt (refine' idxT ?N ?m ?a ?b ?d ?_ ?s; (case N => k_asm); (case m => k_mem); (case a | b => first | decide | lia); (case d => first | exact rfl | assumption); (case s => with_unfolding_all rfl); k_whole))
  k_with "m subscriptTail Subscript Name ref int" => case' fresh => (k_here; k_dflt (refine' idxT ?N ?m ?a ?b ?d ?_ ?s; (case N => k_asm); (case m => k_mem); (case a | b => first | decide | lia); (case d => first | exact rfl | assumption); (case s => with_unfolding_all rfl); k_whole))
  k_with "m subscriptTail Name Name ref int" => case' fresh => (k_here; k_dflt (refine' idxT ?N ?m ?a ?b ?d ?_ ?s; (case N => k_asm); (case m => k_mem); (case a | b => first | decide | lia); (case d => first | exact rfl | assumption); (case s => with_unfolding_all rfl); k_whole))
  k_with "m subscriptTail Name Constant ref int" => case' fresh => (k_here; k_dflt (refine' idxL ?N ?m ?a ?b ?d ?_ ?s; (case N => k_asm); (case m => k_mem); (case a | b => first | decide | lia); (case d => first | exact rfl | assumption); (case s => with_unfolding_all rfl); k_whole))
  k_with "m subscriptTail Subscript Constant ref int" => case' fresh => (k_here; k_dflt (refine' idxL ?N ?m ?a ?b ?d ?_ ?s; (case N => k_asm); (case m => k_mem); (case a | b => first | decide | lia); (case d => first | exact rfl | assumption); (case s => with_unfolding_all rfl); k_whole))
  k_with "m subscriptTail Subscript Name ref int" => case' fresh => (k_here; k_dflt (refine' idxL ?N ?m ?a ?b ?d ?_ ?s; (case N => k_asm); (case m => k_mem); (case a | b => first | decide | lia); (case d => first | exact rfl | assumption); (case s => with_unfolding_all rfl); k_whole))
  k_with "m subscriptTail Name Name ref int" => case' fresh => (k_here; k_dflt (refine' idxL ?N ?m ?a ?b ?d ?_ ?s; (case N => k_asm); (case m => k_mem); (case a | b => first | decide | lia); (case d => first | exact rfl | assumption); (case s => with_unfolding_all rfl); k_whole))
  k_with "m subscriptTail Name Name ref int" => case' fresh => (k_here; k_dflt (refine' idx_push ?N ?m ?a ?b ?_ ?s; (case N => k_asm); (case m => k_mem); (case a => first | rfl | lia); (case b => lia); (case s => with_unfolding_all rfl); k_whole))
  k_with "m subscriptTail Tuple Name ref int" => case' fresh => (k_here; k_dflt (refine' idx3 ?N ?m ?a ?b ?_ ?s; (case N => k_asm); (case m => k_mem); (case a | b => lia); (case s => with_unfolding_all rfl); k_whole); intro _ _)
  k_with "m assign Tuple" => case' fresh => (k_here; k_dflt (refine' unpackN_ ?F ?N ?T ?k1 ?k2 ?k3 ?_; (case F | N => k_asm); (case T => refine News.isTup (by k_asm) (by k_mem)); (case k1 | k2 | k3 => exact rfl)); intro _ _ _; (try k_sweep))
  exact trivial
theorem calm_PB2 : True := by
  w_top off
  exact trivial
open PySem.W
theorem o_callD {w : World} {f ha : Addr} {vs : List Value} {oh : Obj} {P : Heap → Prop} {post : Value → Obj → List (Addr × Obj) → Prop} {lv un0 : Nat} (C : OCtr w f ha vs oh P post lv un0)
    {p : Program} {loose : List Str} {mean : ExcName → Option Value} {mg mb : Str → Option Value} {A A₀ : Around} {outer : List Env} {base g : Heap} {s : Shared} {L : Addr} {m : Str → Option Value} {env : Env} {pre suf : List (Addr × Obj)} {Q E : Value → Shared → Prop}
    (B : Below A₀ base outer g) (X : (nk.heap_1 w.params).In g) (T : Top p loose mean mg mb g) (F : Fr g L s.heap m) (N : News g L s.heap (pre ++ (ha, oh) :: suf)) (D : NDup (pre ++ (ha, oh) :: suf)) (hh : A.handled = none) (hA : A.frames = some (env :: outer)) (hk : env.scope.kind ≠ .module) (hf : env.frame = some L)
    (hdp : A.depth + lv < recursionLimit) (hun : A.units + un0 < cLine) (htk : 0 < s.toks) (hP : P (s.heap.hide ha))
    (h : ∀ v h' tk' oh' own, post v oh' own → 0 < tk' → Fr g L h' m → News g L h' (own ++ (pre ++ (ha, oh') :: suf)) → (∀ q ∈ own, ∀ p ∈ pre ++ (ha, oh) :: suf, p.1 ≠ q.1) → Q v { s with heap := h', toks := tk' }) :
    wpAny (MM w) A (call (.ref f) vs) Q E s := by
  have z := N (ha, oh) (List.mem_append.mpr (.inr (.head _)))
  have st : g.StaysIn (s.heap.hide ha) := fun b o e => (Heap.hide_ne _ (fun q : b = ha => by rw [q, z.2.2] at e; cases e)).trans (F.keep b o e)
  obtain ⟨a1, a2, a3, a4, a5⟩ := A
  dsimp only at hh hA hdp hun
  subst hh; subst hA
  refine with_toks (C p loose mean mg mb a2 a5 a4 (env :: outer) (TopA a2 a5 a4 (env :: outer)) base (s.heap.hide ha) s _ E (below_hide B F z.2.2 z.2.1 hk hf rfl) (X.keeps st) (T.keeps st) (fun b o e => Heap.of_hide e) (Heap.hide_self _ _) (Nat.le_of_eq (Heap.hide_size _ _)) z.1 hdp hun htk hP ?_)
  intro v h' tk' oh' own hp hst hg ho hle
  have hk' : ∀ b o, b ≠ ha → s.heap.get? b = some o → h'.get? b = some o := fun b o hb e => hst b o ((Heap.hide_ne _ hb).trans e)
  obtain ⟨oL, es, ep, hL, r⟩ := F.ns
  have ⟨d1, d2⟩ := D.split
  have fresh : ∀ q ∈ own, s.heap.get? q.1 = none := fun q hq => by
    have y := (ho q hq).2
    rw [Heap.hide_ne _ y.2] at y
    exact y.1
  refine h v h' tk' oh' own hp (Nat.lt_of_lt_of_le htk hle) ⟨⟨oL, es, ep, hk' _ _ z.2.1.symm hL, r⟩, fun b o e => hst b o (st b o e), F.above⟩ (fun q hq => ?_) fun q hq p hp' e => ?_
  · rcases List.mem_append.mp hq with hq | hq
    · refine ⟨(ho q hq).1, fun e => ?_, ?_⟩
      · have := fresh q hq; rw [e, hL] at this; cases this
      · cases e : g.get? q.1 with
        | none => rfl
        | some o => have y := F.keep _ _ e; rw [fresh q hq] at y; cases y
    · rcases List.mem_append.mp hq with hq | hq
      · have y := N q (List.mem_append.mpr (.inl hq)); exact ⟨hk' _ _ (d1 q hq) y.1, y.2⟩
      · rcases List.mem_cons.mp hq with rfl | hq
        · exact ⟨hg, z.2⟩
        · have y := N q (List.mem_append.mpr (.inr (.tail _ hq))); exact ⟨hk' _ _ (d2 q hq) y.1, y.2⟩
  · have y := fresh q hq
    rw [← e, (N p hp').1] at y; cases y
/-- the q-th header name -/
noncomputable def nmS (q : Nat) : Str := ⟨#[[97, 65, 97, 98, 66, 98, 99, 67, 99].getD q 0]⟩
theorem nmS_nice {q : Nat} (h : q < 9) : Nice (nmS q) := by
  rcases q with _ | _ | _ | _ | _ | _ | _ | _ | _ | q <;> first | omega | exact nice_of (by decide +kernel)
theorem name_at {prog : Program} {w : World} {A : Around} {E : Value → Shared → Prop} {s : Shared} {value slice : Expr} {t u : Tok} {k : Int} {q : Nat} {Q : Value → Shared → Prop} (hk : k = (q : Int)) (hq : q < 9)
    (hs : subscripted slice false (.str (Str.ofString "aAabBbcCc") t) (.int k u) = operate [.str (Str.ofString "aAabBbcCc") t, .int k u] (getItem (.str (Str.ofString "aAabBbcCc") t) (.int k u))) (h : ∀ t' k', Q (.str (nmS q) t') { s with toks := k' + 1 }) : wpAny (model prog w) A (subscriptTail value slice (.str (Str.ofString "aAabBbcCc") t) (.int k u)) Q E s := by
  subst hk
  refine tail_any (typeIs_str _ _ _) F.slot_str_getitem.lookup (P.getItem_str (c := [97, 65, 97, 98, 66, 98, 99, 67, 99].getD q 0) ?_ ?_ (h _ _)) hs
  · rcases q with _ | _ | _ | _ | _ | _ | _ | _ | _ | q <;> first | omega | decide
  · rcases q with _ | _ | _ | _ | _ | _ | _ | _ | _ | q <;> first | omega | decide +kernel
theorem add_D {w : World} {x dx hl : Addr} {u u1 u2 : Tok} {nm vl : Str} {its : Array Value} {n : Nat} {p : Program} {loose : List Str} {mean : ExcName → Option Value} {mg mb : Str → Option Value} {A A₀ : Around} {outer : List Env} {base g : Heap} {s : Shared} {L : Addr} {m : Str → Option Value} {env : Env} {news pre suf : List (Addr × Obj)} {Q E : Value → Shared → Prop}
    (h1 : Nice nm) (h2 : Nice vl) (hz : its.size ≤ 32) (hp : App news pre ((hl, listOf its n) :: suf)) (hx : (x, instObj 231 dx) ∈ news) (hdx : (dx, dictOf (hdrEs w u hl) 1) ∈ news)
    (B : Below A₀ base outer g) (X : (nk.heap_1 w.params).In g) (T : Top p loose mean mg mb g) (F : Fr g L s.heap m) (N : News g L s.heap news) (D : NDup news) (hh : A.handled = none) (hA : A.frames = some (env :: outer)) (hk : env.scope.kind ≠ .module) (hf : env.frame = some L)
    (hdp : A.depth + 2 < recursionLimit) (hun : A.units + 16 < cLine) (htk : 0 < s.toks)
    (h : ∀ t u3 u4 h' tk', 0 < tk' → Fr g L h' m → News g L h' ((t, ({ cls := .type "tuple", data := .seq #[.str nm u3, .str vl u4] } : Obj)) :: (pre ++ (hl, listOf (its.push (.ref t)) (n + 1)) :: suf)) → NDup ((t, ({ cls := .type "tuple", data := .seq #[.str nm u3, .str vl u4] } : Obj)) :: (pre ++ (hl, listOf (its.push (.ref t)) (n + 1)) :: suf)) → Q .none { s with heap := h', toks := tk' }) :
    wpAny (MM w) A (call (.ref 228) [.ref x, .str nm u1, .str vl u2]) Q E s := by
  obtain rfl := hp.eq
  have z := (N (hl, listOf its n) (List.mem_append.mpr (.inr (.head _)))).1
  have ne : ∀ {a o}, (a, o) ∈ pre ++ (hl, listOf its n) :: suf → o.cls ≠ .type "list" → (s.heap.hide hl).get? a = some o := fun {a o} hm hc => by
    refine (Heap.hide_ne _ fun e : a = hl => ?_).trans (N _ hm).1
    have y := (N _ hm).1
    rw [show (a, o).1 = hl from e, z] at y
    have e2 : listOf its n = o := Option.some.inj y
    exact hc (by rw [← e2])
  refine o_callD (add_c w x dx hl u u1 u2 nm vl its n h1 h2 hz) B X T F N D hh hA hk hf hdp hun htk ⟨ne hx (fun e => nomatch e), ne hdx (fun e => absurd (Value.type.inj e) (by decide))⟩ ?_
  rintro v h' tk' oh' own ⟨rfl, t, u3, u4, rfl, hm⟩ ht F' N' a
  exact h t u3 u4 h' tk' ht F' (fun q hq => N' q ((List.mem_cons.mp hq).elim (fun e => e ▸ List.mem_append.mpr (.inl hm)) fun e => List.mem_append.mpr (.inr e)))
    (NDup.cons (D.of_map (by simp)) fun q hq => by
      rcases List.mem_append.mp hq with hq | hq
      · exact a _ hm q (List.mem_append.mpr (.inl hq))
      · rcases List.mem_cons.mp hq with rfl | hq
        · exact a _ hm (hl, listOf its n) (List.mem_append.mpr (.inr (.head _)))
        · exact a _ hm q (List.mem_append.mpr (.inr (.tail _ hq))))
end

section
theorem calm_PB3 : True := by
  w_top off
  exact trivial
open PySem.W
noncomputable def BoxAt (f : List (Addr × Obj)) (Bx : Addr) (ks : Nat → Int) : Prop :=
  ∃ n v0 v1 v2 s0 a0 s1 a1 s2 a2, (Bx, listOf #[v0, v1, v2] n) ∈ f ∧ Paint f v0 (ks 0) s0 a0 ∧ Paint f v1 (ks 1) s1 a1 ∧ Paint f v2 (ks 2) s2 a2
theorem Boxes.mono {f f' : List (Addr × Obj)} {bs : Array Value} {K : Nat → Nat → Int} (h : Boxes f bs K) (hs : ∀ p ∈ f, p ∈ f') : Boxes f' bs K := by
  obtain ⟨v0, v1, v2, e, p0, p1, p2, r⟩ := h
  exact ⟨v0, v1, v2, e, p0.mono hs, p1.mono hs, p2.mono hs, r⟩
theorem Box.at' {f : List (Addr × Obj)} {v : Value} {ks : Nat → Int} (h : Box f v (ks 0) (ks 1) (ks 2)) : ∃ Bx, v = .ref Bx ∧ BoxAt f Bx ks := by
  obtain ⟨a, b, c, d, e, f, g, h, i, j, k, rfl, r⟩ := h
  exact ⟨_, rfl, _, _, _, _, _, _, _, _, _, _, r⟩
theorem Boxes.at {f : List (Addr × Obj)} {bs : Array Value} {K : Nat → Nat → Int} (h : Boxes f bs K) {b : Nat} (hb : b < 3) : ∃ Bx, bs.toList[b]? = some (.ref Bx) ∧ BoxAt f Bx (K b) := by
  obtain ⟨v0, v1, v2, rfl, p0, p1, p2, _⟩ := h
  rcases lt3 hb with rfl | rfl | rfl
  · obtain ⟨Bx, rfl, h⟩ := Box.at' p0; exact ⟨Bx, rfl, h⟩
  · obtain ⟨Bx, rfl, h⟩ := Box.at' p1; exact ⟨Bx, rfl, h⟩
  · obtain ⟨Bx, rfl, h⟩ := Box.at' p2; exact ⟨Bx, rfl, h⟩
theorem get3 {P : Value → Int → Int → Int → Prop} {v0 v1 v2 : Value} {ks : Nat → Int} {s0 a0 s1 a1 s2 a2 : Int} {j : Nat} (hj : j < 3) (p0 : P v0 (ks 0) s0 a0) (p1 : P v1 (ks 1) s1 a1) (p2 : P v2 (ks 2) s2 a2) : ∃ v sh va, [v0, v1, v2][j]? = some v ∧ P v (ks j) sh va := by
  rcases lt3 hj with rfl | rfl | rfl
  · exact ⟨_, _, _, rfl, p0⟩
  · exact ⟨_, _, _, rfl, p1⟩
  · exact ⟨_, _, _, rfl, p2⟩
section
variable {prog : Program} {w : World} {A : Around} {E : Value → Shared → Prop} {s : Shared} {g : Heap} {L : Addr} {news f : List (Addr × Obj)} {Q : Value → Shared → Prop} {value slice : Expr}
theorem boxAt {bo : Addr} {bs : Array Value} {K : Nat → Nat → Int} {k : Int} {u : Tok} {nb b : Nat} (N : News g L s.heap news) (hB : Boxes f bs K) (hm : (bo, listOf bs nb) ∈ news) (hk : k = (b : Int)) (hb : b < 3)
    (h : ∀ Bx, BoxAt f Bx (K b) → Q (.ref Bx) s) (hs : subscripted slice false (.ref bo) (.int k u) = operate [.ref bo, .int k u] (getItem (.ref bo) (.int k u))) :
    wpAny (model prog w) A (subscriptTail value slice (.ref bo) (.int k u)) Q E s := by
  subst hk
  obtain ⟨Bx, e, hx⟩ := hB.at hb
  exact idxL N hm (by lia) (by lia) (by rw [Int.toNat_natCast]; exact e) (h Bx hx) hs
theorem paintAt {Bx : Addr} {ks : Nat → Int} {k : Int} {u : Tok} {j : Nat} (N : News g L s.heap news) (hB : BoxAt f Bx ks) (hf : ∀ p ∈ f, p ∈ news) (hk : k = (j : Int)) (hj : j < 3)
    (h : ∀ T P C n t0 t1 t2 t3 t4 t5 t6 t7 c0 c1 c2 sh va, (T, tup4 (.int (ks j) t0) (.ref P) (.ref C) (.str (Str.ofString (toString (ks j))) t1)) ∈ f →
      (P, listOf #[.int (part (ks j) sh va 0) t2, .int (part (ks j) sh va 2048) t3, .int (part (ks j) sh va 4096) t4] n) ∈ f → (C, tup3 (.float c0 t5) (.float c1 t6) (.float c2 t7)) ∈ f →
      Ex c0 (part (ks j) sh va 0) 14 → Ex c1 (part (ks j) sh va 2048) 14 → Ex c2 (part (ks j) sh va 4096) 14 → (t5 ≠ 0 ∧ t6 ≠ 0 ∧ t7 ≠ 0) → (0 ≤ ks j ∧ ks j < 1024) → (1 ≤ sh ∧ sh ≤ 4) → (1 ≤ va ∧ va ≤ 4) → Q (.ref T) s)
    (hs : subscripted slice false (.ref Bx) (.int k u) = operate [.ref Bx, .int k u] (getItem (.ref Bx) (.int k u))) :
    wpAny (model prog w) A (subscriptTail value slice (.ref Bx) (.int k u)) Q E s := by
  subst hk
  obtain ⟨n, v0, v1, v2, s0, a0, s1, a1, s2, a2, hm, p0, p1, p2⟩ := hB
  obtain ⟨v, sh, va, e, T, P, C, n, t0, t1, t2, t3, t4, t5, t6, t7, c0, c1, c2, rfl, m1, m2, m3, e0, e1, e2, ht, hk, h1, h2⟩ := get3 (P := Paint f) hj p0 p1 p2
  exact idxL N (hf _ hm) (by lia) (by lia) (by rw [Int.toNat_natCast]; exact e) (h T P C n t0 t1 t2 t3 t4 t5 t6 t7 c0 c1 c2 sh va m1 m2 m3 e0 e1 e2 ht hk h1 h2) hs
end
/-- the first c headers -/
noncomputable def hdrs (K : Nat → Nat → Int) (c : Nat) : List (Str × Str) := (List.range c).map fun q => (nmS (3 * (q % 3) + q / 3), Str.ofString (toString (K (q % 3) (q / 3))))
theorem hdrs_succ (K : Nat → Nat → Int) (j b : Nat) (hb : b < 3) : hdrs K (3 * j + b + 1) = hdrs K (3 * j + b) ++ [(nmS (3 * b + j), Str.ofString (toString (K b j)))] := by
  unfold hdrs
  rw [List.range_succ, List.map_append]
  simp only [List.map_cons, List.map_nil]
  rw [show (3 * j + b) % 3 = b by lia, show (3 * j + b) / 3 = j by lia]
noncomputable def itsOf (hs : List (Addr × Str × Str)) : Array Value := (hs.map fun p => Value.ref p.1).toArray
theorem itsOf_push (hs : List (Addr × Str × Str)) (p : Addr × Str × Str) : itsOf (hs ++ [p]) = (itsOf hs).push (.ref p.1) := by simp [itsOf]
noncomputable def HsOk (tmp : List (Addr × Obj)) (hs : List (Addr × Str × Str)) (l : List (Str × Str)) : Prop :=
  hs.map (·.2) = l ∧ ∀ p ∈ hs, ∃ u v, (p.1, ({ cls := .type "tuple", data := .seq #[.str p.2.1 u, .str p.2.2 v] } : Obj)) ∈ tmp
theorem HsOk.push {tmp tmp' : List (Addr × Obj)} {hs : List (Addr × Str × Str)} {l : List (Str × Str)} {t : Addr} {a b : Str} {u v : Tok} (h : HsOk tmp hs l) (hs' : ∀ p ∈ tmp, p ∈ tmp') (ht : (t, ({ cls := .type "tuple", data := .seq #[.str a u, .str b v] } : Obj)) ∈ tmp') :
    HsOk tmp' (hs ++ [(t, a, b)]) (l ++ [(a, b)]) := by
  refine ⟨by rw [List.map_append, h.1]; rfl, fun p hp => ?_⟩
  rcases List.mem_append.mp hp with hp | hp
  · obtain ⟨u, v, hm⟩ := h.2 p hp; exact ⟨u, v, hs' _ hm⟩
  · rw [List.mem_singleton.mp hp]; exact ⟨u, v, ht⟩
theorem HsOk.len {tmp : List (Addr × Obj)} {hs : List (Addr × Str × Str)} {K : Nat → Nat → Int} {c : Nat} (h : HsOk tmp hs (hdrs K c)) : (itsOf hs).size = c := by
  have := congrArg List.length h.1
  simp [hdrs] at this
  simp [itsOf, this]
end

section
theorem calm_PB4 : True := by
  w_top off
  exact trivial
open PySem.W
theorem name_at2 {prog : Program} {w : World} {A : Around} {E : Value → Shared → Prop} {s : Shared} {value slice : Expr} {t u : Tok} {b j : Nat} {Q : Value → Shared → Prop} (hb : b < 3) (hj : j < 3)
    (hs : subscripted slice false (.str (Str.ofString "aAabBbcCc") t) (.int (3 * (b : Int) + (j : Int)) u) = operate [.str (Str.ofString "aAabBbcCc") t, .int (3 * (b : Int) + (j : Int)) u] (getItem (.str (Str.ofString "aAabBbcCc") t) (.int (3 * (b : Int) + (j : Int)) u))) (h : ∀ t' k', Q (.str (nmS (3 * b + j)) t') { s with toks := k' + 1 }) : wpAny (model prog w) A (subscriptTail value slice (.str (Str.ofString "aAabBbcCc") t) (.int (3 * (b : Int) + (j : Int)) u)) Q E s :=
  name_at (q := 3 * b + j) (by lia) (by lia) hs h
theorem words_15 : True := by
  k_with "m subscriptTail Constant" => case' fresh => (k_here; k_dflt (refine' name_at2 ?a ?b ?s ?_; (case a | b => assumption); (case s => with_unfolding_all rfl)); intro _ _)
  k_with "m subscriptTail Name Name ref int" => case' fresh => (k_here; k_dflt (refine' boxAt ?N ?B ?m ?k ?b ?_ ?s; (case N => k_asm); (case B => with_reducible assumption); (case m => k_mem); (case k => exact rfl); (case b => assumption); (case s => with_unfolding_all rfl)); intro _ _)
  k_with "m subscriptTail Subscript" => case' fresh => (k_here; k_dflt (refine' paintAt ?N ?B ?f ?k ?b ?_ ?s; (case N => k_asm); (case B => with_reducible assumption); (case f => (intro _ _; k_mem)); (case k => exact rfl); (case b => assumption); (case s => with_unfolding_all rfl)); intro _ _ _ _ _ _ _ _ _ _ _ _ _ _ _ _ _ _ _ _ _ _ _ _ _ _ _)
  k_with "m call ref" => case' fresh => (k_here; (with_reducible show wpAny _ _ (call (Value.ref 228) _) _ _ _); (with_reducible rename NDup _ => D9k); k_dflt (refine' add_D ?h1 ?h2 ?h3 ?h4 ?h5 ?h6 ?k1 ?k2 ?k3 ?k4 ?k5 D9k rfl rfl nofun rfl ?ka ?kb ?kc ?_; (case h1 => exact nmS_nice (by lia)); (case h2 => exact nice_int (by assumption)); (case k1 => k_asm); (case k2 | k3 => with_reducible assumption); (case k4 | k5 => k_asm); (case h4 => walk_at "k_app"); (case h3 => lia); (case h5 | h6 => k_mem); (case ka | kb => walk_at "m_un"); (case kc => walk_at "d_pos")); intro _ _ _ _ _ _ _ N'k D'k; clear D9k; (try dsimp only [List.cons_append, List.nil_append] at N'k D'k); (revert N'k D'k; intro _ _); (try k_sweep))
  exact trivial
theorem phB3 
    (B : Below A₀ base outer g) (X : (nk.heap_1 w.params).In g) (T : Top p loose mean mg mb g) (hd : dp + 8 < recursionLimit) (hu : un + 64 < cLine)
    {m cm : Str → Option Value} {bo x dx hl : Addr} {bs : Array Value} {n nb : Nat} {u : Tok} {K : Nat → Nat → Int} {cells frz : List (Addr × Obj)} {s : Shared} {R : Flow → Shared → Prop}
    (hbo : (bo, listOf bs nb) ∈ frz) (hB : Boxes frz bs K) (hx : (x, instObj 231 dx) ∈ frz) (hdx : (dx, dictOf (hdrEs w u hl) 1) ∈ frz)
    (F : Fr g L s.heap m) (hm : AtL m [("boxes", .ref bo)])
    (N : News g L s.heap ((hl, listOf #[] n) :: (cells ++ frz))) (D : NDup ((hl, listOf #[] n) :: (cells ++ frz)))
    (Y : CellsAre cm (lawCl L) cells) (hcm : AtL cm [("told", .ref x)])
    (done : ∀ h' tk m' cm' cells' tmp hs n, Fr g L h' m' → AtL m' [("boxes", .ref bo)] →
      News g L h' ((hl, listOf (itsOf hs) n) :: (cells' ++ (tmp ++ frz))) → NDup ((hl, listOf (itsOf hs) n) :: (cells' ++ (tmp ++ frz))) →
      CellsAre cm' (lawCl L) cells' → AtL cm' [("told", .ref x)] → HsOk tmp hs (hdrs K 9) → R .next { s with heap := h', toks := tk }) :
    wpAny (MM w) ((TopA dp un gd outer).deeper (lawEnv L fa cd)) (exec stB3.1 (lawEnv L fa cd)) R (fun _ _ => False) s := by
  rw [← kst_at hm] at F
  unfold stB3
  dsimp only
  k_steps
  unfold Hold
  rename Fr _ _ _ _ => F9
  rename News _ _ _ _ => N9
  rename IsRange _ _ _ _ _ _ _ _ => hr
  refine range_turns (n := 3)
    (fun j m nx => ∃ cm cells tmp hs n, nx = (hl, listOf (itsOf hs) n) :: (cells ++ (tmp ++ frz)) ∧ CellsAre cm (lawCl L) cells ∧ AtL cm [("told", .ref x)] ∧ AtL m [("boxes", .ref bo)] ∧ HsOk tmp hs (hdrs K (3 * j)))
    rfl hr rfl rfl F9 N9 D ⟨cm, cells, [], [], _, rfl, Y, hcm, ⟨rfl, trivial⟩, rfl, fun _ h => nomatch h⟩ (fun _ _ _ _ _ _ _ _ _ q => wpAny_pure q) ?_ ?_
  · rintro j m₁ nx h₁ tk₁ I₁ oI₁ t₁ hj ⟨cm₁, cells₁, tmp, hs, n₁, rfl, Y₁, hcm₁, hm₁, hp⟩ F₁ N₁ D₁
    clear F9 N9 hr
    refine assignCell F₁ N₁ D₁ (pre := [_, _]) (.cons (.cons .nil)) Y₁ rfl rfl fun h₂ cells₂ F₂ N₂ D₂ Y₂ => ?_
    clear F₁ N₁ D₁
    rw [Int.zero_add] at Y₂
    rw [← kst_at hm₁] at F₂
    dsimp only [List.cons_append, List.nil_append] at N₂ D₂
    k_steps
    unfold Hold
    rename Fr _ _ _ _ => F9
    rename News _ _ _ _ => N9
    rename IsRange _ _ _ _ _ _ _ _ => hr
    refine range_turns (n := 3)
      (fun b m nx => ∃ cm cells tmp hs n tj, nx = (I₁, oI₁) :: (hl, listOf (itsOf hs) n) :: (cells ++ (tmp ++ frz)) ∧ CellsAre cm (lawCl L) cells ∧ AtL cm [("told", .ref x), ("j", .int (j : Int) tj)] ∧ AtL m [("boxes", .ref bo)] ∧ HsOk tmp hs (hdrs K (3 * j + b)))
      rfl hr rfl rfl F9 N9 D₂ ⟨_, _, tmp, hs, _, _, rfl, Y₂, ⟨hcm₁.1, rfl, trivial⟩, ⟨rfl, trivial⟩, hp⟩ (fun _ _ _ _ _ _ _ _ _ q => wpAny_pure q) ?_ ?_
    · clear F9 N9 hr Y₂ D₂ Y₁ hcm₁ hm₁ hp
      rintro b m₁ nx h₁ tk₁ I₂ oI₂ t₂ hb ⟨cm₁, cells₁, tmp, hs, n₁, tj, rfl, Y₁, hcm₁, hm₁, hp⟩ F₁ N₁ D₁
      refine assignLoc F₁ N₁ rfl fun h₂ F₂ N₂ => ?_
      clear F₁ N₁
      rw [Int.zero_add] at F₂
      rw [← kst_at hm₁] at F₂
      replace Y₁ := cells_kst Y₁ hcm₁
      have hlen := hp.len
      k_steps
      rename CellsAre _ _ _ => Y9
      rename_i t9 _ _ _ _ _ F9 N9 D9
      obtain ⟨N8, D8⟩ := refreeze (keep := [(I₂, oI₂), (I₁, oI₁), (hl, _)]) (by walk_at "k_app") (by walk_at "k_part") N9 D9
      rw [← itsOf_push hs (t9, nmS (3 * b + j), Str.ofString (toString (K b j)))] at N8 D8
      refine ⟨_, _, _, _, rfl, F9, N8, D8, _, cells₁, [_] ++ tmp, _, _, tj, rfl, Y9, ⟨rfl, rfl, trivial⟩, ⟨rfl, trivial⟩, ?_⟩
      rw [show 3 * j + (b + 1) = 3 * j + b + 1 by lia, hdrs_succ K j b hb]
      exact hp.push (fun p hp' => List.mem_append.mpr (.inr hp')) (List.mem_append.mpr (.inl (.head _)))
    · clear F9 N9 hr Y₂ D₂ Y₁ hcm₁ hm₁ hp
      rintro m₁ nx h₁ tk₁ ⟨cm₁, cells₁, tmp, hs, n₁, tj, rfl, Y₁, hcm₁, hm₁, hp⟩ F₁ N₁ D₁
      k_steps
      rename Fr _ _ _ _ => F9
      exact ⟨h₁, tk₁, m₁, _, rfl, F9, N₁, D₁, cm₁, cells₁, tmp, hs, n₁, rfl, Y₁, ⟨hcm₁.1, trivial⟩, hm₁, by rw [show 3 * (j + 1) = 3 * j + 3 by lia]; exact hp⟩
  · rintro m₁ nx h₁ tk₁ ⟨cm₁, cells₁, tmp, hs, n₁, rfl, Y₁, hcm₁, hm₁, hp⟩ F₁ N₁ D₁
    exact done h₁ tk₁ m₁ cm₁ cells₁ tmp hs n₁ F₁ hm₁ N₁ D₁ Y₁ hcm₁ hp
end

section
theorem words_16 : True := by
  k_with_none
  k_with "m p_enter" => case' fresh => (refine wpAny_call ?_; k_dflt (refine' p_enter ?k1 ?k3 ?k5 ?k6 ?k7 ?k8 ?k9 ?kB ?_ ?c2 ?c3 ?c4 ?c5; (case k1 | k3 | k5 => assumption); (case k6 | k7 => k_is); (case k8 => lia); (case k9 => first | exact BindsTo.of_eq rfl | exact binds_K (by k_in) rfl (by k_is) rfl rfl rfl); (case kB => exact locs rfl); (case c5 => decide); (case c2 | c3 | c4 => exact rfl); k_whole; intro _ _ _ _; (try dsimp only); (try k_fold)))
  k_with "m subscriptTail Name Constant ref int" => case' fresh => (k_here; k_dflt (refine' item_base ?F ?l ?a ?b ?d ?_; (case F => k_asm); (case l => with_reducible assumption); (case a | b => decide); (case d => exact rfl); k_whole))
  k_with "m subscriptTail Name Constant ref int" => case' fresh => (k_here; k_dflt (refine' tup_base ?F ?l ?a ?b ?j ?d ?_; (case F => k_asm); (case l => with_reducible assumption); (case a | b => decide); (case j | d => exact rfl); k_whole))
  k_with "m binaryOp Mult int int" => case' fresh => (k_dflt (refine' mul_smallL ?a ?b ?_; (case a | b => lia)))
  k_with "m binaryOp Mult int int" => case' fresh => (k_dflt (refine' mul_smallR ?a ?b ?_; (case a | b => lia)))
  k_with "m call builtin:max" => case' fresh => (k_here; (with_reducible show wpAny _ _ (call (Value.builtin "max") [Value.float _ _, Value.float _ _, Value.float _ _]) _ _ _); k_dflt (refine' max3_ex ?a ?b ?c ?d ?F ?N ?_; (case a | b | c => assumption); (case d => exact rfl); (case F | N => k_asm); intro _ _ _ _ _ _ hle'k F'k N'k; (try dsimp only at hle'k); (revert hle'k F'k N'k; intro _ _ _); (try k_sweep)))
  k_with "m call builtin:min" => case' fresh => (k_here; (with_reducible show wpAny _ _ (call (Value.builtin "min") [Value.float _ _, Value.float _ _, Value.float _ _]) _ _ _); k_dflt (refine' min3_ex ?a ?b ?c ?d ?F ?N ?_; (case a | b | c => assumption); (case d => exact rfl); (case F | N => k_asm); intro _ _ _ _ _ _ hle'k F'k N'k; (try dsimp only at hle'k); (revert hle'k F'k N'k; intro _ _ _); (try k_sweep)))
  k_with "m assign Tuple" => case' fresh => ((rename IntsAre _ _ => i9k); (rename (List.length _ = _) => e9k); (obtain ⟨a9, b9, c9, ta9, tb9, tc9, e8, e7⟩ := three_of i9k e9k); subst e8; subst e7; (walk_at "assign Tuple"))
  k_with "m call builtin:max" => case' fresh => (k_here; (with_reducible show wpAny _ _ (call (Value.builtin "max") (Value.int _ _ :: _)) _ _ _); k_dflt ((first | refine' max3_i ?d ?F ?N ?_ | refine' max2_i ?d ?F ?N ?_); (case d => exact rfl); (case F | N => k_asm); intro _ _ _ _ _; (try k_sweep)))
  k_with "m call builtin:min" => case' fresh => (k_here; (with_reducible show wpAny _ _ (call (Value.builtin "min") (Value.int _ _ :: _)) _ _ _); k_dflt ((first | refine' min3_i ?d ?F ?N ?_ | refine' min2_i ?d ?F ?N ?_); (case d => exact rfl); (case F | N => k_asm); intro _ _ _ _ _; (try k_sweep)))
  k_with "m ite" => case' fresh => (k_dflt (first | (refine' ite_eq_tt ?a ?b ?c ?_; (case a | b => assumption); (case c => lia)) | (refine' ite_eq_ff ?a ?b ?c ?_; (case a | b => assumption); (case c => lia))))
  k_with "m p_leaf" => case' fresh => (rename Fr _ _ _ _ => F9k; rename News _ _ _ _ => N9k; rename ∀ (_ : Value) (_ : Heap) (_ : Nat) (_ : List (Addr × Obj)), _ => hret9k; refine hret9k _ _ _ _ ?_ F9k.keep (fun q hq => ⟨(N9k q hq).1, (N9k q hq).2.2⟩))
  k_with "m execs cons" => case' fresh => (k_here; k_dflt (refine' gen_toks ?p ?_; (case p => first | with_reducible assumption | exact Nat.succ_pos _ | lia | (dsimp only; first | exact Nat.succ_pos _ | lia)); (intro _ _; (try dsimp only); refine wpAny_execs_cons ?_)))
  k_with "m p_toks" => case' fresh => (first | with_reducible assumption | exact Nat.succ_ne_zero _ | exact Nat.pos_iff_ne_zero.mp (by assumption) | exact tok_or3 (by assumption) (by assumption))
  k_with "m d_pos" => case' fresh => (first | with_reducible assumption | exact Nat.succ_pos _ | (dsimp only; first | exact Nat.succ_pos _ | omega) | omega)
  k_with "m l_bd" => case' fresh => (refine And.intro ?_ ?_ <;> (first | lia | l_bnd))
  k_with "m k_app" => case' fresh => (first | exact App.nil | (refine' App.cons ?pa; (case pa => walk_at "k_app")))
  k_with "m k_updN" => case' fresh => (first | exact UpdN.head | (refine' UpdN.tail ?pa; (case pa => walk_at "k_updN")))
  k_with "m k_part" => case' fresh => (first | exact Part.nil | (refine' Part.keep ?pa; (case pa => walk_at "k_part")) | (refine' Part.tmp ?pa; (case pa => walk_at "k_part")))
  k_with "m eval Name" => case' fresh => (k_here; k_dflt (refine' nameC ?N ?P ?Y ?c ?v ?_ ?a ?b ?d; (case Y => with_reducible assumption); (case b | a => exact rfl); (case N => k_asm); (case P => walk_at "k_app"); (case c | v => exact rfl); (case d => decide); k_whole))
  k_with "m eval Name" => case' fresh => (k_here; k_dflt (refine' nameX_L ?F ?v ?_ ?a ?b; (case F => k_asm); (case b | a | v => exact rfl); k_whole))
  k_with "m storeName" => case' fresh => (k_here; (with_reducible rename CellsAre _ _ _ => Y9k); (with_reducible rename NDup _ => D9k); k_dflt (refine' storeC ?F ?N D9k ?P Y9k ?c ?n ?_ ?a ?b; (case b | a => exact rfl); (case F | N => k_asm); (case P => walk_at "k_app"); (case c => exact rfl); (case n => exact lawCl_nd _); k_whole); intro _ _ _ N'k D'k Y'k; clear Y9k D9k; (try dsimp only [List.cons_append, List.nil_append] at N'k D'k); (revert N'k D'k Y'k; intro _ _ _); (try k_sweep))
  k_with "m storeName" => case' fresh => (k_here; k_dflt (refine' storeX_L ?F ?N ?_ ?a ?b; (case b | a => rfl); (case F | N => k_asm); k_whole); intro _ _ _; (try k_sweep))
  k_with "m newTuple" => case' fresh => (k_here; (with_reducible rename NDup _ => D9k); k_dflt (refine' newTup_D ?F ?N D9k ?_ ?z; (case F | N => k_asm); (case z => size_fits); k_whole); intro _ _ _ _ _; clear D9k; (try k_sweep))
  k_with "m newList" => case' fresh => (k_here; (with_reducible rename NDup _ => D9k); k_dflt (refine' newList_D ?F ?N D9k ?_ ?z; (case F | N => k_asm); (case z => size_fits); k_whole); intro _ _ _ _ _; clear D9k; (try k_sweep))
  k_with "m call builtin:list.append" => case' fresh => (k_here; (with_reducible rename NDup _ => D9k); k_dflt (refine' append_D ?F ?N D9k ?U ?_ ?z; (case F | N => k_asm); (case U => walk_at "k_updN"); (case z => first | size_fits | (simp only [Array.size_push] at *; lia)); k_whole); intro _ _ _ _; clear D9k; (try k_sweep))
  k_with "m call ref" => case' fresh => (k_here; (with_reducible show wpAny _ _ (call (Value.ref 242) _) _ _ _); (with_reducible rename NDup _ => D9k); k_dflt (refine' parts_D ?b0 ?b1 ?b2 ?k1 ?k2 ?k3 ?k4 ?k5 D9k rfl rfl nofun rfl ?ka ?kb ?kc ?_; (case b0 | b1 | b2 => walk_at "l_bd"); (case k1 => k_asm); (case k2 | k3 => with_reducible assumption); (case k4 | k5 => k_asm); (case ka | kb => walk_at "m_un"); (case kc => walk_at "d_pos")); intro _ _ _ _ _ _ _ _ _ _ _ _ _ _; clear D9k; (try k_sweep))
  k_with "m call ref" => case' fresh => (k_here; (with_reducible show wpAny _ _ (call (Value.ref 59) _) _ _ _); (with_reducible rename NDup _ => D9k); k_dflt (refine' h2r_D ?a1 ?a2 ?a3 ?b0 ?b1 ?b2 ?a4 ?k1 ?k2 ?k3 ?k4 ?k5 D9k rfl rfl nofun rfl ?ka ?kb ?kc ?_; (case a1 | a2 | a3 => assumption);(case b0 | b1 | b2 => walk_at "l_bd");(case a4 => walk_at "p_toks"); (case k1 => k_asm); (case k2 | k3 => with_reducible assumption); (case k4 | k5 => k_asm); (case ka | kb => walk_at "m_un"); (case kc => walk_at "d_pos")); intro _ _ _ _ _ _ _ _ _ _ _ _ _ _ _ _ _; clear D9k; (try k_sweep))
  k_with "m call ref" => case' fresh => (k_here; (with_reducible show wpAny _ _ (call (Value.ref 52) _) _ _ _); (with_reducible rename NDup _ => D9k); k_dflt (refine' r2h_D ?a1 ?a2 ?a3 ?b0 ?b1 ?b2 ?a4 ?k1 ?k2 ?k3 ?k4 ?k5 D9k rfl rfl nofun rfl ?ka ?kb ?kc ?_; (case a1 | a2 | a3 => assumption);(case b0 | b1 | b2 => walk_at "l_bd");(case a4 => assumption); (case k1 => k_asm); (case k2 | k3 => with_reducible assumption); (case k4 | k5 => k_asm); (case ka | kb => walk_at "m_un"); (case kc => walk_at "d_pos")); intro _ _ _ _ _ _ _ _ _ _ _ _ _ _ _ _ _; clear D9k; (try k_sweep))
  k_with "m m_un" => case' fresh => ((try simp only [depth_in1, depth_deeper, units_in1, units_deeper, Around.mark_units]); (try dsimp only); lia)
  k_with "m binaryOp Div int int" => case' fresh => (k_here; k_dflt (refine' div_by (g := 10) ?k1 ?k2 ?k3 ?k4 ?_; (case k1 | k2 => decide); (case k3 | k4 => first | lia | l_bnd); k_whole; intro _ _; (try dsimp only)))
  k_with "m binaryOp Div int int" => case' fresh => (k_here; k_dflt (refine' div_by (g := 2) ?k1 ?k2 ?k3 ?k4 ?_; (case k1 | k2 => decide); (case k3 | k4 => first | lia | l_bnd); k_whole; intro _ _; (try dsimp only)))
  k_with "m binaryOp Div int int" => case' fresh => (k_here; k_dflt (refine' div_by (g := 14) ?k1 ?k2 ?k3 ?k4 ?_; (case k1 | k2 => decide); (case k3 | k4 => first | lia | l_bnd); k_whole; intro _ _; (try dsimp only)))
  k_with "m call builtin:sum" => case' fresh => (k_here; k_dflt (refine' sum_pick ?k1 ?k2 ?k3 ?k5 ?_; (case k1 => exact rfl); (case k2 | k3 => k_asm); (case k5 => with_reducible assumption); k_whole; intro _ _ _ _ hle'k F'k N'k; (try dsimp only at hle'k); (revert hle'k F'k N'k; intro _ _ _); (with_reducible rename NDup _ => D9k); (have D'k := NDup.tail D9k); clear D9k; (revert D'k; intro _); (try k_sweep)))
  k_with "m binaryOp Mult float int" => case' fresh => (k_here; k_dflt (refine' mul_1024 ?a ?b ?_; (case a => assumption); (case b => walk_at "l_bd"); k_whole; intro _ _; (try dsimp only)))
  k_with "m call type:int" => case' fresh => (k_here; k_dflt (refine' int_f ?a ?b ?c ?_; (case a => exact rfl); (case b => assumption); (case c => lia); k_whole))
  k_with "m compareOp NotEq ref ref" => case' fresh => (k_here; k_dflt (refine' ne_tup ?F ?X ?N ?a ?b ?c1 ?c2 ?c3 ?c4 ?c5 ?c6 ?d1 ?d2 ?e ?_; (case F | X | N => k_asm); (case a | b => k_mem); (case c1 | c2 | c3 | c4 | c5 | c6 => assumption); (case d1 | d2 => walk_at "p_toks3"); (case e => walk_at "m_un"); k_whole))
  k_with "m p_toks3" => case' fresh => (first | with_reducible assumption | exact ⟨by walk_at "p_toks", by walk_at "p_toks", by walk_at "p_toks"⟩)
  k_with "m p_toks" => case' fresh => (first | with_reducible assumption | exact Nat.succ_ne_zero _ | exact Nat.pos_iff_ne_zero.mp (by assumption) | lia)
  k_with "m pyIter ref" => case' fresh => (k_here; k_dflt (refine' hold ?_))
  k_with "m exec For Name Call cons nil" => case' fresh => (k_here; (rename Fr _ _ _ _ => lF'k); (with_unfolding_all refine' For_turns lF'k ?_); k_whole)
  k_with "m exec For Tuple Tuple cons nil" => case' fresh => (k_here; (rename Fr _ _ _ _ => lF'k); (with_unfolding_all refine' For_turns lF'k ?_); k_whole)
  k_with "m binaryOp Mod int int" => case' fresh => (k_here; k_dflt (refine' mod_g ?k1 ?_; (case k1 => first | decide | lia); k_whole); intro _ _ _ r1'k; (try dsimp only at r1'k); (revert r1'k; intro _); (try dsimp only))
  k_with "m subscriptTail Name Constant ref int" => case' fresh => (k_here; k_dflt (refine' idxT ?N ?m ?a ?b ?d ?_ ?s; (case N => k_asm); (case m => k_mem); (case a | b => first | decide | lia); (case d => first | exact rfl | assumption); (case s => with_unfolding_all rfl); k_whole))
  k_with "m subscriptTail Subscript Constant ref int" => case' fresh => (k_here; k_dflt (refine' idxT ?N ?m ?a ?b ?d ?_ ?s; (case N => k_asm); (case m => k_mem); (case a | b => first | decide | lia); (case d => first | exact rfl | assumption); (case s => with_unfolding_all rfl); k_whole))
  k_with "m subscriptTail Subscript Name ref int" => case' fresh => (k_here; k_dflt (refine' idxT ?N ?m ?a ?b ?d ?_ ?s; (case N => k_asm); (case m => k_mem); (case a | b => first | decide | lia); (case d => first | exact rfl | assumption); (case s => with_unfolding_all rfl); k_whole))
  k_with "m subscriptTail Name Name ref int" => case' fresh => (k_here; k_dflt (refine' idxT ?N ?m ?a ?b ?d ?_ ?s; (case N => k_asm); (case m => k_mem); (case a | b => first | decide | lia); (case d => first | exact rfl | assumption); (case s => with_unfolding_all rfl); k_whole))
  k_with "m subscriptTail Name Constant ref int" => case' fresh => (k_here; k_dflt (refine' idxL ?N ?m ?a ?b ?d ?_ ?s; (case N => k_asm); (case m => k_mem); (case a | b => first | decide | lia); (case d => first | exact rfl | assumption); (case s => with_unfolding_all rfl); k_whole))
  k_with "m subscriptTail Subscript Constant ref int" => case' fresh => (k_here; k_dflt (refine' idxL ?N ?m ?a ?b ?d ?_ ?s; (case N => k_asm); (case m => k_mem); (case a | b => first | decide | lia); (case d => first | exact rfl | assumption); (case s => with_unfolding_all rfl); k_whole))
  k_with "m subscriptTail Subscript Name ref int" => case' fresh => (k_here; k_dflt (refine' idxL ?N ?m ?a ?b ?d ?_ ?s; (case N => k_asm); (case m => k_mem); (case a | b => first | decide | lia); (case d => first | exact rfl | assumption); (case s => with_unfolding_all rfl); k_whole))
  k_with "m subscriptTail Name Name ref int" => case' fresh => (k_here; k_dflt (refine' idxL ?N ?m ?a ?b ?d ?_ ?s; (case N => k_asm); (case m => k_mem); (case a | b => first | decide | lia); (case d => first | exact rfl | assumption); (case s => with_unfolding_all rfl); k_whole))
  k_with "m subscriptTail Name Name ref int" => case' fresh => (k_here; k_dflt (refine' idx_push ?N ?m ?a ?b ?_ ?s; (case N => k_asm); (case m => k_mem); (case a => first | rfl | lia); (case b => lia); (case s => with_unfolding_all rfl); k_whole))
  k_with "m subscriptTail Tuple Name ref int" => case' fresh => (k_here; k_dflt (refine' idx3 ?N ?m ?a ?b ?_ ?s; (case N => k_asm); (case m => k_mem); (case a | b => lia); (case s => with_unfolding_all rfl); k_whole); intro _ _)
  k_with "m assign Tuple" => case' fresh => (k_here; k_dflt (refine' unpackN_ ?F ?N ?T ?k1 ?k2 ?k3 ?_; (case F | N => k_asm); (case T => refine News.isTup (by k_asm) (by k_mem)); (case k1 | k2 | k3 => exact rfl)); intro _ _ _; (try k_sweep))
  exact trivial
theorem calm_PB5 : True := by
  w_top off
  exact trivial
open PySem.W LCg
section
variable {prog : Program} {w : World} {A : Around} {E : Value → Shared → Prop} {s : Shared} {h₀ : Heap} {L : Addr} {m : Str → Option Value} {env : Env}
theorem compV_ind {elt : Expr} {x : Str} {scope : Scope} {cl : List (Str × Addr)} {S : List (Addr × Obj) → Prop} {P : Nat → Value → Prop} {Fin : List Value → List (Addr × Obj) → Prop} {n : Nat} {news : List (Addr × Obj)} (Inv : Nat → List Value → List (Addr × Obj) → Prop)
    (step : ∀ k i ys nx, k + 1 + i = n → Inv i ys nx → (∀ ys' nx', Inv (i + 1) ys' nx' → CompRest prog w A h₀ L m env elt x scope cl s S P Fin k (i + 1) ys' nx') → CompRest prog w A h₀ L m env elt x scope cl s S P Fin (k + 1) i ys nx)
    (fin : ∀ ys nx, Inv n ys nx → Fin ys nx) (h0 : Inv 0 [] news) : CompRest prog w A h₀ L m env elt x scope cl s S P Fin n 0 [] news := by
  have key : ∀ k i ys nx, k + i = n → Inv i ys nx → CompRest prog w A h₀ L m env elt x scope cl s S P Fin k i ys nx := by
    intro k
    induction k with
    | zero => intro i ys nx hi hv; rw [Nat.zero_add] at hi; subst hi; exact fin ys nx hv
    | succ k ih => intro i ys nx hi hv; exact step k i ys nx hi hv fun ys' nx' hv' => ih (i + 1) ys' nx' (by omega) hv'
  exact key n 0 [] news rfl h0
theorem Off1.of {D : Addr} : ∀ {l : List (Addr × Obj)}, Off1 D l → ∀ p ∈ l, p.1 ≠ D
  | [], _, _, h => nomatch h
  | _ :: _, x, p, h => by
    rcases List.mem_cons.mp h with rfl | h
    · exact x.1
    · exact Off1.of x.2 p h
theorem off3_nd {I C D : Addr} {a b c : Obj} {l : List (Addr × Obj)} (h : NDup ((I, a) :: (C, b) :: (D, c) :: l)) : Off3 I C D l :=
  Off3.of fun p hp => ⟨h.head p (.tail _ (.tail _ hp)), h.tail.head p (.tail _ hp), h.tail.tail.head p hp⟩
theorem nd_off3 {I C D : Addr} {a b c : Obj} {l : List (Addr × Obj)} (h : NDup l) (o : Off3 I C D l) (ne : ((@Ne Nat I C) ∧ (@Ne Nat I D) ∧ (@Ne Nat C D))) : NDup ((I, a) :: (C, b) :: (D, c) :: l) := by
  have m := o.mem
  refine NDup.cons (NDup.cons (NDup.cons h fun p hp => (m p hp).2.2) fun p hp => ?_) fun p hp => ?_
  · rcases List.mem_cons.mp hp with rfl | hp
    · exact Ne.symm ne.2.2
    · exact (m p hp).2.1
  · rcases List.mem_cons.mp hp with rfl | hp
    · exact Ne.symm ne.1
    · rcases List.mem_cons.mp hp with rfl | hp
      · exact Ne.symm ne.2.1
      · exact (m p hp).1
theorem Assign_ListComp_S {elt iter : Expr} {x y : Str} {px py : Pos} {scope : Scope} {cl : List (Str × Addr)} {pos spos : Pos} {Q : Flow → Shared → Prop} (F₀ : Fr h₀ L s.heap m) (hLe : env.locals = L)
    (hsw : swapsWith (.ListComp elt [⟨.Name x px, iter, [], 0⟩] scope pos) (some (.Name y py)) spos.line env = pure true)
    (hclos : closureFor scope env = pure cl) (hcell : ∀ z ∈ scope.names, z.2 ≠ .cell) (hkind : scope.kind = .function)
    (hnames : ∀ z ∈ scope.names, z.2 = .local → scope.names.lookup z.1 = some .local) (hx : scope.names.lookup x = some .local)
    (hy : env.kindOf y = some .local) (hp : (env.scope.kind == .class || (env.scope.kind == .module && env.locals != env.globals)) = false)
    (h : wpAny (model prog w) A (eval iter env) (fun xv s₁ => ∃ t u news, xv = .str t u ∧ t.cps.all (· < 128) = true ∧ A.handled = none ∧ t.cps.size ≤ sizeLine ∧ Fr h₀ L s₁.heap m ∧ News h₀ L s₁.heap news ∧
      ∀ s₂ : Shared, (∃ h, s₂ = { s₁ with heap := h }) → CompRest prog w A h₀ L m env elt x scope cl s₂ (fun _ => True) (SignAt t) (FinA h₀ L m s₂ y Q) t.cps.size 0 [] news) E s)
    (hs : ∀ x, foldedSetIterable iter env x = pure x := by intro _; rfl) :
    wpAny (model prog w) A (exec (.Assign [.Name y py] (.ListComp elt [⟨.Name x px, iter, [], 0⟩] scope pos) spos) env) Q E s := by
  subst hLe
  rw [exec_Assign_Name_used _ _ _ _ hsw]
  refine wpAny_bind (wpAny_standAt (wpAny_bind ?_))
  show wpAny _ A (do let _ ← comprehension (.ListComp elt [⟨.Name x px, iter, [], 0⟩] scope pos) scope env _ (newList []) false (eval iter env) (some (assign (.Name y py) env))) _ _ s
  refine wpAny_bind (wpAny_mono (wpAny_comprehension_free (use := some (assign (.Name y py) env)) (Q := fun _ s' => Q .next s') rfl hs hclos hkind hnames
    (wpAny_mono h (fun xv s₁ h₁ => ?_) fun _ _ e => e)) (fun _ s' hq => wpAny_pure (wpAny_pure hq)) fun _ _ e => e)
  obtain ⟨t, u, news, rfl, hasc, hh, hsz, F, N, R⟩ := h₁
  refine wpAny_pyIter_ascii hasc ?_
  refine block_U (Walks.strAscii hh s₁.heap.objs.size t u) hsz (fun i h st => let ⟨o, ho, _⟩ := st; ⟨o, ho⟩) (fun i h h' o nw st e e' _ _ _ => let ⟨o', q, r⟩ := st; ⟨o', by rw [e'] ; rw [e] at q; exact q, r⟩) hcell hkind hx ⟨_, Heap.get?_push_size _ rfl, rfl, rfl⟩ (fun b hb => ?_)
    (F.keeps fun _ _ e => Heap.get?_push_of_some _ e) (N.grown fun _ _ e => Heap.get?_push_of_some _ e) (Nat.ne_of_lt F.ns.lt) (next_is_new F) (fun p hp => Nat.ne_of_lt (Heap.lt_size (N p hp).1)) trivial (R _ ⟨_, rfl⟩) ?_
  · rw [List.mem_singleton.mp hb]
    show s₁.heap.objs.size < (s₁.heap.push _).objs.size
    rw [Heap.size_push]; exact Nat.lt_succ_self _
  · intro D C h tk m' ys news' F' N' o1 hn hC₀ hD₀ hCL hDL hCD offC fin
    show wpAny _ A (assign (.Name y py) env (.ref D)) _ _ _
    refine wpAny_assign_Name (wpAny_storeName_local hy F'.ns (fun h₂ hn₂ hs₂ => ?_) hp)
    have hL₀ : h₀.get? env.locals = none := Heap.get?_none_of_le F'.above
    have F₂ : Fr h₀ env.locals h₂ (fun z => if z = y then some (.ref D) else m z) := ⟨hn₂, fun b o e => hs₂.extBut b o (fun q => by rw [q, hL₀] at e; cases e) (F'.keep b o e), F'.above⟩
    refine ⟨m', hn.sameBut hs₂ hCL, fun h'' hs'' => fin D h'' _ (F₂.change hs'' hCL hC₀) (fun p hp => ?_) o1⟩
    have z : h₂.get? p.1 = some p.2 := hs₂.extBut _ _ (N' p hp).2.1 (N' p hp).1
    refine ⟨hs''.extBut _ _ ?_ z, (N' p hp).2⟩
    rcases List.mem_cons.mp hp with rfl | hp
    · exact Ne.symm hCD
    · exact offC p hp
end
section
variable {M : Model} {A : Around} {E : Value → Shared → Prop} {s : Shared} {h₀ : Heap} {L C c : Addr} {news pre cells frz : List (Addr × Obj)} {scope : Scope} {cl clL : List (Str × Addr)} {cm : Str → Option Value} {env : Env} {x : Str} {pos : Pos} {v : Value} {Q : Value → Shared → Prop}
theorem nameCC (N : News h₀ L s.heap news) (P : App news pre (cells ++ frz)) (Y : CellsAre cm clL cells) (hc : cl.lookup x = some c) (hcl : clL.lookup x = some c) (hv : cm x = some v) (h : Q v s)
    (hk : (compEnvC scope cl C env).scope.kind = .function) (hx : (compEnvC scope cl C env).kindOf x = some .cell) (hb : (x == ("__debug__" : Str)) = false) :
    wpAny M A (eval (.Name x pos) (compEnvC scope cl C env)) Q E s := by
  obtain ⟨o, hm, hd⟩ := cells_find Y hcl
  rw [hv] at hd
  rw [P.eq] at N
  exact lcf_cell N hc (List.mem_append.mpr (.inr (List.mem_append.mpr (.inl hm)))) hd h hk hx hb
end
theorem all_D {w : World} {x dx hl : Addr} {u u1 : Tok} {nm : Str} {hs : List (Addr × Str × Str)} {n : Nat} {p : Program} {loose : List Str} {mean : ExcName → Option Value} {mg mb : Str → Option Value} {A A₀ : Around} {outer : List Env} {base g : Heap} {s : Shared} {L : Addr} {m : Str → Option Value} {env : Env} {news tmp : List (Addr × Obj)} {l : List (Str × Str)} {Q E : Value → Shared → Prop}
    (hn : Nice nm) (hlw : Nice (Txt.lower nm)) (hz : hs.length ≤ 32) (hx : (x, instObj 231 dx) ∈ news) (hdx : (dx, dictOf (hdrEs w u hl) 1) ∈ news) (hhl : (hl, listOf (itsOf hs) n) ∈ news) (hok : HsOk tmp hs l) (htn : ∀ q ∈ tmp, q ∈ news) (hnice : ∀ q ∈ l, Nice q.1)
    (B : Below A₀ base outer g) (X : (nk.heap_1 w.params).In g) (T : Top p loose mean mg mb g) (F : Fr g L s.heap m) (N : News g L s.heap news) (D : NDup news) (hh : A.handled = none) (hA : A.frames = some (env :: outer)) (hk : env.scope.kind ≠ .module) (hf : env.frame = some L)
    (hdp : A.depth + 2 < recursionLimit) (hun : A.units + 16 < cLine)
    (h : ∀ G lt k h' tk', lt.map (·.1) = (l.filter fun p => Txt.lower p.1 == Txt.lower nm).map (·.2) → s.toks ≤ tk' → Fr g L h' m → News g L h' ((G, listOf (PySem.strValues lt).toArray k) :: news) → NDup ((G, listOf (PySem.strValues lt).toArray k) :: news) → Q (.ref G) { s with heap := h', toks := tk' }) :
    wpAny (MM w) A (call (.ref 170) [.ref x, .str nm u1]) Q E s := by
  refine kp_callD (all_c w x dx hl u u1 nm hs n hn hlw hz) B X T F N hh hA hk hf hdp hun ⟨(N _ hx).1, (N _ hdx).1, (N _ hhl).1, fun q hq => ?_⟩ ?_
  · obtain ⟨u, v, hm⟩ := hok.2 q hq
    exact ⟨u, v, (N _ (htn _ hm)).1, hnice q.2 (hok.1 ▸ List.mem_map_of_mem hq)⟩
  · rintro v h' tk' own ⟨G, lt, k, rfl, hm, he⟩ ht F' N' a
    refine h G lt k h' tk' ?_ ht F' (own_one N' D hm a).1 (own_one N' D hm a).2
    rw [he, ← hok.1, List.filter_map, List.map_map]
    rfl
end

section
theorem calm_PB6 : True := by
  w_top off
  exact trivial
open PySem.W
noncomputable def abcS (i : Nat) : Str := ⟨#[[65, 98, 99].getD i 0]⟩
noncomputable def txS (K : Nat → Nat → Int) (i j : Nat) : Str := Str.ofString (toString (K i j))
theorem low_eqs : ((List.range 9).all fun q => (List.range 3).all fun i => (Txt.lower (nmS q) == Txt.lower (abcS i)) == (q / 3 == i)) = true := by decide +kernel
theorem low_eq {q i : Nat} (hq : q < 9) (hi : i < 3) : (Txt.lower (nmS q) == Txt.lower (abcS i)) = (q / 3 == i) := by
  have := List.all_eq_true.mp (List.all_eq_true.mp low_eqs q (List.mem_range.mpr hq)) i (List.mem_range.mpr hi)
  exact eq_of_beq this
theorem abc_nice {i : Nat} (hi : i < 3) : Nice (abcS i) ∧ Nice (Txt.lower (abcS i)) := by
  rcases i with _ | _ | _ | i <;> first | lia | exact ⟨nice_of (by decide +kernel), nice_of (by decide +kernel)⟩
theorem hues_at (K : Nat → Nat → Int) {i : Nat} (hi : i < 3) : ((hdrs K 9).filter fun p => Txt.lower p.1 == Txt.lower (abcS i)).map (·.2) = [txS K i 0, txS K i 1, txS K i 2] := by
  unfold hdrs
  rw [List.filter_map, List.map_map]
  have e : (List.range 9).filter ((fun p : Str × Str => Txt.lower p.1 == Txt.lower (abcS i)) ∘ fun q => (nmS (3 * (q % 3) + q / 3), Str.ofString (toString (K (q % 3) (q / 3))))) = (List.range 9).filter fun q => q % 3 == i := by
    refine List.filter_congr fun q hq => ?_
    have hq := List.mem_range.mp hq
    show (Txt.lower (nmS (3 * (q % 3) + q / 3)) == Txt.lower (abcS i)) = _
    rw [low_eq (by lia) hi, show (3 * (q % 3) + q / 3) / 3 = q % 3 by lia]
  rw [e]
  rcases i with _ | _ | _ | i
  · rfl
  · rfl
  · rfl
  · lia
theorem hdrs_nice (K : Nat → Nat → Int) : ∀ q ∈ hdrs K 9, Nice q.1 := by
  intro q hq
  obtain ⟨r, hr, rfl⟩ := List.mem_map.mp hq
  have := List.mem_range.mp hr
  exact nmS_nice (show 3 * (r % 3) + r / 3 < 9 by lia)
/-- the rows of hues -/
noncomputable def RowsTo (K : Nat → Nat → Int) (tmp : List (Addr × Obj)) (i : Nat) (ys : List Value) : Prop :=
  ys.length = i ∧ ∀ b, b < i → ∃ Rb n t0 t1 t2, ys[b]? = some (.ref Rb) ∧ (Rb, listOf #[.int (K b 0) t0, .int (K b 1) t1, .int (K b 2) t2] n) ∈ tmp
theorem RowsTo.push {K : Nat → Nat → Int} {tmp tmp' : List (Addr × Obj)} {i : Nat} {ys : List Value} {R : Addr} {n : Nat} {t0 t1 t2 : Tok} (h : RowsTo K tmp i ys) (hs : ∀ p ∈ tmp, p ∈ tmp') (hm : (R, listOf #[.int (K i 0) t0, .int (K i 1) t1, .int (K i 2) t2] n) ∈ tmp') :
    RowsTo K tmp' (i + 1) (ys ++ [.ref R]) := by
  refine ⟨by simp [h.1], fun b hb => ?_⟩
  by_cases e : b = i
  · subst e; exact ⟨R, n, t0, t1, t2, by simp [← h.1], hm⟩
  · obtain ⟨Rb, n, a, c, d, e1, e2⟩ := h.2 b (by lia)
    exact ⟨Rb, n, a, c, d, by rw [List.getElem?_append_left (by rw [h.1]; lia)]; exact e1, hs _ e2⟩
theorem words_17 : True := by
  k_with "m eval ListComp" => case' fresh => (k_here; k_dflt (refine' hold ?_))
  k_with "m CompSrc" => case' fresh => (k_dflt (refine' hold ?_))
  k_with "m CompEnd" => case' fresh => (k_dflt (refine' hold ?_))
  k_with "m FinE" => case' fresh => (k_dflt (refine' hold ?_))
  k_with "m eval Name" => case' fresh => (k_here; (with_reducible show wpAny _ _ (eval (Expr.Name _ _) (compEnvC _ _ _ _)) _ _ _); k_dflt (refine' nameCC ?N ?P ?Y ?c ?e ?v ?_ ?a ?b ?d; (case Y => with_reducible assumption); (case b | a => exact rfl); (case N => k_asm); (case P => walk_at "k_app"); (case c | e | v => exact rfl); (case d => decide); k_whole))
  k_with "m call ref" => case' fresh => (k_here; (with_reducible show wpAny _ _ (call (Value.ref 170) _) _ _ _); (with_reducible rename NDup _ => D9k); k_dflt (refine' all_D ?h1 ?h2 ?h3 ?h4 ?h5 ?h6 ?ok ?h7 ?h8 ?k1 ?k2 ?k3 ?k4 ?k5 D9k rfl rfl nofun rfl ?ka ?kb ?_; (case ok => with_reducible assumption); (case h1 | h2 | h3 => assumption); (case h8 => exact hdrs_nice _); (case k1 => k_asm); (case k2 | k3 => with_reducible assumption); (case k4 | k5 => k_asm); (case h4 | h5 | h6 => k_mem); (case h7 => assumption); (case ka | kb => walk_at "m_un")); intro _ _ _ _ _ _ _ _ _ _; clear D9k; (try k_sweep))
  k_with "m call type:int" => case' fresh => (k_here; k_dflt (refine' KIN.call_num ?a ?b ?_; (case a | b => lia)))
  exact trivial
theorem abc_get {i : Nat} {c : Nat} (hi : i < 3) (h : (#[65, 98, 99] : Array Nat)[i]? = some c) : (⟨#[c]⟩ : Str) = abcS i := by
  rcases lt3 hi with rfl | rfl | rfl <;> cases h <;> rfl
theorem strs3_of {lt : List (Str × Tok)} {a b c : Str} (h : lt.map (·.1) = [a, b, c]) : ∃ u0 u1 u2, lt = [(a, u0), (b, u1), (c, u2)] := by
  obtain ⟨⟨x, u0⟩, ⟨y, u1⟩, ⟨z, u2⟩, rfl⟩ := lst3 (show lt.length = 3 by simpa using congrArg List.length h)
  cases h; exact ⟨u0, u1, u2, rfl⟩
theorem strs3_get {K : Nat → Nat → Int} {i j : Nat} {v : Value} {u0 u1 u2 : Tok} (hj : j < 3) (h : (PySem.strValues [(txS K i 0, u0), (txS K i 1, u1), (txS K i 2, u2)]).toArray[j]? = some v) : ∃ u3, v = .str (Str.ofString (toString (K i j))) u3 := by
  rcases lt3 hj with rfl | rfl | rfl
  · exact ⟨u0, (Option.some.inj h).symm⟩
  · exact ⟨u1, (Option.some.inj h).symm⟩
  · exact ⟨u2, (Option.some.inj h).symm⟩
theorem take3 {f : Nat → Int} {j : Nat} (hj : j < 3) : [f 0, f 1, f 2].take (j + 1) = [f 0, f 1, f 2].take j ++ [f j] := by
  rcases lt3 hj with rfl | rfl | rfl <;> rfl
theorem phB4 
    (B : Below A₀ base outer g) (X : (nk.heap_1 w.params).In g) (T : Top p loose mean mg mb g) (hd : dp + 8 < recursionLimit) (hu : un + 64 < cLine)
    {m cm : Str → Option Value} {bo x dx hl : Addr} {n : Nat} {u : Tok} {K : Nat → Nat → Int} {cells frz tmp0 : List (Addr × Obj)} {hs : List (Addr × Str × Str)} {s : Shared} {R : Flow → Shared → Prop}
    (hK : ∀ i j, i < 3 → j < 3 → 0 ≤ K i j ∧ K i j < 1024) (hx : (x, instObj 231 dx) ∈ frz) (hdx : (dx, dictOf (hdrEs w u hl) 1) ∈ frz) (hhl : (hl, listOf (itsOf hs) n) ∈ frz) (hok : HsOk tmp0 hs (hdrs K 9)) (htf : ∀ q ∈ tmp0, q ∈ frz)
    (F : Fr g L s.heap m) (hm : AtL m [("boxes", .ref bo)]) (htk : 0 < s.toks)
    (N : News g L s.heap (cells ++ frz)) (D : NDup (cells ++ frz))
    (Y : CellsAre cm (lawCl L) cells) (hcm : AtL cm [("told", .ref x)])
    (done : ∀ h' tk m' tmp H ys n', Fr g L h' m' → AtL m' [("boxes", .ref bo), ("hues", .ref H)] →
      News g L h' ((H, listOf ys.toArray n') :: (cells ++ (tmp ++ frz))) → NDup ((H, listOf ys.toArray n') :: (cells ++ (tmp ++ frz))) → RowsTo K tmp 3 ys → R .next { s with heap := h', toks := tk }) :
    wpAny (MM w) ((TopA dp un gd outer).deeper (lawEnv L fa cd)) (exec stB4.1 (lawEnv L fa cd)) R (fun _ _ => False) s := by
  rw [← kst_at hm] at F
  replace Y := cells_kst Y hcm
  unfold stB4
  dsimp only
  refine Assign_ListComp_S (F₀ := F) rfl (by with_unfolding_all rfl) (by with_unfolding_all rfl) (by decide) rfl (by decide) rfl rfl rfl ?_
  walk1
  refine ⟨_, _, _, rfl, by decide +kernel, rfl, by decide +kernel, F, N, fun s₂ hs₂ => ?_⟩
  obtain ⟨h2, rfl⟩ := hs₂
  refine compV_ind (fun i ys nx => ∃ tmp, nx = cells ++ (tmp ++ frz) ∧ NDup nx ∧ RowsTo K tmp i ys) (fun k i ys nx hi hinv ih => ?_) (fun ys nx hinv => ?_) ⟨[], rfl, D, rfl, fun _ h => absurd h (Nat.not_lt_zero _)⟩
  · obtain ⟨tmp, rfl, D₁, hrows⟩ := hinv
    refine LCg.CompRest.succ ?_
    intro v I oI C oC Dd m₂ h₃ tk₃ E₃ hv hC hx₂ F₂ N₂ off ne
    clear F N
    obtain ⟨c, uc, hc, rfl⟩ := hv
    have hi3 : i < 3 := by
      have : (Str.ofString "Abc").cps.size = 3 := by decide +kernel
      lia
    have hcv : (⟨#[c]⟩ : Str) = abcS i := by
      have e3 : (Str.ofString "Abc").cps = #[65, 98, 99] := by decide +kernel
      rw [e3] at hc
      exact abc_get hi3 hc
    rw [hcv] at hx₂
    obtain ⟨nice1, nice2⟩ := abc_nice hi3
    have hlen : hs.length ≤ 32 := by
      have := hok.len
      simp [itsOf] at this; lia
    have D₂ := nd_off3 (a := oI) (b := oC) (c := LCg.lst ys) D₁ off ne
    have htf2 : ∀ q ∈ tmp0, q ∈ (I, oI) :: (C, oC) :: (Dd, LCg.lst ys) :: (cells ++ (tmp ++ frz)) := fun q hq => .tail _ (.tail _ (.tail _ (List.mem_append.mpr (.inr (List.mem_append.mpr (.inr (htf q hq)))))))
    k_steps
    unfold Hold
    refine LCg.ListComp_U (F₀ := F₂) (by rfl) (by decide) rfl (by decide) rfl ?_
    k_steps
    unfold Hold
    rename_i G lt kG _ _ he _ F3 N3 D3
    rw [hues_at K hi3] at he
    obtain ⟨u0, u1, u2, rfl⟩ := strs3_of he
    refine LCg.CompSrc.ledger (its := (PySem.strValues [(txS K i 0, u0), (txS K i 1, u1), (txS K i 2, u2)]).toArray) rfl F3 N3 (by k_mem) (show 3 ≤ sizeLine by decide +kernel) (fun g9 => ?_)
    refine compU_ind (fun j zs => IntsAre zs ([K i 0, K i 1, K i 2].take j)) (fun k2 j zs hj hz ih2 => ?_) (fun zs hz => ?_) .nil
    · refine LCg.CompRest.succ ?_
      intro v2 I2 oI2 C2 oC2 D2 m3 h4 tk4 E4 hv2 hC2 hx3 F4 N4 off2 ne2
      have hj3 : j < 3 := by simp [PySem.strValues] at hj; lia
      have hKb := hK i j hi3 hj3
      obtain ⟨u3, rfl⟩ := strs3_get hj3 hv2
      have htake := take3 (f := K i) hj3
      k_steps
      unfold Hold
      refine LCg.CompEnd.intro F4 N4 _ (fun p hp => hp) off2 (.inr ⟨_, .head _, rfl, _, rfl⟩) (ih2 _ ?_)
      rw [htake]
      exact hz.append (.cons _ _ .nil)
    · unfold LCg.FinE
      intro D' h' tk' F' N' o1'
      try k_unfold
      have D4 := NDup.cons (o := LCg.lst zs) D3 (Off1.of o1')
      obtain ⟨N8, D8⟩ := refreeze (cells := cells) (frz := tmp ++ frz) (keep := [(I, oI), (C, oC), (Dd, LCg.lst ys)]) (by walk_at "k_app") (by walk_at "k_part") N' D4
      refine LCg.CompEnd.intro F' N8 _ (fun p hp => hp) (off3_nd D8) trivial (ih _ _ ⟨[_, _] ++ tmp, rfl, D8.tail.tail.tail, ?_⟩)
      obtain ⟨z0, z1, z2, tz0, tz1, tz2, e1, rfl⟩ := three_of hz rfl
      cases e1
      exact hrows.push (fun p hp => List.mem_append.mpr (.inr hp)) (List.mem_append.mpr (.inl (.head _)))
  · obtain ⟨tmp, rfl, D₁, hrows⟩ := hinv
    unfold LCg.FinA
    intro D' h' tk' F' N' o1'
    have e3 : (Str.ofString "Abc").cps.size = 3 := by decide +kernel
    rw [e3] at hrows
    exact done h' tk' _ tmp D' ys _ F' ⟨rfl, rfl, trivial⟩ N' (NDup.cons D₁ (Off1.of o1')) hrows
end

section
theorem words_18 : True := by
  k_with_none
  k_with "m p_enter" => case' fresh => (refine wpAny_call ?_; k_dflt (refine' p_enter ?k1 ?k3 ?k5 ?k6 ?k7 ?k8 ?k9 ?kB ?_ ?c2 ?c3 ?c4 ?c5; (case k1 | k3 | k5 => assumption); (case k6 | k7 => k_is); (case k8 => lia); (case k9 => first | exact BindsTo.of_eq rfl | exact binds_K (by k_in) rfl (by k_is) rfl rfl rfl); (case kB => exact locs rfl); (case c5 => decide); (case c2 | c3 | c4 => exact rfl); k_whole; intro _ _ _ _; (try dsimp only); (try k_fold)))
  k_with "m subscriptTail Name Constant ref int" => case' fresh => (k_here; k_dflt (refine' item_base ?F ?l ?a ?b ?d ?_; (case F => k_asm); (case l => with_reducible assumption); (case a | b => decide); (case d => exact rfl); k_whole))
  k_with "m subscriptTail Name Constant ref int" => case' fresh => (k_here; k_dflt (refine' tup_base ?F ?l ?a ?b ?j ?d ?_; (case F => k_asm); (case l => with_reducible assumption); (case a | b => decide); (case j | d => exact rfl); k_whole))
  k_with "m binaryOp Mult int int" => case' fresh => (k_dflt (refine' mul_smallL ?a ?b ?_; (case a | b => lia)))
  k_with "m binaryOp Mult int int" => case' fresh => (k_dflt (refine' mul_smallR ?a ?b ?_; (case a | b => lia)))
  k_with "m call builtin:max" => case' fresh => (k_here; (with_reducible show wpAny _ _ (call (Value.builtin "max") [Value.float _ _, Value.float _ _, Value.float _ _]) _ _ _); k_dflt (refine' max3_ex ?a ?b ?c ?d ?F ?N ?_; (case a | b | c => assumption); (case d => exact rfl); (case F | N => k_asm); intro _ _ _ _ _ _ hle'k F'k N'k; (try dsimp only at hle'k); (revert hle'k F'k N'k; intro _ _ _); (try k_sweep)))
  k_with "m call builtin:min" => case' fresh => (k_here; (with_reducible show wpAny _ _ (call (Value.builtin "min") [Value.float _ _, Value.float _ _, Value.float _ _]) _ _ _); k_dflt (refine' min3_ex ?a ?b ?c ?d ?F ?N ?_; (case a | b | c => assumption); (case d => exact rfl); (case F | N => k_asm); intro _ _ _ _ _ _ hle'k F'k N'k; (try dsimp only at hle'k); (revert hle'k F'k N'k; intro _ _ _); (try k_sweep)))
  k_with "m assign Tuple" => case' fresh => ((rename IntsAre _ _ => i9k); (rename (List.length _ = _) => e9k); (obtain ⟨a9, b9, c9, ta9, tb9, tc9, e8, e7⟩ := three_of i9k e9k); subst e8; subst e7; (walk_at "assign Tuple"))
  k_with "m call builtin:max" => case' fresh => (k_here; (with_reducible show wpAny _ _ (call (Value.builtin "max") (Value.int _ _ :: _)) _ _ _); k_dflt ((first | refine' max3_i ?d ?F ?N ?_ | refine' max2_i ?d ?F ?N ?_); (case d => exact rfl); (case F | N => k_asm); intro _ _ _ _ _; (try k_sweep)))
  k_with "m call builtin:min" => case' fresh => (k_here; (with_reducible show wpAny _ _ (call (Value.builtin "min") (Value.int _ _ :: _)) _ _ _); k_dflt ((first | refine' min3_i ?d ?F ?N ?_ | refine' min2_i ?d ?F ?N ?_); (case d => exact rfl); (case F | N => k_asm); intro _ _ _ _ _; (try k_sweep)))
  k_with "m ite" => case' fresh => (k_dflt (first | (refine' ite_eq_tt ?a ?b ?c ?_; (case a | b => assumption); (case c => lia)) | (refine' ite_eq_ff ?a ?b ?c ?_; (case a | b => assumption); (case c => lia))))
  k_with "m p_leaf" => case' fresh => (rename Fr _ _ _ _ => F9k; rename News _ _ _ _ => N9k; rename ∀ (_ : Value) (_ : Heap) (_ : Nat) (_ : List (Addr × Obj)), _ => hret9k; refine hret9k _ _ _ _ ?_ F9k.keep (fun q hq => ⟨(N9k q hq).1, (N9k q hq).2.2⟩))
  k_with "m execs cons" => case' fresh => (k_here; k_dflt (refine' gen_toks ?p ?_; (case p => first | with_reducible assumption | exact Nat.succ_pos _ | lia | (dsimp only; first | exact Nat.succ_pos _ | lia)); (intro _ _; (try dsimp only); refine wpAny_execs_cons ?_)))
  k_with "m p_toks" => case' fresh => (first | with_reducible assumption | exact Nat.succ_ne_zero _ | exact Nat.pos_iff_ne_zero.mp (by assumption) | exact tok_or3 (by assumption) (by assumption))
  k_with "m d_pos" => case' fresh => (first | with_reducible assumption | exact Nat.succ_pos _ | (dsimp only; first | exact Nat.succ_pos _ | omega) | omega)
  k_with "m l_bd" => case' fresh => (refine And.intro ?_ ?_ <;> (first | lia | l_bnd))
  k_with "m k_app" => case' fresh => (first | exact App.nil | (refine' App.cons ?pa; (case pa => walk_at "k_app")))
  k_with "m k_updN" => case' fresh => (first | exact UpdN.head | (refine' UpdN.tail ?pa; (case pa => walk_at "k_updN")))
  k_with "m k_part" => case' fresh => (first | exact Part.nil | (refine' Part.keep ?pa; (case pa => walk_at "k_part")) | (refine' Part.tmp ?pa; (case pa => walk_at "k_part")))
  k_with "m eval Name" => case' fresh => (k_here; k_dflt (refine' nameC ?N ?P ?Y ?c ?v ?_ ?a ?b ?d; (case Y => with_reducible assumption); (case b | a => exact rfl); (case N => k_asm); (case P => walk_at "k_app"); (case c | v => exact rfl); (case d => decide); k_whole))
  k_with "m eval Name" => case' fresh => (k_here; k_dflt (refine' nameX_L ?F ?v ?_ ?a ?b; (case F => k_asm); (case b | a | v => exact rfl); k_whole))
  k_with "m storeName" => case' fresh => (k_here; (with_reducible rename CellsAre _ _ _ => Y9k); (with_reducible rename NDup _ => D9k); k_dflt (refine' storeC ?F ?N D9k ?P Y9k ?c ?n ?_ ?a ?b; (case b | a => exact rfl); (case F | N => k_asm); (case P => walk_at "k_app"); (case c => exact rfl); (case n => exact lawCl_nd _); k_whole); intro _ _ _ N'k D'k Y'k; clear Y9k D9k; (try dsimp only [List.cons_append, List.nil_append] at N'k D'k); (revert N'k D'k Y'k; intro _ _ _); (try k_sweep))
  k_with "m storeName" => case' fresh => (k_here; k_dflt (refine' storeX_L ?F ?N ?_ ?a ?b; (case b | a => rfl); (case F | N => k_asm); k_whole); intro _ _ _; (try k_sweep))
  k_with "m newTuple" => case' fresh => (k_here; (with_reducible rename NDup _ => D9k); k_dflt (refine' newTup_D ?F ?N D9k ?_ ?z; (case F | N => k_asm); (case z => size_fits); k_whole); intro _ _ _ _ _; clear D9k; (try k_sweep))
  k_with "m newList" => case' fresh => (k_here; (with_reducible rename NDup _ => D9k); k_dflt (refine' newList_D ?F ?N D9k ?_ ?z; (case F | N => k_asm); (case z => size_fits); k_whole); intro _ _ _ _ _; clear D9k; (try k_sweep))
  k_with "m call builtin:list.append" => case' fresh => (k_here; (with_reducible rename NDup _ => D9k); k_dflt (refine' append_D ?F ?N D9k ?U ?_ ?z; (case F | N => k_asm); (case U => walk_at "k_updN"); (case z => first | size_fits | (simp only [Array.size_push] at *; lia)); k_whole); intro _ _ _ _; clear D9k; (try k_sweep))
  k_with "m call ref" => case' fresh => (k_here; (with_reducible show wpAny _ _ (call (Value.ref 242) _) _ _ _); (with_reducible rename NDup _ => D9k); k_dflt (refine' parts_D ?b0 ?b1 ?b2 ?k1 ?k2 ?k3 ?k4 ?k5 D9k rfl rfl nofun rfl ?ka ?kb ?kc ?_; (case b0 | b1 | b2 => walk_at "l_bd"); (case k1 => k_asm); (case k2 | k3 => with_reducible assumption); (case k4 | k5 => k_asm); (case ka | kb => walk_at "m_un"); (case kc => walk_at "d_pos")); intro _ _ _ _ _ _ _ _ _ _ _ _ _ _; clear D9k; (try k_sweep))
  k_with "m call ref" => case' fresh => (k_here; (with_reducible show wpAny _ _ (call (Value.ref 59) _) _ _ _); (with_reducible rename NDup _ => D9k); k_dflt (refine' h2r_D ?a1 ?a2 ?a3 ?b0 ?b1 ?b2 ?a4 ?k1 ?k2 ?k3 ?k4 ?k5 D9k rfl rfl nofun rfl ?ka ?kb ?kc ?_; (case a1 | a2 | a3 => assumption);(case b0 | b1 | b2 => walk_at "l_bd");(case a4 => walk_at "p_toks"); (case k1 => k_asm); (case k2 | k3 => with_reducible assumption); (case k4 | k5 => k_asm); (case ka | kb => walk_at "m_un"); (case kc => walk_at "d_pos")); intro _ _ _ _ _ _ _ _ _ _ _ _ _ _ _ _ _; clear D9k; (try k_sweep))
  k_with "m call ref" => case' fresh => (k_here; (with_reducible show wpAny _ _ (call (Value.ref 52) _) _ _ _); (with_reducible rename NDup _ => D9k); k_dflt (refine' r2h_D ?a1 ?a2 ?a3 ?b0 ?b1 ?b2 ?a4 ?k1 ?k2 ?k3 ?k4 ?k5 D9k rfl rfl nofun rfl ?ka ?kb ?kc ?_; (case a1 | a2 | a3 => assumption);(case b0 | b1 | b2 => walk_at "l_bd");(case a4 => assumption); (case k1 => k_asm); (case k2 | k3 => with_reducible assumption); (case k4 | k5 => k_asm); (case ka | kb => walk_at "m_un"); (case kc => walk_at "d_pos")); intro _ _ _ _ _ _ _ _ _ _ _ _ _ _ _ _ _; clear D9k; (try k_sweep))
  k_with "m m_un" => case' fresh => ((try simp only [depth_in1, depth_deeper, units_in1, units_deeper, Around.mark_units]); (try dsimp only); lia)
  k_with "m binaryOp Div int int" => case' fresh => (k_here; k_dflt (refine' div_by (g := 10) ?k1 ?k2 ?k3 ?k4 ?_; (case k1 | k2 => decide); (case k3 | k4 => first | lia | l_bnd); k_whole; intro _ _; (try dsimp only)))
  k_with "m binaryOp Div int int" => case' fresh => (k_here; k_dflt (refine' div_by (g := 2) ?k1 ?k2 ?k3 ?k4 ?_; (case k1 | k2 => decide); (case k3 | k4 => first | lia | l_bnd); k_whole; intro _ _; (try dsimp only)))
  k_with "m binaryOp Div int int" => case' fresh => (k_here; k_dflt (refine' div_by (g := 14) ?k1 ?k2 ?k3 ?k4 ?_; (case k1 | k2 => decide); (case k3 | k4 => first | lia | l_bnd); k_whole; intro _ _; (try dsimp only)))
  k_with "m call builtin:sum" => case' fresh => (k_here; k_dflt (refine' sum_pick ?k1 ?k2 ?k3 ?k5 ?_; (case k1 => exact rfl); (case k2 | k3 => k_asm); (case k5 => with_reducible assumption); k_whole; intro _ _ _ _ hle'k F'k N'k; (try dsimp only at hle'k); (revert hle'k F'k N'k; intro _ _ _); (with_reducible rename NDup _ => D9k); (have D'k := NDup.tail D9k); clear D9k; (revert D'k; intro _); (try k_sweep)))
  k_with "m binaryOp Mult float int" => case' fresh => (k_here; k_dflt (refine' mul_1024 ?a ?b ?_; (case a => assumption); (case b => walk_at "l_bd"); k_whole; intro _ _; (try dsimp only)))
  k_with "m call type:int" => case' fresh => (k_here; k_dflt (refine' int_f ?a ?b ?c ?_; (case a => exact rfl); (case b => assumption); (case c => lia); k_whole))
  k_with "m compareOp NotEq ref ref" => case' fresh => (k_here; k_dflt (refine' ne_tup ?F ?X ?N ?a ?b ?c1 ?c2 ?c3 ?c4 ?c5 ?c6 ?d1 ?d2 ?e ?_; (case F | X | N => k_asm); (case a | b => k_mem); (case c1 | c2 | c3 | c4 | c5 | c6 => assumption); (case d1 | d2 => walk_at "p_toks3"); (case e => walk_at "m_un"); k_whole))
  k_with "m p_toks3" => case' fresh => (first | with_reducible assumption | exact ⟨by walk_at "p_toks", by walk_at "p_toks", by walk_at "p_toks"⟩)
  k_with "m p_toks" => case' fresh => (first | with_reducible assumption | exact Nat.succ_ne_zero _ | exact Nat.pos_iff_ne_zero.mp (by assumption) | lia)
  k_with "m pyIter ref" => case' fresh => (k_here; k_dflt (refine' hold ?_))
  k_with "m exec For Name Call cons nil" => case' fresh => (k_here; (rename Fr _ _ _ _ => lF'k); (with_unfolding_all refine' For_turns lF'k ?_); k_whole)
  k_with "m exec For Tuple Tuple cons nil" => case' fresh => (k_here; (rename Fr _ _ _ _ => lF'k); (with_unfolding_all refine' For_turns lF'k ?_); k_whole)
  k_with "m binaryOp Mod int int" => case' fresh => (k_here; k_dflt (refine' mod_g ?k1 ?_; (case k1 => first | decide | lia); k_whole); intro _ _ _ r1'k; (try dsimp only at r1'k); (revert r1'k; intro _); (try dsimp only))
  k_with "m subscriptTail Name Constant ref int" => case' fresh => (k_here; k_dflt (refine' idxT ?N ?m ?a ?b ?d ?_ ?s; (case N => k_asm); (case m => k_mem); (case a | b => first | decide | lia); (case d => first | exact rfl | assumption); (case s => with_unfolding_all rfl); k_whole))
  k_with "m subscriptTail Subscript Constant ref int" => case' fresh => (k_here; k_dflt (refine' idxT ?N ?m ?a ?b ?d ?_ ?s; (case N => k_asm); (case m => k_mem); (case a | b => first | decide | lia); (case d => first | exact rfl | assumption); (case s => with_unfolding_all rfl); k_whole))
  k_with "m subscriptTail Subscript Name ref int" => case' fresh => (k_here; k_dflt (refine' idxT ?N ?m ?a ?b ?d ?_ ?s; (case N => k_asm); (case m => k_mem); (case a | b => first | decide | lia); (case d => first | exact rfl | assumption); (case s => with_unfolding_all rfl); k_whole))
  k_with "m subscriptTail Name Name ref int" => case' fresh => (k_here; k_dflt (refine' idxT ?N ?m ?a ?b ?d ?_ ?s; (case N => k_asm); (case m => k_mem); (case a | b => first | decide | lia); (case d => first | exact rfl | assumption); (case s => with_unfolding_all rfl); k_whole))
  k_with "m subscriptTail Name Constant ref int" => case' fresh => (k_here; k_dflt (refine' idxL ?N ?m ?a ?b ?d ?_ ?s; (case N => k_asm); (case m => k_mem); (case a | b => first | decide | lia); (case d => first | exact rfl | assumption); (case s => with_unfolding_all rfl); k_whole))
  k_with "m subscriptTail Subscript Constant ref int" => case' fresh => (k_here; k_dflt (refine' idxL ?N ?m ?a ?b ?d ?_ ?s; (case N => k_asm); (case m => k_mem); (case a | b => first | decide | lia); (case d => first | exact rfl | assumption); (case s => with_unfolding_all rfl); k_whole))
  k_with "m subscriptTail Subscript Name ref int" => case' fresh => (k_here; k_dflt (refine' idxL ?N ?m ?a ?b ?d ?_ ?s; (case N => k_asm); (case m => k_mem); (case a | b => first | decide | lia); (case d => first | exact rfl | assumption); (case s => with_unfolding_all rfl); k_whole))
  k_with "m subscriptTail Name Name ref int" => case' fresh => (k_here; k_dflt (refine' idxL ?N ?m ?a ?b ?d ?_ ?s; (case N => k_asm); (case m => k_mem); (case a | b => first | decide | lia); (case d => first | exact rfl | assumption); (case s => with_unfolding_all rfl); k_whole))
  k_with "m subscriptTail Name Name ref int" => case' fresh => (k_here; k_dflt (refine' idx_push ?N ?m ?a ?b ?_ ?s; (case N => k_asm); (case m => k_mem); (case a => first | rfl | lia); (case b => lia); (case s => with_unfolding_all rfl); k_whole))
  k_with "m subscriptTail Tuple Name ref int" => case' fresh => (k_here; k_dflt (refine' idx3 ?N ?m ?a ?b ?_ ?s; (case N => k_asm); (case m => k_mem); (case a | b => lia); (case s => with_unfolding_all rfl); k_whole); intro _ _)
  k_with "m assign Tuple" => case' fresh => (k_here; k_dflt (refine' unpackN_ ?F ?N ?T ?k1 ?k2 ?k3 ?_; (case F | N => k_asm); (case T => refine News.isTup (by k_asm) (by k_mem)); (case k1 | k2 | k3 => exact rfl)); intro _ _ _; (try k_sweep))
  exact trivial
theorem calm_PB7 : True := by
  w_top off
  exact trivial
open PySem.W
theorem len3 {prog : Program} {w : World} {A : Around} {E : Value → Shared → Prop} {s : Shared} {g : Heap} {L D : Addr} {news : List (Addr × Obj)} {a b c : Value} {n : Nat} {Q : Value → Shared → Prop} (N : News g L s.heap news) (hm : (D, listOf #[a, b, c] n) ∈ news) (h : Q (.int 3 (s.toks + 1)) { s with toks := s.toks + 1 + 1 }) :
    wpAny (model prog w) A (call (.builtin "len") [.ref D]) Q E s := call_len_list ⟨_, (N _ hm).1, rfl, _, rfl⟩ (show ((3 : Nat) : Int) < 2 ^ 63 by decide) h
theorem ne_333 {prog : Program} {w : World} {A : Around} {E : Value → Shared → Prop} {s : Shared} {g : Heap} {L a b : Addr} {news : List (Addr × Obj)} {n n' : Nat} {t0 t1 t2 u0 u1 u2 : Tok} {Q : Value → Shared → Prop} (N : News g L s.heap news)
    (ha : (a, listOf [Value.int 3 t0, .int 3 t1, .int 3 t2].toArray n) ∈ news) (hb : (b, listOf #[Value.int 3 u0, .int 3 u1, .int 3 u2] n') ∈ news) (hu : A.units + 64 < cLine) (h : Q (.bool false) s) :
    wpAny (model prog w) A (compareOp .NotEq (.ref a) (.ref b)) Q E s :=
  ke_ne_ints (ns := [3, 3, 3]) (ms := [3, 3, 3]) ⟨_, (N _ ha).1, rfl, _, rfl⟩ ⟨_, (N _ hb).1, rfl, _, rfl⟩ (.cons _ _ (.cons _ _ (.cons _ _ .nil))) (.cons _ _ (.cons _ _ (.cons _ _ .nil))) hu h
theorem words_19 : True := by
  k_with "m compareOp NotEq ref ref" => case' fresh => (k_here; k_dflt (refine' ne_333 ?N ?a ?b ?u ?_; (case N => k_asm); (case a | b => k_mem); (case u => walk_at "m_un")))
  k_with "m eval ListComp" => case' fresh => (k_here; k_dflt (refine' hold ?_))
  k_with "m CompSrc" => case' fresh => (k_dflt (refine' hold ?_))
  k_with "m CompEnd" => case' fresh => (k_dflt (refine' hold ?_))
  k_with "m FinE" => case' fresh => (k_dflt (refine' hold ?_))
  k_with "m call builtin:len" => case' fresh => (k_here; k_dflt (refine' len3 ?N ?m ?_; (case N => k_asm); (case m => k_mem)))
  exact trivial
theorem phB5 
    (B : Below A₀ base outer g) (X : (nk.heap_1 w.params).In g) (T : Top p loose mean mg mb g) (hd : dp + 8 < recursionLimit) (hu : un + 128 < cLine)
    {m cm : Str → Option Value} {bo H : Addr} {n : Nat} {ys : List Value} {K : Nat → Nat → Int} {cells frz tmp0 : List (Addr × Obj)} {s : Shared} {R : Flow → Shared → Prop}
    (hH : (H, listOf ys.toArray n) ∈ frz) (hr : RowsTo K tmp0 3 ys) (htf : ∀ q ∈ tmp0, q ∈ frz)
    (F : Fr g L s.heap m) (hm : AtL m [("boxes", .ref bo), ("hues", .ref H)])
    (N : News g L s.heap (cells ++ frz)) (D : NDup (cells ++ frz))
    (Y : CellsAre cm (lawCl L) cells)
    (done : ∀ h' tk m' tmp, Fr g L h' m' → AtL m' [("boxes", .ref bo), ("hues", .ref H)] →
      News g L h' (cells ++ (tmp ++ frz)) → NDup (cells ++ (tmp ++ frz)) → R .next { s with heap := h', toks := tk }) :
    wpAny (MM w) ((TopA dp un gd outer).deeper (lawEnv L fa cd)) (exec stB5.1 (lawEnv L fa cd)) R (fun _ _ => False) s := by
  rw [← kst_at hm] at F
  unfold stB5
  dsimp only
  k_steps
  unfold Hold
  refine LCg.ListComp_U (F₀ := F) (by rfl) (by decide) rfl (by decide) rfl ?_
  k_steps
  unfold Hold
  rename Fr _ _ _ _ => F1
  rename News _ _ _ _ => N1
  refine LCg.CompSrc.ledger (its := ys.toArray) rfl F1 N1 (by k_mem) (by simp [hr.1]; decide +kernel) (fun g9 => ?_)
  refine compU_ind (fun j zs => IntsAre zs (List.replicate j 3)) (fun k2 j zs hj hz ih2 => ?_) (fun zs hz => ?_) .nil
  · refine LCg.CompRest.succ ?_
    intro v2 I2 oI2 C2 oC2 D2 m3 h4 tk4 E4 hv2 hC2 hx3 F4 N4 off2 ne2
    have hj3 : j < 3 := by have := hr.1; simp at hj; omega
    obtain ⟨Rb, nR, t0, t1, t2, e1, e2⟩ := hr.2 j hj3
    obtain rfl : v2 = .ref Rb := by simp [e1] at hv2; exact hv2.symm
    have e2 := htf _ e2
    k_steps
    unfold Hold
    refine LCg.CompEnd.intro F4 N4 _ (fun p hp => hp) off2 (.inr ⟨_, by k_mem, rfl, _, rfl⟩) (ih2 _ ?_)
    rw [List.replicate_succ']
    exact hz.append (.cons _ _ .nil)
  · unfold LCg.FinE
    intro D' h' tk' F' N' o1'
    rw [show ys.toArray.size = 3 by simp [hr.1]] at hz
    obtain ⟨z0, z1, z2, tz0, tz1, tz2, e1, rfl⟩ := three_of hz rfl
    cases e1
    have D4 := NDup.cons (o := LCg.lst [.int 3 tz0, .int 3 tz1, .int 3 tz2]) D (Off1.of o1')
    clear D
    k_steps
    rename Fr _ _ _ _ => F9
    rename News _ _ _ _ => N9
    rename NDup _ => D9
    obtain ⟨N8, D8⟩ := refreeze (keep := []) (cells := cells) (frz := frz) (by walk_at "k_app") (by walk_at "k_part") N9 D9
    exact done _ _ _ _ F9 ⟨rfl, rfl, trivial⟩ N8 D8
end

section
theorem words_20 : True := by
  k_with_none
  k_with "m p_enter" => case' fresh => (refine wpAny_call ?_; k_dflt (refine' p_enter ?k1 ?k3 ?k5 ?k6 ?k7 ?k8 ?k9 ?kB ?_ ?c2 ?c3 ?c4 ?c5; (case k1 | k3 | k5 => assumption); (case k6 | k7 => k_is); (case k8 => lia); (case k9 => first | exact BindsTo.of_eq rfl | exact binds_K (by k_in) rfl (by k_is) rfl rfl rfl); (case kB => exact locs rfl); (case c5 => decide); (case c2 | c3 | c4 => exact rfl); k_whole; intro _ _ _ _; (try dsimp only); (try k_fold)))
  k_with "m subscriptTail Name Constant ref int" => case' fresh => (k_here; k_dflt (refine' item_base ?F ?l ?a ?b ?d ?_; (case F => k_asm); (case l => with_reducible assumption); (case a | b => decide); (case d => exact rfl); k_whole))
  k_with "m subscriptTail Name Constant ref int" => case' fresh => (k_here; k_dflt (refine' tup_base ?F ?l ?a ?b ?j ?d ?_; (case F => k_asm); (case l => with_reducible assumption); (case a | b => decide); (case j | d => exact rfl); k_whole))
  k_with "m binaryOp Mult int int" => case' fresh => (k_dflt (refine' mul_smallL ?a ?b ?_; (case a | b => lia)))
  k_with "m binaryOp Mult int int" => case' fresh => (k_dflt (refine' mul_smallR ?a ?b ?_; (case a | b => lia)))
  k_with "m call builtin:max" => case' fresh => (k_here; (with_reducible show wpAny _ _ (call (Value.builtin "max") [Value.float _ _, Value.float _ _, Value.float _ _]) _ _ _); k_dflt (refine' max3_ex ?a ?b ?c ?d ?F ?N ?_; (case a | b | c => assumption); (case d => exact rfl); (case F | N => k_asm); intro _ _ _ _ _ _ hle'k F'k N'k; (try dsimp only at hle'k); (revert hle'k F'k N'k; intro _ _ _); (try k_sweep)))
  k_with "m call builtin:min" => case' fresh => (k_here; (with_reducible show wpAny _ _ (call (Value.builtin "min") [Value.float _ _, Value.float _ _, Value.float _ _]) _ _ _); k_dflt (refine' min3_ex ?a ?b ?c ?d ?F ?N ?_; (case a | b | c => assumption); (case d => exact rfl); (case F | N => k_asm); intro _ _ _ _ _ _ hle'k F'k N'k; (try dsimp only at hle'k); (revert hle'k F'k N'k; intro _ _ _); (try k_sweep)))
  k_with "m assign Tuple" => case' fresh => ((rename IntsAre _ _ => i9k); (rename (List.length _ = _) => e9k); (obtain ⟨a9, b9, c9, ta9, tb9, tc9, e8, e7⟩ := three_of i9k e9k); subst e8; subst e7; (walk_at "assign Tuple"))
  k_with "m call builtin:max" => case' fresh => (k_here; (with_reducible show wpAny _ _ (call (Value.builtin "max") (Value.int _ _ :: _)) _ _ _); k_dflt ((first | refine' max3_i ?d ?F ?N ?_ | refine' max2_i ?d ?F ?N ?_); (case d => exact rfl); (case F | N => k_asm); intro _ _ _ _ _; (try k_sweep)))
  k_with "m call builtin:min" => case' fresh => (k_here; (with_reducible show wpAny _ _ (call (Value.builtin "min") (Value.int _ _ :: _)) _ _ _); k_dflt ((first | refine' min3_i ?d ?F ?N ?_ | refine' min2_i ?d ?F ?N ?_); (case d => exact rfl); (case F | N => k_asm); intro _ _ _ _ _; (try k_sweep)))
  k_with "m ite" => case' fresh => (k_dflt (first | (refine' ite_eq_tt ?a ?b ?c ?_; (case a | b => assumption); (case c => lia)) | (refine' ite_eq_ff ?a ?b ?c ?_; (case a | b => assumption); (case c => lia))))
  k_with "m p_leaf" => case' fresh => (rename Fr _ _ _ _ => F9k; rename News _ _ _ _ => N9k; rename ∀ (_ : Value) (_ : Heap) (_ : Nat) (_ : List (Addr × Obj)), _ => hret9k; refine hret9k _ _ _ _ ?_ F9k.keep (fun q hq => ⟨(N9k q hq).1, (N9k q hq).2.2⟩))
  k_with "m execs cons" => case' fresh => (k_here; k_dflt (refine' gen_toks ?p ?_; (case p => first | with_reducible assumption | exact Nat.succ_pos _ | lia | (dsimp only; first | exact Nat.succ_pos _ | lia)); (intro _ _; (try dsimp only); refine wpAny_execs_cons ?_)))
  k_with "m p_toks" => case' fresh => (first | with_reducible assumption | exact Nat.succ_ne_zero _ | exact Nat.pos_iff_ne_zero.mp (by assumption) | exact tok_or3 (by assumption) (by assumption))
  k_with "m d_pos" => case' fresh => (first | with_reducible assumption | exact Nat.succ_pos _ | (dsimp only; first | exact Nat.succ_pos _ | omega) | omega)
  k_with "m l_bd" => case' fresh => (refine And.intro ?_ ?_ <;> (first | lia | l_bnd))
  k_with "m k_app" => case' fresh => (first | exact App.nil | (refine' App.cons ?pa; (case pa => walk_at "k_app")))
  k_with "m k_updN" => case' fresh => (first | exact UpdN.head | (refine' UpdN.tail ?pa; (case pa => walk_at "k_updN")))
  k_with "m k_part" => case' fresh => (first | exact Part.nil | (refine' Part.keep ?pa; (case pa => walk_at "k_part")) | (refine' Part.tmp ?pa; (case pa => walk_at "k_part")))
  k_with "m eval Name" => case' fresh => (k_here; k_dflt (refine' nameC ?N ?P ?Y ?c ?v ?_ ?a ?b ?d; (case Y => with_reducible assumption); (case b | a => exact rfl); (case N => k_asm); (case P => walk_at "k_app"); (case c | v => exact rfl); (case d => decide); k_whole))
  k_with "m eval Name" => case' fresh => (k_here; k_dflt (refine' nameX_L ?F ?v ?_ ?a ?b; (case F => k_asm); (case b | a | v => exact rfl); k_whole))
  k_with "m storeName" => case' fresh => (k_here; (with_reducible rename CellsAre _ _ _ => Y9k); (with_reducible rename NDup _ => D9k); k_dflt (refine' storeC ?F ?N D9k ?P Y9k ?c ?n ?_ ?a ?b; (case b | a => exact rfl); (case F | N => k_asm); (case P => walk_at "k_app"); (case c => exact rfl); (case n => exact lawCl_nd _); k_whole); intro _ _ _ N'k D'k Y'k; clear Y9k D9k; (try dsimp only [List.cons_append, List.nil_append] at N'k D'k); (revert N'k D'k Y'k; intro _ _ _); (try k_sweep))
  k_with "m storeName" => case' fresh => (k_here; k_dflt (refine' storeX_L ?F ?N ?_ ?a ?b; (case b | a => rfl); (case F | N => k_asm); k_whole); intro _ _ _; (try k_sweep))
  k_with "m newTuple" => case' fresh => (k_here; (with_reducible rename NDup _ => D9k); k_dflt (refine' newTup_D ?F ?N D9k ?_ ?z; (case F | N => k_asm); (case z => size_fits); k_whole); intro _ _ _ _ _; clear D9k; (try k_sweep))
  k_with "m newList" => case' fresh => (k_here; (with_reducible rename NDup _ => D9k); k_dflt (refine' newList_D ?F ?N D9k ?_ ?z; (case F | N => k_asm); (case z => size_fits); k_whole); intro _ _ _ _ _; clear D9k; (try k_sweep))
  k_with "m call builtin:list.append" => case' fresh => (k_here; (with_reducible rename NDup _ => D9k); k_dflt (refine' append_D ?F ?N D9k ?U ?_ ?z; (case F | N => k_asm); (case U => walk_at "k_updN"); (case z => first | size_fits | (simp only [Array.size_push] at *; lia)); k_whole); intro _ _ _ _; clear D9k; (try k_sweep))
  k_with "m call ref" => case' fresh => (k_here; (with_reducible show wpAny _ _ (call (Value.ref 242) _) _ _ _); (with_reducible rename NDup _ => D9k); k_dflt (refine' parts_D ?b0 ?b1 ?b2 ?k1 ?k2 ?k3 ?k4 ?k5 D9k rfl rfl nofun rfl ?ka ?kb ?kc ?_; (case b0 | b1 | b2 => walk_at "l_bd"); (case k1 => k_asm); (case k2 | k3 => with_reducible assumption); (case k4 | k5 => k_asm); (case ka | kb => walk_at "m_un"); (case kc => walk_at "d_pos")); intro _ _ _ _ _ _ _ _ _ _ _ _ _ _; clear D9k; (try k_sweep))
  k_with "m call ref" => case' fresh => (k_here; (with_reducible show wpAny _ _ (call (Value.ref 59) _) _ _ _); (with_reducible rename NDup _ => D9k); k_dflt (refine' h2r_D ?a1 ?a2 ?a3 ?b0 ?b1 ?b2 ?a4 ?k1 ?k2 ?k3 ?k4 ?k5 D9k rfl rfl nofun rfl ?ka ?kb ?kc ?_; (case a1 | a2 | a3 => assumption);(case b0 | b1 | b2 => walk_at "l_bd");(case a4 => walk_at "p_toks"); (case k1 => k_asm); (case k2 | k3 => with_reducible assumption); (case k4 | k5 => k_asm); (case ka | kb => walk_at "m_un"); (case kc => walk_at "d_pos")); intro _ _ _ _ _ _ _ _ _ _ _ _ _ _ _ _ _; clear D9k; (try k_sweep))
  k_with "m call ref" => case' fresh => (k_here; (with_reducible show wpAny _ _ (call (Value.ref 52) _) _ _ _); (with_reducible rename NDup _ => D9k); k_dflt (refine' r2h_D ?a1 ?a2 ?a3 ?b0 ?b1 ?b2 ?a4 ?k1 ?k2 ?k3 ?k4 ?k5 D9k rfl rfl nofun rfl ?ka ?kb ?kc ?_; (case a1 | a2 | a3 => assumption);(case b0 | b1 | b2 => walk_at "l_bd");(case a4 => assumption); (case k1 => k_asm); (case k2 | k3 => with_reducible assumption); (case k4 | k5 => k_asm); (case ka | kb => walk_at "m_un"); (case kc => walk_at "d_pos")); intro _ _ _ _ _ _ _ _ _ _ _ _ _ _ _ _ _; clear D9k; (try k_sweep))
  k_with "m m_un" => case' fresh => ((try simp only [depth_in1, depth_deeper, units_in1, units_deeper, Around.mark_units]); (try dsimp only); lia)
  k_with "m binaryOp Div int int" => case' fresh => (k_here; k_dflt (refine' div_by (g := 10) ?k1 ?k2 ?k3 ?k4 ?_; (case k1 | k2 => decide); (case k3 | k4 => first | lia | l_bnd); k_whole; intro _ _; (try dsimp only)))
  k_with "m binaryOp Div int int" => case' fresh => (k_here; k_dflt (refine' div_by (g := 2) ?k1 ?k2 ?k3 ?k4 ?_; (case k1 | k2 => decide); (case k3 | k4 => first | lia | l_bnd); k_whole; intro _ _; (try dsimp only)))
  k_with "m binaryOp Div int int" => case' fresh => (k_here; k_dflt (refine' div_by (g := 14) ?k1 ?k2 ?k3 ?k4 ?_; (case k1 | k2 => decide); (case k3 | k4 => first | lia | l_bnd); k_whole; intro _ _; (try dsimp only)))
  k_with "m call builtin:sum" => case' fresh => (k_here; k_dflt (refine' sum_pick ?k1 ?k2 ?k3 ?k5 ?_; (case k1 => exact rfl); (case k2 | k3 => k_asm); (case k5 => with_reducible assumption); k_whole; intro _ _ _ _ hle'k F'k N'k; (try dsimp only at hle'k); (revert hle'k F'k N'k; intro _ _ _); (with_reducible rename NDup _ => D9k); (have D'k := NDup.tail D9k); clear D9k; (revert D'k; intro _); (try k_sweep)))
  k_with "m binaryOp Mult float int" => case' fresh => (k_here; k_dflt (refine' mul_1024 ?a ?b ?_; (case a => assumption); (case b => walk_at "l_bd"); k_whole; intro _ _; (try dsimp only)))
  k_with "m call type:int" => case' fresh => (k_here; k_dflt (refine' int_f ?a ?b ?c ?_; (case a => exact rfl); (case b => assumption); (case c => lia); k_whole))
  k_with "m compareOp NotEq ref ref" => case' fresh => (k_here; k_dflt (refine' ne_tup ?F ?X ?N ?a ?b ?c1 ?c2 ?c3 ?c4 ?c5 ?c6 ?d1 ?d2 ?e ?_; (case F | X | N => k_asm); (case a | b => k_mem); (case c1 | c2 | c3 | c4 | c5 | c6 => assumption); (case d1 | d2 => walk_at "p_toks3"); (case e => walk_at "m_un"); k_whole))
  k_with "m p_toks3" => case' fresh => (first | with_reducible assumption | exact ⟨by walk_at "p_toks", by walk_at "p_toks", by walk_at "p_toks"⟩)
  k_with "m p_toks" => case' fresh => (first | with_reducible assumption | exact Nat.succ_ne_zero _ | exact Nat.pos_iff_ne_zero.mp (by assumption) | lia)
  k_with "m pyIter ref" => case' fresh => (k_here; k_dflt (refine' hold ?_))
  k_with "m exec For Name Call cons nil" => case' fresh => (k_here; (rename Fr _ _ _ _ => lF'k); (with_unfolding_all refine' For_turns lF'k ?_); k_whole)
  k_with "m exec For Tuple Tuple cons nil" => case' fresh => (k_here; (rename Fr _ _ _ _ => lF'k); (with_unfolding_all refine' For_turns lF'k ?_); k_whole)
  k_with "m binaryOp Mod int int" => case' fresh => (k_here; k_dflt (refine' mod_g ?k1 ?_; (case k1 => first | decide | lia); k_whole); intro _ _ _ r1'k; (try dsimp only at r1'k); (revert r1'k; intro _); (try dsimp only))
  k_with "m subscriptTail Name Constant ref int" => case' fresh => (k_here; k_dflt (refine' idxT ?N ?m ?a ?b ?d ?_ ?s; (case N => k_asm); (case m => k_mem); (case a | b => first | decide | lia); (case d => first | exact rfl | assumption); (case s => with_unfolding_all rfl); k_whole))
  k_with "m subscriptTail Subscript Constant ref int" => case' fresh => (k_here; k_dflt (refine' idxT ?N ?m ?a ?b ?d ?_ ?s; (case N => k_asm); (case m => k_mem); (case a | b => first | decide | lia); (case d => first | exact rfl | assumption); (case s => with_unfolding_all rfl); k_whole))
  k_with "m subscriptTail Subscript Name ref int" => case' fresh => (k_here; k_dflt (refine' idxT ?N ?m ?a ?b ?d ?_ ?s; (case N => k_asm); (case m => k_mem); (case a | b => first | decide | lia); (case d => first | exact rfl | assumption); (case s => with_unfolding_all rfl); k_whole))
  k_with "m subscriptTail Name Name ref int" => case' fresh => (k_here; k_dflt (refine' idxT ?N ?m ?a ?b ?d ?_ ?s; (case N => k_asm); (case m => k_mem); (case a | b => first | decide | lia); (case d => first | exact rfl | assumption); (case s => with_unfolding_all rfl); k_whole))
  k_with "m subscriptTail Name Constant ref int" => case' fresh => (k_here; k_dflt (refine' idxL ?N ?m ?a ?b ?d ?_ ?s; (case N => k_asm); (case m => k_mem); (case a | b => first | decide | lia); (case d => first | exact rfl | assumption); (case s => with_unfolding_all rfl); k_whole))
  k_with "m subscriptTail Subscript Constant ref int" => case' fresh => (k_here; k_dflt (refine' idxL ?N ?m ?a ?b ?d ?_ ?s; (case N => k_asm); (case m => k_mem); (case a | b => first | decide | lia); (case d => first | exact rfl | assumption); (case s => with_unfolding_all rfl); k_whole))
  k_with "m subscriptTail Subscript Name ref int" => case' fresh => (k_here; k_dflt (refine' idxL ?N ?m ?a ?b ?d ?_ ?s; (case N => k_asm); (case m => k_mem); (case a | b => first | decide | lia); (case d => first | exact rfl | assumption); (case s => with_unfolding_all rfl); k_whole))
  k_with "m subscriptTail Name Name ref int" => case' fresh => (k_here; k_dflt (refine' idxL ?N ?m ?a ?b ?d ?_ ?s; (case N => k_asm); (case m => k_mem); (case a | b => first | decide | lia); (case d => first | exact rfl | assumption); (case s => with_unfolding_all rfl); k_whole))
  k_with "m subscriptTail Name Name ref int" => case' fresh => (k_here; k_dflt (refine' idx_push ?N ?m ?a ?b ?_ ?s; (case N => k_asm); (case m => k_mem); (case a => first | rfl | lia); (case b => lia); (case s => with_unfolding_all rfl); k_whole))
  k_with "m subscriptTail Tuple Name ref int" => case' fresh => (k_here; k_dflt (refine' idx3 ?N ?m ?a ?b ?_ ?s; (case N => k_asm); (case m => k_mem); (case a | b => lia); (case s => with_unfolding_all rfl); k_whole); intro _ _)
  k_with "m assign Tuple" => case' fresh => (k_here; k_dflt (refine' unpackN_ ?F ?N ?T ?k1 ?k2 ?k3 ?_; (case F | N => k_asm); (case T => refine News.isTup (by k_asm) (by k_mem)); (case k1 | k2 | k3 => exact rfl)); intro _ _ _; (try k_sweep))
  exact trivial
theorem calm_C2 : True := by
  w_top off
  exact trivial
open PySem.W
section
variable {w : World} {p : Program} {loose : List Str} {mean : ExcName → Option Value} {mg mb : Str → Option Value} {A A₀ : Around} {outer : List Env} {base g : Heap} {s : Shared} {L : Addr} {m : Str → Option Value} {env : Env} {news : List (Addr × Obj)} {Q E : Value → Shared → Prop}
theorem hls_D2 {a b c : UInt64} {n : Int} {e : Nat} {t1 t2 t3 : Tok} (ha : Ex a n e) (hb : Ex b n e) (hc : Ex c n e) (hr2 : Rep (n + n).natAbs e) (hr : Rep n.natAbs e) (B : Below A₀ base outer g) (X : (nk.heap_1 w.params).In g) (T : Top p loose mean mg mb g) (F : Fr g L s.heap m) (N : News g L s.heap news) (D : NDup news) (hh : A.handled = none) (hA : A.frames = some (env :: outer)) (hk : env.scope.kind ≠ .module) (hf : env.frame = some L)
    (hdp : A.depth + 1 < recursionLimit) (hun : A.units + 8 < cLine) (htk : 0 < s.toks)
    (h : ∀ l c0 t0 t1 t2 h' tk', Ex c0 n e → (t0 ≠ 0 ∧ t1 ≠ 0 ∧ t2 ≠ 0) → 0 < tk' → Fr g L h' m → News g L h' ((l, tup3 (.float 0 t0) (.float c0 t1) (.float 0 t2)) :: news) → NDup ((l, tup3 (.float 0 t0) (.float c0 t1) (.float 0 t2)) :: news) → Q (.ref l) { s with heap := h', toks := tk' }) :
    wpAny (MM w) A (call (.ref 45) [.float a t1, .float b t2, .float c t3]) Q E s :=
  p_callD (hls_c2 w a b c t1 t2 t3 n e ha hb hc hr2 hr) B X T F N hh hA hk hf hdp hun htk trivial fun v h' tk' own hp ht F' N' a => by
    obtain ⟨l, c0, t0, t1, t2, e0, et, rfl, hm⟩ := hp
    exact h l c0 t0 t1 t2 h' tk' e0 et ht F' (own_one N' D hm a).1 (own_one N' D hm a).2
theorem cross_D {a1 a2 : Addr} {p0 p1 p2 q0 q1 q2 : Int} {t1 t2 t3 t4 t5 t6 : Tok} {n1 n2 : Nat} (l1 : (a1, listOf #[.int p0 t1, .int p1 t2, .int p2 t3] n1) ∈ news) (l2 : (a2, listOf #[.int q0 t4, .int q1 t5, .int q2 t6] n2) ∈ news) (b0 : 0 ≤ p0 ∧ p0 ≤ 16384) (b1 : 0 ≤ p1 ∧ p1 ≤ 16384) (b2 : 0 ≤ p2 ∧ p2 ≤ 16384) (B : Below A₀ base outer g) (X : (nk.heap_1 w.params).In g) (T : Top p loose mean mg mb g) (F : Fr g L s.heap m) (N : News g L s.heap news) (hh : A.handled = none) (hA : A.frames = some (env :: outer)) (hk : env.scope.kind ≠ .module) (hf : env.frame = some L)
    (hdp : A.depth + 1 < recursionLimit) (hun : A.units + 8 < cLine) (htk : 0 < s.toks)
    (h : ∀ x t h' tk', x = crs p0 p1 p2 q0 q1 q2 → 0 < tk' → Fr g L h' m → News g L h' news → Q (.int x t) { s with heap := h', toks := tk' }) :
    wpAny (MM w) A (call (.ref 249) [.ref a1, .ref a2]) Q E s :=
  cross_K (⟨b0.1, by omega⟩) (⟨b1.1, by omega⟩) (⟨b2.1, by omega⟩) ⟨_, (N _ l1).1, rfl, _, rfl⟩ ⟨_, (N _ l2).1, rfl, _, rfl⟩ B X T F N hh hA hk hf hdp hun htk fun t h' tk' ht F' N' => h _ t h' tk' rfl ht F' N'
theorem widest_D {a1 : Addr} {p0 p1 p2 : Int} {t1 t2 t3 : Tok} {n1 : Nat} (l1 : (a1, listOf #[.int p0 t1, .int p1 t2, .int p2 t3] n1) ∈ news) (B : Below A₀ base outer g) (X : (nk.heap_1 w.params).In g) (T : Top p loose mean mg mb g) (F : Fr g L s.heap m) (N : News g L s.heap news) (hh : A.handled = none) (hA : A.frames = some (env :: outer)) (hk : env.scope.kind ≠ .module) (hf : env.frame = some L)
    (hdp : A.depth + 1 < recursionLimit) (hun : A.units + 8 < cLine) (htk : 0 < s.toks)
    (h : ∀ t h' tk', 0 < tk' → Fr g L h' m → News g L h' news → Q (.int (wid p0 p1 p2) t) { s with heap := h', toks := tk' }) :
    wpAny (MM w) A (call (.ref 256) [.ref a1]) Q E s := widest_K ⟨_, (N _ l1).1, rfl, _, rfl⟩ B X T F N hh hA hk hf hdp hun htk h
end
section
variable {prog : Program} {w : World} {A : Around} {E : Value → Shared → Prop} {s : Shared} {g : Heap} {L : Addr} {m : Str → Option Value} {news : List (Addr × Obj)} {Q : Value → Shared → Prop} {value slice : Expr}
/-- a hue of a row at a place i -/
theorem rowAt {R : Addr} {ks : Nat → Int} {t0 t1 t2 u : Tok} {n i : Nat} (N : News g L s.heap news) (hm : (R, listOf #[.int (ks 0) t0, .int (ks 1) t1, .int (ks 2) t2] n) ∈ news) (hi : i < 3)
    (h : ∀ t, Q (.int (ks i) t) s) (hs : subscripted slice false (.ref R) (.int (i : Int) u) = operate [.ref R, .int (i : Int) u] (getItem (.ref R) (.int (i : Int) u))) :
    wpAny (model prog w) A (subscriptTail value slice (.ref R) (.int (i : Int) u)) Q E s := by
  refine idxL N hm (by omega) (by omega) (v := .int (ks i) (if i = 0 then t0 else if i = 1 then t1 else t2)) ?_ (h _) hs
  rw [Int.toNat_natCast]
  match i, hi with
  | 0, _ => rfl
  | 1, _ => rfl
  | 2, _ => rfl
/-- a colour's part at a place n -/
theorem colAt {C : Addr} {k sh va : Int} {c0 c1 c2 : UInt64} {t0 t1 t2 u : Tok} {n : Nat} (N : News g L s.heap news) (hm : (C, tup3 (.float c0 t0) (.float c1 t1) (.float c2 t2)) ∈ news) (e0 : Ex c0 (part k sh va 0) 14) (e1 : Ex c1 (part k sh va 2048) 14) (e2 : Ex c2 (part k sh va 4096) 14) (hn : n < 3)
    (h : ∀ c t, Ex c (part k sh va (2048 * (n : Int))) 14 → Q (.float c t) s) (hs : subscripted slice false (.ref C) (.int (n : Int) u) = operate [.ref C, .int (n : Int) u] (getItem (.ref C) (.int (n : Int) u))) :
    wpAny (model prog w) A (subscriptTail value slice (.ref C) (.int (n : Int) u)) Q E s := by
  match n, hn with
  | 0, _ => exact idxT N hm (by omega) (by omega) rfl (h _ _ e0) hs
  | 1, _ => exact idxT N hm (by omega) (by omega) rfl (h _ _ e1) hs
  | 2, _ => exact idxT N hm (by omega) (by omega) rfl (h _ _ e2) hs
theorem abs_D {a : Int} {t : Tok} (h : ∀ u tk, Q (.int (absI a) u) { s with toks := tk }) : wpAny (model prog w) A (call (.builtin "abs") [.int a t]) Q E s := call_abs_int h
theorem mulIF {x : UInt64} {a b : Int} {t u : Tok} (hx : Ex x b 14) (ha : 0 ≤ a ∧ a ≤ 536870912) (hb : 0 ≤ b ∧ b ≤ 16384) (h : ∀ y, Ex y (a * b) 14 → (0 ≤ a * b ∧ a * b ≤ 8796093022208) → Q (.float y s.toks) { s with toks := s.toks + 1 }) :
    wpAny (model prog w) A (binaryOp .Mult (.int a t) (.float x u)) Q E s := by
  have hi : Ex (Float64.ofInt a) a 0 := int_ex (by omega)
  have hr := prod_rng ha hb
  exact AutoFloatOps.mul_if_1 (by rw [not_inf hi]; decide) (h _ (by have := mul_ex hi hx ha.1 hb.1 (rep_of (by omega) (by omega)); simpa using this) hr)
theorem addFF {x y : UInt64} {a b : Int} {t u : Tok} (hx : Ex x a 14) (hy : Ex y b 14) (ha : 0 ≤ a ∧ a ≤ 70368744177664) (hb : 0 ≤ b ∧ b ≤ 70368744177664) (h : ∀ z, Ex z (a + b) 14 → Q (.float z s.toks) { s with toks := s.toks + 1 }) :
    wpAny (model prog w) A (binaryOp .Add (.float x t) (.float y u)) Q E s := AutoFloatOps.add_0 (h _ (add_ex hx hy (rep_of (by omega) (by omega))))
end
end

section
theorem calm_C3 : True := by
  w_top off
  exact trivial
open PySem.W
noncomputable def stC6 : { x : Stmt // lawSt 6 = x } := ⟨_, by conv => lhs; whnf⟩
noncomputable def stC7 : { x : Stmt // lawSt 7 = x } := ⟨_, by conv => lhs; whnf⟩
noncomputable def stC8 : { x : Stmt // lawSt 8 = x } := ⟨_, by conv => lhs; whnf⟩
noncomputable def bC1 : { x : List Stmt // bodyOf stC8.1 = x } := ⟨_, by conv => lhs; whnf⟩
noncomputable def stC81 : { x : Stmt // bC1.1.getD 0 pass0 = x } := ⟨_, by conv => lhs; whnf⟩
noncomputable def bC2 : { x : List Stmt // bodyOf stC81.1 = x } := ⟨_, by conv => lhs; whnf⟩
noncomputable def stC82 : { x : Stmt // bC2.1.getD 0 pass0 = x } := ⟨_, by conv => lhs; whnf⟩
noncomputable def bC3 : { x : List Stmt // bodyOf stC82.1 = x } := ⟨_, by conv => lhs; whnf⟩
/-- a tuple of the heap -/
noncomputable abbrev tupI (wd : Int) (i j k : Nat) (t0 t1 t2 t3 : Tok) : Obj := { cls := .type "tuple", data := .seq #[.int wd t0, .int (i : Int) t1, .int (j : Int) t2, .int (k : Int) t3] }
noncomputable def greyB (a b c : Int) : Bool := (decide (0 < cr b c) && decide (0 < cr c a) && decide (0 < cr a b)) || (decide (cr b c < 0) && decide (cr c a < 0) && decide (cr a b < 0))
theorem grey_iff (a b c : Int) : greyB a b c = true ↔ (0 < cr b c ∧ 0 < cr c a ∧ 0 < cr a b) ∨ (cr b c < 0 ∧ cr c a < 0 ∧ cr a b < 0) := by
  unfold greyB; simp only [Bool.or_eq_true, Bool.and_eq_true, decide_eq_true_eq, and_assoc]
theorem lt_min3 {x y z : Int} : 0 < min (min x y) z ↔ 0 < x ∧ 0 < y ∧ 0 < z := by rw [Int.lt_min, Int.lt_min, and_assoc]
theorem max3_lt {x y z : Int} : max (max x y) z < 0 ↔ x < 0 ∧ y < 0 ∧ z < 0 := by rw [Int.max_lt, Int.max_lt, and_assoc]
section
variable {a b c x y z : Int} (sx : (0 < x ↔ 0 < cr b c) ∧ (x < 0 ↔ cr b c < 0)) (sy : (0 < y ↔ 0 < cr c a) ∧ (y < 0 ↔ cr c a < 0)) (sz : (0 < z ↔ 0 < cr a b) ∧ (z < 0 ↔ cr a b < 0))
include sx sy sz
theorem grey_back (h : greyB a b c = true) : (0 < x ∧ 0 < y ∧ 0 < z) ∨ (x < 0 ∧ y < 0 ∧ z < 0) :=
  ((grey_iff a b c).mp h).imp (fun u => ⟨sx.1.mpr u.1, sy.1.mpr u.2.1, sz.1.mpr u.2.2⟩) fun u => ⟨sx.2.mpr u.1, sy.2.mpr u.2.1, sz.2.mpr u.2.2⟩
theorem grey_pos (h : 0 < min (min x y) z) : greyB a b c = true :=
  have u := lt_min3.mp h
  (grey_iff a b c).mpr (.inl ⟨sx.1.mp u.1, sy.1.mp u.2.1, sz.1.mp u.2.2⟩)
theorem grey_neg (h : max (max x y) z < 0) : greyB a b c = true :=
  have u := max3_lt.mp h
  (grey_iff a b c).mpr (.inr ⟨sx.2.mp u.1, sy.2.mp u.2.1, sz.2.mp u.2.2⟩)
theorem grey_no (h : ¬ 0 < min (min x y) z) (h' : ¬ max (max x y) z < 0) : greyB a b c = false := by
  cases e : greyB a b c with
  | false => rfl
  | true => exact ((grey_back sx sy sz e).elim (fun u => h (lt_min3.mpr u)) fun u => h' (max3_lt.mpr u)).elim
end
theorem paintC {prog : Program} {w : World} {A : Around} {E : Value → Shared → Prop} {s : Shared} {g : Heap} {L : Addr} {news f : List (Addr × Obj)} {Q : Value → Shared → Prop} {value slice : Expr} {Bx : Addr} {ks : Nat → Int} {u : Tok} {j : Nat} (N : News g L s.heap news) (hB : BoxAt f Bx ks) (hf : ∀ p ∈ f, p ∈ news) (hj : j < 3)
    (h : ∀ T P C n t0 t1 t2 t3 t4 t5 t6 t7 c0 c1 c2 sh va, (T, tup4 (.int (ks j) t0) (.ref P) (.ref C) (.str (Str.ofString (toString (ks j))) t1)) ∈ f →
      (P, listOf #[.int (part (ks j) sh va 0) t2, .int (part (ks j) sh va 2048) t3, .int (part (ks j) sh va 4096) t4] n) ∈ f → (C, tup3 (.float c0 t5) (.float c1 t6) (.float c2 t7)) ∈ f →
      Ex c0 (part (ks j) sh va 0) 14 → Ex c1 (part (ks j) sh va 2048) 14 → Ex c2 (part (ks j) sh va 4096) 14 → (0 ≤ ks j ∧ ks j < 1024) → (1 ≤ sh ∧ sh ≤ 4) → (1 ≤ va ∧ va ≤ 4) →
      (∀ c, 0 ≤ part (ks j) sh va c ∧ part (ks j) sh va c ≤ 16384) → Q (.ref T) s)
    (hs : subscripted slice false (.ref Bx) (.int (j : Int) u) = operate [.ref Bx, .int (j : Int) u] (getItem (.ref Bx) (.int (j : Int) u))) :
    wpAny (model prog w) A (subscriptTail value slice (.ref Bx) (.int (j : Int) u)) Q E s :=
  paintAt N hB hf rfl hj (fun T P C n t0 t1 t2 t3 t4 t5 t6 t7 c0 c1 c2 sh va m1 m2 m3 e0 e1 e2 _ hk h1 h2 => h T P C n t0 t1 t2 t3 t4 t5 t6 t7 c0 c1 c2 sh va m1 m2 m3 e0 e1 e2 hk h1 h2 fun c => ⟨(part_range c h1 h2).1, (part_range c h1 h2).2.2⟩) hs
end

section
theorem calm_C4a : True := by
  w_top off
  exact trivial
open PySem.W
noncomputable def thenOf : Stmt → List Stmt
  | .If _ b .. => b
  | _ => []
noncomputable def stIf : { x : Stmt // bC3.1.getD 5 pass0 = x } := ⟨_, by conv => lhs; whnf⟩
noncomputable def bG : { x : List Stmt // thenOf stIf.1 = x } := ⟨_, by conv => lhs; whnf⟩
theorem words_21 : True := by
  k_with "m subscriptTail Name Constant ref int" => case' fresh => (k_here; k_dflt (first | refine' idxL ?N ?m ?a ?b ?d ?_ ?s | refine' idxT ?N ?m ?a ?b ?d ?_ ?s); (case N => k_asm); (case m => k_mem); (case a | b => decide); (case d => exact rfl); (case s => with_unfolding_all rfl); k_whole)
  k_with "m call ref" => case' fresh => (k_here; (with_reducible show wpAny _ _ (call (Value.ref 256) _) _ _ _); k_dflt (refine' widest_D ?l1 ?k1 ?k2 ?k3 ?k4 ?k5 rfl rfl nofun rfl ?ka ?kb ?kc ?_; (case k1 => k_asm); (case k2 | k3 => with_reducible assumption); (case k4 | k5 => k_asm); (case l1 => k_mem); (case ka | kb => walk_at "m_un"); (case kc => walk_at "d_pos")); intro _ _ _ _ _ _; (try k_sweep))
  k_with "m CompSrc" => case' fresh => (k_dflt (refine' hold ?_))
  k_with "m CompEnd" => case' fresh => (k_dflt (refine' hold ?_))
  k_with "m eval Name" => case' fresh => (k_here; (with_reducible show wpAny _ _ (eval (Expr.Name _ _) (compEnvC _ _ _ _)) _ _ _); k_dflt (refine' nameCC ?N ?P ?Y ?c ?e ?v ?_ ?a ?b ?d; (case Y => with_reducible assumption); (case b | a => exact rfl); (case N => k_asm); (case P => walk_at "k_app"); (case c | e | v => exact rfl); (case d => decide); k_whole))
  k_with "m subscriptTail Name Name ref int" => case' fresh => (k_here; k_dflt (refine' colAt ?N ?m ?e0 ?e1 ?e2 ?b ?_ ?s; (case N => k_asm); (case m => k_mem); (case e0 | e1 | e2 | b => assumption); (case s => with_unfolding_all rfl)); intro _ _ _)
  k_with "m call builtin:abs" => case' fresh => (k_here; k_dflt (refine' abs_D ?_); intro _ _; (try dsimp only))
  k_with "m binaryOp Mult int float" => case' fresh => (k_here; k_dflt (refine' mulIF ?a ?b ?c ?_; (case a | b => assumption); (case c => apply_assumption)); intro _ _ _; (try dsimp only))
  k_with "m binaryOp Add float float" => case' fresh => (k_here; k_dflt (refine' addFF ?a ?b ?c ?d ?_; (case a | b => assumption); (case c | d => (constructor <;> lia))); intro _ _; (try dsimp only))
  k_with "m call ref" => case' fresh => (k_here; (with_reducible show wpAny _ _ (call (Value.ref 45) _) _ _ _); (with_reducible rename NDup _ => D9k); k_dflt (refine' hls_D2 ?a1 ?a2 ?a3 ?a4 ?a5 ?k1 ?k2 ?k3 ?k4 ?k5 D9k rfl rfl nofun rfl ?ka ?kb ?kc ?_; (case a1 | a2 | a3 => assumption); (case a4 | a5 => with_reducible assumption); (case k1 => k_asm); (case k2 | k3 => with_reducible assumption); (case k4 | k5 => k_asm); (case ka | kb => walk_at "m_un"); (case kc => walk_at "d_pos")); intro _ _ _ _ _ _ _ _ _ _ _ _ _; clear D9k; (try k_sweep))
  k_with "m exec Assign cons ListComp" => case' fresh => (k_here; k_dflt (refine' hold ?_))
  k_with "m exec If" => case' fresh => (k_here; k_dflt (refine' hold ?_))
  exact trivial
noncomputable def MixAt (f : Nat → Int) (i : Nat) (ys : List Value) : Prop := ys.length = i ∧ ∀ b, b < i → ∃ c t, ys[b]? = some (.float c t) ∧ Ex c (f b) 14 ∧ t ≠ 0
theorem MixAt.push {f : Nat → Int} {i : Nat} {ys : List Value} {c : UInt64} {t : Tok} (h : MixAt f i ys) (hc : Ex c (f i) 14) (ht : t ≠ 0) : MixAt f (i + 1) (ys ++ [.float c t]) := by
  refine ⟨by simp [h.1], fun b hb => ?_⟩
  by_cases e : b = i
  · subst e; exact ⟨c, t, by simp [← h.1], hc, ht⟩
  · obtain ⟨c, t, e1, e2⟩ := h.2 b (by lia)
    exact ⟨c, t, by rw [List.getElem?_append_left (by rw [h.1]; lia)]; exact e1, e2⟩
theorem MixAt.three {f : Nat → Int} {ys : List Value} (h : MixAt f 3 ys) : ∃ a b c t u v, ys = [.float a t, .float b u, .float c v] ∧ (Ex a (f 0) 14 ∧ t ≠ 0) ∧ (Ex b (f 1) 14 ∧ u ≠ 0) ∧ (Ex c (f 2) 14 ∧ v ≠ 0) := by
  obtain ⟨a, t, e1, p1⟩ := h.2 0 (by lia)
  obtain ⟨b, u, e2, p2⟩ := h.2 1 (by lia)
  obtain ⟨c, v, e3, p3⟩ := h.2 2 (by lia)
  obtain ⟨y0, y1, y2, rfl⟩ := lst3 h.1
  cases e1; cases e2; cases e3
  exact ⟨a, b, c, t, u, v, rfl, p1, p2, p3⟩
theorem greyC 
    (B : Below A₀ base outer g) (X : (nk.heap_1 w.params).In g) (T : Top p loose mean mg mb g) (hd : dp + 8 < recursionLimit) (hu : un + 128 < cLine)
    {m cm : Str → Option Value} {bo H hpA duA I1 I2 I3 T1 T2 T3 P1 P2 P3 C1 C2 C3 : Addr} {o1 o2 o3 : Obj} {nh nd i j k : Nat} {hv dv : Array Value} {cells frz : List (Addr × Obj)} {s : Shared} {R : Flow → Shared → Prop} {ti tj tk0 tx ty tz a0 a1 a2 a3 a4 b0 b1 b2 b3 b4 d0 d1 d2 d3 d4 : Tok}
    {q1 q2 q3 s1 v1 s2 v2 s3 v3 x y z : Int} {S1 S2 S3 : Str} {c10 c11 c12 c20 c21 c22 c30 c31 c32 : UInt64}
    (hT1 : (T1, tup4 (.int q1 a0) (.ref P1) (.ref C1) (.str S1 a1)) ∈ frz) (hT2 : (T2, tup4 (.int q2 b0) (.ref P2) (.ref C2) (.str S2 b1)) ∈ frz) (hT3 : (T3, tup4 (.int q3 d0) (.ref P3) (.ref C3) (.str S3 d1)) ∈ frz)
    (hC1 : (C1, tup3 (.float c10 a2) (.float c11 a3) (.float c12 a4)) ∈ frz) (hC2 : (C2, tup3 (.float c20 b2) (.float c21 b3) (.float c22 b4)) ∈ frz) (hC3 : (C3, tup3 (.float c30 d2) (.float c31 d3) (.float c32 d4)) ∈ frz)
    (e10 : Ex c10 (part q1 s1 v1 0) 14) (e11 : Ex c11 (part q1 s1 v1 2048) 14) (e12 : Ex c12 (part q1 s1 v1 4096) 14)
    (e20 : Ex c20 (part q2 s2 v2 0) 14) (e21 : Ex c21 (part q2 s2 v2 2048) 14) (e22 : Ex c22 (part q2 s2 v2 4096) 14)
    (e30 : Ex c30 (part q3 s3 v3 0) 14) (e31 : Ex c31 (part q3 s3 v3 2048) 14) (e32 : Ex c32 (part q3 s3 v3 4096) 14)
    (r1 : ∀ c, 0 ≤ part q1 s1 v1 c ∧ part q1 s1 v1 c ≤ 16384) (r2 : ∀ c, 0 ≤ part q2 s2 v2 c ∧ part q2 s2 v2 c ≤ 16384) (r3 : ∀ c, 0 ≤ part q3 s3 v3 c ∧ part q3 s3 v3 c ≤ 16384)
    (hx : x = crs (part q2 s2 v2 0) (part q2 s2 v2 2048) (part q2 s2 v2 4096) (part q3 s3 v3 0) (part q3 s3 v3 2048) (part q3 s3 v3 4096))
    (hy : y = crs (part q3 s3 v3 0) (part q3 s3 v3 2048) (part q3 s3 v3 4096) (part q1 s1 v1 0) (part q1 s1 v1 2048) (part q1 s1 v1 4096))
    (hz : z = crs (part q1 s1 v1 0) (part q1 s1 v1 2048) (part q1 s1 v1 4096) (part q2 s2 v2 0) (part q2 s2 v2 2048) (part q2 s2 v2 4096))
    (hs : (0 < x ∧ 0 < y ∧ 0 < z) ∨ (x < 0 ∧ y < 0 ∧ z < 0)) (hdv : dv.size ≤ 32) (htk : 0 < s.toks)
    (F : Fr g L s.heap m) (hm : AtL m [("boxes", .ref bo), ("hues", .ref H), ("heap", .ref hpA), ("due", .ref duA)])
    (N : News g L s.heap ((I3, o3) :: (I2, o2) :: (I1, o1) :: (hpA, listOf hv nh) :: (duA, listOf dv nd) :: (cells ++ frz))) (D : NDup ((I3, o3) :: (I2, o2) :: (I1, o1) :: (hpA, listOf hv nh) :: (duA, listOf dv nd) :: (cells ++ frz)))
    (Y : CellsAre cm (lawCl L) cells) (hcm : AtL cm [("i", .int (i : Int) ti), ("j", .int (j : Int) tj), ("k", .int (k : Int) tk0), ("one", .ref T1), ("two", .ref T2), ("three", .ref T3), ("x", .int x tx), ("y", .int y ty), ("z", .int z tz)])
    (done : ∀ h' tk m' tmp b u0 u1 u2 u3, Fr g L h' m' → AtL m' [("boxes", .ref bo), ("hues", .ref H), ("heap", .ref hpA), ("due", .ref duA)] →
      News g L h' ((I3, o3) :: (I2, o2) :: (I1, o1) :: (hpA, listOf hv nh) :: (duA, listOf (dv.push (.ref b)) (nd + 1)) :: (cells ++ (tmp ++ frz))) → NDup ((I3, o3) :: (I2, o2) :: (I1, o1) :: (hpA, listOf hv nh) :: (duA, listOf (dv.push (.ref b)) (nd + 1)) :: (cells ++ (tmp ++ frz))) →
      (b, tupI (wid q1 q2 q3) i j k u0 u1 u2 u3) ∈ tmp → R .next { s with heap := h', toks := tk }) :
    wpAny (MM w) ((TopA dp un gd outer).deeper (lawEnv L fa cd)) (execs bG.1 (lawEnv L fa cd)) R (fun _ _ => False) s := by
  rw [← kst_at hm] at F
  replace Y := cells_kst Y hcm
  unfold bG
  dsimp only
  k_steps
  unfold Hold
  rename_i T9 h9 h8 F9 N9 D9 tk9 ht9
  refine with_toks ?_
  refine LCg.Assign_ListComp_U (F₀ := F9) rfl (by with_unfolding_all rfl) (by with_unfolding_all rfl) (by decide) rfl (by decide) rfl rfl rfl ?_
  k_steps
  unfold Hold
  rename_i hR tkR tR uR vR hr F1 N1 kR
  dsimp only at hr
  clear kR
  have hX := crs_le hx (r2 _) (r2 _) (r2 _) (r3 _) (r3 _) (r3 _)
  have hY := crs_le hy (r3 _) (r3 _) (r3 _) (r1 _) (r1 _) (r1 _)
  have hZ := crs_le hz (r1 _) (r1 _) (r1 _) (r2 _) (r2 _) (r2 _)
  have aX := absI_range hX
  have aY := absI_range hY
  have aZ := absI_range hZ
  refine LCg.CompSrc.range (n := 3) rfl F1 N1 hr (by decide +kernel) (by decide +kernel) (by decide +kernel) fun g9 => ?_
  refine compU_ind (fun i ys => MixAt (fun b => mixI x y z (part q1 s1 v1 (2048 * (b : Nat))) (part q2 s2 v2 (2048 * (b : Nat))) (part q3 s3 v3 (2048 * (b : Nat)))) i ys) (fun k2 i zs hi hz2 ih2 => ?_) (fun zs hz2 => ?_) ⟨rfl, fun _ h => absurd h (Nat.not_lt_zero _)⟩
  · refine LCg.CompRest.succ ?_
    intro v I oI C oC D2 m3 h4 tk4 E4 hv hC2 hx3 F4 N4 off2 ne2
    obtain ⟨tv, rfl⟩ := hv
    have hn3 : i < 3 := by lia
    rw [show (0 : Int) + (i : Int) = (i : Int) by lia] at hx3
    clear F1 N1 hr
    k_steps
    unfold Hold
    rename_i hz9
    exact LCg.CompEnd.intro F4 N4 _ (fun p hp => hp) off2 trivial (ih2 _ (hz2.push hz9 (Nat.succ_ne_zero _)))
  · unfold LCg.FinA
    intro D' h' tk' F' N' o1' hle
    obtain ⟨c0, c1, c2, t0, t1, t2, rfl, ⟨m0, n0⟩, ⟨m1, n1⟩, ⟨m2, n2⟩⟩ := hz2.three
    have sm := mixI_same hx hy hz hs
    have rg := mixI_range hX hY hZ (r1 0) (r2 0) (r3 0)
    replace m0 : Ex c0 (mixI x y z (part q1 s1 v1 0) (part q2 s2 v2 0) (part q3 s3 v3 0)) 14 := m0
    replace m1 : Ex c1 (mixI x y z (part q1 s1 v1 2048) (part q2 s2 v2 2048) (part q3 s3 v3 2048)) 14 := m1
    replace m2 : Ex c2 (mixI x y z (part q1 s1 v1 4096) (part q2 s2 v2 4096) (part q3 s3 v3 4096)) 14 := m2
    rw [← sm.1] at m1
    rw [← sm.2] at m2
    clear sm hX hY hZ aX aY aZ hz2 F1 N1 hr
    generalize mixI x y z (part q1 s1 v1 0) (part q2 s2 v2 0) (part q3 s3 v3 0) = q at *
    have hr2 : Rep (q + q).natAbs 14 := rep_of (by lia) (by lia)
    have hr1 : Rep q.natAbs 14 := rep_of (by lia) (by lia)
    have z0 : Ex 0 0 0 := f0_ex 0
    have D9' := NDup.cons (o := LCg.lst [.float c0 t0, .float c1 t1, .float c2 t2]) D9 (Off1.of o1')
    clear D9 o1' rg
    have htk' : 0 < tk' := Nat.lt_of_lt_of_le ht9 hle
    k_steps
    unfold Hold
    refine wpAny_If ?_
    k_steps
    rename_i F5 N5 D5
    obtain ⟨N8, D8⟩ := refreeze (keep := [(I3, o3), (I2, o2), (I1, o1), (hpA, _), (duA, _)]) (cells := cells) (frz := frz) (by walk_at "k_app") (by walk_at "k_part") N5 D5
    exact done _ _ _ _ T9 _ _ _ _ F5 ⟨rfl, rfl, rfl, rfl, trivial⟩ N8 D8 (.tail _ (.tail _ (.tail _ (.head _))))
end

section
theorem words_22 : True := by
  k_with_none
  k_with "m p_enter" => case' fresh => (refine wpAny_call ?_; k_dflt (refine' p_enter ?k1 ?k3 ?k5 ?k6 ?k7 ?k8 ?k9 ?kB ?_ ?c2 ?c3 ?c4 ?c5; (case k1 | k3 | k5 => assumption); (case k6 | k7 => k_is); (case k8 => lia); (case k9 => first | exact BindsTo.of_eq rfl | exact binds_K (by k_in) rfl (by k_is) rfl rfl rfl); (case kB => exact locs rfl); (case c5 => decide); (case c2 | c3 | c4 => exact rfl); k_whole; intro _ _ _ _; (try dsimp only); (try k_fold)))
  k_with "m subscriptTail Name Constant ref int" => case' fresh => (k_here; k_dflt (refine' item_base ?F ?l ?a ?b ?d ?_; (case F => k_asm); (case l => with_reducible assumption); (case a | b => decide); (case d => exact rfl); k_whole))
  k_with "m subscriptTail Name Constant ref int" => case' fresh => (k_here; k_dflt (refine' tup_base ?F ?l ?a ?b ?j ?d ?_; (case F => k_asm); (case l => with_reducible assumption); (case a | b => decide); (case j | d => exact rfl); k_whole))
  k_with "m binaryOp Mult int int" => case' fresh => (k_dflt (refine' mul_smallL ?a ?b ?_; (case a | b => lia)))
  k_with "m binaryOp Mult int int" => case' fresh => (k_dflt (refine' mul_smallR ?a ?b ?_; (case a | b => lia)))
  k_with "m call builtin:max" => case' fresh => (k_here; (with_reducible show wpAny _ _ (call (Value.builtin "max") [Value.float _ _, Value.float _ _, Value.float _ _]) _ _ _); k_dflt (refine' max3_ex ?a ?b ?c ?d ?F ?N ?_; (case a | b | c => assumption); (case d => exact rfl); (case F | N => k_asm); intro _ _ _ _ _ _ hle'k F'k N'k; (try dsimp only at hle'k); (revert hle'k F'k N'k; intro _ _ _); (try k_sweep)))
  k_with "m call builtin:min" => case' fresh => (k_here; (with_reducible show wpAny _ _ (call (Value.builtin "min") [Value.float _ _, Value.float _ _, Value.float _ _]) _ _ _); k_dflt (refine' min3_ex ?a ?b ?c ?d ?F ?N ?_; (case a | b | c => assumption); (case d => exact rfl); (case F | N => k_asm); intro _ _ _ _ _ _ hle'k F'k N'k; (try dsimp only at hle'k); (revert hle'k F'k N'k; intro _ _ _); (try k_sweep)))
  k_with "m assign Tuple" => case' fresh => ((rename IntsAre _ _ => i9k); (rename (List.length _ = _) => e9k); (obtain ⟨a9, b9, c9, ta9, tb9, tc9, e8, e7⟩ := three_of i9k e9k); subst e8; subst e7; (walk_at "assign Tuple"))
  k_with "m call builtin:max" => case' fresh => (k_here; (with_reducible show wpAny _ _ (call (Value.builtin "max") (Value.int _ _ :: _)) _ _ _); k_dflt ((first | refine' max3_i ?d ?F ?N ?_ | refine' max2_i ?d ?F ?N ?_); (case d => exact rfl); (case F | N => k_asm); intro _ _ _ _ _; (try k_sweep)))
  k_with "m call builtin:min" => case' fresh => (k_here; (with_reducible show wpAny _ _ (call (Value.builtin "min") (Value.int _ _ :: _)) _ _ _); k_dflt ((first | refine' min3_i ?d ?F ?N ?_ | refine' min2_i ?d ?F ?N ?_); (case d => exact rfl); (case F | N => k_asm); intro _ _ _ _ _; (try k_sweep)))
  k_with "m ite" => case' fresh => (k_dflt (first | (refine' ite_eq_tt ?a ?b ?c ?_; (case a | b => assumption); (case c => lia)) | (refine' ite_eq_ff ?a ?b ?c ?_; (case a | b => assumption); (case c => lia))))
  k_with "m p_leaf" => case' fresh => (rename Fr _ _ _ _ => F9k; rename News _ _ _ _ => N9k; rename ∀ (_ : Value) (_ : Heap) (_ : Nat) (_ : List (Addr × Obj)), _ => hret9k; refine hret9k _ _ _ _ ?_ F9k.keep (fun q hq => ⟨(N9k q hq).1, (N9k q hq).2.2⟩))
  k_with "m execs cons" => case' fresh => (k_here; k_dflt (refine' gen_toks ?p ?_; (case p => first | with_reducible assumption | exact Nat.succ_pos _ | lia | (dsimp only; first | exact Nat.succ_pos _ | lia)); (intro _ _; (try dsimp only); refine wpAny_execs_cons ?_)))
  k_with "m p_toks" => case' fresh => (first | with_reducible assumption | exact Nat.succ_ne_zero _ | exact Nat.pos_iff_ne_zero.mp (by assumption) | exact tok_or3 (by assumption) (by assumption))
  k_with "m d_pos" => case' fresh => (first | with_reducible assumption | exact Nat.succ_pos _ | (dsimp only; first | exact Nat.succ_pos _ | omega) | omega)
  k_with "m l_bd" => case' fresh => (refine And.intro ?_ ?_ <;> (first | lia | l_bnd))
  k_with "m k_app" => case' fresh => (first | exact App.nil | (refine' App.cons ?pa; (case pa => walk_at "k_app")))
  k_with "m k_updN" => case' fresh => (first | exact UpdN.head | (refine' UpdN.tail ?pa; (case pa => walk_at "k_updN")))
  k_with "m k_part" => case' fresh => (first | exact Part.nil | (refine' Part.keep ?pa; (case pa => walk_at "k_part")) | (refine' Part.tmp ?pa; (case pa => walk_at "k_part")))
  k_with "m eval Name" => case' fresh => (k_here; k_dflt (refine' nameC ?N ?P ?Y ?c ?v ?_ ?a ?b ?d; (case Y => with_reducible assumption); (case b | a => exact rfl); (case N => k_asm); (case P => walk_at "k_app"); (case c | v => exact rfl); (case d => decide); k_whole))
  k_with "m eval Name" => case' fresh => (k_here; k_dflt (refine' nameX_L ?F ?v ?_ ?a ?b; (case F => k_asm); (case b | a | v => exact rfl); k_whole))
  k_with "m storeName" => case' fresh => (k_here; (with_reducible rename CellsAre _ _ _ => Y9k); (with_reducible rename NDup _ => D9k); k_dflt (refine' storeC ?F ?N D9k ?P Y9k ?c ?n ?_ ?a ?b; (case b | a => exact rfl); (case F | N => k_asm); (case P => walk_at "k_app"); (case c => exact rfl); (case n => exact lawCl_nd _); k_whole); intro _ _ _ N'k D'k Y'k; clear Y9k D9k; (try dsimp only [List.cons_append, List.nil_append] at N'k D'k); (revert N'k D'k Y'k; intro _ _ _); (try k_sweep))
  k_with "m storeName" => case' fresh => (k_here; k_dflt (refine' storeX_L ?F ?N ?_ ?a ?b; (case b | a => rfl); (case F | N => k_asm); k_whole); intro _ _ _; (try k_sweep))
  k_with "m newTuple" => case' fresh => (k_here; (with_reducible rename NDup _ => D9k); k_dflt (refine' newTup_D ?F ?N D9k ?_ ?z; (case F | N => k_asm); (case z => size_fits); k_whole); intro _ _ _ _ _; clear D9k; (try k_sweep))
  k_with "m newList" => case' fresh => (k_here; (with_reducible rename NDup _ => D9k); k_dflt (refine' newList_D ?F ?N D9k ?_ ?z; (case F | N => k_asm); (case z => size_fits); k_whole); intro _ _ _ _ _; clear D9k; (try k_sweep))
  k_with "m call builtin:list.append" => case' fresh => (k_here; (with_reducible rename NDup _ => D9k); k_dflt (refine' append_D ?F ?N D9k ?U ?_ ?z; (case F | N => k_asm); (case U => walk_at "k_updN"); (case z => first | size_fits | (simp only [Array.size_push] at *; lia)); k_whole); intro _ _ _ _; clear D9k; (try k_sweep))
  k_with "m call ref" => case' fresh => (k_here; (with_reducible show wpAny _ _ (call (Value.ref 242) _) _ _ _); (with_reducible rename NDup _ => D9k); k_dflt (refine' parts_D ?b0 ?b1 ?b2 ?k1 ?k2 ?k3 ?k4 ?k5 D9k rfl rfl nofun rfl ?ka ?kb ?kc ?_; (case b0 | b1 | b2 => walk_at "l_bd"); (case k1 => k_asm); (case k2 | k3 => with_reducible assumption); (case k4 | k5 => k_asm); (case ka | kb => walk_at "m_un"); (case kc => walk_at "d_pos")); intro _ _ _ _ _ _ _ _ _ _ _ _ _ _; clear D9k; (try k_sweep))
  k_with "m call ref" => case' fresh => (k_here; (with_reducible show wpAny _ _ (call (Value.ref 59) _) _ _ _); (with_reducible rename NDup _ => D9k); k_dflt (refine' h2r_D ?a1 ?a2 ?a3 ?b0 ?b1 ?b2 ?a4 ?k1 ?k2 ?k3 ?k4 ?k5 D9k rfl rfl nofun rfl ?ka ?kb ?kc ?_; (case a1 | a2 | a3 => assumption);(case b0 | b1 | b2 => walk_at "l_bd");(case a4 => walk_at "p_toks"); (case k1 => k_asm); (case k2 | k3 => with_reducible assumption); (case k4 | k5 => k_asm); (case ka | kb => walk_at "m_un"); (case kc => walk_at "d_pos")); intro _ _ _ _ _ _ _ _ _ _ _ _ _ _ _ _ _; clear D9k; (try k_sweep))
  k_with "m call ref" => case' fresh => (k_here; (with_reducible show wpAny _ _ (call (Value.ref 52) _) _ _ _); (with_reducible rename NDup _ => D9k); k_dflt (refine' r2h_D ?a1 ?a2 ?a3 ?b0 ?b1 ?b2 ?a4 ?k1 ?k2 ?k3 ?k4 ?k5 D9k rfl rfl nofun rfl ?ka ?kb ?kc ?_; (case a1 | a2 | a3 => assumption);(case b0 | b1 | b2 => walk_at "l_bd");(case a4 => assumption); (case k1 => k_asm); (case k2 | k3 => with_reducible assumption); (case k4 | k5 => k_asm); (case ka | kb => walk_at "m_un"); (case kc => walk_at "d_pos")); intro _ _ _ _ _ _ _ _ _ _ _ _ _ _ _ _ _; clear D9k; (try k_sweep))
  k_with "m m_un" => case' fresh => ((try simp only [depth_in1, depth_deeper, units_in1, units_deeper, Around.mark_units]); (try dsimp only); lia)
  k_with "m binaryOp Div int int" => case' fresh => (k_here; k_dflt (refine' div_by (g := 10) ?k1 ?k2 ?k3 ?k4 ?_; (case k1 | k2 => decide); (case k3 | k4 => first | lia | l_bnd); k_whole; intro _ _; (try dsimp only)))
  k_with "m binaryOp Div int int" => case' fresh => (k_here; k_dflt (refine' div_by (g := 2) ?k1 ?k2 ?k3 ?k4 ?_; (case k1 | k2 => decide); (case k3 | k4 => first | lia | l_bnd); k_whole; intro _ _; (try dsimp only)))
  k_with "m binaryOp Div int int" => case' fresh => (k_here; k_dflt (refine' div_by (g := 14) ?k1 ?k2 ?k3 ?k4 ?_; (case k1 | k2 => decide); (case k3 | k4 => first | lia | l_bnd); k_whole; intro _ _; (try dsimp only)))
  k_with "m call builtin:sum" => case' fresh => (k_here; k_dflt (refine' sum_pick ?k1 ?k2 ?k3 ?k5 ?_; (case k1 => exact rfl); (case k2 | k3 => k_asm); (case k5 => with_reducible assumption); k_whole; intro _ _ _ _ hle'k F'k N'k; (try dsimp only at hle'k); (revert hle'k F'k N'k; intro _ _ _); (with_reducible rename NDup _ => D9k); (have D'k := NDup.tail D9k); clear D9k; (revert D'k; intro _); (try k_sweep)))
  k_with "m binaryOp Mult float int" => case' fresh => (k_here; k_dflt (refine' mul_1024 ?a ?b ?_; (case a => assumption); (case b => walk_at "l_bd"); k_whole; intro _ _; (try dsimp only)))
  k_with "m call type:int" => case' fresh => (k_here; k_dflt (refine' int_f ?a ?b ?c ?_; (case a => exact rfl); (case b => assumption); (case c => lia); k_whole))
  k_with "m compareOp NotEq ref ref" => case' fresh => (k_here; k_dflt (refine' ne_tup ?F ?X ?N ?a ?b ?c1 ?c2 ?c3 ?c4 ?c5 ?c6 ?d1 ?d2 ?e ?_; (case F | X | N => k_asm); (case a | b => k_mem); (case c1 | c2 | c3 | c4 | c5 | c6 => assumption); (case d1 | d2 => walk_at "p_toks3"); (case e => walk_at "m_un"); k_whole))
  k_with "m p_toks3" => case' fresh => (first | with_reducible assumption | exact ⟨by walk_at "p_toks", by walk_at "p_toks", by walk_at "p_toks"⟩)
  k_with "m p_toks" => case' fresh => (first | with_reducible assumption | exact Nat.succ_ne_zero _ | exact Nat.pos_iff_ne_zero.mp (by assumption) | lia)
  k_with "m pyIter ref" => case' fresh => (k_here; k_dflt (refine' hold ?_))
  k_with "m exec For Name Call cons nil" => case' fresh => (k_here; (rename Fr _ _ _ _ => lF'k); (with_unfolding_all refine' For_turns lF'k ?_); k_whole)
  k_with "m exec For Tuple Tuple cons nil" => case' fresh => (k_here; (rename Fr _ _ _ _ => lF'k); (with_unfolding_all refine' For_turns lF'k ?_); k_whole)
  k_with "m binaryOp Mod int int" => case' fresh => (k_here; k_dflt (refine' mod_g ?k1 ?_; (case k1 => first | decide | lia); k_whole); intro _ _ _ r1'k; (try dsimp only at r1'k); (revert r1'k; intro _); (try dsimp only))
  k_with "m subscriptTail Name Constant ref int" => case' fresh => (k_here; k_dflt (refine' idxT ?N ?m ?a ?b ?d ?_ ?s; (case N => k_asm); (case m => k_mem); (case a | b => first | decide | lia); (case d => first | exact rfl | assumption); (case s => with_unfolding_all rfl); k_whole))
  k_with "m subscriptTail Subscript Constant ref int" => case' fresh => (k_here; k_dflt (refine' idxT ?N ?m ?a ?b ?d ?_ ?s; (case N => k_asm); (case m => k_mem); (case a | b => first | decide | lia); (case d => first | exact rfl | assumption); (case s => with_unfolding_all rfl); k_whole))
  k_with "m subscriptTail Subscript Name ref int" => case' fresh => (k_here; k_dflt (refine' idxT ?N ?m ?a ?b ?d ?_ ?s; (case N => k_asm); (case m => k_mem); (case a | b => first | decide | lia); (case d => first | exact rfl | assumption); (case s => with_unfolding_all rfl); k_whole))
  k_with "m subscriptTail Name Name ref int" => case' fresh => (k_here; k_dflt (refine' idxT ?N ?m ?a ?b ?d ?_ ?s; (case N => k_asm); (case m => k_mem); (case a | b => first | decide | lia); (case d => first | exact rfl | assumption); (case s => with_unfolding_all rfl); k_whole))
  k_with "m subscriptTail Name Constant ref int" => case' fresh => (k_here; k_dflt (refine' idxL ?N ?m ?a ?b ?d ?_ ?s; (case N => k_asm); (case m => k_mem); (case a | b => first | decide | lia); (case d => first | exact rfl | assumption); (case s => with_unfolding_all rfl); k_whole))
  k_with "m subscriptTail Subscript Constant ref int" => case' fresh => (k_here; k_dflt (refine' idxL ?N ?m ?a ?b ?d ?_ ?s; (case N => k_asm); (case m => k_mem); (case a | b => first | decide | lia); (case d => first | exact rfl | assumption); (case s => with_unfolding_all rfl); k_whole))
  k_with "m subscriptTail Subscript Name ref int" => case' fresh => (k_here; k_dflt (refine' idxL ?N ?m ?a ?b ?d ?_ ?s; (case N => k_asm); (case m => k_mem); (case a | b => first | decide | lia); (case d => first | exact rfl | assumption); (case s => with_unfolding_all rfl); k_whole))
  k_with "m subscriptTail Name Name ref int" => case' fresh => (k_here; k_dflt (refine' idxL ?N ?m ?a ?b ?d ?_ ?s; (case N => k_asm); (case m => k_mem); (case a | b => first | decide | lia); (case d => first | exact rfl | assumption); (case s => with_unfolding_all rfl); k_whole))
  k_with "m subscriptTail Name Name ref int" => case' fresh => (k_here; k_dflt (refine' idx_push ?N ?m ?a ?b ?_ ?s; (case N => k_asm); (case m => k_mem); (case a => first | rfl | lia); (case b => lia); (case s => with_unfolding_all rfl); k_whole))
  k_with "m subscriptTail Tuple Name ref int" => case' fresh => (k_here; k_dflt (refine' idx3 ?N ?m ?a ?b ?_ ?s; (case N => k_asm); (case m => k_mem); (case a | b => lia); (case s => with_unfolding_all rfl); k_whole); intro _ _)
  k_with "m assign Tuple" => case' fresh => (k_here; k_dflt (refine' unpackN_ ?F ?N ?T ?k1 ?k2 ?k3 ?_; (case F | N => k_asm); (case T => refine News.isTup (by k_asm) (by k_mem)); (case k1 | k2 | k3 => exact rfl)); intro _ _ _; (try k_sweep))
  exact trivial
theorem calm_C4 : True := by
  w_top off
  exact trivial
open PySem.W
theorem words_23 : True := by
  k_with "m subscriptTail Subscript" => case' fresh => (k_here; k_dflt (refine' paintC ?N ?B ?f ?b ?_ ?s; (case N => k_asm); (case B => with_reducible assumption); (case f => (intro _ _; k_mem)); (case b => assumption); (case s => with_unfolding_all rfl)); intro _ _ _ _ _ _ _ _ _ _ _ _ _ _ _ _ _ _ _ _ _ _ _ _ _ _ _)
  k_with "m subscriptTail Subscript" => case' fresh => (k_here; k_dflt (refine' rowAt ?N ?m ?b ?_ ?s; (case N => k_asm); (case m => k_mem); (case b => assumption); (case s => with_unfolding_all rfl)); intro _)
  k_with "m subscriptTail Name Constant ref int" => case' fresh => (k_here; k_dflt (first | refine' idxL ?N ?m ?a ?b ?d ?_ ?s | refine' idxT ?N ?m ?a ?b ?d ?_ ?s); (case N => k_asm); (case m => k_mem); (case a | b => decide); (case d => exact rfl); (case s => with_unfolding_all rfl); k_whole)
  k_with "m call ref" => case' fresh => (k_here; (with_reducible show wpAny _ _ (call (Value.ref 256) _) _ _ _); k_dflt (refine' widest_D ?l1 ?k1 ?k2 ?k3 ?k4 ?k5 rfl rfl nofun rfl ?ka ?kb ?kc ?_; (case k1 => k_asm); (case k2 | k3 => with_reducible assumption); (case k4 | k5 => k_asm); (case l1 => k_mem); (case ka | kb => walk_at "m_un"); (case kc => walk_at "d_pos")); intro _ _ _ _ _ _; (try k_sweep))
  k_with "m call ref" => case' fresh => (k_here; (with_reducible show wpAny _ _ (call (Value.ref 249) _) _ _ _); k_dflt (refine' cross_D ?l1 ?l2 ?b0 ?b1 ?b2 ?k1 ?k2 ?k3 ?k4 ?k5 rfl rfl nofun rfl ?ka ?kb ?kc ?_; (case k1 => k_asm); (case k2 | k3 => with_reducible assumption); (case k4 | k5 => k_asm); (case l1 | l2 => k_mem); (case b0 | b1 | b2 => apply_assumption); (case ka | kb => walk_at "m_un"); (case kc => walk_at "d_pos")); intro _ _ _ _ _ _ _ _; (try k_sweep))
  k_with "m exec If" => case' fresh => (k_here; k_dflt (refine' hold ?_))
  exact trivial
noncomputable def KeepsB (g : Heap) (L : Addr) (s : Shared) (m : Str → Option Value) (news : List (Addr × Obj)) (gb : Bool) (b : Bool) (s₁ : Shared) : Prop := ∃ h' tk', s₁ = { s with heap := h', toks := tk' } ∧ b = gb ∧ Fr g L h' m ∧ News g L h' news
theorem keep_mono {M : Model} {A : Around} {t : Sem Bool} {g h : Heap} {L : Addr} {m : Str → Option Value} {news : List (Addr × Obj)} {gb : Bool} {s s0 : Shared} {Q : Bool → Shared → Prop} {E : Value → Shared → Prop} (_ : Fr g L h m) (_ : News g L h news)
    (h1 : wpAny M A t (KeepsB g L s m news gb) E s0) (h2 : ∀ b s₁, KeepsB g L s m news gb b s₁ → Q b s₁) : wpAny M A t Q E s0 := wpAny_mono h1 h2 fun _ _ e => e
theorem turnC 
    (B : Below A₀ base outer g) (X : (nk.heap_1 w.params).In g) (T : Top p loose mean mg mb g) (hd : dp + 8 < recursionLimit) (hu : un + 128 < cLine)
    {m cm : Str → Option Value} {bo H hpA duA I1 I2 I3 R0 R1 R2 B0 B1 B2 : Addr} {o1 o2 o3 : Obj} {n nb n0 n1 n2 nh nd i j k : Nat} {hv dv : Array Value} {K : Nat → Nat → Int} {cells frz : List (Addr × Obj)} {s : Shared} {R : Flow → Shared → Prop} {ti tj tk0 r00 r01 r02 r10 r11 r12 r20 r21 r22 : Tok}
    (hi : i < 3) (hj : j < 3) (hk : k < 3) (hH : (H, listOf #[.ref R0, .ref R1, .ref R2] n) ∈ frz) (hR0 : (R0, listOf #[.int (K 0 0) r00, .int (K 0 1) r01, .int (K 0 2) r02] n0) ∈ frz) (hR1 : (R1, listOf #[.int (K 1 0) r10, .int (K 1 1) r11, .int (K 1 2) r12] n1) ∈ frz) (hR2 : (R2, listOf #[.int (K 2 0) r20, .int (K 2 1) r21, .int (K 2 2) r22] n2) ∈ frz)
    (hbo : (bo, listOf #[.ref B0, .ref B1, .ref B2] nb) ∈ frz) (hB0 : BoxAt frz B0 (K 0)) (hB1 : BoxAt frz B1 (K 1)) (hB2 : BoxAt frz B2 (K 2)) (hhv : hv.size ≤ 32) (hdv : dv.size ≤ 32)
    (F : Fr g L s.heap m) (hm : AtL m [("boxes", .ref bo), ("hues", .ref H), ("heap", .ref hpA), ("due", .ref duA)])
    (N : News g L s.heap ((I3, o3) :: (I2, o2) :: (I1, o1) :: (hpA, listOf hv nh) :: (duA, listOf dv nd) :: (cells ++ frz))) (D : NDup ((I3, o3) :: (I2, o2) :: (I1, o1) :: (hpA, listOf hv nh) :: (duA, listOf dv nd) :: (cells ++ frz)))
    (Y : CellsAre cm (lawCl L) cells) (hcm : AtL cm [("i", .int (i : Int) ti), ("j", .int (j : Int) tj), ("k", .int (k : Int) tk0)])
    (done : ∀ h' tk m' cm' cells' tmp a t0 t1 t2 t3 dv' nd', Fr g L h' m' → AtL m' [("boxes", .ref bo), ("hues", .ref H), ("heap", .ref hpA), ("due", .ref duA)] →
      News g L h' ((I3, o3) :: (I2, o2) :: (I1, o1) :: (hpA, listOf (hv.push (.ref a)) (nh + 1)) :: (duA, listOf dv' nd') :: (cells' ++ (tmp ++ frz))) → NDup ((I3, o3) :: (I2, o2) :: (I1, o1) :: (hpA, listOf (hv.push (.ref a)) (nh + 1)) :: (duA, listOf dv' nd') :: (cells' ++ (tmp ++ frz))) →
      CellsAre cm' (lawCl L) cells' → AtL cm' [("i", .int (i : Int) ti), ("j", .int (j : Int) tj)] → (a, tupI (wid (K 0 i) (K 1 j) (K 2 k)) i j k t0 t1 t2 t3) ∈ tmp →
      ((greyB (K 0 i) (K 1 j) (K 2 k) = true ∧ ∃ b u0 u1 u2 u3, dv' = dv.push (.ref b) ∧ nd' = nd + 1 ∧ (b, tupI (wid (K 0 i) (K 1 j) (K 2 k)) i j k u0 u1 u2 u3) ∈ tmp) ∨ (greyB (K 0 i) (K 1 j) (K 2 k) = false ∧ dv' = dv ∧ nd' = nd)) → R .next { s with heap := h', toks := tk }) :
    wpAny (MM w) ((TopA dp un gd outer).deeper (lawEnv L fa cd)) (execs bC3.1 (lawEnv L fa cd)) R (fun _ _ => False) s := by
  rw [← kst_at hm] at F
  replace Y := cells_kst Y hcm
  unfold bC3
  dsimp only
  k_steps
  unfold Hold
  rename_i _ _ _ _ _ _ _ _ _ _ _ _ _ _ _ _ _ m1a _ m3a e0a e1a e2a _ h1a h2a pra _ _ _ _ _ _ _ _ _ _ _ _ _ _ _ _ _ m1b _ m3b e0b e1b e2b _ h1b h2b prb _ _ _ _ _ _ _ _ _ _ _ _ _ _ _ _ _ m1c _ m3c e0c e1c e2c _ h1c h2c prc _ _ _ _ _ _ _ _ _ _ _ _ _ _ _ hx _ _ _ _ _ _ _ _ _ hy _ _ _ _ _ _ _ _ _ hz _ _ _ F9 N9 D9 Y9 tk9 ht9
  have sx := crs_sign h1b h2b h1c h2c hx
  have sy := crs_sign h1c h2c h1a h2a hy
  have sz := crs_sign h1a h2a h1b h2b hz
  obtain ⟨N8, D8⟩ := refreeze (keep := [(I3, o3), (I2, o2), (I1, o1), (hpA, _), (duA, _)]) (frz := frz) (by walk_at "k_app") (by walk_at "k_part") N9 D9
  clear N9 D9
  refine wpAny_If (with_toks (keep_mono (gb := greyB (K 0 i) (K 1 j) (K 2 k)) (s := s) F9 N8 ?_ (fun b s₁ hq hle => ?_)))
  · k_steps
    · exact ⟨_, _, rfl, (grey_pos sx sy sz (by assumption)).symm, by assumption, by assumption⟩
    · exact ⟨_, _, rfl, (grey_neg sx sy sz (by assumption)).symm, by assumption, by assumption⟩
    · exact ⟨_, _, rfl, (grey_no sx sy sz (by assumption) (by assumption)).symm, by assumption, by assumption⟩
  obtain ⟨h5, tk5, rfl, rfl, F5, N5⟩ := hq
  have htk5 : 0 < tk5 := Nat.lt_of_lt_of_le ht9 hle
  have up : ∀ {q : Addr × Obj} {l : List (Addr × Obj)}, q ∈ frz → q ∈ l ++ frz := fun h => List.mem_append.mpr (.inr h)
  by_cases hg : greyB (K 0 i) (K 1 j) (K 2 k) = true
  · rw [if_pos hg]
    refine greyC B X T hd hu (up m1a) (up m1b) (up m1c) (up m3a) (up m3b) (up m3c) e0a e1a e2a e0b e1b e2b e0c e1c e2c pra prb prc hx hy hz ?_ hdv htk5 F5 ⟨rfl, rfl, rfl, rfl, trivial⟩ N5 D8 Y9 ⟨rfl, rfl, rfl, rfl, rfl, rfl, rfl, rfl, rfl, trivial⟩ (fun h' tk m' tmp b u0 u1 u2 u3 F' hm' N' D' hb => ?_)
    · exact grey_back sx sy sz hg
    · dsimp only
      rw [← List.append_assoc tmp] at N' D'
      refine wpAny_execs_nil ?_
      exact done _ _ _ _ _ _ _ _ _ _ _ _ _ F' hm' N' D' Y9 ⟨rfl, rfl, trivial⟩ (List.mem_append.mpr (.inr (.tail _ (.head _)))) (.inl ⟨hg, b, u0, u1, u2, u3, rfl, rfl, List.mem_append.mpr (.inl hb)⟩)
  · rw [if_neg hg]
    refine wpAny_execs_nil ?_
    dsimp only
    refine wpAny_execs_nil ?_
    exact done _ _ _ _ _ _ _ _ _ _ _ _ _ F5 ⟨rfl, rfl, rfl, rfl, trivial⟩ N5 D8 Y9 ⟨rfl, rfl, trivial⟩ (.tail _ (.head _)) (.inr ⟨by simpa using hg, rfl, rfl⟩)
end

section
theorem words_24 : True := by
  k_with_none
  k_with "m p_enter" => case' fresh => (refine wpAny_call ?_; k_dflt (refine' p_enter ?k1 ?k3 ?k5 ?k6 ?k7 ?k8 ?k9 ?kB ?_ ?c2 ?c3 ?c4 ?c5; (case k1 | k3 | k5 => assumption); (case k6 | k7 => k_is); (case k8 => lia); (case k9 => first | exact BindsTo.of_eq rfl | exact binds_K (by k_in) rfl (by k_is) rfl rfl rfl); (case kB => exact locs rfl); (case c5 => decide); (case c2 | c3 | c4 => exact rfl); k_whole; intro _ _ _ _; (try dsimp only); (try k_fold)))
  k_with "m subscriptTail Name Constant ref int" => case' fresh => (k_here; k_dflt (refine' item_base ?F ?l ?a ?b ?d ?_; (case F => k_asm); (case l => with_reducible assumption); (case a | b => decide); (case d => exact rfl); k_whole))
  k_with "m subscriptTail Name Constant ref int" => case' fresh => (k_here; k_dflt (refine' tup_base ?F ?l ?a ?b ?j ?d ?_; (case F => k_asm); (case l => with_reducible assumption); (case a | b => decide); (case j | d => exact rfl); k_whole))
  k_with "m binaryOp Mult int int" => case' fresh => (k_dflt (refine' mul_smallL ?a ?b ?_; (case a | b => lia)))
  k_with "m binaryOp Mult int int" => case' fresh => (k_dflt (refine' mul_smallR ?a ?b ?_; (case a | b => lia)))
  k_with "m call builtin:max" => case' fresh => (k_here; (with_reducible show wpAny _ _ (call (Value.builtin "max") [Value.float _ _, Value.float _ _, Value.float _ _]) _ _ _); k_dflt (refine' max3_ex ?a ?b ?c ?d ?F ?N ?_; (case a | b | c => assumption); (case d => exact rfl); (case F | N => k_asm); intro _ _ _ _ _ _ hle'k F'k N'k; (try dsimp only at hle'k); (revert hle'k F'k N'k; intro _ _ _); (try k_sweep)))
  k_with "m call builtin:min" => case' fresh => (k_here; (with_reducible show wpAny _ _ (call (Value.builtin "min") [Value.float _ _, Value.float _ _, Value.float _ _]) _ _ _); k_dflt (refine' min3_ex ?a ?b ?c ?d ?F ?N ?_; (case a | b | c => assumption); (case d => exact rfl); (case F | N => k_asm); intro _ _ _ _ _ _ hle'k F'k N'k; (try dsimp only at hle'k); (revert hle'k F'k N'k; intro _ _ _); (try k_sweep)))
  k_with "m assign Tuple" => case' fresh => ((rename IntsAre _ _ => i9k); (rename (List.length _ = _) => e9k); (obtain ⟨a9, b9, c9, ta9, tb9, tc9, e8, e7⟩ := three_of i9k e9k); subst e8; subst e7; (walk_at "assign Tuple"))
  k_with "m call builtin:max" => case' fresh => (k_here; (with_reducible show wpAny _ _ (call (Value.builtin "max") (Value.int _ _ :: _)) _ _ _); k_dflt ((first | refine' max3_i ?d ?F ?N ?_ | refine' max2_i ?d ?F ?N ?_); (case d => exact rfl); (case F | N => k_asm); intro _ _ _ _ _; (try k_sweep)))
  k_with "m call builtin:min" => case' fresh => (k_here; (with_reducible show wpAny _ _ (call (Value.builtin "min") (Value.int _ _ :: _)) _ _ _); k_dflt ((first | refine' min3_i ?d ?F ?N ?_ | refine' min2_i ?d ?F ?N ?_); (case d => exact rfl); (case F | N => k_asm); intro _ _ _ _ _; (try k_sweep)))
  k_with "m ite" => case' fresh => (k_dflt (first | (refine' ite_eq_tt ?a ?b ?c ?_; (case a | b => assumption); (case c => lia)) | (refine' ite_eq_ff ?a ?b ?c ?_; (case a | b => assumption); (case c => lia))))
  k_with "m p_leaf" => case' fresh => (rename Fr _ _ _ _ => F9k; rename News _ _ _ _ => N9k; rename ∀ (_ : Value) (_ : Heap) (_ : Nat) (_ : List (Addr × Obj)), _ => hret9k; refine hret9k _ _ _ _ ?_ F9k.keep (fun q hq => ⟨(N9k q hq).1, (N9k q hq).2.2⟩))
  k_with "m execs cons" => case' fresh => (k_here; k_dflt (refine' gen_toks ?p ?_; (case p => first | with_reducible assumption | exact Nat.succ_pos _ | lia | (dsimp only; first | exact Nat.succ_pos _ | lia)); (intro _ _; (try dsimp only); refine wpAny_execs_cons ?_)))
  k_with "m p_toks" => case' fresh => (first | with_reducible assumption | exact Nat.succ_ne_zero _ | exact Nat.pos_iff_ne_zero.mp (by assumption) | exact tok_or3 (by assumption) (by assumption))
  k_with "m d_pos" => case' fresh => (first | with_reducible assumption | exact Nat.succ_pos _ | (dsimp only; first | exact Nat.succ_pos _ | omega) | omega)
  k_with "m l_bd" => case' fresh => (refine And.intro ?_ ?_ <;> (first | lia | l_bnd))
  k_with "m k_app" => case' fresh => (first | exact App.nil | (refine' App.cons ?pa; (case pa => walk_at "k_app")))
  k_with "m k_updN" => case' fresh => (first | exact UpdN.head | (refine' UpdN.tail ?pa; (case pa => walk_at "k_updN")))
  k_with "m k_part" => case' fresh => (first | exact Part.nil | (refine' Part.keep ?pa; (case pa => walk_at "k_part")) | (refine' Part.tmp ?pa; (case pa => walk_at "k_part")))
  k_with "m eval Name" => case' fresh => (k_here; k_dflt (refine' nameC ?N ?P ?Y ?c ?v ?_ ?a ?b ?d; (case Y => with_reducible assumption); (case b | a => exact rfl); (case N => k_asm); (case P => walk_at "k_app"); (case c | v => exact rfl); (case d => decide); k_whole))
  k_with "m eval Name" => case' fresh => (k_here; k_dflt (refine' nameX_L ?F ?v ?_ ?a ?b; (case F => k_asm); (case b | a | v => exact rfl); k_whole))
  k_with "m storeName" => case' fresh => (k_here; (with_reducible rename CellsAre _ _ _ => Y9k); (with_reducible rename NDup _ => D9k); k_dflt (refine' storeC ?F ?N D9k ?P Y9k ?c ?n ?_ ?a ?b; (case b | a => exact rfl); (case F | N => k_asm); (case P => walk_at "k_app"); (case c => exact rfl); (case n => exact lawCl_nd _); k_whole); intro _ _ _ N'k D'k Y'k; clear Y9k D9k; (try dsimp only [List.cons_append, List.nil_append] at N'k D'k); (revert N'k D'k Y'k; intro _ _ _); (try k_sweep))
  k_with "m storeName" => case' fresh => (k_here; k_dflt (refine' storeX_L ?F ?N ?_ ?a ?b; (case b | a => rfl); (case F | N => k_asm); k_whole); intro _ _ _; (try k_sweep))
  k_with "m newTuple" => case' fresh => (k_here; (with_reducible rename NDup _ => D9k); k_dflt (refine' newTup_D ?F ?N D9k ?_ ?z; (case F | N => k_asm); (case z => size_fits); k_whole); intro _ _ _ _ _; clear D9k; (try k_sweep))
  k_with "m newList" => case' fresh => (k_here; (with_reducible rename NDup _ => D9k); k_dflt (refine' newList_D ?F ?N D9k ?_ ?z; (case F | N => k_asm); (case z => size_fits); k_whole); intro _ _ _ _ _; clear D9k; (try k_sweep))
  k_with "m call builtin:list.append" => case' fresh => (k_here; (with_reducible rename NDup _ => D9k); k_dflt (refine' append_D ?F ?N D9k ?U ?_ ?z; (case F | N => k_asm); (case U => walk_at "k_updN"); (case z => first | size_fits | (simp only [Array.size_push] at *; lia)); k_whole); intro _ _ _ _; clear D9k; (try k_sweep))
  k_with "m call ref" => case' fresh => (k_here; (with_reducible show wpAny _ _ (call (Value.ref 242) _) _ _ _); (with_reducible rename NDup _ => D9k); k_dflt (refine' parts_D ?b0 ?b1 ?b2 ?k1 ?k2 ?k3 ?k4 ?k5 D9k rfl rfl nofun rfl ?ka ?kb ?kc ?_; (case b0 | b1 | b2 => walk_at "l_bd"); (case k1 => k_asm); (case k2 | k3 => with_reducible assumption); (case k4 | k5 => k_asm); (case ka | kb => walk_at "m_un"); (case kc => walk_at "d_pos")); intro _ _ _ _ _ _ _ _ _ _ _ _ _ _; clear D9k; (try k_sweep))
  k_with "m call ref" => case' fresh => (k_here; (with_reducible show wpAny _ _ (call (Value.ref 59) _) _ _ _); (with_reducible rename NDup _ => D9k); k_dflt (refine' h2r_D ?a1 ?a2 ?a3 ?b0 ?b1 ?b2 ?a4 ?k1 ?k2 ?k3 ?k4 ?k5 D9k rfl rfl nofun rfl ?ka ?kb ?kc ?_; (case a1 | a2 | a3 => assumption);(case b0 | b1 | b2 => walk_at "l_bd");(case a4 => walk_at "p_toks"); (case k1 => k_asm); (case k2 | k3 => with_reducible assumption); (case k4 | k5 => k_asm); (case ka | kb => walk_at "m_un"); (case kc => walk_at "d_pos")); intro _ _ _ _ _ _ _ _ _ _ _ _ _ _ _ _ _; clear D9k; (try k_sweep))
  k_with "m call ref" => case' fresh => (k_here; (with_reducible show wpAny _ _ (call (Value.ref 52) _) _ _ _); (with_reducible rename NDup _ => D9k); k_dflt (refine' r2h_D ?a1 ?a2 ?a3 ?b0 ?b1 ?b2 ?a4 ?k1 ?k2 ?k3 ?k4 ?k5 D9k rfl rfl nofun rfl ?ka ?kb ?kc ?_; (case a1 | a2 | a3 => assumption);(case b0 | b1 | b2 => walk_at "l_bd");(case a4 => assumption); (case k1 => k_asm); (case k2 | k3 => with_reducible assumption); (case k4 | k5 => k_asm); (case ka | kb => walk_at "m_un"); (case kc => walk_at "d_pos")); intro _ _ _ _ _ _ _ _ _ _ _ _ _ _ _ _ _; clear D9k; (try k_sweep))
  k_with "m m_un" => case' fresh => ((try simp only [depth_in1, depth_deeper, units_in1, units_deeper, Around.mark_units]); (try dsimp only); lia)
  k_with "m binaryOp Div int int" => case' fresh => (k_here; k_dflt (refine' div_by (g := 10) ?k1 ?k2 ?k3 ?k4 ?_; (case k1 | k2 => decide); (case k3 | k4 => first | lia | l_bnd); k_whole; intro _ _; (try dsimp only)))
  k_with "m binaryOp Div int int" => case' fresh => (k_here; k_dflt (refine' div_by (g := 2) ?k1 ?k2 ?k3 ?k4 ?_; (case k1 | k2 => decide); (case k3 | k4 => first | lia | l_bnd); k_whole; intro _ _; (try dsimp only)))
  k_with "m binaryOp Div int int" => case' fresh => (k_here; k_dflt (refine' div_by (g := 14) ?k1 ?k2 ?k3 ?k4 ?_; (case k1 | k2 => decide); (case k3 | k4 => first | lia | l_bnd); k_whole; intro _ _; (try dsimp only)))
  k_with "m call builtin:sum" => case' fresh => (k_here; k_dflt (refine' sum_pick ?k1 ?k2 ?k3 ?k5 ?_; (case k1 => exact rfl); (case k2 | k3 => k_asm); (case k5 => with_reducible assumption); k_whole; intro _ _ _ _ hle'k F'k N'k; (try dsimp only at hle'k); (revert hle'k F'k N'k; intro _ _ _); (with_reducible rename NDup _ => D9k); (have D'k := NDup.tail D9k); clear D9k; (revert D'k; intro _); (try k_sweep)))
  k_with "m binaryOp Mult float int" => case' fresh => (k_here; k_dflt (refine' mul_1024 ?a ?b ?_; (case a => assumption); (case b => walk_at "l_bd"); k_whole; intro _ _; (try dsimp only)))
  k_with "m call type:int" => case' fresh => (k_here; k_dflt (refine' int_f ?a ?b ?c ?_; (case a => exact rfl); (case b => assumption); (case c => lia); k_whole))
  k_with "m compareOp NotEq ref ref" => case' fresh => (k_here; k_dflt (refine' ne_tup ?F ?X ?N ?a ?b ?c1 ?c2 ?c3 ?c4 ?c5 ?c6 ?d1 ?d2 ?e ?_; (case F | X | N => k_asm); (case a | b => k_mem); (case c1 | c2 | c3 | c4 | c5 | c6 => assumption); (case d1 | d2 => walk_at "p_toks3"); (case e => walk_at "m_un"); k_whole))
  k_with "m p_toks3" => case' fresh => (first | with_reducible assumption | exact ⟨by walk_at "p_toks", by walk_at "p_toks", by walk_at "p_toks"⟩)
  k_with "m p_toks" => case' fresh => (first | with_reducible assumption | exact Nat.succ_ne_zero _ | exact Nat.pos_iff_ne_zero.mp (by assumption) | lia)
  k_with "m pyIter ref" => case' fresh => (k_here; k_dflt (refine' hold ?_))
  k_with "m exec For Name Call cons nil" => case' fresh => (k_here; (rename Fr _ _ _ _ => lF'k); (with_unfolding_all refine' For_turns lF'k ?_); k_whole)
  k_with "m exec For Tuple Tuple cons nil" => case' fresh => (k_here; (rename Fr _ _ _ _ => lF'k); (with_unfolding_all refine' For_turns lF'k ?_); k_whole)
  k_with "m binaryOp Mod int int" => case' fresh => (k_here; k_dflt (refine' mod_g ?k1 ?_; (case k1 => first | decide | lia); k_whole); intro _ _ _ r1'k; (try dsimp only at r1'k); (revert r1'k; intro _); (try dsimp only))
  k_with "m subscriptTail Name Constant ref int" => case' fresh => (k_here; k_dflt (refine' idxT ?N ?m ?a ?b ?d ?_ ?s; (case N => k_asm); (case m => k_mem); (case a | b => first | decide | lia); (case d => first | exact rfl | assumption); (case s => with_unfolding_all rfl); k_whole))
  k_with "m subscriptTail Subscript Constant ref int" => case' fresh => (k_here; k_dflt (refine' idxT ?N ?m ?a ?b ?d ?_ ?s; (case N => k_asm); (case m => k_mem); (case a | b => first | decide | lia); (case d => first | exact rfl | assumption); (case s => with_unfolding_all rfl); k_whole))
  k_with "m subscriptTail Subscript Name ref int" => case' fresh => (k_here; k_dflt (refine' idxT ?N ?m ?a ?b ?d ?_ ?s; (case N => k_asm); (case m => k_mem); (case a | b => first | decide | lia); (case d => first | exact rfl | assumption); (case s => with_unfolding_all rfl); k_whole))
  k_with "m subscriptTail Name Name ref int" => case' fresh => (k_here; k_dflt (refine' idxT ?N ?m ?a ?b ?d ?_ ?s; (case N => k_asm); (case m => k_mem); (case a | b => first | decide | lia); (case d => first | exact rfl | assumption); (case s => with_unfolding_all rfl); k_whole))
  k_with "m subscriptTail Name Constant ref int" => case' fresh => (k_here; k_dflt (refine' idxL ?N ?m ?a ?b ?d ?_ ?s; (case N => k_asm); (case m => k_mem); (case a | b => first | decide | lia); (case d => first | exact rfl | assumption); (case s => with_unfolding_all rfl); k_whole))
  k_with "m subscriptTail Subscript Constant ref int" => case' fresh => (k_here; k_dflt (refine' idxL ?N ?m ?a ?b ?d ?_ ?s; (case N => k_asm); (case m => k_mem); (case a | b => first | decide | lia); (case d => first | exact rfl | assumption); (case s => with_unfolding_all rfl); k_whole))
  k_with "m subscriptTail Subscript Name ref int" => case' fresh => (k_here; k_dflt (refine' idxL ?N ?m ?a ?b ?d ?_ ?s; (case N => k_asm); (case m => k_mem); (case a | b => first | decide | lia); (case d => first | exact rfl | assumption); (case s => with_unfolding_all rfl); k_whole))
  k_with "m subscriptTail Name Name ref int" => case' fresh => (k_here; k_dflt (refine' idxL ?N ?m ?a ?b ?d ?_ ?s; (case N => k_asm); (case m => k_mem); (case a | b => first | decide | lia); (case d => first | exact rfl | assumption); (case s => with_unfolding_all rfl); k_whole))
  k_with "m subscriptTail Name Name ref int" => case' fresh => (k_here; k_dflt (refine' idx_push ?N ?m ?a ?b ?_ ?s; (case N => k_asm); (case m => k_mem); (case a => first | rfl | lia); (case b => lia); (case s => with_unfolding_all rfl); k_whole))
  k_with "m subscriptTail Tuple Name ref int" => case' fresh => (k_here; k_dflt (refine' idx3 ?N ?m ?a ?b ?_ ?s; (case N => k_asm); (case m => k_mem); (case a | b => lia); (case s => with_unfolding_all rfl); k_whole); intro _ _)
  k_with "m assign Tuple" => case' fresh => (k_here; k_dflt (refine' unpackN_ ?F ?N ?T ?k1 ?k2 ?k3 ?_; (case F | N => k_asm); (case T => refine News.isTup (by k_asm) (by k_mem)); (case k1 | k2 | k3 => exact rfl)); intro _ _ _; (try k_sweep))
  exact trivial
theorem calm_C5 : True := by
  w_top off
  exact trivial
open PySem.W
theorem BoxAt.mono {f f' : List (Addr × Obj)} {Bx : Addr} {ks : Nat → Int} (h : BoxAt f Bx ks) (hs : ∀ p ∈ f, p ∈ f') : BoxAt f' Bx ks := by
  obtain ⟨n, v0, v1, v2, s0, a0, s1, a1, s2, a2, m, p0, p1, p2⟩ := h
  exact ⟨n, v0, v1, v2, s0, a0, s1, a1, s2, a2, hs _ m, p0.mono hs, p1.mono hs, p2.mono hs⟩
/-- the hues, rows and boxes at their addresses -/
inductive Rows (f : List (Addr × Obj)) (bo H : Addr) (K : Nat → Nat → Int) : Prop
  | mk (n nb n0 n1 n2 : Nat) (R0 R1 R2 B0 B1 B2 : Addr) (r00 r01 r02 r10 r11 r12 r20 r21 r22 : Tok) (h1 : (H, listOf #[.ref R0, .ref R1, .ref R2] n) ∈ f) (h2 : (R0, listOf #[.int (K 0 0) r00, .int (K 0 1) r01, .int (K 0 2) r02] n0) ∈ f) (h3 : (R1, listOf #[.int (K 1 0) r10, .int (K 1 1) r11, .int (K 1 2) r12] n1) ∈ f) (h4 : (R2, listOf #[.int (K 2 0) r20, .int (K 2 1) r21, .int (K 2 2) r22] n2) ∈ f)
    (h5 : (bo, listOf #[.ref B0, .ref B1, .ref B2] nb) ∈ f) (h6 : BoxAt f B0 (K 0)) (h7 : BoxAt f B1 (K 1)) (h8 : BoxAt f B2 (K 2)) : Rows f bo H K
theorem Rows.mono {f f' : List (Addr × Obj)} {bo H : Addr} {K : Nat → Nat → Int} (h : Rows f bo H K) (hs : ∀ p ∈ f, p ∈ f') : Rows f' bo H K := by
  obtain ⟨n, nb, n0, n1, n2, R0, R1, R2, B0, B1, B2, r00, r01, r02, r10, r11, r12, r20, r21, r22, h1, h2, h3, h4, h5, h6, h7, h8⟩ := h
  exact ⟨n, nb, n0, n1, n2, R0, R1, R2, B0, B1, B2, r00, r01, r02, r10, r11, r12, r20, r21, r22, hs _ h1, hs _ h2, hs _ h3, hs _ h4, hs _ h5, h6.mono hs, h7.mono hs, h8.mono hs⟩
theorem rows_of {f : List (Addr × Obj)} {bo H : Addr} {K : Nat → Nat → Int} {bs : Array Value} {ys : List Value} {nb n : Nat} (hB : Boxes f bs K) (hbo : (bo, listOf bs nb) ∈ f) (hR : RowsTo K f 3 ys) (hH : (H, listOf ys.toArray n) ∈ f) : Rows f bo H K := by
  obtain ⟨B0, e0, b0⟩ := hB.at (b := 0) (by decide)
  obtain ⟨B1, e1, b1⟩ := hB.at (b := 1) (by decide)
  obtain ⟨B2, e2, b2⟩ := hB.at (b := 2) (by decide)
  obtain ⟨v0, v1, v2, rfl, _⟩ := hB
  cases e0; cases e1; cases e2
  obtain ⟨l, hr⟩ := hR
  obtain ⟨R0, n0, a0, a1, a2, y0, r0⟩ := hr 0 (by decide)
  obtain ⟨R1, n1, c0, c1, c2, y1, r1⟩ := hr 1 (by decide)
  obtain ⟨R2, n2, d0, d1, d2, y2, r2⟩ := hr 2 (by decide)
  obtain ⟨x0, x1, x2, rfl⟩ := lst3 l
  cases y0; cases y1; cases y2
  exact ⟨n, nb, n0, n1, n2, R0, R1, R2, B0, B1, B2, a0, a1, a2, c0, c1, c2, d0, d1, d2, hH, r0, r1, r2, hbo, b0, b1, b2⟩
/-- key and grey of a place c of the 27 -/
noncomputable def wdAt (K : Nat → Nat → Int) (c : Nat) : Int := wid (K 0 (c / 9)) (K 1 (c / 3 % 3)) (K 2 (c % 3))
noncomputable def keyAt (K : Nat → Nat → Int) (c : Nat) : Int := ((wdAt K c * 3 + ((c / 9 : Nat) : Int)) * 3 + ((c / 3 % 3 : Nat) : Int)) * 3 + ((c % 3 : Nat) : Int)
noncomputable def greyAt (K : Nat → Nat → Int) (c : Nat) : Bool := greyB (K 0 (c / 9)) (K 1 (c / 3 % 3)) (K 2 (c % 3))
noncomputable def InT (K : Nat → Nat → Int) (f : List (Addr × Obj)) (p : It) : Prop := ∃ c t0 t1 t2 t3, c < 27 ∧ p.2 = keyAt K c ∧ (p.1, tupI (wdAt K c) (c / 9) (c / 3 % 3) (c % 3) t0 t1 t2 t3) ∈ f
noncomputable def PC (K : Nat → Nat → Int) (f : List (Addr × Obj)) (hp due : List It) (c : Nat) : Prop :=
  hp.map (·.2) = (List.range c).map (keyAt K) ∧ due.map (·.2) = ((List.range c).filter (greyAt K)).map (keyAt K) ∧ (∀ p ∈ hp, InT K f p) ∧ ∀ p ∈ due, InT K f p
theorem PC.len {K : Nat → Nat → Int} {f : List (Addr × Obj)} {hp due : List It} {c : Nat} (h : PC K f hp due c) : hp.length = c ∧ due.length ≤ c := by
  have a := congrArg List.length h.1
  have b := congrArg List.length h.2.1
  simp at a b
  refine ⟨a, ?_⟩
  rw [b]
  have := List.length_filter_le (greyAt K) (List.range c)
  simp at this
  omega
theorem vls_push (l : List It) (p : It) : (vls l).toArray.push (.ref p.1) = (vls (l ++ [p])).toArray := by simp [vls]
theorem PC.push {K : Nat → Nat → Int} {f f' : List (Addr × Obj)} {hp due : List It} {i j k c : Nat} {a : Addr} {t0 t1 t2 t3 : Tok} {dv' : Array Value} {nd nd' : Nat} (h : PC K f hp due c) (hi : i < 3) (hj : j < 3) (hk : k < 3) (hc : c = (i * 3 + j) * 3 + k) (hs : ∀ p ∈ f, p ∈ f')
    (ha : (a, tupI (wid (K 0 i) (K 1 j) (K 2 k)) i j k t0 t1 t2 t3) ∈ f')
    (hd : (greyB (K 0 i) (K 1 j) (K 2 k) = true ∧ ∃ b u0 u1 u2 u3, dv' = (vls due).toArray.push (.ref b) ∧ nd' = nd + 1 ∧ (b, tupI (wid (K 0 i) (K 1 j) (K 2 k)) i j k u0 u1 u2 u3) ∈ f') ∨ (greyB (K 0 i) (K 1 j) (K 2 k) = false ∧ dv' = (vls due).toArray ∧ nd' = nd)) :
    ∃ due', dv' = (vls due').toArray ∧ PC K f' (hp ++ [(a, keyAt K c)]) due' (c + 1) := by
  have e1 : c / 9 = i := by lia
  have e2 : c / 3 % 3 = j := by lia
  have e3 : c % 3 = k := by lia
  have hc27 : c < 27 := by lia
  obtain ⟨h1, h2, h3, h4⟩ := h
  have up : ∀ {p}, InT K f p → InT K f' p := fun ⟨c, t0, t1, t2, t3, a, b, m⟩ => ⟨c, t0, t1, t2, t3, a, b, hs _ m⟩
  have new : ∀ {x u0 u1 u2 u3}, (x, tupI (wid (K 0 i) (K 1 j) (K 2 k)) i j k u0 u1 u2 u3) ∈ f' → InT K f' (x, keyAt K c) := fun {x u0 u1 u2 u3} hm =>
    ⟨c, u0, u1, u2, u3, hc27, rfl, by unfold wdAt; rw [e1, e2, e3]; exact hm⟩
  have g : greyAt K c = greyB (K 0 i) (K 1 j) (K 2 k) := by unfold greyAt; rw [e1, e2, e3]
  have hp' : (hp ++ [(a, keyAt K c)]).map (·.2) = (List.range (c + 1)).map (keyAt K) := by rw [List.range_succ, List.map_append, List.map_append, h1]; rfl
  have hp3 : ∀ p ∈ hp ++ [(a, keyAt K c)], InT K f' p := fun p hp' => by
    rcases List.mem_append.mp hp' with hp' | hp'
    · exact up (h3 p hp')
    · rw [List.mem_singleton.mp hp']; exact new ha
  rcases hd with ⟨hg, b, u0, u1, u2, u3, rfl, _, hb⟩ | ⟨hg, rfl, _⟩
  · refine ⟨due ++ [(b, keyAt K c)], vls_push due (b, keyAt K c), hp', ?_, hp3, fun p hp' => ?_⟩
    · rw [List.range_succ, List.filter_append, List.map_append, List.map_append, h2]
      simp [g, hg]
    · rcases List.mem_append.mp hp' with hp' | hp'
      · exact up (h4 p hp')
      · rw [List.mem_singleton.mp hp']; exact new hb
  · refine ⟨due, rfl, hp', ?_, hp3, fun p hp' => up (h4 p hp')⟩
    rw [List.range_succ, List.filter_append, List.map_append, h2]
    simp [g, hg]
theorem phC8 
    (B : Below A₀ base outer g) (X : (nk.heap_1 w.params).In g) (T : Top p loose mean mg mb g) (hd : dp + 8 < recursionLimit) (hu : un + 128 < cLine)
    {m cm : Str → Option Value} {bo H hpA duA : Addr} {nh nd : Nat} {K : Nat → Nat → Int} {cells frz : List (Addr × Obj)} {s : Shared} {R : Flow → Shared → Prop}
    (hr0 : Rows frz bo H K)
    (F : Fr g L s.heap m) (hm : AtL m [("boxes", .ref bo), ("hues", .ref H), ("heap", .ref hpA), ("due", .ref duA)])
    (N : News g L s.heap ((hpA, listOf #[] nh) :: (duA, listOf #[] nd) :: (cells ++ frz))) (D : NDup ((hpA, listOf #[] nh) :: (duA, listOf #[] nd) :: (cells ++ frz)))
    (Y : CellsAre cm (lawCl L) cells)
    (done : ∀ h' tk m' cm' cells' tmp hp due nh' nd', Fr g L h' m' → AtL m' [("boxes", .ref bo), ("hues", .ref H), ("heap", .ref hpA), ("due", .ref duA)] →
      News g L h' ((hpA, listOf (vls hp).toArray nh') :: (duA, listOf (vls due).toArray nd') :: (cells' ++ (tmp ++ frz))) → NDup ((hpA, listOf (vls hp).toArray nh') :: (duA, listOf (vls due).toArray nd') :: (cells' ++ (tmp ++ frz))) →
      CellsAre cm' (lawCl L) cells' → PC K tmp hp due 27 → R .next { s with heap := h', toks := tk }) :
    wpAny (MM w) ((TopA dp un gd outer).deeper (lawEnv L fa cd)) (exec stC8.1 (lawEnv L fa cd)) R (fun _ _ => False) s := by
  rw [← kst_at hm] at F
  unfold stC8
  dsimp only
  k_steps
  unfold Hold
  rename Fr _ _ _ _ => F9
  rename News _ _ _ _ => N9
  rename IsRange _ _ _ _ _ _ _ _ => hr
  refine range_turns (n := 3)
    (fun i m nx => ∃ cm cells tmp hp due nh nd, nx = (hpA, listOf (vls hp).toArray nh) :: (duA, listOf (vls due).toArray nd) :: (cells ++ (tmp ++ frz)) ∧ CellsAre cm (lawCl L) cells ∧ AtL m [("boxes", .ref bo), ("hues", .ref H), ("heap", .ref hpA), ("due", .ref duA)] ∧ PC K tmp hp due (9 * i))
    rfl hr rfl rfl F9 N9 D ⟨cm, cells, [], [], [], _, _, rfl, Y, ⟨rfl, rfl, rfl, rfl, trivial⟩, rfl, rfl, (fun _ h => nomatch h), (fun _ h => nomatch h)⟩ (fun _ _ _ _ _ _ _ _ _ q => wpAny_pure q) ?_ ?_
  · rintro i m₁ nx h₁ tk₁ I₁ oI₁ t₁ hi ⟨cm₁, cells₁, tmp, hp, due, nh₁, nd₁, rfl, Y₁, hm₁, hp₁⟩ F₁ N₁ D₁
    clear F9 N9 hr
    refine assignCell F₁ N₁ D₁ (pre := [_, _, _]) (.cons (.cons (.cons .nil))) Y₁ rfl rfl fun h₂ cells₂ F₂ N₂ D₂ Y₂ => ?_
    clear F₁ N₁ D₁
    rw [Int.zero_add] at Y₂
    rw [← kst_at hm₁] at F₂
    dsimp only [List.cons_append, List.nil_append] at N₂ D₂
    refine gen_post fun R1 hR1 => ?_
    k_steps
    unfold Hold
    rename Fr _ _ _ _ => F9
    rename News _ _ _ _ => N9
    rename IsRange _ _ _ _ _ _ _ _ => hr
    refine range_turns (n := 3)
      (fun j m nx => ∃ cm cells tmp hp due nh nd ti, nx = (I₁, oI₁) :: (hpA, listOf (vls hp).toArray nh) :: (duA, listOf (vls due).toArray nd) :: (cells ++ (tmp ++ frz)) ∧ CellsAre cm (lawCl L) cells ∧ AtL cm [("i", .int (i : Int) ti)] ∧ AtL m [("boxes", .ref bo), ("hues", .ref H), ("heap", .ref hpA), ("due", .ref duA)] ∧ PC K tmp hp due (9 * i + 3 * j))
      rfl hr rfl rfl F9 N9 D₂ ⟨_, _, tmp, hp, due, _, _, _, rfl, Y₂, ⟨rfl, trivial⟩, ⟨rfl, rfl, rfl, rfl, trivial⟩, hp₁⟩ (fun _ _ _ _ _ _ _ _ _ q => wpAny_pure q) ?_ ?_
    · clear F9 N9 hr Y₂ D₂ Y₁ hm₁ hp₁
      rintro j m₁ nx h₁ tk₁ I₂ oI₂ t₂ hj ⟨cm₁, cells₁, tmp, hp, due, nh₁, nd₁, ti, rfl, Y₁, hcm₁, hm₁, hp₁⟩ F₁ N₁ D₁
      refine assignCell F₁ N₁ D₁ (pre := [_, _, _, _]) (.cons (.cons (.cons (.cons .nil)))) Y₁ rfl rfl fun h₂ cells₂ F₂ N₂ D₂ Y₂ => ?_
      clear F₁ N₁ D₁
      rw [Int.zero_add] at Y₂
      rw [← kst_at hm₁] at F₂
      dsimp only [List.cons_append, List.nil_append] at N₂ D₂
      refine gen_post fun R2 hR2 => ?_
      k_steps
      unfold Hold
      rename Fr _ _ _ _ => F9
      rename News _ _ _ _ => N9
      rename IsRange _ _ _ _ _ _ _ _ => hr
      refine range_turns (n := 3)
        (fun k m nx => ∃ cm cells tmp hp due nh nd ti tj, nx = (I₂, oI₂) :: (I₁, oI₁) :: (hpA, listOf (vls hp).toArray nh) :: (duA, listOf (vls due).toArray nd) :: (cells ++ (tmp ++ frz)) ∧ CellsAre cm (lawCl L) cells ∧ AtL cm [("i", .int (i : Int) ti), ("j", .int (j : Int) tj)] ∧ AtL m [("boxes", .ref bo), ("hues", .ref H), ("heap", .ref hpA), ("due", .ref duA)] ∧ PC K tmp hp due (9 * i + 3 * j + k))
        rfl hr rfl rfl F9 N9 D₂ ⟨_, _, tmp, hp, due, _, _, _, _, rfl, Y₂, ⟨hcm₁.1, rfl, trivial⟩, ⟨rfl, rfl, rfl, rfl, trivial⟩, hp₁⟩ (fun _ _ _ _ _ _ _ _ _ q => wpAny_pure q) ?_ ?_
      · clear F9 N9 hr Y₂ D₂ Y₁ hm₁ hp₁ hcm₁
        rintro k m₁ nx h₁ tk₁ I₃ oI₃ t₃ hk ⟨cm₁, cells₁, tmp, hp, due, nh₁, nd₁, ti, tj, rfl, Y₁, hcm₁, hm₁, hp₁⟩ F₁ N₁ D₁
        refine assignCell F₁ N₁ D₁ (pre := [_, _, _, _, _]) (.cons (.cons (.cons (.cons (.cons .nil))))) Y₁ rfl rfl fun h₂ cells₂ F₂ N₂ D₂ Y₂ => ?_
        clear F₁ N₁ D₁
        rw [Int.zero_add] at Y₂
        refine gen_post fun R3 hR3 => ?_
        obtain ⟨n, nb, n0, n1, n2, R0, R1, R2, B0, B1, B2, r00, r01, r02, r10, r11, r12, r20, r21, r22, g1, g2, g3, g4, g5, g6, g7, g8⟩ := hr0.mono (f' := tmp ++ frz) fun p hp => List.mem_append.mpr (.inr hp)
        have hl := hp₁.len
        refine turnC B X T hd hu hi hj hk g1 g2 g3 g4 g5 g6 g7 g8 (hv := (vls hp).toArray) (dv := (vls due).toArray) (by simp [vls]; lia) (by simp [vls]; lia) F₂ hm₁ N₂ D₂ Y₂ ⟨hcm₁.1, hcm₁.2.1, rfl, trivial⟩ ?_
        intro h' tk m' cm' cells' tmp' a t0 t1 t2 t3 dv' nd' F' hm' N' D' Y' hcm' ha hdd
        obtain ⟨due', rfl, hp'⟩ := hp₁.push (f' := tmp' ++ tmp) hi hj hk (by lia) (fun p hp => List.mem_append.mpr (.inr hp)) (List.mem_append.mpr (.inl ha)) (by
          rcases hdd with ⟨x, b, u0, u1, u2, u3, y, z, v⟩ | hdd
          · exact .inl ⟨x, b, u0, u1, u2, u3, y, z, List.mem_append.mpr (.inl v)⟩
          · exact .inr hdd)
        rw [vls_push hp (a, keyAt K (9 * i + 3 * j + k)), ← List.append_assoc tmp'] at N' D'
        exact hR3 _ _ ⟨_, _, _, _, rfl, F', N', D', cm', cells', tmp' ++ tmp, _, due', _, _, ti, tj, rfl, Y', hcm', hm', hp'⟩
      · clear F9 N9 hr Y₂ D₂ Y₁ hm₁ hp₁
        rintro m₁ nx h₁ tk₁ ⟨cm₁, cells₁, tmp, hp, due, nh₁, nd₁, ti, tj, rfl, Y₁, hcm₁, hm₁, hp₁⟩ F₁ N₁ D₁
        k_steps
        rename Fr _ _ _ _ => F9
        exact hR2 _ _ ⟨h₁, tk₁, m₁, _, rfl, F9, N₁, D₁, cm₁, cells₁, tmp, hp, due, nh₁, nd₁, ti, rfl, Y₁, ⟨hcm₁.1, trivial⟩, hm₁, by rw [show 9 * i + 3 * (j + 1) = 9 * i + 3 * j + 3 by lia]; exact hp₁⟩
    · clear F9 N9 hr Y₂ D₂ Y₁ hm₁ hp₁
      rintro m₁ nx h₁ tk₁ ⟨cm₁, cells₁, tmp, hp, due, nh₁, nd₁, ti, rfl, Y₁, hcm₁, hm₁, hp₁⟩ F₁ N₁ D₁
      k_steps
      rename Fr _ _ _ _ => F9
      exact hR1 _ _ ⟨h₁, tk₁, m₁, _, rfl, F9, N₁, D₁, cm₁, cells₁, tmp, hp, due, nh₁, nd₁, rfl, Y₁, hm₁, by rw [show 9 * (i + 1) = 9 * i + 3 * 3 by lia]; exact hp₁⟩
  · rintro m₁ nx h₁ tk₁ ⟨cm₁, cells₁, tmp, hp, due, nh₁, nd₁, rfl, Y₁, hm₁, hp₁⟩ F₁ N₁ D₁
    exact done h₁ tk₁ m₁ cm₁ cells₁ tmp hp due nh₁ nd₁ F₁ hm₁ N₁ D₁ Y₁ hp₁
end

section
theorem calm_D1 : True := by
  w_top off
  exact trivial
open PySem.W
noncomputable def stD9 : { x : Stmt // lawSt 9 = x } := ⟨_, by conv => lhs; whnf⟩
noncomputable def stD10 : { x : Stmt // lawSt 10 = x } := ⟨_, by conv => lhs; whnf⟩
noncomputable def stD11 : { x : Stmt // lawSt 11 = x } := ⟨_, by conv => lhs; whnf⟩
theorem news_swap {g h : Heap} {L : Addr} {a b : Addr × Obj} {l : List (Addr × Obj)} (N : News g L h (a :: b :: l)) (D : NDup (a :: b :: l)) : News g L h (b :: a :: l) ∧ NDup (b :: a :: l) :=
  ⟨fun p hp => N p (by rcases List.mem_cons.mp hp with rfl | hp
                       · exact .tail _ (.head _)
                       · rcases List.mem_cons.mp hp with rfl | hp
                         · exact .head _
                         · exact .tail _ (.tail _ hp)), D.perm (List.Perm.swap _ _ _)⟩
theorem phC6 
    (B : Below A₀ base outer g) (X : (nk.heap_1 w.params).In g) (T : Top p loose mean mg mb g) (hd : dp + 8 < recursionLimit) (hu : un + 128 < cLine)
    {m : Str → Option Value} {bo H : Addr} {cells frz : List (Addr × Obj)} {s : Shared} {R : Flow → Shared → Prop}
    (F : Fr g L s.heap m) (hm : AtL m [("boxes", .ref bo), ("hues", .ref H)]) (N : News g L s.heap (cells ++ frz)) (D : NDup (cells ++ frz))
    (done : ∀ h' tk m' hpA n, Fr g L h' m' → AtL m' [("boxes", .ref bo), ("hues", .ref H), ("heap", .ref hpA)] → News g L h' ((hpA, listOf #[] n) :: (cells ++ frz)) → NDup ((hpA, listOf #[] n) :: (cells ++ frz)) → R .next { s with heap := h', toks := tk }) :
    wpAny (MM w) ((TopA dp un gd outer).deeper (lawEnv L fa cd)) (exec stC6.1 (lawEnv L fa cd)) R (fun _ _ => False) s := by
  rw [← kst_at hm] at F
  unfold stC6
  dsimp only
  k_steps
  rename Fr _ _ _ _ => F9
  rename News _ _ _ _ => N9
  rename NDup _ => D9
  exact done _ _ _ _ _ F9 ⟨rfl, rfl, rfl, trivial⟩ N9 D9
theorem phC7 
    (B : Below A₀ base outer g) (X : (nk.heap_1 w.params).In g) (T : Top p loose mean mg mb g) (hd : dp + 8 < recursionLimit) (hu : un + 128 < cLine)
    {m : Str → Option Value} {bo H hpA : Addr} {nh : Nat} {cells frz : List (Addr × Obj)} {s : Shared} {R : Flow → Shared → Prop}
    (F : Fr g L s.heap m) (hm : AtL m [("boxes", .ref bo), ("hues", .ref H), ("heap", .ref hpA)]) (N : News g L s.heap ((hpA, listOf #[] nh) :: (cells ++ frz))) (D : NDup ((hpA, listOf #[] nh) :: (cells ++ frz)))
    (done : ∀ h' tk m' duA n, Fr g L h' m' → AtL m' [("boxes", .ref bo), ("hues", .ref H), ("heap", .ref hpA), ("due", .ref duA)] → News g L h' ((hpA, listOf #[] nh) :: (duA, listOf #[] n) :: (cells ++ frz)) → NDup ((hpA, listOf #[] nh) :: (duA, listOf #[] n) :: (cells ++ frz)) → R .next { s with heap := h', toks := tk }) :
    wpAny (MM w) ((TopA dp un gd outer).deeper (lawEnv L fa cd)) (exec stC7.1 (lawEnv L fa cd)) R (fun _ _ => False) s := by
  rw [← kst_at hm] at F
  unfold stC7
  dsimp only
  k_steps
  rename Fr _ _ _ _ => F9
  rename News _ _ _ _ => N9
  rename NDup _ => D9
  exact done _ _ _ _ _ F9 ⟨rfl, rfl, rfl, rfl, trivial⟩ (news_swap N9 D9).1 (news_swap N9 D9).2
theorem phD10 
    (B : Below A₀ base outer g) (X : (nk.heap_1 w.params).In g) (T : Top p loose mean mg mb g) (hd : dp + 8 < recursionLimit) (hu : un + 128 < cLine)
    {m : Str → Option Value} {hpA duA : Addr} {oh : Obj} {cells frz : List (Addr × Obj)} {s : Shared} {R : Flow → Shared → Prop}
    (F : Fr g L s.heap m) (hm : AtL m [("heap", .ref hpA), ("due", .ref duA)]) (N : News g L s.heap ((hpA, oh) :: (cells ++ frz))) (D : NDup ((hpA, oh) :: (cells ++ frz)))
    (done : ∀ h' tk m' grA n, Fr g L h' m' → AtL m' [("heap", .ref hpA), ("due", .ref duA), ("greys", .ref grA)] → News g L h' ((hpA, oh) :: (grA, listOf #[] n) :: (cells ++ frz)) → NDup ((hpA, oh) :: (grA, listOf #[] n) :: (cells ++ frz)) → R .next { s with heap := h', toks := tk }) :
    wpAny (MM w) ((TopA dp un gd outer).deeper (lawEnv L fa cd)) (exec stD10.1 (lawEnv L fa cd)) R (fun _ _ => False) s := by
  rw [← kst_at hm] at F
  unfold stD10
  dsimp only
  k_steps
  rename Fr _ _ _ _ => F9
  rename News _ _ _ _ => N9
  rename NDup _ => D9
  exact done _ _ _ _ _ F9 ⟨rfl, rfl, rfl, trivial⟩ (news_swap N9 D9).1 (news_swap N9 D9).2
end

section
theorem calm_D2 : True := by
  w_top off
  exact trivial
open PySem.W
theorem inT_item {K : Nat → Nat → Int} {f news : List (Addr × Obj)} {p : It} {g h : Heap} {L ha : Addr} (H : InT K f p) (N : News g L h news) (hs : ∀ q ∈ f, q ∈ news) (hne : p.1 ≠ ha) : HItem (h.hide ha) p := by
  obtain ⟨c, t0, t1, t2, t3, hc, hk, hm⟩ := H
  refine ⟨[_, _, _, _], wdAt K c, ((c / 9 : Nat) : Int), ((c / 3 % 3 : Nat) : Int), ((c % 3 : Nat) : Int), ⟨_, (Heap.hide_ne _ hne).trans (N _ (hs _ hm)).1, rfl, _, rfl⟩, .cons _ _ (.cons _ _ (.cons _ _ (.cons _ _ .nil))), ⟨by lia, by lia⟩, ⟨by lia, by lia⟩, ⟨by lia, by lia⟩, hk⟩
theorem heapify_D {K : Nat → Nat → Int} {w : World} {p : Program} {loose : List Str} {mean : ExcName → Option Value} {mg mb : Str → Option Value} {dp un : Nat} {gd : Option (List Code)} {outer : List Env} {A₀ : Around} {base g : Heap} {s : Shared} {L ha : Addr} {m : Str → Option Value} {env : Env} {n : Nat} {Q E : Value → Shared → Prop} {l : List It} {f suf : List (Addr × Obj)}
    (hl : l.length = 27) (hit : ∀ x ∈ l, InT K f x) (hs : ∀ q ∈ f, q ∈ suf)
    (B : Below A₀ base outer g) (X : (nk.heap_1 w.params).In g) (T : Top p loose mean mg mb g) (F : Fr g L s.heap m) (N : News g L s.heap ((ha, listOf (vls l).toArray n) :: suf)) (D : NDup ((ha, listOf (vls l).toArray n) :: suf))
    (hdp : dp + 1 + 3 < recursionLimit) (hun : un + 3 + 24 < cLine) (hk : env.scope.kind ≠ .module) (hf : env.frame = some L)
    (h : ∀ h' tk' l' n', l'.Perm l → HP l' 0 → s.toks ≤ tk' → Fr g L h' m → News g L h' ((ha, listOf (vls l').toArray n') :: suf) → NDup ((ha, listOf (vls l').toArray n') :: suf) → Q .none { s with heap := h', toks := tk' }) :
    wpAny (MM w) ((TopA dp un gd outer).deeper env) (call (.ref 73) [.ref ha]) Q E s := by
  refine m_call (pre := []) (heapify_c w ha l hl) B X T F N (fun _ h => nomatch h) D.head hdp hun (fun x hx => ?_) hk hf fun v h' tk' l' n' hp ht F' N' _ => ?_
  · obtain ⟨c, t0, t1, t2, t3, hc, hk, hm⟩ := hit x hx
    exact inT_item (hit x hx) N (fun q hq => .tail _ (hs q hq)) (D.head _ (hs _ hm))
  · obtain ⟨rfl, h1, h2⟩ := hp
    exact h h' tk' l' n' h1 h2 ht F' N' (D.of_map rfl)
theorem heappop_D {K : Nat → Nat → Int} {w : World} {p : Program} {loose : List Str} {mean : ExcName → Option Value} {mg mb : Str → Option Value} {dp un : Nat} {gd : Option (List Code)} {outer : List Env} {A₀ : Around} {base g : Heap} {s : Shared} {L ha : Addr} {m : Str → Option Value} {env : Env} {n : Nat} {Q E : Value → Shared → Prop} {l : List It} {f suf : List (Addr × Obj)}
    (hl : l.length ≤ 64) (h0 : 0 < l.length) (hh : HP l 0) (hit : ∀ x ∈ l, InT K f x) (hs : ∀ q ∈ f, q ∈ suf)
    (B : Below A₀ base outer g) (X : (nk.heap_1 w.params).In g) (T : Top p loose mean mg mb g) (F : Fr g L s.heap m) (N : News g L s.heap ((ha, listOf (vls l).toArray n) :: suf)) (D : NDup ((ha, listOf (vls l).toArray n) :: suf))
    (hdp : dp + 1 + 3 < recursionLimit) (hun : un + 3 + 24 < cLine) (hk : env.scope.kind ≠ .module) (hf : env.frame = some L)
    (h : ∀ h' tk' l' n', (at' l 0 :: l').Perm l → HP l' 0 → s.toks ≤ tk' → Fr g L h' m → News g L h' ((ha, listOf (vls l').toArray n') :: suf) → NDup ((ha, listOf (vls l').toArray n') :: suf) → Q (.ref (at' l 0).1) { s with heap := h', toks := tk' }) :
    wpAny (MM w) ((TopA dp un gd outer).deeper env) (call (.ref 66) [.ref ha]) Q E s := by
  refine m_call (pre := []) (heappop_c w ha l hl h0 hh) B X T F N (fun _ h => nomatch h) D.head hdp hun (fun x hx => ?_) hk hf fun v h' tk' l' n' hp ht F' N' _ => ?_
  · obtain ⟨c, t0, t1, t2, t3, hc, hk, hm⟩ := hit x hx
    exact inT_item (hit x hx) N (fun q hq => .tail _ (hs q hq)) (D.head _ (hs _ hm))
  · obtain ⟨rfl, h1, h2⟩ := hp
    exact h h' tk' l' n' h1 h2 ht F' N' (D.of_map rfl)
theorem words_25 : True := by
  k_with "m call ref" => case' fresh => (k_here; (with_reducible show wpAny _ _ (call (Value.ref 73) _) _ _ _); k_dflt (refine' hold ?_))
  exact trivial
theorem phD9 
    (B : Below A₀ base outer g) (X : (nk.heap_1 w.params).In g) (T : Top p loose mean mg mb g) (hd : dp + 8 < recursionLimit) (hu : un + 128 < cLine)
    {K : Nat → Nat → Int} {m : Str → Option Value} {hpA duA : Addr} {nh : Nat} {l : List It} {cells frz : List (Addr × Obj)} {s : Shared} {R : Flow → Shared → Prop}
    (hl : l.length = 27) (hit : ∀ x ∈ l, InT K frz x)
    (F : Fr g L s.heap m) (hm : AtL m [("heap", .ref hpA), ("due", .ref duA)]) (N : News g L s.heap ((hpA, listOf (vls l).toArray nh) :: (cells ++ frz))) (D : NDup ((hpA, listOf (vls l).toArray nh) :: (cells ++ frz)))
    (done : ∀ h' tk m' l' n, Fr g L h' m' → AtL m' [("heap", .ref hpA), ("due", .ref duA)] → News g L h' ((hpA, listOf (vls l').toArray n) :: (cells ++ frz)) → NDup ((hpA, listOf (vls l').toArray n) :: (cells ++ frz)) → l'.Perm l → HP l' 0 → R .next { s with heap := h', toks := tk }) :
    wpAny (MM w) ((TopA dp un gd outer).deeper (lawEnv L fa cd)) (exec stD9.1 (lawEnv L fa cd)) R (fun _ _ => False) s := by
  rw [← kst_at hm] at F
  unfold stD9
  dsimp only
  k_steps
  unfold Hold
  rename Fr _ _ _ _ => F9
  rename News _ _ _ _ => N9
  refine heapify_D hl hit (fun q hq => List.mem_append.mpr (.inr hq)) B X T F9 N9 D (by lia) (by lia) (fun e => nomatch e) rfl fun h' tk' l' n' hp hh ht F' N' D' => ?_
  clear F9 N9
  k_steps
  exact done _ _ _ _ _ F' ⟨rfl, rfl, trivial⟩ N' D' hp hh
end

section
theorem words_26 : True := by
  k_with_none
  k_with "m p_enter" => case' fresh => (refine wpAny_call ?_; k_dflt (refine' p_enter ?k1 ?k3 ?k5 ?k6 ?k7 ?k8 ?k9 ?kB ?_ ?c2 ?c3 ?c4 ?c5; (case k1 | k3 | k5 => assumption); (case k6 | k7 => k_is); (case k8 => lia); (case k9 => first | exact BindsTo.of_eq rfl | exact binds_K (by k_in) rfl (by k_is) rfl rfl rfl); (case kB => exact locs rfl); (case c5 => decide); (case c2 | c3 | c4 => exact rfl); k_whole; intro _ _ _ _; (try dsimp only); (try k_fold)))
  k_with "m subscriptTail Name Constant ref int" => case' fresh => (k_here; k_dflt (refine' item_base ?F ?l ?a ?b ?d ?_; (case F => k_asm); (case l => with_reducible assumption); (case a | b => decide); (case d => exact rfl); k_whole))
  k_with "m subscriptTail Name Constant ref int" => case' fresh => (k_here; k_dflt (refine' tup_base ?F ?l ?a ?b ?j ?d ?_; (case F => k_asm); (case l => with_reducible assumption); (case a | b => decide); (case j | d => exact rfl); k_whole))
  k_with "m binaryOp Mult int int" => case' fresh => (k_dflt (refine' mul_smallL ?a ?b ?_; (case a | b => lia)))
  k_with "m binaryOp Mult int int" => case' fresh => (k_dflt (refine' mul_smallR ?a ?b ?_; (case a | b => lia)))
  k_with "m call builtin:max" => case' fresh => (k_here; (with_reducible show wpAny _ _ (call (Value.builtin "max") [Value.float _ _, Value.float _ _, Value.float _ _]) _ _ _); k_dflt (refine' max3_ex ?a ?b ?c ?d ?F ?N ?_; (case a | b | c => assumption); (case d => exact rfl); (case F | N => k_asm); intro _ _ _ _ _ _ hle'k F'k N'k; (try dsimp only at hle'k); (revert hle'k F'k N'k; intro _ _ _); (try k_sweep)))
  k_with "m call builtin:min" => case' fresh => (k_here; (with_reducible show wpAny _ _ (call (Value.builtin "min") [Value.float _ _, Value.float _ _, Value.float _ _]) _ _ _); k_dflt (refine' min3_ex ?a ?b ?c ?d ?F ?N ?_; (case a | b | c => assumption); (case d => exact rfl); (case F | N => k_asm); intro _ _ _ _ _ _ hle'k F'k N'k; (try dsimp only at hle'k); (revert hle'k F'k N'k; intro _ _ _); (try k_sweep)))
  k_with "m assign Tuple" => case' fresh => ((rename IntsAre _ _ => i9k); (rename (List.length _ = _) => e9k); (obtain ⟨a9, b9, c9, ta9, tb9, tc9, e8, e7⟩ := three_of i9k e9k); subst e8; subst e7; (walk_at "assign Tuple"))
  k_with "m call builtin:max" => case' fresh => (k_here; (with_reducible show wpAny _ _ (call (Value.builtin "max") (Value.int _ _ :: _)) _ _ _); k_dflt ((first | refine' max3_i ?d ?F ?N ?_ | refine' max2_i ?d ?F ?N ?_); (case d => exact rfl); (case F | N => k_asm); intro _ _ _ _ _; (try k_sweep)))
  k_with "m call builtin:min" => case' fresh => (k_here; (with_reducible show wpAny _ _ (call (Value.builtin "min") (Value.int _ _ :: _)) _ _ _); k_dflt ((first | refine' min3_i ?d ?F ?N ?_ | refine' min2_i ?d ?F ?N ?_); (case d => exact rfl); (case F | N => k_asm); intro _ _ _ _ _; (try k_sweep)))
  k_with "m ite" => case' fresh => (k_dflt (first | (refine' ite_eq_tt ?a ?b ?c ?_; (case a | b => assumption); (case c => lia)) | (refine' ite_eq_ff ?a ?b ?c ?_; (case a | b => assumption); (case c => lia))))
  k_with "m p_leaf" => case' fresh => (rename Fr _ _ _ _ => F9k; rename News _ _ _ _ => N9k; rename ∀ (_ : Value) (_ : Heap) (_ : Nat) (_ : List (Addr × Obj)), _ => hret9k; refine hret9k _ _ _ _ ?_ F9k.keep (fun q hq => ⟨(N9k q hq).1, (N9k q hq).2.2⟩))
  k_with "m execs cons" => case' fresh => (k_here; k_dflt (refine' gen_toks ?p ?_; (case p => first | with_reducible assumption | exact Nat.succ_pos _ | lia | (dsimp only; first | exact Nat.succ_pos _ | lia)); (intro _ _; (try dsimp only); refine wpAny_execs_cons ?_)))
  k_with "m p_toks" => case' fresh => (first | with_reducible assumption | exact Nat.succ_ne_zero _ | exact Nat.pos_iff_ne_zero.mp (by assumption) | exact tok_or3 (by assumption) (by assumption))
  k_with "m d_pos" => case' fresh => (first | with_reducible assumption | exact Nat.succ_pos _ | (dsimp only; first | exact Nat.succ_pos _ | omega) | omega)
  k_with "m l_bd" => case' fresh => (refine And.intro ?_ ?_ <;> (first | lia | l_bnd))
  k_with "m k_app" => case' fresh => (first | exact App.nil | (refine' App.cons ?pa; (case pa => walk_at "k_app")))
  k_with "m k_updN" => case' fresh => (first | exact UpdN.head | (refine' UpdN.tail ?pa; (case pa => walk_at "k_updN")))
  k_with "m k_part" => case' fresh => (first | exact Part.nil | (refine' Part.keep ?pa; (case pa => walk_at "k_part")) | (refine' Part.tmp ?pa; (case pa => walk_at "k_part")))
  k_with "m eval Name" => case' fresh => (k_here; k_dflt (refine' nameC ?N ?P ?Y ?c ?v ?_ ?a ?b ?d; (case Y => with_reducible assumption); (case b | a => exact rfl); (case N => k_asm); (case P => walk_at "k_app"); (case c | v => exact rfl); (case d => decide); k_whole))
  k_with "m eval Name" => case' fresh => (k_here; k_dflt (refine' nameX_L ?F ?v ?_ ?a ?b; (case F => k_asm); (case b | a | v => exact rfl); k_whole))
  k_with "m storeName" => case' fresh => (k_here; (with_reducible rename CellsAre _ _ _ => Y9k); (with_reducible rename NDup _ => D9k); k_dflt (refine' storeC ?F ?N D9k ?P Y9k ?c ?n ?_ ?a ?b; (case b | a => exact rfl); (case F | N => k_asm); (case P => walk_at "k_app"); (case c => exact rfl); (case n => exact lawCl_nd _); k_whole); intro _ _ _ N'k D'k Y'k; clear Y9k D9k; (try dsimp only [List.cons_append, List.nil_append] at N'k D'k); (revert N'k D'k Y'k; intro _ _ _); (try k_sweep))
  k_with "m storeName" => case' fresh => (k_here; k_dflt (refine' storeX_L ?F ?N ?_ ?a ?b; (case b | a => rfl); (case F | N => k_asm); k_whole); intro _ _ _; (try k_sweep))
  k_with "m newTuple" => case' fresh => (k_here; (with_reducible rename NDup _ => D9k); k_dflt (refine' newTup_D ?F ?N D9k ?_ ?z; (case F | N => k_asm); (case z => size_fits); k_whole); intro _ _ _ _ _; clear D9k; (try k_sweep))
  k_with "m newList" => case' fresh => (k_here; (with_reducible rename NDup _ => D9k); k_dflt (refine' newList_D ?F ?N D9k ?_ ?z; (case F | N => k_asm); (case z => size_fits); k_whole); intro _ _ _ _ _; clear D9k; (try k_sweep))
  k_with "m call builtin:list.append" => case' fresh => (k_here; (with_reducible rename NDup _ => D9k); k_dflt (refine' append_D ?F ?N D9k ?U ?_ ?z; (case F | N => k_asm); (case U => walk_at "k_updN"); (case z => first | size_fits | (simp only [Array.size_push] at *; lia)); k_whole); intro _ _ _ _; clear D9k; (try k_sweep))
  k_with "m call ref" => case' fresh => (k_here; (with_reducible show wpAny _ _ (call (Value.ref 242) _) _ _ _); (with_reducible rename NDup _ => D9k); k_dflt (refine' parts_D ?b0 ?b1 ?b2 ?k1 ?k2 ?k3 ?k4 ?k5 D9k rfl rfl nofun rfl ?ka ?kb ?kc ?_; (case b0 | b1 | b2 => walk_at "l_bd"); (case k1 => k_asm); (case k2 | k3 => with_reducible assumption); (case k4 | k5 => k_asm); (case ka | kb => walk_at "m_un"); (case kc => walk_at "d_pos")); intro _ _ _ _ _ _ _ _ _ _ _ _ _ _; clear D9k; (try k_sweep))
  k_with "m call ref" => case' fresh => (k_here; (with_reducible show wpAny _ _ (call (Value.ref 59) _) _ _ _); (with_reducible rename NDup _ => D9k); k_dflt (refine' h2r_D ?a1 ?a2 ?a3 ?b0 ?b1 ?b2 ?a4 ?k1 ?k2 ?k3 ?k4 ?k5 D9k rfl rfl nofun rfl ?ka ?kb ?kc ?_; (case a1 | a2 | a3 => assumption);(case b0 | b1 | b2 => walk_at "l_bd");(case a4 => walk_at "p_toks"); (case k1 => k_asm); (case k2 | k3 => with_reducible assumption); (case k4 | k5 => k_asm); (case ka | kb => walk_at "m_un"); (case kc => walk_at "d_pos")); intro _ _ _ _ _ _ _ _ _ _ _ _ _ _ _ _ _; clear D9k; (try k_sweep))
  k_with "m call ref" => case' fresh => (k_here; (with_reducible show wpAny _ _ (call (Value.ref 52) _) _ _ _); (with_reducible rename NDup _ => D9k); k_dflt (refine' r2h_D ?a1 ?a2 ?a3 ?b0 ?b1 ?b2 ?a4 ?k1 ?k2 ?k3 ?k4 ?k5 D9k rfl rfl nofun rfl ?ka ?kb ?kc ?_; (case a1 | a2 | a3 => assumption);(case b0 | b1 | b2 => walk_at "l_bd");(case a4 => assumption); (case k1 => k_asm); (case k2 | k3 => with_reducible assumption); (case k4 | k5 => k_asm); (case ka | kb => walk_at "m_un"); (case kc => walk_at "d_pos")); intro _ _ _ _ _ _ _ _ _ _ _ _ _ _ _ _ _; clear D9k; (try k_sweep))
  k_with "m m_un" => case' fresh => ((try simp only [depth_in1, depth_deeper, units_in1, units_deeper, Around.mark_units]); (try dsimp only); lia)
  k_with "m binaryOp Div int int" => case' fresh => (k_here; k_dflt (refine' div_by (g := 10) ?k1 ?k2 ?k3 ?k4 ?_; (case k1 | k2 => decide); (case k3 | k4 => first | lia | l_bnd); k_whole; intro _ _; (try dsimp only)))
  k_with "m binaryOp Div int int" => case' fresh => (k_here; k_dflt (refine' div_by (g := 2) ?k1 ?k2 ?k3 ?k4 ?_; (case k1 | k2 => decide); (case k3 | k4 => first | lia | l_bnd); k_whole; intro _ _; (try dsimp only)))
  k_with "m binaryOp Div int int" => case' fresh => (k_here; k_dflt (refine' div_by (g := 14) ?k1 ?k2 ?k3 ?k4 ?_; (case k1 | k2 => decide); (case k3 | k4 => first | lia | l_bnd); k_whole; intro _ _; (try dsimp only)))
  k_with "m call builtin:sum" => case' fresh => (k_here; k_dflt (refine' sum_pick ?k1 ?k2 ?k3 ?k5 ?_; (case k1 => exact rfl); (case k2 | k3 => k_asm); (case k5 => with_reducible assumption); k_whole; intro _ _ _ _ hle'k F'k N'k; (try dsimp only at hle'k); (revert hle'k F'k N'k; intro _ _ _); (with_reducible rename NDup _ => D9k); (have D'k := NDup.tail D9k); clear D9k; (revert D'k; intro _); (try k_sweep)))
  k_with "m binaryOp Mult float int" => case' fresh => (k_here; k_dflt (refine' mul_1024 ?a ?b ?_; (case a => assumption); (case b => walk_at "l_bd"); k_whole; intro _ _; (try dsimp only)))
  k_with "m call type:int" => case' fresh => (k_here; k_dflt (refine' int_f ?a ?b ?c ?_; (case a => exact rfl); (case b => assumption); (case c => lia); k_whole))
  k_with "m compareOp NotEq ref ref" => case' fresh => (k_here; k_dflt (refine' ne_tup ?F ?X ?N ?a ?b ?c1 ?c2 ?c3 ?c4 ?c5 ?c6 ?d1 ?d2 ?e ?_; (case F | X | N => k_asm); (case a | b => k_mem); (case c1 | c2 | c3 | c4 | c5 | c6 => assumption); (case d1 | d2 => walk_at "p_toks3"); (case e => walk_at "m_un"); k_whole))
  k_with "m p_toks3" => case' fresh => (first | with_reducible assumption | exact ⟨by walk_at "p_toks", by walk_at "p_toks", by walk_at "p_toks"⟩)
  k_with "m p_toks" => case' fresh => (first | with_reducible assumption | exact Nat.succ_ne_zero _ | exact Nat.pos_iff_ne_zero.mp (by assumption) | lia)
  k_with "m pyIter ref" => case' fresh => (k_here; k_dflt (refine' hold ?_))
  k_with "m exec For Name Call cons nil" => case' fresh => (k_here; (rename Fr _ _ _ _ => lF'k); (with_unfolding_all refine' For_turns lF'k ?_); k_whole)
  k_with "m exec For Tuple Tuple cons nil" => case' fresh => (k_here; (rename Fr _ _ _ _ => lF'k); (with_unfolding_all refine' For_turns lF'k ?_); k_whole)
  k_with "m binaryOp Mod int int" => case' fresh => (k_here; k_dflt (refine' mod_g ?k1 ?_; (case k1 => first | decide | lia); k_whole); intro _ _ _ r1'k; (try dsimp only at r1'k); (revert r1'k; intro _); (try dsimp only))
  k_with "m subscriptTail Name Constant ref int" => case' fresh => (k_here; k_dflt (refine' idxT ?N ?m ?a ?b ?d ?_ ?s; (case N => k_asm); (case m => k_mem); (case a | b => first | decide | lia); (case d => first | exact rfl | assumption); (case s => with_unfolding_all rfl); k_whole))
  k_with "m subscriptTail Subscript Constant ref int" => case' fresh => (k_here; k_dflt (refine' idxT ?N ?m ?a ?b ?d ?_ ?s; (case N => k_asm); (case m => k_mem); (case a | b => first | decide | lia); (case d => first | exact rfl | assumption); (case s => with_unfolding_all rfl); k_whole))
  k_with "m subscriptTail Subscript Name ref int" => case' fresh => (k_here; k_dflt (refine' idxT ?N ?m ?a ?b ?d ?_ ?s; (case N => k_asm); (case m => k_mem); (case a | b => first | decide | lia); (case d => first | exact rfl | assumption); (case s => with_unfolding_all rfl); k_whole))
  k_with "m subscriptTail Name Name ref int" => case' fresh => (k_here; k_dflt (refine' idxT ?N ?m ?a ?b ?d ?_ ?s; (case N => k_asm); (case m => k_mem); (case a | b => first | decide | lia); (case d => first | exact rfl | assumption); (case s => with_unfolding_all rfl); k_whole))
  k_with "m subscriptTail Name Constant ref int" => case' fresh => (k_here; k_dflt (refine' idxL ?N ?m ?a ?b ?d ?_ ?s; (case N => k_asm); (case m => k_mem); (case a | b => first | decide | lia); (case d => first | exact rfl | assumption); (case s => with_unfolding_all rfl); k_whole))
  k_with "m subscriptTail Subscript Constant ref int" => case' fresh => (k_here; k_dflt (refine' idxL ?N ?m ?a ?b ?d ?_ ?s; (case N => k_asm); (case m => k_mem); (case a | b => first | decide | lia); (case d => first | exact rfl | assumption); (case s => with_unfolding_all rfl); k_whole))
  k_with "m subscriptTail Subscript Name ref int" => case' fresh => (k_here; k_dflt (refine' idxL ?N ?m ?a ?b ?d ?_ ?s; (case N => k_asm); (case m => k_mem); (case a | b => first | decide | lia); (case d => first | exact rfl | assumption); (case s => with_unfolding_all rfl); k_whole))
  k_with "m subscriptTail Name Name ref int" => case' fresh => (k_here; k_dflt (refine' idxL ?N ?m ?a ?b ?d ?_ ?s; (case N => k_asm); (case m => k_mem); (case a | b => first | decide | lia); (case d => first | exact rfl | assumption); (case s => with_unfolding_all rfl); k_whole))
  k_with "m subscriptTail Name Name ref int" => case' fresh => (k_here; k_dflt (refine' idx_push ?N ?m ?a ?b ?_ ?s; (case N => k_asm); (case m => k_mem); (case a => first | rfl | lia); (case b => lia); (case s => with_unfolding_all rfl); k_whole))
  k_with "m subscriptTail Tuple Name ref int" => case' fresh => (k_here; k_dflt (refine' idx3 ?N ?m ?a ?b ?_ ?s; (case N => k_asm); (case m => k_mem); (case a | b => lia); (case s => with_unfolding_all rfl); k_whole); intro _ _)
  k_with "m assign Tuple" => case' fresh => (k_here; k_dflt (refine' unpackN_ ?F ?N ?T ?k1 ?k2 ?k3 ?_; (case F | N => k_asm); (case T => refine News.isTup (by k_asm) (by k_mem)); (case k1 | k2 | k3 => exact rfl)); intro _ _ _; (try k_sweep))
  exact trivial
theorem calm_D3 : True := by
  w_top off
  exact trivial
open PySem.W
theorem key_lt {K : Nat → Nat → Int} {c : Nat} (hc : c < 27) : wdAt K c < 512 ↔ keyAt K c < 13824 := by unfold keyAt; lia
structure Popped (l0 hp gr : List It) : Prop where
  heap : HP hp 0
  perm : (gr ++ hp).Perm l0
  sorted : gr.Pairwise fun a b => a.2 ≤ b.2
  below : ∀ a ∈ gr, ∀ b ∈ hp, a.2 ≤ b.2
  small : ∀ a ∈ gr, a.2 < 13824
theorem Popped.step {l0 hp gr l' : List It} {y : It} (h : Popped l0 (y :: hp) gr) (hy : y.2 < 13824) (hp' : (y :: l').Perm (y :: hp)) (hh : HP l' 0) : Popped l0 l' (gr ++ [y]) := by
  have hp2 : l'.Perm hp := hp'.cons_inv
  refine ⟨hh, ?_, ?_, ?_, ?_⟩
  · refine List.Perm.trans ?_ h.perm
    rw [List.append_assoc]
    exact List.Perm.append_left gr hp'
  · rw [List.pairwise_append]
    refine ⟨h.sorted, List.pairwise_singleton _ _, fun a ha b hb => ?_⟩
    rw [List.mem_singleton.mp hb]
    exact h.below a ha y (.head _)
  · intro a ha b hb
    have hb' : b ∈ hp := hp2.mem_iff.mp hb
    rcases List.mem_append.mp ha with ha | ha
    · exact h.below a ha b (.tail _ hb')
    · rw [List.mem_singleton.mp ha]
      exact root_min_mem h.heap (.tail _ hb')
  · intro a ha
    rcases List.mem_append.mp ha with ha | ha
    · exact h.small a ha
    · rw [List.mem_singleton.mp ha]; exact hy
theorem Popped.len {l0 hp gr : List It} (h : Popped l0 hp gr) : gr.length + hp.length = l0.length := by
  have := h.perm.length_eq
  rw [List.length_append] at this; exact this
theorem words_27 : True := by
  k_with "m exec While" => case' fresh => (k_here; k_dflt (refine' hold ?_))
  k_with "m KswPost" => case' fresh => (refine hold ?_)
  k_with "m KswEnd" => case' fresh => (refine hold ?_)
  k_with "m call ref" => case' fresh => (k_here; (with_reducible show wpAny _ _ (call (Value.ref 66) _) _ _ _); k_dflt (refine' hold ?_))
  k_with "m truthy ref" => case' fresh => (k_here; k_dflt (refine' m_truthy ?k1 ?k2 ?k3 ?_; (case k1 => k_asm); (case k2 => k_mem); (case k3 => lia); k_whole))
  exact trivial
theorem phD11 
    (B : Below A₀ base outer g) (X : (nk.heap_1 w.params).In g) (T : Top p loose mean mg mb g) (hd : dp + 8 < recursionLimit) (hu : un + 128 < cLine)
    {K : Nat → Nat → Int} {m : Str → Option Value} {hpA duA grA : Addr} {nh ng : Nat} {l : List It} {cells frz : List (Addr × Obj)} {s : Shared} {R : Flow → Shared → Prop}
    (hl : l.length = 27) (hit : ∀ x ∈ l, InT K frz x) (hh : HP l 0)
    (F : Fr g L s.heap m) (hm : AtL m [("heap", .ref hpA), ("due", .ref duA), ("greys", .ref grA)]) (N : News g L s.heap ((hpA, listOf (vls l).toArray nh) :: (grA, listOf #[] ng) :: (cells ++ frz))) (D : NDup ((hpA, listOf (vls l).toArray nh) :: (grA, listOf #[] ng) :: (cells ++ frz)))
    (done : ∀ h' tk m' hp gr n n', Fr g L h' m' → AtL m' [("heap", .ref hpA), ("due", .ref duA), ("greys", .ref grA)] → News g L h' ((hpA, listOf (vls hp).toArray n) :: (grA, listOf (vls gr).toArray n') :: (cells ++ frz)) → NDup ((hpA, listOf (vls hp).toArray n) :: (grA, listOf (vls gr).toArray n') :: (cells ++ frz)) →
      Popped l hp gr → (∀ x ∈ hp, 13824 ≤ x.2) → R .next { s with heap := h', toks := tk }) :
    wpAny (MM w) ((TopA dp un gd outer).deeper (lawEnv L fa cd)) (exec stD11.1 (lawEnv L fa cd)) R (fun _ _ => False) s := by
  rw [← kst_at hm] at F
  unfold stD11
  dsimp only
  refine ksw_while (σ := List It × List It × Nat × Nat) (fun c => (hpA, listOf (vls c.1).toArray c.2.2.1) :: (grA, listOf (vls c.2.1).toArray c.2.2.2) :: (cells ++ frz)) (fun _ => [("heap", .ref hpA), ("due", .ref duA), ("greys", .ref grA)]) (fun _ => True) []
    (fun c => NDup ((hpA, listOf (vls c.1).toArray c.2.2.1) :: (grA, listOf (vls c.2.1).toArray c.2.2.2) :: (cells ++ frz)) ∧ Popped l c.1 c.2.1) (fun c => c.1.length) (l, [], nh, ng) F N trivial ?hk ⟨D, hh, .refl _, .nil, (fun _ h => nomatch h), (fun _ h => nomatch h)⟩ ?_
  case hk =>
    intro p hp
    rcases List.mem_cons.mp hp with rfl | hp
    · exact rfl
    · rcases List.mem_cons.mp hp with rfl | hp
      · exact rfl
      · rw [List.mem_singleton.mp hp]; exact rfl
  rintro ⟨hp, gr, n, n'⟩ U h tk - ⟨D, P⟩ F2 N2
  dsimp only [kstB] at D P F2 N2
  clear F N
  have hlen := P.len
  rcases hp with _ | ⟨y, r⟩
  · have hz : ([] : List It).length ≤ 64 := by simp
    k_steps
    exact done _ _ _ _ _ _ _ F2 (by refine ⟨?_, ?_, ?_, trivial⟩ <;> rfl) N2 D P (fun _ h => nomatch h)
  · have hyr : (y :: r).length ≤ 64 := by lia
    obtain ⟨c, t0, t1, t2, t3, hc, hk, hmm⟩ := hit y (P.perm.mem_iff.mp (List.mem_append.mpr (.inr (.head _))))
    k_steps
    · unfold Hold
      rename Fr _ _ _ _ => F9
      rename News _ _ _ _ => N9
      rename wdAt K c < 512 => hlt
      refine heappop_D (l := y :: r) hyr (Nat.succ_pos _) P.heap (fun x hx => hit x (P.perm.mem_iff.mp (List.mem_append.mpr (.inr hx)))) (fun q hq => .tail _ (List.mem_append.mpr (.inr hq))) B X T F9 N9 D (by lia) (by lia) (fun e => nomatch e) rfl fun h' tk' l' n5 hp' hh' ht F' N' D' => ?_
      clear F9 N9
      have hz : (vls gr).toArray.size ≤ 32 := by simp [vls]; simp at hlen; lia
      have P' := P.step (by rw [hk]; exact (key_lt hc).mp hlt) hp' hh'
      k_steps
      unfold Hold
      rename_i F5 N5 D5
      have e5 : (vls gr).toArray.push (Value.ref (at' (y :: r) 0).1) = (vls (gr ++ [y])).toArray := vls_push gr y
      rw [e5] at N5 D5
      have hl' : l'.length < (y :: r).length := by have := hp'.length_eq; simp at this; simp; lia
      refine ksw_end (l', gr ++ [y], n5, n' + 1) F5 N5 (fun _ hp => hp) trivial (fun p hp => ?_) (by ksw_same) ⟨D5, P'⟩ hl'
      rcases List.mem_cons.mp hp with rfl | hp
      · exact rfl
      · rcases List.mem_cons.mp hp with rfl | hp
        · exact rfl
        · rw [List.mem_singleton.mp hp]; exact rfl
    · rename ¬ wdAt K c < 512 => hge
      refine done _ _ _ _ _ _ _ F2 (by refine ⟨?_, ?_, ?_, trivial⟩ <;> rfl) N2 D P fun x hx => ?_
      have h1 : y.2 ≤ x.2 := root_min_mem P.heap hx
      have h2 := (key_lt (K := K) hc)
      rw [← hk] at h2
      lia
    · rename ¬ 0 < _ => hn
      exact absurd (Nat.succ_pos _) hn
end

section
theorem words_28 : True := by
  k_with_none
  k_with "m p_enter" => case' fresh => (refine wpAny_call ?_; k_dflt (refine' p_enter ?k1 ?k3 ?k5 ?k6 ?k7 ?k8 ?k9 ?kB ?_ ?c2 ?c3 ?c4 ?c5; (case k1 | k3 | k5 => assumption); (case k6 | k7 => k_is); (case k8 => lia); (case k9 => first | exact BindsTo.of_eq rfl | exact binds_K (by k_in) rfl (by k_is) rfl rfl rfl); (case kB => exact locs rfl); (case c5 => decide); (case c2 | c3 | c4 => exact rfl); k_whole; intro _ _ _ _; (try dsimp only); (try k_fold)))
  k_with "m subscriptTail Name Constant ref int" => case' fresh => (k_here; k_dflt (refine' item_base ?F ?l ?a ?b ?d ?_; (case F => k_asm); (case l => with_reducible assumption); (case a | b => decide); (case d => exact rfl); k_whole))
  k_with "m subscriptTail Name Constant ref int" => case' fresh => (k_here; k_dflt (refine' tup_base ?F ?l ?a ?b ?j ?d ?_; (case F => k_asm); (case l => with_reducible assumption); (case a | b => decide); (case j | d => exact rfl); k_whole))
  k_with "m binaryOp Mult int int" => case' fresh => (k_dflt (refine' mul_smallL ?a ?b ?_; (case a | b => lia)))
  k_with "m binaryOp Mult int int" => case' fresh => (k_dflt (refine' mul_smallR ?a ?b ?_; (case a | b => lia)))
  k_with "m call builtin:max" => case' fresh => (k_here; (with_reducible show wpAny _ _ (call (Value.builtin "max") [Value.float _ _, Value.float _ _, Value.float _ _]) _ _ _); k_dflt (refine' max3_ex ?a ?b ?c ?d ?F ?N ?_; (case a | b | c => assumption); (case d => exact rfl); (case F | N => k_asm); intro _ _ _ _ _ _ hle'k F'k N'k; (try dsimp only at hle'k); (revert hle'k F'k N'k; intro _ _ _); (try k_sweep)))
  k_with "m call builtin:min" => case' fresh => (k_here; (with_reducible show wpAny _ _ (call (Value.builtin "min") [Value.float _ _, Value.float _ _, Value.float _ _]) _ _ _); k_dflt (refine' min3_ex ?a ?b ?c ?d ?F ?N ?_; (case a | b | c => assumption); (case d => exact rfl); (case F | N => k_asm); intro _ _ _ _ _ _ hle'k F'k N'k; (try dsimp only at hle'k); (revert hle'k F'k N'k; intro _ _ _); (try k_sweep)))
  k_with "m assign Tuple" => case' fresh => ((rename IntsAre _ _ => i9k); (rename (List.length _ = _) => e9k); (obtain ⟨a9, b9, c9, ta9, tb9, tc9, e8, e7⟩ := three_of i9k e9k); subst e8; subst e7; (walk_at "assign Tuple"))
  k_with "m call builtin:max" => case' fresh => (k_here; (with_reducible show wpAny _ _ (call (Value.builtin "max") (Value.int _ _ :: _)) _ _ _); k_dflt ((first | refine' max3_i ?d ?F ?N ?_ | refine' max2_i ?d ?F ?N ?_); (case d => exact rfl); (case F | N => k_asm); intro _ _ _ _ _; (try k_sweep)))
  k_with "m call builtin:min" => case' fresh => (k_here; (with_reducible show wpAny _ _ (call (Value.builtin "min") (Value.int _ _ :: _)) _ _ _); k_dflt ((first | refine' min3_i ?d ?F ?N ?_ | refine' min2_i ?d ?F ?N ?_); (case d => exact rfl); (case F | N => k_asm); intro _ _ _ _ _; (try k_sweep)))
  k_with "m ite" => case' fresh => (k_dflt (first | (refine' ite_eq_tt ?a ?b ?c ?_; (case a | b => assumption); (case c => lia)) | (refine' ite_eq_ff ?a ?b ?c ?_; (case a | b => assumption); (case c => lia))))
  k_with "m p_leaf" => case' fresh => (rename Fr _ _ _ _ => F9k; rename News _ _ _ _ => N9k; rename ∀ (_ : Value) (_ : Heap) (_ : Nat) (_ : List (Addr × Obj)), _ => hret9k; refine hret9k _ _ _ _ ?_ F9k.keep (fun q hq => ⟨(N9k q hq).1, (N9k q hq).2.2⟩))
  k_with "m execs cons" => case' fresh => (k_here; k_dflt (refine' gen_toks ?p ?_; (case p => first | with_reducible assumption | exact Nat.succ_pos _ | lia | (dsimp only; first | exact Nat.succ_pos _ | lia)); (intro _ _; (try dsimp only); refine wpAny_execs_cons ?_)))
  k_with "m p_toks" => case' fresh => (first | with_reducible assumption | exact Nat.succ_ne_zero _ | exact Nat.pos_iff_ne_zero.mp (by assumption) | exact tok_or3 (by assumption) (by assumption))
  k_with "m d_pos" => case' fresh => (first | with_reducible assumption | exact Nat.succ_pos _ | (dsimp only; first | exact Nat.succ_pos _ | omega) | omega)
  k_with "m l_bd" => case' fresh => (refine And.intro ?_ ?_ <;> (first | lia | l_bnd))
  k_with "m k_app" => case' fresh => (first | exact App.nil | (refine' App.cons ?pa; (case pa => walk_at "k_app")))
  k_with "m k_updN" => case' fresh => (first | exact UpdN.head | (refine' UpdN.tail ?pa; (case pa => walk_at "k_updN")))
  k_with "m k_part" => case' fresh => (first | exact Part.nil | (refine' Part.keep ?pa; (case pa => walk_at "k_part")) | (refine' Part.tmp ?pa; (case pa => walk_at "k_part")))
  k_with "m eval Name" => case' fresh => (k_here; k_dflt (refine' nameC ?N ?P ?Y ?c ?v ?_ ?a ?b ?d; (case Y => with_reducible assumption); (case b | a => exact rfl); (case N => k_asm); (case P => walk_at "k_app"); (case c | v => exact rfl); (case d => decide); k_whole))
  k_with "m eval Name" => case' fresh => (k_here; k_dflt (refine' nameX_L ?F ?v ?_ ?a ?b; (case F => k_asm); (case b | a | v => exact rfl); k_whole))
  k_with "m storeName" => case' fresh => (k_here; (with_reducible rename CellsAre _ _ _ => Y9k); (with_reducible rename NDup _ => D9k); k_dflt (refine' storeC ?F ?N D9k ?P Y9k ?c ?n ?_ ?a ?b; (case b | a => exact rfl); (case F | N => k_asm); (case P => walk_at "k_app"); (case c => exact rfl); (case n => exact lawCl_nd _); k_whole); intro _ _ _ N'k D'k Y'k; clear Y9k D9k; (try dsimp only [List.cons_append, List.nil_append] at N'k D'k); (revert N'k D'k Y'k; intro _ _ _); (try k_sweep))
  k_with "m storeName" => case' fresh => (k_here; k_dflt (refine' storeX_L ?F ?N ?_ ?a ?b; (case b | a => rfl); (case F | N => k_asm); k_whole); intro _ _ _; (try k_sweep))
  k_with "m newTuple" => case' fresh => (k_here; (with_reducible rename NDup _ => D9k); k_dflt (refine' newTup_D ?F ?N D9k ?_ ?z; (case F | N => k_asm); (case z => size_fits); k_whole); intro _ _ _ _ _; clear D9k; (try k_sweep))
  k_with "m newList" => case' fresh => (k_here; (with_reducible rename NDup _ => D9k); k_dflt (refine' newList_D ?F ?N D9k ?_ ?z; (case F | N => k_asm); (case z => size_fits); k_whole); intro _ _ _ _ _; clear D9k; (try k_sweep))
  k_with "m call builtin:list.append" => case' fresh => (k_here; (with_reducible rename NDup _ => D9k); k_dflt (refine' append_D ?F ?N D9k ?U ?_ ?z; (case F | N => k_asm); (case U => walk_at "k_updN"); (case z => first | size_fits | (simp only [Array.size_push] at *; lia)); k_whole); intro _ _ _ _; clear D9k; (try k_sweep))
  k_with "m call ref" => case' fresh => (k_here; (with_reducible show wpAny _ _ (call (Value.ref 242) _) _ _ _); (with_reducible rename NDup _ => D9k); k_dflt (refine' parts_D ?b0 ?b1 ?b2 ?k1 ?k2 ?k3 ?k4 ?k5 D9k rfl rfl nofun rfl ?ka ?kb ?kc ?_; (case b0 | b1 | b2 => walk_at "l_bd"); (case k1 => k_asm); (case k2 | k3 => with_reducible assumption); (case k4 | k5 => k_asm); (case ka | kb => walk_at "m_un"); (case kc => walk_at "d_pos")); intro _ _ _ _ _ _ _ _ _ _ _ _ _ _; clear D9k; (try k_sweep))
  k_with "m call ref" => case' fresh => (k_here; (with_reducible show wpAny _ _ (call (Value.ref 59) _) _ _ _); (with_reducible rename NDup _ => D9k); k_dflt (refine' h2r_D ?a1 ?a2 ?a3 ?b0 ?b1 ?b2 ?a4 ?k1 ?k2 ?k3 ?k4 ?k5 D9k rfl rfl nofun rfl ?ka ?kb ?kc ?_; (case a1 | a2 | a3 => assumption);(case b0 | b1 | b2 => walk_at "l_bd");(case a4 => walk_at "p_toks"); (case k1 => k_asm); (case k2 | k3 => with_reducible assumption); (case k4 | k5 => k_asm); (case ka | kb => walk_at "m_un"); (case kc => walk_at "d_pos")); intro _ _ _ _ _ _ _ _ _ _ _ _ _ _ _ _ _; clear D9k; (try k_sweep))
  k_with "m call ref" => case' fresh => (k_here; (with_reducible show wpAny _ _ (call (Value.ref 52) _) _ _ _); (with_reducible rename NDup _ => D9k); k_dflt (refine' r2h_D ?a1 ?a2 ?a3 ?b0 ?b1 ?b2 ?a4 ?k1 ?k2 ?k3 ?k4 ?k5 D9k rfl rfl nofun rfl ?ka ?kb ?kc ?_; (case a1 | a2 | a3 => assumption);(case b0 | b1 | b2 => walk_at "l_bd");(case a4 => assumption); (case k1 => k_asm); (case k2 | k3 => with_reducible assumption); (case k4 | k5 => k_asm); (case ka | kb => walk_at "m_un"); (case kc => walk_at "d_pos")); intro _ _ _ _ _ _ _ _ _ _ _ _ _ _ _ _ _; clear D9k; (try k_sweep))
  k_with "m m_un" => case' fresh => ((try simp only [depth_in1, depth_deeper, units_in1, units_deeper, Around.mark_units]); (try dsimp only); lia)
  k_with "m binaryOp Div int int" => case' fresh => (k_here; k_dflt (refine' div_by (g := 10) ?k1 ?k2 ?k3 ?k4 ?_; (case k1 | k2 => decide); (case k3 | k4 => first | lia | l_bnd); k_whole; intro _ _; (try dsimp only)))
  k_with "m binaryOp Div int int" => case' fresh => (k_here; k_dflt (refine' div_by (g := 2) ?k1 ?k2 ?k3 ?k4 ?_; (case k1 | k2 => decide); (case k3 | k4 => first | lia | l_bnd); k_whole; intro _ _; (try dsimp only)))
  k_with "m binaryOp Div int int" => case' fresh => (k_here; k_dflt (refine' div_by (g := 14) ?k1 ?k2 ?k3 ?k4 ?_; (case k1 | k2 => decide); (case k3 | k4 => first | lia | l_bnd); k_whole; intro _ _; (try dsimp only)))
  k_with "m call builtin:sum" => case' fresh => (k_here; k_dflt (refine' sum_pick ?k1 ?k2 ?k3 ?k5 ?_; (case k1 => exact rfl); (case k2 | k3 => k_asm); (case k5 => with_reducible assumption); k_whole; intro _ _ _ _ hle'k F'k N'k; (try dsimp only at hle'k); (revert hle'k F'k N'k; intro _ _ _); (with_reducible rename NDup _ => D9k); (have D'k := NDup.tail D9k); clear D9k; (revert D'k; intro _); (try k_sweep)))
  k_with "m binaryOp Mult float int" => case' fresh => (k_here; k_dflt (refine' mul_1024 ?a ?b ?_; (case a => assumption); (case b => walk_at "l_bd"); k_whole; intro _ _; (try dsimp only)))
  k_with "m call type:int" => case' fresh => (k_here; k_dflt (refine' int_f ?a ?b ?c ?_; (case a => exact rfl); (case b => assumption); (case c => lia); k_whole))
  k_with "m compareOp NotEq ref ref" => case' fresh => (k_here; k_dflt (refine' ne_tup ?F ?X ?N ?a ?b ?c1 ?c2 ?c3 ?c4 ?c5 ?c6 ?d1 ?d2 ?e ?_; (case F | X | N => k_asm); (case a | b => k_mem); (case c1 | c2 | c3 | c4 | c5 | c6 => assumption); (case d1 | d2 => walk_at "p_toks3"); (case e => walk_at "m_un"); k_whole))
  k_with "m p_toks3" => case' fresh => (first | with_reducible assumption | exact ⟨by walk_at "p_toks", by walk_at "p_toks", by walk_at "p_toks"⟩)
  k_with "m p_toks" => case' fresh => (first | with_reducible assumption | exact Nat.succ_ne_zero _ | exact Nat.pos_iff_ne_zero.mp (by assumption) | lia)
  k_with "m pyIter ref" => case' fresh => (k_here; k_dflt (refine' hold ?_))
  k_with "m exec For Name Call cons nil" => case' fresh => (k_here; (rename Fr _ _ _ _ => lF'k); (with_unfolding_all refine' For_turns lF'k ?_); k_whole)
  k_with "m exec For Tuple Tuple cons nil" => case' fresh => (k_here; (rename Fr _ _ _ _ => lF'k); (with_unfolding_all refine' For_turns lF'k ?_); k_whole)
  k_with "m binaryOp Mod int int" => case' fresh => (k_here; k_dflt (refine' mod_g ?k1 ?_; (case k1 => first | decide | lia); k_whole); intro _ _ _ r1'k; (try dsimp only at r1'k); (revert r1'k; intro _); (try dsimp only))
  k_with "m subscriptTail Name Constant ref int" => case' fresh => (k_here; k_dflt (refine' idxT ?N ?m ?a ?b ?d ?_ ?s; (case N => k_asm); (case m => k_mem); (case a | b => first | decide | lia); (case d => first | exact rfl | assumption); (case s => with_unfolding_all rfl); k_whole))
  k_with "m subscriptTail Subscript Constant ref int" => case' fresh => (k_here; k_dflt (refine' idxT ?N ?m ?a ?b ?d ?_ ?s; (case N => k_asm); (case m => k_mem); (case a | b => first | decide | lia); (case d => first | exact rfl | assumption); (case s => with_unfolding_all rfl); k_whole))
  k_with "m subscriptTail Subscript Name ref int" => case' fresh => (k_here; k_dflt (refine' idxT ?N ?m ?a ?b ?d ?_ ?s; (case N => k_asm); (case m => k_mem); (case a | b => first | decide | lia); (case d => first | exact rfl | assumption); (case s => with_unfolding_all rfl); k_whole))
  k_with "m subscriptTail Name Name ref int" => case' fresh => (k_here; k_dflt (refine' idxT ?N ?m ?a ?b ?d ?_ ?s; (case N => k_asm); (case m => k_mem); (case a | b => first | decide | lia); (case d => first | exact rfl | assumption); (case s => with_unfolding_all rfl); k_whole))
  k_with "m subscriptTail Name Constant ref int" => case' fresh => (k_here; k_dflt (refine' idxL ?N ?m ?a ?b ?d ?_ ?s; (case N => k_asm); (case m => k_mem); (case a | b => first | decide | lia); (case d => first | exact rfl | assumption); (case s => with_unfolding_all rfl); k_whole))
  k_with "m subscriptTail Subscript Constant ref int" => case' fresh => (k_here; k_dflt (refine' idxL ?N ?m ?a ?b ?d ?_ ?s; (case N => k_asm); (case m => k_mem); (case a | b => first | decide | lia); (case d => first | exact rfl | assumption); (case s => with_unfolding_all rfl); k_whole))
  k_with "m subscriptTail Subscript Name ref int" => case' fresh => (k_here; k_dflt (refine' idxL ?N ?m ?a ?b ?d ?_ ?s; (case N => k_asm); (case m => k_mem); (case a | b => first | decide | lia); (case d => first | exact rfl | assumption); (case s => with_unfolding_all rfl); k_whole))
  k_with "m subscriptTail Name Name ref int" => case' fresh => (k_here; k_dflt (refine' idxL ?N ?m ?a ?b ?d ?_ ?s; (case N => k_asm); (case m => k_mem); (case a | b => first | decide | lia); (case d => first | exact rfl | assumption); (case s => with_unfolding_all rfl); k_whole))
  k_with "m subscriptTail Name Name ref int" => case' fresh => (k_here; k_dflt (refine' idx_push ?N ?m ?a ?b ?_ ?s; (case N => k_asm); (case m => k_mem); (case a => first | rfl | lia); (case b => lia); (case s => with_unfolding_all rfl); k_whole))
  k_with "m subscriptTail Tuple Name ref int" => case' fresh => (k_here; k_dflt (refine' idx3 ?N ?m ?a ?b ?_ ?s; (case N => k_asm); (case m => k_mem); (case a | b => lia); (case s => with_unfolding_all rfl); k_whole); intro _ _)
  k_with "m assign Tuple" => case' fresh => (k_here; k_dflt (refine' unpackN_ ?F ?N ?T ?k1 ?k2 ?k3 ?_; (case F | N => k_asm); (case T => refine News.isTup (by k_asm) (by k_mem)); (case k1 | k2 | k3 => exact rfl)); intro _ _ _; (try k_sweep))
  exact trivial
theorem calm_E1 : True := by
  w_top off
  exact trivial
open PySem.W
noncomputable def stE12 : { x : Stmt // lawSt 12 = x } := ⟨_, by conv => lhs; whnf⟩
noncomputable def stE13 : { x : Stmt // lawSt 13 = x } := ⟨_, by conv => lhs; whnf⟩
noncomputable def stE14 : { x : Stmt // lawSt 14 = x } := ⟨_, by conv => lhs; whnf⟩
noncomputable def stE15 : { x : Stmt // lawSt 15 = x } := ⟨_, by conv => lhs; whnf⟩
theorem T4.of {K : Nat → Nat → Int} {f : List (Addr × Obj)} {p : It} (h : InT K f p) : T4 f p := by
  obtain ⟨c, t0, t1, t2, t3, hc, hk, hm⟩ := h
  exact ⟨wdAt K c, ((c / 9 : Nat) : Int), ((c / 3 % 3 : Nat) : Int), ((c % 3 : Nat) : Int), t0, t1, t2, t3, ⟨by omega, by omega⟩, ⟨by omega, by omega⟩, ⟨by omega, by omega⟩, hk, hm⟩
/-- coordinate n of a key -/
noncomputable def coK (n : Nat) (k : Int) : Int := if n = 0 then k / 9 % 3 else if n = 1 then k / 3 % 3 else k % 3
theorem words_29 : True := by
  k_with "m call builtin:len" => case' fresh => (k_here; k_dflt (refine' m_len ?k1 ?k2 ?k3 ?_; (case k1 => k_asm); (case k2 => k_mem); (case k3 => lia); k_whole))
  exact trivial
theorem phE12 
    (B : Below A₀ base outer g) (X : (nk.heap_1 w.params).In g) (T : Top p loose mean mg mb g) (hd : dp + 8 < recursionLimit) (hu : un + 128 < cLine)
    {m : Str → Option Value} {duA grA : Addr} {ng : Nat} {gr : List It} {cells frz : List (Addr × Obj)} {s : Shared} {R : Flow → Shared → Prop}
    (h5 : 5 ≤ gr.length) (h27 : gr.length ≤ 27) (hg : (grA, listOf (vls gr).toArray ng) ∈ frz)
    (F : Fr g L s.heap m) (hm : AtL m [("due", .ref duA), ("greys", .ref grA)]) (N : News g L s.heap (cells ++ frz)) (D : NDup (cells ++ frz))
    (done : ∀ h' tk m', Fr g L h' m' → AtL m' [("due", .ref duA), ("greys", .ref grA)] → News g L h' (cells ++ frz) → R .next { s with heap := h', toks := tk }) :
    wpAny (MM w) ((TopA dp un gd outer).deeper (lawEnv L fa cd)) (exec stE12.1 (lawEnv L fa cd)) R (fun _ _ => False) s := by
  rw [← kst_at hm] at F
  unfold stE12
  dsimp only
  k_steps
  rename Fr _ _ _ _ => F9
  rename News _ _ _ _ => N9
  exact done _ _ _ F9 ⟨rfl, rfl, trivial⟩ N9
theorem T4.at {f : List (Addr × Obj)} {x : It} (h : T4 f x) : ∃ (c0 c1 c2 c3 : Int) (t0 t1 t2 t3 : Tok), c1 = coK 0 x.2 ∧ c2 = coK 1 x.2 ∧ c3 = coK 2 x.2 ∧ (x.1, ({ cls := .type "tuple", data := .seq #[.int c0 t0, .int c1 t1, .int c2 t2, .int c3 t3] } : Obj)) ∈ f := by
  obtain ⟨w, i, j, k, t0, t1, t2, t3, a, b, c, d, e⟩ := h
  refine ⟨w, i, j, k, t0, t1, t2, t3, ?_, ?_, ?_, e⟩ <;> rw [d] <;> unfold coK <;> simp <;> omega
theorem vls_take {l : List It} {i : Nat} {x : It} (h : l[i]? = some x) (f : It → Bool) : vls ((l.take (i + 1)).filter f) = if f x = true then vls ((l.take i).filter f) ++ [.ref x.1] else vls ((l.take i).filter f) := by
  rw [List.take_add_one, h]
  unfold vls
  simp [List.filter_cons]
  split <;> simp
section
variable {prog : Program} {w : World} {A : Around} {E : Value → Shared → Prop} {s : Shared} {h₀ : Heap} {L : Addr} {m : Str → Option Value} {news : List (Addr × Obj)}
theorem eq_len {a b : Addr} {ys : List Value} {k k' : Nat} {Q : Value → Shared → Prop} (N : News h₀ L s.heap news) (ha : (a, listOf ys.toArray k) ∈ news) (hb : (b, listOf #[] k') ∈ news) (hne : 0 < ys.length) (hu : A.units < cLine) (h : Q (.bool false) s) :
    wpAny (model prog w) A (compareOp .Eq (.ref a) (.ref b)) Q E s := by
  refine SeqAt.eq_list_lengthsAt ⟨_, (N _ ha).1, rfl, _, rfl⟩ ⟨_, (N _ hb).1, rfl, _, rfl⟩ ?_ hu h
  have : ys.toArray.size ≠ 0 := by rw [List.size_toArray]; omega
  exact bne_iff_ne.mpr this
end
end

section
theorem words_30 : True := by
  k_with_none
  k_with "m p_enter" => case' fresh => (refine wpAny_call ?_; k_dflt (refine' p_enter ?k1 ?k3 ?k5 ?k6 ?k7 ?k8 ?k9 ?kB ?_ ?c2 ?c3 ?c4 ?c5; (case k1 | k3 | k5 => assumption); (case k6 | k7 => k_is); (case k8 => lia); (case k9 => first | exact BindsTo.of_eq rfl | exact binds_K (by k_in) rfl (by k_is) rfl rfl rfl); (case kB => exact locs rfl); (case c5 => decide); (case c2 | c3 | c4 => exact rfl); k_whole; intro _ _ _ _; (try dsimp only); (try k_fold)))
  k_with "m subscriptTail Name Constant ref int" => case' fresh => (k_here; k_dflt (refine' item_base ?F ?l ?a ?b ?d ?_; (case F => k_asm); (case l => with_reducible assumption); (case a | b => decide); (case d => exact rfl); k_whole))
  k_with "m subscriptTail Name Constant ref int" => case' fresh => (k_here; k_dflt (refine' tup_base ?F ?l ?a ?b ?j ?d ?_; (case F => k_asm); (case l => with_reducible assumption); (case a | b => decide); (case j | d => exact rfl); k_whole))
  k_with "m binaryOp Mult int int" => case' fresh => (k_dflt (refine' mul_smallL ?a ?b ?_; (case a | b => lia)))
  k_with "m binaryOp Mult int int" => case' fresh => (k_dflt (refine' mul_smallR ?a ?b ?_; (case a | b => lia)))
  k_with "m call builtin:max" => case' fresh => (k_here; (with_reducible show wpAny _ _ (call (Value.builtin "max") [Value.float _ _, Value.float _ _, Value.float _ _]) _ _ _); k_dflt (refine' max3_ex ?a ?b ?c ?d ?F ?N ?_; (case a | b | c => assumption); (case d => exact rfl); (case F | N => k_asm); intro _ _ _ _ _ _ hle'k F'k N'k; (try dsimp only at hle'k); (revert hle'k F'k N'k; intro _ _ _); (try k_sweep)))
  k_with "m call builtin:min" => case' fresh => (k_here; (with_reducible show wpAny _ _ (call (Value.builtin "min") [Value.float _ _, Value.float _ _, Value.float _ _]) _ _ _); k_dflt (refine' min3_ex ?a ?b ?c ?d ?F ?N ?_; (case a | b | c => assumption); (case d => exact rfl); (case F | N => k_asm); intro _ _ _ _ _ _ hle'k F'k N'k; (try dsimp only at hle'k); (revert hle'k F'k N'k; intro _ _ _); (try k_sweep)))
  k_with "m assign Tuple" => case' fresh => ((rename IntsAre _ _ => i9k); (rename (List.length _ = _) => e9k); (obtain ⟨a9, b9, c9, ta9, tb9, tc9, e8, e7⟩ := three_of i9k e9k); subst e8; subst e7; (walk_at "assign Tuple"))
  k_with "m call builtin:max" => case' fresh => (k_here; (with_reducible show wpAny _ _ (call (Value.builtin "max") (Value.int _ _ :: _)) _ _ _); k_dflt ((first | refine' max3_i ?d ?F ?N ?_ | refine' max2_i ?d ?F ?N ?_); (case d => exact rfl); (case F | N => k_asm); intro _ _ _ _ _; (try k_sweep)))
  k_with "m call builtin:min" => case' fresh => (k_here; (with_reducible show wpAny _ _ (call (Value.builtin "min") (Value.int _ _ :: _)) _ _ _); k_dflt ((first | refine' min3_i ?d ?F ?N ?_ | refine' min2_i ?d ?F ?N ?_); (case d => exact rfl); (case F | N => k_asm); intro _ _ _ _ _; (try k_sweep)))
  k_with "m ite" => case' fresh => (k_dflt (first | (refine' ite_eq_tt ?a ?b ?c ?_; (case a | b => assumption); (case c => lia)) | (refine' ite_eq_ff ?a ?b ?c ?_; (case a | b => assumption); (case c => lia))))
  k_with "m p_leaf" => case' fresh => (rename Fr _ _ _ _ => F9k; rename News _ _ _ _ => N9k; rename ∀ (_ : Value) (_ : Heap) (_ : Nat) (_ : List (Addr × Obj)), _ => hret9k; refine hret9k _ _ _ _ ?_ F9k.keep (fun q hq => ⟨(N9k q hq).1, (N9k q hq).2.2⟩))
  k_with "m execs cons" => case' fresh => (k_here; k_dflt (refine' gen_toks ?p ?_; (case p => first | with_reducible assumption | exact Nat.succ_pos _ | lia | (dsimp only; first | exact Nat.succ_pos _ | lia)); (intro _ _; (try dsimp only); refine wpAny_execs_cons ?_)))
  k_with "m p_toks" => case' fresh => (first | with_reducible assumption | exact Nat.succ_ne_zero _ | exact Nat.pos_iff_ne_zero.mp (by assumption) | exact tok_or3 (by assumption) (by assumption))
  k_with "m d_pos" => case' fresh => (first | with_reducible assumption | exact Nat.succ_pos _ | (dsimp only; first | exact Nat.succ_pos _ | omega) | omega)
  k_with "m l_bd" => case' fresh => (refine And.intro ?_ ?_ <;> (first | lia | l_bnd))
  k_with "m k_app" => case' fresh => (first | exact App.nil | (refine' App.cons ?pa; (case pa => walk_at "k_app")))
  k_with "m k_updN" => case' fresh => (first | exact UpdN.head | (refine' UpdN.tail ?pa; (case pa => walk_at "k_updN")))
  k_with "m k_part" => case' fresh => (first | exact Part.nil | (refine' Part.keep ?pa; (case pa => walk_at "k_part")) | (refine' Part.tmp ?pa; (case pa => walk_at "k_part")))
  k_with "m eval Name" => case' fresh => (k_here; k_dflt (refine' nameC ?N ?P ?Y ?c ?v ?_ ?a ?b ?d; (case Y => with_reducible assumption); (case b | a => exact rfl); (case N => k_asm); (case P => walk_at "k_app"); (case c | v => exact rfl); (case d => decide); k_whole))
  k_with "m eval Name" => case' fresh => (k_here; k_dflt (refine' nameX_L ?F ?v ?_ ?a ?b; (case F => k_asm); (case b | a | v => exact rfl); k_whole))
  k_with "m storeName" => case' fresh => (k_here; (with_reducible rename CellsAre _ _ _ => Y9k); (with_reducible rename NDup _ => D9k); k_dflt (refine' storeC ?F ?N D9k ?P Y9k ?c ?n ?_ ?a ?b; (case b | a => exact rfl); (case F | N => k_asm); (case P => walk_at "k_app"); (case c => exact rfl); (case n => exact lawCl_nd _); k_whole); intro _ _ _ N'k D'k Y'k; clear Y9k D9k; (try dsimp only [List.cons_append, List.nil_append] at N'k D'k); (revert N'k D'k Y'k; intro _ _ _); (try k_sweep))
  k_with "m storeName" => case' fresh => (k_here; k_dflt (refine' storeX_L ?F ?N ?_ ?a ?b; (case b | a => rfl); (case F | N => k_asm); k_whole); intro _ _ _; (try k_sweep))
  k_with "m newTuple" => case' fresh => (k_here; (with_reducible rename NDup _ => D9k); k_dflt (refine' newTup_D ?F ?N D9k ?_ ?z; (case F | N => k_asm); (case z => size_fits); k_whole); intro _ _ _ _ _; clear D9k; (try k_sweep))
  k_with "m newList" => case' fresh => (k_here; (with_reducible rename NDup _ => D9k); k_dflt (refine' newList_D ?F ?N D9k ?_ ?z; (case F | N => k_asm); (case z => size_fits); k_whole); intro _ _ _ _ _; clear D9k; (try k_sweep))
  k_with "m call builtin:list.append" => case' fresh => (k_here; (with_reducible rename NDup _ => D9k); k_dflt (refine' append_D ?F ?N D9k ?U ?_ ?z; (case F | N => k_asm); (case U => walk_at "k_updN"); (case z => first | size_fits | (simp only [Array.size_push] at *; lia)); k_whole); intro _ _ _ _; clear D9k; (try k_sweep))
  k_with "m call ref" => case' fresh => (k_here; (with_reducible show wpAny _ _ (call (Value.ref 242) _) _ _ _); (with_reducible rename NDup _ => D9k); k_dflt (refine' parts_D ?b0 ?b1 ?b2 ?k1 ?k2 ?k3 ?k4 ?k5 D9k rfl rfl nofun rfl ?ka ?kb ?kc ?_; (case b0 | b1 | b2 => walk_at "l_bd"); (case k1 => k_asm); (case k2 | k3 => with_reducible assumption); (case k4 | k5 => k_asm); (case ka | kb => walk_at "m_un"); (case kc => walk_at "d_pos")); intro _ _ _ _ _ _ _ _ _ _ _ _ _ _; clear D9k; (try k_sweep))
  k_with "m call ref" => case' fresh => (k_here; (with_reducible show wpAny _ _ (call (Value.ref 59) _) _ _ _); (with_reducible rename NDup _ => D9k); k_dflt (refine' h2r_D ?a1 ?a2 ?a3 ?b0 ?b1 ?b2 ?a4 ?k1 ?k2 ?k3 ?k4 ?k5 D9k rfl rfl nofun rfl ?ka ?kb ?kc ?_; (case a1 | a2 | a3 => assumption);(case b0 | b1 | b2 => walk_at "l_bd");(case a4 => walk_at "p_toks"); (case k1 => k_asm); (case k2 | k3 => with_reducible assumption); (case k4 | k5 => k_asm); (case ka | kb => walk_at "m_un"); (case kc => walk_at "d_pos")); intro _ _ _ _ _ _ _ _ _ _ _ _ _ _ _ _ _; clear D9k; (try k_sweep))
  k_with "m call ref" => case' fresh => (k_here; (with_reducible show wpAny _ _ (call (Value.ref 52) _) _ _ _); (with_reducible rename NDup _ => D9k); k_dflt (refine' r2h_D ?a1 ?a2 ?a3 ?b0 ?b1 ?b2 ?a4 ?k1 ?k2 ?k3 ?k4 ?k5 D9k rfl rfl nofun rfl ?ka ?kb ?kc ?_; (case a1 | a2 | a3 => assumption);(case b0 | b1 | b2 => walk_at "l_bd");(case a4 => assumption); (case k1 => k_asm); (case k2 | k3 => with_reducible assumption); (case k4 | k5 => k_asm); (case ka | kb => walk_at "m_un"); (case kc => walk_at "d_pos")); intro _ _ _ _ _ _ _ _ _ _ _ _ _ _ _ _ _; clear D9k; (try k_sweep))
  k_with "m m_un" => case' fresh => ((try simp only [depth_in1, depth_deeper, units_in1, units_deeper, Around.mark_units]); (try dsimp only); lia)
  k_with "m binaryOp Div int int" => case' fresh => (k_here; k_dflt (refine' div_by (g := 10) ?k1 ?k2 ?k3 ?k4 ?_; (case k1 | k2 => decide); (case k3 | k4 => first | lia | l_bnd); k_whole; intro _ _; (try dsimp only)))
  k_with "m binaryOp Div int int" => case' fresh => (k_here; k_dflt (refine' div_by (g := 2) ?k1 ?k2 ?k3 ?k4 ?_; (case k1 | k2 => decide); (case k3 | k4 => first | lia | l_bnd); k_whole; intro _ _; (try dsimp only)))
  k_with "m binaryOp Div int int" => case' fresh => (k_here; k_dflt (refine' div_by (g := 14) ?k1 ?k2 ?k3 ?k4 ?_; (case k1 | k2 => decide); (case k3 | k4 => first | lia | l_bnd); k_whole; intro _ _; (try dsimp only)))
  k_with "m call builtin:sum" => case' fresh => (k_here; k_dflt (refine' sum_pick ?k1 ?k2 ?k3 ?k5 ?_; (case k1 => exact rfl); (case k2 | k3 => k_asm); (case k5 => with_reducible assumption); k_whole; intro _ _ _ _ hle'k F'k N'k; (try dsimp only at hle'k); (revert hle'k F'k N'k; intro _ _ _); (with_reducible rename NDup _ => D9k); (have D'k := NDup.tail D9k); clear D9k; (revert D'k; intro _); (try k_sweep)))
  k_with "m binaryOp Mult float int" => case' fresh => (k_here; k_dflt (refine' mul_1024 ?a ?b ?_; (case a => assumption); (case b => walk_at "l_bd"); k_whole; intro _ _; (try dsimp only)))
  k_with "m call type:int" => case' fresh => (k_here; k_dflt (refine' int_f ?a ?b ?c ?_; (case a => exact rfl); (case b => assumption); (case c => lia); k_whole))
  k_with "m compareOp NotEq ref ref" => case' fresh => (k_here; k_dflt (refine' ne_tup ?F ?X ?N ?a ?b ?c1 ?c2 ?c3 ?c4 ?c5 ?c6 ?d1 ?d2 ?e ?_; (case F | X | N => k_asm); (case a | b => k_mem); (case c1 | c2 | c3 | c4 | c5 | c6 => assumption); (case d1 | d2 => walk_at "p_toks3"); (case e => walk_at "m_un"); k_whole))
  k_with "m p_toks3" => case' fresh => (first | with_reducible assumption | exact ⟨by walk_at "p_toks", by walk_at "p_toks", by walk_at "p_toks"⟩)
  k_with "m p_toks" => case' fresh => (first | with_reducible assumption | exact Nat.succ_ne_zero _ | exact Nat.pos_iff_ne_zero.mp (by assumption) | lia)
  k_with "m pyIter ref" => case' fresh => (k_here; k_dflt (refine' hold ?_))
  k_with "m exec For Name Call cons nil" => case' fresh => (k_here; (rename Fr _ _ _ _ => lF'k); (with_unfolding_all refine' For_turns lF'k ?_); k_whole)
  k_with "m exec For Tuple Tuple cons nil" => case' fresh => (k_here; (rename Fr _ _ _ _ => lF'k); (with_unfolding_all refine' For_turns lF'k ?_); k_whole)
  k_with "m binaryOp Mod int int" => case' fresh => (k_here; k_dflt (refine' mod_g ?k1 ?_; (case k1 => first | decide | lia); k_whole); intro _ _ _ r1'k; (try dsimp only at r1'k); (revert r1'k; intro _); (try dsimp only))
  k_with "m subscriptTail Name Constant ref int" => case' fresh => (k_here; k_dflt (refine' idxT ?N ?m ?a ?b ?d ?_ ?s; (case N => k_asm); (case m => k_mem); (case a | b => first | decide | lia); (case d => first | exact rfl | assumption); (case s => with_unfolding_all rfl); k_whole))
  k_with "m subscriptTail Subscript Constant ref int" => case' fresh => (k_here; k_dflt (refine' idxT ?N ?m ?a ?b ?d ?_ ?s; (case N => k_asm); (case m => k_mem); (case a | b => first | decide | lia); (case d => first | exact rfl | assumption); (case s => with_unfolding_all rfl); k_whole))
  k_with "m subscriptTail Subscript Name ref int" => case' fresh => (k_here; k_dflt (refine' idxT ?N ?m ?a ?b ?d ?_ ?s; (case N => k_asm); (case m => k_mem); (case a | b => first | decide | lia); (case d => first | exact rfl | assumption); (case s => with_unfolding_all rfl); k_whole))
  k_with "m subscriptTail Name Name ref int" => case' fresh => (k_here; k_dflt (refine' idxT ?N ?m ?a ?b ?d ?_ ?s; (case N => k_asm); (case m => k_mem); (case a | b => first | decide | lia); (case d => first | exact rfl | assumption); (case s => with_unfolding_all rfl); k_whole))
  k_with "m subscriptTail Name Constant ref int" => case' fresh => (k_here; k_dflt (refine' idxL ?N ?m ?a ?b ?d ?_ ?s; (case N => k_asm); (case m => k_mem); (case a | b => first | decide | lia); (case d => first | exact rfl | assumption); (case s => with_unfolding_all rfl); k_whole))
  k_with "m subscriptTail Subscript Constant ref int" => case' fresh => (k_here; k_dflt (refine' idxL ?N ?m ?a ?b ?d ?_ ?s; (case N => k_asm); (case m => k_mem); (case a | b => first | decide | lia); (case d => first | exact rfl | assumption); (case s => with_unfolding_all rfl); k_whole))
  k_with "m subscriptTail Subscript Name ref int" => case' fresh => (k_here; k_dflt (refine' idxL ?N ?m ?a ?b ?d ?_ ?s; (case N => k_asm); (case m => k_mem); (case a | b => first | decide | lia); (case d => first | exact rfl | assumption); (case s => with_unfolding_all rfl); k_whole))
  k_with "m subscriptTail Name Name ref int" => case' fresh => (k_here; k_dflt (refine' idxL ?N ?m ?a ?b ?d ?_ ?s; (case N => k_asm); (case m => k_mem); (case a | b => first | decide | lia); (case d => first | exact rfl | assumption); (case s => with_unfolding_all rfl); k_whole))
  k_with "m subscriptTail Name Name ref int" => case' fresh => (k_here; k_dflt (refine' idx_push ?N ?m ?a ?b ?_ ?s; (case N => k_asm); (case m => k_mem); (case a => first | rfl | lia); (case b => lia); (case s => with_unfolding_all rfl); k_whole))
  k_with "m subscriptTail Tuple Name ref int" => case' fresh => (k_here; k_dflt (refine' idx3 ?N ?m ?a ?b ?_ ?s; (case N => k_asm); (case m => k_mem); (case a | b => lia); (case s => with_unfolding_all rfl); k_whole); intro _ _)
  k_with "m assign Tuple" => case' fresh => (k_here; k_dflt (refine' unpackN_ ?F ?N ?T ?k1 ?k2 ?k3 ?_; (case F | N => k_asm); (case T => refine News.isTup (by k_asm) (by k_mem)); (case k1 | k2 | k3 => exact rfl)); intro _ _ _; (try k_sweep))
  exact trivial
theorem calm_E2 : True := by
  w_top off
  exact trivial
open PySem.W
theorem words_31 : True := by
  k_with "m eval ListComp" => case' fresh => (k_here; k_dflt (refine' hold ?_))
  k_with "m CompSrcT" => case' fresh => (k_here; k_dflt (refine' hold ?_))
  k_with "m CompEnd" => case' fresh => (k_dflt (refine' hold ?_))
  k_with "m FinE" => case' fresh => (k_dflt (refine' hold ?_))
  k_with "m eval Name" => case' fresh => (k_here; (with_reducible show wpAny _ _ (eval (Expr.Name _ _) (compEnvC _ _ _ _)) _ _ _); k_dflt (refine' nameCC ?N ?P ?Y ?c ?e ?v ?_ ?a ?b ?d; (case Y => with_reducible assumption); (case b | a => exact rfl); (case N => k_asm); (case P => walk_at "k_app"); (case c | e | v => exact rfl); (case d => decide); k_whole))
  k_with "m compareOp Eq ref ref" => case' fresh => (k_here; k_dflt (refine' eq_len ?N ?a ?b ?e ?u ?_; (case N => k_asm); (case a | b => k_mem); (case e => assumption); (case u => walk_at "m_un"); k_whole))
  exact trivial
theorem phE13 
    (B : Below A₀ base outer g) (X : (nk.heap_1 w.params).In g) (T : Top p loose mean mg mb g) (hd : dp + 8 < recursionLimit) (hu : un + 128 < cLine)
    {m cm : Str → Option Value} {duA grA : Addr} {ng : Nat} {gr : List It} {cells frz : List (Addr × Obj)} {s : Shared} {R : Flow → Shared → Prop}
    (h27 : gr.length ≤ 27) (hit : ∀ x ∈ gr, T4 frz x) (hcov : ∀ n j : Nat, n < 3 → j < 3 → ∃ x ∈ gr, coK n x.2 = (j : Int)) (hg : (grA, listOf (vls gr).toArray ng) ∈ frz)
    (F : Fr g L s.heap m) (hm : AtL m [("due", .ref duA), ("greys", .ref grA)]) (N : News g L s.heap (cells ++ frz)) (D : NDup (cells ++ frz)) (Y : CellsAre cm (lawCl L) cells)
    (done : ∀ h' tk m' cm' cells' tmp, Fr g L h' m' → AtL m' [("due", .ref duA), ("greys", .ref grA)] → News g L h' (cells' ++ (tmp ++ frz)) → NDup (cells' ++ (tmp ++ frz)) → CellsAre cm' (lawCl L) cells' → R .next { s with heap := h', toks := tk }) :
    wpAny (MM w) ((TopA dp un gd outer).deeper (lawEnv L fa cd)) (exec stE13.1 (lawEnv L fa cd)) R (fun _ _ => False) s := by
  rw [← kst_at hm] at F
  unfold stE13
  dsimp only
  k_steps
  unfold Hold
  rename Fr _ _ _ _ => F9
  rename News _ _ _ _ => N9
  rename IsRange _ _ _ _ _ _ _ _ => hr
  refine range_turns (n := 3)
    (fun i m nx => ∃ cm cells tmp, nx = cells ++ (tmp ++ frz) ∧ CellsAre cm (lawCl L) cells ∧ AtL m [("due", .ref duA), ("greys", .ref grA)])
    rfl hr rfl rfl F9 N9 D ⟨cm, cells, [], rfl, Y, ⟨rfl, rfl, trivial⟩⟩ (fun _ _ _ _ _ _ _ _ _ q => wpAny_pure q) ?_ ?_
  · rintro i m₁ nx h₁ tk₁ I₁ oI₁ t₁ hi ⟨cm₁, cells₁, tmp, rfl, Y₁, hm₁⟩ F₁ N₁ D₁
    clear F9 N9 hr
    refine assignCell F₁ N₁ D₁ (pre := [_]) (.cons .nil) Y₁ rfl rfl fun h₂ cells₂ F₂ N₂ D₂ Y₂ => ?_
    clear F₁ N₁ D₁
    rw [← kst_at hm₁] at F₂
    dsimp only [List.cons_append, List.nil_append] at N₂ D₂
    refine gen_post fun R1 hR1 => ?_
    k_steps
    unfold Hold
    rename Fr _ _ _ _ => F9
    rename News _ _ _ _ => N9
    rename IsRange _ _ _ _ _ _ _ _ => hr
    refine range_turns (n := 3)
      (fun j m nx => ∃ cm cells tmp ti, nx = (I₁, oI₁) :: (cells ++ (tmp ++ frz)) ∧ CellsAre cm (lawCl L) cells ∧ AtL cm [("n", .int (1 + (i : Int)) ti)] ∧ AtL m [("due", .ref duA), ("greys", .ref grA)])
      rfl hr rfl rfl F9 N9 D₂ ⟨_, _, tmp, _, rfl, Y₂, ⟨rfl, trivial⟩, ⟨rfl, rfl, trivial⟩⟩ (fun _ _ _ _ _ _ _ _ _ q => wpAny_pure q) ?_ ?_
    · clear F9 N9 hr Y₂ D₂ Y₁ hm₁
      rintro j m₁ nx h₁ tk₁ I₂ oI₂ t₂ hj ⟨cm₁, cells₁, tmp, ti, rfl, Y₁, hcm₁, hm₁⟩ F₁ N₁ D₁
      refine assignCell F₁ N₁ D₁ (pre := [_, _]) (.cons (.cons .nil)) Y₁ rfl rfl fun h₂ cells₂ F₂ N₂ D₂ Y₂ => ?_
      clear F₁ N₁ D₁
      rw [Int.zero_add] at Y₂
      rw [← kst_at hm₁] at F₂
      replace Y₂ := cells_kst Y₂ (ps := [("n", .int (1 + (i : Int)) ti), ("j", .int (j : Int) t₂)]) ⟨hcm₁.1, rfl, trivial⟩
      dsimp only [List.cons_append, List.nil_append] at N₂ D₂
      refine gen_post fun R2 hR2 => ?_
      k_steps
      unfold Hold
      rename Fr _ _ _ _ => F9
      rename News _ _ _ _ => N9
      refine gen_post fun R4 hR4 => ?_
      refine LCt.ListComp_T (F₀ := F9) (by with_unfolding_all rfl) (by decide) rfl (by decide) rfl ?_
      k_steps
      unfold Hold
      rename Fr _ _ _ _ => F8
      rename News _ _ _ _ => N8
      refine LCt.CompSrcT.ledger rfl F8 N8 (by k_mem) (by simp [vls]; exact Nat.le_trans h27 (Nat.le_of_ble_eq_true rfl)) fun g9 => ?_
      clear F8 N8
      refine compT_ind (fun r ys => ys = vls ((gr.take r).filter fun x => coK i x.2 == (j : Int))) (fun k r ys hr hinv ih => ?_) (fun ys hinv => ?_) rfl
      · refine LCt.CompRestT.succ ?_
        intro v I oI C oC Dd m₂ h₃ tk₃ E₃ hv hC hx₂ F₂ N₂ off ne
        subst hinv
        have hr' : r < gr.length := by simp [vls] at hr; omega
        obtain ⟨x, hx⟩ : ∃ x, gr[r]? = some x := ⟨_, List.getElem?_eq_getElem hr'⟩
        have hvp : v = .ref x.1 := by simp [vls, hx] at hv; exact hv.symm
        subst hvp
        obtain ⟨c0, c1, c2, c3, u0, u1, u2, u3, e1, e2, e3, hxm⟩ := (hit x (List.mem_of_getElem? hx)).at
        have hd : ∃ uu, [Value.int c0 u0, .int c1 u1, .int c2 u2, .int c3 u3][(1 + (i : Int)).toNat]? = some (.int (coK i x.2) uu) := by
          rcases i with _ | _ | _ | i
          · exact ⟨u1, by rw [← e1]; rfl⟩
          · exact ⟨u2, by rw [← e2]; rfl⟩
          · exact ⟨u3, by rw [← e3]; rfl⟩
          · omega
        obtain ⟨uu, hd⟩ := hd
        have off0 := off
        simp only [LCg.Off3, and_true] at off
        have htk := vls_take hx fun x => coK i x.2 == (j : Int)
        k_steps
        · unfold Hold
          rename coK i x.2 = (j : Int) => hc
          refine LCg.CompEnd.intro F₂ N₂ _ (fun p hp => hp) off0 (.inr ⟨listOf (vls gr).toArray ng, .tail _ (.tail _ (List.mem_append_right _ (List.mem_append_right _ hg))), rfl, ng, rfl⟩) (ih _ ?_)
          rw [htk, if_pos (by simp [hc])]
        · unfold Hold
          rename ¬ coK i x.2 = (j : Int) => hc
          refine LCg.CompEnd.intro F₂ N₂ _ (fun p hp => hp) off0 (.inr ⟨listOf (vls gr).toArray ng, .tail _ (.tail _ (List.mem_append_right _ (List.mem_append_right _ hg))), rfl, ng, rfl⟩) (ih _ ?_)
          rw [htk, if_neg (by simp [hc])]
      · subst hinv
        unfold LCg.FinE
        intro D' h' tk' F' N' o1'
        have D3 := NDup.cons (o := LCg.lst (vls ((gr.take (vls gr).toArray.size).filter fun x => coK i x.2 == (j : Int)))) D₂ (Off1.of o1')
        clear D₂
        have hpos : 0 < (vls ((gr.take (vls gr).toArray.size).filter fun x => coK i x.2 == (j : Int))).length := by
          obtain ⟨x, hx, e⟩ := hcov i j hi hj
          rw [vls_len, List.take_of_length_le (by simp [vls])]
          exact List.length_pos_of_mem (List.mem_filter.mpr ⟨hx, beq_iff_eq.mpr e⟩)
        refine hR4 _ _ ?_
        dsimp only
        k_steps
        rename Fr _ _ _ _ => F9
        rename News _ _ _ _ => N9
        rename NDup _ => D9
        obtain ⟨N8, D8⟩ := refreeze (cells := cells₂) (frz := tmp ++ frz) (keep := [(I₂, oI₂), (I₁, oI₁)]) (by walk_at "k_app") (by walk_at "k_part") N9 D9
        rw [← List.append_assoc _ tmp frz] at N8 D8
        exact hR2 _ _ ⟨_, _, _, _, rfl, F9, N8, D8, _, cells₂, _, _, rfl, Y₂, ⟨rfl, trivial⟩, ⟨rfl, rfl, trivial⟩⟩
    · clear F9 N9 hr Y₂ D₂ Y₁ hm₁
      rintro m₁ nx h₁ tk₁ ⟨cm₁, cells₁, tmp, ti, rfl, Y₁, hcm₁, hm₁⟩ F₁ N₁ D₁
      k_steps
      rename Fr _ _ _ _ => F9
      exact hR1 _ _ ⟨h₁, tk₁, m₁, _, rfl, F9, N₁, D₁, cm₁, cells₁, tmp, rfl, Y₁, hm₁⟩
  · rintro m₁ nx h₁ tk₁ ⟨cm₁, cells₁, tmp, rfl, Y₁, hm₁⟩ F₁ N₁ D₁
    exact done _ _ _ _ _ tmp F₁ hm₁ N₁ D₁ Y₁

theorem calm_E3 : True := by
  w_top off
  exact trivial
open PySem.W
/-- a row outside of paints i, j, k -/
noncomputable def outK (i j k : Nat) (x : It) : Bool := coK 0 x.2 != (i : Int) && (coK 1 x.2 != (j : Int) && coK 2 x.2 != (k : Int))
theorem words_32 : True := by
  k_with "m call builtin:len" => case' fresh => (k_here; k_dflt (refine' m_len ?k1 ?k2 ?k3 ?_; (case k1 => k_asm); (case k2 => k_mem); (case k3 => lia); k_whole))
  exact trivial
theorem phE14 
    (B : Below A₀ base outer g) (X : (nk.heap_1 w.params).In g) (T : Top p loose mean mg mb g) (hd : dp + 8 < recursionLimit) (hu : un + 128 < cLine)
    {m cm : Str → Option Value} {duA grA : Addr} {ng : Nat} {gr : List It} {cells frz : List (Addr × Obj)} {s : Shared} {R : Flow → Shared → Prop}
    (h27 : gr.length ≤ 27) (hit : ∀ x ∈ gr, T4 frz x) (hpar : ∀ i j k : Nat, i < 2 → j < 2 → k < 2 → (gr.filter (outK i j k)).length % 2 = 0) (hg : (grA, listOf (vls gr).toArray ng) ∈ frz)
    (F : Fr g L s.heap m) (hm : AtL m [("due", .ref duA), ("greys", .ref grA)]) (N : News g L s.heap (cells ++ frz)) (D : NDup (cells ++ frz)) (Y : CellsAre cm (lawCl L) cells)
    (done : ∀ h' tk m' cm' cells' tmp, Fr g L h' m' → AtL m' [("due", .ref duA), ("greys", .ref grA)] → News g L h' (cells' ++ (tmp ++ frz)) → NDup (cells' ++ (tmp ++ frz)) → CellsAre cm' (lawCl L) cells' → R .next { s with heap := h', toks := tk }) :
    wpAny (MM w) ((TopA dp un gd outer).deeper (lawEnv L fa cd)) (exec stE14.1 (lawEnv L fa cd)) R (fun _ _ => False) s := by
  rw [← kst_at hm] at F
  unfold stE14
  dsimp only
  k_steps
  unfold Hold
  rename Fr _ _ _ _ => F9
  rename News _ _ _ _ => N9
  rename IsRange _ _ _ _ _ _ _ _ => hr
  refine range_turns (n := 2)
    (fun i m nx => ∃ cm cells tmp, nx = cells ++ (tmp ++ frz) ∧ CellsAre cm (lawCl L) cells ∧ AtL m [("due", .ref duA), ("greys", .ref grA)])
    rfl hr rfl rfl F9 N9 D ⟨cm, cells, [], rfl, Y, ⟨rfl, rfl, trivial⟩⟩ (fun _ _ _ _ _ _ _ _ _ q => wpAny_pure q) ?_ ?_
  · rintro i m₁ nx h₁ tk₁ I₁ oI₁ t₁ hi ⟨cm₁, cells₁, tmp, rfl, Y₁, hm₁⟩ F₁ N₁ D₁
    clear F9 N9 hr
    refine assignCell F₁ N₁ D₁ (pre := [_]) (.cons .nil) Y₁ rfl rfl fun h₂ cells₂ F₂ N₂ D₂ Y₂ => ?_
    clear F₁ N₁ D₁
    rw [Int.zero_add] at Y₂
    rw [← kst_at hm₁] at F₂
    dsimp only [List.cons_append, List.nil_append] at N₂ D₂
    refine gen_post fun R1 hR1 => ?_
    k_steps
    unfold Hold
    rename Fr _ _ _ _ => F9
    rename News _ _ _ _ => N9
    rename IsRange _ _ _ _ _ _ _ _ => hr
    refine range_turns (n := 2)
      (fun j m nx => ∃ cm cells tmp ti, nx = (I₁, oI₁) :: (cells ++ (tmp ++ frz)) ∧ CellsAre cm (lawCl L) cells ∧ AtL cm [("i", .int (i : Int) ti)] ∧ AtL m [("due", .ref duA), ("greys", .ref grA)])
      rfl hr rfl rfl F9 N9 D₂ ⟨_, _, tmp, _, rfl, Y₂, ⟨rfl, trivial⟩, ⟨rfl, rfl, trivial⟩⟩ (fun _ _ _ _ _ _ _ _ _ q => wpAny_pure q) ?_ ?_
    · clear F9 N9 hr Y₂ D₂ Y₁ hm₁
      rintro j m₁ nx h₁ tk₁ I₂ oI₂ t₂ hj ⟨cm₁, cells₁, tmp, ti, rfl, Y₁, hcm₁, hm₁⟩ F₁ N₁ D₁
      refine assignCell F₁ N₁ D₁ (pre := [_, _]) (.cons (.cons .nil)) Y₁ rfl rfl fun h₂ cells₂ F₂ N₂ D₂ Y₂ => ?_
      clear F₁ N₁ D₁
      rw [Int.zero_add] at Y₂
      rw [← kst_at hm₁] at F₂
      dsimp only [List.cons_append, List.nil_append] at N₂ D₂
      refine gen_post fun R2 hR2 => ?_
      k_steps
      unfold Hold
      rename Fr _ _ _ _ => F9
      rename News _ _ _ _ => N9
      rename IsRange _ _ _ _ _ _ _ _ => hr
      refine range_turns (n := 2)
        (fun k m nx => ∃ cm cells tmp ti tj, nx = (I₂, oI₂) :: (I₁, oI₁) :: (cells ++ (tmp ++ frz)) ∧ CellsAre cm (lawCl L) cells ∧ AtL cm [("i", .int (i : Int) ti), ("j", .int (j : Int) tj)] ∧ AtL m [("due", .ref duA), ("greys", .ref grA)])
        rfl hr rfl rfl F9 N9 D₂ ⟨_, _, tmp, _, _, rfl, Y₂, ⟨hcm₁.1, rfl, trivial⟩, ⟨rfl, rfl, trivial⟩⟩ (fun _ _ _ _ _ _ _ _ _ q => wpAny_pure q) ?_ ?_
      · clear F9 N9 hr Y₂ D₂ Y₁ hm₁ hcm₁
        rintro k m₁ nx h₁ tk₁ I₃ oI₃ t₃ hk ⟨cm₁, cells₁, tmp, ti, tj, rfl, Y₁, hcm₁, hm₁⟩ F₁ N₁ D₁
        refine assignCell F₁ N₁ D₁ (pre := [_, _, _]) (.cons (.cons (.cons .nil))) Y₁ rfl rfl fun h₂ cells₂ F₂ N₂ D₂ Y₂ => ?_
        clear F₁ N₁ D₁
        rw [Int.zero_add] at Y₂
        rw [← kst_at hm₁] at F₂
        replace Y₂ := cells_kst Y₂ (ps := [("i", .int (i : Int) ti), ("j", .int (j : Int) tj), ("k", .int (k : Int) t₃)]) ⟨hcm₁.1, hcm₁.2.1, rfl, trivial⟩
        dsimp only [List.cons_append, List.nil_append] at N₂ D₂
        refine gen_post fun R3 hR3 => ?_
        k_steps
        unfold Hold
        rename Fr _ _ _ _ => F9
        rename News _ _ _ _ => N9
        refine gen_post fun R4 hR4 => ?_
        refine LCt.ListComp_T (F₀ := F9) (by with_unfolding_all rfl) (by decide) rfl (by decide) rfl ?_
        k_steps
        unfold Hold
        rename Fr _ _ _ _ => F8
        rename News _ _ _ _ => N8
        refine LCt.CompSrcT.ledger rfl F8 N8 (by k_mem) (by simp [vls]; exact Nat.le_trans h27 (Nat.le_of_ble_eq_true rfl)) fun g9 => ?_
        clear F8 N8
        refine compT_ind (fun r ys => ys = vls ((gr.take r).filter (outK i j k))) (fun q r ys hr hinv ih => ?_) (fun ys hinv => ?_) rfl
        · refine LCt.CompRestT.succ ?_
          intro v I oI C oC Dd m₂ h₃ tk₃ E₃ hv hC hx₂ F₂ N₂ off ne
          subst hinv
          have hr' : r < gr.length := by simp [vls] at hr; omega
          obtain ⟨x, hx⟩ : ∃ x, gr[r]? = some x := ⟨_, List.getElem?_eq_getElem hr'⟩
          have hvp : v = .ref x.1 := by simp [vls, hx] at hv; exact hv.symm
          subst hvp
          obtain ⟨c0, c1, c2, c3, u0, u1, u2, u3, e1, e2, e3, hxm⟩ := (hit x (List.mem_of_getElem? hx)).at
          have off0 := off
          simp only [LCg.Off3, and_true] at off
          have htk := vls_take hx (outK i j k)
          have hout : outK i j k x = true ↔ ¬ c1 = (i : Int) ∧ ¬ c2 = (j : Int) ∧ ¬ c3 = (k : Int) := by unfold outK; rw [e1, e2, e3]; simp
          clear e1 e2 e3
          k_steps
          all_goals
            unfold Hold
            refine LCg.CompEnd.intro F₂ N₂ _ (fun p hp => hp) off0 (.inr ⟨listOf (vls gr).toArray ng, .tail _ (.tail _ (.tail _ (List.mem_append_right _ (List.mem_append_right _ hg)))), rfl, ng, rfl⟩) (ih _ ?_)
            rw [htk]
          all_goals first
            | rw [if_pos (hout.mpr ⟨by assumption, by assumption, by assumption⟩)]
            | (rw [if_neg]; intro ho; obtain ⟨n1, n2, n3⟩ := hout.mp ho; first | exact n1 (by assumption) | exact n2 (by assumption) | exact n3 (by assumption))
        · subst hinv
          unfold LCg.FinE
          intro D' h' tk' F' N' o1'
          have hz : (vls gr).toArray.size = gr.length := by simp [vls]
          rw [hz, List.take_length] at N'
          have D3 := NDup.cons (o := LCg.lst (vls (gr.filter (outK i j k)))) D₂ (Off1.of o1')
          clear D₂
          have hlen : (gr.filter (outK i j k)).length ≤ 27 := Nat.le_trans (List.length_filter_le _ _) h27
          have heven := hpar i j k hi hj hk
          refine hR4 _ _ ?_
          dsimp only
          k_steps
          · exfalso
            omega
          · rename Fr _ _ _ _ => F9
            rename News _ _ _ _ => N9
            rename NDup _ => D9
            obtain ⟨N8, D8⟩ := refreeze (cells := cells₂) (frz := tmp ++ frz) (keep := [(I₃, oI₃), (I₂, oI₂), (I₁, oI₁)]) (by walk_at "k_app") (by walk_at "k_part") N9 D9
            rw [← List.append_assoc _ tmp frz] at N8 D8
            exact hR3 _ _ ⟨_, _, _, _, rfl, F9, N8, D8, _, cells₂, _, _, _, rfl, Y₂, ⟨rfl, rfl, trivial⟩, ⟨rfl, rfl, trivial⟩⟩
      · clear F9 N9 hr Y₂ D₂ Y₁ hm₁
        rintro m₁ nx h₁ tk₁ ⟨cm₁, cells₁, tmp, ti, tj, rfl, Y₁, hcm₁, hm₁⟩ F₁ N₁ D₁
        k_steps
        rename Fr _ _ _ _ => F9
        exact hR2 _ _ ⟨h₁, tk₁, m₁, _, rfl, F9, N₁, D₁, cm₁, cells₁, tmp, ti, rfl, Y₁, ⟨hcm₁.1, trivial⟩, hm₁⟩
    · clear F9 N9 hr Y₂ D₂ Y₁ hm₁
      rintro m₁ nx h₁ tk₁ ⟨cm₁, cells₁, tmp, ti, rfl, Y₁, hcm₁, hm₁⟩ F₁ N₁ D₁
      k_steps
      rename Fr _ _ _ _ => F9
      exact hR1 _ _ ⟨h₁, tk₁, m₁, _, rfl, F9, N₁, D₁, cm₁, cells₁, tmp, rfl, Y₁, hm₁⟩
  · rintro m₁ nx h₁ tk₁ ⟨cm₁, cells₁, tmp, rfl, Y₁, hm₁⟩ F₁ N₁ D₁
    exact done _ _ _ _ _ tmp F₁ hm₁ N₁ D₁ Y₁
end

section
theorem words_33 : True := by
  k_with_none
  k_with "m p_enter" => case' fresh => (refine wpAny_call ?_; k_dflt (refine' p_enter ?k1 ?k3 ?k5 ?k6 ?k7 ?k8 ?k9 ?kB ?_ ?c2 ?c3 ?c4 ?c5; (case k1 | k3 | k5 => assumption); (case k6 | k7 => k_is); (case k8 => lia); (case k9 => first | exact BindsTo.of_eq rfl | exact binds_K (by k_in) rfl (by k_is) rfl rfl rfl); (case kB => exact locs rfl); (case c5 => decide); (case c2 | c3 | c4 => exact rfl); k_whole; intro _ _ _ _; (try dsimp only); (try k_fold)))
  k_with "m subscriptTail Name Constant ref int" => case' fresh => (k_here; k_dflt (refine' item_base ?F ?l ?a ?b ?d ?_; (case F => k_asm); (case l => with_reducible assumption); (case a | b => decide); (case d => exact rfl); k_whole))
  k_with "m subscriptTail Name Constant ref int" => case' fresh => (k_here; k_dflt (refine' tup_base ?F ?l ?a ?b ?j ?d ?_; (case F => k_asm); (case l => with_reducible assumption); (case a | b => decide); (case j | d => exact rfl); k_whole))
  k_with "m binaryOp Mult int int" => case' fresh => (k_dflt (refine' mul_smallL ?a ?b ?_; (case a | b => lia)))
  k_with "m binaryOp Mult int int" => case' fresh => (k_dflt (refine' mul_smallR ?a ?b ?_; (case a | b => lia)))
  k_with "m call builtin:max" => case' fresh => (k_here; (with_reducible show wpAny _ _ (call (Value.builtin "max") [Value.float _ _, Value.float _ _, Value.float _ _]) _ _ _); k_dflt (refine' max3_ex ?a ?b ?c ?d ?F ?N ?_; (case a | b | c => assumption); (case d => exact rfl); (case F | N => k_asm); intro _ _ _ _ _ _ hle'k F'k N'k; (try dsimp only at hle'k); (revert hle'k F'k N'k; intro _ _ _); (try k_sweep)))
  k_with "m call builtin:min" => case' fresh => (k_here; (with_reducible show wpAny _ _ (call (Value.builtin "min") [Value.float _ _, Value.float _ _, Value.float _ _]) _ _ _); k_dflt (refine' min3_ex ?a ?b ?c ?d ?F ?N ?_; (case a | b | c => assumption); (case d => exact rfl); (case F | N => k_asm); intro _ _ _ _ _ _ hle'k F'k N'k; (try dsimp only at hle'k); (revert hle'k F'k N'k; intro _ _ _); (try k_sweep)))
  k_with "m assign Tuple" => case' fresh => ((rename IntsAre _ _ => i9k); (rename (List.length _ = _) => e9k); (obtain ⟨a9, b9, c9, ta9, tb9, tc9, e8, e7⟩ := three_of i9k e9k); subst e8; subst e7; (walk_at "assign Tuple"))
  k_with "m call builtin:max" => case' fresh => (k_here; (with_reducible show wpAny _ _ (call (Value.builtin "max") (Value.int _ _ :: _)) _ _ _); k_dflt ((first | refine' max3_i ?d ?F ?N ?_ | refine' max2_i ?d ?F ?N ?_); (case d => exact rfl); (case F | N => k_asm); intro _ _ _ _ _; (try k_sweep)))
  k_with "m call builtin:min" => case' fresh => (k_here; (with_reducible show wpAny _ _ (call (Value.builtin "min") (Value.int _ _ :: _)) _ _ _); k_dflt ((first | refine' min3_i ?d ?F ?N ?_ | refine' min2_i ?d ?F ?N ?_); (case d => exact rfl); (case F | N => k_asm); intro _ _ _ _ _; (try k_sweep)))
  k_with "m ite" => case' fresh => (k_dflt (first | (refine' ite_eq_tt ?a ?b ?c ?_; (case a | b => assumption); (case c => lia)) | (refine' ite_eq_ff ?a ?b ?c ?_; (case a | b => assumption); (case c => lia))))
  k_with "m p_leaf" => case' fresh => (rename Fr _ _ _ _ => F9k; rename News _ _ _ _ => N9k; rename ∀ (_ : Value) (_ : Heap) (_ : Nat) (_ : List (Addr × Obj)), _ => hret9k; refine hret9k _ _ _ _ ?_ F9k.keep (fun q hq => ⟨(N9k q hq).1, (N9k q hq).2.2⟩))
  k_with "m execs cons" => case' fresh => (k_here; k_dflt (refine' gen_toks ?p ?_; (case p => first | with_reducible assumption | exact Nat.succ_pos _ | lia | (dsimp only; first | exact Nat.succ_pos _ | lia)); (intro _ _; (try dsimp only); refine wpAny_execs_cons ?_)))
  k_with "m p_toks" => case' fresh => (first | with_reducible assumption | exact Nat.succ_ne_zero _ | exact Nat.pos_iff_ne_zero.mp (by assumption) | exact tok_or3 (by assumption) (by assumption))
  k_with "m d_pos" => case' fresh => (first | with_reducible assumption | exact Nat.succ_pos _ | (dsimp only; first | exact Nat.succ_pos _ | omega) | omega)
  k_with "m l_bd" => case' fresh => (refine And.intro ?_ ?_ <;> (first | lia | l_bnd))
  k_with "m k_app" => case' fresh => (first | exact App.nil | (refine' App.cons ?pa; (case pa => walk_at "k_app")))
  k_with "m k_updN" => case' fresh => (first | exact UpdN.head | (refine' UpdN.tail ?pa; (case pa => walk_at "k_updN")))
  k_with "m k_part" => case' fresh => (first | exact Part.nil | (refine' Part.keep ?pa; (case pa => walk_at "k_part")) | (refine' Part.tmp ?pa; (case pa => walk_at "k_part")))
  k_with "m eval Name" => case' fresh => (k_here; k_dflt (refine' nameC ?N ?P ?Y ?c ?v ?_ ?a ?b ?d; (case Y => with_reducible assumption); (case b | a => exact rfl); (case N => k_asm); (case P => walk_at "k_app"); (case c | v => exact rfl); (case d => decide); k_whole))
  k_with "m eval Name" => case' fresh => (k_here; k_dflt (refine' nameX_L ?F ?v ?_ ?a ?b; (case F => k_asm); (case b | a | v => exact rfl); k_whole))
  k_with "m storeName" => case' fresh => (k_here; (with_reducible rename CellsAre _ _ _ => Y9k); (with_reducible rename NDup _ => D9k); k_dflt (refine' storeC ?F ?N D9k ?P Y9k ?c ?n ?_ ?a ?b; (case b | a => exact rfl); (case F | N => k_asm); (case P => walk_at "k_app"); (case c => exact rfl); (case n => exact lawCl_nd _); k_whole); intro _ _ _ N'k D'k Y'k; clear Y9k D9k; (try dsimp only [List.cons_append, List.nil_append] at N'k D'k); (revert N'k D'k Y'k; intro _ _ _); (try k_sweep))
  k_with "m storeName" => case' fresh => (k_here; k_dflt (refine' storeX_L ?F ?N ?_ ?a ?b; (case b | a => rfl); (case F | N => k_asm); k_whole); intro _ _ _; (try k_sweep))
  k_with "m newTuple" => case' fresh => (k_here; (with_reducible rename NDup _ => D9k); k_dflt (refine' newTup_D ?F ?N D9k ?_ ?z; (case F | N => k_asm); (case z => size_fits); k_whole); intro _ _ _ _ _; clear D9k; (try k_sweep))
  k_with "m newList" => case' fresh => (k_here; (with_reducible rename NDup _ => D9k); k_dflt (refine' newList_D ?F ?N D9k ?_ ?z; (case F | N => k_asm); (case z => size_fits); k_whole); intro _ _ _ _ _; clear D9k; (try k_sweep))
  k_with "m call builtin:list.append" => case' fresh => (k_here; (with_reducible rename NDup _ => D9k); k_dflt (refine' append_D ?F ?N D9k ?U ?_ ?z; (case F | N => k_asm); (case U => walk_at "k_updN"); (case z => first | size_fits | (simp only [Array.size_push] at *; lia)); k_whole); intro _ _ _ _; clear D9k; (try k_sweep))
  k_with "m call ref" => case' fresh => (k_here; (with_reducible show wpAny _ _ (call (Value.ref 242) _) _ _ _); (with_reducible rename NDup _ => D9k); k_dflt (refine' parts_D ?b0 ?b1 ?b2 ?k1 ?k2 ?k3 ?k4 ?k5 D9k rfl rfl nofun rfl ?ka ?kb ?kc ?_; (case b0 | b1 | b2 => walk_at "l_bd"); (case k1 => k_asm); (case k2 | k3 => with_reducible assumption); (case k4 | k5 => k_asm); (case ka | kb => walk_at "m_un"); (case kc => walk_at "d_pos")); intro _ _ _ _ _ _ _ _ _ _ _ _ _ _; clear D9k; (try k_sweep))
  k_with "m call ref" => case' fresh => (k_here; (with_reducible show wpAny _ _ (call (Value.ref 59) _) _ _ _); (with_reducible rename NDup _ => D9k); k_dflt (refine' h2r_D ?a1 ?a2 ?a3 ?b0 ?b1 ?b2 ?a4 ?k1 ?k2 ?k3 ?k4 ?k5 D9k rfl rfl nofun rfl ?ka ?kb ?kc ?_; (case a1 | a2 | a3 => assumption);(case b0 | b1 | b2 => walk_at "l_bd");(case a4 => walk_at "p_toks"); (case k1 => k_asm); (case k2 | k3 => with_reducible assumption); (case k4 | k5 => k_asm); (case ka | kb => walk_at "m_un"); (case kc => walk_at "d_pos")); intro _ _ _ _ _ _ _ _ _ _ _ _ _ _ _ _ _; clear D9k; (try k_sweep))
  k_with "m call ref" => case' fresh => (k_here; (with_reducible show wpAny _ _ (call (Value.ref 52) _) _ _ _); (with_reducible rename NDup _ => D9k); k_dflt (refine' r2h_D ?a1 ?a2 ?a3 ?b0 ?b1 ?b2 ?a4 ?k1 ?k2 ?k3 ?k4 ?k5 D9k rfl rfl nofun rfl ?ka ?kb ?kc ?_; (case a1 | a2 | a3 => assumption);(case b0 | b1 | b2 => walk_at "l_bd");(case a4 => assumption); (case k1 => k_asm); (case k2 | k3 => with_reducible assumption); (case k4 | k5 => k_asm); (case ka | kb => walk_at "m_un"); (case kc => walk_at "d_pos")); intro _ _ _ _ _ _ _ _ _ _ _ _ _ _ _ _ _; clear D9k; (try k_sweep))
  k_with "m m_un" => case' fresh => ((try simp only [depth_in1, depth_deeper, units_in1, units_deeper, Around.mark_units]); (try dsimp only); lia)
  k_with "m binaryOp Div int int" => case' fresh => (k_here; k_dflt (refine' div_by (g := 10) ?k1 ?k2 ?k3 ?k4 ?_; (case k1 | k2 => decide); (case k3 | k4 => first | lia | l_bnd); k_whole; intro _ _; (try dsimp only)))
  k_with "m binaryOp Div int int" => case' fresh => (k_here; k_dflt (refine' div_by (g := 2) ?k1 ?k2 ?k3 ?k4 ?_; (case k1 | k2 => decide); (case k3 | k4 => first | lia | l_bnd); k_whole; intro _ _; (try dsimp only)))
  k_with "m binaryOp Div int int" => case' fresh => (k_here; k_dflt (refine' div_by (g := 14) ?k1 ?k2 ?k3 ?k4 ?_; (case k1 | k2 => decide); (case k3 | k4 => first | lia | l_bnd); k_whole; intro _ _; (try dsimp only)))
  k_with "m call builtin:sum" => case' fresh => (k_here; k_dflt (refine' sum_pick ?k1 ?k2 ?k3 ?k5 ?_; (case k1 => exact rfl); (case k2 | k3 => k_asm); (case k5 => with_reducible assumption); k_whole; intro _ _ _ _ hle'k F'k N'k; (try dsimp only at hle'k); (revert hle'k F'k N'k; intro _ _ _); (with_reducible rename NDup _ => D9k); (have D'k := NDup.tail D9k); clear D9k; (revert D'k; intro _); (try k_sweep)))
  k_with "m binaryOp Mult float int" => case' fresh => (k_here; k_dflt (refine' mul_1024 ?a ?b ?_; (case a => assumption); (case b => walk_at "l_bd"); k_whole; intro _ _; (try dsimp only)))
  k_with "m call type:int" => case' fresh => (k_here; k_dflt (refine' int_f ?a ?b ?c ?_; (case a => exact rfl); (case b => assumption); (case c => lia); k_whole))
  k_with "m compareOp NotEq ref ref" => case' fresh => (k_here; k_dflt (refine' ne_tup ?F ?X ?N ?a ?b ?c1 ?c2 ?c3 ?c4 ?c5 ?c6 ?d1 ?d2 ?e ?_; (case F | X | N => k_asm); (case a | b => k_mem); (case c1 | c2 | c3 | c4 | c5 | c6 => assumption); (case d1 | d2 => walk_at "p_toks3"); (case e => walk_at "m_un"); k_whole))
  k_with "m p_toks3" => case' fresh => (first | with_reducible assumption | exact ⟨by walk_at "p_toks", by walk_at "p_toks", by walk_at "p_toks"⟩)
  k_with "m p_toks" => case' fresh => (first | with_reducible assumption | exact Nat.succ_ne_zero _ | exact Nat.pos_iff_ne_zero.mp (by assumption) | lia)
  k_with "m pyIter ref" => case' fresh => (k_here; k_dflt (refine' hold ?_))
  k_with "m exec For Name Call cons nil" => case' fresh => (k_here; (rename Fr _ _ _ _ => lF'k); (with_unfolding_all refine' For_turns lF'k ?_); k_whole)
  k_with "m exec For Tuple Tuple cons nil" => case' fresh => (k_here; (rename Fr _ _ _ _ => lF'k); (with_unfolding_all refine' For_turns lF'k ?_); k_whole)
  k_with "m binaryOp Mod int int" => case' fresh => (k_here; k_dflt (refine' mod_g ?k1 ?_; (case k1 => first | decide | lia); k_whole); intro _ _ _ r1'k; (try dsimp only at r1'k); (revert r1'k; intro _); (try dsimp only))
  k_with "m subscriptTail Name Constant ref int" => case' fresh => (k_here; k_dflt (refine' idxT ?N ?m ?a ?b ?d ?_ ?s; (case N => k_asm); (case m => k_mem); (case a | b => first | decide | lia); (case d => first | exact rfl | assumption); (case s => with_unfolding_all rfl); k_whole))
  k_with "m subscriptTail Subscript Constant ref int" => case' fresh => (k_here; k_dflt (refine' idxT ?N ?m ?a ?b ?d ?_ ?s; (case N => k_asm); (case m => k_mem); (case a | b => first | decide | lia); (case d => first | exact rfl | assumption); (case s => with_unfolding_all rfl); k_whole))
  k_with "m subscriptTail Subscript Name ref int" => case' fresh => (k_here; k_dflt (refine' idxT ?N ?m ?a ?b ?d ?_ ?s; (case N => k_asm); (case m => k_mem); (case a | b => first | decide | lia); (case d => first | exact rfl | assumption); (case s => with_unfolding_all rfl); k_whole))
  k_with "m subscriptTail Name Name ref int" => case' fresh => (k_here; k_dflt (refine' idxT ?N ?m ?a ?b ?d ?_ ?s; (case N => k_asm); (case m => k_mem); (case a | b => first | decide | lia); (case d => first | exact rfl | assumption); (case s => with_unfolding_all rfl); k_whole))
  k_with "m subscriptTail Name Constant ref int" => case' fresh => (k_here; k_dflt (refine' idxL ?N ?m ?a ?b ?d ?_ ?s; (case N => k_asm); (case m => k_mem); (case a | b => first | decide | lia); (case d => first | exact rfl | assumption); (case s => with_unfolding_all rfl); k_whole))
  k_with "m subscriptTail Subscript Constant ref int" => case' fresh => (k_here; k_dflt (refine' idxL ?N ?m ?a ?b ?d ?_ ?s; (case N => k_asm); (case m => k_mem); (case a | b => first | decide | lia); (case d => first | exact rfl | assumption); (case s => with_unfolding_all rfl); k_whole))
  k_with "m subscriptTail Subscript Name ref int" => case' fresh => (k_here; k_dflt (refine' idxL ?N ?m ?a ?b ?d ?_ ?s; (case N => k_asm); (case m => k_mem); (case a | b => first | decide | lia); (case d => first | exact rfl | assumption); (case s => with_unfolding_all rfl); k_whole))
  k_with "m subscriptTail Name Name ref int" => case' fresh => (k_here; k_dflt (refine' idxL ?N ?m ?a ?b ?d ?_ ?s; (case N => k_asm); (case m => k_mem); (case a | b => first | decide | lia); (case d => first | exact rfl | assumption); (case s => with_unfolding_all rfl); k_whole))
  k_with "m subscriptTail Name Name ref int" => case' fresh => (k_here; k_dflt (refine' idx_push ?N ?m ?a ?b ?_ ?s; (case N => k_asm); (case m => k_mem); (case a => first | rfl | lia); (case b => lia); (case s => with_unfolding_all rfl); k_whole))
  k_with "m subscriptTail Tuple Name ref int" => case' fresh => (k_here; k_dflt (refine' idx3 ?N ?m ?a ?b ?_ ?s; (case N => k_asm); (case m => k_mem); (case a | b => lia); (case s => with_unfolding_all rfl); k_whole); intro _ _)
  k_with "m assign Tuple" => case' fresh => (k_here; k_dflt (refine' unpackN_ ?F ?N ?T ?k1 ?k2 ?k3 ?_; (case F | N => k_asm); (case T => refine News.isTup (by k_asm) (by k_mem)); (case k1 | k2 | k3 => exact rfl)); intro _ _ _; (try k_sweep))
  exact trivial
theorem calm_E4 : True := by
  w_top off
  exact trivial
open PySem.W
section
variable {prog : Program} {w : World} {A : Around} {E : Value → Shared → Prop} {s : Shared} {h₀ : Heap} {L : Addr} {m : Str → Option Value} {news : List (Addr × Obj)}
theorem tup_same {x y : It} (N : News h₀ L s.heap news) (hx : T4 news x) (hy : T4 news y) (e : x.2 = y.2) (hu : A.units < cLine) : SeqAt.EqAt A s (.ref x.1) (.ref y.1) true := by
  by_cases hne : x.1 = y.1
  · rw [hne]; exact SeqAt.EqAt.same _
  obtain ⟨w1, i1, j1, k1, t0, t1, t2, t3, a1, b1, c1, d1, e1⟩ := hx
  obtain ⟨w2, i2, j2, k2, u0, u1, u2, u3, a2, b2, c2, d2, e2⟩ := hy
  have q : ∀ {a b : Int} {t u : Tok}, a = b → SeqAt.EqAt A.in1 s (.int a t) (.int b u) true := fun {a b t u} h => by
    subst h
    have := SeqAt.EqAt.int_int (A := A.in1) (s := s) a t a u
    rw [beq_self_eq_true] at this
    exact this
  rw [d1, d2, dig_eq c1 c2, dig_eq b1 b2, dig_eq a1 a2] at e
  obtain ⟨⟨⟨ew, ei⟩, ej⟩, ek⟩ := e
  refine SeqAt.EqAt.of_refs hne ?_
  have := SeqAt.RcAt.tuples (A := A) (s := s) (e := fun _ => true) ⟨_, (N _ e1).1, rfl, _, rfl⟩ ⟨_, (N _ e2).1, rfl, _, rfl⟩ hu (fun j h1 h2 => by
    rcases j with _ | _ | _ | _ | j
    · exact q ew
    · exact q ei
    · exact q ej
    · exact q ek
    · exact absurd h1 (by simp))
  exact this
theorem eq_its {a b : Addr} {k k' : Nat} {l l' : List It} {Q : Value → Shared → Prop} (N : News h₀ L s.heap news) (ha : (a, listOf (vls l).toArray k) ∈ news) (hb : (b, listOf (vls l').toArray k') ∈ news) (hit : ∀ x ∈ l, T4 news x) (hit' : ∀ x ∈ l', T4 news x) (he : l.map (·.2) = l'.map (·.2)) (hu : A.units + 1 < cLine) (h : Q (.bool true) s) :
    wpAny (model prog w) A (compareOp .Eq (.ref a) (.ref b)) Q E s := by
  have hl : l.length = l'.length := by simpa using congrArg List.length he
  refine SeqAt.eq_listAt (e := fun _ => true) ⟨_, (N _ ha).1, rfl, _, rfl⟩ ⟨_, (N _ hb).1, rfl, _, rfl⟩ (by simp [vls, hl]) (by lia) (fun j h1 h2 => ?_) ?_
  · have g1 : j < l.length := by simpa [vls] using h1
    have g2 : j < l'.length := by simpa [vls] using h2
    have e1 : (vls l).toArray[j] = .ref l[j].1 := by simp [vls]
    have e2 : (vls l').toArray[j] = .ref l'[j].1 := by simp [vls]
    rw [e1, e2]
    refine tup_same N (hit _ (List.getElem_mem g1)) (hit' _ (List.getElem_mem g2)) ?_ (by rw [units_in1]; exact hu)
    have := congrArg (fun x => x[j]?) he
    simpa [g1, g2] using this
  · have : (List.range (vls l).toArray.size).all (fun _ => true) = true := by simp
    rw [this]; exact h
end
theorem sorted_same {l l' : List Int} (hp : l.Perm l') (h : l.Pairwise (· ≤ ·)) (h' : l'.Pairwise (· ≤ ·)) : l = l' :=
  List.Perm.eq_of_pairwise (fun a b _ _ => Int.le_antisymm) h h' hp
theorem words_34 : True := by
  k_with "m call builtin:sorted" => case' fresh => (k_here; k_dflt (refine' hold ?_))
  k_with "m compareOp Eq ref ref" => case' fresh => (k_here; k_dflt (refine' hold ?_))
  exact trivial
theorem phE15 
    (B : Below A₀ base outer g) (X : (nk.heap_1 w.params).In g) (T : Top p loose mean mg mb g) (hd : dp + 8 < recursionLimit) (hu : un + 128 < cLine)
    {m : Str → Option Value} {duA grA : Addr} {ng nd : Nat} {gr due : List It} {cells frz : List (Addr × Obj)} {s : Shared} {R : Flow → Shared → Prop}
    (h5 : 5 ≤ gr.length) (h27 : gr.length ≤ 27) (hg : (grA, listOf (vls gr).toArray ng) ∈ frz) (hdu : (duA, listOf (vls due).toArray nd) ∈ frz) (hit : ∀ x ∈ gr, T4 frz x) (hit' : ∀ x ∈ due, T4 frz x)
    (hp : (gr.map (·.2)).Perm (due.map (·.2))) (hnd : (due.map (·.2)).Nodup) (hs : gr.Pairwise fun a b => a.2 ≤ b.2)
    (F : Fr g L s.heap m) (hm : AtL m [("due", .ref duA), ("greys", .ref grA)]) (N : News g L s.heap (cells ++ frz)) (D : NDup (cells ++ frz))
    (done : ∀ h' tk, (∀ b o, g.get? b = some o → h'.get? b = some o) → R (.ret (.bool true)) { s with heap := h', toks := tk }) :
    wpAny (MM w) ((TopA dp un gd outer).deeper (lawEnv L fa cd)) (exec stE15.1 (lawEnv L fa cd)) R (fun _ _ => False) s := by
  rw [← kst_at hm] at F
  unfold stE15
  dsimp only
  have hlen : gr.length = due.length := by simpa using hp.length_eq
  have up : ∀ q ∈ frz, q ∈ cells ++ frz := fun q hq => List.mem_append_right _ hq
  k_steps
  unfold Hold
  rename Fr _ _ _ _ => F9
  rename News _ _ _ _ => N9
  refine sorted_D (fun x hx => (hit' x hx).mono up) hnd F9 N9 D (up _ hdu) (by lia) (by lia) fun T' h' l' n' hp' hs' F' N' D' => ?_
  clear F9 N9
  k_steps
  unfold Hold
  refine eq_its N' (.tail _ (up _ hg)) (.head _) (fun x hx => (hit x hx).mono fun q hq => .tail _ (up q hq)) (fun x hx => (hit' x (hp'.mem_iff.mp hx)).mono fun q hq => .tail _ (up q hq)) ?_ (by walk_at "m_un") ?_
  · exact sorted_same (hp.trans (hp'.map _).symm) (List.pairwise_map.mpr hs) (List.pairwise_map.mpr hs')
  k_steps
  exact done _ _ F'.keep
end

section
theorem words_35 : True := by
  k_with_none
  k_with "m p_enter" => case' fresh => (refine wpAny_call ?_; k_dflt (refine' p_enter ?k1 ?k3 ?k5 ?k6 ?k7 ?k8 ?k9 ?kB ?_ ?c2 ?c3 ?c4 ?c5; (case k1 | k3 | k5 => assumption); (case k6 | k7 => k_is); (case k8 => lia); (case k9 => first | exact BindsTo.of_eq rfl | exact binds_K (by k_in) rfl (by k_is) rfl rfl rfl); (case kB => exact locs rfl); (case c5 => decide); (case c2 | c3 | c4 => exact rfl); k_whole; intro _ _ _ _; (try dsimp only); (try k_fold)))
  k_with "m subscriptTail Name Constant ref int" => case' fresh => (k_here; k_dflt (refine' item_base ?F ?l ?a ?b ?d ?_; (case F => k_asm); (case l => with_reducible assumption); (case a | b => decide); (case d => exact rfl); k_whole))
  k_with "m subscriptTail Name Constant ref int" => case' fresh => (k_here; k_dflt (refine' tup_base ?F ?l ?a ?b ?j ?d ?_; (case F => k_asm); (case l => with_reducible assumption); (case a | b => decide); (case j | d => exact rfl); k_whole))
  k_with "m binaryOp Mult int int" => case' fresh => (k_dflt (refine' mul_smallL ?a ?b ?_; (case a | b => lia)))
  k_with "m binaryOp Mult int int" => case' fresh => (k_dflt (refine' mul_smallR ?a ?b ?_; (case a | b => lia)))
  k_with "m call builtin:max" => case' fresh => (k_here; (with_reducible show wpAny _ _ (call (Value.builtin "max") [Value.float _ _, Value.float _ _, Value.float _ _]) _ _ _); k_dflt (refine' max3_ex ?a ?b ?c ?d ?F ?N ?_; (case a | b | c => assumption); (case d => exact rfl); (case F | N => k_asm); intro _ _ _ _ _ _ hle'k F'k N'k; (try dsimp only at hle'k); (revert hle'k F'k N'k; intro _ _ _); (try k_sweep)))
  k_with "m call builtin:min" => case' fresh => (k_here; (with_reducible show wpAny _ _ (call (Value.builtin "min") [Value.float _ _, Value.float _ _, Value.float _ _]) _ _ _); k_dflt (refine' min3_ex ?a ?b ?c ?d ?F ?N ?_; (case a | b | c => assumption); (case d => exact rfl); (case F | N => k_asm); intro _ _ _ _ _ _ hle'k F'k N'k; (try dsimp only at hle'k); (revert hle'k F'k N'k; intro _ _ _); (try k_sweep)))
  k_with "m assign Tuple" => case' fresh => ((rename IntsAre _ _ => i9k); (rename (List.length _ = _) => e9k); (obtain ⟨a9, b9, c9, ta9, tb9, tc9, e8, e7⟩ := three_of i9k e9k); subst e8; subst e7; (walk_at "assign Tuple"))
  k_with "m call builtin:max" => case' fresh => (k_here; (with_reducible show wpAny _ _ (call (Value.builtin "max") (Value.int _ _ :: _)) _ _ _); k_dflt ((first | refine' max3_i ?d ?F ?N ?_ | refine' max2_i ?d ?F ?N ?_); (case d => exact rfl); (case F | N => k_asm); intro _ _ _ _ _; (try k_sweep)))
  k_with "m call builtin:min" => case' fresh => (k_here; (with_reducible show wpAny _ _ (call (Value.builtin "min") (Value.int _ _ :: _)) _ _ _); k_dflt ((first | refine' min3_i ?d ?F ?N ?_ | refine' min2_i ?d ?F ?N ?_); (case d => exact rfl); (case F | N => k_asm); intro _ _ _ _ _; (try k_sweep)))
  k_with "m ite" => case' fresh => (k_dflt (first | (refine' ite_eq_tt ?a ?b ?c ?_; (case a | b => assumption); (case c => lia)) | (refine' ite_eq_ff ?a ?b ?c ?_; (case a | b => assumption); (case c => lia))))
  k_with "m p_leaf" => case' fresh => (rename Fr _ _ _ _ => F9k; rename News _ _ _ _ => N9k; rename ∀ (_ : Value) (_ : Heap) (_ : Nat) (_ : List (Addr × Obj)), _ => hret9k; refine hret9k _ _ _ _ ?_ F9k.keep (fun q hq => ⟨(N9k q hq).1, (N9k q hq).2.2⟩))
  k_with "m execs cons" => case' fresh => (k_here; k_dflt (refine' gen_toks ?p ?_; (case p => first | with_reducible assumption | exact Nat.succ_pos _ | lia | (dsimp only; first | exact Nat.succ_pos _ | lia)); (intro _ _; (try dsimp only); refine wpAny_execs_cons ?_)))
  k_with "m p_toks" => case' fresh => (first | with_reducible assumption | exact Nat.succ_ne_zero _ | exact Nat.pos_iff_ne_zero.mp (by assumption) | exact tok_or3 (by assumption) (by assumption))
  k_with "m d_pos" => case' fresh => (first | with_reducible assumption | exact Nat.succ_pos _ | (dsimp only; first | exact Nat.succ_pos _ | omega) | omega)
  k_with "m l_bd" => case' fresh => (refine And.intro ?_ ?_ <;> (first | lia | l_bnd))
  k_with "m k_app" => case' fresh => (first | exact App.nil | (refine' App.cons ?pa; (case pa => walk_at "k_app")))
  k_with "m k_updN" => case' fresh => (first | exact UpdN.head | (refine' UpdN.tail ?pa; (case pa => walk_at "k_updN")))
  k_with "m k_part" => case' fresh => (first | exact Part.nil | (refine' Part.keep ?pa; (case pa => walk_at "k_part")) | (refine' Part.tmp ?pa; (case pa => walk_at "k_part")))
  k_with "m eval Name" => case' fresh => (k_here; k_dflt (refine' nameC ?N ?P ?Y ?c ?v ?_ ?a ?b ?d; (case Y => with_reducible assumption); (case b | a => exact rfl); (case N => k_asm); (case P => walk_at "k_app"); (case c | v => exact rfl); (case d => decide); k_whole))
  k_with "m eval Name" => case' fresh => (k_here; k_dflt (refine' nameX_L ?F ?v ?_ ?a ?b; (case F => k_asm); (case b | a | v => exact rfl); k_whole))
  k_with "m storeName" => case' fresh => (k_here; (with_reducible rename CellsAre _ _ _ => Y9k); (with_reducible rename NDup _ => D9k); k_dflt (refine' storeC ?F ?N D9k ?P Y9k ?c ?n ?_ ?a ?b; (case b | a => exact rfl); (case F | N => k_asm); (case P => walk_at "k_app"); (case c => exact rfl); (case n => exact lawCl_nd _); k_whole); intro _ _ _ N'k D'k Y'k; clear Y9k D9k; (try dsimp only [List.cons_append, List.nil_append] at N'k D'k); (revert N'k D'k Y'k; intro _ _ _); (try k_sweep))
  k_with "m storeName" => case' fresh => (k_here; k_dflt (refine' storeX_L ?F ?N ?_ ?a ?b; (case b | a => rfl); (case F | N => k_asm); k_whole); intro _ _ _; (try k_sweep))
  k_with "m newTuple" => case' fresh => (k_here; (with_reducible rename NDup _ => D9k); k_dflt (refine' newTup_D ?F ?N D9k ?_ ?z; (case F | N => k_asm); (case z => size_fits); k_whole); intro _ _ _ _ _; clear D9k; (try k_sweep))
  k_with "m newList" => case' fresh => (k_here; (with_reducible rename NDup _ => D9k); k_dflt (refine' newList_D ?F ?N D9k ?_ ?z; (case F | N => k_asm); (case z => size_fits); k_whole); intro _ _ _ _ _; clear D9k; (try k_sweep))
  k_with "m call builtin:list.append" => case' fresh => (k_here; (with_reducible rename NDup _ => D9k); k_dflt (refine' append_D ?F ?N D9k ?U ?_ ?z; (case F | N => k_asm); (case U => walk_at "k_updN"); (case z => first | size_fits | (simp only [Array.size_push] at *; lia)); k_whole); intro _ _ _ _; clear D9k; (try k_sweep))
  k_with "m call ref" => case' fresh => (k_here; (with_reducible show wpAny _ _ (call (Value.ref 242) _) _ _ _); (with_reducible rename NDup _ => D9k); k_dflt (refine' parts_D ?b0 ?b1 ?b2 ?k1 ?k2 ?k3 ?k4 ?k5 D9k rfl rfl nofun rfl ?ka ?kb ?kc ?_; (case b0 | b1 | b2 => walk_at "l_bd"); (case k1 => k_asm); (case k2 | k3 => with_reducible assumption); (case k4 | k5 => k_asm); (case ka | kb => walk_at "m_un"); (case kc => walk_at "d_pos")); intro _ _ _ _ _ _ _ _ _ _ _ _ _ _; clear D9k; (try k_sweep))
  k_with "m call ref" => case' fresh => (k_here; (with_reducible show wpAny _ _ (call (Value.ref 59) _) _ _ _); (with_reducible rename NDup _ => D9k); k_dflt (refine' h2r_D ?a1 ?a2 ?a3 ?b0 ?b1 ?b2 ?a4 ?k1 ?k2 ?k3 ?k4 ?k5 D9k rfl rfl nofun rfl ?ka ?kb ?kc ?_; (case a1 | a2 | a3 => assumption);(case b0 | b1 | b2 => walk_at "l_bd");(case a4 => walk_at "p_toks"); (case k1 => k_asm); (case k2 | k3 => with_reducible assumption); (case k4 | k5 => k_asm); (case ka | kb => walk_at "m_un"); (case kc => walk_at "d_pos")); intro _ _ _ _ _ _ _ _ _ _ _ _ _ _ _ _ _; clear D9k; (try k_sweep))
  k_with "m call ref" => case' fresh => (k_here; (with_reducible show wpAny _ _ (call (Value.ref 52) _) _ _ _); (with_reducible rename NDup _ => D9k); k_dflt (refine' r2h_D ?a1 ?a2 ?a3 ?b0 ?b1 ?b2 ?a4 ?k1 ?k2 ?k3 ?k4 ?k5 D9k rfl rfl nofun rfl ?ka ?kb ?kc ?_; (case a1 | a2 | a3 => assumption);(case b0 | b1 | b2 => walk_at "l_bd");(case a4 => assumption); (case k1 => k_asm); (case k2 | k3 => with_reducible assumption); (case k4 | k5 => k_asm); (case ka | kb => walk_at "m_un"); (case kc => walk_at "d_pos")); intro _ _ _ _ _ _ _ _ _ _ _ _ _ _ _ _ _; clear D9k; (try k_sweep))
  k_with "m m_un" => case' fresh => ((try simp only [depth_in1, depth_deeper, units_in1, units_deeper, Around.mark_units]); (try dsimp only); lia)
  k_with "m binaryOp Div int int" => case' fresh => (k_here; k_dflt (refine' div_by (g := 10) ?k1 ?k2 ?k3 ?k4 ?_; (case k1 | k2 => decide); (case k3 | k4 => first | lia | l_bnd); k_whole; intro _ _; (try dsimp only)))
  k_with "m binaryOp Div int int" => case' fresh => (k_here; k_dflt (refine' div_by (g := 2) ?k1 ?k2 ?k3 ?k4 ?_; (case k1 | k2 => decide); (case k3 | k4 => first | lia | l_bnd); k_whole; intro _ _; (try dsimp only)))
  k_with "m binaryOp Div int int" => case' fresh => (k_here; k_dflt (refine' div_by (g := 14) ?k1 ?k2 ?k3 ?k4 ?_; (case k1 | k2 => decide); (case k3 | k4 => first | lia | l_bnd); k_whole; intro _ _; (try dsimp only)))
  k_with "m call builtin:sum" => case' fresh => (k_here; k_dflt (refine' sum_pick ?k1 ?k2 ?k3 ?k5 ?_; (case k1 => exact rfl); (case k2 | k3 => k_asm); (case k5 => with_reducible assumption); k_whole; intro _ _ _ _ hle'k F'k N'k; (try dsimp only at hle'k); (revert hle'k F'k N'k; intro _ _ _); (with_reducible rename NDup _ => D9k); (have D'k := NDup.tail D9k); clear D9k; (revert D'k; intro _); (try k_sweep)))
  k_with "m binaryOp Mult float int" => case' fresh => (k_here; k_dflt (refine' mul_1024 ?a ?b ?_; (case a => assumption); (case b => walk_at "l_bd"); k_whole; intro _ _; (try dsimp only)))
  k_with "m call type:int" => case' fresh => (k_here; k_dflt (refine' int_f ?a ?b ?c ?_; (case a => exact rfl); (case b => assumption); (case c => lia); k_whole))
  k_with "m compareOp NotEq ref ref" => case' fresh => (k_here; k_dflt (refine' ne_tup ?F ?X ?N ?a ?b ?c1 ?c2 ?c3 ?c4 ?c5 ?c6 ?d1 ?d2 ?e ?_; (case F | X | N => k_asm); (case a | b => k_mem); (case c1 | c2 | c3 | c4 | c5 | c6 => assumption); (case d1 | d2 => walk_at "p_toks3"); (case e => walk_at "m_un"); k_whole))
  k_with "m p_toks3" => case' fresh => (first | with_reducible assumption | exact ⟨by walk_at "p_toks", by walk_at "p_toks", by walk_at "p_toks"⟩)
  k_with "m p_toks" => case' fresh => (first | with_reducible assumption | exact Nat.succ_ne_zero _ | exact Nat.pos_iff_ne_zero.mp (by assumption) | lia)
  k_with "m pyIter ref" => case' fresh => (k_here; k_dflt (refine' hold ?_))
  k_with "m exec For Name Call cons nil" => case' fresh => (k_here; (rename Fr _ _ _ _ => lF'k); (with_unfolding_all refine' For_turns lF'k ?_); k_whole)
  k_with "m exec For Tuple Tuple cons nil" => case' fresh => (k_here; (rename Fr _ _ _ _ => lF'k); (with_unfolding_all refine' For_turns lF'k ?_); k_whole)
  k_with "m binaryOp Mod int int" => case' fresh => (k_here; k_dflt (refine' mod_g ?k1 ?_; (case k1 => first | decide | lia); k_whole); intro _ _ _ r1'k; (try dsimp only at r1'k); (revert r1'k; intro _); (try dsimp only))
  k_with "m subscriptTail Name Constant ref int" => case' fresh => (k_here; k_dflt (refine' idxT ?N ?m ?a ?b ?d ?_ ?s; (case N => k_asm); (case m => k_mem); (case a | b => first | decide | lia); (case d => first | exact rfl | assumption); (case s => with_unfolding_all rfl); k_whole))
  k_with "m subscriptTail Subscript Constant ref int" => case' fresh => (k_here; k_dflt (refine' idxT ?N ?m ?a ?b ?d ?_ ?s; (case N => k_asm); (case m => k_mem); (case a | b => first | decide | lia); (case d => first | exact rfl | assumption); (case s => with_unfolding_all rfl); k_whole))
  k_with "m subscriptTail Subscript Name ref int" => case' fresh => (k_here; k_dflt (refine' idxT ?N ?m ?a ?b ?d ?_ ?s; (case N => k_asm); (case m => k_mem); (case a | b => first | decide | lia); (case d => first | exact rfl | assumption); (case s => with_unfolding_all rfl); k_whole))
  k_with "m subscriptTail Name Name ref int" => case' fresh => (k_here; k_dflt (refine' idxT ?N ?m ?a ?b ?d ?_ ?s; (case N => k_asm); (case m => k_mem); (case a | b => first | decide | lia); (case d => first | exact rfl | assumption); (case s => with_unfolding_all rfl); k_whole))
  k_with "m subscriptTail Name Constant ref int" => case' fresh => (k_here; k_dflt (refine' idxL ?N ?m ?a ?b ?d ?_ ?s; (case N => k_asm); (case m => k_mem); (case a | b => first | decide | lia); (case d => first | exact rfl | assumption); (case s => with_unfolding_all rfl); k_whole))
  k_with "m subscriptTail Subscript Constant ref int" => case' fresh => (k_here; k_dflt (refine' idxL ?N ?m ?a ?b ?d ?_ ?s; (case N => k_asm); (case m => k_mem); (case a | b => first | decide | lia); (case d => first | exact rfl | assumption); (case s => with_unfolding_all rfl); k_whole))
  k_with "m subscriptTail Subscript Name ref int" => case' fresh => (k_here; k_dflt (refine' idxL ?N ?m ?a ?b ?d ?_ ?s; (case N => k_asm); (case m => k_mem); (case a | b => first | decide | lia); (case d => first | exact rfl | assumption); (case s => with_unfolding_all rfl); k_whole))
  k_with "m subscriptTail Name Name ref int" => case' fresh => (k_here; k_dflt (refine' idxL ?N ?m ?a ?b ?d ?_ ?s; (case N => k_asm); (case m => k_mem); (case a | b => first | decide | lia); (case d => first | exact rfl | assumption); (case s => with_unfolding_all rfl); k_whole))
  k_with "m subscriptTail Name Name ref int" => case' fresh => (k_here; k_dflt (refine' idx_push ?N ?m ?a ?b ?_ ?s; (case N => k_asm); (case m => k_mem); (case a => first | rfl | lia); (case b => lia); (case s => with_unfolding_all rfl); k_whole))
  k_with "m subscriptTail Tuple Name ref int" => case' fresh => (k_here; k_dflt (refine' idx3 ?N ?m ?a ?b ?_ ?s; (case N => k_asm); (case m => k_mem); (case a | b => lia); (case s => with_unfolding_all rfl); k_whole); intro _ _)
  k_with "m assign Tuple" => case' fresh => (k_here; k_dflt (refine' unpackN_ ?F ?N ?T ?k1 ?k2 ?k3 ?_; (case F | N => k_asm); (case T => refine News.isTup (by k_asm) (by k_mem)); (case k1 | k2 | k3 => exact rfl)); intro _ _ _; (try k_sweep))
  exact trivial
theorem calm_J1 : True := by
  w_top off
  exact trivial
open PySem.W
theorem df_of {a b x y : Int} (ha : a % 16 = x) (hb : b % 16 = y) (hx : 0 ≤ x ∧ x < 16) (hy : 0 ≤ y ∧ y < 16) (h : x ≠ y) : (a - b) % 512 ≠ 0 := by lia
noncomputable def lowAt (i j : Nat) : Int := 3 * (i : Int) + (if j = 0 then 0 else if j = 1 then 2 else 1)
theorem low_mod {f b d : Int} (h0 : 0 ≤ 3 * b + d) (h1 : 3 * b + d < 16) : (16 * f + 3 * b + d) % 1024 % 16 = 3 * b + d ∧ 0 ≤ (16 * f + 3 * b + d) % 1024 ∧ (16 * f + 3 * b + d) % 1024 < 1024 :=
  ⟨by rw [Int.emod_emod_of_dvd _ (by decide : (16 : Int) ∣ 1024), Int.add_assoc, Int.add_comm, Int.add_mul_emod_self_left, Int.emod_eq_of_lt h0 h1], Int.emod_nonneg _ (by decide), Int.emod_lt_of_pos _ (by decide)⟩
theorem on_mod {a b d : Int} (j : Int) (h : b - a = d + 1024 * j) (h0 : 0 < d) (h1 : d < 512) : On (a % 1024) (b % 1024) := by
  unfold On
  rw [← Int.sub_emod, h, Int.add_mul_emod_self_left, Int.emod_eq_of_lt (Int.le_of_lt h0) (Int.lt_trans h1 (by decide))]
  exact ⟨h0, h1⟩
theorem low_of {b k0 k1 k2 : Int} (h : BoxHues b k0 k1 k2) (hb : 0 ≤ b ∧ b < 3) : (k0 % 16 = 3 * b + 0 ∧ k1 % 16 = 3 * b + 2 ∧ k2 % 16 = 3 * b + 1) ∧ ((0 ≤ k0 ∧ k0 < 1024) ∧ (0 ≤ k1 ∧ k1 < 1024) ∧ (0 ≤ k2 ∧ k2 < 1024)) ∧ Cyc k0 k1 k2 := by
  obtain ⟨f, s, t, h1, h2, h3, rfl, rfl, rfl⟩ := h
  have cy : Cyc ((16 * f + 3 * b + 0) % 1024) ((16 * s + 3 * b + 2) % 1024) ((16 * t + 3 * b + 1) % 1024) :=
    ⟨on_mod (d := 16 * (s - f) + 2) 0 (by clear h1 h2 h3 hb; lia) (by lia) (by lia), on_mod (d := 16 * (t - s) - 1) 0 (by clear h1 h2 h3 hb; lia) (by lia) (by lia), on_mod (d := 1024 - 16 * (t - f) - 1) (-1) (by clear h1 h2 h3 hb; lia) (by lia) (by lia)⟩
  have m : ∀ (g d : Int), 0 ≤ d → d < 3 → _ := fun g d d0 d1 => low_mod (f := g) (b := b) (d := d) (Int.add_nonneg (Int.mul_nonneg (by decide) hb.1) d0) (by clear cy; lia)
  have m0 := m f 0 (by decide) (by decide)
  have m1 := m s 2 (by decide) (by decide)
  have m2 := m t 1 (by decide) (by decide)
  exact ⟨⟨m0.1, m1.1, m2.1⟩, ⟨m0.2, m1.2, m2.2⟩, cy⟩
theorem low_rng : ∀ i, i < 3 → ∀ j, j < 3 → 0 ≤ lowAt i j ∧ lowAt i j < 16 := by decide
noncomputable def lowInv (x : Int) : Nat × Nat := ((x / 3).toNat, if x % 3 = 0 then 0 else if x % 3 = 2 then 1 else 2)
theorem low_inv : ∀ i, i < 3 → ∀ j, j < 3 → lowInv (lowAt i j) = (i, j) := by decide
theorem lt3n : ∀ i, i < 3 → i = 0 ∨ i = 1 ∨ i = 2 := by decide
theorem hues_of {K : Nat → Nat → Int} (h0 : BoxHues 0 (K 0 0) (K 0 1) (K 0 2)) (h1 : BoxHues 1 (K 1 0) (K 1 1) (K 1 2)) (h2 : BoxHues 2 (K 2 0) (K 2 1) (K 2 2)) : HuesOk K := by
  obtain ⟨l0, b0, c0⟩ := low_of h0 (by decide)
  obtain ⟨l1, b1, c1⟩ := low_of h1 (by decide)
  obtain ⟨l2, b2, c2⟩ := low_of h2 (by decide)
  have row : ∀ i, i < 3 → (K i 0 % 16 = lowAt i 0 ∧ K i 1 % 16 = lowAt i 1 ∧ K i 2 % 16 = lowAt i 2) ∧ ((0 ≤ K i 0 ∧ K i 0 < 1024) ∧ (0 ≤ K i 1 ∧ K i 1 < 1024) ∧ (0 ≤ K i 2 ∧ K i 2 < 1024)) ∧ Cyc (K i 0) (K i 1) (K i 2) := fun i hi => by
    rcases lt3n i hi with rfl | rfl | rfl
    · exact ⟨l0, b0, c0⟩
    · exact ⟨l1, b1, c1⟩
    · exact ⟨l2, b2, c2⟩
  have cell : ∀ i j, i < 3 → j < 3 → K i j % 16 = lowAt i j ∧ 0 ≤ K i j ∧ K i j < 1024 := fun i j hi hj => by
    have r := row i hi
    rcases lt3n j hj with rfl | rfl | rfl
    · exact ⟨r.1.1, r.2.1.1⟩
    · exact ⟨r.1.2.1, r.2.1.2.1⟩
    · exact ⟨r.1.2.2, r.2.1.2.2⟩
  exact ⟨fun i j hi hj => (cell i j hi hj).2, fun i j i' j' hi hj hi' hj' hne => df_of (cell i j hi hj).1 (cell i' j' hi' hj').1 (low_rng i hi j hj) (low_rng i' hi' j' hj') fun e => hne ((low_inv i hi j hj).symm.trans ((congrArg lowInv e).trans (low_inv i' hi' j' hj'))), fun i hi => (row i hi).2.2⟩
section
variable {K : Nat → Nat → Int} (H : HuesOk K)
include H
theorem wd_iff {c : Nat} (hc : c < 27) : wdAt K c < 512 ↔ gAt K c = true := by
  rw [gAt_iff H hc]
  exact wid_lt (H.bd 0 _ (by decide) (by lia)) (H.bd 1 _ (by decide) (by lia)) (H.bd 2 _ (by decide) (by lia)) (H.d01 (by lia) (by lia)) (H.d12 (by lia) (by lia)) (H.d02 (by lia) (by lia))
theorem grey_g {c : Nat} (hc : c < 27) : greyAt K c = gAt K c := by
  rw [Bool.eq_iff_iff, gAt_iff H hc]
  unfold greyAt G3
  rw [grey_iff]
  have a := H.bd 0 (c / 9) (by decide) (by lia)
  have b := H.bd 1 (c / 3 % 3) (by decide) (by lia)
  have d := H.bd 2 (c % 3) (by decide) (by lia)
  rw [(cr_on b d).1, (cr_on d a).1, (cr_on a b).1, (cr_on b d).2, (cr_on d a).2, (cr_on a b).2]
end
theorem key_mod (K : Nat → Nat → Int) {c : Nat} (hc : c < 27) : keyAt K c % 27 = (c : Int) := by unfold keyAt; omega
theorem key_inj {K : Nat → Nat → Int} {a b : Nat} (ha : a < 27) (hb : b < 27) (h : keyAt K a = keyAt K b) : a = b := by
  have x := key_mod K ha
  have y := key_mod K hb
  rw [h] at x
  lia
theorem key_co (K : Nat → Nat → Int) {c : Nat} (hc : c < 27) : coK 0 (keyAt K c) = ((c / 9 : Nat) : Int) ∧ coK 1 (keyAt K c) = ((c / 3 % 3 : Nat) : Int) ∧ coK 2 (keyAt K c) = ((c % 3 : Nat) : Int) := by
  unfold coK keyAt
  refine ⟨?_, ?_, ?_⟩ <;> simp <;> lia
/-- what the tail of the law reads of the two lists -/
theorem tail_facts {K : Nat → Nat → Int} {f : List (Addr × Obj)} {hp l hp2 gr due : List It} (H : HuesOk K) (P : PC K f hp due 27) (hl : l.Perm hp) (Q : Popped l hp2 gr) (hbig : ∀ x ∈ hp2, 13824 ≤ x.2) :
    (gr.map (·.2)).Perm (due.map (·.2)) ∧ (due.map (·.2)).Nodup ∧ 5 ≤ gr.length ∧ gr.length ≤ 27 ∧ (∀ n j : Nat, n < 3 → j < 3 → ∃ x ∈ gr, coK n x.2 = (j : Int)) ∧ ∀ i j k : Nat, i < 2 → j < 2 → k < 2 → (gr.filter (outK i j k)).length % 2 = 0 := by
  have hdue : due.map (·.2) = (greys K).map (keyAt K) := by
    rw [P.2.1]; unfold greys
    congr 1
    exact List.filter_congr fun c hc => grey_g H (List.mem_range.mp hc)
  have hgr : (gr.map (·.2)).Perm ((greys K).map (keyAt K)) := by
    have h1 : ((gr ++ hp2).map (·.2)).Perm ((List.range 27).map (keyAt K)) := by
      rw [← P.1]; exact (Q.perm.trans hl).map _
    have h2 := h1.filter fun k => decide (k < 13824)
    rw [List.map_append, List.filter_append] at h2
    have e1 : (gr.map (·.2)).filter (fun k => decide (k < 13824)) = gr.map (·.2) := List.filter_eq_self.mpr fun k hk => by
      obtain ⟨x, hx, rfl⟩ := List.mem_map.mp hk
      exact decide_eq_true (Q.small x hx)
    have e2 : (hp2.map (·.2)).filter (fun k => decide (k < 13824)) = [] := List.filter_eq_nil_iff.mpr fun k hk => by
      obtain ⟨x, hx, rfl⟩ := List.mem_map.mp hk
      have := hbig x hx
      simp; lia
    have e3 : ((List.range 27).map (keyAt K)).filter (fun k => decide (k < 13824)) = (greys K).map (keyAt K) := by
      rw [List.filter_map]; unfold greys
      congr 1
      refine List.filter_congr fun c hc => ?_
      have hc := List.mem_range.mp hc
      rw [Bool.eq_iff_iff, ← wd_iff H hc, key_lt hc]
      simp
    rw [e1, e2, e3, List.append_nil] at h2
    exact h2
  have hm : ∀ c ∈ greys K, c < 27 := fun c hc => List.mem_range.mp (List.mem_filter.mp hc).1
  have hlen : gr.length = (greys K).length := by simpa using hgr.length_eq
  refine ⟨by rw [hdue]; exact hgr, ?_, by rw [hlen]; exact greys_five H, ?_, fun n j hn hj => ?_, fun i j k hi hj hk => ?_⟩
  · rw [hdue]
    unfold List.Nodup
    rw [List.pairwise_map]
    have hs : (greys K).Pairwise (· < ·) := List.Pairwise.filter _ List.pairwise_lt_range
    refine hs.imp_of_mem fun ha hb h e => ?_
    have := key_inj (hm _ ha) (hm _ hb) e
    lia
  · rw [hlen]; unfold greys
    exact Nat.le_trans (List.length_filter_le _ _) (by simp)
  · obtain ⟨c, hc, e⟩ := greys_cover H hn hj
    obtain ⟨x, hx, ex⟩ := List.mem_map.mp (hgr.mem_iff.mpr (List.mem_map.mpr ⟨c, hc, rfl⟩))
    refine ⟨x, hx, ?_⟩
    rw [ex]
    obtain ⟨a0, a1, a2⟩ := key_co K (hm c hc)
    rcases n with _ | _ | _ | n
    · simp at e; rw [a0]; lia
    · simp at e; rw [a1]; lia
    · simp at e; rw [a2]; lia
    · lia
  · have h1 : (gr.filter (outK i j k)).length = ((gr.map (·.2)).filter fun y => outK i j k (0, y)).length := by
      rw [List.filter_map, List.length_map]; rfl
    rw [h1, (hgr.filter _).length_eq, List.filter_map, List.length_map, ← greys_even H (i := i) (j := j) (k := k) (by lia) (by lia) (by lia)]
    congr 2
    refine List.filter_congr fun c hc => ?_
    obtain ⟨a0, a1, a2⟩ := key_co K (hm c hc)
    show outK i j k (0, keyAt K c) = out3 i j k c
    unfold outK out3
    dsimp only
    rw [a0, a1, a2]
    have z : ∀ a b : Nat, ((a : Int) != (b : Int)) = (a != b) := fun a b => by
      rw [Bool.eq_iff_iff, bne_iff_ne, bne_iff_ne]; lia
    rw [z, z, z]
end

section
theorem calm_J2 : True := by
  w_top off
  exact trivial
open PySem.W
noncomputable def stA0 : { x : Stmt // lawSt 0 = x } := ⟨_, by conv => lhs; whnf⟩
theorem law_enter {prog : Program} {w : World} {A : Around} {R : Result → Shared → Prop} {s : Shared} {name : Str} {params : Arguments} {body : List Stmt} {scope : Scope}
    {pm cd doc : Value} {a : Addr} {o : Obj} {args : List Value} {binds : List (Str × Value)}
    (hroom : A.depth < recursionLimit) (ho : s.heap.get? a = some o) (hdata : o.data = .func (Calls.docDef name params body scope pm cd doc)) (hlim : s.heap.NoLimit) (hcd : s.heap.CodeRec cd name)
    (hbind : bindArgs (Calls.docDef name params body scope pm cd doc) ⟨args, []⟩ = pure binds)
    (hkind : ∀ x ∈ binds, scope.names.lookup x.1 = some .local ∨ (scope.names.lookup x.1 = some .cell ∧ ((cellsFrom (s.heap.objs.size + 1) scope.names []).lookup x.1).isSome = true))
    (hnd : ((cellsFrom 0 scope.names []).map (·.1)).Nodup)
    (h : ∀ h₁ tk cells, s.toks ≤ tk → Fr s.heap s.heap.objs.size h₁ (bindL (envOfC name scope s.heap.objs.size a cd).kindOf binds fun _ => none) → News s.heap s.heap.objs.size h₁ cells →
      CellsAre (bindC (envOfC name scope s.heap.objs.size a cd).kindOf binds fun _ => none) (cellsFrom (s.heap.objs.size + 1) scope.names []) cells →
      wpAny (model prog w) (A.deeper (envOfC name scope s.heap.objs.size a cd)) (execs body (envOfC name scope s.heap.objs.size a cd))
        (fun f s' => R (.ok (.ret (match f with | .ret v => v | _ => .none))) s') (fun _ _ => False) { s with heap := h₁, toks := tk })
    (hco : scope.isCoroutine = false := by rfl) (hgen : scope.isGenerator = false := by rfl) (hk : scope.kind = .function := by rfl) :
    codeAny (model prog w) A (.call (.ref a) ⟨args, []⟩) R s := by
  refine codeAny_call_function (fd := Calls.docDef name params body scope pm cd doc) (body := body) hroom ho hdata hco hgen rfl hcd ?_
  rw [hbind]
  refine wpAny_pure (with_toks (wpAny_newFunctionEnv_cells hk hkind fun env' he s' x hle => ?_))
  subst he
  refine ⟨hlim.keeps x.toInCall.keep, codeAny_func ?_⟩
  obtain ⟨h₁, tk, rfl, _⟩ := x.done
  obtain ⟨cells, NC, Y⟩ := Cl.news (h₀ := s.heap) (Nat.le_refl _) fun n c hm => ⟨x.cell n c (lookup_of_mem_nodup (cellsFrom_names scope.names 0 (s.heap.objs.size + 1) [] [] rfl ▸ hnd) hm), x.above n c hm⟩
  exact wpAny_mono (h h₁ tk cells hle ⟨x.toInCall.ns, x.toInCall.keep, x.toInCall.fresh⟩ NC Y) (fun _ _ y => y) fun _ _ y => y.elim
theorem cells_addr {cm : Str → Option Value} {cl : List (Str × Addr)} {cells : List (Addr × Obj)} (Y : CellsAre cm cl cells) : cells.map (·.1) = cl.map (·.2) := by
  induction Y with
  | nil => rfl
  | cons _ _ ih => simp [ih]
theorem cells_nd {cm : Str → Option Value} {L : Addr} {cells : List (Addr × Obj)} (Y : CellsAre cm (lawCl L) cells) : NDup cells := by
  unfold NDup
  rw [cells_addr Y]
  have : ∀ a : Nat, [a + 10, a + 9, a + 8, a + 7, a + 6, a + 5, a + 4, a + 3, a + 2, a + 1, a].Nodup := fun a => by simp
  exact this (L + 1)
theorem RowsTo.up {K : Nat → Nat → Int} {f f' : List (Addr × Obj)} {i : Nat} {ys : List Value} (h : RowsTo K f i ys) (hs : ∀ p ∈ f, p ∈ f') : RowsTo K f' i ys := by
  refine ⟨h.1, fun b hb => ?_⟩
  obtain ⟨Rb, n, t0, t1, t2, e, hm⟩ := h.2 b hb
  exact ⟨Rb, n, t0, t1, t2, e, hs _ hm⟩
theorem InT.up {K : Nat → Nat → Int} {f f' : List (Addr × Obj)} {x : It} (h : InT K f x) (hs : ∀ p ∈ f, p ∈ f') : InT K f' x := by
  obtain ⟨c, t0, t1, t2, t3, a, b, m⟩ := h
  exact ⟨c, t0, t1, t2, t3, a, b, hs _ m⟩
theorem lawB_eq : lawB0 = [stA0.1, stA.1, stB2.1, stB3.1, stB4.1, stB5.1, stC6.1, stC7.1, stC8.1, stD9.1, stD10.1, stD11.1, stE12.1, stE13.1, stE14.1, stE15.1] := by
  rw [← stA0.2, ← stA.2, ← stB2.2, ← stB3.2, ← stB4.2, ← stB5.2, ← stC6.2, ← stC7.2, ← stC8.2, ← stD9.2, ← stD10.2, ← stD11.2, ← stE12.2, ← stE13.2, ← stE14.2, ← stE15.2]
  rfl
theorem phA0 
    (B : Below A₀ base outer g) (X : (nk.heap_1 w.params).In g) (T : Top p loose mean mg mb g) (hd : dp + 8 < recursionLimit) (hu : un + 128 < cLine)
    {m : Str → Option Value} {scr : Addr} {cells frz : List (Addr × Obj)} {s : Shared} {R : Flow → Shared → Prop}
    (F : Fr g L s.heap m) (hm : AtL m [("script", .ref scr)]) (N : News g L s.heap (cells ++ frz)) (D : NDup (cells ++ frz))
    (done : ∀ h' tk m' bo n, Fr g L h' m' → AtL m' [("script", .ref scr), ("boxes", .ref bo)] → News g L h' ((bo, listOf #[] n) :: (cells ++ frz)) → NDup ((bo, listOf #[] n) :: (cells ++ frz)) → R .next { s with heap := h', toks := tk }) :
    wpAny (MM w) ((TopA dp un gd outer).deeper (lawEnv L fa cd)) (exec stA0.1 (lawEnv L fa cd)) R (fun _ _ => False) s := by
  rw [← kst_at hm] at F
  unfold stA0
  dsimp only
  k_steps
  rename Fr _ _ _ _ => F9
  rename News _ _ _ _ => N9
  rename NDup _ => D9
  exact done _ _ _ _ _ F9 ⟨rfl, rfl, trivial⟩ N9 D9
end

section
theorem calm_J3 : True := by
  w_top off
  exact trivial
open PySem.W
theorem law_body 
    (B : Below A₀ base outer g) (X : (nk.heap_1 w.params).In g) (T : Top p loose mean mg mb g) (hd : dp + 8 < recursionLimit) (hu : un + 128 < cLine)
    {m cm : Str → Option Value} {scr : Addr} {vs : List Value} {ns : List Int} {cells : List (Addr × Obj)} {s : Shared} {R : Flow → Shared → Prop}
    (hscr : g.IsList scr vs.toArray) (hns : IntsAre vs ns) (hvl : vs.length ≤ 63)
    (F : Fr g L s.heap m) (hm : AtL m [("script", .ref scr)]) (N : News g L s.heap cells) (Y : CellsAre cm (lawCl L) cells) (htk : 0 < s.toks)
    (done : ∀ h' tk, (∀ b o, g.get? b = some o → h'.get? b = some o) → R (.ret (.bool true)) { s with heap := h', toks := tk }) :
    wpAny (MM w) ((TopA dp un gd outer).deeper (lawEnv L fa cd)) (execs lawB0 (lawEnv L fa cd)) R (fun _ _ => False) s := by
  have hu6 : un + 64 < cLine := by omega
  have D := cells_nd Y
  rw [show cells = cells ++ [] from (List.append_nil _).symm] at N D
  rw [lawB_eq]
  -- boxes = []
  refine wpAny_execs_cons (with_toks (phA0 B X T hd hu F hm N D ?_))
  clear F hm N D
  intro h1 k1 m1 bo nb F hm N D ht
  have htk : 0 < k1 := Nat.lt_of_lt_of_le htk ht
  clear ht
  dsimp only
  -- the boxes
  refine wpAny_execs_cons (with_toks (phA B X T hd hu6 hscr hns hvl F hm N D Y ?_))
  clear F hm N D Y
  intro h1 k1 m1 cm cells acc bs nbs K F hm N D Y hB ht
  have htk : 0 < k1 := Nat.lt_of_lt_of_le htk ht
  clear ht
  dsimp only
  obtain ⟨N, D⟩ := refreeze (cells := cells) (frz := acc ++ []) (keep := []) (tmp := [(bo, listOf bs nbs)]) (.cons .nil) (.tmp .nil) N D
  dsimp only [List.nil_append] at N D
  have HK : HuesOk K := by
    obtain ⟨v0, v1, v2, _, _, _, _, b0, b1, b2⟩ := hB
    exact hues_of b0 b1 b2
  have hB1 : Boxes ([(bo, listOf bs nbs)] ++ (acc ++ [])) bs K := hB.mono fun q hq => List.mem_append_right _ (List.mem_append_left _ hq)
  have hbo : (bo, listOf bs nbs) ∈ [(bo, listOf bs nbs)] ++ (acc ++ []) := .head _
  revert N D hB1 hbo
  generalize [(bo, listOf bs nbs)] ++ (acc ++ []) = f1
  intro N D hB1 hbo
  clear hB
  -- told
  refine wpAny_execs_cons (with_toks (phB2 B X T hd hu6 F hm N D Y ?_))
  clear F hm N D Y
  intro h1 k1 m1 cm cells tmp x dx hl u n F hm N D Y hcm hx hdx ht
  have htk : 0 < k1 := Nat.lt_of_lt_of_le htk ht
  clear ht
  dsimp only
  have hB2 : Boxes (tmp ++ f1) bs K := hB1.mono fun q hq => List.mem_append_right _ hq
  have hbo2 : (bo, listOf bs nbs) ∈ tmp ++ f1 := List.mem_append_right _ hbo
  have hx2 : (x, instObj 231 dx) ∈ tmp ++ f1 := List.mem_append_left _ hx
  have hdx2 : (dx, dictOf (hdrEs w u hl) 1) ∈ tmp ++ f1 := List.mem_append_left _ hdx
  clear hB1 hbo hx hdx
  generalize tmp ++ f1 = f2 at N D hB2 hbo2 hx2 hdx2
  -- add_header
  refine wpAny_execs_cons (with_toks (phB3 B X T hd hu6 hbo2 hB2 hx2 hdx2 F hm N D Y hcm ?_))
  clear F hm N D Y hcm
  intro h1 k1 m1 cm cells tmp hs n F hm N D Y hcm hok ht
  have htk : 0 < k1 := Nat.lt_of_lt_of_le htk ht
  clear ht
  dsimp only
  obtain ⟨N, D⟩ := refreeze (cells := cells) (frz := tmp ++ f2) (keep := []) (tmp := [(hl, listOf (itsOf hs) n)]) (.cons .nil) (.tmp .nil) N D
  dsimp only [List.nil_append] at N D
  have up : ∀ q ∈ f2, q ∈ [(hl, listOf (itsOf hs) n)] ++ (tmp ++ f2) := fun q hq => List.mem_append_right _ (List.mem_append_right _ hq)
  have hB3 := hB2.mono up
  have hbo3 := up _ hbo2
  have hx3 := up _ hx2
  have hdx3 := up _ hdx2
  have hhl : (hl, listOf (itsOf hs) n) ∈ [(hl, listOf (itsOf hs) n)] ++ (tmp ++ f2) := .head _
  have htf : ∀ q ∈ tmp, q ∈ [(hl, listOf (itsOf hs) n)] ++ (tmp ++ f2) := fun q hq => List.mem_append_right _ (List.mem_append_left _ hq)
  clear hB2 hbo2 hx2 hdx2 up
  generalize [(hl, listOf (itsOf hs) n)] ++ (tmp ++ f2) = f3 at N D hB3 hbo3 hx3 hdx3 hhl htf
  -- hues
  refine wpAny_execs_cons (with_toks (phB4 B X T hd hu6 (fun i j hi hj => HK.bd i j hi hj) hx3 hdx3 hhl hok htf F hm htk N D Y hcm ?_))
  clear F hm N D
  intro h1 k1 m1 tmp H ys nH F hm N D hR ht
  have htk : 0 < k1 := Nat.lt_of_lt_of_le htk ht
  clear ht
  dsimp only
  obtain ⟨N, D⟩ := refreeze (cells := cells) (frz := tmp ++ f3) (keep := []) (tmp := [(H, listOf ys.toArray nH)]) (.cons .nil) (.tmp .nil) N D
  dsimp only [List.nil_append] at N D
  have up : ∀ q ∈ f3, q ∈ [(H, listOf ys.toArray nH)] ++ (tmp ++ f3) := fun q hq => List.mem_append_right _ (List.mem_append_right _ hq)
  have hB4 := hB3.mono up
  have hbo4 := up _ hbo3
  have hH : (H, listOf ys.toArray nH) ∈ [(H, listOf ys.toArray nH)] ++ (tmp ++ f3) := .head _
  have hR4 : RowsTo K ([(H, listOf ys.toArray nH)] ++ (tmp ++ f3)) 3 ys := hR.up fun q hq => List.mem_append_right _ (List.mem_append_left _ hq)
  clear hB3 hbo3 hx3 hdx3 hhl htf up hok hR hcm
  generalize [(H, listOf ys.toArray nH)] ++ (tmp ++ f3) = f4 at N D hB4 hbo4 hH hR4
  -- the opposites
  refine wpAny_execs_cons (phB5 B X T hd hu hH hR4 (fun q hq => hq) F hm N D Y ?_)
  clear F hm N D
  intro h1 k1 m1 tmp F hm N D
  dsimp only
  have hrows : Rows (tmp ++ f4) bo H K := (rows_of hB4 hbo4 hR4 hH).mono fun q hq => List.mem_append_right _ hq
  clear hB4 hbo4 hH hR4
  generalize tmp ++ f4 = f5 at N D hrows
  -- heap, due
  refine wpAny_execs_cons (phC6 B X T hd hu F hm N D ?_)
  clear F hm N D
  intro h1 k1 m1 hpA nh F hm N D
  dsimp only
  refine wpAny_execs_cons (phC7 B X T hd hu F hm N D ?_)
  clear F hm N D
  intro h1 k1 m1 duA nd F hm N D
  dsimp only
  -- the 27
  refine wpAny_execs_cons (phC8 B X T hd hu hrows F hm N D Y ?_)
  clear F hm N D Y
  intro h1 k1 m1 cm cells tmp hp due nh' nd' F hm N D Y P
  dsimp only
  obtain ⟨N, D⟩ := refreeze (cells := cells) (frz := tmp ++ f5) (keep := [(hpA, listOf (vls hp).toArray nh')]) (tmp := [(duA, listOf (vls due).toArray nd')]) (.cons (.cons .nil)) (.keep (.tmp .nil)) N D
  have hdu : (duA, listOf (vls due).toArray nd') ∈ [(duA, listOf (vls due).toArray nd')] ++ (tmp ++ f5) := .head _
  have up : ∀ q ∈ tmp, q ∈ [(duA, listOf (vls due).toArray nd')] ++ (tmp ++ f5) := fun q hq => List.mem_append_right _ (List.mem_append_left _ hq)
  have hit : ∀ q ∈ hp, InT K ([(duA, listOf (vls due).toArray nd')] ++ (tmp ++ f5)) q := fun q hq => (P.2.2.1 q hq).up up
  have hitd : ∀ q ∈ due, InT K ([(duA, listOf (vls due).toArray nd')] ++ (tmp ++ f5)) q := fun q hq => (P.2.2.2 q hq).up up
  clear up hrows
  generalize [(duA, listOf (vls due).toArray nd')] ++ (tmp ++ f5) = f6 at N D hdu hit hitd
  -- heapify
  refine wpAny_execs_cons (phD9 B X T hd hu P.len.1 hit F ⟨hm.2.2.1, hm.2.2.2.1, trivial⟩ N D ?_)
  clear F hm N D
  intro h1 k1 m1 l n F hm N D hperm hheap
  dsimp only
  have hl27 : l.length = 27 := by rw [hperm.length_eq]; exact P.len.1
  have hitl : ∀ q ∈ l, InT K f6 q := fun q hq => hit q (hperm.mem_iff.mp hq)
  -- greys
  refine wpAny_execs_cons (phD10 B X T hd hu F hm N D ?_)
  clear F hm N D
  intro h1 k1 m1 grA ng F hm N D
  dsimp only
  refine wpAny_execs_cons (phD11 B X T hd hu hl27 hitl hheap F hm N D ?_)
  clear F hm N D
  intro h1 k1 m1 hp2 gr n2 ng2 F hm N D Q hbig
  dsimp only
  obtain ⟨e1, e2, e3, e4, e5, e6⟩ := tail_facts HK P hperm Q hbig
  obtain ⟨N, D⟩ := refreeze (cells := cells) (frz := f6) (keep := []) (tmp := [(hpA, listOf (vls hp2).toArray n2), (grA, listOf (vls gr).toArray ng2)]) (.cons (.cons .nil)) (.tmp (.tmp .nil)) N D
  dsimp only [List.nil_append] at N D
  have up : ∀ q ∈ f6, q ∈ [(hpA, listOf (vls hp2).toArray n2), (grA, listOf (vls gr).toArray ng2)] ++ f6 := fun q hq => List.mem_append_right _ hq
  have hg : (grA, listOf (vls gr).toArray ng2) ∈ [(hpA, listOf (vls hp2).toArray n2), (grA, listOf (vls gr).toArray ng2)] ++ f6 := .tail _ (.head _)
  have hdu' := up _ hdu
  have tg : ∀ q ∈ gr, T4 ([(hpA, listOf (vls hp2).toArray n2), (grA, listOf (vls gr).toArray ng2)] ++ f6) q := fun q hq => (T4.of (hitl q (Q.perm.mem_iff.mp (List.mem_append.mpr (.inl hq))))).mono up
  have td : ∀ q ∈ due, T4 ([(hpA, listOf (vls hp2).toArray n2), (grA, listOf (vls gr).toArray ng2)] ++ f6) q := fun q hq => (T4.of (hitd q hq)).mono up
  have hsorted := Q.sorted
  clear up hit hitd hitl hdu P Q hbig
  generalize [(hpA, listOf (vls hp2).toArray n2), (grA, listOf (vls gr).toArray ng2)] ++ f6 = f7 at N D hg hdu' tg td
  -- the tail
  refine wpAny_execs_cons (phE12 B X T hd hu e3 e4 hg F ⟨hm.2.1, hm.2.2.1, trivial⟩ N D ?_)
  clear F hm N
  intro h1 k1 m1 F hm N
  dsimp only
  refine wpAny_execs_cons (phE13 B X T hd hu e4 tg e5 hg F hm N D Y ?_)
  clear F hm N D Y
  intro h1 k1 m1 cm cells tmp F hm N D Y
  dsimp only
  have up : ∀ q ∈ f7, q ∈ tmp ++ f7 := fun q hq => List.mem_append_right _ hq
  replace tg := fun q hq => (tg q hq).mono up
  replace td := fun q hq => (td q hq).mono up
  replace hg := up _ hg
  replace hdu' := up _ hdu'
  clear up
  generalize tmp ++ f7 = f8 at N D hg hdu' tg td
  refine wpAny_execs_cons (phE14 B X T hd hu e4 tg e6 hg F hm N D Y ?_)
  clear F hm N D Y
  intro h1 k1 m1 cm cells tmp F hm N D Y
  dsimp only
  have up : ∀ q ∈ f8, q ∈ tmp ++ f8 := fun q hq => List.mem_append_right _ hq
  replace tg := fun q hq => (tg q hq).mono up
  replace td := fun q hq => (td q hq).mono up
  replace hg := up _ hg
  replace hdu' := up _ hdu'
  clear up
  generalize tmp ++ f8 = f9 at N D hg hdu' tg td
  refine wpAny_execs_cons (phE15 B X T hd hu e3 e4 hg hdu' tg td e1 e2 hsorted F hm N D ?_)
  intro h2 k2 hk
  exact done h2 k2 hk
theorem law_at : LC.S LC.w LC.p LC.loose LC.mean LC.mg LC.mb LC.dp LC.un LC.gd LC.outer LC.A₀ LC.base LC.g LC.L LC.fa LC.cd :=
  fun B X T hd hu _ _ _ _ _ _ _ _ hscr hns hvl F hm N Y htk done => law_body B X T hd hu hscr hns hvl F hm N Y htk done
theorem law_body_all {w : World} {p : Program} {loose : List Str} {mean : ExcName → Option Value} {mg mb : Str → Option Value} {dp un : Nat} {gd : Option (List Code)} {outer : List Env} {A₀ : Around} {base g : Heap} {L fa : Addr} {cd : Value}
    (B : Below A₀ base outer g) (X : (nk.heap_1 w.params).In g) (T : Top p loose mean mg mb g) (hd : dp + 8 < recursionLimit) (hu : un + 128 < cLine)
    {m cm : Str → Option Value} {scr : Addr} {vs : List Value} {ns : List Int} {cells : List (Addr × Obj)} {s : Shared} {R : Flow → Shared → Prop}
    (hscr : g.IsList scr vs.toArray) (hns : IntsAre vs ns) (hvl : vs.length ≤ 63)
    (F : Fr g L s.heap m) (hm : AtL m [("script", .ref scr)]) (N : News g L s.heap cells) (Y : CellsAre cm (lawCl L) cells) (htk : 0 < s.toks)
    (done : ∀ h' tk, (∀ b o, g.get? b = some o → h'.get? b = some o) → R (.ret (.bool true)) { s with heap := h', toks := tk }) :
    wpAny (MM w) ((TopA dp un gd outer).deeper (lawEnv L fa cd)) (execs lawB0 (lawEnv L fa cd)) R (fun _ _ => False) s :=
  LC.all law_at w p loose mean mg mb dp un gd outer A₀ base g L fa cd B X T hd hu hscr hns hvl F hm N Y htk done
end

section
theorem calm_J4 : True := by
  w_top off
  exact trivial
open PySem.W.X PySem.W.ZRun
set_option maxHeartbeats 8000000 in
theorem law_holds : PySem.Challenge.rw_pg0288_01.Holds := by
  refine hd ?_
  intro w s₀ s₁ mg mb G y fa o pm cd doc dV kV ho hd hcd hD hmg hg args vals as L hpre hlay hrd hwl hlo
  have ZF := z_facts (fun P => by kernel_rfl) y
  refine Ground.open G ?_
  intro T B D TE TW
  wrow_args hpre hlay hrd hwl hlo
  have X : (nk.heap_1 w.params).In s₁.heap := (nk_in ((InK.keeps w s₀.heap s₁.heap ZF.2.1 (Laid.keeps L))))
  have htk := script_toks L ZF.2.2.2
  first | refine callC_kw (enter_call ?_) | refine enter_call ?_
  w_top on
  have K0 := below_caller s₁.heap
  have he := Dflts.none hD rfl; subst he
  have he := Dflts.noKw hD; subst he
  refine law_enter (by decide) ho (fd_plain hd) (Top.nolimit T) hcd rfl (kinds_of (by kinds_ok)) (by decide) fun h₁ tk₁ cells hle F N0 X0 => ?_
  clear hd hcd hD
  rename IntsAre _ _ => hI
  rename Heap.IsList _ _ _ => hL
  rename ¬ _ => hc
  have hlen := hI.length
  have pos : 0 < tk₁ := Nat.lt_of_lt_of_le (by decide) (Nat.le_trans htk hle)
  refine law_body_all (dp := 1 + claimMargin) (un := 4) (gd := some []) (outer := []) (fa := fa) (cd := cd) (s := { s₁ with heap := h₁, toks := tk₁ }) K0 X T (by decide) (by decide) hL hI (by omega) F ⟨rfl, trivial⟩ N0 X0 pos fun h' tk keep => ?_
  exact ⟨.inl ⟨.bool true, .bool true, [], rfl, fun _ => rfl, .bool _, by first | with_unfolding_all rfl | kernel_rfl, fun _ => ⟨.nil, fun _ h => nomatch h⟩⟩, .of_keep keep, rfl, .of_eq hg⟩
end

end
end Mine
end

theorem words_36 : True := by
  k_with_none
  exact trivial
theorem PySem.Challenge.cw_pg0288_01_holds : PySem.Challenge.rw_pg0288_01.Holds :=
  Mine.law_holds
