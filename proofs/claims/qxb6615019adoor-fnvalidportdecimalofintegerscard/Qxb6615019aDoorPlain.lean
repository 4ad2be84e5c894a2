/-
  THE PLAIN LAW: what ParseUint at 16 bits answers at a decimal numeral, and at one behind zeros. No Go in sight.
-/
import Derived.Lib.ItoaNum
import Derived.Lib.ParseIntB
namespace Go.Proofs.Qxb6615019aDoor
open Go

/-- What ValidPort answers at the bytes l. -/
def vp (l : List UInt8) : Bool :=
  match Lib.parseUintB 16 l with
  | .ok u => u != 0
  | _ => false

theorem vp_ok {l : List UInt8} {u : Nat} (h : Lib.parseUintB 16 l = .ok u) : vp l = (u != 0) := by unfold vp; rw [h]
theorem vp_fail {l : List UInt8} (h : ∀ u, Lib.parseUintB 16 l ≠ .ok u) : vp l = false := by
  unfold vp
  rcases hq : Lib.parseUintB 16 l with u | _ | _
  · exact absurd hq (h u)
  · rfl
  · rfl

theorem parse_snoc (M : Nat) : ∀ (l : List UInt8) (acc : Nat) (c : UInt8), 48 ≤ c.toNat → c.toNat ≤ 57 → ∀ v, Lib.parseUintM M acc l = .ok v →
    Lib.parseUintM M acc (l ++ [c]) = if 1844674407370955162 ≤ v then .range else if M < v * 10 + (c.toNat - 48) then .range else .ok (v * 10 + (c.toNat - 48))
  | [], acc, c, h1, h2, v, h => by
    simp only [Lib.parseUintM] at h
    cases h
    simp only [List.nil_append, Lib.parseUintM]
    rw [if_pos ⟨h1, h2⟩]
  | d :: r, acc, c, h1, h2, v, h => by
    rw [Lib.parseUintM] at h
    rw [List.cons_append, Lib.parseUintM]
    by_cases hd : 48 ≤ d.toNat ∧ d.toNat ≤ 57
    · rw [if_pos hd] at h ⊢
      by_cases hb : 1844674407370955162 ≤ acc
      · rw [if_pos hb] at h; cases h
      · rw [if_neg hb] at h ⊢
        by_cases hm : M < acc * 10 + (d.toNat - 48)
        · rw [if_pos hm] at h; cases h
        · rw [if_neg hm] at h ⊢
          exact parse_snoc M r _ c h1 h2 v h
    · rw [if_neg hd] at h; cases h

theorem parse_snoc_range (M : Nat) : ∀ (l : List UInt8) (acc : Nat) (c : UInt8), Lib.parseUintM M acc l = .range → Lib.parseUintM M acc (l ++ [c]) = .range
  | [], acc, c, h => by simp only [Lib.parseUintM] at h; cases h
  | d :: r, acc, c, h => by
    rw [Lib.parseUintM] at h
    rw [List.cons_append, Lib.parseUintM]
    by_cases hd : 48 ≤ d.toNat ∧ d.toNat ≤ 57
    · rw [if_pos hd] at h ⊢
      by_cases hb : 1844674407370955162 ≤ acc
      · rw [if_pos hb]
      · rw [if_neg hb] at h ⊢
        by_cases hm : M < acc * 10 + (d.toNat - 48)
        · rw [if_pos hm]
        · rw [if_neg hm] at h ⊢
          exact parse_snoc_range M r _ c h
    · rw [if_neg hd] at h; cases h

theorem digit_toNat (d : Nat) (h : d < 10) : (UInt8.ofNat (48 + d)).toNat = 48 + d := by
  rw [UInt8.toNat_ofNat']
  omega

/-- A numeral's digits read back: the number, where 16 bits hold it. -/
theorem parse_dec (u : Nat) : Lib.parseUintM 65535 0 (Lib.decDigits u) = if u ≤ 65535 then .ok u else .range := by
  induction u using Nat.strongRecOn with
  | _ u ih =>
    by_cases h : u < 10
    · rw [Lib.decDigits_one h, if_pos (by omega)]
      have e := digit_toNat u h
      simp only [Lib.parseUintM]
      rw [e, if_pos (by omega), if_neg (by omega), if_neg (by omega)]
      congr 1
      omega
    · rw [Lib.decDigits, dif_neg h]
      have e := digit_toNat (u % 10) (by omega)
      have ih' := ih (u / 10) (by omega)
      by_cases hm : u / 10 ≤ 65535
      · rw [if_pos hm] at ih'
        rw [parse_snoc 65535 _ 0 _ (by omega) (by omega) _ ih', e, if_neg (by omega)]
        by_cases hu : u ≤ 65535
        · rw [if_neg (by omega), if_pos hu]
          congr 1
          omega
        · rw [if_pos (by omega), if_neg hu]
      · rw [if_neg hm] at ih'
        rw [parse_snoc_range 65535 _ 0 _ ih', if_neg (by omega)]

theorem decDigits_ne (u : Nat) : Lib.decDigits u ≠ [] := by
  rw [Lib.decDigits]
  split
  · simp
  · simp

/-- Zeros ahead change nothing. -/
theorem parse_zeros (M : Nat) (l : List UInt8) : ∀ z, Lib.parseUintM M 0 (List.replicate z 48 ++ l) = Lib.parseUintM M 0 l
  | 0 => rfl
  | z + 1 => by
    rw [List.replicate_succ, List.cons_append, Lib.parseUintM]
    have e : (48 : UInt8).toNat = 48 := rfl
    rw [e, if_pos (by omega), if_neg (by omega), if_neg (by omega)]
    exact parse_zeros M l z

theorem itoa_ne (n : Int) : Lib.itoa n ≠ [] := by
  unfold Lib.itoa
  split
  · simp
  · exact decDigits_ne _

theorem parse_itoa (z : Nat) (n : Int) : Lib.parseUintB 16 (List.replicate z 48 ++ Lib.itoa n) = Lib.parseUintM 65535 0 (Lib.itoa n) := by
  unfold Lib.parseUintB
  rw [if_neg (by intro h; exact itoa_ne n (List.append_eq_nil_iff.1 h).2)]
  exact parse_zeros 65535 _ z

/-- THE LAW: the decimal of n, behind however many zeros, is a port just where 1 ≤ n ≤ 65535. -/
theorem vp_itoa (z : Nat) (n : Int) : vp (List.replicate z 48 ++ Lib.itoa n) = (decide (1 ≤ n) && decide (n ≤ 65535)) := by
  have hp := parse_itoa z n
  by_cases hneg : n < 0
  · have e : Lib.itoa n = 45 :: Lib.decDigits n.natAbs := by unfold Lib.itoa; rw [if_pos hneg]
    have hs : ∀ u, Lib.parseUintB 16 (List.replicate z 48 ++ Lib.itoa n) ≠ .ok u := by
      intro u
      rw [hp, e, Lib.parseUintM]
      have e45 : (45 : UInt8).toNat = 45 := rfl
      rw [e45, if_neg (by omega)]
      intro h
      cases h
    rw [vp_fail hs]
    have : ¬ 1 ≤ n := by omega
    simp [this]
  · have e : Lib.itoa n = Lib.decDigits n.toNat := by unfold Lib.itoa; rw [if_neg hneg]
    rw [e] at hp
    rw [parse_dec] at hp
    by_cases hm : n.toNat ≤ 65535
    · rw [if_pos hm] at hp
      rw [← e] at hp
      rw [vp_ok hp]
      have h2 : n ≤ 65535 := by omega
      simp only [h2, decide_true, Bool.and_true]
      by_cases h0 : n.toNat = 0
      · have : ¬ 1 ≤ n := by omega
        simp [h0, this]
      · have : 1 ≤ n := by omega
        simp [h0, this]
    · rw [if_neg hm] at hp
      rw [← e] at hp
      have hs : ∀ u, Lib.parseUintB 16 (List.replicate z 48 ++ Lib.itoa n) ≠ .ok u := by
        intro u h
        rw [hp] at h
        cases h
      rw [vp_fail hs]
      have : ¬ n ≤ 65535 := by omega
      simp [this]

theorem nDigits_le20 (u : Nat) (h : u < 18446744073709551616) : Lib.nDigits u ≤ 20 := by
  have key : ∀ (f u : Nat), u < 10 ^ (f + 1) → Lib.nDigits u ≤ f + 1 := by
    intro f
    induction f with
    | zero => intro u hu; rw [Lib.nDigits_small (by omega)]; exact Nat.le_refl _
    | succ f ih =>
      intro u hu
      by_cases hs : u < 10
      · rw [Lib.nDigits_small hs]; omega
      · rw [Lib.nDigits_big hs]
        have := ih (u / 10) (by rw [Nat.pow_succ] at hu; omega)
        omega
  exact key 19 u (by omega)

theorem itoa_length (n : Int) (h0 : -9223372036854775808 ≤ n) (h1 : n ≤ 9223372036854775807) : (Lib.itoa n).length ≤ 21 := by
  unfold Lib.itoa
  split
  · rw [List.length_cons, Lib.decDigits_length]
    have := nDigits_le20 n.natAbs (by omega)
    omega
  · rw [Lib.decDigits_length]
    have := nDigits_le20 n.toNat (by omega)
    omega
end Go.Proofs.Qxb6615019aDoor
