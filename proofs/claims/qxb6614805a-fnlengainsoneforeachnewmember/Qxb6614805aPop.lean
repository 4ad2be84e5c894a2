import Derived.Laws.BitsAllLaws
import Derived.Laws.ShiftsVarLaws
namespace Go.Proofs.Qxb6614805a.Pc
def pop : Nat → Nat → Nat
  | 0, _ => 0
  | n + 1, x => x % 2 + pop n (x / 2)

def rep (c : Nat) : Nat → Nat
  | 0 => 0
  | k + 1 => c + 256 * rep c k

theorem and_split (a c m : Nat) (hc : c < 256) : a &&& (c + 256 * m) = (a % 256 &&& c) + 256 * (a / 256 &&& m) := by
  have h1 : (a &&& (c + 256 * m)) % 2 ^ 8 = (a % 2 ^ 8) &&& ((c + 256 * m) % 2 ^ 8) := Nat.and_mod_two_pow
  have h2 : (a &&& (c + 256 * m)) / 2 ^ 8 = (a / 2 ^ 8) &&& ((c + 256 * m) / 2 ^ 8) := Nat.and_div_two_pow
  have e1 : (c + 256 * m) % 2 ^ 8 = c := by omega
  have e2 : (c + 256 * m) / 2 ^ 8 = m := by omega
  rw [e1] at h1
  rw [e2] at h2
  have h3 := Nat.div_add_mod (a &&& (c + 256 * m)) (2 ^ 8)
  simp only [show (2 : Nat) ^ 8 = 256 from rfl] at h1 h2 h3
  omega

def T1 (m x : Nat) : Nat := (x / 2 &&& m) + (x &&& m)
def T2 (m x : Nat) : Nat := (x / 4 &&& m) + (x &&& m)
def cc (b : Nat) : Nat := T2 51 (T1 85 b)

theorem d1 : ∀ y : Fin 512, (y.val / 2 &&& 85) = (y.val % 256 / 2 &&& 85) := by decide +kernel
theorem d2 : ∀ y : Fin 1024, (y.val / 4 % 256 &&& 51) = (y.val % 256 / 4 &&& 51) := by decide +kernel
theorem d3 : ∀ y : Fin 256, T1 85 y.val < 256 := by decide +kernel
theorem d4 : ∀ y : Fin 256, cc y.val % 16 ≤ 4 ∧ cc y.val / 16 ≤ 4 ∧ cc y.val % 16 + cc y.val / 16 = pop 8 y.val := by decide +kernel
theorem d5 : ∀ y : Fin 256, pop 8 y.val ≤ 8 := by decide +kernel

theorem T1_split (m x : Nat) : T1 (85 + 256 * m) x = T1 85 (x % 256) + 256 * T1 m (x / 256) := by
  unfold T1
  rw [and_split _ _ _ (by decide), and_split _ _ _ (by decide)]
  have h := d1 ⟨x % 512, by omega⟩
  simp only at h
  have e1 : x / 2 % 256 = x % 512 / 2 := by omega
  have e2 : x % 512 % 256 = x % 256 := by omega
  have e3 : x / 2 / 256 = x / 256 / 2 := by omega
  rw [e1, h, e2, e3]
  omega

theorem T2_split (m x : Nat) : T2 (51 + 256 * m) x = T2 51 (x % 256) + 256 * T2 m (x / 256) := by
  unfold T2
  rw [and_split _ _ _ (by decide), and_split _ _ _ (by decide)]
  have h := d2 ⟨x % 1024, by omega⟩
  simp only at h
  have e1 : x / 4 % 256 = x % 1024 / 4 % 256 := by omega
  have e2 : x % 1024 % 256 = x % 256 := by omega
  have e3 : x / 4 / 256 = x / 256 / 4 := by omega
  rw [e1, h, e2, e3]
  omega

def C (k x : Nat) : Nat := T2 (rep 51 k) (T1 (rep 85 k) x)

theorem C_zero (x : Nat) : C 0 x = 0 := by simp [C, T2, rep]

theorem C_succ (k x : Nat) : C (k + 1) x = cc (x % 256) + 256 * C k (x / 256) := by
  unfold C
  simp only [rep]
  rw [T1_split, T2_split]
  have h := d3 ⟨x % 256, by omega⟩
  simp only at h
  have e1 : (T1 85 (x % 256) + 256 * T1 (rep 85 k) (x / 256)) % 256 = T1 85 (x % 256) := by omega
  have e2 : (T1 85 (x % 256) + 256 * T1 (rep 85 k) (x / 256)) / 256 = T1 (rep 85 k) (x / 256) := by omega
  rw [e1, e2]
  rfl

theorem C_mod (k x : Nat) : C k x % 16 ≤ 4 := by
  cases k with
  | zero => rw [C_zero]; decide
  | succ k =>
    rw [C_succ]
    have h := (d4 ⟨x % 256, by omega⟩).1
    simp only at h
    omega

def P : Nat → Nat → Nat
  | 0, _ => 0
  | k + 1, x => pop 8 (x % 256) + 256 * P k (x / 256)

theorem D_eq : ∀ (k x : Nat), ((C k x / 16 + C k x) &&& rep 15 k) = P k x
  | 0, x => by simp [rep, P]
  | k + 1, x => by
    have ih := D_eq k (x / 256)
    obtain ⟨h1, h2, h3⟩ := d4 ⟨x % 256, by omega⟩
    have h4 := C_mod k (x / 256)
    simp only at h1 h2 h3
    rw [C_succ]
    simp only [rep, P]
    rw [and_split _ _ _ (by decide), ← ih, ← h3]
    generalize cc (x % 256) = c at h1 h2 h3 ⊢
    generalize C k (x / 256) = z at h4 ⊢
    have e1 : ((c + 256 * z) / 16 + (c + 256 * z)) / 256 = z / 16 + z := by omega
    have e2 : ((c + 256 * z) / 16 + (c + 256 * z)) % 256 &&& 15 = c % 16 + c / 16 := by
      have : ((c + 256 * z) / 16 + (c + 256 * z)) % 256 &&& (2 ^ 4 - 1) = ((c + 256 * z) / 16 + (c + 256 * z)) % 256 % 2 ^ 4 := Nat.and_two_pow_sub_one_eq_mod _ _
      simp only [show (2 : Nat) ^ 4 = 16 from rfl] at this
      rw [show (15 : Nat) = 16 - 1 from rfl, this]
      omega
    rw [e1, e2]

theorem pop8 (x : Nat) : pop 8 (x % 256) = pop 8 x := by simp only [pop]; omega
theorem pop_add : ∀ (n k x : Nat), pop (n + k) x = pop n x + pop k (x / 2 ^ n)
  | 0, k, x => by simp [pop]
  | n + 1, k, x => by
    have h := pop_add n k (x / 2)
    rw [show n + 1 + k = (n + k) + 1 by omega]
    simp only [pop]
    rw [h, Nat.div_div_eq_div_mul, Nat.pow_succ, Nat.mul_comm 2]
    omega
theorem pop_byte (k x : Nat) : pop (8 + k) x = pop 8 (x % 256) + pop k (x / 256) := by
  rw [pop_add, pop8]

/-- The whole of it, on numbers. -/
theorem swar (x y u v r : Nat) (hy : y = ((C 8 x / 16 + C 8 x) &&& rep 15 8)) (hu : u = y + y / 256) (hv : v = u + u / 65536) (hr : r = v + v / 4294967296) :
    r % 128 = pop 64 x ∧ y < 2 ^ 60 ∧ u < 2 ^ 61 ∧ v < 2 ^ 62 ∧ r < 2 ^ 63 := by
  rw [D_eq] at hy
  have hp : pop 64 x = pop 8 (x % 256) + (pop 8 (x / 256 % 256) + (pop 8 (x / 256 / 256 % 256) + (pop 8 (x / 256 / 256 / 256 % 256) + (pop 8 (x / 256 / 256 / 256 / 256 % 256) + (pop 8 (x / 256 / 256 / 256 / 256 / 256 % 256) + (pop 8 (x / 256 / 256 / 256 / 256 / 256 / 256 % 256) + pop 8 (x / 256 / 256 / 256 / 256 / 256 / 256 / 256 % 256))))))) := by
    rw [show (64 : Nat) = 8 + 56 from rfl, pop_byte, show (56 : Nat) = 8 + 48 from rfl, pop_byte, show (48 : Nat) = 8 + 40 from rfl, pop_byte, show (40 : Nat) = 8 + 32 from rfl, pop_byte, show (32 : Nat) = 8 + 24 from rfl, pop_byte, show (24 : Nat) = 8 + 16 from rfl, pop_byte, show (16 : Nat) = 8 + 8 from rfl, pop_byte]
    rw [pop8 (x / 256 / 256 / 256 / 256 / 256 / 256 / 256)]
  rw [hp]
  simp only [P, Nat.mul_zero, Nat.add_zero] at hy
  have b : ∀ z : Nat, pop 8 (z % 256) ≤ 8 := fun z => d5 ⟨z % 256, by omega⟩
  have b0 := b x
  have b1 := b (x / 256)
  have b2 := b (x / 256 / 256)
  have b3 := b (x / 256 / 256 / 256)
  have b4 := b (x / 256 / 256 / 256 / 256)
  have b5 := b (x / 256 / 256 / 256 / 256 / 256)
  have b6 := b (x / 256 / 256 / 256 / 256 / 256 / 256)
  have b7 := b (x / 256 / 256 / 256 / 256 / 256 / 256 / 256)
  clear b hp
  generalize pop 8 (x % 256) = p0 at *
  generalize pop 8 (x / 256 % 256) = p1 at *
  generalize pop 8 (x / 256 / 256 % 256) = p2 at *
  generalize pop 8 (x / 256 / 256 / 256 % 256) = p3 at *
  generalize pop 8 (x / 256 / 256 / 256 / 256 % 256) = p4 at *
  generalize pop 8 (x / 256 / 256 / 256 / 256 / 256 % 256) = p5 at *
  generalize pop 8 (x / 256 / 256 / 256 / 256 / 256 / 256 % 256) = p6 at *
  generalize pop 8 (x / 256 / 256 / 256 / 256 / 256 / 256 / 256 % 256) = p7 at *
  have hu' : u = (p0 + p1) + 256 * ((p1 + p2) + 256 * ((p2 + p3) + 256 * ((p3 + p4) + 256 * ((p4 + p5) + 256 * ((p5 + p6) + 256 * ((p6 + p7) + 256 * p7)))))) := by omega
  have hy' : y < 2 ^ 60 := by omega
  clear hu hy
  have hv' : v = (p0 + p1 + p2 + p3) + 256 * ((p1 + p2 + p3 + p4) + 256 * ((p2 + p3 + p4 + p5) + 256 * ((p3 + p4 + p5 + p6) + 256 * ((p4 + p5 + p6 + p7) + 256 * ((p5 + p6 + p7) + 256 * ((p6 + p7) + 256 * p7)))))) := by omega
  have hu2 : u < 2 ^ 61 := by omega
  clear hv hu'
  have hr' : r = (p0 + p1 + p2 + p3 + p4 + p5 + p6 + p7) + 256 * ((p1 + p2 + p3 + p4 + p5 + p6 + p7) + 256 * ((p2 + p3 + p4 + p5 + p6 + p7) + 256 * ((p3 + p4 + p5 + p6 + p7) + 256 * ((p4 + p5 + p6 + p7) + 256 * ((p5 + p6 + p7) + 256 * ((p6 + p7) + 256 * p7)))))) := by omega
  have hv2 : v < 2 ^ 62 := by omega
  clear hr hv'
  refine ⟨?_, hy', hu2, hv2, ?_⟩ <;> omega

theorem rep85 : rep 85 8 = 6148914691236517205 := by decide +kernel
theorem rep51 : rep 51 8 = 3689348814741910323 := by decide +kernel
theorem rep15 : rep 15 8 = 1085102592571150095 := by decide +kernel

/-! bits one by one -/
def cnt : Nat → (Nat → Bool) → Nat
  | 0, _ => 0
  | n + 1, f => (f 0).toNat + cnt n (fun i => f (i + 1))

theorem pop_cnt : ∀ (n x : Nat), pop n x = cnt n (fun i => x.testBit i)
  | 0, _ => rfl
  | n + 1, x => by
    simp only [pop, cnt]
    rw [pop_cnt n (x / 2)]
    simp only [Nat.testBit_succ]
    congr 1
    rw [Nat.testBit_zero]
    rcases Nat.mod_two_eq_zero_or_one x with h | h <;> simp [h]

theorem cnt_congr : ∀ (n : Nat) (f g : Nat → Bool), (∀ i, i < n → f i = g i) → cnt n f = cnt n g
  | 0, _, _, _ => rfl
  | n + 1, f, g, h => by
    simp only [cnt]
    rw [h 0 (by omega), cnt_congr n _ _ (fun i hi => h (i + 1) (by omega))]

theorem cnt_flip : ∀ (n i : Nat) (f g : Nat → Bool), i < n → f i = false → g i = true → (∀ j, j < n → j ≠ i → g j = f j) → cnt n g = cnt n f + 1
  | 0, _, _, _, h, _, _, _ => absurd h (by omega)
  | n + 1, 0, f, g, _, hf, hg, h => by
    simp only [cnt, hf, hg]
    rw [cnt_congr n _ _ (fun j hj => h (j + 1) (by omega) (by omega))]
    simp
    omega
  | n + 1, i + 1, f, g, hi, hf, hg, h => by
    simp only [cnt]
    rw [h 0 (by omega) (by omega), cnt_flip n i (fun i => f (i + 1)) (fun i => g (i + 1)) (by omega) hf hg (fun j hj hj' => h (j + 1) (by omega) (by omega))]
    omega

theorem cnt_not : ∀ (n : Nat) (f g : Nat → Bool), (∀ j, j < n → g j = !f j) → cnt n f + cnt n g = n
  | 0, _, _, _ => rfl
  | n + 1, f, g, h => by
    have ih := cnt_not n (fun i => f (i + 1)) (fun i => g (i + 1)) (fun j hj => h (j + 1) (by omega))
    simp only [cnt]
    rw [h 0 (by omega)]
    cases f 0 <;> simp <;> omega

/-! the bridge to the walk's numbers -/
theorem cnt_core (s b m x o : Nat) (i : Nat) (hi : i < 64) (hb : ∀ j, b.testBit j = decide (i = j)) (hw : ∀ j, m.testBit j = (s.testBit j && (decide (j < 64) && !decide (i = j)))) (hx : ∀ j, x.testBit j = (decide (j < 64) ^^ m.testBit j)) (ho : o = m ||| b) :
    pop 64 o = pop 64 m + 1
    ∧ pop 64 s = pop 64 m + (if s &&& b = 0 then 0 else 1)
    ∧ pop 64 m + pop 64 x = 64 := by
  subst ho
  refine ⟨?_, ?_, ?_⟩
  · rw [pop_cnt, pop_cnt]
    refine cnt_flip 64 i _ _ hi ?_ ?_ ?_
    · simp [hw]
    · simp [Nat.testBit_or, hb]
    · intro j hj hne
      have : ¬ i = j := fun h => hne h.symm
      simp [Nat.testBit_or, hb, this]
  · rw [pop_cnt, pop_cnt]
    have hb' : (s &&& b = 0) ↔ s.testBit i = false := by
      constructor
      · intro h
        have := congrArg (fun z => z.testBit i) h
        simpa [Nat.testBit_and, hb] using this
      · intro h
        apply Nat.eq_of_testBit_eq
        intro j
        rw [Nat.testBit_and, hb, Nat.zero_testBit]
        by_cases hij : i = j
        · subst hij; simp [h]
        · simp [hij]
    by_cases hz : s &&& b = 0
    · rw [if_pos hz, Nat.add_zero]
      have hz' := hb'.1 hz
      refine cnt_congr 64 _ _ ?_
      intro j hj
      simp only [hw]
      by_cases hij : i = j
      · subst hij; simp [hz']
      · simp [hij, hj]
    · rw [if_neg hz]
      refine cnt_flip 64 i _ _ hi ?_ ?_ ?_
      · simp [hw]
      · cases h : s.testBit i with
        | true => rfl
        | false => exact absurd (hb'.2 h) hz
      · intro j hj hne
        have : ¬ i = j := fun h => hne h.symm
        simp [hw, this, hj]
  · rw [pop_cnt, pop_cnt]
    refine cnt_not 64 _ _ ?_
    intro j hj
    simp [hx, hj]

theorem cnt_bits (s i : Nat) (hi : i < 64) :
    pop 64 ((s &&& (18446744073709551615 - 2 ^ i)) ||| 2 ^ i) = pop 64 (s &&& (18446744073709551615 - 2 ^ i)) + 1
    ∧ pop 64 s = pop 64 (s &&& (18446744073709551615 - 2 ^ i)) + (if s &&& 2 ^ i = 0 then 0 else 1)
    ∧ pop 64 (s &&& (18446744073709551615 - 2 ^ i)) + pop 64 (18446744073709551615 ^^^ (s &&& (18446744073709551615 - 2 ^ i))) = 64 := by
  have hp : 2 ^ i < 2 ^ 64 := Nat.pow_lt_pow_of_lt (by decide) hi
  have hm : ∀ j, (18446744073709551615 - 2 ^ i).testBit j = (decide (j < 64) && !decide (i = j)) := by
    intro j
    have h := Nat.testBit_two_pow_sub_succ hp j
    rw [show 18446744073709551615 - 2 ^ i = 2 ^ 64 - (2 ^ i + 1) by omega, h, Nat.testBit_two_pow]
  have ha : ∀ j, (18446744073709551615 : Nat).testBit j = decide (j < 64) := by
    intro j
    rw [show (18446744073709551615 : Nat) = 2 ^ 64 - 1 from rfl, Nat.testBit_two_pow_sub_one]
  exact cnt_core s (2 ^ i) _ _ _ i hi (fun j => Nat.testBit_two_pow) (fun j => by rw [Nat.testBit_and, hm]) (fun j => by rw [Nat.testBit_xor, ha]) rfl
end Go.Proofs.Qxb6614805a.Pc
