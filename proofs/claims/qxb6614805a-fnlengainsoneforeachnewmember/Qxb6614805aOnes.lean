/-
  math/bits.OnesCount64 and Members.Len, walked: each returns the number of one bits.
-/
import Derived.Test.Qxb6614805aRows
import Derived.Test.Qxb6614805aPop
import Derived.WalkKit
namespace Go.Proofs.Qxb6614805a
open Go.RowKit Pc

/-! ### the plain law: the run's own numbers -/
def t1 (x : Int) : Int := IntKind.u64.wrap (bits .and .u64 (x / 2) 6148914691236517205 + bits .and .u64 x 6148914691236517205)
def t2 (x : Int) : Int := IntKind.u64.wrap (bits .and .u64 (x / 4) 3689348814741910323 + bits .and .u64 x 3689348814741910323)
def t3 (x : Int) : Int := bits .and .u64 (IntKind.u64.wrap (x / 16 + x)) 1085102592571150095
def t4 (x : Int) : Int := IntKind.u64.wrap (x + x / 256)
def t5 (x : Int) : Int := IntKind.u64.wrap (x + x / 65536)
def t6 (x : Int) : Int := IntKind.u64.wrap (x + x / 4294967296)

theorem t1_eq (X : Nat) (h : X < 18446744073709551616) : t1 X = (T1 (rep 85 8) X : Nat) ∧ T1 (rep 85 8) X ≤ 12297829382473034410 := by
  unfold t1 T1
  rw [rep85]
  have a1 : X / 2 &&& 6148914691236517205 ≤ 6148914691236517205 := Nat.and_le_right
  have a2 : X &&& 6148914691236517205 ≤ 6148914691236517205 := Nat.and_le_right
  have e1 : bits .and .u64 ((X : Int) / 2) 6148914691236517205 = ((X / 2 &&& 6148914691236517205 : Nat) : Int) := by
    have := u64_and_nat (X / 2) 6148914691236517205 (by omega) (by omega)
    simpa using this
  have e2 : bits .and .u64 (X : Int) 6148914691236517205 = ((X &&& 6148914691236517205 : Nat) : Int) := by
    have := u64_and_nat X 6148914691236517205 (by omega) (by omega)
    simpa using this
  rw [e1, e2, IntKind.wrap_u64]
  omega

theorem t2_eq (X : Nat) (h : X < 18446744073709551616) : t2 X = (T2 (rep 51 8) X : Nat) ∧ T2 (rep 51 8) X ≤ 7378697629483820646 := by
  unfold t2 T2
  rw [rep51]
  have a1 : X / 4 &&& 3689348814741910323 ≤ 3689348814741910323 := Nat.and_le_right
  have a2 : X &&& 3689348814741910323 ≤ 3689348814741910323 := Nat.and_le_right
  have e1 : bits .and .u64 ((X : Int) / 4) 3689348814741910323 = ((X / 4 &&& 3689348814741910323 : Nat) : Int) := by
    have := u64_and_nat (X / 4) 3689348814741910323 (by omega) (by omega)
    simpa using this
  have e2 : bits .and .u64 (X : Int) 3689348814741910323 = ((X &&& 3689348814741910323 : Nat) : Int) := by
    have := u64_and_nat X 3689348814741910323 (by omega) (by omega)
    simpa using this
  rw [e1, e2, IntKind.wrap_u64]
  omega

theorem t3_eq (X : Nat) (h : X ≤ 7378697629483820646) : t3 X = (((X / 16 + X) &&& rep 15 8 : Nat) : Int) := by
  unfold t3
  rw [rep15]
  have e : IntKind.u64.wrap ((X : Int) / 16 + X) = ((X / 16 + X : Nat) : Int) := by rw [IntKind.wrap_u64]; omega
  rw [e]
  have := u64_and_nat (X / 16 + X) 1085102592571150095 (by omega) (by omega)
  rw [show ((1085102592571150095 : Nat) : Int) = (1085102592571150095 : Int) from rfl] at this
  exact this

theorem tail_plain (y u v r : Int) (hu : u = y + y / 256) (hv : v = u + u / 65536) (hr : r = v + v / 4294967296) (y0 : 0 ≤ y) (s4 : r < 9223372036854775808) :
    ((((y + y / 256) % 18446744073709551616 + (y + y / 256) % 18446744073709551616 / 65536) % 18446744073709551616 + ((y + y / 256) % 18446744073709551616 + (y + y / 256) % 18446744073709551616 / 65536) % 18446744073709551616 / 4294967296) % 18446744073709551616 + 9223372036854775808) % 18446744073709551616 - 9223372036854775808 = r := by
  have f1 : (y + y / 256) % 18446744073709551616 = u := by omega
  rw [f1]
  have f2 : (u + u / 65536) % 18446744073709551616 = v := by omega
  rw [f2]
  have f3 : (v + v / 4294967296) % 18446744073709551616 = r := by omega
  rw [f3]
  omega

theorem tail_val (y u v r p : Int) (hu : u = y + y / 256) (hv : v = u + u / 65536) (hr : r = v + v / 4294967296) (y0 : 0 ≤ y) (s0 : r % 128 = p) (s4 : r < 9223372036854775808) :
    bits .and .i64 (wrap64 (t6 (t5 (t4 y)))) 127 = p := by
  have h := tail_plain y u v r hu hv hr y0 s4
  rw [i64_and127]
  unfold t6 t5 t4 wrap64
  simp only [IntKind.wrap_u64]
  rw [h]
  exact s0

theorem ones_val (x : Int) (h0 : 0 ≤ x) (h1 : x < 18446744073709551616) : bits .and .i64 (wrap64 (t6 (t5 (t4 (t3 (t2 (t1 x))))))) 127 = ((pop 64 x.toNat : Nat) : Int) := by
  obtain ⟨X, rfl⟩ := Int.eq_ofNat_of_zero_le h0
  obtain ⟨a, ha⟩ : ∃ a, a = T1 (rep 85 8) X := ⟨_, rfl⟩
  obtain ⟨z, hz⟩ : ∃ z, z = T2 (rep 51 8) a := ⟨_, rfl⟩
  obtain ⟨y, hy⟩ : ∃ y, y = ((z / 16 + z) &&& rep 15 8) := ⟨_, rfl⟩
  obtain ⟨u, hu⟩ : ∃ u, u = y + y / 256 := ⟨_, rfl⟩
  obtain ⟨v, hv⟩ : ∃ v, v = u + u / 65536 := ⟨_, rfl⟩
  obtain ⟨r, hr⟩ : ∃ r, r = v + v / 4294967296 := ⟨_, rfl⟩
  have hC : z = C 8 X := by rw [hz, ha, C]
  obtain ⟨s0, s1, s2, s3, s4⟩ := swar X y u v r (by rw [← hC]; exact hy) hu hv hr
  obtain ⟨p, hp⟩ : ∃ p, p = pop 64 X := ⟨_, rfl⟩
  rw [Int.toNat_natCast, ← hp]
  rw [← hp] at s0
  obtain ⟨e1, b1⟩ := t1_eq X (by omega)
  rw [← ha] at e1 b1
  obtain ⟨e2, b2⟩ := t2_eq a (by omega)
  rw [← hz] at e2 b2
  have e3 := t3_eq z b2
  rw [← hy] at e3
  rw [e1, e2, e3]
  clear e1 e2 e3 hC ha hz hy hp b1 b2
  exact tail_val y u v r p (by omega) (by omega) (by omega) (by omega) (by omega) (by omega)

theorem pop_le : ∀ (n x : Nat), pop n x ≤ n
  | 0, _ => Nat.le_refl 0
  | n + 1, x => by
    have := pop_le n (x / 2)
    simp only [pop]
    omega

/-! ### the walks -/
theorem ones (x : Int) (h0 : 0 ≤ x) (h1 : x < 18446744073709551616) (w : World) :
    Calls Try.prog 7 #[.int .u64 x] w fun e w' => e = .returned (.int .i64 (pop 64 x.toNat : Nat)) ∧ w' = w := by
  have hv := ones_val x h0 h1
  generalize ((pop 64 x.toNat : Nat) : Int) = r at hv ⊢
  subst hv
  go_enter Try.func7, Try.ntmps7
  go_wp2
  go_ret
  exact ⟨rfl, rfl⟩

theorem mlen (x : Int) (h0 : 0 ≤ x) (h1 : x < 18446744073709551616) (w : World) :
    Calls Try.prog 5 #[.int .u64 x] w fun e w' => e = .returned (.int .i64 (pop 64 x.toNat : Nat)) ∧ w' = w := by
  go_enter Try.func5, Try.ntmps5
  go_wp2_with (go_at_call 7; refine (ones x h0 h1 _).mono ?_; rintro e w' ⟨rfl, rfl⟩)
  go_ret
  exact ⟨rfl, rfl⟩
end Go.Proofs.Qxb6614805a
