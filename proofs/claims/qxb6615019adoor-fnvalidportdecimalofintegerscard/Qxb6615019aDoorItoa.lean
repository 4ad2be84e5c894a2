/-
  zzItoa, walked: its decimal is strconv.Itoa's own, 'Lib.itoa'.
-/
import Derived.Test.Qxb6615019aDoorPort
namespace Go.Proofs.Qxb6615019aDoor
open Go.RowKit Go.Shelf

/-- The state ahead of a round of zzItoa's loop: block B is the buffer; its cells from J + 1 on spell the digits that are laid; 'Uc' is left of U. -/
def Dig (B U : Nat) (wr : World) (J Uc : Nat) : Prop :=
  ∃ (acc : List UInt8) (arr : Array Value), wr.heap[B]? = some (.cells arr 27 (0, 0)) ∧ arr.size = 20 ∧ J < 20 ∧ (Uc < 10 ^ (J + 1) ∧ Uc < 18446744073709551616) ∧ Lib.decDigits U = Lib.decDigits Uc ++ acc ∧ arr.toList.drop (J + 1) = Lib.byteCells acc

/-- Behind the loop: the cells from J on spell U. -/
def Spelt (B U : Nat) (wr : World) (J : Nat) : Prop :=
  ∃ arr : Array Value, wr.heap[B]? = some (.cells arr 27 (0, 0)) ∧ arr.size = 20 ∧ arr.toList.drop J = Lib.byteCells (Lib.decDigits U)

theorem Dig.start (w : World) (U : Nat) (h : U < 18446744073709551616) : Dig w.heap.size U (w.alloc (.cells #[.int .u8 0, .int .u8 0, .int .u8 0, .int .u8 0, .int .u8 0, .int .u8 0, .int .u8 0, .int .u8 0, .int .u8 0, .int .u8 0, .int .u8 0, .int .u8 0, .int .u8 0, .int .u8 0, .int .u8 0, .int .u8 0, .int .u8 0, .int .u8 0, .int .u8 0, .int .u8 0] 27)) 19 U :=
  ⟨[], _, heap_alloc_new w _, rfl, by omega, ⟨by omega, h⟩, by simp, rfl⟩

theorem Dig.cell {B U J Uc : Nat} {wr : World} (h : Dig B U wr J Uc) : ∃ v, wr.cell? ⟨B, J, none⟩ = some v := by
  obtain ⟨acc, arr, hg, hs, hJ, _⟩ := h
  refine ⟨arr[J]'(by omega), ?_⟩
  simp [World.cell?, hg, hs, hJ]
theorem Dig.free {B U J Uc : Nat} {wr : World} (h : Dig B U wr J Uc) : wr.frozen? ⟨B, J, none⟩ = false := by
  obtain ⟨acc, arr, hg, _⟩ := h
  simp [World.frozen?, hg]

theorem set_drop (arr : Array Value) (J : Nat) (v : Value) (h : J < arr.size) : (arr.setIfInBounds J v).toList.drop J = v :: arr.toList.drop (J + 1) := by
  rw [Array.toList_setIfInBounds, List.drop_set]
  rw [if_neg (by omega), Nat.sub_self]
  rw [List.drop_eq_getElem_cons (by simpa using h)]
  rfl

theorem Dig.last {B U J Uc : Nat} {wr : World} (h : Dig B U wr J Uc) (h0 : Uc / 10 = 0) : Spelt B U (wr.setCell ⟨B, J, none⟩ (.int .u8 (48 + (Uc : Int) % 10))) J := by
  obtain ⟨acc, arr, hg, hs, hJ, ⟨hU, hU2⟩, hd, ha⟩ := h
  refine ⟨_, heap_setCell_same wr B J arr 27 _ hg, by simpa using hs, ?_⟩
  rw [set_drop _ _ _ (by omega), ha, hd, Lib.decDigits_one (by omega)]
  have e := digit_toNat Uc (by omega)
  simp only [List.cons_append, List.nil_append, Lib.byteCells, List.map_cons, e]
  congr 2
  omega

theorem Dig.more {B U J Uc : Nat} {wr : World} (h : Dig B U wr J Uc) (h0 : ¬ Uc / 10 = 0) : ∃ J', J = J' + 1 ∧ Dig B U (wr.setCell ⟨B, J, none⟩ (.int .u8 (48 + (Uc : Int) % 10))) J' (Uc / 10) := by
  obtain ⟨acc, arr, hg, hs, hJ, ⟨hU, hU2⟩, hd, ha⟩ := h
  cases J with
  | zero => exfalso; omega
  | succ J' =>
    refine ⟨J', rfl, UInt8.ofNat (48 + Uc % 10) :: acc, _, heap_setCell_same wr B (J' + 1) arr 27 _ hg, by simpa using hs, by omega, ⟨?_, by omega⟩, ?_, ?_⟩
    · rw [Nat.pow_succ] at hU
      omega
    · rw [hd]
      conv => lhs; rw [Lib.decDigits, dif_neg (by omega)]
      simp
    · rw [set_drop _ _ _ (by omega), ha]
      have e := digit_toNat (Uc % 10) (by omega)
      simp only [Lib.byteCells, List.map_cons, e]
      congr 2

/-- 'string(buf[i:])'. -/
theorem Spelt.string {B U J : Nat} {wr : World} (h : Spelt B U wr J) : (convert 23 9 (.slice (some ⟨B, J, none⟩) (20 - J) (20 - J))).run Tryd.prog wr = .ok (.string ⟨(Lib.decDigits U).toArray⟩) wr := by
  obtain ⟨arr, hg, hs, hd⟩ := h
  have hl : (Lib.decDigits U).length = 20 - J := by
    have := congrArg List.length hd
    simpa [Lib.byteCells, hs] using this.symm
  have hc := run_convert_bytes_back (P := Tryd.prog) wr 23 9 5 ⟨B, J, none⟩ (20 - J) (Lib.decDigits U) Tryd.underlying23 Tryd.underlying5 Tryd.underlying9 (by
    intro j hj
    rw [Addr.add_lit]
    have hj2 : J + j < arr.size := by omega
    have h1 : arr.toList[J + j]? = some (.int .u8 ((Lib.decDigits U)[j].toNat : Int)) := by
      rw [← List.getElem?_drop, hd]
      simp [Lib.byteCells, hj]
    rw [Array.getElem?_toList] at h1
    simp only [World.cell?, hg]
    simpa using h1)
  rw [hl] at hc
  exact hc

theorem Dig.last' {B U J : Nat} {x : Int} {wr : World} (h : Dig B U wr J x.toNat) (hx : 0 ≤ x) (h0 : x / 10 = 0) : Spelt B U (wr.setCell ⟨B, J, none⟩ (.int .u8 (48 + x % 10))) J := by
  obtain ⟨Uc, rfl⟩ := Int.eq_ofNat_of_zero_le hx
  rw [Int.toNat_natCast] at h
  exact h.last (by omega)
theorem Dig.more' {B U J : Nat} {x : Int} {wr : World} (h : Dig B U wr J x.toNat) (hx : 0 ≤ x) (h0 : ¬ x / 10 = 0) : ∃ J', J = J' + 1 ∧ Dig B U (wr.setCell ⟨B, J, none⟩ (.int .u8 (48 + x % 10))) J' (x / 10).toNat := by
  obtain ⟨Uc, rfl⟩ := Int.eq_ofNat_of_zero_le hx
  rw [Int.toNat_natCast] at h
  have := h.more (by omega)
  rw [show ((Uc : Int) / 10).toNat = Uc / 10 by omega]
  exact this

theorem arrayLen27 : Tryd.prog.arrayLen 27 = 20 := by kernel_rfl
theorem slice27 (B J : Nat) (hJ : J < 20) (W : World) : (Instr.sliceAt 27 (.pointer (some ⟨B, 0, none⟩)) (some (.int .i64 (J : Int))) none none).run Tryd.prog W = .ok (.slice (some ⟨B, J, none⟩) (20 - J) (20 - J)) W := by
  have h := run_sliceAt_array_l (P := Tryd.prog) W 27 ⟨B, 0, none⟩ (by kernel_rfl) .i64 (J : Int) (by omega) (by rw [arrayLen27]; omega)
  rw [h, arrayLen27]
  simp [go_sem, slicedAt, show ¬ 20 = J by omega]

set_option maxRecDepth 100000 in
theorem itoa_neg (n : Int) (h0 : n < 0) (h1 : -9223372036854775808 ≤ n) (w : World) :
    Calls Tryd.prog 4 #[.int .i64 n] w fun e w' => e = .returned (.string ⟨(Lib.itoa n).toArray⟩) ∧ Below w.heap.size w w' := by
  go_enter Tryd.func4, Tryd.ntmps4
  go_wp2
  go_loopw [3, 6] (fun u i wr => ∃ (J : Nat) (x : Int), u = .int .u64 x ∧ i = .int .i64 ((J : Int) + 1) ∧ 0 ≤ x ∧ x < 18446744073709551616 ∧ Dig w.heap.size n.natAbs wr J x.toNat ∧ Below w.heap.size w wr) (fun _ i _ => (intOf i).toNat)
  case atStart => exact ⟨19, -(n + 1) + 1, rfl, rfl, by omega, by omega, by rw [show (-(n + 1) + 1).toNat = n.natAbs by omega]; exact Dig.start w _ (by omega), (Below.refl _ _).alloc (Nat.le_refl _) _⟩
  case round =>
    obtain ⟨J, x, rfl, rfl, hx0, hx1, hD, hB⟩ := hrel
    obtain ⟨v0, hc⟩ := hD.cell
    have hf := hD.free
    have hJ : J < 20 := by obtain ⟨_, _, _, _, h, _⟩ := hD; exact h
    have HD : Hid (Dig w.heap.size n.natAbs wr J x.toNat) := hD
    clear hD
    by_cases hx : x / 10 = 0
    · have hsl := slice27 w.heap.size J hJ
      have hS := HD.out.last' hx0 hx
      have hcv := hS.string
      obtain ⟨D, hDD⟩ : ∃ D, D = Lib.decDigits n.natAbs := ⟨_, rfl⟩
      rw [← hDD] at hcv
      have hx' : (x / 10 == 0) = true := by simpa using hx
      have HDD : Hid (D = Lib.decDigits n.natAbs) := hDD
      clear hDD hS hx
      have hDl : D.length ≤ 20 := by
        rw [HDD.out, Lib.decDigits_length]
        exact nDigits_le20 _ (by omega)
      go_wp2
      go_ret
      refine ⟨congrArg Ending.returned (congrArg Value.string ?_), hB.setCell (Nat.le_refl _) _⟩
      have e : Lib.itoa n = 45 :: D := by unfold Lib.itoa; rw [if_pos h0, HDD.out]
      rw [e, ByteArray.mk_append_mk]
      rfl
    · have hx' : (x / 10 == 0) = false := by simpa using hx
      obtain ⟨J', hJ', hM⟩ := HD.out.more' hx0 hx
      have HM : Hid (J = J' + 1 ∧ Dig w.heap.size n.natAbs (wr.setCell ⟨w.heap.size, J, none⟩ (.int .u8 (48 + x % 10))) J' (x / 10).toNat) := ⟨hJ', hM⟩
      clear hJ' hM HD hx
      go_wp2
      go_roundw
      case rel => exact ⟨J', x / 10, rfl, by rw [HM.out.1]; rfl, by omega, by omega, HM.out.2, hB.setCell (Nat.le_refl _) _⟩
      case measure => simp [intOf]
set_option maxRecDepth 100000 in
theorem itoa_pos (n : Int) (h0 : 0 ≤ n) (h1 : n ≤ 9223372036854775807) (w : World) :
    Calls Tryd.prog 4 #[.int .i64 n] w fun e w' => e = .returned (.string ⟨(Lib.itoa n).toArray⟩) ∧ Below w.heap.size w w' := by
  go_enter Tryd.func4, Tryd.ntmps4
  go_wp2
  go_loopw [3, 6] (fun u i wr => ∃ (J : Nat) (x : Int), u = .int .u64 x ∧ i = .int .i64 ((J : Int) + 1) ∧ 0 ≤ x ∧ x < 18446744073709551616 ∧ Dig w.heap.size n.toNat wr J x.toNat ∧ Below w.heap.size w wr) (fun _ i _ => (intOf i).toNat)
  case atStart => exact ⟨19, n, rfl, rfl, h0, by omega, Dig.start w _ (by omega), (Below.refl _ _).alloc (Nat.le_refl _) _⟩
  case round =>
    obtain ⟨J, x, rfl, rfl, hx0, hx1, hD, hB⟩ := hrel
    obtain ⟨v0, hc⟩ := hD.cell
    have hf := hD.free
    have hJ : J < 20 := by obtain ⟨_, _, _, _, h, _⟩ := hD; exact h
    have HD : Hid (Dig w.heap.size n.toNat wr J x.toNat) := hD
    clear hD
    by_cases hx : x / 10 = 0
    · have hsl := slice27 w.heap.size J hJ
      have hS := HD.out.last' hx0 hx
      have hcv := hS.string
      obtain ⟨D, hDD⟩ : ∃ D, D = Lib.decDigits n.toNat := ⟨_, rfl⟩
      rw [← hDD] at hcv
      have hx' : (x / 10 == 0) = true := by simpa using hx
      have HDD : Hid (D = Lib.decDigits n.toNat) := hDD
      clear hDD hS hx
      go_wp2
      go_ret
      refine ⟨congrArg Ending.returned (congrArg Value.string ?_), hB.setCell (Nat.le_refl _) _⟩
      have e : Lib.itoa n = D := by unfold Lib.itoa; rw [if_neg (by omega), HDD.out]
      rw [e]
    · have hx' : (x / 10 == 0) = false := by simpa using hx
      obtain ⟨J', hJ', hM⟩ := HD.out.more' hx0 hx
      have HM : Hid (J = J' + 1 ∧ Dig w.heap.size n.toNat (wr.setCell ⟨w.heap.size, J, none⟩ (.int .u8 (48 + x % 10))) J' (x / 10).toNat) := ⟨hJ', hM⟩
      clear hJ' hM HD hx
      go_wp2
      go_roundw
      case rel => exact ⟨J', x / 10, rfl, by rw [HM.out.1]; rfl, by omega, by omega, HM.out.2, hB.setCell (Nat.le_refl _) _⟩
      case measure => simp [intOf]

/-- zzItoa, at every int64. -/
theorem zzitoa (n : Int) (h0 : -9223372036854775808 ≤ n) (h1 : n ≤ 9223372036854775807) (w : World) :
    Calls Tryd.prog 4 #[.int .i64 n] w fun e w' => e = .returned (.string ⟨(Lib.itoa n).toArray⟩) ∧ Below w.heap.size w w' := by
  by_cases h : n < 0
  · exact itoa_neg n h h0 w
  · exact itoa_pos n (by omega) h1 w
end Go.Proofs.Qxb6615019aDoor
