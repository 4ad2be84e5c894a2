/-
  zzBytes_FnOverlaysSizeInsert, b1AddLen, b1PairsBytes, walked: of the first what it says where it answers true; of the others that they return a number in bounds.
-/
import Derived.Test.Qxb6615877aOverWalks
import Derived.Deep.LoopGhost
namespace Go.Proofs.Qxb6615877a
open Go.RowKit

theorem addlen (t n : Int) (h0 : 0 ≤ t) (h1 : t ≤ 1048577) (h2 : 0 ≤ n) (h3 : n ≤ 1048576) (w : World) :
    Calls Try.prog 15 #[.int .i64 t, .int .i64 n] w fun e w' => w = w' ∧ ∃ s, e = .returned (.int .i64 s) ∧ 0 ≤ s ∧ s ≤ 1048577 := by
  by_cases c : 1048576 - t < n
  · go_enter Try.func15, Try.ntmps15
    go_wp2
    go_ret
    exact ⟨rfl, _, rfl, by omega, by omega⟩
  · go_enter Try.func15, Try.ntmps15
    go_wp2
    go_ret
    exact ⟨rfl, _, rfl, by omega, by omega⟩

/-- Each of the first n slices has at most 2^20 bytes. -/
def Low (L : List (Option Addr × Nat × Nat)) (n : Nat) : Prop := ∀ j, j < n → (L.getD j d0).2.1 ≤ 1048576

theorem Holds2.at {w : World} {a : Option Addr} {len cap : Nat} {L : List (Option Addr × Nat × Nat)} (h : Holds2 w a len cap L) {k : Nat} (hk : k < len) :
    ∃ x, a = some x ∧ ∃ b l c, L.getD k d0 = (b, l, c) ∧ w.cell? (x.add k) = some (.slice b l c) := by
  cases a with
  | none => have := (h.2.2.1 rfl).1; omega
  | some x => exact ⟨x, rfl, _, _, _, rfl, h.2.2.2 x rfl k hk⟩

/-- How zzBytes ends: the world as it was; where it says true every slice is short. -/
def End14 (w : World) (Lo Hi : List (Option Addr × Nat × Nat)) (n m cl dl : Nat) (e : Ending) (w' : World) : Prop :=
  w = w' ∧ ((e = .returned (.bool false)) ∨ (e = .returned (.bool true) ∧ Low Lo n ∧ Low Hi m ∧ cl ≤ 1048576 ∧ dl ≤ 1048576))
theorem End14.no {w : World} {Lo Hi : List (Option Addr × Nat × Nat)} {n m cl dl : Nat} : End14 w Lo Hi n m cl dl (.returned (.bool false)) w := ⟨rfl, .inl rfl⟩

set_option maxRecDepth 100000 in
set_option maxHeartbeats 1600000 in
theorem zz14 (a b c d : Option Addr) (n m ca cb cl cc dl dc : Nat) (i : Int) (Lo Hi : List (Option Addr × Nat × Nat)) (w : World) (hx : Holds2 w a n ca Lo) (hy : Holds2 w b m cb Hi) :
    Calls Try.prog 14 #[.slice a n ca, .slice b m cb, .int .i64 i, .slice c cl cc, .slice d dl dc] w fun e w' => End14 w Lo Hi n m cl dl e w' := by
  have HX := Lib.hid hx
  have HY := Lib.hid hy
  clear hx hy
  go_enter Try.func14, Try.ntmps14
  go_wp2
  · go_ret
    exact End14.no
  go_loop [11, 12] (fun s j => ∃ (k : Nat) (t : Int), k ≤ n ∧ j = .int .i64 (k : Int) ∧ s = .int .i64 t ∧ 0 ≤ t ∧ t ≤ 1048576 ∧ Low Lo k) (fun _ j => n - (intOf j).toNat)
  case atStart => exact ⟨0, (n : Int), Nat.zero_le _, rfl, rfl, by omega, by omega, fun j hj => by omega⟩
  case round =>
    obtain ⟨k, t, hk, rfl, rfl, ht0, ht1, hlow⟩ := hrel
    have HL := Lib.hid hlow
    clear hlow
    by_cases hkl : k < n
    · obtain ⟨x, rfl, ba, l, bc, hg, hc⟩ := HX.out.at hkl
      have HG := Lib.hid hg
      clear hg
      go_wp2
      · go_ret
        exact End14.no
      · go_ret
        exact End14.no
      · go_round
        case rel => exact ⟨k + 1, t + l, hkl, by go_num, rfl, by omega, by omega, fun j hj => by
          by_cases e : j = k
          · subst e; rw [HG.out]; show l ≤ 1048576; omega
          · exact HL.out j (by omega)⟩
        case measure => simp [intOf]; omega
    · obtain rfl : k = n := by omega
      go_wp2
      · go_ret
        exact End14.no
      · go_ret
        exact End14.no
      go_loop [11, 13] (fun s j => ∃ (k : Nat) (t : Int), k ≤ m ∧ j = .int .i64 (k : Int) ∧ s = .int .i64 t ∧ 0 ≤ t ∧ t ≤ 1048576 ∧ Low Hi k) (fun _ j => m - (intOf j).toNat)
      case atStart => exact ⟨0, t + (m : Int), Nat.zero_le _, rfl, rfl, by omega, by omega, fun j hj => by omega⟩
      case round =>
        obtain ⟨k2, t2, hk2, rfl, rfl, ht20, ht21, hlow2⟩ := hrel
        have HL2 := Lib.hid hlow2
        clear hlow2
        by_cases hkl2 : k2 < m
        · obtain ⟨y, rfl, ba, l, bc, hg, hc⟩ := HY.out.at hkl2
          have HG := Lib.hid hg
          clear hg
          go_wp2
          · go_ret
            exact End14.no
          · go_ret
            exact End14.no
          · go_round
            case rel => exact ⟨k2 + 1, t2 + l, hkl2, by go_num, rfl, by omega, by omega, fun j hj => by
              by_cases e : j = k2
              · subst e; rw [HG.out]; show l ≤ 1048576; omega
              · exact HL2.out j (by omega)⟩
            case measure => simp [intOf]; omega
        · obtain rfl : k2 = m := by omega
          go_wp2
          · go_ret
            exact End14.no
          · go_ret
            exact End14.no
          · go_ret
            exact End14.no
          · go_ret
            exact End14.no
          · go_ret
            exact ⟨rfl, .inr ⟨rfl, HL.out, HL2.out, by omega, by omega⟩⟩

/-- How b1PairsBytes and b1AddLen end: a number in bounds, the world as it was. -/
def EndNum (w : World) (e : Ending) (w' : World) : Prop := w = w' ∧ ∃ s, e = .returned (.int .i64 s) ∧ 0 ≤ s ∧ s ≤ 1048577

set_option maxRecDepth 100000 in
set_option maxHeartbeats 1600000 in
theorem pairs (a b : Option Addr) (n m ca cb : Nat) (Lo Hi : List (Option Addr × Nat × Nat)) (hn : n ≤ 65536) (hm : m ≤ 65536) (hlo : Low Lo n) (hhi : Low Hi m) (w : World) (hx : Holds2 w a n ca Lo) (hy : Holds2 w b m cb Hi) :
    Calls Try.prog 12 #[.slice a n ca, .slice b m cb] w fun e w' => EndNum w e w' := by
  have HX := Lib.hid hx
  have HY := Lib.hid hy
  have HLo := Lib.hid hlo
  have HHi := Lib.hid hhi
  clear hx hy hlo hhi
  go_enter Try.func12, Try.ntmps12
  go_wp2
  go_loop [5, 6] (fun s j => ∃ (k : Nat) (t : Int), k ≤ n ∧ j = .int .i64 (k : Int) ∧ s = .int .i64 t ∧ 0 ≤ t ∧ t ≤ 1048577) (fun _ j => n - (intOf j).toNat)
  case atStart => exact ⟨0, 8 * (n : Int) + 8 * (m : Int), Nat.zero_le _, rfl, rfl, by omega, by omega⟩
  case round =>
    obtain ⟨k, t, hk, rfl, rfl, ht0, ht1⟩ := hrel
    by_cases hkl : k < n
    · obtain ⟨x, rfl, ba, l, bc, hg, hc⟩ := HX.out.at hkl
      have hl : l ≤ 1048576 := by have := HLo.out k hkl; rw [hg] at this; exact this
      clear hg
      by_cases htt : t ≤ 1048576
      · have ka := Lib.hid (addlen t (l : Int) ht0 ht1 (by omega) (by omega))
        go_wp2_with (go_at_call 15; refine (ka.out _).mono ?_; rintro e w2 ⟨rfl, s, rfl, hs0, hs1⟩)
        go_round
        case rel => exact ⟨k + 1, s, hkl, by go_num, rfl, hs0, hs1⟩
        case measure => simp [intOf]; omega
      · go_wp2
        go_loop [5, 7] (fun s j => ∃ (k : Nat) (t : Int), k ≤ m ∧ j = .int .i64 (k : Int) ∧ s = .int .i64 t ∧ 0 ≤ t ∧ t ≤ 1048577) (fun _ j => m - (intOf j).toNat)
        case atStart => exact ⟨0, t, Nat.zero_le _, rfl, rfl, ht0, ht1⟩
        case round =>
          obtain ⟨k2, t2, hk2, rfl, rfl, ht20, ht21⟩ := hrel
          by_cases hkl2 : k2 < m
          · obtain ⟨y, rfl, ba2, l2, bc2, hg2, hc2⟩ := HY.out.at hkl2
            have hl2 : l2 ≤ 1048576 := by have := HHi.out k2 hkl2; rw [hg2] at this; exact this
            clear hg2
            by_cases htt2 : t2 ≤ 1048576
            · have ka2 := Lib.hid (addlen t2 (l2 : Int) ht20 ht21 (by omega) (by omega))
              go_wp2_with (go_at_call 15; refine (ka2.out _).mono ?_; rintro e w2 ⟨rfl, s, rfl, hs0, hs1⟩)
              go_round
              case rel => exact ⟨k2 + 1, s, hkl2, by go_num, rfl, hs0, hs1⟩
              case measure => simp [intOf]; omega
            · go_wp2
              go_ret
              exact ⟨rfl, _, rfl, ht20, ht21⟩
          · go_wp2
            go_ret
            exact ⟨rfl, _, rfl, ht20, ht21⟩
    · go_wp2
      go_loop [5, 7] (fun s j => ∃ (k : Nat) (t : Int), k ≤ m ∧ j = .int .i64 (k : Int) ∧ s = .int .i64 t ∧ 0 ≤ t ∧ t ≤ 1048577) (fun _ j => m - (intOf j).toNat)
      case atStart => exact ⟨0, t, Nat.zero_le _, rfl, rfl, ht0, ht1⟩
      case round =>
        obtain ⟨k2, t2, hk2, rfl, rfl, ht20, ht21⟩ := hrel
        by_cases hkl2 : k2 < m
        · obtain ⟨y, rfl, ba2, l2, bc2, hg2, hc2⟩ := HY.out.at hkl2
          have hl2 : l2 ≤ 1048576 := by have := HHi.out k2 hkl2; rw [hg2] at this; exact this
          clear hg2
          by_cases htt2 : t2 ≤ 1048576
          · have ka2 := Lib.hid (addlen t2 (l2 : Int) ht20 ht21 (by omega) (by omega))
            go_wp2_with (go_at_call 15; refine (ka2.out _).mono ?_; rintro e w2 ⟨rfl, s, rfl, hs0, hs1⟩)
            go_round
            case rel => exact ⟨k2 + 1, s, hkl2, by go_num, rfl, hs0, hs1⟩
            case measure => simp [intOf]; omega
          · go_wp2
            go_ret
            exact ⟨rfl, _, rfl, ht20, ht21⟩
        · go_wp2
          go_ret
          exact ⟨rfl, _, rfl, ht20, ht21⟩
end Go.Proofs.Qxb6615877a
