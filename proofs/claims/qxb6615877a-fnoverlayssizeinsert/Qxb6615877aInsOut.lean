/-
  FnOverlaysSizeInsert, walked: the inputs that it lets by at once; all ways together.
-/
import Derived.Test.Qxb6615877aInsNN
import Derived.Test.Qxb6615877aInsSN
import Derived.Test.Qxb6615877aInsNS
import Derived.Test.Qxb6615877aInsSS
namespace Go.Proofs.Qxb6615877a
open Go.RowKit

set_option maxRecDepth 100000 in
set_option maxHeartbeats 1600000 in
theorem out_long (a b c d : Option Addr) (n m ca cb cl cc dl dc : Nat) (i : Int) (Lo Hi : List (Option Addr × Nat × Nat)) (w : World) (hx : Holds2 w a n ca Lo) (hy : Holds2 w b m cb Hi) (hlong : ¬ (cl ≤ 1048576 ∧ dl ≤ 1048576)) :
    Calls Try.prog 6 #[.slice a n ca, .slice b m cb, .int .i64 i, .slice c cl cc, .slice d dl dc] w fun e w' => e = .returned (.bool true) ∧ Below w.heap.size w w' := by
  have k14 := Lib.hid (zz14 a b c d n m ca cb cl cc dl dc i Lo Hi w hx hy)
  have HL := Lib.hid hlong
  clear hx hy hlong
  go_enter Try.func6, Try.ntmps6
  go_wp2_with (first
    | (go_at_call 14; refine k14.out.mono ?_; rintro e w' ⟨rfl, (rfl | ⟨rfl, hlo, hhi, hcl', hdl'⟩)⟩; rotate_right; exact absurd ⟨hcl', hdl'⟩ HL.out))
  go_ret
  exact ⟨rfl, Below.refl _ _⟩

set_option maxRecDepth 100000 in
set_option maxHeartbeats 1600000 in
theorem out_many1 (a b c d : Option Addr) (n m ca cb cl cc dl dc : Nat) (i : Int) (Lo Hi : List (Option Addr × Nat × Nat)) (w : World) (hx : Holds2 w a n ca Lo) (hy : Holds2 w b m cb Hi) (hn : 65536 < n) :
    Calls Try.prog 6 #[.slice a n ca, .slice b m cb, .int .i64 i, .slice c cl cc, .slice d dl dc] w fun e w' => e = .returned (.bool true) ∧ Below w.heap.size w w' := by
  have k14 := Lib.hid (zz14 a b c d n m ca cb cl cc dl dc i Lo Hi w hx hy)
  clear hx hy
  go_enter Try.func6, Try.ntmps6
  go_wp2_with (first
    | (go_at_call 14; refine k14.out.mono ?_; rintro e w' ⟨rfl, (rfl | ⟨rfl, hlo, hhi, hcl', hdl'⟩)⟩))
  all_goals
    go_ret
    exact ⟨rfl, Below.refl _ _⟩

set_option maxRecDepth 100000 in
set_option maxHeartbeats 1600000 in
theorem out_many2 (a b c d : Option Addr) (n m ca cb cl cc dl dc : Nat) (i : Int) (Lo Hi : List (Option Addr × Nat × Nat)) (w : World) (hx : Holds2 w a n ca Lo) (hy : Holds2 w b m cb Hi) (hn : n ≤ 65536) (hm : 65536 < m) :
    Calls Try.prog 6 #[.slice a n ca, .slice b m cb, .int .i64 i, .slice c cl cc, .slice d dl dc] w fun e w' => e = .returned (.bool true) ∧ Below w.heap.size w w' := by
  have k14 := Lib.hid (zz14 a b c d n m ca cb cl cc dl dc i Lo Hi w hx hy)
  clear hx hy
  go_enter Try.func6, Try.ntmps6
  go_wp2_with (first
    | (go_at_call 14; refine k14.out.mono ?_; rintro e w' ⟨rfl, (rfl | ⟨rfl, hlo, hhi, hcl', hdl'⟩)⟩))
  all_goals
    go_ret
    exact ⟨rfl, Below.refl _ _⟩

set_option maxRecDepth 100000 in
set_option maxHeartbeats 1600000 in
theorem out_differ (a b c d : Option Addr) (n m ca cb cl cc dl dc : Nat) (i : Int) (Lo Hi : List (Option Addr × Nat × Nat)) (w : World) (hx : Holds2 w a n ca Lo) (hy : Holds2 w b m cb Hi) (hn : n ≤ 65536) (hm : m ≤ 65536) (hne : ((n : Int) != (m : Int)) = true) :
    Calls Try.prog 6 #[.slice a n ca, .slice b m cb, .int .i64 i, .slice c cl cc, .slice d dl dc] w fun e w' => e = .returned (.bool true) ∧ Below w.heap.size w w' := by
  have k14 := Lib.hid (zz14 a b c d n m ca cb cl cc dl dc i Lo Hi w hx hy)
  have k12 := Lib.hid (fun h1 h2 => pairs a b n m ca cb Lo Hi hn hm h1 h2 w hx hy)
  have k15 := Lib.hid addlen
  clear hx hy
  go_enter Try.func6, Try.ntmps6
  go_wp2_with (first
    | (go_at_call 14; refine k14.out.mono ?_; rintro e w' ⟨rfl, (rfl | ⟨rfl, hlo, hhi, hcl', hdl'⟩)⟩)
    | (go_at_call 12; refine (k12.out hlo hhi).mono ?_; rintro e w' ⟨rfl, s1, rfl, hs0, hs1⟩)
    | (go_at_call 15; refine (k15.out _ _ ?_ ?_ ?_ ?_ _).mono ?_; omega; omega; omega; omega; rintro e w' ⟨rfl, s2, rfl, hs20, hs21⟩))
  all_goals
    go_ret
    exact ⟨rfl, Below.refl _ _⟩
end Go.Proofs.Qxb6615877a
