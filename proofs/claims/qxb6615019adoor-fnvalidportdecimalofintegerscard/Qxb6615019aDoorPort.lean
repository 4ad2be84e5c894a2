/-
  peers.ValidPort, walked: strconv.ParseUint by the shelf's contract.
-/
import Derived.Test.Qxb6615019aDoorRows
import Derived.Test.Qxb6615019aDoorShelf
import Derived.Test.Qxb6615019aDoorPlain
import Derived.WalkKit
import Derived.WalkSpells
import Derived.Lib.Hide
namespace Go.Proofs.Qxb6615019aDoor
open Go.RowKit Go.Shelf

/-- The two variables of strconv that its errors bear hold interface values. -/
def Errs (w : World) : Prop := (∃ t p, w.cell? ⟨0, 0, none⟩ = some (.iface t p)) ∧ ∃ t p, w.cell? ⟨1, 0, none⟩ = some (.iface t p)

theorem Errs.on {B : Nat} {w w' : World} (h : Errs w) (hb : Below B w w') (hB : 2 ≤ B) : Errs w' := by
  obtain ⟨⟨t, p, h0⟩, t', p', h1⟩ := h
  refine ⟨⟨t, p, ?_⟩, t', p', ?_⟩
  · rw [hb.cell (by show 0 < B; omega)]; exact h0
  · rw [hb.cell (by show 1 < B; omega)]; exact h1

theorem parse16 (s : ByteArray) (hlim : s.size ≤ 281474976710656) (w : World) (he : Errs w) :
    Calls Tryd.prog 6 #[.string s, .int .i64 10, .int .i64 16] w fun e w' => (∃ u : Nat, Lib.parseUintB 16 s.data.toList = .ok u ∧ e = .returned (.tuple #[.int .u64 u, .nilIface]) ∧ Below w.heap.size w w')
      ∨ (vp s.data.toList = false ∧ ∃ (x : Int) (N : Nat), e = .returned (.tuple #[.int .u64 x, .iface 36 (.pointer (some ⟨N, 0, none⟩))]) ∧ Below w.heap.size w w') := by
  obtain ⟨⟨t0, p0, h0⟩, t1, p1, h1⟩ := he
  rcases hq : Lib.parseUintB 16 s.data.toList with u | _ | _
  · refine (show Calls Tryd.prog 6 #[.string s, .int .i64 10, .int .i64 16] w _ from Any.strconv_ParseUint_10_at16_ok Tryd.laysPu14 s (by omega) u hq w).mono ?_
    rintro e w' ⟨rfl, hw⟩
    refine .inl ⟨u, rfl, rfl, ?_⟩
    rcases hw with rfl | rfl
    · exact Below.refl _ _
    · exact Lib.bytesWorld_below _ _ _
  · refine (show Calls Tryd.prog 6 #[.string s, .int .i64 10, .int .i64 16] w _ from Any.strconv_ParseUint_10_at16_syntax Tryd.laysPu14 s hlim hq (.iface t0 p0) w h0 (.inr ⟨t0, p0, rfl⟩)).mono ?_
    rintro e w' ⟨N, rfl, _, _, hb⟩
    exact .inr ⟨vp_fail (by intro u h; rw [hq] at h; cases h), _, N, rfl, hb⟩
  · refine (show Calls Tryd.prog 6 #[.string s, .int .i64 10, .int .i64 16] w _ from Any.strconv_ParseUint_10_at16_range Tryd.laysPu14 s hlim hq (.iface t1 p1) w h1 (.inr ⟨t1, p1, rfl⟩)).mono ?_
    rintro e w' ⟨N, rfl, _, _, hb⟩
    exact .inr ⟨vp_fail (by intro u h; rw [hq] at h; cases h), _, N, rfl, hb⟩

theorem bne_cast (u : Nat) : ((u : Int) != 0) = (u != 0) := by
  by_cases h : u = 0
  · subst h; rfl
  · have h1 : ((u : Int) != 0) = true := by simpa using (show ¬ (u : Int) = 0 by omega)
    have h2 : (u != 0) = true := by simpa using h
    rw [h1, h2]

theorem validPort (s : ByteArray) (hlim : s.size ≤ 281474976710656) (w : World) (he : Errs w) :
    Calls Tryd.prog 5 #[.string s] w fun e w' => e = .returned (.bool (vp s.data.toList)) ∧ Below w.heap.size w w' := by
  have k6 := parse16 s hlim w he
  go_enter Tryd.func5, Tryd.ntmps5
  go_wp2_with (go_at_call 6; refine k6.mono ?_; rintro e w' (⟨u, hu, rfl, hb⟩ | ⟨hv, x, N, rfl, hb⟩))
  · go_ret
    exact ⟨by rw [vp_ok hu, ← bne_cast]; rfl, hb⟩
  · go_ret
    exact ⟨by rw [hv]; rfl, hb⟩
end Go.Proofs.Qxb6615019aDoor
