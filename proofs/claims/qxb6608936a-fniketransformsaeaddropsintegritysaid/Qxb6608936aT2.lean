/- Transforms where the cipher is no AEAD; ZZIKETransforms; zzIs. -/
import Derived.Test.Qxb6608936aT
namespace Go.Proofs.Qxb6608936a
open Go.RowKit

set_option maxHeartbeats 2000000 in
set_option maxRecDepth 100000 in
theorem transforms_not (c k i p g : Int) (x1 x2 x3 y1 y2 y3 z1 : Value) (w : World) (hc : (c == 20) = false) :
    Calls Try.prog 6 #[.agg #[.int .u16 c, .int .i64 k, .int .u16 i, x1, x2, x3, .int .u16 p, y1, y2, y3, .int .u16 g, z1]] w (TRet w 4 [.int .u8 1, .int .u16 c, .int .u16 (IntKind.u16.wrap k), .int .u8 2, .int .u16 p, .int .u16 0, .int .u8 3, .int .u16 i, .int .u16 0, .int .u8 4, .int .u16 g, .int .u16 0]) := by
  obtain ⟨i0, hi, hz0, hz1, hz2⟩ := info_parts Try.info28
  have HB := hidd (box6 c k i p g x1 x2 x3 y1 y2 y3 z1 w)
  have HO := hidd (own6 c k i p g x1 x2 x3 y1 y2 y3 z1 w)
  go_enter Try.func6, Try.ntmps6
  go_wp2
  go_region_with (first | (go_at_call 7; refine (cipherT _ _ _).mono ?_; rintro e w' ⟨rfl, rfl⟩) | (go_at_call 8; refine (prfT _ _ _ _ _).mono ?_; rintro e w' ⟨rfl, rfl⟩))
  all_goals
    go_wp2_with fail
    show Calls Try.prog 9 _ (W6 c k i p g x1 x2 x3 y1 y2 y3 z1 w) _
    generalize W6 c k i p g x1 x2 x3 y1 y2 y3 z1 w = W at HB HO ⊢
    refine (aead_any _ _ _).mono ?_
    rintro e W1 ⟨rfl, hW1⟩
    rw [hc]
    have hbw : Below (w.heap.size + 1) W W1 := by rw [hW1]; exact (Below.refl _ _).alloc HB.out.sz _
    have HO1 : Hid (W1.ownsRow (w.heap.size + 1) 28 3 (.slice (some ⟨w.heap.size + 5, 0, none⟩) 2 2) 2 [.int .u8 1, .int .u16 c, .int .u16 (IntKind.u16.wrap k), .int .u8 2, .int .u16 p, .int .u16 0]) := by rw [hW1]; exact HO.out.alloc _
    have hbox1 := HB.out.next hbw
    have HB1 := hidd hbox1
    obtain ⟨b0, b1, b2, b3, b4, b5, b10, b11, bel, sz⟩ := hbox1
    clear hW1 HB HO hbw W
    go_wp2_with fail
    refine (integT _ _ _ _ _).mono ?_
    rintro e W2 ⟨rfl, hW2⟩
    have hb2 : Below (w.heap.size + 1) W1 W2 := by rw [hW2]; exact ((Below.refl _ _).alloc sz _).alloc (by simp; omega) _
    have HO2 := hidd (show W2.ownsRow (w.heap.size + 1) 28 3 _ 2 _ by rw [hW2]; exact (HO1.out.alloc _).alloc _)
    have hsz2 := hb2.size
    clear hW2 HO1 b0 b1 b2 b3 b4 b5 b10 b11
    have c1 : 2 + 1 ≤ maxLen := by decide
    have c3 : w.heap.size + 1 ≤ (W2.alloc (.cells #[.int .u8 3, .int .u16 i, .int .u16 0] 28)).heap.size := by simp; omega
    go_wp2_with (at_builtin; refine wpList_append_own _ rfl (.tmp 15) (.tmp 19) 23 rfl (w.heap.size + 1) 28 i0 _ 3 6 Try.underlying23 hi hz0 hz1 hz2 rfl (by decide) _ 2 _ rfl (HO2.out.alloc _) ⟨W2.heap.size, 0, none⟩ 1 1 _ rfl rfl news28 one28 c1 (by decide) c3 ?_)
    intro v3 W3 hown3 hgrow3 hnil
    have hb23 : Below (w.heap.size + 1) W2 W3 := ((Below.refl _ _).alloc (by omega) _).grown hgrow3 (by simp; omega) (fun j h => (HO2.out.lt j h).1)
    have hbox3 := HB1.out.next (hb2.trans hb23)
    obtain ⟨b0, b1, b2, b3, b4, b5, b10, b11, bel3, sz3⟩ := hbox3
    have HO3 := hidd hown3
    clear hown3 hgrow3 hnil HO2 HB1 bel sz
    go_wp2_with fail
    refine (groupT _ _ _).mono ?_
    rintro e W4 ⟨rfl, hW4⟩
    have hb4 : Below (w.heap.size + 1) W3 W4 := by rw [hW4]; exact ((Below.refl _ _).alloc sz3 _).alloc (by simp; omega) _
    have HO4 := hidd (show W4.ownsRow (w.heap.size + 1) 28 3 _ 3 _ by rw [hW4]; exact (HO3.out.alloc _).alloc _)
    have hsz4 := hb4.size
    clear hW4 HO3 b0 b1 b2 b3 b4 b5 b10 b11
    have c1' : 3 + 1 ≤ maxLen := by decide
    have c3' : w.heap.size + 1 ≤ (W4.alloc (.cells #[.int .u8 4, .int .u16 g, .int .u16 0] 28)).heap.size := by simp; omega
    go_wp2_with (at_builtin; refine wpList_append_own _ rfl (.tmp 21) (.tmp 25) 23 rfl (w.heap.size + 1) 28 i0 _ 3 6 Try.underlying23 hi hz0 hz1 hz2 rfl (by decide) _ 3 _ rfl (HO4.out.alloc _) ⟨W4.heap.size, 0, none⟩ 1 1 _ rfl rfl news28 one28 c1' (by decide) c3' ?_)
    intro v' W5 hown5 hgrow5 _
    obtain ⟨g', cap', rfl⟩ : ∃ g' cap', v' = .slice (some ⟨g', 0, none⟩) 4 cap' := by
      rcases hown5.2 with ⟨_, h⟩ | ⟨g', cap', _, h, _⟩
      · cases h
      · exact ⟨g', cap', h⟩
    have hb5 : Below w.heap.size w W5 := ((bel3.trans (hb4.mono (by omega))).alloc (by omega) _).grown hgrow5 (by simp; omega) (fun j h => by have := (HO4.out.lt j h).1; omega)
    have HR := hidd (own_base hown5 (show w.heap.size ≤ w.heap.size + 1 by omega))
    clear hown5 hgrow5 hi hz0 hz1 hz2 HO4
    go_wp2
    go_ret
    exact ⟨g', cap', rfl, HR.out, hb5⟩

set_option maxHeartbeats 2000000 in
theorem zike_aead (k i p g : Int) (w : World) :
    Calls Try.prog 4 #[.int .u16 20, .int .i64 k, .int .u16 i, .int .u16 p, .int .u16 g] w (TRet w 3 [.int .u8 1, .int .u16 20, .int .u16 (IntKind.u16.wrap k), .int .u8 2, .int .u16 p, .int .u16 0, .int .u8 4, .int .u16 g, .int .u16 0]) := by
  go_enter Try.func4, Try.ntmps4
  go_wp2_with fail
  refine (transforms_aead _ _ _ _ _ _ _ _ _ _ _ _).mono ?_
  rintro e w' ⟨g', cap', rfl, h1, h2⟩
  have H1 := hidd h1
  clear h1
  go_wp2
  go_ret
  exact ⟨g', cap', rfl, H1.out, h2⟩

set_option maxHeartbeats 2000000 in
theorem zike_not (c k i p g : Int) (w : World) (hc : (c == 20) = false) :
    Calls Try.prog 4 #[.int .u16 c, .int .i64 k, .int .u16 i, .int .u16 p, .int .u16 g] w (TRet w 4 [.int .u8 1, .int .u16 c, .int .u16 (IntKind.u16.wrap k), .int .u8 2, .int .u16 p, .int .u16 0, .int .u8 3, .int .u16 i, .int .u16 0, .int .u8 4, .int .u16 g, .int .u16 0]) := by
  go_enter Try.func4, Try.ntmps4
  go_wp2_with fail
  refine (transforms_not _ _ _ _ _ _ _ _ _ _ _ _ _ hc).mono ?_
  rintro e w' ⟨g', cap', rfl, h1, h2⟩
  have H1 := hidd h1
  clear h1
  go_wp2
  go_ret
  exact ⟨g', cap', rfl, H1.out, h2⟩

set_option maxHeartbeats 1000000 in
theorem zzIs_yes (t id kl : Int) (w : World) :
    Calls Try.prog 5 #[.agg #[.int .u8 t, .int .u16 id, .int .u16 kl], .int .u8 t, .int .u16 id, .int .u16 kl] w fun e w' => e = .returned (.bool true) ∧ w' = w.alloc (.cells #[.int .u8 t, .int .u16 id, .int .u16 kl] 28) := by
  go_enter Try.func5, Try.ntmps5
  go_wp2
  go_ret
  exact ⟨rfl, rfl⟩

end Go.Proofs.Qxb6608936a
