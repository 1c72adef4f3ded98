/- The walk of FnIKETransformsAEADDropsIntegrity. -/
import Derived.Test.Qxb6608936aT2
namespace Go.Proofs.Qxb6608936a
open Go.RowKit

/-- Row g holds the cells xs. -/
def RowAt (w : World) (g : Nat) (xs : List Value) : Prop := g < w.heap.size ∧ ∀ j v, xs[j]? = some v → w.cell? ⟨g, j, none⟩ = some v

theorem rowAt_of {w : World} {B g n cap : Nat} {xs : List Value} (h : w.ownsRow B 28 3 (.slice (some ⟨g, 0, none⟩) n cap) n xs) : RowAt w g xs := by
  refine ⟨(h.lt g rfl).2, fun j v hj => ?_⟩
  have hl := h.1
  have hlt := (List.getElem?_eq_some_iff.1 hj).1
  rw [h.cellAt j (by omega)]; exact hj

theorem RowAt.below {w w' : World} {g : Nat} {xs : List Value} (h : RowAt w g xs) (hb : Below w.heap.size w w') : RowAt w' g xs :=
  ⟨Nat.lt_of_lt_of_le h.1 hb.size, fun j v hj => (hb.cell (p := ⟨g, j, none⟩) h.1).trans (h.2 j v hj)⟩

/-- It returns true; nothing that was there has turned. -/
def RetT (w : World) (e : Ending) (w' : World) : Prop := e = .returned (.bool true) ∧ Below w.heap.size w w'

def xsN (c kl i p g : Int) : List Value := [.int .u8 1, .int .u16 c, .int .u16 kl, .int .u8 2, .int .u16 p, .int .u16 0, .int .u8 3, .int .u16 i, .int .u16 0, .int .u8 4, .int .u16 g, .int .u16 0]
def jOf (m : Nat) : Nat := if m ≤ 2 then m else m - 1
def ysA (kl p g : Int) : List Value := [.int .u8 1, .int .u16 20, .int .u16 kl, .int .u8 2, .int .u16 p, .int .u16 0, .int .u8 4, .int .u16 g, .int .u16 0]

theorem dN2 {w wr : World} {q : Nat} (h : Hid (wr = w.drewN q)) (n : Nat) : wr.drewN n = w.drewN (q + n) := by rw [h.out, World.drewN_drewN]

set_option maxHeartbeats 4000000 in
set_option maxRecDepth 100000 in
theorem law_not (c k i p g : Int) (w : World) (hc : (c == 20) = false) :
    Calls Try.prog 3 #[.int .u16 c, .int .i64 k, .int .u16 i, .int .u16 p, .int .u16 g] w (RetT w) := by
  go_enter Try.func3, Try.ntmps3
  go_wp2_with fail
  refine (zike_not c k i p g w hc).mono ?_
  rintro e w1 ⟨gx, capx, rfl, h1, hb1⟩
  have HX1 := hidd (show RowAt w1 gx (xsN c (IntKind.u16.wrap k) i p g) from rowAt_of h1)
  clear h1
  go_wp2_with fail
  refine (zike_aead k i p g w1).mono ?_
  rintro e w2 ⟨gy, capy, rfl, h2, hb2⟩
  have HY2 := hidd (show RowAt w2 gy (ysA (IntKind.u16.wrap k) p g) from rowAt_of h2)
  have HX2 := hidd (HX1.out.below hb2)
  have hbw2 : Below w.heap.size w w2 := hb1.trans (hb2.mono hb1.size)
  clear h2 HX1
  have x0 := HX2.out.2 0 _ rfl
  have x1 := HX2.out.2 1 _ rfl
  have x2 := HX2.out.2 2 _ rfl
  go_wp2_with fail
  refine (zzIs_yes _ _ _ _).mono ?_
  rintro e w3 ⟨rfl, hw3⟩
  have hb3 : Below w2.heap.size w2 w3 := by rw [hw3]; exact (Below.refl _ _).alloc (Nat.le_refl _) _
  have HX3 := hidd (HX2.out.below hb3)
  have HY3 := hidd (HY2.out.below hb3)
  have hbw3 : Below w.heap.size w w3 := hbw2.trans (hb3.mono hbw2.size)
  clear hw3 x0 x1 x2 HX2 HY2
  have y0 := HY3.out.2 0 _ rfl
  have y1 := HY3.out.2 1 _ rfl
  have y2 := HY3.out.2 2 _ rfl
  go_wp2_with fail
  refine (zzIs_yes _ _ _ _).mono ?_
  rintro e w4 ⟨rfl, hw4⟩
  have hb4 : Below w3.heap.size w3 w4 := by rw [hw4]; exact (Below.refl _ _).alloc (Nat.le_refl _) _
  have HX4 := hidd (HX3.out.below hb4)
  have HY4 := hidd (HY3.out.below hb4)
  have hbw4 : Below w.heap.size w w4 := hbw3.trans (hb4.mono hbw3.size)
  clear hw4 y0 y1 y2 HX3 HY3
  go_wp2_with fail
  go_loopw [15] (fun a wr => ∃ (m q : Nat), 1 ≤ m ∧ m ≤ 4 ∧ a = .int .i64 m ∧ wr = w4.drewN q) (fun a _ => 4 - (intOf a).toNat)
  case atStart => exact ⟨1, 0, by omega, by omega, rfl, rfl⟩
  case round =>
    obtain ⟨m, q, hm1, hm2, rfl, hwr⟩ := hrel
    have HX5 : Hid (RowAt wr gx (xsN c (IntKind.u16.wrap k) i p g)) := by rw [hwr]; exact HX4.out.below (below_drewN (Below.refl _ _) q)
    have HY5 : Hid (RowAt wr gy (ysA (IntKind.u16.wrap k) p g)) := by rw [hwr]; exact HY4.out.below (below_drewN (Below.refl _ _) q)
    have hbw5 : Below w.heap.size w wr := by rw [hwr]; exact below_drewN hbw4 q
    have Hw := hidd hwr
    clear hwr
    have t0 := HX5.out.2 0 _ rfl
    have t3 := HX5.out.2 3 _ rfl
    have t6 := HX5.out.2 6 _ rfl
    have t9 := HX5.out.2 9 _ rfl
    rcases (show m = 1 ∨ m = 2 ∨ m = 3 ∨ m = 4 from by omega) with rfl | rfl | rfl | rfl
    · go_wp2
      go_quiet (fail)
      go_wp2
      go_roundw
      case rel => exact ⟨2, _, by omega, by omega, rfl, dN2 Hw _⟩
      case measure => simp [intOf]
    · go_wp2
      go_quiet (fail)
      go_wp2
      go_roundw
      case rel => exact ⟨3, _, by omega, by omega, rfl, dN2 Hw _⟩
      case measure => simp [intOf]
    · go_wp2
      go_quiet (fail)
      go_wp2
      go_roundw
      case rel => exact ⟨4, _, by omega, by omega, rfl, dN2 Hw _⟩
      case measure => simp [intOf]
    · clear t0 t3 t6 t9
      go_wp2_with fail
      go_loopw [16, 17] (fun b a wr => ∃ (m j : Nat), 1 ≤ m ∧ m ≤ 4 ∧ a = .int .i64 m ∧ b = .int .i64 j ∧ Hid (j = jOf m) ∧ RowAt wr gx (xsN c (IntKind.u16.wrap k) i p g) ∧ RowAt wr gy (ysA (IntKind.u16.wrap k) p g) ∧ Below w.heap.size w wr) (fun _ a _ => 4 - (intOf a).toNat)
      case atStart => exact ⟨1, 1, by omega, by omega, rfl, rfl, hidd rfl, HX5.out, HY5.out, hbw5⟩
      case round =>
        clear HX5 HY5 hbw5
        obtain ⟨m, j, hm1, hm2, rfl, rfl, Hj, hX, hY, hbr⟩ := hrel
        have HX := hidd hX
        have HY := hidd hY
        clear hX hY
        rcases (show m = 1 ∨ m = 2 ∨ m = 3 ∨ m = 4 from by omega) with rfl | rfl | rfl | rfl
        · obtain rfl : j = 1 := Hj.out
          have f0 := HX.out.2 3 _ rfl
          have f1 := HX.out.2 4 _ rfl
          have f2 := HX.out.2 5 _ rfl
          have e0 := HY.out.2 3 _ rfl
          have e1 := HY.out.2 4 _ rfl
          have e2 := HY.out.2 5 _ rfl
          go_wp2_with fail
          go_quiet (fail)
          go_wp2
          go_roundw
          case rel => first | exact ⟨2, 2, by omega, by omega, rfl, rfl, hidd rfl, HX.out.below (below_drewN (Below.refl _ _) _), HY.out.below (below_drewN (Below.refl _ _) _), below_drewN hbr _⟩ | repeat (first | exact ⟨⟨2, 2, by omega, by omega, rfl, rfl, hidd rfl, HX.out.below (below_drewN (Below.refl _ _) _), HY.out.below (below_drewN (Below.refl _ _) _), below_drewN hbr _⟩, rfl⟩ | apply Exists.intro)
          case measure => simp [intOf]
        · obtain rfl : j = 2 := Hj.out
          have f0 := HX.out.2 6 _ rfl
          have f1 := HX.out.2 7 _ rfl
          have f2 := HX.out.2 8 _ rfl
          go_wp2_with fail
          refine (zzIs_yes _ _ _ _).mono ?_
          rintro e w6 ⟨rfl, hw6⟩
          have hb6 : Below wr.heap.size wr w6 := by rw [hw6]; exact (Below.refl _ _).alloc (Nat.le_refl _) _
          have HX6 := hidd (HX.out.below hb6)
          have HY6 := hidd (HY.out.below hb6)
          have hbw6 : Below w.heap.size w w6 := hbr.trans (hb6.mono hbr.size)
          clear hw6 f0 f1 f2
          go_wp2_with fail
          go_roundw
          case rel => first | exact ⟨3, 2, by omega, by omega, rfl, rfl, hidd rfl, HX6.out, HY6.out, hbw6⟩ | repeat (first | exact ⟨⟨3, 2, by omega, by omega, rfl, rfl, hidd rfl, HX6.out, HY6.out, hbw6⟩, rfl⟩ | apply Exists.intro)
          case measure => simp [intOf]
        · obtain rfl : j = 2 := Hj.out
          have f0 := HX.out.2 9 _ rfl
          have f1 := HX.out.2 10 _ rfl
          have f2 := HX.out.2 11 _ rfl
          have e0 := HY.out.2 6 _ rfl
          have e1 := HY.out.2 7 _ rfl
          have e2 := HY.out.2 8 _ rfl
          go_wp2_with fail
          go_quiet (fail)
          go_wp2
          go_roundw
          case rel => first | exact ⟨4, 3, by omega, by omega, rfl, rfl, hidd rfl, HX.out.below (below_drewN (Below.refl _ _) _), HY.out.below (below_drewN (Below.refl _ _) _), below_drewN hbr _⟩ | repeat (first | exact ⟨⟨4, 3, by omega, by omega, rfl, rfl, hidd rfl, HX.out.below (below_drewN (Below.refl _ _) _), HY.out.below (below_drewN (Below.refl _ _) _), below_drewN hbr _⟩, rfl⟩ | apply Exists.intro)
          case measure => simp [intOf]
        · obtain rfl : j = 3 := Hj.out
          have e3 := HY.out.2 3 _ rfl
          have e4 := HY.out.2 4 _ rfl
          have e5 := HY.out.2 5 _ rfl
          go_wp2_with fail
          refine (zzIs_yes _ _ _ _).mono ?_
          rintro e w6 ⟨rfl, hw6⟩
          have hb6 : Below wr.heap.size wr w6 := by rw [hw6]; exact (Below.refl _ _).alloc (Nat.le_refl _) _
          have HY6 := hidd (HY.out.below hb6)
          have hbw6 : Below w.heap.size w w6 := hbr.trans (hb6.mono hbr.size)
          clear hw6 e3 e4 e5
          have e6 := HY6.out.2 6 _ rfl
          have e7 := HY6.out.2 7 _ rfl
          have e8 := HY6.out.2 8 _ rfl
          go_wp2_with fail
          refine (zzIs_yes _ _ _ _).mono ?_
          rintro e w7 ⟨rfl, hw7⟩
          have hb7 : Below w6.heap.size w6 w7 := by rw [hw7]; exact (Below.refl _ _).alloc (Nat.le_refl _) _
          clear hw7 e6 e7 e8
          go_wp2_with fail
          go_ret
          exact ⟨rfl, hbw6.trans (hb7.mono hbw6.size)⟩

set_option maxHeartbeats 4000000 in
set_option maxRecDepth 100000 in
theorem law_aead (k i p g : Int) (w : World) :
    Calls Try.prog 3 #[.int .u16 20, .int .i64 k, .int .u16 i, .int .u16 p, .int .u16 g] w (RetT w) := by
  go_enter Try.func3, Try.ntmps3
  go_wp2_with fail
  refine (zike_aead k i p g w).mono ?_
  rintro e w1 ⟨gx, capx, rfl, h1, hb1⟩
  have HX1 := hidd (show RowAt w1 gx (ysA (IntKind.u16.wrap k) p g) from rowAt_of h1)
  clear h1
  go_wp2_with fail
  refine (zike_aead k i p g w1).mono ?_
  rintro e w2 ⟨gy, capy, rfl, h2, hb2⟩
  have HY2 := hidd (show RowAt w2 gy (ysA (IntKind.u16.wrap k) p g) from rowAt_of h2)
  have HX2 := hidd (HX1.out.below hb2)
  have hbw2 : Below w.heap.size w w2 := hb1.trans (hb2.mono hb1.size)
  clear h2 HX1
  have x0 := HX2.out.2 0 _ rfl
  have x1 := HX2.out.2 1 _ rfl
  have x2 := HX2.out.2 2 _ rfl
  go_wp2_with fail
  refine (zzIs_yes _ _ _ _).mono ?_
  rintro e w3 ⟨rfl, hw3⟩
  have hb3 : Below w2.heap.size w2 w3 := by rw [hw3]; exact (Below.refl _ _).alloc (Nat.le_refl _) _
  have HX3 := hidd (HX2.out.below hb3)
  have HY3 := hidd (HY2.out.below hb3)
  have hbw3 : Below w.heap.size w w3 := hbw2.trans (hb3.mono hbw2.size)
  clear hw3 x0 x1 x2 HX2 HY2
  have y0 := HY3.out.2 0 _ rfl
  have y1 := HY3.out.2 1 _ rfl
  have y2 := HY3.out.2 2 _ rfl
  go_wp2_with fail
  refine (zzIs_yes _ _ _ _).mono ?_
  rintro e w4 ⟨rfl, hw4⟩
  have hb4 : Below w3.heap.size w3 w4 := by rw [hw4]; exact (Below.refl _ _).alloc (Nat.le_refl _) _
  have HX4 := hidd (HX3.out.below hb4)
  have HY4 := hidd (HY3.out.below hb4)
  have hbw4 : Below w.heap.size w w4 := hbw3.trans (hb4.mono hbw3.size)
  clear hw4 y0 y1 y2 HX3 HY3
  go_wp2_with fail
  go_loopw [15] (fun a wr => ∃ (m q : Nat), 1 ≤ m ∧ m ≤ 3 ∧ a = .int .i64 m ∧ wr = w4.drewN q) (fun a _ => 3 - (intOf a).toNat)
  case atStart => exact ⟨1, 0, by omega, by omega, rfl, rfl⟩
  case round =>
    obtain ⟨m, q, hm1, hm2, rfl, hwr⟩ := hrel
    have HX5 : Hid (RowAt wr gx (ysA (IntKind.u16.wrap k) p g)) := by rw [hwr]; exact HX4.out.below (below_drewN (Below.refl _ _) q)
    have HY5 : Hid (RowAt wr gy (ysA (IntKind.u16.wrap k) p g)) := by rw [hwr]; exact HY4.out.below (below_drewN (Below.refl _ _) q)
    have hbw5 : Below w.heap.size w wr := by rw [hwr]; exact below_drewN hbw4 q
    have Hw := hidd hwr
    clear hwr
    have t0 := HX5.out.2 0 _ rfl
    have t3 := HX5.out.2 3 _ rfl
    have t6 := HX5.out.2 6 _ rfl
    rcases (show m = 1 ∨ m = 2 ∨ m = 3 from by omega) with rfl | rfl | rfl
    · go_wp2
      go_quiet (fail)
      go_wp2
      go_roundw
      case rel => exact ⟨2, _, by omega, by omega, rfl, dN2 Hw _⟩
      case measure => simp [intOf]
    · go_wp2
      go_quiet (fail)
      go_wp2
      go_roundw
      case rel => exact ⟨3, _, by omega, by omega, rfl, dN2 Hw _⟩
      case measure => simp [intOf]
    · clear t0 t3 t6
      go_wp2_with fail
      go_loopw [16, 17] (fun b a wr => ∃ (m j : Nat), 1 ≤ m ∧ m ≤ 3 ∧ a = .int .i64 m ∧ b = .int .i64 j ∧ Hid (j = m) ∧ RowAt wr gx (ysA (IntKind.u16.wrap k) p g) ∧ RowAt wr gy (ysA (IntKind.u16.wrap k) p g) ∧ Below w.heap.size w wr) (fun _ a _ => 3 - (intOf a).toNat)
      case atStart => exact ⟨1, 1, by omega, by omega, rfl, rfl, hidd rfl, HX5.out, HY5.out, hbw5⟩
      case round =>
        clear HX5 HY5 hbw5
        obtain ⟨m, j, hm1, hm2, rfl, rfl, Hj, hX, hY, hbr⟩ := hrel
        have HX := hidd hX
        have HY := hidd hY
        clear hX hY
        rcases (show m = 1 ∨ m = 2 ∨ m = 3 from by omega) with rfl | rfl | rfl
        · obtain rfl : j = 1 := Hj.out
          have f0 := HX.out.2 3 _ rfl
          have f1 := HX.out.2 4 _ rfl
          have f2 := HX.out.2 5 _ rfl
          have e0 := HY.out.2 3 _ rfl
          have e1 := HY.out.2 4 _ rfl
          have e2 := HY.out.2 5 _ rfl
          go_wp2_with fail
          go_quiet (fail)
          go_wp2
          go_roundw
          case rel => first | exact ⟨2, 2, by omega, by omega, rfl, rfl, hidd rfl, HX.out.below (below_drewN (Below.refl _ _) _), HY.out.below (below_drewN (Below.refl _ _) _), below_drewN hbr _⟩ | repeat (first | exact ⟨⟨2, 2, by omega, by omega, rfl, rfl, hidd rfl, HX.out.below (below_drewN (Below.refl _ _) _), HY.out.below (below_drewN (Below.refl _ _) _), below_drewN hbr _⟩, rfl⟩ | apply Exists.intro)
          case measure => simp [intOf]
        · obtain rfl : j = 2 := Hj.out
          have f0 := HX.out.2 6 _ rfl
          have f1 := HX.out.2 7 _ rfl
          have f2 := HX.out.2 8 _ rfl
          have e0 := HY.out.2 6 _ rfl
          have e1 := HY.out.2 7 _ rfl
          have e2 := HY.out.2 8 _ rfl
          go_wp2_with fail
          go_quiet (fail)
          go_wp2
          go_roundw
          case rel => first | exact ⟨3, 3, by omega, by omega, rfl, rfl, hidd rfl, HX.out.below (below_drewN (Below.refl _ _) _), HY.out.below (below_drewN (Below.refl _ _) _), below_drewN hbr _⟩ | repeat (first | exact ⟨⟨3, 3, by omega, by omega, rfl, rfl, hidd rfl, HX.out.below (below_drewN (Below.refl _ _) _), HY.out.below (below_drewN (Below.refl _ _) _), below_drewN hbr _⟩, rfl⟩ | apply Exists.intro)
          case measure => simp [intOf]
        · obtain rfl : j = 3 := Hj.out
          have e3 := HY.out.2 3 _ rfl
          have e4 := HY.out.2 4 _ rfl
          have e5 := HY.out.2 5 _ rfl
          go_wp2_with fail
          refine (zzIs_yes _ _ _ _).mono ?_
          rintro e w6 ⟨rfl, hw6⟩
          have hb6 : Below wr.heap.size wr w6 := by rw [hw6]; exact (Below.refl _ _).alloc (Nat.le_refl _) _
          have HY6 := hidd (HY.out.below hb6)
          have hbw6 : Below w.heap.size w w6 := hbr.trans (hb6.mono hbr.size)
          clear hw6 e3 e4 e5
          have e6 := HY6.out.2 6 _ rfl
          have e7 := HY6.out.2 7 _ rfl
          have e8 := HY6.out.2 8 _ rfl
          go_wp2_with fail
          refine (zzIs_yes _ _ _ _).mono ?_
          rintro e w7 ⟨rfl, hw7⟩
          have hb7 : Below w6.heap.size w6 w7 := by rw [hw7]; exact (Below.refl _ _).alloc (Nat.le_refl _) _
          clear hw7 e6 e7 e8
          go_wp2_with fail
          go_ret
          exact ⟨rfl, hbw6.trans (hb7.mono hbw6.size)⟩

end Go.Proofs.Qxb6608936a
