/- Walks: the transforms. -/
import Derived.Test.Qxb6608936aRows
import Derived.WalkKit
import Derived.WalkSpells
import Derived.WalkLawsBesides
import Derived.WalkSmall
import Derived.Deep.QuietTactic
import Derived.BigQuiet
import Derived.Deep.RegionWith
namespace Go.Proofs.Qxb6608936a
open Go.RowKit

theorem hidd {p : Prop} (h : p) : Hid p := h

/-- A transform as a value. -/
def tv (t id kl : Int) : Array Value := #[.int .u8 t, .int .u16 id, .int .u16 kl]

set_option maxHeartbeats 400000 in
theorem cipherT (id kl : Int) (w : World) :
    Calls Try.prog 7 #[.agg #[.int .u16 id, .int .i64 kl]] w fun e w' => e = .returned (.agg #[.int .u8 1, .int .u16 id, .int .u16 (IntKind.u16.wrap kl)]) ∧ w' = (w.alloc (.cells #[.int .u16 id, .int .i64 kl] 31)).alloc (.cells #[.int .u8 1, .int .u16 id, .int .u16 (IntKind.u16.wrap kl)] 28) := by
  go_enter Try.func7, Try.ntmps7
  go_wp2
  exact bodyPost_ret (v := .agg #[.int .u8 1, .int .u16 id, .int .u16 (IntKind.u16.wrap kl)]) (by simp [results, Try.results7, go_sem]) rfl ⟨rfl, rfl⟩

set_option maxHeartbeats 400000 in
theorem aead_any (id kl : Int) (w : World) :
    Calls Try.prog 9 #[.agg #[.int .u16 id, .int .i64 kl]] w fun e w' => e = .returned (.bool (id == 20)) ∧ w' = w.alloc (.cells #[.int .u16 id, .int .i64 kl] 31) := by
  go_enter Try.func9, Try.ntmps9
  go_wp2
  go_ret
  exact ⟨rfl, rfl⟩

set_option maxHeartbeats 400000 in
theorem prfT (id : Int) (a : Value) (b : Value) (c : Value) (w : World) :
    Calls Try.prog 8 #[.agg #[.int .u16 id, a, b, c]] w fun e w' => e = .returned (.agg #[.int .u8 2, .int .u16 id, .int .u16 0]) ∧ w' = (w.alloc (.cells #[.int .u16 id, a, b, c] 37)).alloc (.cells #[.int .u8 2, .int .u16 id, .int .u16 0] 28) := by
  go_enter Try.func8, Try.ntmps8
  go_wp2
  exact bodyPost_ret (v := .agg #[.int .u8 2, .int .u16 id, .int .u16 0]) (by simp [results, Try.results8, go_sem]) rfl ⟨rfl, rfl⟩

set_option maxHeartbeats 400000 in
theorem integT (id : Int) (a : Value) (b : Value) (c : Value) (w : World) :
    Calls Try.prog 10 #[.agg #[.int .u16 id, a, b, c]] w fun e w' => e = .returned (.agg #[.int .u8 3, .int .u16 id, .int .u16 0]) ∧ w' = (w.alloc (.cells #[.int .u16 id, a, b, c] 34)).alloc (.cells #[.int .u8 3, .int .u16 id, .int .u16 0] 28) := by
  go_enter Try.func10, Try.ntmps10
  go_wp2
  exact bodyPost_ret (v := .agg #[.int .u8 3, .int .u16 id, .int .u16 0]) (by simp [results, Try.results10, go_sem]) rfl ⟨rfl, rfl⟩

set_option maxHeartbeats 400000 in
theorem groupT (id : Int) (a : Value) (w : World) :
    Calls Try.prog 11 #[.agg #[.int .u16 id, a]] w fun e w' => e = .returned (.agg #[.int .u8 4, .int .u16 id, .int .u16 0]) ∧ w' = (w.alloc (.cells #[.int .u16 id, a] 40)).alloc (.cells #[.int .u8 4, .int .u16 id, .int .u16 0] 28) := by
  go_enter Try.func11, Try.ntmps11
  go_wp2
  exact bodyPost_ret (v := .agg #[.int .u8 4, .int .u16 id, .int .u16 0]) (by simp [results, Try.results11, go_sem]) rfl ⟨rfl, rfl⟩

theorem Try.info28 : (Try.prog.info? 28).map (fun i => (i.zero, i.size, i.bytes)) = some (some (.agg #[.int .u8 0, .int .u16 0, .int .u16 0]), 3, 6) := by kernel_rfl

/-- The world behind the first statement. -/
def W6 (c k i p g : Int) (x1 x2 x3 y1 y2 y3 z1 : Value) (w : World) : World :=
  ((((((w.alloc (.cells #[.int .u16 c, .int .i64 k, .int .u16 i, x1, x2, x3, .int .u16 p, y1, y2, y3, .int .u16 g, z1] 42)).alloc (.cells #[.int .u16 c, .int .i64 k] 31)).alloc (.cells #[.int .u8 1, .int .u16 c, .int .u16 (IntKind.u16.wrap k)] 28)).alloc
    (.cells #[.int .u16 p, y1, y2, y3] 37)).alloc (.cells #[.int .u8 2, .int .u16 p, .int .u16 0] 28)).alloc (.cells #[.int .u8 1, .int .u16 c, .int .u16 (IntKind.u16.wrap k), .int .u8 2, .int .u16 p, .int .u16 0] 28)).drew

/-- What the rest reads of it. -/
structure Box (w W : World) (c k i g : Int) (x1 x2 x3 z1 : Value) : Prop where
  b0 : W.cell? ⟨w.heap.size, 0, none⟩ = some (.int .u16 c)
  b1 : W.cell? ⟨w.heap.size, 1, none⟩ = some (.int .i64 k)
  b2 : W.cell? ⟨w.heap.size, 2, none⟩ = some (.int .u16 i)
  b3 : W.cell? ⟨w.heap.size, 3, none⟩ = some x1
  b4 : W.cell? ⟨w.heap.size, 4, none⟩ = some x2
  b5 : W.cell? ⟨w.heap.size, 5, none⟩ = some x3
  b10 : W.cell? ⟨w.heap.size, 10, none⟩ = some (.int .u16 g)
  b11 : W.cell? ⟨w.heap.size, 11, none⟩ = some z1
  bel : Below w.heap.size w W
  sz : w.heap.size + 1 ≤ W.heap.size

theorem Box.next {w W W' : World} {c k i g : Int} {x1 x2 x3 z1 : Value} (h : Box w W c k i g x1 x2 x3 z1) (hb : Below (w.heap.size + 1) W W') : Box w W' c k i g x1 x2 x3 z1 := by
  have hs := hb.size
  have hz := h.sz
  have e : ∀ o, W'.cell? ⟨w.heap.size, o, none⟩ = W.cell? ⟨w.heap.size, o, none⟩ := fun o => hb.cell (p := ⟨w.heap.size, o, none⟩) (by simp)
  exact ⟨(e _).trans h.b0, (e _).trans h.b1, (e _).trans h.b2, (e _).trans h.b3, (e _).trans h.b4, (e _).trans h.b5, (e _).trans h.b10, (e _).trans h.b11, h.bel.trans (hb.mono (by omega)), by omega⟩

theorem box6 (c k i p g : Int) (x1 x2 x3 y1 y2 y3 z1 : Value) (w : World) : Box w (W6 c k i p g x1 x2 x3 y1 y2 y3 z1 w) c k i g x1 x2 x3 z1 := by
  have e : ∀ o, (W6 c k i p g x1 x2 x3 y1 y2 y3 z1 w).cell? ⟨w.heap.size, o, none⟩ = #[.int .u16 c, .int .i64 k, .int .u16 i, x1, x2, x3, .int .u16 p, y1, y2, y3, .int .u16 g, z1][o]? := by
    intro o
    show ((((((w.alloc _).alloc _).alloc _).alloc _).alloc _).alloc _).cell? _ = _
    rw [World.cell?_alloc_past _ _ _ (by simp; omega), World.cell?_alloc_past _ _ _ (by simp; omega), World.cell?_alloc_past _ _ _ (by simp; omega), World.cell?_alloc_past _ _ _ (by simp; omega), World.cell?_alloc_past _ _ _ (by simp), World.cell?_alloc_at _ _ _ _ rfl]
  refine ⟨e 0, e 1, e 2, e 3, e 4, e 5, e 10, e 11, ?_, ?_⟩
  · exact ((((((Below.refl w.heap.size w).alloc (Nat.le_refl _) _).alloc (by simp) _).alloc (by simp; omega) _).alloc (by simp; omega) _).alloc (by simp; omega) _).alloc (by simp; omega) _ |>.drew
  · show _ ≤ (((((((w.alloc _).alloc _).alloc _).alloc _).alloc _).alloc _).drew).heap.size; simp

theorem own6 (c k i p g : Int) (x1 x2 x3 y1 y2 y3 z1 : Value) (w : World) : (W6 c k i p g x1 x2 x3 y1 y2 y3 z1 w).ownsRow (w.heap.size + 1) 28 3 (.slice (some ⟨w.heap.size + 5, 0, none⟩) 2 2) 2 [.int .u8 1, .int .u16 c, .int .u16 (IntKind.u16.wrap k), .int .u8 2, .int .u16 p, .int .u16 0] := by
  have h := World.ownsRow_lit (base := w.heap.size + 1) (e := 28) (size := 3) (((((w.alloc (.cells #[.int .u16 c, .int .i64 k, .int .u16 i, x1, x2, x3, .int .u16 p, y1, y2, y3, .int .u16 g, z1] 42)).alloc (.cells #[.int .u16 c, .int .i64 k] 31)).alloc (.cells #[.int .u8 1, .int .u16 c, .int .u16 (IntKind.u16.wrap k)] 28)).alloc
    (.cells #[.int .u16 p, y1, y2, y3] 37)).alloc (.cells #[.int .u8 2, .int .u16 p, .int .u16 0] 28)) #[.int .u8 1, .int .u16 c, .int .u16 (IntKind.u16.wrap k), .int .u8 2, .int .u16 p, .int .u16 0] 2 (by simp) (by decide) rfl
  have h' := h.drew
  have e : (((((w.alloc (.cells #[.int .u16 c, .int .i64 k, .int .u16 i, x1, x2, x3, .int .u16 p, y1, y2, y3, .int .u16 g, z1] 42)).alloc (.cells #[.int .u16 c, .int .i64 k] 31)).alloc (.cells #[.int .u8 1, .int .u16 c, .int .u16 (IntKind.u16.wrap k)] 28)).alloc
    (.cells #[.int .u16 p, y1, y2, y3] 37)).alloc (.cells #[.int .u8 2, .int .u16 p, .int .u16 0] 28)).heap.size = w.heap.size + 5 := by simp
  rw [e] at h'
  exact h'

/-- What Transforms leaves: a slice of n transforms, its cells xs. -/
def TRet (w : World) (n : Nat) (xs : List Value) (e : Ending) (w' : World) : Prop :=
  ∃ g cap, e = .returned (.slice (some ⟨g, 0, none⟩) n cap) ∧ w'.ownsRow w.heap.size 28 3 (.slice (some ⟨g, 0, none⟩) n cap) n xs ∧ Below w.heap.size w w'

theorem news28 {w : World} {t id kl : Int} : ∀ j u, [Value.int .u8 t, .int .u16 id, .int .u16 kl][j]? = some u → (w.alloc (.cells #[.int .u8 t, .int .u16 id, .int .u16 kl] 28)).cell? ((⟨w.heap.size, 0, none⟩ : Addr).add j) = some u := by
  intro j u hj
  match j, hj with
  | 0, hj => simp at hj; subst hj; simp [Addr.add]
  | 1, hj => simp at hj; subst hj; simp [Addr.add]
  | 2, hj => simp at hj; subst hj; simp [Addr.add]

theorem one28 {t id kl : Int} : ∀ u ∈ [Value.int .u8 t, .int .u16 id, .int .u16 kl], u.oneCell' = true := by
  intro u hu; simp at hu; rcases hu with rfl | rfl | rfl <;> rfl

theorem own_base {w : World} {B B' e size n : Nat} {v : Value} {xs : List Value} (h : w.ownsRow B e size v n xs) (hB : B' ≤ B) : w.ownsRow B' e size v n xs := by
  refine ⟨h.1, ?_⟩
  rcases h.2 with h | ⟨g, c, cur, h1, h2, r⟩
  · exact .inl h
  · exact .inr ⟨g, c, cur, h1, Nat.le_trans hB h2, r⟩

set_option maxHeartbeats 2000000 in
set_option maxRecDepth 100000 in
theorem transforms_aead (k i p g : Int) (x1 x2 x3 y1 y2 y3 z1 : Value) (w : World) :
    Calls Try.prog 6 #[.agg #[.int .u16 20, .int .i64 k, .int .u16 i, x1, x2, x3, .int .u16 p, y1, y2, y3, .int .u16 g, z1]] w (TRet w 3 [.int .u8 1, .int .u16 20, .int .u16 (IntKind.u16.wrap k), .int .u8 2, .int .u16 p, .int .u16 0, .int .u8 4, .int .u16 g, .int .u16 0]) := by
  obtain ⟨i0, hi, hz0, hz1, hz2⟩ := info_parts Try.info28
  have HB := hidd (box6 20 k i p g x1 x2 x3 y1 y2 y3 z1 w)
  have HO := hidd (own6 20 k i p g x1 x2 x3 y1 y2 y3 z1 w)
  go_enter Try.func6, Try.ntmps6
  go_wp2
  go_region_with (first | (go_at_call 7; refine (cipherT _ _ _).mono ?_; rintro e w' ⟨rfl, rfl⟩) | (go_at_call 8; refine (prfT _ _ _ _ _).mono ?_; rintro e w' ⟨rfl, rfl⟩))
  all_goals
    go_wp2_with fail
    show Calls Try.prog 9 _ (W6 20 k i p g x1 x2 x3 y1 y2 y3 z1 w) _
    generalize W6 20 k i p g x1 x2 x3 y1 y2 y3 z1 w = W at HB HO ⊢
    refine (aead_any _ _ _).mono ?_
    rintro e W1 ⟨rfl, hW1⟩
    have hbw : Below (w.heap.size + 1) W W1 := by rw [hW1]; exact (Below.refl _ _).alloc HB.out.sz _
    have HO1 : Hid (W1.ownsRow (w.heap.size + 1) 28 3 (.slice (some ⟨w.heap.size + 5, 0, none⟩) 2 2) 2 [.int .u8 1, .int .u16 20, .int .u16 (IntKind.u16.wrap k), .int .u8 2, .int .u16 p, .int .u16 0]) := by rw [hW1]; exact HO.out.alloc _
    obtain ⟨b0, b1, b2, b3, b4, b5, b10, b11, bel, sz⟩ := HB.out.next hbw
    clear hW1 HB HO hbw W
    go_wp2_with fail
    refine (groupT _ _ _).mono ?_
    rintro e W2 ⟨rfl, hW2⟩
    have hb2 : Below (w.heap.size + 1) W1 W2 := by rw [hW2]; exact ((Below.refl _ _).alloc sz _).alloc (by simp; omega) _
    have HO2 := hidd (show W2.ownsRow (w.heap.size + 1) 28 3 _ 2 _ by rw [hW2]; exact (HO1.out.alloc _).alloc _)
    have hsz2 := hb2.size
    clear hW2 HO1 b0 b1 b2 b3 b4 b5 b10 b11
    have c1 : 2 + 1 ≤ maxLen := by decide
    have c3 : w.heap.size + 1 ≤ (W2.alloc (.cells #[.int .u8 4, .int .u16 g, .int .u16 0] 28)).heap.size := by simp; omega
    go_wp2_with (at_builtin; refine wpList_append_own _ rfl (.tmp 21) (.tmp 25) 23 rfl (w.heap.size + 1) 28 i0 _ 3 6 Try.underlying23 hi hz0 hz1 hz2 rfl (by decide) _ 2 _ rfl (HO2.out.alloc _) ⟨W2.heap.size, 0, none⟩ 1 1 _ rfl rfl news28 one28 c1 (by decide) c3 ?_)
    intro v' W3 hown3 hgrow3 hnil
    obtain ⟨g', cap', rfl⟩ : ∃ g' cap', v' = .slice (some ⟨g', 0, none⟩) 3 cap' := by
      rcases hown3.2 with ⟨h, _⟩ | ⟨g', cap', _, h, _⟩
      · exact (hnil h).elim
      · exact ⟨g', cap', h⟩
    have hb3 : Below w.heap.size w W3 := ((bel.trans (hb2.mono (by omega))).alloc (by omega) _).grown hgrow3 (by simp; omega) (fun j h => by have := (HO2.out.lt j h).1; omega)
    have HR := hidd (own_base hown3 (show w.heap.size ≤ w.heap.size + 1 by omega))
    clear hown3 hgrow3 hnil hi hz0 hz1 hz2 HO2
    go_wp2
    go_ret
    exact ⟨g', cap', rfl, HR.out, hb3⟩

end Go.Proofs.Qxb6608936a
