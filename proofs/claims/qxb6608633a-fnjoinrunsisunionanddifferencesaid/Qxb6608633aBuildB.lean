/- build over runs: a step. -/
import Derived.Test.Qxb6608633aBuild
namespace Go.Proofs.Qxb6608633a
open Go.RowKit

set_option maxHeartbeats 4000000 in
set_option maxRecDepth 100000 in
theorem buildAt_room (m : Nat) (h1 : 1 ≤ m) (hm : m ≤ 1048577) (ih : ∀ k, k < m → BuildAt k) (an ae : Option Addr) (N lo nc E eo ec : Nat) (xs : List Run) (w : World) (hx : xs.length = m) (hadr : m ≠ 0 → an = some ⟨N, lo, none⟩ ∧ ae = some ⟨E, eo, none⟩ ∧ m ≤ nc ∧ m ≤ ec ∧ E ≠ N) (hroom : Room w N lo m) (hruns : RunsAt w E eo xs) (hcase : m / 2 + 1 < nc) :
    Calls Try.prog 63 #[.slice an m nc, .slice ae m ec] w (BuildRet w N lo m xs) := by
  obtain ⟨rfl, rfl, hnc, hec, hEN⟩ := hadr (by omega)
  obtain ⟨mid, hmid⟩ : ∃ mid, mid = m / 2 := ⟨_, rfl⟩
  have hml : mid < m := by omega
  obtain ⟨⟨a, b⟩, hxm⟩ : ∃ x, xs[mid]? = some x := ⟨xs[mid], by simp [hx, hml]⟩
  obtain ⟨he0, he1⟩ := hruns mid _ hxm
  have hr := fun i (hi : i < 5) => hroom (mid * 5 + i) (by omega)
  obtain ⟨c0, hc0⟩ := Option.isSome_iff_exists.1 (hr 0 (by omega)).1
  obtain ⟨c1, hc1⟩ := Option.isSome_iff_exists.1 (hr 1 (by omega)).1
  obtain ⟨c2, hc2⟩ := Option.isSome_iff_exists.1 (hr 2 (by omega)).1
  obtain ⟨c3, hc3⟩ := Option.isSome_iff_exists.1 (hr 3 (by omega)).1
  obtain ⟨c4, hc4⟩ := Option.isSome_iff_exists.1 (hr 4 (by omega)).1
  have f0 := (hr 0 (by omega)).2
  have f1 := (hr 1 (by omega)).2
  have f2 := (hr 2 (by omega)).2
  have f3 := (hr 3 (by omega)).2
  have f4 := (hr 4 (by omega)).2
  simp only [← Nat.add_assoc, Nat.add_zero] at hc0 hc1 hc2 hc3 hc4 f0 f1 f2 f3 f4
  have hq : (m : Int).tdiv 2 = (mid : Int) := by rw [Int.tdiv_eq_ediv_of_nonneg (by omega)]; omega
  have hm0 : (m : Int) ≠ 0 := by omega
  have Hroom := hidd hroom
  have Hruns := hidd hruns
  have Hxm := hidd hxm
  rw [← hmid] at hcase
  have Hcase := hidd hcase
  clear hcase
  have Hmid := hidd hmid
  have Hih := hidd ih
  clear hroom hruns hxm hmid hr hadr ih
  go_enter Try.func63, Try.ntmps63
  go_wp2
  have hu1 : Upd w (((w.setCell ⟨N, lo + mid * 5, none⟩ (.int .u64 a)).setCell ⟨N, lo + mid * 5 + 1, none⟩ (.int .u64 b)).setCell ⟨N, lo + mid * 5 + 4, none⟩ (.int .i64 m)) N (lo + mid * 5) (lo + mid * 5 + 5) :=
    (((Upd.refl w N (lo + mid * 5) (lo + mid * 5 + 5)).set _ (by omega) (by omega)).set _ (by omega) (by omega)).set _ (by omega) (by omega)
  have d0 : (((w.setCell ⟨N, lo + mid * 5, none⟩ (.int .u64 a)).setCell ⟨N, lo + mid * 5 + 1, none⟩ (.int .u64 b)).setCell ⟨N, lo + mid * 5 + 4, none⟩ (.int .i64 m)).cell? ⟨N, lo + mid * 5, none⟩ = some (.int .u64 a) := cell_set_ne (cell_set_ne (cell_set_eq hc0) (by omega)) (by omega)
  have d1 : (((w.setCell ⟨N, lo + mid * 5, none⟩ (.int .u64 a)).setCell ⟨N, lo + mid * 5 + 1, none⟩ (.int .u64 b)).setCell ⟨N, lo + mid * 5 + 4, none⟩ (.int .i64 m)).cell? ⟨N, lo + mid * 5 + 1, none⟩ = some (.int .u64 b) := cell_set_ne (cell_set_eq (cell_set_ne hc1 (by omega))) (by omega)
  have d2 : (((w.setCell ⟨N, lo + mid * 5, none⟩ (.int .u64 a)).setCell ⟨N, lo + mid * 5 + 1, none⟩ (.int .u64 b)).setCell ⟨N, lo + mid * 5 + 4, none⟩ (.int .i64 m)).cell? ⟨N, lo + mid * 5 + 2, none⟩ = some c2 := cell_set_ne (cell_set_ne (cell_set_ne hc2 (by omega)) (by omega)) (by omega)
  have d3 : (((w.setCell ⟨N, lo + mid * 5, none⟩ (.int .u64 a)).setCell ⟨N, lo + mid * 5 + 1, none⟩ (.int .u64 b)).setCell ⟨N, lo + mid * 5 + 4, none⟩ (.int .i64 m)).cell? ⟨N, lo + mid * 5 + 3, none⟩ = some c3 := cell_set_ne (cell_set_ne (cell_set_ne hc3 (by omega)) (by omega)) (by omega)
  have d4 : (((w.setCell ⟨N, lo + mid * 5, none⟩ (.int .u64 a)).setCell ⟨N, lo + mid * 5 + 1, none⟩ (.int .u64 b)).setCell ⟨N, lo + mid * 5 + 4, none⟩ (.int .i64 m)).cell? ⟨N, lo + mid * 5 + 4, none⟩ = some (.int .i64 m) := cell_set_eq (cell_set_ne (cell_set_ne hc4 (by omega)) (by omega))
  clear he0 he1 hc0 hc1 hc2 hc3 hc4 f0 f1 f4
  generalize (((w.setCell ⟨N, lo + mid * 5, none⟩ (.int .u64 a)).setCell ⟨N, lo + mid * 5 + 1, none⟩ (.int .u64 b)).setCell ⟨N, lo + mid * 5 + 4, none⟩ (.int .i64 m)) = W1 at hu1 d0 d1 d2 d3 d4 ⊢
  have g2 : W1.frozen? ⟨N, lo + mid * 5 + 2, none⟩ = false := (hu1.frozen _).trans f2
  have g3 : W1.frozen? ⟨N, lo + mid * 5 + 3, none⟩ = false := (hu1.frozen _).trans f3
  have Hr1 := hidd (Hroom.out.upd hu1)
  have Hx1 : Hid (RunsAt W1 E eo xs) := fun i x hi => ⟨(hu1.other (p := ⟨E, eo + i * 2, none⟩) hEN).trans (Hruns.out i x hi).1, (hu1.other (p := ⟨E, eo + i * 2 + 1, none⟩) hEN).trans (Hruns.out i x hi).2⟩
  have hx1l : (xs.take mid).length = mid := by rw [List.length_take]; omega
  have H3 := hidd (Hih.out mid hml (some ⟨N, lo, none⟩) (some ⟨E, eo, none⟩) N lo nc E eo ec (xs.take mid) W1.drew hx1l (fun _ => ⟨rfl, rfl, by omega, by omega, hEN⟩) (fun j hj => Hr1.out j (by omega)) (fun i x hi => Hx1.out i x (by rw [List.getElem?_take] at hi; split at hi; exact hi; cases hi)))
  clear f2 f3 Hroom Hruns
  generalize ht : lo + mid * 5 = t at *
  have Ht := hidd ht
  clear ht
  go_region_with (go_at_call 63; refine (H3.out).mono ?_; rintro e w2 ⟨pl, Tl, rfl, htl, hll, hu2⟩; have d2' : w2.cell? ⟨N, t + 2, none⟩ = some c2 := (hu2.cell _ (.inr (by have := Ht.out; omega))).trans d2; have g2' : w2.frozen? ⟨N, t + 2, none⟩ = false := (hu2.frozen _).trans g2; have Htl := hidd htl; have Hll := hidd hll; clear htl hll)
  all_goals
    have hlt : lo + mid * 5 = t := Ht.out
    have hu2' : Upd W1 w2 N lo t := by rw [← hlt]; exact ⟨hu2.os, hu2.tape, hu2.output, hu2.size, hu2.block, hu2.cell, hu2.there, hu2.frozen⟩
    have e0 : (w2.setCell ⟨N, t + 2, none⟩ (.pointer pl)).cell? ⟨N, t, none⟩ = some (.int .u64 a) := cell_set_ne ((hu2'.cell _ (.inr (by omega))).trans d0) (by omega)
    have e1 : (w2.setCell ⟨N, t + 2, none⟩ (.pointer pl)).cell? ⟨N, t + 1, none⟩ = some (.int .u64 b) := cell_set_ne ((hu2'.cell _ (.inr (by omega))).trans d1) (by omega)
    have e2 : (w2.setCell ⟨N, t + 2, none⟩ (.pointer pl)).cell? ⟨N, t + 2, none⟩ = some (.pointer pl) := cell_set_eq d2'
    have e3 : (w2.setCell ⟨N, t + 2, none⟩ (.pointer pl)).cell? ⟨N, t + 3, none⟩ = some c3 := cell_set_ne ((hu2'.cell _ (.inr (by omega))).trans d3) (by omega)
    have e4 : (w2.setCell ⟨N, t + 2, none⟩ (.pointer pl)).cell? ⟨N, t + 4, none⟩ = some (.int .i64 m) := cell_set_ne ((hu2'.cell _ (.inr (by omega))).trans d4) (by omega)
    have hu3 : Upd W1 (w2.setCell ⟨N, t + 2, none⟩ (.pointer pl)) N lo (t + 5) := (hu2'.mono (Nat.le_refl _) (by omega)).set _ (by omega) (by omega)
    have htl3 : RTreeIn (w2.setCell ⟨N, t + 2, none⟩ (.pointer pl)) N lo t pl Tl := by
      have h := Htl.out
      rw [hlt] at h
      exact h.same (fun j _ hj => World.cell?_setCell_other _ _ _ _ (by intro e; injection e with _ e2 _; omega))
    have g3' : (w2.setCell ⟨N, t + 2, none⟩ (.pointer pl)).frozen? ⟨N, t + 3, none⟩ = false := (hu3.frozen _).trans g3
    have Htl3 := hidd htl3
    generalize w2.setCell ⟨N, t + 2, none⟩ (.pointer pl) = W2 at *
    have Hr2 := hidd (Hr1.out.upd hu3)
    have Hx2 : Hid (RunsAt W2 E eo xs) := fun i x hi => ⟨(hu3.other (p := ⟨E, eo + i * 2, none⟩) hEN).trans (Hx1.out i x hi).1, (hu3.other (p := ⟨E, eo + i * 2 + 1, none⟩) hEN).trans (Hx1.out i x hi).2⟩
    have hx2l : (xs.drop (mid + 1)).length = m - (mid + 1) := by rw [List.length_drop]; omega
    clear d0 d1 d2 d3 d4 g2 g3 d2' g2' hu2 hu2' htl3 Htl H3 Hr1 Hx1 hx1l hlt
    go_wp2
    have hn1 := Hcase.out
  all_goals rcases (show ec = mid + 1 ∨ mid + 1 < ec by omega) with hn2 | hn2
  all_goals (try subst hn1)
  all_goals (try subst hn2)
  all_goals have hw1 : IntKind.i64.wrap ((mid : Int) + 1) = (mid : Int) + 1 := IntWalk.i64_in _ (by omega)
  all_goals have hw2 : (mid : Int) + 1 ≤ (m : Int) := by omega
  all_goals (try have hw3 : ¬ nc = mid + 1 := by omega)
  all_goals (try have hw4 : ¬ ec = mid + 1 := by omega)
  all_goals go_region_with (go_at_call 63; refine (tailAt (k := m - (mid + 1)) Hih.out _ (by omega) (by omega) _ _ N (lo + (mid + 1) * 5) _ E (eo + (mid + 1) * 2) _ (xs.drop (mid + 1)) W2.drew hx2l (by intro hr; first | (exfalso; omega) | exact ⟨rfl, rfl, by omega, by omega, hEN⟩) (fun j hj => by have h := Hr2.out ((mid + 1) * 5 + j) (by omega); rw [← Nat.add_assoc] at h; exact h) (fun i x hi => by have h := Hx2.out (mid + 1 + i) x (by rw [List.getElem?_drop] at hi; exact hi); rw [Nat.add_mul, ← Nat.add_assoc] at h; exact h)).mono ?_; rintro e w3 ⟨pr, Tr, rfl, htr, hlr, hu4⟩; have d3' : w3.cell? ⟨N, t + 3, none⟩ = some c3 := (hu4.cell _ (.inl (by have := Ht.out; omega))).trans e3; have g3'' : w3.frozen? ⟨N, t + 3, none⟩ = false := (hu4.frozen _).trans g3'; have Htr := hidd htr; have Hlr := hidd hlr; clear htr hlr)
  all_goals
    have Hfin := hidd (build_close hx hml Ht.out Hxm.out hu1 hu3 e0 e1 e2 d3' e4 Htl3.out Hll.out hu4 Htr.out Hlr.out)
    clear hu1 hu3 e0 e1 e2 e3 e4 g3' d3' g3'' hu4
    go_wp2
    go_ret
    exact Hfin.out

end Go.Proofs.Qxb6608633a
