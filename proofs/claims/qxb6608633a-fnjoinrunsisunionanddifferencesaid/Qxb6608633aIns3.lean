/- slices.Insert of one entry where there is room. -/
import Derived.Test.Qxb6608633aIns2
import Derived.Lib.Overlaps
namespace Go.Proofs.Qxb6608633a
open Go.RowKit

theorem splice_room {α : Type} (X N : List α) (i n : Nat) (hX : X.length = (n + 1) * 2) (hN : N.length = 2) (hi : i ≤ n) (xs : List α) (hxs : X.take (n * 2) = xs) :
    splice (splice X ((i + 1) * 2) (xs.drop (i * 2))) (i * 2) N = xs.take (i * 2) ++ (N ++ xs.drop (i * 2)) := by
  have hxl : xs.length = n * 2 := by rw [← hxs, List.length_take]; omega
  have e1 : splice X ((i + 1) * 2) (xs.drop (i * 2)) = X.take ((i + 1) * 2) ++ xs.drop (i * 2) := by
    unfold splice
    rw [show X.drop ((i + 1) * 2 + (xs.drop (i * 2)).length) = [] from List.drop_eq_nil_of_le (by rw [List.length_drop]; omega), List.append_nil]
  rw [e1]
  unfold splice
  have hl : (X.take ((i + 1) * 2)).length = i * 2 + N.length := by rw [List.length_take, hN]; omega
  rw [List.drop_left' hl, List.take_append_of_le_length (by omega), List.take_take, Nat.min_eq_left (by omega), ← hxs, List.take_take, Nat.min_eq_left (by omega)]

theorem cells_of_block {w : World} {h : Nat} {s : ByteArray} {m : Int} (hh : w.heap[h]? = some (.cells #[.string s, .int .u64 m] 84 (0, 0))) :
    w.cell? ⟨h, 0, none⟩ = some (.string s) ∧ w.cell? ⟨h, 1, none⟩ = some (.int .u64 m) ∧ w.shape? h = some (84, 2) ∧ w.frozen? ⟨h, 0, none⟩ = false ∧ w.frozen? ⟨h, 2, none⟩ = false := by
  refine ⟨?_, ?_, ?_, ?_, ?_⟩
  · simp [World.cell?, hh]
  · simp [World.cell?, hh]
  · simp [World.shape?, hh]
  · simp [World.frozen?, hh]
  · simp [World.frozen?, hh]

theorem Try.sizeOf84 (w : World) : (Go.sizeOf 84).run Try.prog w = .ok 2 w := by kernel_rfl

set_option maxHeartbeats 1000000 in
set_option maxRecDepth 100000 in
theorem ins_room (g h n i cap B : Nat) (xs : List Value) (s : ByteArray) (m : Int) (w : World) (hown : w.ownsRow B 84 2 (.slice (some ⟨g, 0, none⟩) n cap) n xs)
    (hh : w.heap[h]? = some (.cells #[.string s, .int .u64 m] 84 (0, 0))) (hhg : h ≠ g) (hin : i < n) (hn : n ≤ 1048576) (hc : n + 1 ≤ cap) (hx1 : ∀ v ∈ xs, v.oneCell' = true) :
    Calls Try.prog 43 #[.slice (some ⟨g, 0, none⟩) n cap, .int .i64 i, .slice (some ⟨h, 0, none⟩) 1 1] w (InsRet w B g n i xs s m) := by
  obtain ⟨cur, hB, hg, hnc, hcm, hcs, htk⟩ := own_parts hown
  obtain ⟨h0, h1, hsh, hf0, hf2⟩ := cells_of_block hh
  have hcm' : cap ≤ 9223372036854775807 := hcm
  have hne : ((i : Int) == (n : Int)) = false := by simp; omega
  have hsb : w.shape? g = some (84, cur.size) := by simp [World.shape?, hg]
  have hov : ∀ lb cb, (Extern.SlicesOverlaps.overlaps #[82, 82] #[4] #[.slice (some ⟨h, 0, none⟩) 1 1, .slice (some ⟨g, (i + 1) * 2, none⟩) lb cb]).run Try.prog w = .ok (.bool false) w := fun lb cb =>
    Lib.run_overlaps_apart w 82 4 84 Try.underlying82 2 Try.sizeOf84 ⟨h, 0, none⟩ ⟨g, (i + 1) * 2, none⟩ 1 1 lb cb hhg 84 84 2 cur.size hsh hsb (by omega) hf0 hf2
  have Hov := hidd hov
  -- the row, one element longer
  have hown1 : w.ownsRow B 84 2 (.slice (some ⟨g, 0, none⟩) (n + 1) cap) (n + 1) (cur.toList.take ((n + 1) * 2)) :=
    ⟨by rw [List.length_take]; simp; omega, .inr ⟨g, cap, cur, rfl, hB, hg, hc, hcm, hcs, rfl⟩⟩
  obtain ⟨X, hX⟩ : ∃ X, X = cur.toList.take ((n + 1) * 2) := ⟨_, rfl⟩
  rw [← hX] at hown1
  have hXl : X.length = (n + 1) * 2 := hown1.1
  have hXt : X.take (n * 2) = xs := by rw [hX, List.take_take, Nat.min_eq_left (by omega)]; exact htk
  have hxl := hown.1
  obtain ⟨Y, hY⟩ : ∃ Y, Y = xs.drop (i * 2) := ⟨_, rfl⟩
  obtain ⟨k, hk⟩ : ∃ k, k = i + 1 := ⟨_, rfl⟩
  have hYl' : Y.length = (n - i) * 2 := by rw [hY, List.length_drop]; omega
  have hYl : Y.length = Nat.min (n + 1 - i) (n + 1 - k) * 2 := by rw [hYl']; show _ = min (n + 1 - i) (n + 1 - k) * 2; rw [Nat.min_eq_right (by omega)]; omega
  have hYc : ∀ j v, Y[j]? = some v → w.drew.cell? ((⟨g, i * 2, none⟩ : Addr).add j) = some v := by
    intro j v hj
    rw [hY, List.getElem?_drop] at hj
    have h := hown.cells rfl (i * 2 + j) v hj
    rw [addr_two g (i * 2) j]; exact h
  have hYo : ∀ v ∈ Y, v.oneCell' = true := fun v hv => hx1 v (List.mem_of_mem_drop (hY ▸ hv))
  obtain ⟨w3, hr3, hown3, hgrow3⟩ := run_copy_own2 (P := Try.prog) w.drew 82 82 3 84 2 Try.underlying82 Try.size84 g (k * 2) (n + 1 - k) (cap - k) ⟨g, i * 2, none⟩ (n + 1 - i) (cap - i) B (n + 1) cap X hown1.drew Y hYl hYc (by omega) hYo
  have h0' : w3.cell? ⟨h, 0, none⟩ = some (.string s) := hgrow3.cell (a := ⟨h, 0, none⟩) h0 (by simpa using hhg)
  have h1' : w3.cell? ⟨h, 1, none⟩ = some (.int .u64 m) := hgrow3.cell (a := ⟨h, 1, none⟩) h1 (by simpa using hhg)
  obtain ⟨w4, hr4, hown4, hgrow4⟩ := run_copy_own2 (P := Try.prog) w3 82 82 3 84 2 Try.underlying82 Try.size84 g (i * 2) (n + 1 - i) (cap - i) ⟨h, 0, none⟩ 1 1 B (n + 1) cap _ hown3 [.string s, .int .u64 m] (by show _ = min 1 (n + 1 - i) * 2; rw [Nat.min_eq_left (by omega)]; rfl) (news_cells h0' h1') (by simp; omega) news_one
  have hfin : InsRet w B g n i xs s m (.returned (.slice (some ⟨g, 0, none⟩) (n + 1) cap)) w4 := by
    refine ⟨g, cap, rfl, ?_, ?_⟩
    · have e := splice_room X [Value.string s, .int .u64 m] i n hXl rfl (by omega) xs hXt
      rw [hY, hk, e] at hown4
      exact hown4
    · refine ⟨hgrow4.os.trans hgrow3.os, hgrow4.tape.trans hgrow3.tape, hgrow4.output.trans hgrow3.output, Nat.le_trans hgrow3.size hgrow4.size, fun j hj hne => ?_⟩
      rw [hgrow4.block j (Nat.lt_of_lt_of_le hj hgrow3.size) hne]
      exact hgrow3.block j hj hne
  have Hfin := hidd hfin
  have Hr3 := hidd hr3
  have Hr4 := hidd hr4
  have Hk := hidd hk
  have hw1 : IntKind.i64.wrap ((i : Int) + 1) = (k : Int) := by rw [IntWalk.i64_in _ (by omega)]; omega
  have Hw1 := hidd hw1
  have g1 : (0 : Int) ≤ (k : Int) := by omega
  have g2 : (k : Int) ≤ (n : Int) + 1 := by omega
  have g3 : ¬ cap = k := by omega
  have g4 : (0 : Int) ≤ (i : Int) := by omega
  have g5 : (i : Int) ≤ (n : Int) := by omega
  have g5' : (i : Int) ≤ (n : Int) + 1 := by omega
  have g6 : ¬ cap = i := by omega
  have G3 := hidd g3
  clear hown hcm hcs htk hg hsb hsh hf0 hf2 hov hx1 h0 h1 hh hown1 hX hXl hXt hxl hY hYl hYl' hYc hYo hr3 hown3 hgrow3 h0' h1' hr4 hown4 hgrow4 hfin hk hw1 g3
  go_enter Try.func43, Try.ntmps43
  go_wp2_with fail
  rw [run_callFunc_extern Try.func55 (by kernel_rfl) (by kernel_rfl) (by kernel_rfl) (e := Extern.SlicesOverlaps.overlaps #[82, 82] #[4]) (by kernel_rfl), Hov.out]
  simp only [Result.andThen]
  rw [Oper.upon_value]
  go_wp2_with fail
  have hw1 := Hw1.out
  have hr3 := Hr3.out
  have g3 := G3.out
  clear Hov Hw1 Hr3
  go_region
  all_goals
    clear hw1 hr3
    have hr4 := Hr4.out
    go_wp2
    go_ret
    exact Hfin.out

end Go.Proofs.Qxb6608633a
