/- slices.Insert of one entry: its walks. -/
import Derived.Test.Qxb6608633aIns
namespace Go.Proofs.Qxb6608633a
open Go.RowKit

def InsRet (w : World) (B g n i : Nat) (xs : List Value) (s : ByteArray) (m : Int) (e : Ending) (w' : World) : Prop :=
  ∃ g' cap', e = .returned (.slice (some ⟨g', 0, none⟩) (n + 1) cap') ∧ w'.ownsRow B 84 2 (.slice (some ⟨g', 0, none⟩) (n + 1) cap') (n + 1) (xs.take (i * 2) ++ ([.string s, .int .u64 m] ++ xs.drop (i * 2))) ∧ w.grownBy w' (some g)

theorem Try.size84 : (Try.prog.info? 84).map (·.size) = some 2 := by kernel_rfl

theorem news_cells {w : World} {h : Nat} {s : ByteArray} {m : Int} (h0 : w.cell? ⟨h, 0, none⟩ = some (.string s)) (h1 : w.cell? ⟨h, 1, none⟩ = some (.int .u64 m)) : ∀ j u, [Value.string s, .int .u64 m][j]? = some u → w.cell? ((⟨h, 0, none⟩ : Addr).add j) = some u := by
  intro j u hj
  match j, hj with
  | 0, hj => simp at hj; subst hj; simpa [Addr.add] using h0
  | 1, hj => simp at hj; subst hj; simpa [Addr.add] using h1

theorem addr_two (g a j : Nat) : ((⟨g, a, none⟩ : Addr).add j) = ((⟨g, 0, none⟩ : Addr).add (a + j)) := by
  unfold Addr.add; by_cases h1 : j = 0 <;> by_cases h2 : a = 0 <;> simp [h1, h2]

theorem news_one {s : ByteArray} {m : Int} : ∀ u ∈ [Value.string s, .int .u64 m], u.oneCell' = true := by
  intro u hu; simp at hu; rcases hu with rfl | rfl <;> rfl

theorem splice_two {α : Type} (A zs N Y : List α) (a k : Nat) (ha : A.length = a) (hk : k = a + N.length) (hz : zs.length = N.length + Y.length) : splice (splice (A ++ zs) a N) k Y = A ++ (N ++ Y) := by
  have e1 : splice (A ++ zs) a N = A ++ (N ++ zs.drop N.length) := by
    unfold splice
    rw [List.take_left' ha, List.drop_append, ha, List.drop_eq_nil_of_le (show A.length ≤ a + N.length by omega), Nat.add_sub_cancel_left, List.nil_append]
  rw [e1, hk]
  unfold splice
  rw [← List.append_assoc A N, List.take_left' (by simp [ha]), List.append_assoc, List.drop_eq_nil_of_le (by simp; omega), List.append_nil]

theorem grown3 {w w1 w2 w3 : World} {g : Nat} (h1 : w.grownBy w1 none) (h2 : w1.grownBy w2 (some w.heap.size)) (h3 : w2.drew.grownBy w3 (some w.heap.size)) : w.grownBy w3 (some g) := by
  have s1 := h1.size
  have s2 := h2.size
  have s3 : w2.heap.size ≤ w3.heap.size := h3.size
  refine ⟨(h3.os.trans h2.os).trans h1.os, (h3.tape.trans h2.tape).trans h1.tape, (h3.output.trans h2.output).trans h1.output, by omega, fun k hk hne => ?_⟩
  have a3 : w3.heap[k]? = w2.heap[k]? := h3.block k (show k < w2.heap.size by omega) (by simp; omega)
  rw [a3, h2.block k (by omega) (by simp; omega), h1.block k hk (by simp)]

set_option maxHeartbeats 1000000 in
set_option maxRecDepth 100000 in
theorem ins_end (g h n cap B : Nat) (xs : List Value) (s : ByteArray) (m : Int) (w : World) (hown : w.ownsRow B 84 2 (.slice (some ⟨g, 0, none⟩) n cap) n xs)
    (h0 : w.cell? ⟨h, 0, none⟩ = some (.string s)) (h1 : w.cell? ⟨h, 1, none⟩ = some (.int .u64 m)) (hn : n ≤ 1048576) :
    Calls Try.prog 43 #[.slice (some ⟨g, 0, none⟩) n cap, .int .i64 n, .slice (some ⟨h, 0, none⟩) 1 1] w (InsRet w B g n n xs s m) := by
  obtain ⟨i0, hi, hz0, hz1, hz2⟩ := info_parts Try.info84
  obtain ⟨cur, hB, hg, hnc, hcm, hcs, htk⟩ := own_parts hown
  have hlt := (hown.lt g rfl).2
  have hxl := hown.1
  have Hown := hidd hown
  clear hcs htk hg hown hcm
  go_enter Try.func43, Try.ntmps43
  have c1 : n + 1 ≤ maxLen := by unfold maxLen; omega
  have c2 : (n + 1) * 24 ≤ 140737488355328 := by omega
  have c3 : B ≤ w.heap.size := by omega
  go_wp2_with (at_builtin; refine wpList_append_own _ rfl (.tmp 23) (.tmp 24) 82 rfl B 84 i0 _ 2 24 Try.underlying82 hi hz0 hz1 hz2 rfl (by decide) _ n xs rfl Hown.out ⟨h, 0, none⟩ 1 1 _ rfl rfl (news_cells h0 h1) news_one c1 c2 c3 ?_)
  all_goals
    intro v' w1 hown1 hgrow1 hnil
    obtain ⟨g', cap', rfl⟩ : ∃ g' cap', v' = .slice (some ⟨g', 0, none⟩) (n + 1) cap' := by
      rcases hown1.2 with ⟨h, _⟩ | ⟨g', cap', _, h, _⟩
      · exact (hnil h).elim
      · exact ⟨g', cap', h⟩
    have R : w1.ownsRow B 84 2 (.slice (some ⟨g', 0, none⟩) (n + 1) cap') (n + 1) (xs.take (n * 2) ++ ([.string s, .int .u64 m] ++ xs.drop (n * 2))) := by
      rw [List.take_of_length_le (by omega), List.drop_eq_nil_of_le (by omega)]; exact hown1
    have HR := hidd R
    have HG := hidd hgrow1
    clear hown1 R hgrow1 hnil hi hz0 hz1 hz2
    go_wp2
    go_ret
    exact ⟨g', cap', rfl, HR.out, HG.out⟩

set_option maxHeartbeats 1000000 in
set_option maxRecDepth 100000 in
theorem ins_grow (g h n i cap B : Nat) (xs : List Value) (s : ByteArray) (m : Int) (w : World) (hown : w.ownsRow B 84 2 (.slice (some ⟨g, 0, none⟩) n cap) n xs)
    (h0 : w.cell? ⟨h, 0, none⟩ = some (.string s)) (h1 : w.cell? ⟨h, 1, none⟩ = some (.int .u64 m)) (hin : i < n) (hn : n ≤ 1048576) (hc : cap < n + 1) (hx1 : ∀ v ∈ xs, v.oneCell' = true) :
    Calls Try.prog 43 #[.slice (some ⟨g, 0, none⟩) n cap, .int .i64 i, .slice (some ⟨h, 0, none⟩) 1 1] w (InsRet w B g n i xs s m) := by
  obtain ⟨i0, hi, hz0, hz1, hz2⟩ := info_parts Try.info84
  obtain ⟨cur, hB, hg, hnc, hcm, hcs, htk⟩ := own_parts hown
  have hlt := (hown.lt g rfl).2
  have hxl := hown.1
  have holds : ∀ j v, (xs.take (i * 2))[j]? = some v → w.cell? ((⟨g, 0, none⟩ : Addr).add j) = some v := by
    intro j v hj
    rw [List.getElem?_take] at hj
    split at hj
    · exact hown.cells rfl j v hj
    · cases hj
  have hne : ((i : Int) == (n : Int)) = false := by simp; omega
  have Hown := hidd hown
  clear hcs htk hg hown hcm
  go_enter Try.func43, Try.ntmps43
  go_wp2_with (at_builtin; refine wpList_append_zeros rfl (.tmp 34) (.tmp 39) 82 3 rfl B 84 i0 _ 2 24 Try.underlying82 Try.underlying3 hi hz0 hz1 hz2 rfl (by decide) ⟨g, 0, none⟩ i cap rfl (xs.take (i * 2)) ?c0 holds (n + 1 - i) _ rfl ?c1 ?c2 ?c3 ?c4 ?c5 ?c6 ?_)
  case c0 => rw [List.length_take]; omega
  case c1 => omega
  case c2 => omega
  case c3 => omega
  case c4 => unfold maxLen; omega
  case c5 => omega
  case c6 => omega
  intro zs cap' w1 hzl hown1 hgrow1 hsz1
  have e1 : i + (n + 1 - i) = n + 1 := by omega
  rw [e1]
  rw [e1] at hown1
  have hcap' : n + 1 ≤ cap' := by obtain ⟨_, _, _, h, _⟩ := own_parts hown1; exact h
  have hhg : h < w.heap.size := World.block_lt_of_cell? w _ h0
  have h0' : w1.cell? ⟨h, 0, none⟩ = some (.string s) := hgrow1.cell h0 (by simp)
  have h1' : w1.cell? ⟨h, 1, none⟩ = some (.int .u64 m) := hgrow1.cell h1 (by simp)
  obtain ⟨w2, hr2, hown2, hgrow2⟩ := run_copy_own2 (P := Try.prog) w1 82 82 3 84 2 Try.underlying82 Try.size84 w.heap.size (i * 2) (n + 1 - i) (cap' - i) ⟨h, 0, none⟩ 1 1 B (n + 1) cap' _ hown1 [.string s, .int .u64 m] (by show _ = min 1 (n + 1 - i) * 2; rw [Nat.min_eq_left (by omega)]; rfl) (news_cells h0' h1') (by simp; omega) news_one
  have Hr2 := hidd hr2
  have Hown2 := hidd hown2
  have Hgrow2 := hidd hgrow2
  have Hgrow1 := hidd hgrow1
  have Hzl := hidd hzl
  clear hr2 hown2 hgrow2 hown1 hgrow1 holds hi hz0 hz1 hz2 hzl e1
  go_wp2_with fail
  rw [Hr2.out]
  simp only [Result.andThen]
  rw [Oper.upon_value]
  clear Hr2 h0 h1 h0' h1'
  obtain ⟨X2, hX2⟩ : ∃ X2, X2 = splice (xs.take (i * 2) ++ zs) (i * 2) [Value.string s, .int .u64 m] := ⟨_, rfl⟩
  rw [← hX2] at Hown2
  have HX2 := hidd hX2
  clear hX2
  obtain ⟨Y, hY⟩ : ∃ Y, Y = xs.drop (i * 2) := ⟨_, rfl⟩
  obtain ⟨k, hk⟩ : ∃ k, k = i + 1 := ⟨_, rfl⟩
  have hYl' : Y.length = (n - i) * 2 := by rw [hY, List.length_drop]; omega
  have hYl : Y.length = Nat.min (n - i) (n + 1 - k) * 2 := by rw [hYl']; show _ = min (n - i) (n + 1 - k) * 2; rw [Nat.min_eq_left (by omega)]
  have hYc : ∀ j v, Y[j]? = some v → w2.drew.cell? ((⟨g, i * 2, none⟩ : Addr).add j) = some v := by
    intro j v hj
    rw [hY, List.getElem?_drop] at hj
    have h := Hown.out.cells rfl (i * 2 + j) v hj
    have e : ((⟨g, i * 2, none⟩ : Addr).add j) = ((⟨g, 0, none⟩ : Addr).add (i * 2 + j)) := by
      exact addr_two g (i * 2) j
    rw [e]
    refine Hgrow2.out.cell (Hgrow1.out.cell h (by simp)) ?_
    unfold Addr.add; split <;> simp <;> omega
  have hYo : ∀ v ∈ Y, v.oneCell' = true := fun v hv => hx1 v (List.mem_of_mem_drop (hY ▸ hv))
  have hfit : k * 2 + Y.length ≤ (n + 1) * 2 := by omega
  have HY := hidd hY
  clear hY
  have hw1 : IntKind.i64.wrap ((i : Int) + 1) = (k : Int) := by rw [IntWalk.i64_in _ (by omega)]; omega
  have g1 : (0 : Int) ≤ (k : Int) := by omega
  have g2 : (k : Int) ≤ (n : Int) + 1 := by omega
  have g3 : ¬ cap' = k := by omega
  have g4 : (0 : Int) ≤ (i : Int) := by omega
  have g5 : (i : Int) ≤ (n : Int) := by omega
  have g6 : ¬ cap = i := by omega
  have Hk := hidd hk
  clear hk
  obtain ⟨w3, hr3, hown3, hgrow3⟩ := run_copy_own2 (P := Try.prog) w2.drew 82 82 3 84 2 Try.underlying82 Try.size84 w.heap.size (k * 2) (n + 1 - k) (cap' - k) ⟨g, i * 2, none⟩ (n - i) (cap - i) B (n + 1) cap' _ Hown2.out.drew Y hYl hYc hfit hYo
  have Hown3 := hidd hown3
  have Hgrow3 := hidd hgrow3
  clear hown3 hgrow3 hYl hYc hYo hfit hx1
  go_wp2_with fail
  go_region
  all_goals
    go_wp2
    go_ret
    refine ⟨w.heap.size, cap', rfl, ?_, grown3 Hgrow1.out Hgrow2.out Hgrow3.out⟩
    have e := splice_two (xs.take (i * 2)) zs [Value.string s, .int .u64 m] Y (i * 2) (k * 2) (by rw [List.length_take]; omega) (by have := Hk.out; simp; omega) (by have := Hzl.out; simp; omega)
    have h3 := Hown3.out
    rw [HX2.out, e, HY.out] at h3
    exact h3

end Go.Proofs.Qxb6608633a
