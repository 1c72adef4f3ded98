/- ZZRunTree, ZZRuns, zzRunsFrom. -/
import Derived.Test.Qxb6608633aZCopy
namespace Go.Proofs.Qxb6608633a
open Go.RowKit

theorem sls_two {w : World} {a b : Value} {rs : List Run} (h : EndsAt w a b rs) : ∃ aa ca ab cb, a = .slice aa rs.length ca ∧ b = .slice ab rs.length cb ∧ ∀ (k : Nat) (x : Run), rs[k]? = some x → (∃ g, aa = some ⟨g, 0, none⟩ ∧ w.cell? ⟨g, k, none⟩ = some (.int .u64 x.1)) ∧ (∃ g, ab = some ⟨g, 0, none⟩ ∧ w.cell? ⟨g, k, none⟩ = some (.int .u64 x.2)) := by
  obtain ⟨aa, ca, ha, ra⟩ := h.1.open (n := rs.length) (by simp [loR])
  obtain ⟨ab, cb, hb, rb⟩ := h.2.open (n := rs.length) (by simp [hiR])
  exact ⟨aa, ca, ab, cb, ha, hb, fun k x hk => ⟨ra k _ (by simp [loR, hk]), rb k _ (by simp [hiR, hk])⟩⟩

set_option maxHeartbeats 1000000 in
set_option maxRecDepth 100000 in
theorem runTree32 (a b : Value) (rs : List Run) (w : World) (hs : EndsAt w a b rs) (hl : rs.length ≤ 1048576) :
    Calls Try.prog 32 #[a, b] w (TreeRet w rs) := by
  obtain ⟨aa, ca, ab, cb, rfl, rfl, hrd⟩ := sls_two hs
  have Hrd := hidd hrd
  clear hrd hs
  obtain ⟨i0, hi, hz0, hz1, hz2⟩ := info_parts Try.info94
  go_enter Try.func32, Try.ntmps32
  go_wp2_with (at_make; refine wpList_make_full _ rfl _ _ 105 rfl w.heap.size 94 i0 _ 2 Try.underlying105 hi hz0 hz1 _ _ _ _ rs.length rfl rfl rfl rfl ?c1 ?c2 ?c3 ?_)
  case c1 => rw [hz2]; omega
  case c2 => unfold maxLen; omega
  case c3 => exact Nat.le_refl _
  intro w1 hown hgrow
  have hbel : Below w.heap.size w w1 := (Below.refl _ _).grown hgrow (Nat.le_refl _) (fun k h => by cases h)
  obtain ⟨xs0, hown⟩ : ∃ xs, w1.ownsRow w.heap.size 94 2 (.slice (some ⟨w.heap.size, 0, none⟩) rs.length rs.length) rs.length xs := ⟨_, hown⟩
  have hf0 : RunsTo xs0 rs 0 := ⟨hown.1, fun i _ h => absurd h (by omega)⟩
  clear hgrow hi hz0 hz1 hz2
  go_wp2
  go_loopw [6] (fun i wr => ∃ (k : Nat) (xs : List Value), k ≤ rs.length ∧ i = .int .i64 k ∧ wr.ownsRow w.heap.size 94 2 (.slice (some ⟨w.heap.size, 0, none⟩) rs.length rs.length) rs.length xs ∧ RunsTo xs rs k ∧ Below w.heap.size w wr) (fun i _ => rs.length - (intOf i).toNat)
  case atStart => exact ⟨0, xs0, Nat.zero_le _, rfl, hown, hf0, hbel⟩
  case round =>
    clear hown hf0 hbel
    obtain ⟨k, xs, hk, rfl, hown, hfl, hbel⟩ := hrel
    have Hfl := hidd hfl
    have Hown := hidd hown
    by_cases hlt : k < rs.length
    · obtain ⟨x, hx⟩ : ∃ x, Hid (rs[k]? = some x) := ⟨rs[k], hidd (List.getElem?_eq_getElem hlt)⟩
      obtain ⟨⟨ga, rfl, c0'⟩, ⟨gb, rfl, c1'⟩⟩ := Hrd.out k x hx.out
      have c0 := cell_to hbel c0'
      have c1 := cell_to hbel c1'
      obtain ⟨v0, hv0⟩ := cell_of_own hown (k * 2) (by omega)
      obtain ⟨v1, hv1⟩ := cell_of_own hown (k * 2 + 1) (by omega)
      have hf0 := hown.frozenAt (k * 2)
      have hf1 := hown.frozenAt (k * 2 + 1)
      have g0 : (0 : Int) ≤ (k : Int) := by omega
      have g1 : (k : Int) < (rs.length : Int) := by omega
      clear c0' c1' hown hfl
      go_wp2
      go_region
      all_goals go_wp2
      go_roundw
      case rel => exact ⟨k + 1, _, by omega, by go_num, ((Hown.out.stored _ _).1.stored _ _).1.drew, runsTo_succ Hfl.out hx.out, ((hbel.setCell (Nat.le_refl _) _).setCell (Nat.le_refl _) _).drew⟩
      case measure => simp [intOf]; omega
    · obtain rfl : k = rs.length := by omega
      have hsz : w.heap.size < wr.heap.size := (hown.lt w.heap.size rfl).2
      have hR : RunsAt wr w.heap.size 0 rs := fun i x hi => by
        have h1 := (List.getElem?_eq_some_iff.1 hi).1
        have h2 := hfl.2 i x h1 hi
        rw [Nat.zero_add, hown.cellAt (i * 2) (by omega), hown.cellAt (i * 2 + 1) (by omega)]; exact h2
      have CT := hidd (treeOfR_any (some ⟨w.heap.size, 0, none⟩) w.heap.size 0 rs.length rs.length rs wr rfl (by omega) (fun _ => ⟨rfl, Nat.le_refl _, hsz⟩) hR)
      clear hown hfl hR
      go_wp2_with fail
      refine CT.out.mono ?_
      rintro e w2 ⟨p, T, rfl, hT, hTl, hb2⟩
      have Hfin : Hid (TreeRet w rs (.returned (.pointer p)) w2) := ⟨p, T, rfl, hT, hTl, below_to hbel hb2 hbel.size⟩
      clear hT hTl hb2 CT
      go_wp2
      go_ret
      exact Hfin.out

set_option maxHeartbeats 2000000 in
set_option maxRecDepth 100000 in
theorem runs34 (p : Option Addr) (T : BT Run) (w : World) (hT : RTree w p T) (hl : T.list.length ≤ 1000000) :
    Calls Try.prog 34 #[.pointer p] w (EndsRet w T.list) := by
  have HT := hidd hT
  obtain ⟨i23, hi, hz0, hz1, hz2⟩ := info_parts Try.info23
  clear hT
  go_enter Try.func34, Try.ntmps34
  go_wp2
  go_loopw [2, 3, 4] (fun l h i wr => ∃ m : Nat, m ≤ T.list.length ∧ i = .int .i64 m ∧ wr.ownsRow w.heap.size 23 1 l m (loR (T.list.take m)) ∧ wr.ownsRow w.heap.size 23 1 h m (hiR (T.list.take m)) ∧ Apart l h ∧ Below w.heap.size w wr) (fun _ _ i _ => T.list.length - (intOf i).toNat)
  case atStart => exact ⟨0, Nat.zero_le _, rfl, World.ownsRow_nil _ _ _ _, World.ownsRow_nil _ _ _ _, (fun k h => by cases h), Below.refl _ _⟩
  case round =>
    obtain ⟨m, hm, rfl, hl1, hh1, hap, hbel⟩ := hrel
    have HTr := hidd (HT.out.to hbel)
    have Hl := hidd hl1
    have Hh := hidd hh1
    have Hap := hidd hap
    clear hl1 hh1 hap
    by_cases hlt : m < T.list.length
    · obtain ⟨r, hr⟩ : ∃ r, Hid (T.list[m]? = some r) := ⟨T.list[m], hidd (List.getElem?_eq_getElem hlt)⟩
      go_wp2_with fail
      refine (lenR_any p T wr HTr.out).mono ?_
      rintro e wq ⟨rfl, hwq⟩
      rw [hwq]
      clear hwq wq
      go_wp2_with fail
      refine (atR_any p T m r wr HTr.out hr.out (by omega)).mono ?_
      rintro e w1 ⟨rfl, hb1⟩
      have hbA := below_to hbel hb1 hbel.size
      have ka := below_self w1 (.cells #[.int .u64 r.1, .int .u64 r.2] 94)
      have hbB := below_to hbA ka hbA.size
      have f0 : (w1.alloc (.cells #[.int .u64 r.1, .int .u64 r.2] 94)).cell? ⟨w1.heap.size, 0, none⟩ = some (.int .u64 r.1) := by simp
      have f1 : (w1.alloc (.cells #[.int .u64 r.1, .int .u64 r.2] 94)).cell? ⟨w1.heap.size, 1, none⟩ = some (.int .u64 r.2) := by simp
      have HF := hidd (World.alloc_heap_new w1 (.cells #[.int .u64 r.1, .int .u64 r.2] 94))
      have Rl := hidd (own_to ka (own_to hb1 Hl.out))
      have Rh := hidd (own_to ka (own_to hb1 Hh.out))
      have hDs := hbA.size
      have hbs := hbB.size
      have c1 : m + 1 ≤ maxLen := by unfold maxLen; omega
      have c2 : (m + 1) * 8 ≤ 140737488355328 := by omega
      have c3 : w.heap.size ≤ ((w1.alloc (.cells #[.int .u64 r.1, .int .u64 r.2] 94)).alloc (.cells #[.int .u64 r.1] 23)).heap.size := by simp; omega
      clear Hl Hh HTr hb1 hbA ka hbel
      go_wp2_with (at_builtin; refine wpList_append_lies _ rfl (.tmp 15) (.tmp 18) 33 rfl w.heap.size 23 i23 _ 1 8 Try.underlying33 hi hz0 hz1 hz2 rfl (by decide) _ m _ rfl (Rl.out.alloc _) ⟨w1.heap.size + 1, 0, none⟩ 1 1 [.int .u64 r.1] rfl rfl (news1 (by simp)) (oneV rfl) (by omega) c1 c2 c3 _ rfl ?_)
      intro g1 cap1 w3 hown hgrow hat hlt1
      have hsz2 : (w1.alloc (.cells #[.int .u64 r.1, .int .u64 r.2] 94)).heap.size = w1.heap.size + 1 := by simp
      generalize w1.alloc (.cells #[.int .u64 r.1, .int .u64 r.2] 94) = w2 at *
      generalize w1.heap.size = D2 at *
      have kb := below_self w2 (.cells #[.int .u64 r.1] 23)
      have hap3 : Apart (.slice (some ⟨g1, 0, none⟩) (m + 1) cap1) u3 := Hap.out.app (H := D2 + 1 + 1) (by
        rcases hat with h | h
        · exact .inl h.symm
        · exact .inr (by rw [h]; rfl)) (fun k h => by have := (Rh.out.lt k h).2; omega)
      have Rl3 : Hid (w3.ownsRow w.heap.size 23 1 (.slice (some ⟨g1, 0, none⟩) (m + 1) cap1) (m + 1) (loR (T.list.take (m + 1)))) := by
        rw [loR_take hr.out]; exact hown
      have Rh3 := hidd ((Rh.out.alloc (.cells #[.int .u64 r.1] 23)).kept hgrow Hap.out.symm.ne)
      have hb3 : Below w.heap.size w w3 := (hbB.alloc hbs _).grown hgrow (by simp; omega) (fun j h => (Rl.out.lt j h).1)
      have hF2 := (Array.getElem?_eq_some_iff.1 HF.out).1
      have hF3 : w3.heap[D2]? = some (.cells #[.int .u64 r.1, .int .u64 r.2] 94) := (hgrow.block D2 (Nat.lt_of_lt_of_le hF2 kb.size) (own_not Rl.out HF.out (by decide))).trans ((kb.block D2 hF2).trans HF.out)
      have f13 : w3.cell? ⟨D2, 1, none⟩ = some (.int .u64 r.2) := by simp [World.cell?, hF3]
      have hs3 := hb3.size
      have Hap3 := hidd hap3
      have c3' : w.heap.size ≤ (w3.alloc (.cells #[.int .u64 r.2] 23)).heap.size := by simp; omega
      clear hown hgrow hat hlt1 hbB hbs kb hF2 hF3 HF f0 f1 Rl Rh Hap hap3 hDs c3
      go_wp2_with (at_builtin; refine wpList_append_lies _ rfl (.tmp 20) (.tmp 23) 33 rfl w.heap.size 23 i23 _ 1 8 Try.underlying33 hi hz0 hz1 hz2 rfl (by decide) _ m _ rfl (Rh3.out.alloc _) ⟨w3.heap.size, 0, none⟩ 1 1 [.int .u64 r.2] rfl rfl (news1 rfl) (oneV rfl) (by omega) c1 c2 c3' _ rfl ?_)
      intro g2 cap2 w4 hown hgrow hat hlt1
      have hap4 : Apart (.slice (some ⟨g1, 0, none⟩) (m + 1) cap1) (.slice (some ⟨g2, 0, none⟩) (m + 1) cap2) := (Hap3.out.symm.app (H := w3.heap.size + 1) (by
        rcases hat with h | h
        · exact .inl h.symm
        · exact .inr (by rw [h]; rfl)) (fun k h => by have := (Rl3.out.lt k h).2; omega)).symm
      have Rh4 : Hid (w4.ownsRow w.heap.size 23 1 (.slice (some ⟨g2, 0, none⟩) (m + 1) cap2) (m + 1) (hiR (T.list.take (m + 1)))) := by
        rw [hiR_take hr.out]; exact hown
      have Rl4 := hidd ((Rl3.out.alloc (.cells #[.int .u64 r.2] 23)).kept hgrow Hap3.out.ne)
      have hb4 : Below w.heap.size w w4 := (hb3.alloc hs3 _).grown hgrow (by simp; omega) (fun j h => (Rh3.out.lt j h).1)
      have Hap4 := hidd hap4
      clear hown hgrow hat hlt1 hb3 hs3 Rl3 Rh3 Hap3 hap4 f13
      go_wp2_with fail
      go_roundw
      case rel => exact ⟨m + 1, by omega, by go_num, Rl4.out, Rh4.out, Hap4.out, hb4⟩
      case measure => simp [intOf]; omega
    · obtain rfl : m = T.list.length := by omega
      have S1 := hidd (sls_own Hl.out)
      have S2 := hidd (sls_own Hh.out)
      rw [List.take_length] at S1 S2
      clear Hl Hh
      go_wp2_with fail
      refine (lenR_any p T wr HTr.out).mono ?_
      rintro e wq ⟨rfl, hwq⟩
      rw [hwq]
      clear hwq wq
      go_wp2
      go_ret2
      exact ⟨_, _, rfl, ⟨S1.out, S2.out⟩, hbel⟩

def FromRet (w : World) (rs : List Run) (e : Ending) (w' : World) : Prop := ∃ v, e = .returned (.tuple #[v, .bool true]) ∧ SlR w' v rs ∧ Below w.heap.size w w'

set_option maxHeartbeats 1000000 in
set_option maxRecDepth 100000 in
theorem from35 (a b : Value) (rs : List Run) (w : World) (hs : EndsAt w a b rs) (hl : rs.length ≤ 1048576) :
    Calls Try.prog 35 #[a, b] w (FromRet w rs) := by
  obtain ⟨aa, ca, ab, cb, rfl, rfl, hrd⟩ := sls_two hs
  have Hrd := hidd hrd
  clear hrd hs
  obtain ⟨i0, hi, hz0, hz1, hz2⟩ := info_parts Try.info104
  go_enter Try.func35, Try.ntmps35
  go_wp2_with (at_make; refine wpList_make_full _ rfl _ _ 59 rfl w.heap.size 104 i0 _ 2 Try.underlying59 hi hz0 hz1 _ _ _ _ rs.length rfl rfl rfl rfl ?c1 ?c2 ?c3 ?_)
  case c1 => rw [hz2]; omega
  case c2 => unfold maxLen; omega
  case c3 => exact Nat.le_refl _
  intro w1 hown hgrow
  have hbel : Below w.heap.size w w1 := (Below.refl _ _).grown hgrow (Nat.le_refl _) (fun k h => by cases h)
  obtain ⟨xs0, hown⟩ : ∃ xs, w1.ownsRow w.heap.size 104 2 (.slice (some ⟨w.heap.size, 0, none⟩) rs.length rs.length) rs.length xs := ⟨_, hown⟩
  have hf0 : RunsTo xs0 rs 0 := ⟨hown.1, fun i _ h => absurd h (by omega)⟩
  clear hgrow hi hz0 hz1 hz2
  go_wp2
  go_loopw [7] (fun i wr => ∃ (k : Nat) (xs : List Value), k ≤ rs.length ∧ i = .int .i64 k ∧ wr.ownsRow w.heap.size 104 2 (.slice (some ⟨w.heap.size, 0, none⟩) rs.length rs.length) rs.length xs ∧ RunsTo xs rs k ∧ Below w.heap.size w wr) (fun i _ => rs.length - (intOf i).toNat)
  case atStart => exact ⟨0, xs0, Nat.zero_le _, rfl, hown, hf0, hbel⟩
  case round =>
    clear hown hf0 hbel
    obtain ⟨k, xs, hk, rfl, hown, hfl, hbel⟩ := hrel
    have Hfl := hidd hfl
    have Hown := hidd hown
    by_cases hlt : k < rs.length
    · obtain ⟨x, hx⟩ : ∃ x, Hid (rs[k]? = some x) := ⟨rs[k], hidd (List.getElem?_eq_getElem hlt)⟩
      obtain ⟨⟨ga, rfl, c0'⟩, ⟨gb, rfl, c1'⟩⟩ := Hrd.out k x hx.out
      have c0 := cell_to hbel c0'
      have c1 := cell_to hbel c1'
      obtain ⟨v0, hv0⟩ := cell_of_own hown (k * 2) (by omega)
      obtain ⟨v1, hv1⟩ := cell_of_own hown (k * 2 + 1) (by omega)
      have hf0 := hown.frozenAt (k * 2)
      have hf1 := hown.frozenAt (k * 2 + 1)
      have g0 : (0 : Int) ≤ (k : Int) := by omega
      have g1 : (k : Int) < (rs.length : Int) := by omega
      clear c0' c1' hown hfl
      go_wp2
      go_region
      all_goals go_wp2
      go_roundw
      case rel => exact ⟨k + 1, _, by omega, by go_num, ((Hown.out.stored _ _).1.stored _ _).1.drew, runsTo_succ Hfl.out hx.out, ((hbel.setCell (Nat.le_refl _) _).setCell (Nat.le_refl _) _).drew⟩
      case measure => simp [intOf]; omega
    · obtain rfl : k = rs.length := by omega
      have HE := hidd (slR_to hown hfl)
      clear hown hfl
      go_wp2
      go_ret2
      exact ⟨_, rfl, HE.out, hbel⟩

end Go.Proofs.Qxb6608633a
