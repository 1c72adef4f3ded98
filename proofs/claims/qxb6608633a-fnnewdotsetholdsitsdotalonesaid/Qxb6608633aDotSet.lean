/- NewDotSet, ZZDotSetContext and the law over one dot. -/
import Derived.Test.Qxb6608633aFieldsOne
namespace Go.Proofs.Qxb6608633a
open Go.RowKit

def DotSetRet (w : World) (s : ByteArray) (c : Int) (e : Ending) (w' : World) : Prop :=
  ∃ g, e = .returned (.agg #[.slice (some ⟨g, 0, none⟩) 1 1]) ∧ w'.cell? ⟨g, 0, none⟩ = some (.string s) ∧ w'.cell? ⟨g, 1, none⟩ = some (.int .u64 c) ∧ Below w.heap.size w w'

theorem cell_new2 {w : World} {b t i : Nat} {cs : Array Value} {v : Value} (hb : b = w.heap.size) (hv : cs[i]? = some v) : (w.alloc (.cells cs t)).cell? ⟨b, i, none⟩ = some v := by
  subst hb
  have h := World.alloc_heap_new w (.cells cs t)
  unfold World.cell?
  simp only [h]
  exact hv

set_option maxHeartbeats 1000000 in
set_option maxRecDepth 100000 in
theorem newDotSet_any (s : ByteArray) (c : Int) (w : World) : Calls Try.prog 38 #[.agg #[.string s, .int .u64 c]] w (DotSetRet w s c) := by
  go_enter Try.func38, Try.ntmps38
  go_wp2
  refine bodyPost_ret (v := .agg #[.slice (some ⟨w.heap.size + 1 + 1, 0, none⟩) 1 1]) (by simp [results, Try.results38, go_sem]) rfl ?_
  refine ⟨w.heap.size + 1 + 1, rfl, ?_, ?_, (((Below.refl _ _).alloc (Nat.le_refl _) _).alloc (by simp) _).alloc (by simp; omega) _⟩
  · exact cell_new2 (by simp) rfl
  · exact cell_new2 (by simp) rfl

theorem ents_one {w : World} {g : Nat} {s : ByteArray} {c : Int} (h0 : w.cell? ⟨g, 0, none⟩ = some (.string s)) (h1 : w.cell? ⟨g, 1, none⟩ = some (.int .u64 c)) : EntsAt w (some ⟨g, 0, none⟩) [(s, c)] := by
  refine .inr ⟨g, 0, rfl, fun i s' n' hi => ?_⟩
  match i, hi with
  | 0, hi => simp at hi; obtain ⟨rfl, rfl⟩ := hi; exact ⟨h0, h1⟩

set_option maxHeartbeats 2000000 in
set_option maxRecDepth 100000 in
theorem dotSetContext_one (g : Nat) (s : ByteArray) (c : Int) (hs : s.toList.isEmpty = false) (hc : c ≠ 0) (w : World) (h0 : w.cell? ⟨g, 0, none⟩ = some (.string s)) (h1 : w.cell? ⟨g, 1, none⟩ = some (.int .u64 c)) :
    Calls Try.prog 39 #[.agg #[.slice (some ⟨g, 0, none⟩) 1 1]] w (FieldsOneRet w s c) := by
  have hb := below_self w (.cells #[.slice (some ⟨g, 0, none⟩) 1 1] 76)
  have H0 := hidd (cell_to hb h0)
  have H1 := hidd (cell_to hb h1)
  clear h0 h1
  go_enter Try.func39, Try.ntmps39
  go_wp2_with (go_at_call 46; refine (values_any _ _ _ _).mono ?_; rintro e w' ⟨rfl, rfl⟩)
  have hb2 := below_to hb (below_self _ (.cells #[.slice (some ⟨g, 0, none⟩) 1 1] 74)) hb.size
  have h0 := cell_to (below_self _ (.cells #[.slice (some ⟨g, 0, none⟩) 1 1] 74)) H0.out
  have h1 := cell_to (below_self _ (.cells #[.slice (some ⟨g, 0, none⟩) 1 1] 74)) H1.out
  have hbx : ((w.alloc (.cells #[.slice (some ⟨g, 0, none⟩) 1 1] 76)).alloc (.cells #[.slice (some ⟨g, 0, none⟩) 1 1] 74)).cell? ⟨w.heap.size + 1, 0, none⟩ = some (.slice (some ⟨g, 0, none⟩) 1 1) := cell_new2 (by simp) rfl
  clear H0 H1 hb
  generalize (w.alloc (.cells #[.slice (some ⟨g, 0, none⟩) 1 1] 76)).alloc (.cells #[.slice (some ⟨g, 0, none⟩) 1 1] 74) = W at *
  have hbs := hb2.size
  refine (contextOf_one (w.heap.size + 1) g 0 1 s c hs hc W (World.block_lt_of_cell? W _ hbx) (World.block_lt_of_cell? W _ h0) hbx (ents_one h0 h1)).mono ?_
  rintro e w1 ⟨N, M, rfl, hN, hM, hb3⟩
  have H := hidd (fields_one N M s c w1 hN hM)
  have hb4 := below_to hb2 hb3 hbs
  clear hN hM h0 h1 hbx hb2 hb3
  go_wp2_with fail
  refine H.out.mono ?_
  rintro e w2 ⟨a, b, l, h, rfl, ha, hb, hl, hh, hb5⟩
  have HA := hidd ha
  have HB := hidd hb
  have HL := hidd hl
  have HH := hidd hh
  have hb6 := below_to hb4 hb5 hb4.size
  clear ha hb hl hh hb4 hb5 H
  go_wp2
  refine bodyPost_ret (by simp [results, Try.results39, go_sem]; rfl) rfl ?_
  exact ⟨_, _, _, _, rfl, HA.out, HB.out, HL.out, HH.out, hb6⟩

set_option maxHeartbeats 1000000 in
theorem bytes37_any (s : ByteArray) (c : Int) (w : World) (hs : s.size ≤ maxLen) : Calls Try.prog 37 #[.string s, .int .u64 c] w (RetB w (s.size ≤ 1048576)) := by
  unfold maxLen at hs
  by_cases h1 : (1048576 : Int) < (s.size : Int)
  · go_enter Try.func37, Try.ntmps37
    go_wp2
    go_ret
    exact ⟨false, rfl, rfl, fun h => by cases h⟩
  · go_enter Try.func37, Try.ntmps37
    go_wp2
    go_ret
    exact ⟨true, rfl, rfl, fun _ => by omega⟩

/-- It returns true; nothing that lay has turned. -/
def LawRet (w : World) (e : Ending) (w' : World) : Prop := e = .returned (.bool true) ∧ Below w.heap.size w w'

set_option maxHeartbeats 4000000 in
set_option maxRecDepth 100000 in
theorem law7 (s : ByteArray) (c : Int) (w : World) (hs : s.size ≤ maxLen) : Calls Try.prog 7 #[.string s, .int .u64 c] w (LawRet w) := by
  have H := hidd (bytes37_any s c w hs)
  clear hs
  go_enter Try.func7, Try.ntmps7
  go_wp2_with fail
  refine H.out.mono ?_
  rintro e wq ⟨r, rfl, hwq, hr⟩
  rw [hwq]
  clear hwq wq H
  cases r with
  | false =>
    go_wp2
    go_ret
    exact ⟨rfl, Below.refl _ _⟩
  | true =>
    have hl := hr rfl
    clear hr
    cases hse : s.toList.isEmpty with
    | true =>
      go_wp2
      go_ret
      exact ⟨rfl, Below.refl _ _⟩
    | false =>
      by_cases hc : c = 0
      · subst hc
        go_wp2
        go_ret
        exact ⟨rfl, Below.refl _ _⟩
      · have hcb : (c == 0) = false := by simpa using hc
        go_wp2_with fail
        refine (replicaID_any s w).mono ?_
        rintro e w1 ⟨rfl, hb1⟩
        go_wp2_with fail
        refine (newDotSet_any s c w1).mono ?_
        rintro e w2 ⟨g, rfl, h0, h1, hb2⟩
        have hb3 := below_to (below_to hb1 hb2 hb1.size) (below_self w2 (.cells #[.slice (some ⟨g, 0, none⟩) 1 1] 76)) (below_to hb1 hb2 hb1.size).size
        have h0' := cell_to (below_self w2 (.cells #[.slice (some ⟨g, 0, none⟩) 1 1] 76)) h0
        have h1' := cell_to (below_self w2 (.cells #[.slice (some ⟨g, 0, none⟩) 1 1] 76)) h1
        have H2 := hidd (dotSetContext_one g s c hse hc _ h0' h1')
        clear h0 h1 h0' h1' hb1 hb2
        go_wp2_with fail
        refine H2.out.mono ?_
        rintro e w3 ⟨a, b, l, h, rfl, ⟨ga, ca, rfl, hga⟩, ⟨gb, cb, rfl, hgb⟩, ⟨gl, cl, rfl, hgl⟩, ⟨gh, ch, rfl, hgh⟩, hb4⟩
        have hb5 := below_to hb3 hb4 hb3.size
        clear hb3 hb4 H2
        go_wp2
        go_ret
        exact ⟨rfl, hb5⟩

end Go.Proofs.Qxb6608633a
