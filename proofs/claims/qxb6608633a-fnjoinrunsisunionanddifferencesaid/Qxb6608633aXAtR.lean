/- at over runs, in general. -/
import Derived.Test.Qxb6608633aXTreeR
namespace Go.Proofs.Qxb6608633a
open Go.RowKit

set_option maxHeartbeats 2000000 in
set_option maxRecDepth 100000 in
theorem atX_any (p : Option Addr) (T : BT Etr) (k : Nat) (x : Etr) (w : World) (h : XTree w p T) (hk : T.list[k]? = some x) (hlen : T.list.length ≤ 1048577) :
    Calls Try.prog 58 #[.pointer p, .int .i64 k] w (RetV w (.agg #[.string x.1, .pointer x.2])) := by
  have hb := below_self w (.cells #[.string ⟨#[]⟩, .pointer none] 116)
  have Ht := hidd (h.to hb)
  have Hk := hidd hk
  have e0 : (w.alloc (.cells #[.string ⟨#[]⟩, .pointer none] 116)).cell? ⟨w.heap.size, 0, none⟩ = some (.string ⟨#[]⟩) := by simp
  have e1 : (w.alloc (.cells #[.string ⟨#[]⟩, .pointer none] 116)).cell? ⟨w.heap.size, 1, none⟩ = some (.pointer none) := by simp
  have f0 : (w.alloc (.cells #[.string ⟨#[]⟩, .pointer none] 116)).frozen? ⟨w.heap.size, 0, none⟩ = false := by simp
  have f1 : (w.alloc (.cells #[.string ⟨#[]⟩, .pointer none] 116)).frozen? ⟨w.heap.size, 1, none⟩ = false := by simp
  clear h hk
  go_enter Try.func58, Try.ntmps58
  go_wp2
  generalize w.alloc (.cells #[.string ⟨#[]⟩, .pointer none] 116) = W at *
  go_loopw [0, 1] (fun v i wr => ∃ (q : Option Addr) (U : BT Etr) (j : Nat), v = .pointer q ∧ i = .int .i64 j ∧ XTree W q U ∧ U.list[j]? = some x ∧ U.list.length ≤ 1048577 ∧ wr = W) (fun v _ _ => leftX W v)
  case atStart => exact ⟨p, T, k, rfl, rfl, Ht.out, Hk.out, hlen, rfl⟩
  case round =>
    obtain ⟨q, U, j, rfl, rfl, hU, hj, hUl, hwr⟩ := hrel
    rw [hwr]
    clear hwr wr Ht Hk hlen
    cases U with
    | nil => simp [BT.list] at hj
    | node l y r =>
      have hm := leftX_eq hU
      have HU := hidd hm
      obtain ⟨N, off, pl, pr, rfl, c0, c1, c2, c3, _, hl, hr⟩ := hU
      have Hl := hidd hl
      have Hr := hidd hr
      have hlen : (l.list ++ y :: r.list).length ≤ 1048577 := hUl
      rw [List.length_append, List.length_cons] at hlen
      have hlj := listX_at hj
      obtain ⟨n, hn⟩ : ∃ n, n = l.list.length := ⟨_, rfl⟩
      rw [← hn] at hlj hlen
      have Hn := hidd hn
      clear hl hr hj hm hUl hn
      rcases hlj with ⟨h1, h2⟩ | ⟨h1, h2⟩ | ⟨h1, h2⟩
      · have H2 := hidd h2
        clear h2
        go_wp2_with fail
        refine (lenX_any pl l W Hl.out).mono ?_
        rintro e wq ⟨he, hwq⟩
        rw [hwq]
        rw [← Hn.out] at he
        subst he
        clear hwq wq
        go_wp2
        go_roundw
        case rel => exact ⟨pl, l, j, rfl, rfl, Hl.out, H2.out, by have := Hn.out; omega, trivial⟩
        case measure => rw [leftX_eq Hl.out, HU.out]; simp [BT.list]
      · subst h1
        subst h2
        go_wp2_with fail
        refine (lenX_any pl l W Hl.out).mono ?_
        rintro e wq ⟨he, hwq⟩
        rw [hwq]
        rw [← Hn.out] at he
        subst he
        clear hwq wq
        go_wp2
        exact bodyPost_ret (v := .agg #[.string y.1, .pointer y.2]) (by simp [results, Try.results58, go_sem, e0, e1]) rfl ⟨rfl, (hb.setCell (p := ⟨w.heap.size, 0, none⟩) (Nat.le_refl _) _).setCell (p := ⟨w.heap.size, 1, none⟩) (Nat.le_refl _) _⟩
      · have H2 := hidd h2
        have hj' : j < 1048577 := by
          have := (List.getElem?_eq_some_iff.1 h2).1; omega
        have hw1 : IntKind.i64.wrap ((n : Int) + 1) = (n : Int) + 1 := IntWalk.i64_in _ (by omega)
        have hw2 : IntKind.i64.wrap ((j : Int) - ((n : Int) + 1)) = (j : Int) - ((n : Int) + 1) := IntWalk.i64_in _ (by omega)
        clear h2
        go_wp2_with fail
        refine (lenX_any pl l W Hl.out).mono ?_
        rintro e wq ⟨he, hwq⟩
        rw [hwq]
        rw [← Hn.out] at he
        subst he
        clear hwq wq
        go_wp2
        go_roundw
        case rel => exact ⟨pr, r, j - (n + 1), rfl, by congr 1; omega, Hr.out, H2.out, by omega, trivial⟩
        case measure => rw [leftX_eq Hr.out, HU.out]; simp [BT.list]; omega

end Go.Proofs.Qxb6608633a
