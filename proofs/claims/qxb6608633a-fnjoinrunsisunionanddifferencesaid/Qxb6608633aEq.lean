/- zzEntriesEq. -/
import Derived.Test.Qxb6608633aOut
namespace Go.Proofs.Qxb6608633a
open Go.RowKit

def eqEnts (a b : List Ent) : Bool := decide (a = b)

theorem PairAt.at {w : World} {ai an : Option Addr} {es : List Ent} (h : PairAt w ai an es) {k : Nat} (hk : k < es.length) :
    ∃ bi bn s n, ai = some ⟨bi, 0, none⟩ ∧ an = some ⟨bn, 0, none⟩ ∧ Hid (es[k]? = some (s, n)) ∧ w.cell? ⟨bi, k, none⟩ = some (.string s) ∧ w.cell? ⟨bn, k, none⟩ = some (.int .u64 n) := by
  rcases h with h | ⟨bi, bn, h1, h2, _, _, hc⟩
  · subst h; simp at hk
  · have he : es[k]? = some (es[k].1, es[k].2) := by simp [hk]
    exact ⟨bi, bn, _, _, h1, h2, he, hc k _ _ he⟩

theorem ne_of_at {a b : List Ent} {k : Nat} {x y : Ent} (h1 : a[k]? = some x) (h2 : b[k]? = some y) (h : x ≠ y) : eqEnts a b = false := by
  unfold eqEnts
  exact decide_eq_false (fun e => by subst e; rw [h1] at h2; cases h2; exact h rfl)

theorem take_eq_succ {a b : List Ent} {k : Nat} {x : Ent} (h : a.take k = b.take k) (h1 : a[k]? = some x) (h2 : b[k]? = some x) : a.take (k + 1) = b.take (k + 1) := by
  rw [List.take_add_one, List.take_add_one, h, h1, h2]

/-- It returns the bool, the world as it was but for draws. -/
def RetD (w : World) (r : Bool) (e : Ending) (w' : World) : Prop := e = .returned (.bool r) ∧ ∃ q, w' = w.drewN q

set_option maxHeartbeats 1000000 in
set_option maxRecDepth 100000 in
theorem entriesEq_any (ai an ao : Option Addr) (ci cn co : Nat) (es fs : List Ent) (w : World) (hp : PairAt w ai an es) (hf : EntsAt w ao fs) (hl : es.length ≤ 1048577) (_hl2 : fs.length ≤ 1048577) :
    Calls Try.prog 19 #[.slice ai es.length ci, .slice an es.length cn, .slice ao fs.length co] w (RetD w (eqEnts es fs)) := by
  by_cases hlen : es.length = fs.length
  · have hle : ((es.length : Int) != (fs.length : Int)) = false := by simp; omega
    have Hlen := hidd hlen
    clear hlen
    go_enter Try.func19, Try.ntmps19
    go_wp2
    go_loopw [7] (fun i wr => ∃ (k q : Nat), k ≤ fs.length ∧ i = .int .i64 k ∧ Hid (es.take k = fs.take k) ∧ wr = w.drewN q) (fun i _ => fs.length - (intOf i).toNat)
    case atStart => exact ⟨0, 0, Nat.zero_le _, rfl, hidd rfl, rfl⟩
    case round =>
      obtain ⟨k, q, hk, rfl, Htk, hwr⟩ := hrel
      replace hp : PairAt wr ai an es := by rw [hwr]; exact hp
      replace hf : EntsAt wr ao fs := by rw [hwr]; exact hf
      have Hw := hidd hwr
      clear hwr
      by_cases hlt : k < fs.length
      · obtain ⟨bi, bn, s, n, rfl, rfl, hkk, hc0, hc1⟩ := hp.at (k := k) (by have := Hlen.out; omega)
        obtain ⟨b, off, s', n', rfl, hkk', hd0, hd1⟩ := hf.at hlt
        have g0 : (0 : Int) ≤ (k : Int) := by omega
        have g1 : (k : Int) < (fs.length : Int) := by omega
        have g2 : (k : Int) < (es.length : Int) := by have := Hlen.out; omega
        clear hp hf
        by_cases hs : s = s'
        · have hb : (s.toList == s'.toList) = true := by rw [beqB]; simpa using hs
          by_cases hn : n = n'
          · have hnb : (n != n') = false := by simp [hn]
            have He := hidd (take_eq_succ Htk.out hkk.out (by rw [hs, hn]; exact hkk'.out))
            clear hs hn
            go_wp2
            go_quiet (fail)
            go_wp2
            go_roundw
            case rel => exact ⟨k + 1, _, by omega, by go_num, He, dN2 Hw _⟩
            case measure => simp [intOf]; omega
          · have hnb : (n != n') = true := by simpa using hn
            have He := hidd (ne_of_at hkk.out hkk'.out (fun e => hn (by cases e; rfl)))
            clear hs hn
            go_wp2
            go_quiet (fail)
            go_wp2
            go_ret
            exact ⟨by rw [He.out]; rfl, _, dN2 Hw _⟩
        · have hb : (s.toList == s'.toList) = false := by rw [beqB]; simpa using hs
          have He := hidd (ne_of_at hkk.out hkk'.out (fun e => hs (by cases e; rfl)))
          clear hs
          go_wp2
          go_quiet (fail)
          go_wp2
          go_ret
          exact ⟨by rw [He.out]; rfl, _, dN2 Hw _⟩
      · have He : Hid (eqEnts es fs = true) := by
          have h := Htk.out
          have h1 := Hlen.out
          rw [List.take_of_length_le (by omega), List.take_of_length_le (by omega)] at h
          exact decide_eq_true h
        clear hp hf
        go_wp2
        go_ret
        exact ⟨by rw [He.out]; rfl, q, Hw.out⟩
  · have hle : ((es.length : Int) != (fs.length : Int)) = true := by simp; omega
    have He : Hid (eqEnts es fs = false) := decide_eq_false (fun h => hlen (by rw [h]))
    clear hlen hp hf
    go_enter Try.func19, Try.ntmps19
    go_wp2
    go_ret
    exact ⟨by rw [He.out]; rfl, 0, rfl⟩

end Go.Proofs.Qxb6608633a
