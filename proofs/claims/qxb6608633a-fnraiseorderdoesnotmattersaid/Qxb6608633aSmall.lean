/- zzBytes of RaiseOrder, zzEqStrs, zzEqU64s, zzCountIn. -/
import Derived.Test.Qxb6608633aLawA
namespace Go.Proofs.Qxb6608633a
open Go.RowKit

def Small20 (es : List Ent) (id1 id2 : ByteArray) : Prop := es.length ≤ 1048576 ∧ Short es ∧ id1.size ≤ 1048576 ∧ id2.size ≤ 1048576

set_option maxHeartbeats 1000000 in
theorem bytes20_any (ao : Option Addr) (cap : Nat) (es : List Ent) (id : ByteArray) (a : Int) (id2 : ByteArray) (b : Int) (w : World) (he : EntsAt w ao es) (hl : es.length ≤ maxLen) (hsz : ∀ e ∈ es, e.1.size ≤ maxLen) (hid : id.size ≤ maxLen) (hid2 : id2.size ≤ maxLen) :
    Calls Try.prog 20 #[.slice ao es.length cap, .string id, .int .u64 a, .string id2, .int .u64 b] w (RetB w (Small20 es id id2)) := by
  unfold maxLen at hl hsz hid hid2
  by_cases h1 : 1048576 < es.length
  · go_enter Try.func20, Try.ntmps20
    go_wp2
    go_ret
    exact ⟨false, rfl, rfl, fun h => by cases h⟩
  · go_enter Try.func20, Try.ntmps20
    go_wp2
    go_loop [11, 12] (fun z i => ∃ (k : Nat) (n : Int), k ≤ es.length ∧ i = .int .i64 k ∧ z = .int .i64 n ∧ 0 ≤ n ∧ n ≤ 1048576 ∧ Short (es.take k)) (fun _ i => es.length - (intOf i).toNat)
    case atStart => exact ⟨0, _, Nat.zero_le _, rfl, rfl, by omega, by omega, by intro e he; simp at he⟩
    case round =>
      obtain ⟨k, z, hk, rfl, rfl, hz0, hz1, hsh⟩ := hrel
      by_cases hlt : k < es.length
      · obtain ⟨b', off, s, n, rfl, hkk, hc0, hc1⟩ := he.at hlt
        have hss : s.size ≤ 9223372036854775807 := hsz (s, n) (List.mem_of_getElem? hkk.out)
        clear he hsz
        by_cases h2 : (1048576 : Int) < (s.size : Int)
        · go_wp2
          go_ret
          exact ⟨false, rfl, rfl, fun h => by cases h⟩
        · by_cases h3 : (1048576 : Int) < z + (s.size : Int)
          · go_wp2
            go_ret
            exact ⟨false, rfl, rfl, fun h => by cases h⟩
          · go_wp2
            go_round
            case rel => exact ⟨k + 1, _, by omega, by go_num, rfl, by omega, by omega, short_snoc hsh hkk (by omega)⟩
            case measure => simp [intOf]; omega
      · have hfull : Short es := by rwa [List.take_of_length_le (by omega)] at hsh
        by_cases h2 : (1048576 : Int) < (id.size : Int)
        · go_wp2
          go_ret
          exact ⟨false, rfl, rfl, fun h => by cases h⟩
        · by_cases h3 : (1048576 : Int) < z + (id.size : Int)
          · go_wp2
            go_ret
            exact ⟨false, rfl, rfl, fun h => by cases h⟩
          · by_cases h4 : (1048576 : Int) < (id2.size : Int)
            · go_wp2
              go_ret
              exact ⟨false, rfl, rfl, fun h => by cases h⟩
            · by_cases h5 : (1048576 : Int) < z + (id.size : Int) + (id2.size : Int)
              · go_wp2
                go_ret
                exact ⟨false, rfl, rfl, fun h => by cases h⟩
              · go_wp2
                go_ret
                exact ⟨true, rfl, rfl, fun _ => ⟨by omega, hfull, by omega, by omega⟩⟩

set_option maxHeartbeats 1000000 in
set_option maxRecDepth 100000 in
theorem eqStrs_same (ai an ai' an' : Option Addr) (ci ci' : Nat) (es : List Ent) (w : World) (hp : PairAt w ai an es) (hf : PairAt w ai' an' es) (hl : es.length ≤ 1048578) :
    Calls Try.prog 21 #[.slice ai es.length ci, .slice ai' es.length ci'] w (RetD w true) := by
  go_enter Try.func21, Try.ntmps21
  go_wp2
  go_loopw [5] (fun i wr => ∃ (k q : Nat), k ≤ es.length ∧ i = .int .i64 k ∧ wr = w.drewN q) (fun i _ => es.length - (intOf i).toNat)
  case atStart => exact ⟨0, 0, Nat.zero_le _, rfl, rfl⟩
  case round =>
    obtain ⟨k, q, hk, rfl, hwr⟩ := hrel
    replace hp : PairAt wr ai an es := by rw [hwr]; exact hp
    replace hf : PairAt wr ai' an' es := by rw [hwr]; exact hf
    have Hw := hidd hwr
    clear hwr
    by_cases hlt : k < es.length
    · obtain ⟨bi, bn, s, n, rfl, rfl, hkk, hc0, hc1⟩ := hp.at hlt
      obtain ⟨bi', bn', s', n', rfl, rfl, hkk', hd0, hd1⟩ := hf.at hlt
      have e := hkk.out.symm.trans hkk'.out
      cases e
      have g0 : (0 : Int) ≤ (k : Int) := by omega
      have g1 : (k : Int) < (es.length : Int) := by omega
      clear hp hf
      go_wp2
      go_quiet (fail)
      go_wp2
      go_roundw
      case rel => exact ⟨k + 1, _, by omega, by go_num, dN2 Hw _⟩
      case measure => simp [intOf]; omega
    · clear hp hf
      go_wp2
      go_ret
      exact ⟨rfl, q, Hw.out⟩

set_option maxHeartbeats 1000000 in
set_option maxRecDepth 100000 in
theorem eqU64s_same (ai an ai' an' : Option Addr) (cn cn' : Nat) (es : List Ent) (w : World) (hp : PairAt w ai an es) (hf : PairAt w ai' an' es) (hl : es.length ≤ 1048578) :
    Calls Try.prog 22 #[.slice an es.length cn, .slice an' es.length cn'] w (RetD w true) := by
  go_enter Try.func22, Try.ntmps22
  go_wp2
  go_loopw [5] (fun i wr => ∃ (k q : Nat), k ≤ es.length ∧ i = .int .i64 k ∧ wr = w.drewN q) (fun i _ => es.length - (intOf i).toNat)
  case atStart => exact ⟨0, 0, Nat.zero_le _, rfl, rfl⟩
  case round =>
    obtain ⟨k, q, hk, rfl, hwr⟩ := hrel
    replace hp : PairAt wr ai an es := by rw [hwr]; exact hp
    replace hf : PairAt wr ai' an' es := by rw [hwr]; exact hf
    have Hw := hidd hwr
    clear hwr
    by_cases hlt : k < es.length
    · obtain ⟨bi, bn, s, n, rfl, rfl, hkk, hc0, hc1⟩ := hp.at hlt
      obtain ⟨bi', bn', s', n', rfl, rfl, hkk', hd0, hd1⟩ := hf.at hlt
      have e := hkk.out.symm.trans hkk'.out
      cases e
      have g0 : (0 : Int) ≤ (k : Int) := by omega
      have g1 : (k : Int) < (es.length : Int) := by omega
      clear hp hf
      go_wp2
      go_quiet (fail)
      go_wp2
      go_roundw
      case rel => exact ⟨k + 1, _, by omega, by go_num, dN2 Hw _⟩
      case measure => simp [intOf]; omega
    · clear hp hf
      go_wp2
      go_ret
      exact ⟨rfl, q, Hw.out⟩

set_option maxHeartbeats 1000000 in
set_option maxRecDepth 100000 in
theorem countIn_any (ai an : Option Addr) (ci cn : Nat) (es : List Ent) (id : ByteArray) (w : World) (he : PairAt w ai an es) (hl : es.length ≤ 1048578) :
    Calls Try.prog 23 #[.slice ai es.length ci, .slice an es.length cn, .string id] w fun e w' => e = .returned (.int .u64 (countL es id)) ∧ w' = w := by
  go_enter Try.func23, Try.ntmps23
  go_wp2
  go_loop [7] (fun i => ∃ (k : Nat), k ≤ es.length ∧ i = .int .i64 k ∧ countL (es.drop k) id = countL es id) (fun i => es.length - (intOf i).toNat)
  case atStart => exact ⟨0, Nat.zero_le _, rfl, rfl⟩
  case round =>
    obtain ⟨k, hk, rfl, hc⟩ := hrel
    by_cases hlt : k < es.length
    · obtain ⟨bi, bn, s, n, rfl, rfl, hkk, hc0, hc1⟩ := he.at hlt
      have Hd : Hid (_ = _) := countL_drop hkk id
      rw [hc] at Hd
      clear he hc
      by_cases h1 : s = id
      · have h1' : (s.toList == id.toList) = true := by rw [beqB]; simpa using h1
        have H1 : Hid (s = id) := h1
        clear h1
        go_wp2
        go_ret
        exact ⟨ret_int (by rw [Hd.out, if_pos H1.out]), rfl⟩
      · have h1' : (s.toList == id.toList) = false := by rw [beqB]; simpa using h1
        go_wp2
        go_round
        case rel => exact ⟨k + 1, by omega, by go_num, by rw [Hd.out, if_neg h1]⟩
        case measure => simp [intOf]; omega
    · obtain rfl : k = es.length := by omega
      have H : Hid (_ = countL es id) := hc
      clear he hc
      go_wp2
      go_ret
      exact ⟨ret_int (by rw [← H.out]; simp [countL]), rfl⟩

end Go.Proofs.Qxb6608633a
