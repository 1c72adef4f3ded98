/- Slices of entries (a string and a uint64, two cells each) that are read: zzBytes, zzEntriesValid, zzCountOf. -/
import Derived.Test.Qxb6608633aLeaf
import Derived.WalkSmall
namespace Go.Proofs.Qxb6608633a
open Go.RowKit

abbrev Ent := ByteArray × Int

/-- The slice's address leads to the entries es (two cells each). -/
def EntsAt (w : World) (ao : Option Addr) (es : List Ent) : Prop :=
  es = [] ∨ ∃ b off, ao = some ⟨b, off, none⟩ ∧ ∀ i s n, es[i]? = some (s, n) → w.cell? ⟨b, off + i * 2, none⟩ = some (.string s) ∧ w.cell? ⟨b, off + i * 2 + 1, none⟩ = some (.int .u64 n)

theorem EntsAt.at {w : World} {ao : Option Addr} {es : List Ent} (h : EntsAt w ao es) {k : Nat} (hk : k < es.length) :
    ∃ b off s n, ao = some ⟨b, off, none⟩ ∧ Hid (es[k]? = some (s, n)) ∧ w.cell? ⟨b, off + k * 2, none⟩ = some (.string s) ∧ w.cell? ⟨b, off + k * 2 + 1, none⟩ = some (.int .u64 n) := by
  rcases h with h | ⟨b, off, ha, hc⟩
  · subst h; simp at hk
  · have he : es[k]? = some (es[k].1, es[k].2) := by simp [hk]
    exact ⟨b, off, es[k].1, es[k].2, ha, he, hc k _ _ he⟩

theorem EntsAt.below {w w' : World} {ao : Option Addr} {es : List Ent} {B : Nat} (h : EntsAt w ao es) (hb : Below B w w') (hB : ∀ a, ao = some a → a.block < B) : EntsAt w' ao es := by
  rcases h with h | ⟨b, off, ha, hc⟩
  · exact .inl h
  · refine .inr ⟨b, off, ha, fun i s n hi => ?_⟩
    have := hB _ ha
    have e : ∀ o, w'.cell? ⟨b, o, none⟩ = w.cell? ⟨b, o, none⟩ := fun o => hb.cell (p := ⟨b, o, none⟩) this
    exact ⟨(e _).trans (hc i s n hi).1, (e _).trans (hc i s n hi).2⟩

/-- It returns some bool, the world as it was; if true then P. -/
def RetB (w : World) (P : Prop) (e : Ending) (w' : World) : Prop := ∃ r : Bool, e = .returned (.bool r) ∧ w' = w ∧ (r = true → P)

def Short (es : List Ent) : Prop := ∀ e ∈ es, e.1.size ≤ 1048576

theorem short_snoc {es : List Ent} {k : Nat} {s : ByteArray} {n : Int} (h : Short (es.take k)) (hk : Hid (es[k]? = some (s, n))) (hs : (s.size : Int) ≤ 1048576) : Short (es.take (k + 1)) := by
  have hk := hk.out
  intro e he
  rw [List.take_add_one, hk] at he
  simp at he
  rcases he with he | rfl
  · exact h e he
  · show s.size ≤ 1048576; omega

def Small8 (es : List Ent) (id : ByteArray) : Prop := es.length ≤ 1048576 ∧ Short es ∧ id.size ≤ 1048576

set_option maxHeartbeats 1000000 in
theorem bytes8_any (ao : Option Addr) (cap : Nat) (es : List Ent) (id : ByteArray) (a b : Int) (w : World) (he : EntsAt w ao es) (hl : es.length ≤ maxLen) (hsz : ∀ e ∈ es, e.1.size ≤ maxLen) (hid : id.size ≤ maxLen) :
    Calls Try.prog 8 #[.slice ao es.length cap, .string id, .int .u64 a, .int .u64 b] w (RetB w (Small8 es id)) := by
  unfold maxLen at hl hsz hid
  by_cases h1 : 1048576 < es.length
  · go_enter Try.func8, Try.ntmps8
    go_wp2
    go_ret
    exact ⟨false, rfl, rfl, fun h => by cases h⟩
  · go_enter Try.func8, Try.ntmps8
    go_wp2
    go_loop [9, 10] (fun z i => ∃ (k : Nat) (n : Int), k ≤ es.length ∧ i = .int .i64 k ∧ z = .int .i64 n ∧ 0 ≤ n ∧ n ≤ 1048576 ∧ Short (es.take k)) (fun _ i => es.length - (intOf i).toNat)
    case atStart => exact ⟨0, _, Nat.zero_le _, rfl, rfl, by omega, by omega, by intro e he; simp at he⟩
    case round =>
      obtain ⟨k, z, hk, rfl, rfl, hz0, hz1, hsh⟩ := hrel
      by_cases hlt : k < es.length
      · obtain ⟨b', off, s, n, rfl, hkk, hc0, hc1⟩ := he.at hlt
        have hss : s.size ≤ 9223372036854775807 := hsz (s, n) (List.mem_of_getElem? hkk.out)
        clear he hsz
        by_cases h2 : (1048576 : Int) < (s.size : Int)
        · go_wp2
          go_ret
          exact ⟨false, rfl, rfl, fun h => by cases h⟩
        · by_cases h3 : (1048576 : Int) < z + (s.size : Int)
          · go_wp2
            go_ret
            exact ⟨false, rfl, rfl, fun h => by cases h⟩
          · go_wp2
            go_round
            case rel => exact ⟨k + 1, _, by omega, by go_num, rfl, by omega, by omega, short_snoc hsh hkk (by omega)⟩
            case measure => simp [intOf]; omega
      · have hfull : Short es := by rwa [List.take_of_length_le (by omega)] at hsh
        by_cases h2 : (1048576 : Int) < (id.size : Int)
        · go_wp2
          go_ret
          exact ⟨false, rfl, rfl, fun h => by cases h⟩
        · by_cases h3 : (1048576 : Int) < z + (id.size : Int)
          · go_wp2
            go_ret
            exact ⟨false, rfl, rfl, fun h => by cases h⟩
          · go_wp2
            go_ret
            exact ⟨true, rfl, rfl, fun _ => ⟨by omega, hfull, by omega⟩⟩

/-- The first k entries are in their one form. -/
def OkTo (es : List Ent) (k : Nat) : Prop :=
  (∀ (i : Nat) (s : ByteArray) (n : Int), i < k → es[i]? = some (s, n) → s.toList.isEmpty = false ∧ n ≠ 0) ∧
  (∀ (i : Nat) (s : ByteArray) (n : Int) (s' : ByteArray) (n' : Int), i + 1 < k → es[i]? = some (s, n) → es[i + 1]? = some (s', n') → cmpB s s' < 0)

theorem okTo_zero (es : List Ent) : OkTo es 0 := ⟨fun i _ _ h => absurd h (by omega), fun i _ _ _ _ h => absurd h (by omega)⟩

theorem okTo_one {es : List Ent} {s : ByteArray} {n : Int} (hk : Hid (es[0]? = some (s, n))) (h1 : s.toList.isEmpty = false) (h2 : n ≠ 0) : OkTo es 1 := by
  refine ⟨fun i s' n' hi he => ?_, fun i _ _ _ _ h => absurd h (by omega)⟩
  obtain rfl : i = 0 := by omega
  rw [hk.out] at he; cases he; exact ⟨h1, h2⟩

theorem okTo_succ {es : List Ent} {k : Nat} {s s' : ByteArray} {n n' : Int} (h : OkTo es (k + 1)) (hk : Hid (es[k]? = some (s, n))) (hk' : Hid (es[k + 1]? = some (s', n'))) (h1 : s'.toList.isEmpty = false) (h2 : n' ≠ 0) (h3 : cmpB s s' < 0) : OkTo es (k + 1 + 1) := by
  refine ⟨fun i t m hi he => ?_, fun i t m t' m' hi he he' => ?_⟩
  · by_cases hik : i < k + 1
    · exact h.1 i t m hik he
    · obtain rfl : i = k + 1 := by omega
      rw [hk'.out] at he; cases he; exact ⟨h1, h2⟩
  · by_cases hik : i + 1 < k + 1
    · exact h.2 i t m t' m' hik he he'
    · obtain rfl : i = k := by omega
      rw [hk.out] at he; rw [hk'.out] at he'; cases he; cases he'; exact h3

/-- It returns some bool, the world as it was but for draws; if true then P. -/
def RetBD (w : World) (P : Prop) (e : Ending) (w' : World) : Prop := ∃ r : Bool, e = .returned (.bool r) ∧ (∃ q, w' = w.drewN q) ∧ (r = true → P)

theorem dN2 {w wr : World} {q : Nat} (h : Hid (wr = w.drewN q)) (n : Nat) : wr.drewN n = w.drewN (q + n) := by rw [h.out, World.drewN_drewN]

theorem wrapN (k : Nat) (h : k ≤ 9223372036854775807) : IntKind.i64.wrap (k : Int) = (k : Int) := by
  exact IntWalk.i64_in _ (by omega)

set_option maxHeartbeats 1000000 in
theorem valid_any (ao : Option Addr) (cap : Nat) (es : List Ent) (w : World) (he : EntsAt w ao es) (hl : es.length ≤ 1048576) (hsz : Short es) :
    Calls Try.prog 9 #[.slice ao es.length cap] w (RetBD w (OkTo es es.length)) := by
  go_enter Try.func9, Try.ntmps9
  go_wp2
  go_loopw [3] (fun i wr => ∃ (k q : Nat), k ≤ es.length ∧ i = .int .i64 k ∧ OkTo es k ∧ wr = w.drewN q) (fun i _ => es.length - (intOf i).toNat)
  case atStart => exact ⟨0, 0, Nat.zero_le _, rfl, okTo_zero es, rfl⟩
  case round =>
    obtain ⟨k, q, hk, rfl, hok, hwr⟩ := hrel
    have Hok : Hid (OkTo es k) := hok
    replace he : EntsAt wr ao es := by rw [hwr]; exact he
    have Hw : Hid (wr = w.drewN q) := hwr
    clear hok hwr
    by_cases hlt : k < es.length
    · obtain ⟨b', off, s, n, rfl, hkk, hc0, hc1⟩ := he.at hlt
      have hss : s.size ≤ 1048576 := hsz (s, n) (List.mem_of_getElem? hkk.out)
      by_cases h1 : s.toList.isEmpty = true
      · clear he hsz
        go_wp2
        go_ret
        exact ⟨false, rfl, ⟨q, Hw.out⟩, fun h => by cases h⟩
      · have h1' : s.toList.isEmpty = false := by simpa using h1
        by_cases h2 : n = 0
        · clear he hsz
          have h2' : (n == 0) = true := by simp [h2]
          clear h2
          go_wp2
          go_ret
          exact ⟨false, rfl, ⟨q, Hw.out⟩, fun h => by cases h⟩
        · have h2' : (n == 0) = false := by simp [h2]
          cases k with
          | zero =>
            clear he hsz
            simp only [Nat.zero_mul, Nat.add_zero] at hc0 hc1
            go_wp2
            go_quiet (fail)
            go_wp2
            go_roundw
            case rel => exact ⟨1, _, by omega, rfl, okTo_one hkk h1' h2, dN2 Hw _⟩
            case measure => simp [intOf]; omega
          | succ k =>
            obtain ⟨b2, off2, s', n', e2, hkk', hc0', hc1'⟩ := he.at (k := k) (by omega)
            cases e2
            have hss' : s'.size ≤ 1048576 := hsz (s', n') (List.mem_of_getElem? hkk'.out)
            have hm1 : s.size ≤ maxLen := by unfold maxLen; omega
            have hm2 : s'.size ≤ maxLen := by unfold maxLen; omega
            have hw : IntKind.i64.wrap (k : Int) = (k : Int) := wrapN k (by omega)
            have g1 : (0 : Int) ≤ (k : Int) + 1 := by omega
            have g2 : (k : Int) + 1 < (es.length : Int) := by omega
            have g3 : (0 : Int) ≤ (k : Int) := by omega
            have g4 : (k : Int) < (es.length : Int) := by omega
            clear he hsz
            by_cases h3 : 0 ≤ cmpB s' s
            · go_wp2
              go_quiet ((go_at_call 40; exact Calls.quiet_of (cmpStr_any _ _ _ hm2 hm1)))
              go_wp2
              go_ret
              exact ⟨false, rfl, ⟨_, dN2 Hw _⟩, fun h => by cases h⟩
            · have h3' : cmpB s' s < 0 := by omega
              go_wp2
              go_quiet ((go_at_call 40; exact Calls.quiet_of (cmpStr_any _ _ _ hm2 hm1)))
              go_wp2
              go_roundw
              case rel => exact ⟨k + 1 + 1, _, by omega, by go_num, okTo_succ Hok.out hkk' hkk h1' h2 h3', dN2 Hw _⟩
              case measure => simp [intOf]; omega
    · obtain rfl : k = es.length := by omega
      clear he hsz
      go_wp2
      go_ret
      exact ⟨true, rfl, ⟨q, Hw.out⟩, fun _ => Hok.out⟩

end Go.Proofs.Qxb6608633a
