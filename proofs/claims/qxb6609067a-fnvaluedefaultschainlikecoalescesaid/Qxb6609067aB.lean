/- zzBytes of the two laws. -/
import Derived.Test.Qxb6609067aV
namespace Go.Proofs.Qxb6609067a
open Go.RowKit

/-- It returns some bool, the world as it was; if true then P. -/
def RetB (w : World) (P : Prop) (e : Ending) (w' : World) : Prop := ∃ r : Bool, e = .returned (.bool r) ∧ w' = w ∧ (r = true → P)

def Small5 (a b c d e : ByteArray) : Prop := a.size ≤ 1048576 ∧ b.size ≤ 1048576 ∧ c.size ≤ 1048576 ∧ d.size ≤ 1048576 ∧ e.size ≤ 1048576

set_option maxHeartbeats 2000000 in
theorem bytes5_any (nm op wd : ByteArray) (en : Int) (v s : ByteArray) (w : World) (hnm : nm.size ≤ maxLen) (hop : op.size ≤ maxLen) (hwd : wd.size ≤ maxLen) (hv : v.size ≤ maxLen) (hs : s.size ≤ maxLen) :
    Calls Try.prog 5 #[.string nm, .string op, .string wd, .int .i64 en, .string v, .string s] w (RetB w (Small5 nm op wd v s)) := by
  unfold maxLen at hnm hop hwd hv hs
  by_cases p0 : (1048576 : Int) < (nm.size : Int)
  · go_enter Try.func5, Try.ntmps5
    go_wp2
    go_ret
    exact ⟨false, rfl, rfl, fun h => by cases h⟩
  · skip
    by_cases p1 : (1048576 : Int) < (op.size : Int)
    · go_enter Try.func5, Try.ntmps5
      go_wp2
      go_ret
      exact ⟨false, rfl, rfl, fun h => by cases h⟩
    · by_cases q1 : (1048576 : Int) < (nm.size : Int) + (op.size : Int)
      · go_enter Try.func5, Try.ntmps5
        go_wp2
        go_ret
        exact ⟨false, rfl, rfl, fun h => by cases h⟩
      · skip
        by_cases p2 : (1048576 : Int) < (wd.size : Int)
        · go_enter Try.func5, Try.ntmps5
          go_wp2
          go_ret
          exact ⟨false, rfl, rfl, fun h => by cases h⟩
        · by_cases q2 : (1048576 : Int) < (nm.size : Int) + (op.size : Int) + (wd.size : Int)
          · go_enter Try.func5, Try.ntmps5
            go_wp2
            go_ret
            exact ⟨false, rfl, rfl, fun h => by cases h⟩
          · skip
            by_cases p3 : (1048576 : Int) < (v.size : Int)
            · go_enter Try.func5, Try.ntmps5
              go_wp2
              go_ret
              exact ⟨false, rfl, rfl, fun h => by cases h⟩
            · by_cases q3 : (1048576 : Int) < (nm.size : Int) + (op.size : Int) + (wd.size : Int) + (v.size : Int)
              · go_enter Try.func5, Try.ntmps5
                go_wp2
                go_ret
                exact ⟨false, rfl, rfl, fun h => by cases h⟩
              · skip
                by_cases p4 : (1048576 : Int) < (s.size : Int)
                · go_enter Try.func5, Try.ntmps5
                  go_wp2
                  go_ret
                  exact ⟨false, rfl, rfl, fun h => by cases h⟩
                · by_cases q4 : (1048576 : Int) < (nm.size : Int) + (op.size : Int) + (wd.size : Int) + (v.size : Int) + (s.size : Int)
                  · go_enter Try.func5, Try.ntmps5
                    go_wp2
                    go_ret
                    exact ⟨false, rfl, rfl, fun h => by cases h⟩
                  · skip
                    go_enter Try.func5, Try.ntmps5
                    go_wp2
                    go_ret
                    exact ⟨true, rfl, rfl, fun _ => ⟨by omega, by omega, by omega, by omega, by omega⟩⟩

set_option maxHeartbeats 2000000 in
theorem bytes9_any (nm wd : ByteArray) (en : Int) (v u s : ByteArray) (w : World) (hnm : nm.size ≤ maxLen) (hwd : wd.size ≤ maxLen) (hv : v.size ≤ maxLen) (hu : u.size ≤ maxLen) (hs : s.size ≤ maxLen) :
    Calls Try.prog 9 #[.string nm, .string wd, .int .i64 en, .string v, .string u, .string s] w (RetB w (Small5 nm wd v u s)) := by
  unfold maxLen at hnm hwd hv hu hs
  by_cases p0 : (1048576 : Int) < (nm.size : Int)
  · go_enter Try.func9, Try.ntmps9
    go_wp2
    go_ret
    exact ⟨false, rfl, rfl, fun h => by cases h⟩
  · skip
    by_cases p1 : (1048576 : Int) < (wd.size : Int)
    · go_enter Try.func9, Try.ntmps9
      go_wp2
      go_ret
      exact ⟨false, rfl, rfl, fun h => by cases h⟩
    · by_cases q1 : (1048576 : Int) < (nm.size : Int) + (wd.size : Int)
      · go_enter Try.func9, Try.ntmps9
        go_wp2
        go_ret
        exact ⟨false, rfl, rfl, fun h => by cases h⟩
      · skip
        by_cases p2 : (1048576 : Int) < (v.size : Int)
        · go_enter Try.func9, Try.ntmps9
          go_wp2
          go_ret
          exact ⟨false, rfl, rfl, fun h => by cases h⟩
        · by_cases q2 : (1048576 : Int) < (nm.size : Int) + (wd.size : Int) + (v.size : Int)
          · go_enter Try.func9, Try.ntmps9
            go_wp2
            go_ret
            exact ⟨false, rfl, rfl, fun h => by cases h⟩
          · skip
            by_cases p3 : (1048576 : Int) < (u.size : Int)
            · go_enter Try.func9, Try.ntmps9
              go_wp2
              go_ret
              exact ⟨false, rfl, rfl, fun h => by cases h⟩
            · by_cases q3 : (1048576 : Int) < (nm.size : Int) + (wd.size : Int) + (v.size : Int) + (u.size : Int)
              · go_enter Try.func9, Try.ntmps9
                go_wp2
                go_ret
                exact ⟨false, rfl, rfl, fun h => by cases h⟩
              · skip
                by_cases p4 : (1048576 : Int) < (s.size : Int)
                · go_enter Try.func9, Try.ntmps9
                  go_wp2
                  go_ret
                  exact ⟨false, rfl, rfl, fun h => by cases h⟩
                · by_cases q4 : (1048576 : Int) < (nm.size : Int) + (wd.size : Int) + (v.size : Int) + (u.size : Int) + (s.size : Int)
                  · go_enter Try.func9, Try.ntmps9
                    go_wp2
                    go_ret
                    exact ⟨false, rfl, rfl, fun h => by cases h⟩
                  · skip
                    go_enter Try.func9, Try.ntmps9
                    go_wp2
                    go_ret
                    exact ⟨true, rfl, rfl, fun _ => ⟨by omega, by omega, by omega, by omega, by omega⟩⟩

end Go.Proofs.Qxb6609067a
