/- zzRunsOneForm, zzBytes. -/
import Derived.Test.Qxb6608633aZAgree
namespace Go.Proofs.Qxb6608633a
open Go.RowKit

set_option maxHeartbeats 4000000 in
set_option maxRecDepth 100000 in
theorem oneForm29 (v : Value) (rs : List Run) (w : World) (hs : SlR w v rs) (hl : rs.length ≤ 1000000) (hu : ∀ x ∈ rs, (0 ≤ x.1 ∧ x.1 ≤ 18446744073709551615) ∧ 0 ≤ x.2 ∧ x.2 ≤ 18446744073709551615) :
    Calls Try.prog 29 #[v] w (FormRet w rs) := by
  obtain ⟨ao, c, rfl, hrd⟩ := hs.at
  have Hrd := hidd hrd
  have Hu := hidd hu
  clear hrd hu hs
  go_enter Try.func29, Try.ntmps29
  go_wp2
  go_loopw [3] (fun i wr => ∃ (k q : Nat), k ≤ rs.length ∧ i = .int .i64 k ∧ Form (rs.take k) ∧ wr = w.drewN q) (fun i _ => rs.length - (intOf i).toNat)
  case atStart => exact ⟨0, 0, Nat.zero_le _, rfl, ⟨by simp, by simp⟩, rfl⟩
  case round =>
    obtain ⟨k, q, hk, rfl, hok, hwr⟩ := hrel
    have Hok := hidd hok
    have Hwr := hidd hwr
    by_cases hlt : k < rs.length
    · obtain ⟨x, hx⟩ : ∃ x, Hid (rs[k]? = some x) := ⟨rs[k], hidd (List.getElem?_eq_getElem hlt)⟩
      obtain ⟨g, off, rfl, c0', c1'⟩ := Hrd.out k x hx.out
      have c0 : wr.cell? ⟨g, off + k * 2, none⟩ = some (.int .u64 x.1) := by rw [hwr]; exact c0'
      have c1 : wr.cell? ⟨g, off + k * 2 + 1, none⟩ = some (.int .u64 x.2) := by rw [hwr]; exact c1'
      obtain ⟨⟨u1, u2⟩, u3, u4⟩ := Hu.out x (List.mem_of_getElem? hx.out)
      have Hst := hidd (form_step hx.out)
      have Hno : Hid (¬ Form (rs.take (k + 1)) → (false = true ↔ Form rs)) := fun hn => ⟨fun h => (by cases h), fun h => absurd (form_take h (k + 1)) hn⟩
      have g0 : (0 : Int) ≤ (k : Int) := by omega
      have g1 : (k : Int) < (rs.length : Int) := by omega
      clear c0' c1' hok hwr
      by_cases h0 : x.1 = 0
      · have e0 : (x.1 == 0) = true := by simp [h0]
        have Hn := hidd (Hno.out (fun h => by have := (Hst.out.1 h).2.1.1; omega))
        clear h0
        go_wp2_with fail
        go_quiet (fail)
        go_wp2
        go_ret
        exact ⟨false, rfl, Hn.out, _, dN2 Hwr _⟩
      · have e0 : (x.1 == 0) = false := by simp [h0]
        by_cases h1 : x.2 < x.1
        · have e1 : decide (x.2 < x.1) = true := decide_eq_true h1
          have Hn := hidd (Hno.out (fun h => by have := (Hst.out.1 h).2.1.2; omega))
          go_wp2_with fail
          go_quiet (fail)
          go_wp2
          go_ret
          exact ⟨false, rfl, Hn.out, _, dN2 Hwr _⟩
        · have e1 : decide (x.2 < x.1) = false := decide_eq_false h1
          go_wp2_with fail
          go_quiet (fail)
          have c0a : (wr.drewN nq).cell? ⟨g, off + k * 2, none⟩ = some (.int .u64 x.1) := c0
          have c1a : (wr.drewN nq).cell? ⟨g, off + k * 2 + 1, none⟩ = some (.int .u64 x.2) := c1
          have Hwr2 : Hid (wr.drewN nq = w.drewN (q + nq)) := dN2 Hwr _
          have hb : Below w.heap.size w (wr.drewN nq) := by rw [Hwr2.out]; exact ⟨rfl, rfl, rfl, Nat.le_refl _, fun _ _ => rfl⟩
          clear c0 c1 Hwr
          generalize wr.drewN nq = W at *
          cases k with
          | zero =>
            have Hgo : Hid (Form (rs.take 1)) := Hst.out.2 ⟨Hok.out, ⟨by omega, by omega⟩, fun y h => absurd rfl h⟩
            go_wp2_with fail
            go_quiet (fail)
            go_wp2_with fail
            go_roundw
            case rel => exact ⟨1, _, by omega, rfl, Hgo.out, dN2 Hwr2 _⟩
            case measure => simp [intOf]; omega
          | succ k =>
            obtain ⟨y, hy⟩ : ∃ y, Hid (rs[k]? = some y) := ⟨rs[k], hidd (List.getElem?_eq_getElem (by omega))⟩
            obtain ⟨_, _, e1', d0', d1'⟩ := Hrd.out k y hy.out
            cases e1'
            have d1 : W.cell? ⟨g, off + k * 2 + 1, none⟩ = some (.int .u64 y.2) := cell_to hb d1'
            obtain ⟨⟨v1, v2⟩, v3, v4⟩ := Hu.out y (List.mem_of_getElem? hy.out)
            have hw : IntKind.i64.wrap (k : Int) = (k : Int) := wrapN k (by omega)
            have r0 : (0 : Int) ≤ (k : Int) + 1 := by omega
            have r1 : (k : Int) + 1 < (rs.length : Int) := by omega
            have r2 : (0 : Int) ≤ (k : Int) := by omega
            have r3 : (k : Int) < (rs.length : Int) := by omega
            clear d0' d1'
            by_cases h2 : x.1 ≤ y.2
            · have e2 : decide (x.1 ≤ y.2) = true := decide_eq_true h2
              have Hn := hidd (Hno.out (fun h => by have := (Hst.out.1 h).2.2 y (by omega) hy.out; omega))
              go_wp2_with fail
              go_quiet (fail)
              go_wp2
              go_ret
              exact ⟨false, rfl, Hn.out, _, dN2 Hwr2 _⟩
            · have e2 : decide (x.1 ≤ y.2) = false := decide_eq_false h2
              have k2 : IntKind.u64.wrap (x.1 - y.2) = x.1 - y.2 := IntWalk.u64_in _ (by omega)
              by_cases h3 : x.1 - y.2 < 2
              · have e3 : decide (x.1 - y.2 < 2) = true := decide_eq_true h3
                have Hn := hidd (Hno.out (fun h => by have := (Hst.out.1 h).2.2 y (by omega) hy.out; omega))
                go_wp2_with fail
                go_quiet (fail)
                go_wp2
                go_ret
                exact ⟨false, rfl, Hn.out, _, dN2 Hwr2 _⟩
              · have e3 : decide (x.1 - y.2 < 2) = false := decide_eq_false h3
                have Hgo : Hid (Form (rs.take (k + 1 + 1))) := Hst.out.2 ⟨Hok.out, ⟨by omega, by omega⟩, fun z _ hz => by rw [show k + 1 - 1 = k by omega, hy.out] at hz; cases hz; omega⟩
                go_wp2_with fail
                go_quiet (fail)
                go_wp2_with fail
                go_roundw
                case rel => exact ⟨k + 1 + 1, _, by omega, by go_num, Hgo.out, dN2 Hwr2 _⟩
                case measure => simp [intOf]; omega
    · obtain rfl : k = rs.length := by omega
      rw [List.take_length] at Hok
      clear hok hwr
      go_wp2
      go_ret
      exact ⟨true, rfl, ⟨fun _ => Hok.out, fun _ => rfl⟩, q, Hwr.out⟩

set_option maxHeartbeats 1000000 in
theorem bytes28_any (va vb : Value) (A B : List Run) (w : World) (ha : SlR w va A) (hb : SlR w vb B) (hla : A.length ≤ maxLen) (hlb : B.length ≤ maxLen) :
    Calls Try.prog 28 #[va, vb] w (RetB w (A.length ≤ 1048576 ∧ B.length ≤ 1048576)) := by
  obtain ⟨aa, ca, rfl, _, _⟩ := ha
  obtain ⟨ab, cb, rfl, _, _⟩ := hb
  unfold maxLen at hla hlb
  by_cases h1 : 1048576 < A.length
  · go_enter Try.func28, Try.ntmps28
    go_wp2
    go_ret
    exact ⟨false, rfl, rfl, fun h => by cases h⟩
  · by_cases h2 : 1048576 < B.length
    · go_enter Try.func28, Try.ntmps28
      go_wp2
      go_ret
      exact ⟨false, rfl, rfl, fun h => by cases h⟩
    · by_cases h3 : 1048576 < A.length + B.length
      · go_enter Try.func28, Try.ntmps28
        go_wp2
        go_ret
        exact ⟨false, rfl, rfl, fun h => by cases h⟩
      · go_enter Try.func28, Try.ntmps28
        go_wp2
        go_ret
        exact ⟨true, rfl, rfl, fun _ => ⟨by omega, by omega⟩⟩

end Go.Proofs.Qxb6608633a
