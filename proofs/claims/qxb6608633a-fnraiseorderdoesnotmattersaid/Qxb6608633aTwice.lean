/- The walk of FnRaiseTwiceIsRaiseOnceToTheGreater. -/
import Derived.Test.Qxb6608633aLawA
namespace Go.Proofs.Qxb6608633a
open Go.RowKit

/-- It returns true; nothing that was there has turned. -/
def RetT (w : World) (e : Ending) (w' : World) : Prop := e = .returned (.bool true) ∧ Below w.heap.size w w'

set_option maxHeartbeats 4000000 in
set_option maxRecDepth 100000 in
theorem twice_walk (ao : Option Addr) (cap : Nat) (es : List Ent) (id : ByteArray) (a b : Int) (w : World) (he : EntsAt w ao es) (hao : ao = none → es = [] ∧ cap = 0) (hlt0 : ∀ x, ao = some x → es ≠ [] → x.block < w.heap.size)
    (hl : es.length ≤ maxLen) (hsz : ∀ e ∈ es, e.1.size ≤ maxLen) (hid : id.size ≤ maxLen) (hp : ∀ e ∈ es, 0 ≤ e.2) (ha : 0 ≤ a) (hb : 0 ≤ b) :
    Calls Try.prog 3 #[.slice ao es.length cap, .string id, .int .u64 a, .int .u64 b] w (RetT w) := by
  have hl' : es.length ≤ 9223372036854775807 := hl
  have hid' : id.size ≤ 9223372036854775807 := hid
  have H8 := hidd (bytes8_any ao cap es id a b w he hl hsz hid)
  have Hhao := hidd hao
  have Hlt0 := hidd hlt0
  have Hp := hidd hp
  clear hl hsz hid hao hlt0 hp
  go_enter Try.func3, Try.ntmps3
  go_wp2_with fail
  refine H8.out.mono ?_
  rintro e w0 ⟨r, rfl, hw', hr⟩
  rw [hw']
  clear hw' w0
  clear H8
  cases r with
  | false =>
    go_wp2
    go_ret
    exact ⟨rfl, Below.refl _ _⟩
  | true =>
    obtain ⟨hl1, hsh, hid1⟩ := hr rfl
    clear hr hl' hid'
    by_cases h1 : (32768 : Int) < (es.length : Int)
    · go_wp2
      go_ret
      exact ⟨rfl, Below.refl _ _⟩
    · have Hsh := hidd hsh
      clear hsh
      go_wp2_with fail
      go_loop [9, 10] (fun z i => ∃ (k : Nat) (q : Int), k ≤ es.length ∧ i = .int .i64 k ∧ z = .int .i64 q ∧ 0 ≤ q ∧ q ≤ 1048576) (fun _ i => es.length - (intOf i).toNat)
      case atStart => exact ⟨0, _, Nat.zero_le _, rfl, rfl, by omega, by omega⟩
      case round =>
        obtain ⟨k, z, hk, rfl, rfl, hz0, hz1⟩ := hrel
        by_cases hlt : k < es.length
        · obtain ⟨b', off, s, n, rfl, hkk, hc0, hc1⟩ := he.at hlt
          have hss : s.size ≤ 1048576 := Hsh.out (s, n) (List.mem_of_getElem? hkk.out)
          clear he
          by_cases h2 : (1048576 : Int) < z + (24 + (s.size : Int))
          · go_wp2
            go_ret
            exact ⟨rfl, Below.refl _ _⟩
          · go_wp2
            go_round
            case rel => exact ⟨k + 1, _, by omega, by go_num, rfl, by omega, by omega⟩
            case measure => simp [intOf]; omega
        · have He := hidd he
          clear he
          cases hem : id.toList.isEmpty with
          | true =>
            go_wp2_with fail
            go_ret
            exact ⟨rfl, Below.refl _ _⟩
          | false =>
            go_wp2_with fail
            refine (valid_any ao cap es w He.out hl1 Hsh.out).mono ?_
            rintro e w0 ⟨r, rfl, ⟨q, hw0⟩, hr⟩
            have He0 : Hid (EntsAt w0 ao es) := by rw [hw0]; exact He.out
            have hbel0 : Below w.heap.size w w0 := by rw [hw0]; exact below_drewN (Below.refl _ _) q
            have hs0 : w0.heap.size = w.heap.size := by rw [hw0]; rfl
            have Hs0 := hidd hs0
            clear hw0 He hs0
            cases r with
            | false =>
              go_wp2_with fail
              go_ret
              exact ⟨rfl, hbel0⟩
            | true =>
              have hok := hr rfl
              have Hasc := hidd (asc_of_ok hok)
              clear hr hok
              go_wp2_with fail
              refine (clone_any ao cap es w0 He0.out Hhao.out (fun x h1 h2 => by rw [Hs0.out]; exact Hlt0.out x h1 h2) hl1).mono ?_
              rintro e w1 ⟨ao1, cap1, rfl, hE1, hlt1, hbel1⟩
              have hbw1 : Below w.heap.size w w1 := hbel0.trans (hbel1.mono (by rw [Hs0.out]; exact Nat.le_refl _))
              have HE1 := hidd hE1
              have Hlt1 := hidd hlt1
              clear hE1 hlt1 He0 Hhao Hlt0 hbel1 hbel0 Hs0
              go_wp2_with fail
              refine (replicaID_any id w1).mono ?_
              rintro e w2 ⟨rfl, hbel2⟩
              have hbw2 : Below w.heap.size w w2 := hbw1.trans (hbel2.mono hbw1.size)
              obtain ⟨w3, hw3⟩ : ∃ w3, w3 = w2.alloc (.cells #[.string id] 30) := ⟨_, rfl⟩
              have hbel3 : Below w2.heap.size w2 w3 := by rw [hw3]; exact (Below.refl _ _).alloc (Nat.le_refl _) _
              have hbx3 : w2.heap.size < w3.heap.size := by rw [hw3]; simp
              have hbox3 : w3.cell? ⟨w2.heap.size, 0, none⟩ = some (.string id) := by rw [hw3]; simp
              have hbw3 : Below w.heap.size w w3 := hbw2.trans (hbel3.mono hbw2.size)
              have hEl : ∀ wk : World, Below w1.heap.size w1 wk → EntsAt wk ao1 es ∧ (∀ x, ao1 = some x → x.block < wk.heap.size) := fun wk h => ⟨HE1.out.below h Hlt1.out, fun x hx => Nat.lt_of_lt_of_le (Hlt1.out x hx) h.size⟩
              have h13 : Below w1.heap.size w1 w3 := hbel2.trans (hbel3.mono hbel2.size)
              have HEl := hidd hEl
              obtain ⟨bx, hbxe⟩ : ∃ bx, bx = w2.heap.size := ⟨_, rfl⟩
              rw [← hbxe] at hbx3 hbox3
              have Hbox3 := hidd hbox3
              have Hw3 := hidd hw3
              clear hw3 hbox3 hEl hbel3
              go_wp2_with fail
              rw [← Hw3.out, ← hbxe]
              clear Hw3 hbxe
              -- the first vector
              obtain ⟨hE3, hL3⟩ := HEl.out w3 h13
              refine (split_any ao1 cap1 es w3 hE3 hL3 hl1).mono ?_
              clear hE3 hL3
              rintro e w4 ⟨ai, an, rfl, hS4, hbel4⟩
              have HS4 := hidd hS4
              clear hS4
              go_wp2_with fail
              refine (newVector_any ai an es w4 HS4.out hl1).mono ?_
              rintro e w5 ⟨p1, rfl, hV5, hbel5⟩
              have HV5 := hidd hV5
              have h45 := hbel4.size
              have h55 := hbel5.size
              have hbox5 : w5.cell? ⟨bx, 0, none⟩ = some (.string id) := ((hbel4.trans (hbel5.mono h45)).cell (p := ⟨bx, 0, none⟩) hbx3).trans Hbox3.out
              clear hV5 HS4
              go_wp2_with fail
              refine (raise_any w4.heap.size p1 es id a w5 HV5.out h55 hem ha Hasc.out hl1).mono ?_
              rintro e w6 ⟨he6, hV6, hbel6⟩
              rw [raisedB_eq es id a Hp.out] at he6
              subst he6
              have HV6 := hidd hV6
              have h66 := hbel6.size
              have h36 : Below w3.heap.size w3 w6 := hbel4.trans ((hbel5.mono h45).trans (hbel6.mono h45))
              have hbox6 : w6.cell? ⟨bx, 0, none⟩ = some (.string id) := (h36.cell (p := ⟨bx, 0, none⟩) hbx3).trans Hbox3.out
              clear hV6 hbox5 HV5
              have hlr := raise_len es id a
              go_wp2_with fail
              refine (raise_any w4.heap.size p1 (raise es id a) id b w6 HV6.out (by omega) hem hb (raise_asc es id a Hasc.out) (by omega)).mono ?_
              rintro e w7 ⟨he7, hV7, hbel7⟩
              rw [raisedB_eq _ id b (raise_pos' es id a ha Hp.out), count_raise es id a Hasc.out ha Hp.out] at he7
              subst he7
              rw [raise_twice es id a b ha hb] at hV7
              have HV7 := hidd hV7
              have h77 := hbel7.size
              have h37 : Below w3.heap.size w3 w7 := h36.trans (hbel7.mono h45)
              have h17 : Below w1.heap.size w1 w7 := h13.trans (h37.mono h13.size)
              clear hV7 hbox6 HV6
              -- the second vector
              obtain ⟨hE7, hL7⟩ := HEl.out w7 h17
              have HE7 := hidd hE7
              clear hE7
              go_wp2_with fail
              refine (split_any ao1 cap1 es w7 HE7.out hL7 hl1).mono ?_
              clear hL7 HE7
              rintro e w8 ⟨ai2, an2, rfl, hS8, hbel8⟩
              have HS8 := hidd hS8
              clear hS8
              go_wp2_with fail
              refine (newVector_any ai2 an2 es w8 HS8.out hl1).mono ?_
              rintro e w9 ⟨p2, rfl, hV9, hbel9⟩
              have HV9 := hidd hV9
              have h88 := hbel8.size
              have h99 := hbel9.size
              have h79 : Below w7.heap.size w7 w9 := hbel8.trans (hbel9.mono h88)
              have hbox9 : w9.cell? ⟨bx, 0, none⟩ = some (.string id) := ((h37.trans (h79.mono h37.size)).cell (p := ⟨bx, 0, none⟩) hbx3).trans Hbox3.out
              clear hV9 HS8
              go_wp2_with fail
              go_region_with (first | (go_at_call 15; refine (max_any _ _ _).mono ?_; rintro e w' ⟨rfl, rfl⟩) | (go_at_call 14; refine (raise_any w8.heap.size p2 es id (max a b) _ (HV9.out.below (Below.refl _ _).drew) (by exact h99) hem (by omega) Hasc.out hl1).mono ?_; rintro e w10 ⟨he10, hV10, hbel10⟩; rw [raisedB_eq es id _ Hp.out] at he10; subst he10))
              all_goals
                have h9x : Below w8.heap.size w9 w10 := (Below.refl w8.heap.size w9).drew.trans hbel10
                have h8x : Below w8.heap.size w8 w10 := (hbel9.mono (Nat.le_refl _)).trans h9x
                have hV1 : Vec w10 w4.heap.size p1 (raise es id (max a b)) := (HV7.out.below hbel8).below h8x
                have HV1 := hidd hV1
                have HV2 := hidd hV10
                have h7x : Below w7.heap.size w7 w10 := hbel8.trans (h8x.mono h88)
                have h1x : Below w1.heap.size w1 w10 := h17.trans (h7x.mono h17.size)
                have hwx : Below w.heap.size w w10 := hbw1.trans (h1x.mono hbw1.size)
                obtain ⟨hEx, hLx⟩ := HEl.out w10 h1x
                have HEx := hidd hEx
                have HLx := hidd hLx
                clear hV1 hV10 hEx hLx hbel10 HV9 HV7 hbox9
                go_wp2_with fail
                refine (countOf_any ao1 cap1 es id w10 HEx.out hl1).mono ?_
                rintro e wq ⟨rfl, hwq⟩
                rw [hwq]
                clear hwq wq
                go_wp2_with fail
                refine (max_any _ _ _).mono ?_
                rintro e wq ⟨rfl, hwq⟩
                rw [hwq]
                clear hwq wq
                go_wp2_with fail
                refine (raised_any ao1 cap1 es id (max a b) w10 HEx.out HLx.out hl1 Hsh.out hid1 (by omega) Hasc.out Hp.out).mono ?_
                rintro e w11 ⟨ao3, cap3, rfl, hE3, hL3, hbel11⟩
                have HE3 := hidd hE3
                have HL3 := hidd hL3
                have HVa := hidd (HV1.out.below hbel11)
                have HVb := hidd (HV2.out.below hbel11)
                have hlm := raise_len es id (max a b)
                clear hE3 hL3 HV1 HV2 HEx HLx
                go_wp2_with fail
                refine (vecEntries_any w4.heap.size p1 (raise es id (max a b)) w11 HVa.out (by omega)).mono ?_
                rintro e w12 ⟨ai3, ci3, an3, cn3, rfl, hP12, hbel12⟩
                have HP12 := hidd hP12
                have HVc := hidd (HVb.out.below hbel12)
                have HE12 := hidd (HE3.out.below hbel12 HL3.out)
                have HL12 : Hid (∀ x, ao3 = some x → x.block < w12.heap.size) := fun x hx => Nat.lt_of_lt_of_le (HL3.out x hx) hbel12.size
                clear hP12 HVa HVb HE3 HL3
                go_wp2_with fail
                refine (vecEntries_any w8.heap.size p2 (raise es id (max a b)) w12 HVc.out (by omega)).mono ?_
                rintro e w13 ⟨ai4, ci4, an4, cn4, rfl, hP13, hbel13⟩
                have HP13 := hidd hP13
                have HP12' := hidd (HP12.out.below hbel13)
                have HE13 := hidd (HE12.out.below hbel13 HL12.out)
                have hw13 : Below w.heap.size w w13 := hwx.trans ((hbel11.mono hwx.size).trans ((hbel12.mono (Nat.le_trans hwx.size hbel11.size)).trans (hbel13.mono (Nat.le_trans (Nat.le_trans hwx.size hbel11.size) hbel12.size))))
                clear hP13 HVc HE12 HL12 HP12
                have heq : eqEnts (raise es id (max a b)) (raise es id (max a b)) = true := decide_eq_true rfl
                have Heq := hidd heq
                clear heq
                go_wp2_with fail
                refine (entriesEq_any ai3 an3 ao3 ci3 cn3 cap3 (raise es id (max a b)) (raise es id (max a b)) w13 HP12'.out HE13.out (by omega) (by omega)).mono ?_
                rintro e w14 ⟨he14, q14, hw14⟩
                rw [Heq.out] at he14
                subst he14
                have HP14 : Hid (PairAt w14 ai4 an4 (raise es id (max a b))) := by rw [hw14]; exact HP13.out
                have HE14 : Hid (EntsAt w14 ao3 (raise es id (max a b))) := by rw [hw14]; exact HE13.out
                have hbw14 : Below w.heap.size w w14 := by rw [hw14]; exact below_drewN hw13 q14
                clear hw14 HP13 HE13 HP12'
                go_wp2_with fail
                refine (entriesEq_any ai4 an4 ao3 ci4 cn4 cap3 (raise es id (max a b)) (raise es id (max a b)) w14 HP14.out HE14.out (by omega) (by omega)).mono ?_
                rintro e w15 ⟨he15, q15, hw15⟩
                rw [Heq.out] at he15
                subst he15
                have hbw15 : Below w.heap.size w w15 := by rw [hw15]; exact below_drewN hbw14 q15
                clear hw15 HP14 HE14 Heq
                go_wp2_with fail
                refine (max_any _ _ _).mono ?_
                rintro e wq ⟨rfl, hwq⟩
                rw [hwq]
                clear hwq wq
                go_wp2_with fail
                refine (max_any _ _ _).mono ?_
                rintro e wq ⟨rfl, hwq⟩
                rw [hwq]
                clear hwq wq
                go_wp2_with fail
                go_ret
                exact ⟨rfl, hbw15⟩

end Go.Proofs.Qxb6608633a
