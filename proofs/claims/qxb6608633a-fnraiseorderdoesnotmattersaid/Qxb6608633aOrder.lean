/- The walk of FnRaiseOrderDoesNotMatter. -/
import Derived.Test.Qxb6608633aTwice
import Derived.Test.Qxb6608633aSmall
import Derived.Test.Qxb6608633aLawB
import Derived.Deep.DeepCutAuto
namespace Go.Proofs.Qxb6608633a
open Go.RowKit

theorem Vec.alloc {w : World} {B p : Nat} {es : List Ent} (h : Vec w B p es) (o : Obj) : Vec (w.alloc o) B p es := h.below ((Below.refl _ _).alloc (Nat.le_refl _) _)

def bA (n o : Int) : Bool := decide (n ≠ 0 ∧ o = 0)
def bB (i j : ByteArray) (n m o : Int) : Bool := decide (m ≠ 0 ∧ o = 0 ∧ ¬ (i = j ∧ n ≠ 0))
theorem bA_yes {n o : Int} (h1 : n ≠ 0) (h2 : o = 0) : bA n o = true := decide_eq_true ⟨h1, h2⟩
theorem bA_no {n o : Int} (h : n = 0 ∨ o ≠ 0) : bA n o = false := decide_eq_false (fun h' => h.elim (fun e => h'.1 e) (fun e => e h'.2))
theorem bB_yes {i j : ByteArray} {n m o : Int} (h1 : m ≠ 0) (h2 : o = 0) (h3 : ¬ i = j ∨ n = 0) : bB i j n m o = true := decide_eq_true ⟨h1, h2, fun h => h3.elim (fun e => e h.1) (fun e => h.2 e)⟩
theorem bB_no1 {i j : ByteArray} {n m o : Int} (h : m = 0 ∨ o ≠ 0) : bB i j n m o = false := decide_eq_false (fun h' => h.elim (fun e => h'.1 e) (fun e => e h'.2.1))
theorem bB_no2 {i j : ByteArray} {n m o : Int} (h1 : i = j) (h2 : n ≠ 0) : bB i j n m o = false := decide_eq_false (fun h' => h'.2.2 ⟨h1, h2⟩)
theorem addN_of (n o : Int) : addN n o = if bA n o = true then 1 else 0 := by
  unfold addN bA
  by_cases h : n ≠ 0 ∧ o = 0
  · rw [if_pos h, decide_eq_true h, if_pos rfl]
  · rw [if_neg h, decide_eq_false h]; rfl
theorem addN_le (n o : Int) : addN n o ≤ 1 := by unfold addN; split <;> omega
theorem addT_of (i j : ByteArray) (n m o1 o2 : Int) : addT i j n m o1 o2 = addN n o1 + if bB i j n m o2 = true then 1 else 0 := by
  unfold addT bB
  by_cases h : m ≠ 0 ∧ o2 = 0 ∧ ¬ (i = j ∧ n ≠ 0)
  · rw [if_pos h, decide_eq_true h, if_pos rfl]
  · rw [if_neg h, decide_eq_false h]; rfl

set_option maxHeartbeats 8000000 in
set_option maxRecDepth 100000 in
theorem order_walk (ao : Option Addr) (cap : Nat) (es : List Ent) (id1 : ByteArray) (n1 : Int) (id2 : ByteArray) (n2 : Int) (w : World) (he : EntsAt w ao es) (hao : ao = none → es = [] ∧ cap = 0) (hlt0 : ∀ x, ao = some x → es ≠ [] → x.block < w.heap.size)
    (hl : es.length ≤ maxLen) (hsz : ∀ e ∈ es, e.1.size ≤ maxLen) (hid1 : id1.size ≤ maxLen) (hid2 : id2.size ≤ maxLen) (hp : ∀ e ∈ es, 0 ≤ e.2) (hn1 : 0 ≤ n1) (hn2 : 0 ≤ n2) :
    Calls Try.prog 4 #[.slice ao es.length cap, .string id1, .int .u64 n1, .string id2, .int .u64 n2] w (RetT w) := by
  have hl' : es.length ≤ 9223372036854775807 := hl
  have H8 := hidd (bytes20_any ao cap es id1 n1 id2 n2 w he hl hsz hid1 hid2)
  have Hhao := hidd hao
  have Hlt0 := hidd hlt0
  have Hp := hidd hp
  clear hl hsz hid1 hid2 hao hlt0 hp
  go_enter Try.func4, Try.ntmps4
  go_wp2_with fail
  refine H8.out.mono ?_
  rintro e w0 ⟨r, rfl, hw', hr⟩
  rw [hw']
  clear hw' w0 H8
  cases r with
  | false =>
    go_wp2
    go_ret
    exact ⟨rfl, Below.refl _ _⟩
  | true =>
    obtain ⟨hl1, hsh, hi1, hi2⟩ := hr rfl
    have Hsh := hidd hsh
    clear hr hl' hsh
    by_cases h1 : (32768 : Int) < (es.length : Int)
    · go_wp2
      go_ret
      exact ⟨rfl, Below.refl _ _⟩
    · by_cases h2 : (1048576 : Int) < (id1.size : Int) + (id2.size : Int)
      · go_wp2
        go_ret
        exact ⟨rfl, Below.refl _ _⟩
      · go_wp2_with fail
        go_loop [11, 12] (fun z i => ∃ (k : Nat) (q : Int), k ≤ es.length ∧ i = .int .i64 k ∧ z = .int .i64 q ∧ 0 ≤ q ∧ q ≤ 1048576) (fun _ i => es.length - (intOf i).toNat)
        case atStart => exact ⟨0, _, Nat.zero_le _, rfl, rfl, by omega, by omega⟩
        case round =>
          obtain ⟨k, z, hk, rfl, rfl, hz0, hz1⟩ := hrel
          by_cases hlt : k < es.length
          · obtain ⟨b', off, s, n, rfl, hkk, hc0, hc1⟩ := he.at hlt
            have hss : s.size ≤ 1048576 := Hsh.out (s, n) (List.mem_of_getElem? hkk.out)
            clear he
            by_cases h3 : (1048576 : Int) < z + (24 + (s.size : Int))
            · go_wp2
              go_ret
              exact ⟨rfl, Below.refl _ _⟩
            · go_wp2
              go_round
              case rel => exact ⟨k + 1, _, by omega, by go_num, rfl, by omega, by omega⟩
              case measure => simp [intOf]; omega
          · have He := hidd he
            clear he
            cases hem1 : id1.toList.isEmpty with
            | true =>
              go_wp2_with fail
              go_ret
              exact ⟨rfl, Below.refl _ _⟩
            | false =>
              cases hem2 : id2.toList.isEmpty with
              | true =>
                go_wp2_with fail
                go_ret
                exact ⟨rfl, Below.refl _ _⟩
              | false =>
                go_wp2_with fail
                refine (valid_any ao cap es w He.out hl1 Hsh.out).mono ?_
                rintro e w0 ⟨r, rfl, ⟨q, hw0⟩, hr⟩
                have He0 : Hid (EntsAt w0 ao es) := by rw [hw0]; exact He.out
                have hbel0 : Below w.heap.size w w0 := by rw [hw0]; exact below_drewN (Below.refl _ _) q
                have hs0 : w0.heap.size = w.heap.size := by rw [hw0]; rfl
                have Hs0 := hidd hs0
                clear hw0 He hs0
                cases r with
                | false =>
                  go_wp2_with fail
                  go_ret
                  exact ⟨rfl, hbel0⟩
                | true =>
                  have hok := hr rfl
                  have Hasc := hidd (asc_of_ok hok)
                  have Hnz := hidd (nz_of_ok hok)
                  clear hr hok
                  go_wp2_with fail
                  refine (clone_any ao cap es w0 He0.out Hhao.out (fun x h1 h2 => by rw [Hs0.out]; exact Hlt0.out x h1 h2) hl1).mono ?_
                  rintro e w1 ⟨ao1, cap1, rfl, hE1, hlt1, hbel1⟩
                  have hbw1 : Below w.heap.size w w1 := hbel0.trans (hbel1.mono (by rw [Hs0.out]; exact Nat.le_refl _))
                  have HEl : Hid (∀ wk : World, Below w1.heap.size w1 wk → EntsAt wk ao1 es ∧ (∀ x, ao1 = some x → x.block < wk.heap.size)) := fun wk h => ⟨hE1.below h hlt1, fun x hx => Nat.lt_of_lt_of_le (hlt1 x hx) h.size⟩
                  clear hE1 hlt1 He0 Hhao Hlt0 hbel1 hbel0 Hs0
                  go_wp2_with fail
                  refine (replicaID_any id1 w1).mono ?_
                  rintro e w2 ⟨rfl, hbel2⟩
                  obtain ⟨w3, hw3⟩ : ∃ w3, w3 = w2.alloc (.cells #[.string id1] 30) := ⟨_, rfl⟩
                  obtain ⟨bx, hbxe⟩ : ∃ bx, bx = w2.heap.size := ⟨_, rfl⟩
                  have hbx : bx < w3.heap.size := by rw [hw3, hbxe]; simp
                  have Hbox : Hid (w3.cell? ⟨bx, 0, none⟩ = some (.string id1)) := by rw [hw3, hbxe]; exact hidd (by simp)
                  have h13 : Below w1.heap.size w1 w3 := by rw [hw3]; exact hbel2.alloc hbel2.size _
                  have Hw3 := hidd hw3
                  clear hw3
                  go_wp2_with fail
                  rw [← Hw3.out, ← hbxe]
                  clear Hw3 hbxe hbel2
                  refine (replicaID_any id2 w3).mono ?_
                  rintro e w4 ⟨rfl, hbel4⟩
                  obtain ⟨w5, hw5⟩ : ∃ w5, w5 = w4.alloc (.cells #[.string id2] 30) := ⟨_, rfl⟩
                  obtain ⟨by', hbye⟩ : ∃ by', by' = w4.heap.size := ⟨_, rfl⟩
                  have hby : by' < w5.heap.size := by rw [hw5, hbye]; simp
                  have Hboy : Hid (w5.cell? ⟨by', 0, none⟩ = some (.string id2)) := by rw [hw5, hbye]; exact hidd (by simp)
                  have h35 : Below w3.heap.size w3 w5 := by rw [hw5]; exact hbel4.alloc hbel4.size _
                  have h15 : Below w1.heap.size w1 w5 := h13.trans (h35.mono h13.size)
                  have hbx5 : bx < w5.heap.size := Nat.lt_of_lt_of_le hbx h35.size
                  have Hbox5 : Hid (w5.cell? ⟨bx, 0, none⟩ = some (.string id1)) := (h35.cell (p := ⟨bx, 0, none⟩) hbx).trans Hbox.out
                  have Hw5 := hidd hw5
                  clear hw5 Hbox
                  go_wp2_with fail
                  rw [← Hw5.out, ← hbye]
                  clear Hw5 hbye hbel4
                  have hfr : ∀ wk, Below w5.heap.size w5 wk → wk.cell? ⟨bx, 0, none⟩ = some (.string id1) ∧ wk.cell? ⟨by', 0, none⟩ = some (.string id2) := fun wk h => ⟨(h.cell (p := ⟨bx, 0, none⟩) hbx5).trans Hbox5.out, (h.cell (p := ⟨by', 0, none⟩) hby).trans Hboy.out⟩
                  have Hfr := hidd hfr
                  clear hfr Hbox5 Hboy
                  -- the first vector
                  obtain ⟨hE5, hL5⟩ := HEl.out w5 h15
                  refine (split_any ao1 cap1 es w5 hE5 hL5 hl1).mono ?_
                  clear hE5 hL5
                  rintro e w6 ⟨ai, an, rfl, hS6, hbel6⟩
                  have HS6 := hidd hS6
                  clear hS6
                  go_wp2_with fail
                  refine (newVector_any ai an es w6 HS6.out hl1).mono ?_
                  rintro e w7 ⟨p1, rfl, hV7, hbel7⟩
                  have HV7 := hidd hV7
                  have h66 := hbel6.size
                  have h77 := hbel7.size
                  have h57 : Below w5.heap.size w5 w7 := hbel6.trans (hbel7.mono h66)
                  obtain ⟨hx7, hy7⟩ := Hfr.out w7 h57
                  clear hV7 HS6
                  go_wp2_with fail
                  refine (raise_any w6.heap.size p1 es id1 n1 w7 HV7.out h77 hem1 hn1 Hasc.out hl1).mono ?_
                  rintro e w8 ⟨he8, hV8, hbel8⟩
                  rw [raisedB_eq es id1 n1 Hp.out] at he8
                  have HV8 := hidd hV8
                  have h88 := hbel8.size
                  have h58 : Below w5.heap.size w5 w8 := h57.trans (hbel8.mono h66)
                  have hlr := raise_len es id1 n1
                  obtain ⟨c1, hc1⟩ : ∃ c1, c1 = decide (countL es id1 < n1) := ⟨_, rfl⟩
                  rw [← hc1] at he8
                  subst he8
                  have Hc1 := hidd hc1
                  clear hc1 hx7 hy7 hV8 HV7
                  obtain ⟨hx8, hy8⟩ := Hfr.out w8 h58
                  go_wp2_with fail
                  refine (raise_any w6.heap.size p1 (raise es id1 n1) id2 n2 w8 HV8.out (by omega) hem2 hn2 (raise_asc es id1 n1 Hasc.out) (by omega)).mono ?_
                  rintro e w9 ⟨he9, hV9, hbel9⟩
                  rw [raisedB_eq _ id2 n2 (raise_pos' es id1 n1 hn1 Hp.out)] at he9
                  obtain ⟨c2, hc2⟩ : ∃ c2, c2 = decide (countL (raise es id1 n1) id2 < n2) := ⟨_, rfl⟩
                  rw [← hc2] at he9
                  subst he9
                  have Hc2 := hidd hc2
                  have HV9 := hidd hV9
                  have h99 := hbel9.size
                  have h59 : Below w5.heap.size w5 w9 := h58.trans (hbel9.mono h66)
                  have h19 : Below w1.heap.size w1 w9 := h15.trans (h59.mono h15.size)
                  clear hc2 hx8 hy8 hV9 HV8
                  -- the second vector
                  obtain ⟨hE9, hL9⟩ := HEl.out w9 h19
                  have HE9 := hidd hE9
                  clear hE9
                  go_wp2_with fail
                  refine (split_any ao1 cap1 es w9 HE9.out hL9 hl1).mono ?_
                  clear hL9 HE9
                  rintro e w10 ⟨ai2, an2, rfl, hS10, hbel10⟩
                  have HS10 := hidd hS10
                  clear hS10
                  go_wp2_with fail
                  refine (newVector_any ai2 an2 es w10 HS10.out hl1).mono ?_
                  rintro e w11 ⟨p2, rfl, hV11, hbel11⟩
                  have HV11 := hidd hV11
                  have h1010 := hbel10.size
                  have h1111 := hbel11.size
                  have h911 : Below w9.heap.size w9 w11 := hbel10.trans (hbel11.mono h1010)
                  obtain ⟨hx11, hy11⟩ := Hfr.out w11 (h59.trans (h911.mono h59.size))
                  clear hV11 HS10
                  go_wp2_with fail
                  refine (raise_any w10.heap.size p2 es id2 n2 w11 HV11.out h1111 hem2 hn2 Hasc.out hl1).mono ?_
                  rintro e w12 ⟨he12, hV12, hbel12⟩
                  rw [raisedB_eq es id2 n2 Hp.out] at he12
                  obtain ⟨d2, hd2⟩ : ∃ d2, d2 = decide (countL es id2 < n2) := ⟨_, rfl⟩
                  rw [← hd2] at he12
                  subst he12
                  have Hd2 := hidd hd2
                  have HV12 := hidd hV12
                  have h1212 := hbel12.size
                  have h912 : Below w9.heap.size w9 w12 := hbel10.trans ((hbel11.mono h1010).trans (hbel12.mono h1010))
                  have hlr2 := raise_len es id2 n2
                  clear hd2 hx11 hy11 hV12 HV11
                  obtain ⟨hx12, hy12⟩ := Hfr.out w12 (h59.trans (h912.mono h59.size))
                  go_wp2_with fail
                  refine (raise_any w10.heap.size p2 (raise es id2 n2) id1 n1 w12 HV12.out (by omega) hem1 hn1 (raise_asc es id2 n2 Hasc.out) (by omega)).mono ?_
                  rintro e w13 ⟨he13, hV13, hbel13⟩
                  rw [raisedB_eq _ id1 n1 (raise_pos' es id2 n2 hn2 Hp.out)] at he13
                  rw [← raise_comm es id1 id2 n1 n2 hn1 hn2] at hV13
                  obtain ⟨d1, hd1⟩ : ∃ d1, d1 = decide (countL (raise es id2 n2) id1 < n1) := ⟨_, rfl⟩
                  rw [← hd1] at he13
                  subst he13
                  have Hd1 := hidd hd1
                  have HV13 := hidd hV13
                  have h1013 : Below w10.heap.size w10 w13 := hbel11.trans (hbel12.trans hbel13)
                  have h913 : Below w9.heap.size w9 w13 := hbel10.trans (h1013.mono h1010)
                  have HV1 := hidd ((HV9.out.below hbel10).below h1013)
                  have hwx : Below w.heap.size w w13 := hbw1.trans ((h19.trans (h913.mono h19.size)).mono hbw1.size)
                  obtain ⟨hE13, hL13⟩ := HEl.out w13 (h19.trans (h913.mono h19.size))
                  have HE13 := hidd hE13
                  have HL13 := hidd hL13
                  have hRl := raise_len (raise es id1 n1) id2 n2
                  obtain ⟨R, hR⟩ : ∃ R, R = raise (raise es id1 n1) id2 n2 := ⟨_, rfl⟩
                  rw [← hR] at HV1 HV13 hRl
                  have HR := hidd hR
                  clear hd1 hx12 hy12 hV13 HV12 hE13 hL13 HV9 Hfr hR
                  go_wp2_with fail
                  refine (vecEntries_any w6.heap.size p1 R w13 HV1.out (by omega)).mono ?_
                  rintro e w14 ⟨ai3, ci3, an3, cn3, rfl, hP14, hbel14⟩
                  have HP14 := hidd hP14
                  have HVc := hidd (HV13.out.below hbel14)
                  have HE14 := hidd (HE13.out.below hbel14 HL13.out)
                  have HL14 : Hid (∀ x, ao1 = some x → x.block < w14.heap.size) := fun x hx => Nat.lt_of_lt_of_le (HL13.out x hx) hbel14.size
                  clear hP14 HV1 HV13 HE13 HL13
                  go_wp2_with fail
                  refine (vecEntries_any w10.heap.size p2 R w14 HVc.out (by omega)).mono ?_
                  rintro e w15 ⟨ai4, ci4, an4, cn4, rfl, hP15, hbel15⟩
                  have HP15 := hidd hP15
                  have HP14' := hidd (HP14.out.below hbel15)
                  have HE15 := hidd (HE14.out.below hbel15 HL14.out)
                  have hw15 : Below w.heap.size w w15 := hwx.trans ((hbel14.mono hwx.size).trans (hbel15.mono (Nat.le_trans hwx.size hbel14.size)))
                  clear hP15 HVc HE14 HL14 HP14
                  go_wp2_with fail
                  refine (entriesEq_any ai3 an3 ao1 ci3 cn3 cap1 R es w15 HP14'.out HE15.out (by omega) (by omega)).mono ?_
                  rintro e w16 ⟨he16, q16, hw16⟩
                  have hch := changed_iff es id1 id2 n1 n2 Hasc.out hn1 hn2 Hp.out
                  have hdh := changed_iff es id2 id1 n2 n1 Hasc.out hn2 hn1 Hp.out
                  rw [← raise_comm es id1 id2 n1 n2 hn1 hn2, ← HR.out, ← Hd1.out, ← Hd2.out] at hdh
                  rw [← HR.out, ← Hc1.out, ← Hc2.out] at hch
                  obtain ⟨ch, hche⟩ : ∃ ch, ch = eqEnts R es := ⟨_, rfl⟩
                  rw [← hche] at hch hdh he16
                  subst he16
                  have Hch := hidd hch
                  have Hdh := hidd hdh
                  have HP16 : Hid (PairAt w16 ai4 an4 R) := by rw [hw16]; exact HP15.out
                  have HP16' : Hid (PairAt w16 ai3 an3 R) := by rw [hw16]; exact HP14'.out
                  have HE16 : Hid (EntsAt w16 ao1 es) := by rw [hw16]; exact HE15.out
                  have hbw16 : Below w.heap.size w w16 := by rw [hw16]; exact below_drewN hw15 q16
                  clear hw16 HP15 HE15 HP14' hche hch hdh Hc1 Hc2 Hd1 Hd2
                  go_wp2_with fail
                  refine (countOf_any ao1 cap1 es id1 w16 HE16.out hl1).mono ?_
                  rintro e wq ⟨rfl, hwq⟩
                  rw [hwq]
                  clear hwq wq
                  go_wp2_with fail
                  refine (countOf_any ao1 cap1 es id2 w16 HE16.out hl1).mono ?_
                  rintro e wq ⟨rfl, hwq⟩
                  rw [hwq]
                  clear hwq wq HE16
                  go_wp2_with fail
                  refine (max_any _ _ _).mono ?_
                  rintro e wq ⟨rfl, hwq⟩
                  rw [hwq]
                  clear hwq wq
                  go_wp2_with fail
                  refine (max_any _ _ _).mono ?_
                  rintro e wq ⟨rfl, hwq⟩
                  rw [hwq]
                  clear hwq wq
                  have hL := two_length es id1 id2 n1 n2 Hasc.out hn1 Hp.out Hnz.out
                  have hC1 := two_count1 es id1 id2 n1 n2 Hasc.out hn1 hn2 Hp.out
                  have hC2 := two_count2 es id1 id2 n1 n2 Hasc.out hn1 hn2 Hp.out
                  have ho1 := count_nonneg es id1 Hp.out
                  have ho2 := count_nonneg es id2 Hp.out
                  rw [← HR.out] at hL hC1 hC2
                  generalize countL es id1 = o1 at hL hC1 hC2 ho1 ⊢
                  generalize countL es id2 = o2 at hL hC1 hC2 ho2 ⊢
                  have HL := hidd hL
                  have HC1 := hidd hC1
                  have HC2 := hidd hC2
                  clear hL hC1 hC2 HR Hasc Hnz Hp Hsh HEl
                  by_cases hsame : id1 = id2
                  · have hs : (id1.toList == id2.toList) = true := by rw [beqB]; simpa using hsame
                    have Hsame := hidd hsame
                    clear hsame
                    go_wp2_with fail
                    refine (max_any _ _ _).mono ?_
                    rintro e wq ⟨rfl, hwq⟩
                    rw [hwq]
                    clear hwq wq
                    go_upto_region 41 with fail
                    go_cut [160] from 155 to 160 (fun c wx => c = .bool (bA n1 o1) ∧ wx = w16)
                    case first =>
                      by_cases a1 : n1 = 0
                      · have f1 : (n1 != 0) = false := by simp [a1]
                        have hb := hidd (bA_no (.inl a1) : bA n1 o1 = false)
                        clear a1
                        go_wp2_with fail
                        go_meet
                        exact ⟨by rw [hb.out], rfl⟩
                      · have f1 : (n1 != 0) = true := by simpa using a1
                        by_cases a2 : o1 = 0
                        · have f2 : (o1 == 0) = true := by simp [a2]
                          have hb := hidd (bA_yes a1 a2 : bA n1 o1 = true)
                          clear a1 a2
                          go_wp2_with fail
                          go_meet
                          exact ⟨by rw [hb.out], rfl⟩
                        · have f2 : (o1 == 0) = false := by simp [a2]
                          have hb := hidd (bA_no (.inr a2) : bA n1 o1 = false)
                          clear a1 a2
                          go_wp2_with fail
                          go_meet
                          exact ⟨by rw [hb.out], rfl⟩
                    case rest =>
                    obtain ⟨rfl, hwc⟩ := hcut
                    rw [hwc]
                    clear hwc wc
                    go_upto_if 160 with fail
                    go_cut [34] from 155 to 162 (fun a wx => a = .int .i64 (addN n1 o1) ∧ wx = w16)
                    case first =>
                      cases hA : bA n1 o1 with
                      | false =>
                        have hb := hidd (addN_of n1 o1)
                        rw [hA] at hb
                        go_wp2_with fail
                        go_meet
                        exact ⟨by rw [hb.out]; rfl, rfl⟩
                      | true =>
                        have hb := hidd (addN_of n1 o1)
                        rw [hA] at hb
                        go_wp2_with fail
                        go_meet
                        exact ⟨by rw [hb.out]; rfl, rfl⟩
                    case rest =>
                    obtain ⟨rfl, hwc⟩ := hcut
                    rw [hwc]
                    clear hwc wc
                    go_upto_region 43 with fail
                    go_cut [178] from 163 to 178 (fun c wx => c = .bool (bB id1 id2 n1 n2 o2) ∧ wx = w16)
                    case first =>
                      by_cases a1 : n2 = 0
                      · have f1 : (n2 != 0) = false := by simp [a1]
                        have hb := hidd (bB_no1 (.inl a1) : bB id1 id2 n1 n2 o2 = false)
                        clear a1
                        go_wp2_with fail
                        go_meet
                        exact ⟨by rw [hb.out], rfl⟩
                      · have f1 : (n2 != 0) = true := by simpa using a1
                        by_cases a2 : o2 = 0
                        · have f2 : (o2 == 0) = true := by simp [a2]
                          by_cases a3 : n1 = 0
                          · have f3 : (n1 != 0) = false := by simp [a3]
                            have hb := hidd (bB_yes a1 a2 (.inr a3) : bB id1 id2 n1 n2 o2 = true)
                            clear a1 a2 a3
                            go_wp2_with fail
                            go_meet
                            exact ⟨by rw [hb.out], rfl⟩
                          · have f3 : (n1 != 0) = true := by simpa using a3
                            have hb := hidd (bB_no2 Hsame.out a3 : bB id1 id2 n1 n2 o2 = false)
                            clear a1 a2 a3
                            go_wp2_with fail
                            go_meet
                            exact ⟨by rw [hb.out], rfl⟩
                        · have f2 : (o2 == 0) = false := by simp [a2]
                          have hb := hidd (bB_no1 (.inr a2) : bB id1 id2 n1 n2 o2 = false)
                          clear a1 a2
                          go_wp2_with fail
                          go_meet
                          exact ⟨by rw [hb.out], rfl⟩
                    case rest =>
                    obtain ⟨rfl, hwc⟩ := hcut
                    rw [hwc]
                    clear hwc wc
                    go_upto_if 178 with fail
                    have hA1 := addN_le n1 o1
                    go_cut [34] from 163 to 180 (fun a wx => a = .int .i64 (addT id1 id2 n1 n2 o1 o2) ∧ wx = w16)
                    case first =>
                      cases hB : bB id1 id2 n1 n2 o2 with
                      | false =>
                        have hb := hidd (addT_of id1 id2 n1 n2 o1 o2)
                        rw [hB] at hb
                        go_wp2_with fail
                        go_meet
                        exact ⟨by rw [hb.out]; rfl, rfl⟩
                      | true =>
                        have hb := hidd (addT_of id1 id2 n1 n2 o1 o2)
                        rw [hB] at hb
                        go_wp2_with fail
                        go_meet
                        exact ⟨by rw [hb.out]; go_num, rfl⟩
                    case rest =>
                    obtain ⟨rfl, hwc⟩ := hcut
                    rw [hwc]
                    clear hwc wc
                    have q1 : (countL R id1 == max o1 (max n1 n2)) = true := by rw [HC1.out]; unfold wantI; rw [if_pos Hsame.out, Int.max_assoc]; simp
                    have q2 : (countL R id2 == max o1 (max n1 n2)) = true := by rw [HC2.out, if_pos Hsame.out, Int.max_assoc]; simp
                    have q3 : ((R.length : Int) == (es.length : Int) + (addT id1 id2 n1 n2 o1 o2 : Int)) = true := by rw [HL.out]; simp
                    have q4 : addT id1 id2 n1 n2 o1 o2 ≤ 2 := by have := HL.out; omega
                    have Q1 := hidd q1
                    have Q2 := hidd q2
                    have Q3 := hidd q3
                    clear q1 q2 q3
                    go_wp2_with fail
                    refine (eqStrs_same ai3 an3 ai4 an4 ci3 ci4 R w16 HP16'.out HP16.out (by omega)).mono ?_
                    rintro e w17 ⟨rfl, q17, hw17⟩
                    have HPa : Hid (PairAt w17 ai3 an3 R) := by rw [hw17]; exact HP16'.out
                    have HPb : Hid (PairAt w17 ai4 an4 R) := by rw [hw17]; exact HP16.out
                    have hbw17 : Below w.heap.size w w17 := by rw [hw17]; exact below_drewN hbw16 q17
                    clear hw17 HP16 HP16'
                    go_wp2_with fail
                    refine (eqU64s_same ai3 an3 ai4 an4 cn3 cn4 R w17 HPa.out HPb.out (by omega)).mono ?_
                    rintro e w18 ⟨rfl, q18, hw18⟩
                    have HPc : Hid (PairAt w18 ai3 an3 R) := by rw [hw18]; exact HPa.out
                    have hbw18 : Below w.heap.size w w18 := by rw [hw18]; exact below_drewN hbw17 q18
                    clear hw18 HPa HPb
                    have hch := Hch.out
                    have hdh := Hdh.out
                    clear Hch Hdh
                    cases c1 <;> cases d1
                    all_goals
                      simp only [Bool.true_or, Bool.false_or, Bool.or_true, Bool.or_false] at hch hdh
                      first
                        | (subst hch; subst hdh)
                        | (subst hch; cases ch <;> simp only [Bool.not_true, Bool.not_false, reduceCtorEq] at hdh)
                        | (cases ch <;> simp only [Bool.not_true, Bool.not_false, reduceCtorEq] at hch hdh)
                      try subst hdh
                      have q3 := Q3.out
                      go_wp2_with fail
                      refine (countIn_any ai3 an3 ci3 cn3 R id1 w18 HPc.out (by omega)).mono ?_
                      rintro e wq ⟨rfl, hwq⟩
                      rw [hwq]
                      clear hwq wq q3
                      have q1 := Q1.out
                      go_wp2_with fail
                      refine (countIn_any ai3 an3 ci3 cn3 R id2 w18 HPc.out (by omega)).mono ?_
                      rintro e wq ⟨rfl, hwq⟩
                      rw [hwq]
                      clear hwq wq q1
                      have q2 := Q2.out
                      go_wp2_with fail
                      go_ret
                      exact ⟨rfl, hbw18⟩
                  · have hs : (id1.toList == id2.toList) = false := by rw [beqB]; simpa using hsame
                    have Hsame := hidd hsame
                    clear hsame
                    go_upto_region 41 with fail
                    go_cut [160] from 155 to 160 (fun c wx => c = .bool (bA n1 o1) ∧ wx = w16)
                    case first =>
                      by_cases a1 : n1 = 0
                      · have f1 : (n1 != 0) = false := by simp [a1]
                        have hb := hidd (bA_no (.inl a1) : bA n1 o1 = false)
                        clear a1
                        go_wp2_with fail
                        go_meet
                        exact ⟨by rw [hb.out], rfl⟩
                      · have f1 : (n1 != 0) = true := by simpa using a1
                        by_cases a2 : o1 = 0
                        · have f2 : (o1 == 0) = true := by simp [a2]
                          have hb := hidd (bA_yes a1 a2 : bA n1 o1 = true)
                          clear a1 a2
                          go_wp2_with fail
                          go_meet
                          exact ⟨by rw [hb.out], rfl⟩
                        · have f2 : (o1 == 0) = false := by simp [a2]
                          have hb := hidd (bA_no (.inr a2) : bA n1 o1 = false)
                          clear a1 a2
                          go_wp2_with fail
                          go_meet
                          exact ⟨by rw [hb.out], rfl⟩
                    case rest =>
                    obtain ⟨rfl, hwc⟩ := hcut
                    rw [hwc]
                    clear hwc wc
                    go_upto_if 160 with fail
                    go_cut [34] from 155 to 162 (fun a wx => a = .int .i64 (addN n1 o1) ∧ wx = w16)
                    case first =>
                      cases hA : bA n1 o1 with
                      | false =>
                        have hb := hidd (addN_of n1 o1)
                        rw [hA] at hb
                        go_wp2_with fail
                        go_meet
                        exact ⟨by rw [hb.out]; rfl, rfl⟩
                      | true =>
                        have hb := hidd (addN_of n1 o1)
                        rw [hA] at hb
                        go_wp2_with fail
                        go_meet
                        exact ⟨by rw [hb.out]; rfl, rfl⟩
                    case rest =>
                    obtain ⟨rfl, hwc⟩ := hcut
                    rw [hwc]
                    clear hwc wc
                    go_upto_region 43 with fail
                    go_cut [178] from 163 to 178 (fun c wx => c = .bool (bB id1 id2 n1 n2 o2) ∧ wx = w16)
                    case first =>
                      by_cases a1 : n2 = 0
                      · have f1 : (n2 != 0) = false := by simp [a1]
                        have hb := hidd (bB_no1 (.inl a1) : bB id1 id2 n1 n2 o2 = false)
                        clear a1
                        go_wp2_with fail
                        go_meet
                        exact ⟨by rw [hb.out], rfl⟩
                      · have f1 : (n2 != 0) = true := by simpa using a1
                        by_cases a2 : o2 = 0
                        · have f2 : (o2 == 0) = true := by simp [a2]
                          have hb := hidd (bB_yes a1 a2 (.inl Hsame.out) : bB id1 id2 n1 n2 o2 = true)
                          clear a1 a2
                          go_wp2_with fail
                          go_meet
                          exact ⟨by rw [hb.out], rfl⟩
                        · have f2 : (o2 == 0) = false := by simp [a2]
                          have hb := hidd (bB_no1 (.inr a2) : bB id1 id2 n1 n2 o2 = false)
                          clear a1 a2
                          go_wp2_with fail
                          go_meet
                          exact ⟨by rw [hb.out], rfl⟩
                    case rest =>
                    obtain ⟨rfl, hwc⟩ := hcut
                    rw [hwc]
                    clear hwc wc
                    go_upto_if 178 with fail
                    have hA1 := addN_le n1 o1
                    go_cut [34] from 163 to 180 (fun a wx => a = .int .i64 (addT id1 id2 n1 n2 o1 o2) ∧ wx = w16)
                    case first =>
                      cases hB : bB id1 id2 n1 n2 o2 with
                      | false =>
                        have hb := hidd (addT_of id1 id2 n1 n2 o1 o2)
                        rw [hB] at hb
                        go_wp2_with fail
                        go_meet
                        exact ⟨by rw [hb.out]; rfl, rfl⟩
                      | true =>
                        have hb := hidd (addT_of id1 id2 n1 n2 o1 o2)
                        rw [hB] at hb
                        go_wp2_with fail
                        go_meet
                        exact ⟨by rw [hb.out]; go_num, rfl⟩
                    case rest =>
                    obtain ⟨rfl, hwc⟩ := hcut
                    rw [hwc]
                    clear hwc wc
                    have q1 : (countL R id1 == max o1 n1) = true := by rw [HC1.out]; unfold wantI; rw [if_neg Hsame.out]; simp
                    have q2 : (countL R id2 == max o2 n2) = true := by rw [HC2.out, if_neg Hsame.out]; simp
                    have q3 : ((R.length : Int) == (es.length : Int) + (addT id1 id2 n1 n2 o1 o2 : Int)) = true := by rw [HL.out]; simp
                    have q4 : addT id1 id2 n1 n2 o1 o2 ≤ 2 := by have := HL.out; omega
                    have Q1 := hidd q1
                    have Q2 := hidd q2
                    have Q3 := hidd q3
                    clear q1 q2 q3
                    go_wp2_with fail
                    refine (eqStrs_same ai3 an3 ai4 an4 ci3 ci4 R w16 HP16'.out HP16.out (by omega)).mono ?_
                    rintro e w17 ⟨rfl, q17, hw17⟩
                    have HPa : Hid (PairAt w17 ai3 an3 R) := by rw [hw17]; exact HP16'.out
                    have HPb : Hid (PairAt w17 ai4 an4 R) := by rw [hw17]; exact HP16.out
                    have hbw17 : Below w.heap.size w w17 := by rw [hw17]; exact below_drewN hbw16 q17
                    clear hw17 HP16 HP16'
                    go_wp2_with fail
                    refine (eqU64s_same ai3 an3 ai4 an4 cn3 cn4 R w17 HPa.out HPb.out (by omega)).mono ?_
                    rintro e w18 ⟨rfl, q18, hw18⟩
                    have HPc : Hid (PairAt w18 ai3 an3 R) := by rw [hw18]; exact HPa.out
                    have hbw18 : Below w.heap.size w w18 := by rw [hw18]; exact below_drewN hbw17 q18
                    clear hw18 HPa HPb
                    have hch := Hch.out
                    have hdh := Hdh.out
                    clear Hch Hdh
                    cases c1 <;> cases d1
                    all_goals
                      simp only [Bool.true_or, Bool.false_or, Bool.or_true, Bool.or_false] at hch hdh
                      first
                        | (subst hch; subst hdh)
                        | (subst hch; cases ch <;> simp only [Bool.not_true, Bool.not_false, reduceCtorEq] at hdh)
                        | (cases ch <;> simp only [Bool.not_true, Bool.not_false, reduceCtorEq] at hch hdh)
                      try subst hdh
                      have q3 := Q3.out
                      go_wp2_with fail
                      refine (countIn_any ai3 an3 ci3 cn3 R id1 w18 HPc.out (by omega)).mono ?_
                      rintro e wq ⟨rfl, hwq⟩
                      rw [hwq]
                      clear hwq wq q3
                      have q1 := Q1.out
                      go_wp2_with fail
                      refine (countIn_any ai3 an3 ci3 cn3 R id2 w18 HPc.out (by omega)).mono ?_
                      rintro e wq ⟨rfl, hwq⟩
                      rw [hwq]
                      clear hwq wq q1
                      have q2 := Q2.out
                      go_wp2_with fail
                      go_ret
                      exact ⟨rfl, hbw18⟩

end Go.Proofs.Qxb6608633a
