/- unionRuns: the walk. -/
import Derived.Test.Qxb6608633aSubW
namespace Go.Proofs.Qxb6608633a
open Go.RowKit

/-- Is the next run taken from a? -/
def takeA : List Run → List Run → Bool
  | _, [] => true
  | [], _ :: _ => false
  | x :: _, y :: _ => decide (x.1 ≤ y.1)

theorem takeA_true {a b : List Run} (h : takeA a b = true) (hne : ¬ (a = [] ∧ b = [])) : ∃ x t, a = x :: t ∧ merge2 a b = x :: merge2 t b := by
  cases a with
  | nil =>
    cases b with
    | nil => exact absurd ⟨rfl, rfl⟩ hne
    | cons y b => cases h
  | cons x t =>
    refine ⟨x, t, rfl, ?_⟩
    cases b with
    | nil => rw [merge2_nil, merge2_nil]
    | cons y b =>
      conv => lhs; unfold merge2
      rw [if_pos (of_decide_eq_true h)]
theorem takeA_false {a b : List Run} (h : takeA a b = false) : ∃ y t, b = y :: t ∧ merge2 a b = y :: merge2 a t := by
  cases b with
  | nil => cases a <;> cases h
  | cons y t =>
    refine ⟨y, t, rfl, ?_⟩
    cases a with
    | nil => simp [merge2]
    | cons x a =>
      conv => lhs; unfold merge2
      rw [if_neg (of_decide_eq_false h)]

/-- Does n lengthen the last run of acc? -/
def extU (acc : List Run) (n : Run) : Bool := match acc.getLast? with
  | none => false
  | some x => decide (n.1 - 1 ≤ x.2)
theorem extU_snoc (l : List Run) (x n : Run) : extU (l ++ [x]) n = decide (n.1 - 1 ≤ x.2) := by simp [extU]
theorem stepU_ext {rs : List Run} {n : Run} (h : extU rs n = true) : ∃ l x, rs = l ++ [x] ∧ stepU rs n = l ++ [(x.1, max x.2 n.2)] := by
  rcases List.eq_nil_or_concat rs with rfl | ⟨l, x, rfl⟩
  · cases h
  · rw [List.concat_eq_append] at *
    rw [extU_snoc] at h
    exact ⟨l, x, rfl, by rw [stepU_snoc, if_pos (of_decide_eq_true h)]⟩
theorem stepU_new {rs : List Run} {n : Run} (h : extU rs n = false) : stepU rs n = rs ++ [n] := by
  rcases List.eq_nil_or_concat rs with rfl | ⟨l, x, rfl⟩
  · rfl
  · rw [List.concat_eq_append] at *
    rw [extU_snoc] at h
    rw [stepU_snoc, if_neg (of_decide_eq_false h)]
theorem stepU_len (rs : List Run) (n : Run) : (stepU rs n).length ≤ rs.length + 1 := by
  cases h : extU rs n with
  | true =>
    obtain ⟨l, x, rfl, e⟩ := stepU_ext h
    rw [e]; simp
  | false => rw [stepU_new h]; simp
theorem merge2_len : ∀ (a b : List Run), (merge2 a b).length = a.length + b.length
  | [], b => by simp [merge2]
  | x :: a, [] => by simp [merge2]
  | x :: a, y :: b => by
    unfold merge2
    by_cases h : x.1 ≤ y.1
    · rw [if_pos h, List.length_cons, merge2_len a (y :: b)]; simp; omega
    · rw [if_neg h, List.length_cons, merge2_len (x :: a) b]; simp; omega
termination_by a b => a.length + b.length

theorem grownBy2 {w : World} {D : Nat} {a b : Value} (_h : w.heap[D]? = some (.cells #[a, b] 94)) (c d : Value) : w.grownBy ((w.setCell ⟨D, 0, none⟩ c).setCell ⟨D, 1, none⟩ d) (some D) :=
  ⟨rfl, rfl, rfl, by simp [World.setCell], fun k _ hne => by
    have hk : k ≠ D := fun e => hne (by rw [e])
    rw [Below.heap_setCell _ _ _ _ hk, Below.heap_setCell _ _ _ _ hk]⟩
theorem own_apart {w : World} {B e size n D : Nat} {v : Value} {xs : List Value} (_h : w.ownsRow B e size v n xs) (hn : ∀ g, v.ownBlock = some g → g ≠ D) : v.ownBlock = none ∨ v.ownBlock ≠ some D := by
  cases hv : v.ownBlock with
  | none => exact .inl rfl
  | some g => exact .inr (fun e => hn g hv (by injection e))

set_option maxHeartbeats 8000000 in
set_option maxRecDepth 100000 in
theorem union_any (va vb : Value) (xa xb : List Run) (w : World) (ha : SlR w va xa) (hb : SlR w vb xb) (hal : xa.length ≤ 100000) (hbl : xb.length ≤ 100000) (hua : ∀ x ∈ xa, InU x) (hub : ∀ x ∈ xb, InU x) :
    Calls Try.prog 68 #[va, vb] w (SubRet w (uni xa xb)) := by
  have Ha := hidd ha
  have Hb := hidd hb
  have Hua := hidd hua
  have Hub := hidd hub
  obtain ⟨i94, hi, hz0, hz1, hz2⟩ := info_parts Try.info94
  obtain ⟨aa, ca, rfl, _, _⟩ := ha
  obtain ⟨ab, cb, rfl, _, _⟩ := hb
  clear hua hub
  have k0 : IntKind.i64.wrap ((xa.length : Int) + (xb.length : Int)) = ((xa.length + xb.length : Nat) : Int) := by rw [show (xa.length : Int) + (xb.length : Int) = ((xa.length + xb.length : Nat) : Int) by omega]; exact wrapN _ (by omega)
  go_enter Try.func68, Try.ntmps68
  go_wp2_with (at_make; refine wpList_make_own _ rfl _ _ 105 rfl w.heap.size 94 i94 _ 2 Try.underlying105 hi hz0 hz1 _ _ _ (xa.length + xb.length) rfl rfl ?c0 ?c1 ?c2 ?c3 ?_)
  case c0 => first | rfl | omega
  case c1 => rw [hz2]; omega
  case c2 => unfold maxLen; omega
  case c3 => exact Nat.le_refl _
  intro w1 hown hgrow
  have hb1 : Below w.heap.size w w1 := (Below.refl _ _).grown hgrow (Nat.le_refl _) (fun k h => by cases h)
  have Hown := hidd hown
  clear hown hgrow k0
  go_wp2_with fail
  go_loopw [0, 1, 5] (fun a b u wr => ∃ (as' bs' acc : List Run), SlR w a as' ∧ SlR w b bs' ∧ (∀ x ∈ as', InU x) ∧ (∀ x ∈ bs', InU x) ∧ acc.length + (as'.length + bs'.length) ≤ 200000 ∧ wr.ownsRow w.heap.size 94 2 u acc.length (rowR acc) ∧ uni xa xb = (merge2 as' bs').foldl stepU acc ∧ Below w.heap.size w wr) (fun a b _ _ => lenV a + lenV b)
  case atStart => exact ⟨xa, xb, [], Ha.out, Hb.out, Hua.out, Hub.out, by simp; omega, Hown.out, rfl, hb1⟩
  case round =>
    clear Ha Hb Hua Hub Hown hb1
    obtain ⟨xs, ys, acc, ⟨a1, c1, rfl, hc1, hr1⟩, ⟨a2, c2, rfl, hc2, hr2⟩, hu1, hu2, hcnt, hown, heq, hbel⟩ := hrel
    have Hr1 := hidd hr1
    have Hr2 := hidd hr2
    have Hu1 := hidd hu1
    have Hu2 := hidd hu2
    have Hown := hidd hown
    have Heq := hidd heq
    obtain ⟨au, cu, rfl, hau⟩ := own_shape hown
    have Hau := hidd hau
    clear hr1 hr2 hu1 hu2 hown heq hau
    by_cases hend : xs = [] ∧ ys = []
    · obtain ⟨rfl, rfl⟩ := hend
      have Hfin : Hid (acc = uni xa xb) := by have h := Heq.out; simp [merge2] at h; exact h.symm
      have Hown9 : Hid (wr.ownsRow w.heap.size 94 2 (.slice au acc.length cu) (uni xa xb).length (rowR (uni xa xb))) := by
        have h := Hown.out
        rw [Hfin.out] at h ⊢; exact h
      clear Hown Heq
      go_wp2
      go_ret
      exact ⟨_, rfl, Hown9.out, hbel⟩
    · have hpos : 0 < xs.length + ys.length := by
        rcases Nat.eq_zero_or_pos (xs.length + ys.length) with h | h
        · exact absurd ⟨List.eq_nil_of_length_eq_zero (by omega), List.eq_nil_of_length_eq_zero (by omega)⟩ hend
        · exact h
      have Hend := hidd hend
      clear hend
      go_upto_region 2 with fail
      go_cut [21] from 14 to 21 (fun c wx => c = .bool true ∧ wx = wr)
      case first =>
        by_cases h0 : 0 < xs.length
        · have d1 : decide ((0 : Int) < (xs.length : Int)) = true := decide_eq_true (by omega)
          go_wp2_with fail
          go_meet
          exact ⟨rfl, rfl⟩
        · have d1 : decide ((0 : Int) < (xs.length : Int)) = false := decide_eq_false (by omega)
          have d2 : 0 < ys.length := by omega
          go_wp2_with fail
          go_meet
          exact ⟨rfl, rfl⟩
      case rest =>
        obtain ⟨rfl, hwc⟩ := hcut
        rw [hwc]
        clear hwc wc
        go_upto_region 4 with fail
        have kb := below_self wr (.cells #[.int .u64 0, .int .u64 0] 94)
        have HD := hidd (World.alloc_heap_new wr (.cells #[.int .u64 0, .int .u64 0] 94))
        have Hown1 := hidd (Hown.out.alloc (.cells #[.int .u64 0, .int .u64 0] 94))
        have hb1 := below_to hbel kb hbel.size
        have hAp : ∀ g, (Value.slice au acc.length cu).ownBlock = some g → g ≠ wr.heap.size := fun g h => Nat.ne_of_lt (Hown.out.lt g h).2
        have HAp := hidd hAp
        have hDw : w.heap.size ≤ wr.heap.size := hbel.size
        clear Hown kb hAp hbel
        generalize wr.alloc (.cells #[.int .u64 0, .int .u64 0] 94) = W at *
        generalize wr.heap.size = D at *
        go_cut [40] from 22 to 40 (fun c wx => c = .bool (takeA xs ys) ∧ ∃ q, wx = W.drewN q)
        case first =>
          cases ys with
          | nil =>
            go_quiet (fail)
            go_wp2_with fail
            go_meet
            exact ⟨by cases xs <;> rfl, _, rfl⟩
          | cons y ty =>
            obtain ⟨gb, offb, rfl, hrb⟩ := Hr2.out (by simp)
            obtain ⟨y0, y1⟩ := (hrb.to hb1) 0 y rfl
            simp only [Nat.zero_mul, Nat.add_zero] at y0 y1
            have hlen : (y :: ty).length = ty.length + 1 := rfl
            have e1 : ((ty.length : Int) + 1 == 0) = false := by simp; omega
            clear hrb
            cases xs with
            | nil =>
              go_quiet (fail)
              go_wp2_with fail
              go_meet
              exact ⟨rfl, _, rfl⟩
            | cons x tx =>
              obtain ⟨ga, offa, rfl, hra⟩ := Hr1.out (by simp)
              obtain ⟨x0, x1⟩ := (hra.to hb1) 0 x rfl
              simp only [Nat.zero_mul, Nat.add_zero] at x0 x1
              have hlen2 : (x :: tx).length = tx.length + 1 := rfl
              have e2 : decide ((0 : Int) < (tx.length : Int) + 1) = true := decide_eq_true (by omega)
              clear hra
              go_quiet (fail)
              go_wp2_with fail
              go_meet
              exact ⟨rfl, _, rfl⟩
        case rest =>
          obtain ⟨rfl, q3, hwc⟩ := hcut
          have HDc : Hid (wc.heap[D]? = some (.cells #[.int .u64 0, .int .u64 0] 94)) := by rw [hwc]; exact HD.out
          have Hownc : Hid (wc.ownsRow w.heap.size 94 2 (.slice au acc.length cu) acc.length (rowR acc)) := by rw [hwc]; exact Hown1.out
          have hbc : Below w.heap.size w wc := by rw [hwc]; exact ⟨hb1.os, hb1.tape, hb1.output, hb1.size, hb1.block⟩
          clear hwc q3 HD Hown1 hb1
          go_upto_if 40 with fail
          go_cut [0, 1] from 22 to 50 (fun a b wx => ∃ (xs' ys' : List Run) (n : Run), SlR w a xs' ∧ SlR w b ys' ∧ (∀ x ∈ xs', InU x) ∧ (∀ x ∈ ys', InU x) ∧ InU n ∧ merge2 xs ys = n :: merge2 xs' ys' ∧ xs'.length + ys'.length + 1 = xs.length + ys.length ∧ wx.heap[D]? = some (.cells #[.int .u64 n.1, .int .u64 n.2] 94) ∧ wx.ownsRow w.heap.size 94 2 (.slice au acc.length cu) acc.length (rowR acc) ∧ Below w.heap.size w wx)
          case first =>
            have hAp := HAp.out
            have d0 : wc.cell? ⟨D, 0, none⟩ = some (.int .u64 0) := by simp [World.cell?, HDc.out]
            have d1 : wc.cell? ⟨D, 1, none⟩ = some (.int .u64 0) := by simp [World.cell?, HDc.out]
            have z0 : wc.frozen? ⟨D, 0, none⟩ = false := by simp [World.frozen?, HDc.out]
            have z1 : wc.frozen? ⟨D, 1, none⟩ = false := by simp [World.frozen?, HDc.out]
            cases htk : takeA xs ys with
            | true =>
              obtain ⟨n, t, rfl, hm⟩ := takeA_true htk Hend.out
              obtain ⟨ga, offx, rfl, hrx⟩ := Hr1.out (by simp)
              obtain ⟨n0, n1⟩ := (hrx.to hbc) 0 n rfl
              simp only [Nat.zero_mul, Nat.add_zero] at n0 n1
              have Htl := hidd (runsAt_tail hrx)
              have Ht : Hid (∀ x ∈ t, InU x) := fun x hx => Hu1.out x (List.mem_cons_of_mem _ hx)
              have Hn := hidd (Hu1.out n (by simp))
              have Hm := hidd hm
              have hlen : (n :: t).length = t.length + 1 := rfl
              clear htk hrx hm
              by_cases hcc : c1 = 1
              · have ht0 : t = [] := List.eq_nil_of_length_eq_zero (by omega)
                subst ht0
                subst hcc
                go_wp2_with fail
                go_region
                go_wp2_with fail
                go_meet
                exact ⟨[], ys, n, ⟨_, _, rfl, by simp, fun h => absurd rfl h⟩, ⟨_, _, rfl, hc2, Hr2.out⟩, Ht.out, Hu2.out, Hn.out, Hm.out, by simp <;> omega, setCell2 HDc.out, (Hownc.out.kept (grownBy2 HDc.out _ _) (own_apart Hownc.out hAp)).drew, ((hbc.setCell (p := ⟨D, 0, none⟩) hDw _).setCell (p := ⟨D, 1, none⟩) hDw _).drew⟩
              · go_wp2_with fail
                go_region
                go_wp2_with fail
                go_meet
                exact ⟨t, ys, n, ⟨_, _, rfl, by omega, fun _ => ⟨ga, offx + 2, rfl, Htl.out⟩⟩, ⟨_, _, rfl, hc2, Hr2.out⟩, Ht.out, Hu2.out, Hn.out, Hm.out, by simp <;> omega, setCell2 HDc.out, (Hownc.out.kept (grownBy2 HDc.out _ _) (own_apart Hownc.out hAp)).drew, ((hbc.setCell (p := ⟨D, 0, none⟩) hDw _).setCell (p := ⟨D, 1, none⟩) hDw _).drew⟩
            | false =>
              obtain ⟨n, t, rfl, hm⟩ := takeA_false htk
              obtain ⟨gb, offx, rfl, hrx⟩ := Hr2.out (by simp)
              obtain ⟨n0, n1⟩ := (hrx.to hbc) 0 n rfl
              simp only [Nat.zero_mul, Nat.add_zero] at n0 n1
              have Htl := hidd (runsAt_tail hrx)
              have Ht : Hid (∀ x ∈ t, InU x) := fun x hx => Hu2.out x (List.mem_cons_of_mem _ hx)
              have Hn := hidd (Hu2.out n (by simp))
              have Hm := hidd hm
              have hlen : (n :: t).length = t.length + 1 := rfl
              clear htk hrx hm
              by_cases hcc : c2 = 1
              · have ht0 : t = [] := List.eq_nil_of_length_eq_zero (by omega)
                subst ht0
                subst hcc
                go_wp2_with fail
                go_region
                go_wp2_with fail
                go_meet
                exact ⟨xs, [], n, ⟨_, _, rfl, hc1, Hr1.out⟩, ⟨_, _, rfl, by simp, fun h => absurd rfl h⟩, Hu1.out, Ht.out, Hn.out, Hm.out, by simp <;> omega, setCell2 HDc.out, (Hownc.out.kept (grownBy2 HDc.out _ _) (own_apart Hownc.out hAp)).drew, ((hbc.setCell (p := ⟨D, 0, none⟩) hDw _).setCell (p := ⟨D, 1, none⟩) hDw _).drew⟩
              · go_wp2_with fail
                go_region
                go_wp2_with fail
                go_meet
                exact ⟨xs, t, n, ⟨_, _, rfl, hc1, Hr1.out⟩, ⟨_, _, rfl, by omega, fun _ => ⟨gb, offx + 2, rfl, Htl.out⟩⟩, Hu1.out, Ht.out, Hn.out, Hm.out, by simp <;> omega, setCell2 HDc.out, (Hownc.out.kept (grownBy2 HDc.out _ _) (own_apart Hownc.out hAp)).drew, ((hbc.setCell (p := ⟨D, 0, none⟩) hDw _).setCell (p := ⟨D, 1, none⟩) hDw _).drew⟩
          case rest =>
            obtain ⟨xs', ys', n, hs1, hs2, hv1, hv2, hn, hm, hcn, hD2, hown2, hb2⟩ := hcut
            have Hs1 := hidd hs1
            have Hs2 := hidd hs2
            have Hv1 := hidd hv1
            have Hv2 := hidd hv2
            have Hm := hidd hm
            have HD2 := hidd hD2
            have Hown2 := hidd hown2
            have d0 : wc.cell? ⟨D, 0, none⟩ = some (.int .u64 n.1) := by simp [World.cell?, hD2]
            have d1 : wc.cell? ⟨D, 1, none⟩ = some (.int .u64 n.2) := by simp [World.cell?, hD2]
            have hDlt := (Array.getElem?_eq_some_iff.1 hD2).1
            obtain ⟨m1, m2, m3, m4⟩ := hn
            have hme : lenV u0 = xs'.length := by obtain ⟨_, _, e, _⟩ := hs1; rw [e]; rfl
            have hme2 : lenV u1 = ys'.length := by obtain ⟨_, _, e, _⟩ := hs2; rw [e]; rfl
            have Hme := hidd hme
            have Hme2 := hidd hme2
            have hAp := HAp
            have k2 : IntKind.u64.wrap (n.1 - 1) = n.1 - 1 := IntWalk.u64_in _ (by omega)
            clear hs1 hs2 hv1 hv2 hm hD2 hown2 HDc Hownc hbc hme hme2
            go_upto_region 8 with fail
            go_cut [66] from 54 to 66 (fun c wx => c = .bool (extU acc n) ∧ ∃ q, wx = wc.drewN q)
            case first =>
              rcases List.eq_nil_or_concat acc with hrs | ⟨l, x, hrs⟩
              · subst hrs
                go_quiet (fail)
                go_wp2_with fail
                go_meet
                exact ⟨rfl, _, rfl⟩
              · rw [List.concat_eq_append] at hrs
                subst hrs
                obtain ⟨g, rfl⟩ := Hau.out (by simp)
                have hcx : wc.cell? ⟨g, l.length * 2 + 1, none⟩ = some (.int .u64 x.2) := by
                  rw [Hown2.out.cellAt (l.length * 2 + 1) (by simp; omega)]
                  exact (flat2_at _ _ (l ++ [x]) l.length x (by simp)).2
                have k0 : (l ++ [x]).length = l.length + 1 := by simp
                have He := hidd (extU_snoc l x n)
                rw [k0] at hcnt
                go_quiet (fail)
                go_wp2_with fail
                go_meet
                exact ⟨by rw [He.out], _, rfl⟩
            case rest =>
              obtain ⟨rfl, q3, hwc2⟩ := hcut
              have d0' : wc.cell? ⟨D, 0, none⟩ = some (.int .u64 n.1) := by rw [hwc2]; exact d0
              have d1' : wc.cell? ⟨D, 1, none⟩ = some (.int .u64 n.2) := by rw [hwc2]; exact d1
              have Hown3 : Hid (wc.ownsRow w.heap.size 94 2 (.slice au acc.length cu) acc.length (rowR acc)) := by rw [hwc2]; exact Hown2.out
              have hb3 : Below w.heap.size w wc := by rw [hwc2]; exact ⟨hb2.os, hb2.tape, hb2.output, hb2.size, hb2.block⟩
              have hbs3 := hb3.size
              clear hwc2 q3 d0 d1 Hown2 HD2 hb2 hDlt
              have Hgo : Hid (uni xa xb = (merge2 xs' ys').foldl stepU (stepU acc n)) := by
                have h := Heq.out
                rw [Hm.out, List.foldl_cons] at h; exact h
              have hsl := stepU_len acc n
              cases hx : extU acc n with
              | true =>
                obtain ⟨l, x, hrs, hstep⟩ := stepU_ext hx
                have Hstep := hidd hstep
                clear hx hstep
                subst hrs
                obtain ⟨g, rfl⟩ := Hau.out (by simp)
                have hcx : wc.cell? ⟨g, l.length * 2 + 1, none⟩ = some (.int .u64 x.2) := by
                  rw [Hown3.out.cellAt (l.length * 2 + 1) (by simp; omega)]
                  exact (flat2_at _ _ (l ++ [x]) l.length x (by simp)).2
                have hfx := Hown3.out.frozenAt (l.length * 2 + 1)
                have k0 : (l ++ [x]).length = l.length + 1 := by simp
                have hne : D ≠ g := fun e => hAp.out g rfl e.symm
                have hsl2 : (stepU (l ++ [x]) n).length = (l ++ [x]).length := by rw [Hstep.out]; simp
                have Hsl2 := hidd hsl2
                clear hsl2 hsl
                rw [k0] at hcnt
                go_wp2_with fail
                go_region
                go_wp2_with fail
                have hst := Hown3.out.stored (l.length * 2 + 1) (.int .u64 (max x.2 n.2))
                rw [rowR_store] at hst
                have hbst : Below w.heap.size w (wc.setCell ⟨g, l.length * 2 + 1, none⟩ (.int .u64 (max x.2 n.2))) := hb3.setCell (p := ⟨g, l.length * 2 + 1, none⟩) (Hown3.out.lt g rfl).1 _
                go_roundw
                case rel =>
                  refine ⟨xs', ys', stepU (l ++ [x]) n, Hs1.out, Hs2.out, Hv1.out, Hv2.out, ?_, ?_, Hgo.out, hbst.drew⟩
                  · rw [Hsl2.out, k0]; omega
                  · rw [Hsl2.out, Hstep.out]; exact hst.1.drew
                case measure => rw [Hme.out, Hme2.out]; simp [lenV]; omega
              | false =>
                have Hstep := hidd (stepU_new hx)
                have c1' : acc.length + 1 ≤ maxLen := by unfold maxLen; omega
                have c2' : (acc.length + 1) * 16 ≤ 140737488355328 := by omega
                have c3' : w.heap.size ≤ (wc.alloc (.cells #[.int .u64 n.1, .int .u64 n.2] 94)).heap.size := by simp; omega
                clear hx
                go_wp2_with (at_builtin; refine wpList_append_own _ rfl (.tmp 79) (.tmp 81) 105 rfl w.heap.size 94 i94 _ 2 16 Try.underlying105 hi hz0 hz1 hz2 rfl (by decide) _ acc.length (rowR acc) rfl (Hown3.out.alloc _) ⟨wc.heap.size, 0, none⟩ 1 1 [.int .u64 n.1, .int .u64 n.2] rfl rfl (news2 rfl) (oneU _ _) c1' c2' c3' ?_)
                intro v' w3 hown4 hgrow _
                have Hown4 : Hid (w3.ownsRow w.heap.size 94 2 v' (stepU acc n).length (rowR (stepU acc n))) := by rw [Hstep.out, rowR_append, List.length_append]; exact hown4
                have hb4 : Below w.heap.size w w3 := (hb3.alloc hbs3 _).grown hgrow (by simp; omega) (fun j h => (Hown3.out.lt j h).1)
                clear hown4 hgrow
                go_wp2_with fail
                go_roundw
                case rel => exact ⟨xs', ys', stepU acc n, Hs1.out, Hs2.out, Hv1.out, Hv2.out, by omega, Hown4.out, Hgo.out, hb4⟩
                case measure => rw [Hme.out, Hme2.out]; simp [lenV]; omega

end Go.Proofs.Qxb6608633a
