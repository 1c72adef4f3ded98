/- subtractRuns: the walk. -/
import Derived.Test.Qxb6608633aPlainU
namespace Go.Proofs.Qxb6608633a
open Go.RowKit

/-- The slice v holds the runs xs. -/
def SlR (w : World) (v : Value) (xs : List Run) : Prop :=
  ∃ ao c, v = .slice ao xs.length c ∧ xs.length ≤ c ∧ (xs ≠ [] → ∃ g off, ao = some ⟨g, off, none⟩ ∧ RunsAt w g off xs)

theorem RunsAt.to {a b : World} {E eo : Nat} {xs : List Run} (k : Below a.heap.size a b) (h : RunsAt a E eo xs) : RunsAt b E eo xs := fun i x hi => ⟨cell_to k (h i x hi).1, cell_to k (h i x hi).2⟩
theorem SlR.to {a b : World} {v : Value} {xs : List Run} (k : Below a.heap.size a b) (h : SlR a v xs) : SlR b v xs := by
  obtain ⟨ao, c, h1, h2, h3⟩ := h
  exact ⟨ao, c, h1, h2, fun hn => by obtain ⟨g, off, e, hr⟩ := h3 hn; exact ⟨g, off, e, hr.to k⟩⟩
theorem slR_own {w : World} {B n : Nat} {v : Value} {xs : List Run} (hl : xs.length = n) (h : w.ownsRow B 94 2 v n (rowR xs)) : SlR w v xs := by
  subst hl
  have h' := h
  rcases h.2 with ⟨rfl, h0⟩ | ⟨g, cap, cur, rfl, _, _, hc, _⟩
  · exact ⟨none, 0, by rw [h0], by omega, fun hn => absurd (List.eq_nil_of_length_eq_zero h0) hn⟩
  · exact ⟨_, cap, rfl, hc, fun _ => ⟨g, 0, rfl, runsAt_own rfl h'⟩⟩
theorem runsAt_tail {w : World} {E eo : Nat} {x : Run} {t : List Run} (h : RunsAt w E eo (x :: t)) : RunsAt w E (eo + 2) t := fun i y hi => by
  have := h (i + 1) y (by simpa using hi)
  rw [show eo + (i + 1) * 2 = eo + 2 + i * 2 by omega] at this
  exact this

def lenV : Value → Nat
  | .slice _ n _ => n
  | _ => 0

theorem dropB_cons_lt {lo : Int} {y : Run} {t : List Run} (h : y.2 < lo) : dropB lo (y :: t) = dropB lo t := by simp [dropB, h]
theorem dropB_cons_ge {lo : Int} {y : Run} {t : List Run} (h : ¬ y.2 < lo) : dropB lo (y :: t) = y :: t := by simp [dropB, h]

def SubRet (w : World) (xs : List Run) (e : Ending) (w' : World) : Prop := ∃ v, e = .returned v ∧ w'.ownsRow w.heap.size 94 2 v xs.length (rowR xs) ∧ Below w.heap.size w w'

theorem sub_drop {a : List Run} {k : Nat} {r : Run} (b : List Run) (h : a[k]? = some r) : sub (a.drop k) b = (cut r.1 r.2 (dropB r.1 b)).1 ++ sub (a.drop (k + 1)) (cut r.1 r.2 (dropB r.1 b)).2 := by
  obtain ⟨hk, he⟩ := List.getElem?_eq_some_iff.1 h
  rw [List.drop_eq_getElem_cons hk, he]; rfl

def goB (lo : Int) : List Run → Bool
  | [] => false
  | y :: _ => decide (y.2 < lo)
def inB (hi : Int) : List Run → Bool
  | [] => false
  | y :: _ => decide (y.1 ≤ hi)
theorem goB_true {lo : Int} {b : List Run} (h : goB lo b = true) : ∃ y t, b = y :: t ∧ y.2 < lo := by
  cases b with
  | nil => cases h
  | cons y t => exact ⟨y, t, rfl, of_decide_eq_true h⟩
theorem goB_false {lo : Int} {b : List Run} (h : goB lo b = false) : dropB lo b = b := by
  cases b with
  | nil => rfl
  | cons y t => exact dropB_cons_ge (of_decide_eq_false h)
theorem inB_true {hi : Int} {b : List Run} (h : inB hi b = true) : ∃ y t, b = y :: t ∧ y.1 ≤ hi := by
  cases b with
  | nil => cases h
  | cons y t => exact ⟨y, t, rfl, of_decide_eq_true h⟩
theorem cut_out {lo hi : Int} {b : List Run} (h : inB hi b = false) : cut lo hi b = ([(lo, hi)], b) := by
  cases b with
  | nil => rfl
  | cons y t => unfold cut; rw [if_neg (of_decide_eq_false h)]
def preR (lo : Int) (y : Run) : List Run := if lo < y.1 then [(lo, y.1 - 1)] else []
theorem cut_cov {lo hi : Int} {y : Run} {t : List Run} (h : y.1 ≤ hi) (h2 : hi ≤ y.2) : cut lo hi (y :: t) = (preR lo y, y :: t) := by
  conv => lhs; unfold cut
  rw [if_pos h, if_pos h2]; rfl
theorem cut_go {lo hi : Int} {y : Run} {t : List Run} (h : y.1 ≤ hi) (h2 : ¬ hi ≤ y.2) : cut lo hi (y :: t) = (preR lo y ++ (cut (y.2 + 1) hi t).1, (cut (y.2 + 1) hi t).2) := by
  conv => lhs; unfold cut
  rw [if_pos h, if_neg h2]; rfl

set_option maxHeartbeats 8000000 in
set_option maxRecDepth 100000 in
theorem subtract_any (va vb : Value) (xa bs0 : List Run) (w : World) (ha : SlR w va xa) (hb : SlR w vb bs0) (hal : xa.length ≤ 100000) (hua : ∀ x ∈ xa, InU x) (hub : ∀ x ∈ bs0, InU x) (hso : (sub xa bs0).length ≤ 1000000) :
    Calls Try.prog 67 #[va, vb] w (SubRet w (sub xa bs0)) := by
  obtain ⟨aa, ca, rfl, hca, hra⟩ := ha
  have Hra := hidd hra
  have Hb := hidd hb
  have Hua := hidd hua
  have Hub := hidd hub
  have Hso := hidd hso
  obtain ⟨i94, hi, hz0, hz1, hz2⟩ := info_parts Try.info94
  clear hra hua hub hso hb
  go_enter Try.func67, Try.ntmps67
  go_wp2
  go_loopw [1, 5, 12] (fun b rest i wr => ∃ (k : Nat) (bs out : List Run), k ≤ xa.length ∧ i = .int .i64 k ∧ SlR w b bs ∧ (∀ x ∈ bs, InU x) ∧ wr.ownsRow w.heap.size 94 2 rest out.length (rowR out) ∧ sub xa bs0 = out ++ sub (xa.drop k) bs ∧ Below w.heap.size w wr) (fun _ _ i _ => xa.length - (intOf i).toNat)
  case atStart => exact ⟨0, bs0, [], Nat.zero_le _, rfl, Hb.out, Hub.out, World.ownsRow_nil _ _ _ _, rfl, Below.refl _ _⟩
  case round =>
    clear Hb Hub
    obtain ⟨k, bs, out, hk, rfl, hb, hub, hown, heq, hbel⟩ := hrel
    have Hb := hidd hb
    have Hub := hidd hub
    have Hown := hidd hown
    have Heq := hidd heq
    clear hb hub hown heq
    by_cases hlt : k < xa.length
    · obtain ⟨r, hr⟩ : ∃ r, Hid (xa[k]? = some r) := ⟨xa[k], hidd (List.getElem?_eq_getElem hlt)⟩
      obtain ⟨ga, offa, rfl, hrun⟩ := Hra.out (by intro h; subst h; simp at hlt)
      obtain ⟨ha0, ha1⟩ := (hrun.to hbel) k r hr.out
      obtain ⟨u1, u2, u3, u4⟩ := Hua.out r (List.mem_of_getElem? hr.out)
      have Hrun := hidd hrun
      clear hrun
      go_wp2_with fail
      have kb := below_self wr (.cells #[.int .u64 r.1, .int .u64 r.2] 94)
      have d0 : (wr.alloc (.cells #[.int .u64 r.1, .int .u64 r.2] 94)).cell? ⟨wr.heap.size, 0, none⟩ = some (.int .u64 r.1) := by simp
      have d1 : (wr.alloc (.cells #[.int .u64 r.1, .int .u64 r.2] 94)).cell? ⟨wr.heap.size, 1, none⟩ = some (.int .u64 r.2) := by simp
      have HD := hidd (World.alloc_heap_new wr (.cells #[.int .u64 r.1, .int .u64 r.2] 94))
      have Hown1 := hidd (Hown.out.alloc (.cells #[.int .u64 r.1, .int .u64 r.2] 94))
      have hb1 := below_to hbel kb hbel.size
      have hDe : ∀ g, u5.ownBlock = some g → g < wr.heap.size := fun g h => (Hown.out.lt g h).2
      have HDe := hidd hDe
      generalize wr.alloc (.cells #[.int .u64 r.1, .int .u64 r.2] 94) = W at *
      generalize wr.heap.size = D at *
      clear kb ha0 ha1 Hown hbel hDe
      go_loopw [1] (fun b wx => ∃ (bs' : List Run) (q : Nat), SlR w b bs' ∧ (∀ x ∈ bs', InU x) ∧ dropB r.1 bs' = dropB r.1 bs ∧ wx = W.drewN q) (fun b _ => lenV b)
      case atStart => exact ⟨bs, 0, Hb.out, Hub.out, rfl, rfl⟩
      case round =>
        clear Hb Hub
        obtain ⟨bs', q, ⟨ab, cb, rfl, hcb, hrb⟩, hub', hdr, hwr⟩ := hrel
        have e0 : wr.cell? ⟨D, 0, none⟩ = some (.int .u64 r.1) := by rw [hwr]; exact d0
        have hb2 : Below w.heap.size w wr := by rw [hwr]; exact ⟨hb1.os, hb1.tape, hb1.output, hb1.size, hb1.block⟩
        have Hwr := hidd hwr
        have Hub' := hidd hub'
        have Hdr := hidd hdr
        have Hrb := hidd hrb
        clear hrb hub' hdr hwr
        go_upto_region 5 with fail
        go_cut [27] from 16 to 27 (fun c wx => c = .bool (goB r.1 bs') ∧ ∃ q, wx = wr.drewN q)
        case first =>
          cases bs' with
          | nil =>
            go_quiet (fail)
            go_wp2_with fail
            go_meet
            exact ⟨rfl, _, rfl⟩
          | cons y t =>
            obtain ⟨gb, offb, rfl, hrb⟩ := Hrb.out (by simp)
            obtain ⟨y0, y1⟩ := (hrb.to hb2) 0 y rfl
            simp only [Nat.zero_mul, Nat.add_zero] at y0 y1
            have hlen : (y :: t).length = t.length + 1 := rfl
            clear hrb
            go_quiet (fail)
            go_wp2_with fail
            go_meet
            exact ⟨rfl, _, rfl⟩
        case rest =>
          obtain ⟨rfl, q3, hwc⟩ := hcut
          have Hwc : Hid (wc = W.drewN (q + q3)) := by rw [hwc, Hwr.out, World.drewN_drewN]; exact rfl
          clear hwc
          cases hgo : goB r.1 bs' with
          | true =>
            obtain ⟨y, t, rfl, hy⟩ := goB_true hgo
            obtain ⟨gb, offb, rfl, hrb⟩ := Hrb.out (by simp)
            have Ht := hidd (runsAt_tail hrb)
            have hlen : (y :: t).length = t.length + 1 := rfl
            have H3 : Hid (dropB r.1 t = dropB r.1 bs) := by
              have h := Hdr.out
              rw [dropB_cons_lt hy] at h; exact h
            have Hu3 : Hid (∀ x ∈ t, InU x) := fun x hx => Hub'.out x (List.mem_cons_of_mem _ hx)
            clear hgo hrb
            by_cases hc1 : cb = 1
            · have ht0 : t = [] := List.eq_nil_of_length_eq_zero (by omega)
              subst ht0
              subst hc1
              go_wp2_with fail
              go_roundw
              case rel => exact ⟨[], _, ⟨_, _, rfl, by simp, fun h => absurd rfl h⟩, by simp, H3.out, Hwc.out⟩
              case measure => simp [lenV]
            · go_wp2_with fail
              go_roundw
              case rel => exact ⟨t, _, ⟨_, _, rfl, by omega, fun _ => ⟨gb, offb + 2, rfl, Ht.out⟩⟩, Hu3.out, H3.out, Hwc.out⟩
              case measure => simp [lenV]
          | false =>
            have Hd : Hid (bs' = dropB r.1 bs) := by rw [← Hdr.out, goB_false hgo]; exact rfl
            have f0 : wc.cell? ⟨D, 0, none⟩ = some (.int .u64 r.1) := by rw [Hwc.out]; exact d0
            have f1 : wc.cell? ⟨D, 1, none⟩ = some (.int .u64 r.2) := by rw [Hwc.out]; exact d1
            have HDc : Hid (wc.heap[D]? = some (.cells #[.int .u64 r.1, .int .u64 r.2] 94)) := by rw [Hwc.out]; exact HD.out
            have Hownc : Hid (wc.ownsRow w.heap.size 94 2 u5 out.length (rowR out)) := by rw [Hwc.out]; exact Hown1.out
            have hbc : Below w.heap.size w wc := by rw [Hwc.out]; exact ⟨hb1.os, hb1.tape, hb1.output, hb1.size, hb1.block⟩
            have hsb : SlR w (.slice ab bs'.length cb) bs' := ⟨ab, cb, rfl, hcb, Hrb.out⟩
            have Hsb := hidd hsb
            clear hgo hsb Hwc Hwr e0 hb2 Hdr Hrb d0 d1 HD Hown1 hb1
            have Hspl := hidd (sub_drop bs hr.out)
            go_wp2_with fail
            go_loopw [1, 5, 8, 9] (fun b rest lo cv wx => ∃ (bs2 out2 : List Run) (lo2 : Int), SlR w b bs2 ∧ (∀ x ∈ bs2, InU x) ∧ cv = .bool false ∧ lo = .int .u64 lo2 ∧ 1 ≤ lo2 ∧ lo2 ≤ 18446744073709551615 ∧ out ++ (cut r.1 r.2 (dropB r.1 bs)).1 = out2 ++ (cut lo2 r.2 bs2).1 ∧ (cut r.1 r.2 (dropB r.1 bs)).2 = (cut lo2 r.2 bs2).2 ∧ wx.ownsRow w.heap.size 94 2 rest out2.length (rowR out2) ∧ wx.heap[D]? = some (.cells #[.int .u64 r.1, .int .u64 r.2] 94) ∧ D < wx.heap.size ∧ (∀ g, rest.ownBlock = some g → g ≠ D) ∧ Below w.heap.size w wx) (fun b _ _ _ _ => lenV b)
            case atStart => exact ⟨bs', out, r.1, Hsb.out, Hub'.out, rfl, rfl, u1, u2, by rw [Hd.out], by rw [Hd.out], Hownc.out, HDc.out, (Array.getElem?_eq_some_iff.1 HDc.out).1, fun g h => Nat.ne_of_lt (HDe.out g h), hbc⟩
            case round =>
              clear Hsb Hub' Hd Hownc HDc hbc f0 f1 HDe
              obtain ⟨bs2, out2, lo2, ⟨ab2, cb2, rfl, hcb2, hrb2⟩, hub2, rfl, rfl, hl1, hl2, hq1, hq2, hown2, hD2, hDlt, hne2, hb2⟩ := hrel
              have f0 : wr.cell? ⟨D, 0, none⟩ = some (.int .u64 r.1) := by simp [World.cell?, hD2]
              have f1 : wr.cell? ⟨D, 1, none⟩ = some (.int .u64 r.2) := by simp [World.cell?, hD2]
              have Hrb2 := hidd hrb2
              have Hub2 := hidd hub2
              have Hq1 := hidd hq1
              have Hq2 := hidd hq2
              have Hown2 := hidd hown2
              have HD2 := hidd hD2
              have Hne2 := hidd hne2
              have hol : out2.length + (cut lo2 r.2 bs2).1.length ≤ 1000000 := by
                have h := Hso.out
                rw [Heq.out, Hspl.out, ← List.append_assoc, hq1] at h
                simp only [List.length_append] at h; omega
              clear hrb2 hub2 hq1 hq2 hown2 hD2 hne2
              go_upto_region 8 with fail
              go_cut [43] from 32 to 43 (fun c wx => c = .bool (inB r.2 bs2) ∧ ∃ q, wx = wr.drewN q)
              case first =>
                cases bs2 with
                | nil =>
                  go_quiet (fail)
                  go_wp2_with fail
                  go_meet
                  exact ⟨rfl, _, rfl⟩
                | cons y t =>
                  obtain ⟨gb, offb, rfl, hrb⟩ := Hrb2.out (by simp)
                  obtain ⟨y0, y1⟩ := (hrb.to hb2) 0 y rfl
                  simp only [Nat.zero_mul, Nat.add_zero] at y0 y1
                  have hlen : (y :: t).length = t.length + 1 := rfl
                  clear hrb
                  go_quiet (fail)
                  go_wp2_with fail
                  go_meet
                  exact ⟨rfl, _, rfl⟩
              case rest =>
                obtain ⟨rfl, q3, hwc⟩ := hcut
                have f0' : wc.cell? ⟨D, 0, none⟩ = some (.int .u64 r.1) := by rw [hwc]; exact f0
                have f1' : wc.cell? ⟨D, 1, none⟩ = some (.int .u64 r.2) := by rw [hwc]; exact f1
                have HD3 : Hid (wc.heap[D]? = some (.cells #[.int .u64 r.1, .int .u64 r.2] 94)) := by rw [hwc]; exact HD2.out
                have Hown3 : Hid (wc.ownsRow w.heap.size 94 2 u5 out2.length (rowR out2)) := by rw [hwc]; exact Hown2.out
                have hDlt3 : D < wc.heap.size := by rw [hwc]; exact hDlt
                have hb3 : Below w.heap.size w wc := by rw [hwc]; exact ⟨hb2.os, hb2.tape, hb2.output, hb2.size, hb2.block⟩
                have hbs3 := hb3.size
                clear hwc q3 f0 f1 HD2 Hown2 hDlt hb2
                cases hin : inB r.2 bs2 with
                | true =>
                  obtain ⟨y, t, rfl, hy⟩ := inB_true hin
                  obtain ⟨gb, offb, rfl, hrb⟩ := Hrb2.out (by simp)
                  obtain ⟨v1, v2, v3, v4⟩ := Hub2.out y (by simp)
                  obtain ⟨y0, y1⟩ := (hrb.to hb3) 0 y rfl
                  simp only [Nat.zero_mul, Nat.add_zero] at y0 y1
                  have Hrb := hidd hrb
                  have hlen : (y :: t).length = t.length + 1 := rfl
                  have k1 : IntKind.u64.wrap (y.1 - 1) = y.1 - 1 := IntWalk.u64_in _ (by omega)
                  clear hrb hin
                  go_upto_if 49 with fail
                  go_cut [5] from 44 to 59 (fun rest wx => wx.ownsRow w.heap.size 94 2 rest (out2 ++ preR lo2 y).length (rowR (out2 ++ preR lo2 y)) ∧ wx.heap[D]? = some (.cells #[.int .u64 r.1, .int .u64 r.2] 94) ∧ D < wx.heap.size ∧ (∀ g, rest.ownBlock = some g → g ≠ D) ∧ Below w.heap.size w wx)
                  case first =>
                    by_cases hpre : lo2 < y.1
                    · have Hp : Hid (preR lo2 y = [(lo2, y.1 - 1)]) := by unfold preR; rw [if_pos hpre]; exact rfl
                      have hd : decide (lo2 < y.1) = true := decide_eq_true hpre
                      have c1 : out2.length + 1 ≤ maxLen := by unfold maxLen; omega
                      have c2 : (out2.length + 1) * 16 ≤ 140737488355328 := by omega
                      have c3 : w.heap.size ≤ (wc.alloc (.cells #[.int .u64 lo2, .int .u64 (y.1 - 1)] 94)).heap.size := by simp; omega
                      go_wp2_with (at_builtin; refine wpList_append_lies _ rfl (.tmp 50) (.tmp 58) 105 rfl w.heap.size 94 i94 _ 2 16 Try.underlying105 hi hz0 hz1 hz2 rfl (by decide) _ out2.length (rowR out2) rfl (Hown3.out.alloc _) ⟨wc.heap.size, 0, none⟩ 1 1 [.int .u64 lo2, .int .u64 (y.1 - 1)] rfl rfl (news2 rfl) (oneU _ _) (by omega) c1 c2 c3 _ rfl ?_)
                      intro g cap2 w3 hown4 hgrow hat hlt4
                      go_wp2_with fail
                      go_meet
                      have kb := below_self wc (.cells #[.int .u64 lo2, .int .u64 (y.1 - 1)] 94)
                      refine ⟨?_, ?_, ?_, ?_, ?_⟩
                      · rw [Hp.out, rowR_append, List.length_append]; exact hown4
                      · exact (hgrow.block D (Nat.lt_of_lt_of_le hDlt3 kb.size) (fun h => Hne2.out D h.symm rfl)).trans ((kb.block D hDlt3).trans HD3.out)
                      · exact Nat.lt_of_lt_of_le hDlt3 (Nat.le_trans kb.size hgrow.size)
                      · intro g' h'
                        simp [Value.ownBlock] at h'
                        subst h'
                        rcases hat with h | h
                        · exact Hne2.out g h
                        · omega
                      · exact (hb3.alloc hbs3 _).grown hgrow (by simp; omega) (fun j h => (Hown3.out.lt j h).1)
                    · have Hp : Hid (preR lo2 y = []) := by unfold preR; rw [if_neg hpre]; exact rfl
                      have hd : decide (lo2 < y.1) = false := decide_eq_false hpre
                      go_wp2_with fail
                      go_meet
                      exact ⟨by rw [Hp.out, List.append_nil]; exact Hown3.out, HD3.out, hDlt3, Hne2.out, hb3⟩
                  case rest =>
                    obtain ⟨hown5, hD5, hDlt5, hne5, hb5⟩ := hcut
                    have f05 : wc.cell? ⟨D, 0, none⟩ = some (.int .u64 r.1) := by simp [World.cell?, hD5]
                    have f15 : wc.cell? ⟨D, 1, none⟩ = some (.int .u64 r.2) := by simp [World.cell?, hD5]
                    have HD5 := hidd hD5
                    have Hown5 := hidd hown5
                    have Hne5 := hidd hne5
                    obtain ⟨z0, z1⟩ := (Hrb.out.to hb5) 0 y rfl
                    simp only [Nat.zero_mul, Nat.add_zero] at z0 z1
                    clear hown5 hD5 hne5 HD3 Hown3 hDlt3 hb3 f0' f1' y0 y1 Hne2
                    by_cases hcv : r.2 ≤ y.2
                    · have hd : decide (r.2 ≤ y.2) = true := decide_eq_true hcv
                      have Hcut := hidd (cut_cov (lo := lo2) (t := t) hy hcv)
                      have Hfin : Hid (out ++ (cut r.1 r.2 (dropB r.1 bs)).1 = out2 ++ preR lo2 y ∧ (cut r.1 r.2 (dropB r.1 bs)).2 = y :: t) := by
                        have h1 := Hq1.out
                        have h2 := Hq2.out
                        rw [Hcut.out] at h1 h2
                        exact ⟨h1, h2⟩
                      go_wp2_with fail
                      go_quiet (fail)
                      go_wp2_with fail
                      go_roundw
                      case rel => exact ⟨k + 1, y :: t, out2 ++ preR lo2 y, by omega, by go_num, ⟨_, _, rfl, hcb2, fun _ => ⟨gb, offb, rfl, Hrb.out⟩⟩, Hub2.out, Hown5.out, by rw [Heq.out, Hspl.out, ← List.append_assoc, Hfin.out.1, Hfin.out.2], ⟨hb5.os, hb5.tape, hb5.output, hb5.size, hb5.block⟩⟩
                      case measure => simp [intOf]; omega
                    · have hd : decide (r.2 ≤ y.2) = false := decide_eq_false hcv
                      have Hcut := hidd (cut_go (lo := lo2) (t := t) hy hcv)
                      have k2 : IntKind.u64.wrap (y.2 + 1) = y.2 + 1 := IntWalk.u64_in _ (by omega)
                      have Hfin : Hid (out ++ (cut r.1 r.2 (dropB r.1 bs)).1 = (out2 ++ preR lo2 y) ++ (cut (y.2 + 1) r.2 t).1 ∧ (cut r.1 r.2 (dropB r.1 bs)).2 = (cut (y.2 + 1) r.2 t).2) := by
                        have h1 := Hq1.out
                        have h2 := Hq2.out
                        rw [Hcut.out] at h1 h2
                        exact ⟨by rw [h1, List.append_assoc], h2⟩
                      have Ht := hidd (runsAt_tail Hrb.out)
                      have Hu3 : Hid (∀ x ∈ t, InU x) := fun x hx => Hub2.out x (List.mem_cons_of_mem _ hx)
                      go_wp2_with fail
                      go_quiet (fail)
                      have z0' : (wc.drewN nq).cell? ⟨gb, offb, none⟩ = some (.int .u64 y.1) := z0
                      have z1' : (wc.drewN nq).cell? ⟨gb, offb + 1, none⟩ = some (.int .u64 y.2) := z1
                      have Hown6 : Hid ((wc.drewN nq).ownsRow w.heap.size 94 2 u5 (out2 ++ preR lo2 y).length (rowR (out2 ++ preR lo2 y))) := Hown5.out
                      have HD6 : Hid ((wc.drewN nq).heap[D]? = some (.cells #[.int .u64 r.1, .int .u64 r.2] 94)) := HD5.out
                      have hDlt6 : D < (wc.drewN nq).heap.size := hDlt5
                      have hb6 : Below w.heap.size w (wc.drewN nq) := ⟨hb5.os, hb5.tape, hb5.output, hb5.size, hb5.block⟩
                      clear z0 z1 Hown5 HD5 hDlt5 hb5 f05 f15
                      generalize wc.drewN nq = W6 at *
                      by_cases hc1 : cb2 = 1
                      · have ht0 : t = [] := List.eq_nil_of_length_eq_zero (by omega)
                        subst ht0
                        subst hc1
                        go_wp2_with fail
                        go_quiet (fail)
                        go_wp2_with fail
                        go_roundw
                        case rel => exact ⟨[], out2 ++ preR lo2 y, y.2 + 1, ⟨_, _, rfl, by simp, fun h => absurd rfl h⟩, by simp, rfl, rfl, by omega, by omega, Hfin.out.1, Hfin.out.2, Hown6.out, HD6.out, hDlt6, Hne5.out, ⟨hb6.os, hb6.tape, hb6.output, hb6.size, hb6.block⟩⟩
                        case measure => simp [lenV]
                      · go_wp2_with fail
                        go_quiet (fail)
                        go_wp2_with fail
                        go_roundw
                        case rel => exact ⟨t, out2 ++ preR lo2 y, y.2 + 1, ⟨_, _, rfl, by omega, fun _ => ⟨gb, offb + 2, rfl, Ht.out⟩⟩, Hu3.out, rfl, rfl, by omega, by omega, Hfin.out.1, Hfin.out.2, Hown6.out, HD6.out, hDlt6, Hne5.out, ⟨hb6.os, hb6.tape, hb6.output, hb6.size, hb6.block⟩⟩
                        case measure => simp [lenV]
                | false =>
                  have Hcut := hidd (cut_out (lo := lo2) hin)
                  have Hfin : Hid (out ++ (cut r.1 r.2 (dropB r.1 bs)).1 = out2 ++ [(lo2, r.2)] ∧ (cut r.1 r.2 (dropB r.1 bs)).2 = bs2) := by
                    have h1 := Hq1.out
                    have h2 := Hq2.out
                    rw [Hcut.out] at h1 h2
                    exact ⟨h1, h2⟩
                  have c1 : out2.length + 1 ≤ maxLen := by unfold maxLen; omega
                  have c2 : (out2.length + 1) * 16 ≤ 140737488355328 := by omega
                  have c3 : w.heap.size ≤ (wc.alloc (.cells #[.int .u64 lo2, .int .u64 r.2] 94)).heap.size := by simp; omega
                  clear hin
                  go_wp2_with (at_builtin; refine wpList_append_own _ rfl (.tmp 76) (.tmp 81) 105 rfl w.heap.size 94 i94 _ 2 16 Try.underlying105 hi hz0 hz1 hz2 rfl (by decide) _ out2.length (rowR out2) rfl (Hown3.out.alloc _) ⟨wc.heap.size, 0, none⟩ 1 1 [.int .u64 lo2, .int .u64 r.2] rfl rfl (news2 rfl) (oneU _ _) c1 c2 c3 ?_)
                  intro v' w3 hown4 hgrow _
                  have Hown4 : Hid (w3.ownsRow w.heap.size 94 2 v' (out2 ++ [(lo2, r.2)]).length (rowR (out2 ++ [(lo2, r.2)]))) := by rw [rowR_append, List.length_append]; exact hown4
                  have hb4 : Below w.heap.size w w3 := (hb3.alloc hbs3 _).grown hgrow (by simp; omega) (fun j h => (Hown3.out.lt j h).1)
                  have hsb2 : SlR w (.slice ab2 bs2.length cb2) bs2 := ⟨ab2, cb2, rfl, hcb2, Hrb2.out⟩
                  have Hsb2 := hidd hsb2
                  clear hown4 hgrow hsb2
                  go_wp2_with fail
                  go_roundw
                  case rel => exact ⟨k + 1, bs2, out2 ++ [(lo2, r.2)], by omega, by go_num, Hsb2.out, Hub2.out, Hown4.out, by rw [Heq.out, Hspl.out, ← List.append_assoc, Hfin.out.1, Hfin.out.2], hb4⟩
                  case measure => simp [intOf]; omega
    · obtain rfl : k = xa.length := by omega
      have Hfin : Hid (out = sub xa bs0) := by
        have h := Heq.out
        rw [List.drop_length] at h
        have h2 : out = sub xa bs0 := by simpa [sub] using h.symm
        exact h2
      have Hown9 : Hid (wr.ownsRow w.heap.size 94 2 u5 (sub xa bs0).length (rowR (sub xa bs0))) := by
        have h := Hown.out
        rw [Hfin.out] at h; exact h
      clear Hown Heq Hfin
      go_wp2
      go_ret
      exact ⟨_, rfl, Hown9.out, hbel⟩

end Go.Proofs.Qxb6608633a
