/- ContextOf over one dot. -/
import Derived.Test.Qxb6608633aTreeOne3
import Derived.Deep.AppendLies
namespace Go.Proofs.Qxb6608633a
open Go.RowKit

theorem Try.info94 : (Try.prog.info? 94).map (fun i => (i.zero, i.size, i.bytes)) = some (some (.agg #[.int .u64 0, .int .u64 0]), 2, 16) := by kernel_rfl
theorem Try.info116 : (Try.prog.info? 116).map (fun i => (i.zero, i.size, i.bytes)) = some (some (.agg #[.string ByteArray.empty, .pointer none]), 2, 24) := by kernel_rfl

theorem sorted_one {w w' : World} {s : ByteArray} {c : Int} {e : Ending} (h : SortedRet w [(s, c)] e w') :
    ∃ b off cap, e = .returned (.slice (some ⟨b, off, none⟩) 1 cap) ∧ w'.cell? ⟨b, off, none⟩ = some (.string s) ∧ w'.cell? ⟨b, off + 1, none⟩ = some (.int .u64 c) ∧ Below w.heap.size w w' := by
  obtain ⟨v, rfl, ⟨ys, ao, cap, rfl, hp, _, hE, _⟩, hb⟩ := h
  obtain rfl : ys = [(s, c)] := List.perm_singleton.1 hp
  rcases hE with h | ⟨b, off, rfl, hc⟩
  · cases h
  · have := hc 0 s c rfl
    simp only [Nat.zero_mul, Nat.add_zero] at this
    exact ⟨b, off, cap, rfl, this.1, this.2, hb⟩

theorem OneAt.set {w : World} {N t q i : Nat} {a b : Value} (h : OneAt w N t a b) (hne : N ≠ q) (v : Value) : OneAt (w.setCell ⟨q, i, none⟩ v) N t a b := (Below.heap_setCell _ _ _ _ hne).trans h

/-- The slice en holds the one entry: s and its tree of the one run c..c. -/
def EnOne (w : World) (s : ByteArray) (c : Int) (en : Value) : Prop :=
  ∃ g cap M, en = .slice (some ⟨g, 0, none⟩) 1 cap ∧ 1 ≤ cap ∧ w.cell? ⟨g, 0, none⟩ = some (.string s) ∧ w.cell? ⟨g, 1, none⟩ = some (.pointer (some ⟨M, 0, none⟩)) ∧ OneAt w M 136 (.int .u64 c) (.int .u64 c)

def CtxOneRet (w : World) (s : ByteArray) (c : Int) (e : Ending) (w' : World) : Prop :=
  ∃ N M, e = .returned (.agg #[.pointer (some ⟨N, 0, none⟩), .string ⟨#[]⟩, .int .u64 0, .int .u64 0]) ∧ OneAt w' N 139 (.string s) (.pointer (some ⟨M, 0, none⟩)) ∧ OneAt w' M 136 (.int .u64 c) (.int .u64 c) ∧ Below w.heap.size w w'

theorem news2 {A : World} {b t : Nat} {x y : Value} (hb : b = A.heap.size) : ∀ j u, [x, y][j]? = some u → (A.alloc (.cells #[x, y] t)).cell? ((⟨b, 0, none⟩ : Addr).add j) = some u := by
  subst hb
  intro j u hj
  match j, hj with
  | 0, hj => simp at hj; subst hj; simp [Addr.add]
  | 1, hj => simp at hj; subst hj; simp [Addr.add]

theorem oneU (c d : Int) : ∀ u ∈ [Value.int .u64 c, Value.int .u64 d], u.oneCell' = true := by intro u hu; simp at hu; rcases hu with rfl | rfl <;> rfl
theorem oneS (s : ByteArray) (q : Option Addr) : ∀ u ∈ [Value.string s, Value.pointer q], u.oneCell' = true := by intro u hu; simp at hu; rcases hu with rfl | rfl <;> rfl

/-- An own row of one element of two cells. -/
theorem own_two {w : World} {B e : Nat} {v x y : Value} (h : w.ownsRow B e 2 v 1 [x, y]) : ∃ g cap, v = .slice (some ⟨g, 0, none⟩) 1 cap ∧ 1 ≤ cap ∧ B ≤ g ∧ g < w.heap.size ∧ w.cell? ⟨g, 0, none⟩ = some x ∧ w.cell? ⟨g, 1, none⟩ = some y := by
  have h' := h
  rcases h.2 with ⟨_, h0⟩ | ⟨g, cap, cur, rfl, hB, hg, hc, _⟩
  · cases h0
  · exact ⟨g, cap, rfl, hc, hB, (Array.getElem?_eq_some_iff.1 hg).1, by rw [h'.cellAt 0 (by omega)]; rfl, by rw [h'.cellAt 1 (by omega)]; rfl⟩

set_option maxHeartbeats 4000000 in
set_option maxRecDepth 100000 in
theorem contextOf_one (Bs b0 off0 cap0 : Nat) (s : ByteArray) (c : Int) (hs : s.toList.isEmpty = false) (hc : c ≠ 0) (w : World) (hBs : Bs < w.heap.size) (hb0 : b0 < w.heap.size)
    (hbox : w.cell? ⟨Bs, 0, none⟩ = some (.slice (some ⟨b0, off0, none⟩) 1 cap0)) (hE : EntsAt w (some ⟨b0, off0, none⟩) [(s, c)]) :
    Calls Try.prog 45 #[.func (.func 62) #[] #[.pointer (some ⟨Bs, 0, none⟩)]] w (CtxOneRet w s c) := by
  have hbw : Below w.heap.size w (w.alloc (.cells #[.pointer none, .string ⟨#[]⟩, .int .u64 0, .int .u64 0] 98)) := (Below.refl _ _).alloc (Nat.le_refl _) _
  have HR := hidd (World.alloc_heap_new w (.cells #[.pointer none, .string ⟨#[]⟩, .int .u64 0, .int .u64 0] 98))
  have hsz : w.heap.size + 1 = (w.alloc (.cells #[.pointer none, .string ⟨#[]⟩, .int .u64 0, .int .u64 0] 98)).heap.size := by simp
  have H := hidd (sortedFunc_any Bs (some ⟨b0, off0, none⟩) cap0 [(s, c)] (by simp) (w.alloc (.cells #[.pointer none, .string ⟨#[]⟩, .int .u64 0, .int .u64 0] 98)) (by simp; omega) (fun a ha => by cases ha; simp; omega) ((hbw.cell (p := ⟨Bs, 0, none⟩) hBs).trans hbox) (hE.below hbw (fun a ha => by cases ha; exact hb0)))
  obtain ⟨i94, hi, hz0, hz1, hz2⟩ := info_parts Try.info94
  obtain ⟨i116, gi, gz0, gz1, gz2⟩ := info_parts Try.info116
  clear hbox hE
  go_enter Try.func45, Try.ntmps45
  go_wp2_with fail
  generalize w.alloc (.cells #[.pointer none, .string ⟨#[]⟩, .int .u64 0, .int .u64 0] 98) = w0 at *
  refine H.out.mono ?_
  intro e w1 h1
  obtain ⟨b, off, cap, rfl, hc0, hc1, hb1⟩ := sorted_one h1
  clear h1 H
  have hblt : b < w1.heap.size := World.block_lt_of_cell? w1 _ hc0
  go_wp2
  go_loopw [4, 5, 13] (fun en ru i wr => (i = .int .i64 0 ∧ en = .slice none 0 0 ∧ ru = .slice none 0 0 ∧ wr = w1) ∨ (i = .int .i64 1 ∧ EnOne wr s c en ∧ Below w0.heap.size w0 wr)) (fun _ _ i _ => 1 - (intOf i).toNat)
  case atStart => exact .inl ⟨rfl, rfl, rfl, rfl⟩
  case round =>
    rcases hrel with ⟨rfl, rfl, rfl, hwr⟩ | ⟨rfl, hen, hbel⟩
    · rw [hwr]
      clear hwr wr
      have hcb : (c == 0) = false := by simpa using hc
      have hnw : w1.heap.size ≠ b := by omega
      go_wp2_with (go_at_call 41; refine (isZero_any _ _).mono ?_; rintro e w' ⟨he, rfl⟩; rw [hs] at he; subst he)
      have hb2 : Below w0.heap.size w0 ((w1.alloc (.cells #[.string s, .int .u64 c] 79)).alloc (.cells #[.string s] 30)) := (hb1.alloc hb1.size _).alloc (by have := hb1.size; simp; omega) _
      have hd0 : ((w1.alloc (.cells #[.string s, .int .u64 c] 79)).alloc (.cells #[.string s] 30)).cell? ⟨w1.heap.size, 0, none⟩ = some (.string s) := keepA _ (by simp)
      have hd1 : ((w1.alloc (.cells #[.string s, .int .u64 c] 79)).alloc (.cells #[.string s] 30)).cell? ⟨w1.heap.size, 1, none⟩ = some (.int .u64 c) := keepA _ (by simp)
      generalize ((w1.alloc (.cells #[.string s, .int .u64 c] 79)).alloc (.cells #[.string s] 30)) = w2 at hb2 hd0 hd1 ⊢
      generalize w1.heap.size = D at *
      clear hc0 hc1 hnw hb1 hcb
      go_quiet (fail)
      have hbs2 := hb2.size
      have c1 : 0 + 1 ≤ maxLen := by unfold maxLen; omega
      have c2 : (0 + 1) * 16 ≤ 140737488355328 := by omega
      have c3 : w0.heap.size ≤ ((w2.drewN nq).alloc (.cells #[.int .u64 c, .int .u64 c] 94)).heap.size := by simp; omega
      have hDlt : D < w2.heap.size := World.block_lt_of_cell? w2 _ hd0
      go_wp2_with (at_builtin; refine wpList_append_own _ rfl (.tmp 55) (.tmp 61) 105 rfl w0.heap.size 94 i94 _ 2 16 Try.underlying105 hi hz0 hz1 hz2 rfl (by decide) _ 0 [] rfl (World.ownsRow_nil _ _ _ _) ⟨w2.heap.size, 0, none⟩ 1 1 [.int .u64 c, .int .u64 c] rfl rfl (news2 rfl) (oneU c c) c1 c2 c3 ?_)
      intro v' w3 hown3 hgrow3 _
      obtain ⟨g, cap1, rfl, hcap1, hBg, hglt, hg0, hg1⟩ := own_two hown3
      have hnone : ∀ k, (Value.slice none 0 0).ownBlock = some k → False := fun k h => by simp [Value.ownBlock] at h
      have hbA : Below w2.heap.size w2 w3 := ((show Below w2.heap.size w2 (w2.drewN nq) from ⟨rfl, rfl, rfl, Nat.le_refl _, fun _ _ => rfl⟩).alloc (Nat.le_refl _) _).grown hgrow3 (by simp) (fun k h => (hnone k h).elim)
      have hb3 : Below w0.heap.size w0 w3 := hb2.trans (hbA.mono hbs2)
      have hd3 : w3.cell? ⟨D, 0, none⟩ = some (.string s) := (hbA.cell (p := ⟨D, 0, none⟩) hDlt).trans hd0
      have hDlt3 : D < w3.heap.size := World.block_lt_of_cell? w3 _ hd3
      have hbs3 := hb3.size
      clear hown3 hgrow3 hbA hb2 hd0 hd1 hDlt hbs2 c1 c2 c3 hi hz0 hz1 hz2
      go_wp2
      go_quiet (fail)
      go_wp2
      have q0 : (w3.drewN nq).cell? ⟨g, 0, none⟩ = some (.int .u64 c) := hg0
      have q1 : (w3.drewN nq).cell? ⟨g, 0 + 1, none⟩ = some (.int .u64 c) := hg1
      have q2 : (w3.drewN nq).cell? ⟨D, 0, none⟩ = some (.string s) := hd3
      have q3 : D < (w3.drewN nq).heap.size := hDlt3
      have q4 : Below w0.heap.size w0 (w3.drewN nq) := ⟨hb3.os, hb3.tape, hb3.output, hb3.size, hb3.block⟩
      clear hg0 hg1 hd3 hDlt3 hb3 hbs3 hglt
      generalize w3.drewN nq = W at q0 q1 q2 q3 q4 ⊢
      have q5 := q4.size
      have Q0 := hidd q0
      have Q1 := hidd q1
      clear q0 q1
      have c1 : 0 + 1 ≤ maxLen := by unfold maxLen; omega
      have c2 : (0 + 1) * 24 ≤ 140737488355328 := by omega
      go_region_held3 (fun w' => w'.cell? ⟨D, 0, none⟩ = some (.string s)) (first | assumption | exact keepA _ (by assumption) | go_keep) (first | (go_at_call 47; refine (treeOfR_one g 0 cap1 hcap1 c c _ (by exact Q0.out) (by exact Q1.out)).mono ?_; rintro e w4 ⟨rfl, hone, hb4⟩; have q6 : w4.cell? ⟨D, 0, none⟩ = some (.string s) := (hb4.cell (p := ⟨D, 0, none⟩) q3).trans q2; have Hone := hidd hone; clear hone; have q7 : Below W.heap.size W w4 := ⟨hb4.os, hb4.tape, hb4.output, hb4.size, hb4.block⟩; have q8 := q7.size) | (refine step_append_lies _ (by rfl) _ _ 120 (by rfl) w0.heap.size 116 i116 _ 2 24 Try.underlying120 gi gz0 gz1 gz2 rfl (by decide) _ 0 [] rfl (World.ownsRow_nil _ _ _ _) ⟨w4.heap.size, 0, none⟩ 1 1 [.string s, .pointer (some ⟨W.heap.size, 0, none⟩)] rfl rfl (news2 rfl) (oneS s _) (by omega) c1 c2 (by simp; omega) _ rfl ?_; intro g2 cap2 w5 hown5 hgrow5 hat5 hlt5; have q9b : Below w4.heap.size w4 w5 := ((Below.refl _ w4).alloc (Nat.le_refl _) _).grown hgrow5 (by simp) (fun k h => (hnone k h).elim); have q9 : w5.cell? ⟨D, 0, none⟩ = some (.string s) := (q9b.cell (p := ⟨D, 0, none⟩) (Nat.lt_of_lt_of_le q3 q8)).trans q6; have Hown5 := hidd hown5; clear hown5 hgrow5))
      rename_i hheld
      obtain ⟨g3, cap3, he3, hcap3, _, _, hx0, hx1⟩ := own_two (show w5.ownsRow w0.heap.size 116 2 _ 1 [_, _] from Hown5.out)
      cases he3
      have hone5 : OneAt w5 W.heap.size 136 (.int .u64 c) (.int .u64 c) := (q9b.block W.heap.size (Array.getElem?_eq_some_iff.1 Hone.out).1).trans Hone.out
      have hen : EnOne w5 s c (.slice (some ⟨g2, 0, none⟩) 1 cap2) := ⟨g2, cap2, W.heap.size, rfl, hcap3, hx0, hx1, hone5⟩
      have hb5 : Below w0.heap.size w0 w5 := q4.trans ((q7.mono q5).trans (q9b.mono (Nat.le_trans q5 q8)))
      have Hen := hidd hen
      clear hheld hx0 hx1 hone5 hen q2 q3 q4 q5 q6 q7 q8 q9 q9b Q0 Q1 Hone Hown5 hat5 hlt5 hb4 hnone
      go_wp2
      go_roundw
      case rel => exact .inr ⟨by go_num, Hen.out, hb5⟩
      case measure => simp [intOf]
    · obtain ⟨g, cap1, M, rfl, hcap1, hg0, hg1, hone⟩ := hen
      have HM := hidd hone
      have hMlt := (Array.getElem?_eq_some_iff.1 hone).1
      have H2 := hidd (treeOfX_one g 0 cap1 hcap1 s (some ⟨M, 0, none⟩) wr hg0 hg1)
      have hRlt : w.heap.size < w0.heap.size := by omega
      have hbs := hbel.size
      clear hg0 hg1 hone hc0 hc1 hblt hi hz0 hz1 hz2 gi gz0 gz1 gz2
      go_wp2_with fail
      refine H2.out.mono ?_
      rintro e w6 ⟨rfl, hN, hb6⟩
      have HN := hidd hN
      have hNlt := (Array.getElem?_eq_some_iff.1 hN).1
      have hR6 : w6.heap[w.heap.size]? = _ := (hb6.block w.heap.size (by omega)).trans ((hbel.block w.heap.size hRlt).trans HR.out)
      have r0 : w6.cell? ⟨w.heap.size, 0, none⟩ = some (.pointer none) := by simp [World.cell?, hR6]
      have r1 : w6.cell? ⟨w.heap.size, 1, none⟩ = some (.string ⟨#[]⟩) := by simp [World.cell?, hR6]
      have r2 : w6.cell? ⟨w.heap.size, 2, none⟩ = some (.int .u64 0) := by simp [World.cell?, hR6]
      have r3 : w6.cell? ⟨w.heap.size, 3, none⟩ = some (.int .u64 0) := by simp [World.cell?, hR6]
      have s0 : w6.frozen? ⟨w.heap.size, 0, none⟩ = false := by simp [World.frozen?, hR6]
      have s1 : w6.frozen? ⟨w.heap.size, 1, none⟩ = false := by simp [World.frozen?, hR6]
      have s2 : w6.frozen? ⟨w.heap.size, 2, none⟩ = false := by simp [World.frozen?, hR6]
      have s3 : w6.frozen? ⟨w.heap.size, 3, none⟩ = false := by simp [World.frozen?, hR6]
      have hM6 : OneAt w6 M 136 (.int .u64 c) (.int .u64 c) := (hb6.block M hMlt).trans HM.out
      have HM6 := hidd hM6
      have hbw6 : Below w.heap.size w w6 := hbw.trans ((hbel.mono (by omega)).trans (hb6.mono (by omega)))
      clear hN hR6 H2 HM hM6
      go_wp2
      have hMne : M ≠ w.heap.size := fun e => by
        have h := HM6.out
        unfold OneAt at h
        have h2 : w6.cell? ⟨M, 0, none⟩ = some (.int .u64 c) := by simp [World.cell?, h]
        rw [e, r0] at h2; cases h2
      have hNne : wr.heap.size ≠ w.heap.size := by omega
      exact bodyPost_ret (v := .agg #[.pointer (some ⟨wr.heap.size, 0, none⟩), .string ⟨#[]⟩, .int .u64 0, .int .u64 0]) (by simp [results, Try.results45, go_sem, r0, r1, r2, r3]) rfl
        ⟨wr.heap.size, M, rfl, (((HN.out.set hNne _).set hNne _).set hNne _).set hNne _, (((HM6.out.set hMne _).set hMne _).set hMne _).set hMne _,
          (((hbw6.setCell (p := ⟨w.heap.size, 0, none⟩) (Nat.le_refl _) _).setCell (p := ⟨w.heap.size, 1, none⟩) (Nat.le_refl _) _).setCell (p := ⟨w.heap.size, 2, none⟩) (Nat.le_refl _) _).setCell (p := ⟨w.heap.size, 3, none⟩) (Nat.le_refl _) _⟩

end Go.Proofs.Qxb6608633a
