/- seek, runsHold. -/
import Derived.Test.Qxb6608633aPut
namespace Go.Proofs.Qxb6608633a
open Go.RowKit

set_option maxHeartbeats 1000000 in
theorem hold85 (t r : Run) (Br : Nat) (w : World) (h0 : w.cell? ⟨Br, 0, none⟩ = some (.int .u64 r.1)) :
    Calls Try.prog 85 #[.agg #[.int .u64 t.1, .int .u64 t.2], .pointer (some ⟨Br, 0, none⟩)] w (RetV w (.bool (decide (t.2 < r.1)))) := by
  have kb := below_self w (.cells #[.int .u64 t.1, .int .u64 t.2] 94)
  have e1 : (w.alloc (.cells #[.int .u64 t.1, .int .u64 t.2] 94)).cell? ⟨w.heap.size, 1, none⟩ = some (.int .u64 t.2) := by simp
  have f0 := cell_to kb h0
  clear h0
  go_enter Try.func85, Try.ntmps85
  go_wp2
  go_ret
  exact ⟨rfl, kb⟩

/-- The first run of xs that does not end ahead of r. -/
def SeekIs (xs : List Run) (r f : Run) (ok : Bool) : Prop :=
  (ok = false ∧ ∀ x ∈ xs, x.2 < r.1) ∨ (ok = true ∧ ∃ dn up, xs = dn ++ f :: up ∧ (∀ x ∈ dn, x.2 < r.1) ∧ r.1 ≤ f.2)

def SeekRet (w : World) (xs : List Run) (r : Run) (e : Ending) (w' : World) : Prop :=
  ∃ (pos : Int) (f : Run) (ok : Bool), e = .returned (.tuple #[.int .i64 pos, .agg #[.int .u64 f.1, .int .u64 f.2], .bool ok]) ∧ SeekIs xs r f ok ∧ Below w.heap.size w w'

/-- Between two rounds of seek. -/
def SeekSt (w wr : World) (B7 : Nat) (xs : List Run) (r : Run) (t pos ok : Value) : Prop :=
  ∃ (q : Option Addr) (U : BT Run) (dn up : List Run) (f : Run) (b : Bool), t = .pointer q ∧ pos = .int .i64 (dn.length : Nat) ∧ ok = .bool b ∧ RTree w q U ∧ xs = dn ++ (U.list ++ up) ∧ (∀ x ∈ dn, x.2 < r.1) ∧
    wr.heap[B7]? = some (.cells #[.int .u64 f.1, .int .u64 f.2] 94) ∧ ((b = false ∧ up = []) ∨ (b = true ∧ (∃ rest, up = f :: rest) ∧ r.1 ≤ f.2)) ∧ Below w.heap.size w wr

theorem setCell2 {w : World} {B : Nat} {a b c d : Value} (h : w.heap[B]? = some (.cells #[a, b] 94)) : ((w.setCell ⟨B, 0, none⟩ c).setCell ⟨B, 1, none⟩ d).heap[B]? = some (.cells #[c, d] 94) := by
  have hlt := (Array.getElem?_eq_some_iff.1 h).1
  simp [World.setCell, Array.getElem?_modify, h]

set_option maxHeartbeats 2000000 in
set_option maxRecDepth 100000 in
theorem seek_any (p : Option Addr) (T : BT Run) (r : Run) (Br : Nat) (w : World) (hT : RTree w p T) (hf : Form T.list) (hlen : T.list.length ≤ 1000000) (h0 : w.cell? ⟨Br, 0, none⟩ = some (.int .u64 r.1)) :
    Calls Try.prog 84 #[.pointer p, .func (.func 85) #[] #[.pointer (some ⟨Br, 0, none⟩)]] w (SeekRet w T.list r) := by
  have k1 := below_self w (.cells #[.int .u64 0, .int .u64 0] 94)
  have k2 := below_self (w.alloc (.cells #[.int .u64 0, .int .u64 0] 94)) (.cells #[.int .u64 0, .int .u64 0] 94)
  have kb := below_to k1 k2 k1.size
  have HR := hidd ((k2.block w.heap.size (by simp)).trans (World.alloc_heap_new w (.cells #[.int .u64 0, .int .u64 0] 94)))
  have HF : Hid (((w.alloc (.cells #[.int .u64 0, .int .u64 0] 94)).alloc (.cells #[.int .u64 0, .int .u64 0] 94)).heap[w.heap.size + 1]? = some (.cells #[.int .u64 0, .int .u64 0] 94)) := by
    have h := World.alloc_heap_new (w.alloc (.cells #[.int .u64 0, .int .u64 0] 94)) (.cells #[.int .u64 0, .int .u64 0] 94)
    rw [World.size_alloc] at h; exact h
  have HT := hidd hT
  have Hf := hidd hf
  clear hT hf k1 k2
  go_enter Try.func84, Try.ntmps84
  go_wp2_with fail
  generalize (w.alloc (.cells #[.int .u64 0, .int .u64 0] 94)).alloc (.cells #[.int .u64 0, .int .u64 0] 94) = w0 at *
  go_loopw [0, 8, 9] (fun t pos ok wr => SeekSt w wr (w.heap.size + 1) T.list r t pos ok ∧ wr.heap[w.heap.size]? = some (.cells #[.int .u64 0, .int .u64 0] 94)) (fun t _ _ _ => leftR w t)
  case atStart => exact ⟨⟨p, T, [], [], (0, 0), false, rfl, rfl, rfl, HT.out, by simp, by simp, HF.out, .inl ⟨rfl, rfl⟩, kb⟩, HR.out⟩
  case round =>
    clear HF HR kb
    obtain ⟨⟨q, U, dn, up, f, b, rfl, rfl, rfl, hU, hxs, hdn, hF, hok, hbel⟩, hR⟩ := hrel
    have hf0 : wr.cell? ⟨w.heap.size + 1, 0, none⟩ = some (.int .u64 f.1) := by simp [World.cell?, hF]
    have hf1 : wr.cell? ⟨w.heap.size + 1, 1, none⟩ = some (.int .u64 f.2) := by simp [World.cell?, hF]
    have HF := hidd hF
    have HRr := hidd hR
    have Hxs := hidd hxs
    have Hdn := hidd hdn
    have Hok := hidd hok
    have HU := hidd hU
    have hlx : dn.length + (U.list.length + up.length) = T.list.length := by rw [hxs]; simp
    rcases hU.none_iff with ⟨rfl, rfl⟩ | ⟨a, l, x, rr, rfl, rfl⟩
    · have hfin : SeekIs T.list r f b := by
        rcases hok with ⟨rfl, rfl⟩ | ⟨rfl, ⟨rest, rfl⟩, hnf⟩
        · exact .inl ⟨rfl, by rw [hxs]; simpa [BT.list] using hdn⟩
        · exact .inr ⟨rfl, dn, rest, by rw [hxs]; simp [BT.list], hdn, hnf⟩
      have Hfin := hidd hfin
      have r0 : wr.cell? ⟨w.heap.size, 0, none⟩ = some (.int .u64 0) := by simp [World.cell?, hR]
      have r1 : wr.cell? ⟨w.heap.size, 1, none⟩ = some (.int .u64 0) := by simp [World.cell?, hR]
      have s0 : wr.frozen? ⟨w.heap.size, 0, none⟩ = false := by simp [World.frozen?, hR]
      have s1 : wr.frozen? ⟨w.heap.size, 1, none⟩ = false := by simp [World.frozen?, hR]
      clear hU hxs hdn hok hfin hF hR
      go_wp2_with fail
      go_region
      all_goals go_wp2
      refine bodyPost_ret (v := .tuple #[.int .i64 (dn.length : Nat), .agg #[.int .u64 f.1, .int .u64 f.2], .bool b]) (by simp [results, Try.results84, go_sem, r0, r1]) rfl ?_
      exact ⟨_, f, b, rfl, Hfin.out, ((hbel.setCell (p := ⟨w.heap.size, 0, none⟩) (Nat.le_refl _) _).setCell (p := ⟨w.heap.size, 1, none⟩) (Nat.le_refl _) _).drew⟩
    · rw [len_node] at hlx
      have hUr := hU.to hbel
      obtain ⟨N, off, p1, p2, hp, c0, c1, c2, c3, hl0, hr0⟩ := hUr.open
      obtain ⟨N', off', p1', p2', hp', _, _, c2', c3', hl, hr⟩ := hU.open
      cases hp
      cases hp'
      have HN := hidd (show w.cell? ⟨N, off + 2, none⟩ = some (.pointer p1') from c2')
      have e1 : p1' = p1 := by
        have := cell_to hbel c2'; rw [c2] at this; cases this; rfl
      have e2 : p2' = p2 := by
        have := cell_to hbel c3'; rw [c3] at this; cases this; rfl
      subst e1
      subst e2
      have CH := hidd (hold85 x r Br wr (cell_to hbel h0))
      have hmono := (mono_parts (P := fun y : Run => decide (y.2 < r.1)) (l := l) (r := rr) (x := x) (by
        have hfm : Form (BT.node l x rr).list := form_left (b := up) (form_right (a := dn) (by rw [← hxs]; exact Hf.out))
        unfold Mono
        refine hfm.2.imp_of_mem (fun {a b} ha hb hab hp => ?_)
        have := hfm.1 b hb
        simp only [decide_eq_true_eq] at hp ⊢
        omega)).2.2.1
      have Hmono := hidd hmono
      have HL := hidd hl
      have HRt := hidd hr
      clear hU hUr hxs hdn hok hF hR hl hr hl0 hr0 hmono c2' c3'
      by_cases hP : x.2 < r.1
      · have hPd : decide (x.2 < r.1) = true := decide_eq_true hP
        rw [hPd] at CH
        have Hm2 := hidd (Hmono.out hPd)
        have CL : Hid (∀ V, Below wr.heap.size wr V → Calls Try.prog 49 #[.pointer p1'] V fun e w' => e = .returned (.int .i64 (l.list.length : Nat)) ∧ w' = V) := fun V hV => lenR_any p1' l V ((HL.out.to hbel).to hV)
        clear Hmono
        go_wp2_with (first | (go_at_call 85; (with_reducible refine CH.out.mono ?_); rintro e w1 ⟨rfl, hb1⟩; have c2a := cell_to hb1 c2; have c3a := cell_to hb1 c3; clear c0 c1 c2 c3) | (go_at_call 49; (with_reducible refine (CL.out w1 hb1).mono ?_); rintro e wq ⟨rfl, hwq⟩; rw [hwq]; clear hwq wq))
        have hF1 : w1.heap[w.heap.size + 1]? = some (.cells #[.int .u64 f.1, .int .u64 f.2] 94) := (hb1.block _ (Array.getElem?_eq_some_iff.1 HF.out).1).trans HF.out
        have hR1 : w1.heap[w.heap.size]? = some (.cells #[.int .u64 0, .int .u64 0] 94) := (hb1.block _ (Array.getElem?_eq_some_iff.1 HRr.out).1).trans HRr.out
        go_roundw
        case rel =>
          refine ⟨⟨p2', rr, dn ++ (l.list ++ [x]), up, f, b, rfl, by first | go_num | (congr 1; simp), rfl, HRt.out, by rw [Hxs.out]; simp [BT.list], fun y hy => ?_, hF1, Hok.out, below_to hbel hb1 hbel.size⟩, hR1⟩
          rcases List.mem_append.1 hy with hy | hy
          · exact Hdn.out y hy
          · rcases List.mem_append.1 hy with hy | hy
            · exact of_decide_eq_true (Hm2.out y hy)
            · simp at hy; subst hy; exact hP
        case measure => rw [leftR_eq HRt.out, leftR_eq HU.out]; simp [BT.list]; omega
      · have hPd : decide (x.2 < r.1) = false := decide_eq_false hP
        rw [hPd] at CH
        clear Hmono
        go_wp2_with (go_at_call 85; (with_reducible refine CH.out.mono ?_); rintro e w1 ⟨rfl, hb1⟩; have c0a := cell_to hb1 c0; have c1a := cell_to hb1 c1; have c2a := cell_to hb1 c2; have hF1 : w1.heap[w.heap.size + 1]? = some (.cells #[.int .u64 f.1, .int .u64 f.2] 94) := (hb1.block _ (Array.getElem?_eq_some_iff.1 HF.out).1).trans HF.out; have HF1 := hidd hF1; have v0 := cell_to hb1 hf0; have v1 := cell_to hb1 hf1; have z0 : w1.frozen? ⟨w.heap.size + 1, 0, none⟩ = false := (by simp [World.frozen?, hF1]); have z1 : w1.frozen? ⟨w.heap.size + 1, 1, none⟩ = false := (by simp [World.frozen?, hF1]); have hNe : N < w.heap.size := World.block_lt_of_cell? w _ HN.out; clear hF1 c0 c1 c2 c3)
        have HR1 : Hid (w1.heap[w.heap.size]? = some (.cells #[.int .u64 0, .int .u64 0] 94)) := (hb1.block _ (Array.getElem?_eq_some_iff.1 HRr.out).1).trans HRr.out
        have hbl := below_to hbel hb1 hbel.size
        go_roundw
        case rel =>
          refine ⟨⟨p1', l, dn, x :: (rr.list ++ up), x, true, rfl, rfl, rfl, HL.out, by rw [Hxs.out]; simp [BT.list], Hdn.out, setCell2 HF1.out, .inr ⟨rfl, ⟨_, rfl⟩, by omega⟩, (hbl.setCell (p := ⟨w.heap.size + 1, 0, none⟩) (by show w.heap.size ≤ w.heap.size + 1; omega) _).setCell (p := ⟨w.heap.size + 1, 1, none⟩) (by show w.heap.size ≤ w.heap.size + 1; omega) _⟩, ?_⟩
          have hne : w.heap.size ≠ w.heap.size + 1 := by omega
          rw [Below.heap_setCell _ _ _ _ hne, Below.heap_setCell _ _ _ _ hne]
          exact HR1.out
        case measure => rw [leftR_eq HL.out, leftR_eq HU.out]; simp [BT.list]

/-- Does one run of xs hold all of r? -/
def holdsR (xs : List Run) (r : Run) : Prop := ∃ x ∈ xs, x.1 ≤ r.1 ∧ r.2 ≤ x.2

def HoldRet (w : World) (xs : List Run) (r : Run) (e : Ending) (w' : World) : Prop := ∃ b : Bool, e = .returned (.bool b) ∧ (b = true ↔ holdsR xs r) ∧ Below w.heap.size w w'

theorem seek_hold {xs : List Run} {r f : Run} {ok : Bool} (hf : Form xs) (hr : r.1 ≤ r.2) (h : SeekIs xs r f ok) : (ok = true ∧ f.1 ≤ r.1 ∧ r.2 ≤ f.2) ↔ holdsR xs r := by
  rcases h with ⟨rfl, h⟩ | ⟨rfl, dn, up, rfl, h1, h2⟩
  · constructor
    · rintro ⟨h, _⟩; cases h
    · rintro ⟨x, hx, a, b⟩; have := h x hx; omega
  · constructor
    · rintro ⟨_, a, b⟩; exact ⟨f, by simp, a, b⟩
    · rintro ⟨x, hx, a, b⟩
      rcases List.mem_append.1 hx with hx | hx
      · have := h1 x hx; omega
      · rcases List.mem_cons.1 hx with rfl | hx
        · exact ⟨rfl, a, b⟩
        · have h3 := (List.pairwise_cons.1 (List.pairwise_append.1 hf.2).2.1).1 x hx
          omega

set_option maxHeartbeats 2000000 in
set_option maxRecDepth 100000 in
theorem runsHold_any (p : Option Addr) (T : BT Run) (r : Run) (w : World) (hT : RTree w p T) (hf : Form T.list) (hlen : T.list.length ≤ 1000000) (hr : r.1 ≤ r.2) :
    Calls Try.prog 69 #[.pointer p, .agg #[.int .u64 r.1, .int .u64 r.2]] w (HoldRet w T.list r) := by
  have kb := below_self w (.cells #[.int .u64 r.1, .int .u64 r.2] 94)
  have e0 : (w.alloc (.cells #[.int .u64 r.1, .int .u64 r.2] 94)).cell? ⟨w.heap.size, 0, none⟩ = some (.int .u64 r.1) := by simp
  have e1 : (w.alloc (.cells #[.int .u64 r.1, .int .u64 r.2] 94)).cell? ⟨w.heap.size, 1, none⟩ = some (.int .u64 r.2) := by simp
  have CS := hidd (seek_any p T r w.heap.size _ (hT.to kb) hf hlen e0)
  have Hf := hidd hf
  clear hT hf
  go_enter Try.func69, Try.ntmps69
  go_wp2_with fail
  generalize w.alloc (.cells #[.int .u64 r.1, .int .u64 r.2] 94) = w0 at *
  refine CS.out.mono ?_
  rintro e w1 ⟨pos, f, ok, rfl, hs, hb1⟩
  have hiff := seek_hold Hf.out hr hs
  have Hiff := hidd hiff
  have g0 := cell_to hb1 e0
  have g1 := cell_to hb1 e1
  have hb2 := kb.trans (hb1.mono kb.size)
  have hb3 := below_to hb2 (below_self w1 (.cells #[.int .u64 f.1, .int .u64 f.2] 94)) hb2.size
  have hDlt : w.heap.size < w1.heap.size := World.block_lt_of_cell? w1 _ g0
  clear hs hiff e0 e1 CS
  cases ok with
  | false =>
    have hb : (false = true ↔ holdsR T.list r) := by rw [← Hiff.out]; simp
    have Hb := hidd hb
    clear hb
    go_wp2
    go_ret
    exact ⟨false, rfl, Hb.out, hb3⟩
  | true =>
    have hb : (decide (f.1 ≤ r.1) && decide (r.2 ≤ f.2)) = true ↔ holdsR T.list r := by rw [← Hiff.out]; simp
    have Hb := hidd hb
    clear hb
    by_cases x1 : f.1 ≤ r.1
    · go_wp2
      go_ret
      exact ⟨decide (r.2 ≤ f.2), rfl, by rw [← Hb.out]; simp [x1], hb3⟩
    · have hx := hidd x1
      go_wp2
      go_ret
      exact ⟨false, rfl, by rw [← Hb.out]; simp; intro h; exact absurd h (Int.not_le.2 hx.out), hb3⟩

end Go.Proofs.Qxb6608633a
