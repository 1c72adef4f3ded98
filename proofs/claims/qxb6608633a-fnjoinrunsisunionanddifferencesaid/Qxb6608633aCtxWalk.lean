/- ContextOf in general: the walk. -/
import Derived.Test.Qxb6608633aCtx
import Derived.Test.Qxb6608633aPlainC
import Derived.Deep.DeepCutAuto
namespace Go.Proofs.Qxb6608633a
open Go.RowKit

/-- The trees outlast every change of the blocks o and q. -/
def TreesB (w : World) (o q : Option Nat) (ps : List Etr) (gs : List Grp) : Prop :=
  ∀ w' : World, (∀ k, k < w.heap.size → some k ≠ o → some k ≠ q → w'.heap[k]? = w.heap[k]?) → Trees w' ps gs

theorem TreesB.now {w : World} {o q : Option Nat} {ps : List Etr} {gs : List Grp} (h : TreesB w o q ps gs) : Trees w ps gs := h w (fun _ _ _ _ => rfl)
theorem treesB_nil (w : World) (o q : Option Nat) : TreesB w o q [] [] := fun _ _ => ⟨rfl, fun i p g h => by simp at h⟩
theorem TreesB.to {a b : World} {o q : Option Nat} {ps : List Etr} {gs : List Grp} (k : Below a.heap.size a b) (h : TreesB a o q ps gs) : TreesB b o q ps gs :=
  fun v hv => h v (fun i hi h1 h2 => (hv i (Nat.lt_of_lt_of_le hi k.size) h1 h2).trans (k.block i hi))
theorem TreesB.same {a b : World} {o q : Option Nat} {ps : List Etr} {gs : List Grp} (k : b.heap = a.heap) (h : TreesB a o q ps gs) : TreesB b o q ps gs :=
  fun v hv => h v (fun i hi h1 h2 => by have := hv i (by rw [k]; exact hi) h1 h2; rw [k] at this; exact this)
theorem TreesB.app1 {w w' : World} {o o' q : Option Nat} {ps : List Etr} {gs : List Grp} (h : TreesB w o q ps gs) (hg : w.grownBy w' o) (ho : o' = o ∨ ∃ H, w.heap.size ≤ H ∧ o' = some H) : TreesB w' o' q ps gs := by
  intro v hv
  refine h v fun k hk h1 h2 => ?_
  have hs := hg.size
  refine (hv k (by omega) ?_ h2).trans (hg.block k hk h1)
  rcases ho with rfl | ⟨H, hH, rfl⟩
  · exact h1
  · intro e; injection e; omega
theorem TreesB.app2 {w w' : World} {o q q' : Option Nat} {ps : List Etr} {gs : List Grp} (h : TreesB w o q ps gs) (hg : w.grownBy w' q) (ho : q' = q ∨ ∃ H, w.heap.size ≤ H ∧ q' = some H) : TreesB w' o q' ps gs := by
  intro v hv
  refine h v fun k hk h1 h2 => ?_
  have hs := hg.size
  refine (hv k (by omega) h1 ?_).trans (hg.block k hk h2)
  rcases ho with rfl | ⟨H, hH, rfl⟩
  · exact h2
  · intro e; injection e; omega
theorem TreesB.snoc {w : World} {o q : Option Nat} {ps : List Etr} {gs : List Grp} {s : ByteArray} {p : Option Addr} {R : List Run} {T : BT Run} {B lo hi : Nat} (h : TreesB w o q ps gs) (hT : RTreeIn w B lo hi p T) (hB : B < w.heap.size) (ho : some B ≠ o) (hq : some B ≠ q) (hl : T.list = R) : TreesB w o q (ps ++ [(s, p)]) (gs ++ [(s, R)]) :=
  fun v hv => (h v hv).snoc (hT.same (fun _ _ _ => World.cell?_of_block (hv B hB ho hq))).tree hl

theorem RTree.out {w w' : World} {R : Nat} (hn : ∀ j, 4 ≤ j → w.cell? ⟨R, j, none⟩ = none) (hs : ∀ N j, N ≠ R → w'.cell? ⟨N, j, none⟩ = w.cell? ⟨N, j, none⟩) : ∀ {T : BT Run} {p : Option Addr}, RTree w p T → RTree w' p T
  | .nil, _, h => h
  | .node _ _ _, _, ⟨N, off, pl, pr, e, c1, c2, c3, c4, c5, hl, hr⟩ => by
    have hN : N ≠ R := by
      rintro rfl
      rw [hn (off + 4) (by omega)] at c5; cases c5
    exact ⟨N, off, pl, pr, e, (hs _ _ hN).trans c1, (hs _ _ hN).trans c2, (hs _ _ hN).trans c3, (hs _ _ hN).trans c4, (hs _ _ hN).trans c5, hl.out hn hs, hr.out hn hs⟩
theorem XTree.out {w w' : World} {R : Nat} (hn : ∀ j, 4 ≤ j → w.cell? ⟨R, j, none⟩ = none) (hs : ∀ N j, N ≠ R → w'.cell? ⟨N, j, none⟩ = w.cell? ⟨N, j, none⟩) : ∀ {T : BT Etr} {p : Option Addr}, XTree w p T → XTree w' p T
  | .nil, _, h => h
  | .node _ _ _, _, ⟨N, off, pl, pr, e, c1, c2, c3, c4, c5, hl, hr⟩ => by
    have hN : N ≠ R := by
      rintro rfl
      rw [hn (off + 4) (by omega)] at c5; cases c5
    exact ⟨N, off, pl, pr, e, (hs _ _ hN).trans c1, (hs _ _ hN).trans c2, (hs _ _ hN).trans c3, (hs _ _ hN).trans c4, (hs _ _ hN).trans c5, hl.out hn hs, hr.out hn hs⟩
theorem Trees.out {w w' : World} {R : Nat} {ps : List Etr} {gs : List Grp} (hn : ∀ j, 4 ≤ j → w.cell? ⟨R, j, none⟩ = none) (hs : ∀ N j, N ≠ R → w'.cell? ⟨N, j, none⟩ = w.cell? ⟨N, j, none⟩) (h : Trees w ps gs) : Trees w' ps gs :=
  ⟨h.1, fun i p g h1 h2 => by obtain ⟨T, hT, hl⟩ := h.2 i p g h1 h2; exact ⟨T, hT.out hn hs, hl⟩⟩

/-- Between two rounds of ContextOf's loop. -/
def CtxLoop (w1 wr : World) (ys : List Ent) (k : Nat) (en ru : Value) : Prop :=
  ∃ (done : List Grp) (ps : List Etr) (rs : List Run), groups ys [] = done ++ groups (ys.drop k) rs ∧ wr.ownsRow w1.heap.size 116 2 en ps.length (rowX ps) ∧ wr.ownsRow w1.heap.size 94 2 ru rs.length (rowR rs) ∧
    TreesB wr en.ownBlock ru.ownBlock ps done ∧ ps.length ≤ k ∧ rs.length ≤ k ∧ Below w1.heap.size w1 wr

/-- Does the counter c lengthen the last run? -/
def extB (rs : List Run) (c : Int) : Bool := match rs.getLast? with
  | none => false
  | some x => decide (c - 1 ≤ x.2)
theorem extB_nil (c : Int) : extB [] c = false := rfl
theorem extB_snoc (l : List Run) (x : Run) (c : Int) : extB (l ++ [x]) c = decide (c - 1 ≤ x.2) := by simp [extB]
theorem step_ext {rs : List Run} {c : Int} (h : extB rs c = true) : ∃ l x, rs = l ++ [x] ∧ stepR rs c = l ++ [(x.1, max x.2 c)] := by
  rcases List.eq_nil_or_concat rs with rfl | ⟨l, x, rfl⟩
  · cases h
  · rw [List.concat_eq_append] at *
    rw [extB_snoc] at h
    exact ⟨l, x, rfl, by rw [stepR_snoc, if_pos (of_decide_eq_true h)]⟩
theorem step_new {rs : List Run} {c : Int} (h : extB rs c = false) : stepR rs c = rs ++ [(c, c)] := by
  rcases List.eq_nil_or_concat rs with rfl | ⟨l, x, rfl⟩
  · rfl
  · rw [List.concat_eq_append] at *
    rw [extB_snoc] at h
    rw [stepR_snoc, if_neg (of_decide_eq_false h)]
theorem rowR_append (a b : List Run) : rowR (a ++ b) = rowR a ++ rowR b := flat2_append _ _ a b
theorem rowX_append (a b : List Etr) : rowX (a ++ b) = rowX a ++ rowX b := flat2_append _ _ a b
theorem rowR_length (a : List Run) : (rowR a).length = a.length * 2 := flat2_length _ _ a
theorem rowR_store (l : List Run) (x : Run) (v : Int) : (rowR (l ++ [x])).set (l.length * 2 + 1) (.int .u64 v) = rowR (l ++ [(x.1, v)]) := by
  rw [rowR_append, rowR_append]
  have h := rowR_length l
  rw [List.set_append_right _ _ (by omega), h]
  simp [rowR, flat2, show l.length * 2 + 1 - l.length * 2 = 1 by omega]

/-- Is the dot k the last one of its replica s? -/
def lastB (ys : List Ent) (k : Nat) (s : ByteArray) : Bool := match ys[k + 1]? with
  | none => true
  | some d => !decide (d.1 = s)
theorem lastB_end {ys : List Ent} {k : Nat} (s : ByteArray) (h : k + 1 = ys.length) : lastB ys k s = true := by
  unfold lastB; rw [h, List.getElem?_eq_none (Nat.le_refl _)]
theorem lastB_same {ys : List Ent} {k : Nat} {s s2 : ByteArray} {c : Int} (h : Hid (ys[k + 1]? = some (s2, c))) (e : s2 = s) : lastB ys k s = false := by
  unfold lastB; rw [h.out]; simp [e]
theorem lastB_other {ys : List Ent} {k : Nat} {s s2 : ByteArray} {c : Int} (h : Hid (ys[k + 1]? = some (s2, c))) (e : s2 ≠ s) : lastB ys k s = true := by
  unfold lastB; rw [h.out]; simp [e]

theorem groups_go {ys : List Ent} {k : Nat} {s : ByteArray} {c : Int} (rs : List Run) (h : Hid (ys[k]? = some (s, c))) (hb : lastB ys k s = false) : groups (ys.drop k) rs = groups (ys.drop (k + 1)) (stepR rs c) := by
  unfold lastB at hb
  split at hb
  · cases hb
  · next d hd =>
    have hd' : d.1 = s := by simpa using hb
    rw [groups_next rs h.out hd, if_pos hd']
theorem groups_end {ys : List Ent} {k : Nat} {s : ByteArray} {c : Int} (rs : List Run) (h : Hid (ys[k]? = some (s, c))) (hb : lastB ys k s = true) : groups (ys.drop k) rs = (s, stepR rs c) :: groups (ys.drop (k + 1)) [] := by
  unfold lastB at hb
  split at hb
  · next hn =>
    have h1 := (List.getElem?_eq_some_iff.1 h.out).1
    have h2 := List.getElem?_eq_none_iff.1 hn
    rw [groups_last rs h.out (by omega)]
  · next d hd =>
    have hd' : ¬ d.1 = s := by simpa using hb
    rw [groups_next rs h.out hd, if_neg hd']
theorem step_ne (rs : List Run) (c : Int) : (stepR rs c).length ≠ 0 := by
  rcases List.eq_nil_or_concat rs with rfl | ⟨l, x, rfl⟩
  · simp [stepR_nil]
  · rw [List.concat_eq_append, stepR_snoc]
    by_cases h : c - 1 ≤ x.2
    · rw [if_pos h]; simp
    · rw [if_neg h]; simp
theorem own_to {a b : World} {B e size n : Nat} {v : Value} {xs : List Value} (k : Below a.heap.size a b) (h : a.ownsRow B e size v n xs) : b.ownsRow B e size v n xs :=
  h.kept (row := none) ⟨k.os, k.tape, k.output, k.size, fun i hi _ => k.block i hi⟩ (by cases h : v.ownBlock <;> simp)
theorem own_cap {w : World} {B e size n c g : Nat} {xs : List Value} (h : w.ownsRow B e size (.slice (some ⟨g, 0, none⟩) n c) n xs) : n ≤ c := by
  rcases h.2 with ⟨h, _⟩ | ⟨g', cap, cur, hv, _, _, hn, _⟩
  · cases h
  · cases hv; exact hn
theorem own_cut {w : World} {B e size n c g : Nat} {xs : List Value} (h : w.ownsRow B e size (.slice (some ⟨g, 0, none⟩) n c) n xs) : w.ownsRow B e size (.slice (some ⟨g, 0, none⟩) 0 c) 0 [] := by
  rcases h.2 with ⟨h, _⟩ | ⟨g', cap, cur, hv, h1, h2, hn, h3, h4, h5⟩
  · cases h
  · cases hv
    exact ⟨by simp, .inr ⟨g, c, cur, rfl, h1, h2, Nat.zero_le _, h3, h4, by simp⟩⟩

def CtxRet (w : World) (zs : List Ent) (e : Ending) (w' : World) : Prop :=
  ∃ ys p T, e = .returned (.agg #[.pointer p, .string ⟨#[]⟩, .int .u64 0, .int .u64 0]) ∧ ys.Perm zs ∧ SortedD ys ∧ XTree w' p T ∧ Trees w' T.list (groups ys []) ∧ Below w.heap.size w w'

theorem own_shape {w : World} {B e size n : Nat} {v : Value} {xs : List Value} (h : w.ownsRow B e size v n xs) : ∃ ao cap, v = .slice ao n cap ∧ (n ≠ 0 → ∃ g, ao = some ⟨g, 0, none⟩) := by
  rcases h.2 with ⟨rfl, rfl⟩ | ⟨g, cap, cur, rfl, _⟩
  · exact ⟨none, 0, rfl, fun h => absurd rfl h⟩
  · exact ⟨_, cap, rfl, fun _ => ⟨g, rfl⟩⟩

/-- treeOf's own nodes lie in the block that it made. -/
def TreeRet2 (w : World) (xs : List Run) (e : Ending) (w' : World) : Prop := ∃ p T hi, e = .returned (.pointer p) ∧ RTreeIn w' w.heap.size 0 hi p T ∧ T.list = xs ∧ Below w.heap.size w w' ∧ w.heap.size < w'.heap.size

set_option maxHeartbeats 1000000 in
set_option maxRecDepth 100000 in
theorem treeOfR2 (ae : Option Addr) (E eo ec m : Nat) (xs : List Run) (w : World) (hx : xs.length = m) (hm : m ≤ 1048577) (hae : m ≠ 0 → ae = some ⟨E, eo, none⟩ ∧ m ≤ ec ∧ E < w.heap.size) (hr : RunsAt w E eo xs) :
    Calls Try.prog 47 #[.slice ae m ec] w (TreeRet2 w xs) := by
  have Hr := hidd hr
  have Hae := hidd hae
  have Hx := hidd hx
  obtain ⟨i0, hi0, hz0, hz1, hz2⟩ := info_parts Try.info136
  clear hr hae hx
  go_enter Try.func47, Try.ntmps47
  go_wp2_with (at_make; refine wpList_make_full _ rfl _ _ 124 rfl w.heap.size 136 i0 _ 5 Try.underlying124 hi0 hz0 hz1 _ _ _ _ m rfl rfl rfl rfl ?c1 ?c2 ?c3 ?_)
  case c1 => rw [hz2]; omega
  case c2 => unfold maxLen; omega
  case c3 => exact Nat.le_refl _
  intro w1 hown hgrow
  have hb : Below w.heap.size w w1 := (Below.refl _ _).grown hgrow (Nat.le_refl _) (fun k h => by cases h)
  have hB1 : w.heap.size < w1.heap.size := (hown.lt w.heap.size rfl).2
  have H := hidd (buildAt_any m hm (some ⟨w.heap.size, 0, none⟩) ae w.heap.size 0 m E eo ec xs w1 Hx.out (fun h0 => ⟨rfl, (Hae.out h0).1, Nat.le_refl _, (Hae.out h0).2.1, Nat.ne_of_lt (Hae.out h0).2.2⟩) (room_of_own hown)
    (fun i x hi => by
      have hlt : m ≠ 0 := by have := (List.getElem?_eq_some_iff.1 hi).1; have := Hx.out; omega
      have hE := (Hae.out hlt).2.2
      exact ⟨(hb.cell (p := ⟨E, eo + i * 2, none⟩) hE).trans (Hr.out i x hi).1, (hb.cell (p := ⟨E, eo + i * 2 + 1, none⟩) hE).trans (Hr.out i x hi).2⟩))
  clear hown hgrow hi0 hz0 hz1 hz2 Hr Hae
  go_wp2_with fail
  refine H.out.mono ?_
  rintro e w2 ⟨p, T, rfl, htr, hl, hu⟩
  have hfin : TreeRet2 w xs (.returned (.pointer p)) w2 := ⟨p, T, _, rfl, htr, hl, hb.trans (hu.below (Nat.le_refl _)), by rw [hu.size]; exact hB1⟩
  have Hfin := hidd hfin
  clear htr hl hu H hfin
  go_wp2
  go_ret
  exact Hfin.out


set_option maxHeartbeats 4000000 in
set_option maxRecDepth 100000 in
theorem contextOf_any (Bs : Nat) (ao : Option Addr) (cap0 : Nat) (zs : List Ent) (hzl : zs.length ≤ 4096) (hz : ∀ d ∈ zs, OkDot d) (w : World) (hBs : Bs < w.heap.size) (hb0 : ∀ a, ao = some a → a.block < w.heap.size)
    (hbox : w.cell? ⟨Bs, 0, none⟩ = some (.slice ao zs.length cap0)) (hE : EntsAt w ao zs) :
    Calls Try.prog 45 #[.func (.func 62) #[] #[.pointer (some ⟨Bs, 0, none⟩)]] w (CtxRet w zs) := by
  have hbw : Below w.heap.size w (w.alloc (.cells #[.pointer none, .string ⟨#[]⟩, .int .u64 0, .int .u64 0] 98)) := (Below.refl _ _).alloc (Nat.le_refl _) _
  have HR := hidd (World.alloc_heap_new w (.cells #[.pointer none, .string ⟨#[]⟩, .int .u64 0, .int .u64 0] 98))
  have hsz : w.heap.size + 1 = (w.alloc (.cells #[.pointer none, .string ⟨#[]⟩, .int .u64 0, .int .u64 0] 98)).heap.size := by simp
  have H := hidd (sortedFunc_any Bs ao cap0 zs (by omega) (w.alloc (.cells #[.pointer none, .string ⟨#[]⟩, .int .u64 0, .int .u64 0] 98)) (by simp; omega) (fun a ha => by have := hb0 a ha; simp; omega) ((hbw.cell (p := ⟨Bs, 0, none⟩) hBs).trans hbox) (hE.below hbw hb0))
  obtain ⟨i94, hi, hz0, hz1, hz2⟩ := info_parts Try.info94
  obtain ⟨i116, gi, gz0, gz1, gz2⟩ := info_parts Try.info116
  have Hz := hidd hz
  clear hbox hE hb0 hz
  go_enter Try.func45, Try.ntmps45
  go_wp2_with fail
  generalize w.alloc (.cells #[.pointer none, .string ⟨#[]⟩, .int .u64 0, .int .u64 0] 98) = w0 at *
  refine H.out.mono ?_
  rintro e w1 ⟨v, rfl, ⟨ys, a1, cap, rfl, hp, hsd, hE1, hbk⟩, hb1⟩
  have hyl : ys.length ≤ 4096 := by rw [hp.length_eq]; exact hzl
  have Hok : Hid (∀ d ∈ ys, OkDot d) := fun d hd => Hz.out d (hp.mem_iff.1 hd)
  have Hp := hidd hp
  have Hsd := hidd hsd
  have HE1 := hidd hE1
  clear H Hz hp hsd hE1 hbk
  go_wp2
  go_loopw [4, 5, 13] (fun en ru i wr => ∃ k : Nat, k ≤ ys.length ∧ i = .int .i64 k ∧ CtxLoop w1 wr ys k en ru) (fun _ _ i _ => ys.length - (intOf i).toNat)
  case atStart => exact ⟨0, Nat.zero_le _, rfl, ⟨[], [], [], rfl, World.ownsRow_nil _ _ _ _, World.ownsRow_nil _ _ _ _, treesB_nil _ _ _, Nat.le_refl _, Nat.le_refl _, Below.refl _ _⟩⟩
  case round =>
    obtain ⟨k, hk, rfl, hst⟩ := hrel
    obtain ⟨done, ps, rs, hg, hen, hru, htr, hpl, hrl, hbr⟩ := hst
    obtain ⟨ae, ce, rfl, hae⟩ := own_shape hen
    obtain ⟨ar, cr, rfl, har⟩ := own_shape hru
    have Hg := hidd hg
    have Hen := hidd hen
    have Hru := hidd hru
    have Htr := hidd htr
    have Hae := hidd hae
    have Har := hidd har
    clear hg hen hru htr hae har
    by_cases hlt : k < ys.length
    · obtain ⟨b, off, s, c, ha1, hkk, hc0', hc1'⟩ := HE1.out.at hlt
      subst ha1
      have hc0 := cell_to hbr hc0'
      have hc1 := cell_to hbr hc1'
      obtain ⟨hs, hcl, hcu⟩ := Hok.out (s, c) (List.mem_of_getElem? hkk.out)
      have hcb : (c == 0) = false := by simp; omega
      have hs' : s.toList.isEmpty = false := hs
      have hcl' : 1 ≤ c := hcl
      have hcu' : c ≤ 18446744073709551615 := hcu
      clear hc0' hc1' hs hcl hcu
      go_wp2_with (go_at_call 41; refine (isZero_any _ _).mono ?_; rintro e w' ⟨he, rfl⟩; rw [hs'] at he; subst he)
      have kb := below_self wr (.cells #[.string s, .int .u64 c] 79)
      have kb2 := below_to kb (below_self (wr.alloc (.cells #[.string s, .int .u64 c] 79)) (.cells #[.string s] 30)) kb.size
      have hd0 : ((wr.alloc (.cells #[.string s, .int .u64 c] 79)).alloc (.cells #[.string s] 30)).cell? ⟨wr.heap.size, 0, none⟩ = some (.string s) := keepA _ (by simp)
      have hd1 : ((wr.alloc (.cells #[.string s, .int .u64 c] 79)).alloc (.cells #[.string s] 30)).cell? ⟨wr.heap.size, 1, none⟩ = some (.int .u64 c) := keepA _ (by simp)
      have Hen2 := hidd ((Hen.out.alloc (.cells #[.string s, .int .u64 c] 79)).alloc (.cells #[.string s] 30))
      have Hru2 := hidd ((Hru.out.alloc (.cells #[.string s, .int .u64 c] 79)).alloc (.cells #[.string s] 30))
      have Htr2 := hidd (Htr.out.to kb2)
      have hbr2 := below_to hbr kb2 hbr.size
      have hDru : ∀ g, (Value.slice ar rs.length cr).ownBlock = some g → g < wr.heap.size := fun g h => (Hru.out.lt g h).2
      have hDen : ∀ g, (Value.slice ae ps.length ce).ownBlock = some g → g < wr.heap.size := fun g h => (Hen.out.lt g h).2
      have HDru := hidd hDru
      have HDen := hidd hDen
      generalize ((wr.alloc (.cells #[.string s, .int .u64 c] 79)).alloc (.cells #[.string s] 30)) = w2 at *
      generalize wr.heap.size = D at *
      clear kb kb2 hc0 hc1 Hen Hru Htr hbr hDru hDen
      go_cut [42] from 30 to 42 (fun b wx => b = .bool (extB rs c) ∧ ∃ q, wx = w2.drewN q)
      case first =>
        rcases List.eq_nil_or_concat rs with hrs | ⟨l, x, hrs⟩
        · subst hrs
          go_quiet (fail)
          go_wp2_with fail
          go_meet
          exact ⟨rfl, _, rfl⟩
        · rw [List.concat_eq_append] at hrs
          subst hrs
          obtain ⟨g, rfl⟩ := Har.out (by simp)
          have hcx : w2.cell? ⟨g, l.length * 2 + 1, none⟩ = some (.int .u64 x.2) := by
            rw [Hru2.out.cellAt (l.length * 2 + 1) (by simp; omega)]
            exact (flat2_at _ _ (l ++ [x]) l.length x (by simp)).2
          have k0 : (l ++ [x]).length = l.length + 1 := by simp
          have k2 : IntKind.u64.wrap (c - 1) = c - 1 := IntWalk.u64_in _ (by omega)
          rw [k0] at hrl
          have He := hidd (extB_snoc l x c)
          go_quiet (fail)
          go_wp2_with fail
          go_meet
          exact ⟨by rw [He.out], _, rfl⟩
      case rest =>
        obtain ⟨rfl, q, hwc⟩ := hcut
        have hd0c : wc.cell? ⟨D, 0, none⟩ = some (.string s) := by rw [hwc]; exact hd0
        have hd1c : wc.cell? ⟨D, 1, none⟩ = some (.int .u64 c) := by rw [hwc]; exact hd1
        have Henc : Hid (wc.ownsRow w1.heap.size 116 2 (.slice ae ps.length ce) ps.length (rowX ps)) := by rw [hwc]; exact Hen2.out
        have Hruc : Hid (wc.ownsRow w1.heap.size 94 2 (.slice ar rs.length cr) rs.length (rowR rs)) := by rw [hwc]; exact Hru2.out
        have Htrc : Hid (TreesB wc (Value.slice ae ps.length ce).ownBlock (Value.slice ar rs.length cr).ownBlock ps done) := by rw [hwc]; exact Htr2.out.same rfl
        have hbrc : Below w1.heap.size w1 wc := by rw [hwc]; exact ⟨hbr2.os, hbr2.tape, hbr2.output, hbr2.size, hbr2.block⟩
        clear hwc q hd0 hd1 Hen2 Hru2 Htr2 hbr2 w2
        go_upto_if 42 with fail
        go_cut [5] from 30 to 62 (fun ru wx => wx.ownsRow w1.heap.size 116 2 (.slice ae ps.length ce) ps.length (rowX ps) ∧ wx.ownsRow w1.heap.size 94 2 ru (stepR rs c).length (rowR (stepR rs c)) ∧ TreesB wx (Value.slice ae ps.length ce).ownBlock ru.ownBlock ps done ∧ wx.cell? ⟨D, 0, none⟩ = some (.string s) ∧ Below w1.heap.size w1 wx)
        case first =>
          have hbs := hbrc.size
          cases hx : extB rs c with
          | true =>
            obtain ⟨l, x, hrs, hstep⟩ := step_ext hx
            have Hstep := hidd hstep
            clear hx hstep
            subst hrs
            obtain ⟨g, rfl⟩ := Har.out (by simp)
            have hgD := HDru.out g rfl
            have hcx : wc.cell? ⟨g, l.length * 2 + 1, none⟩ = some (.int .u64 x.2) := by
              rw [Hruc.out.cellAt (l.length * 2 + 1) (by simp; omega)]
              exact (flat2_at _ _ (l ++ [x]) l.length x (by simp)).2
            have hfx := Hruc.out.frozenAt (l.length * 2 + 1)
            have k0 : (l ++ [x]).length = l.length + 1 := by simp
            rw [k0] at hrl
            have hne : D ≠ g := by omega
            go_wp2_with fail
            go_region
            go_wp2_with fail
            go_meet
            have hst := Hruc.out.stored (l.length * 2 + 1) (.int .u64 (max x.2 c))
            rw [rowR_store] at hst
            have hl1 : (l ++ [(x.1, max x.2 c)]).length = (l ++ [x]).length := by simp
            refine ⟨?_, ?_, ?_, ?_, ?_⟩
            · have h1 := Henc.out.kept hst.2 (own_ne Henc.out Hruc.out (by decide))
              exact h1
            · rw [Hstep.out, hl1]; exact hst.1
            · have h1 := Htrc.out.app2 hst.2 (.inl rfl)
              exact h1.same rfl
            · have h1 := hst.2.cell hd0c (by simp; omega)
              exact h1
            · exact ⟨hst.2.os.trans hbrc.os, hst.2.tape.trans hbrc.tape, hst.2.output.trans hbrc.output, Nat.le_trans hbrc.size hst.2.size, (hbrc.setCell (p := ⟨g, l.length * 2 + 1, none⟩) (Hruc.out.lt g rfl).1 _).block⟩
          | false =>
            have Hstep := hidd (step_new hx)
            clear hx
            have c1 : rs.length + 1 ≤ maxLen := by unfold maxLen; omega
            have c2 : (rs.length + 1) * 16 ≤ 140737488355328 := by omega
            have c3 : w1.heap.size ≤ (wc.alloc (.cells #[.int .u64 c, .int .u64 c] 94)).heap.size := by simp; omega
            go_wp2_with (at_builtin; refine wpList_append_lies _ rfl (.tmp 55) (.tmp 61) 105 rfl w1.heap.size 94 i94 _ 2 16 Try.underlying105 hi hz0 hz1 hz2 rfl (by decide) _ rs.length (rowR rs) rfl (Hruc.out.alloc _) ⟨wc.heap.size, 0, none⟩ 1 1 [.int .u64 c, .int .u64 c] rfl rfl (news2 rfl) (oneU c c) (by omega) c1 c2 c3 _ rfl ?_)
            intro g cap2 w3 hown3 hgrow3 hat3 hlt3
            go_wp2_with fail
            go_meet
            have hal := below_self wc (.cells #[.int .u64 c, .int .u64 c] 94)
            have hgD : ∀ g', (Value.slice ar rs.length cr).ownBlock = some g' → g' ≠ D := fun g' h => Nat.ne_of_lt (HDru.out g' h)
            refine ⟨?_, ?_, ?_, ?_, ?_⟩
            · exact (Henc.out.alloc _).kept hgrow3 (own_ne Henc.out Hruc.out (by decide))
            · rw [Hstep.out, rowR_append, List.length_append]; exact hown3
            · refine (Htrc.out.to hal).app2 hgrow3 ?_
              rcases hat3 with h | h
              · exact .inl h.symm
              · exact .inr ⟨g, by simp at h ⊢; omega, rfl⟩
            · exact hgrow3.cell (cell_to hal hd0c) (fun h => hgD D h.symm rfl)
            · exact (hbrc.alloc hbs _).grown hgrow3 (by simp; omega) (fun j h => (Hruc.out.lt j h).1)
        case rest =>
          obtain ⟨hen3, hru3, htr3, hd3, hbr3⟩ := hcut
          have Hen3 := hidd hen3
          have Hru3 := hidd hru3
          have Htr3 := hidd htr3
          clear hen3 hru3 htr3 Henc Hruc Htrc hd0c hd1c hbrc HDru
          go_upto_region 13 with fail
          go_cut [78] from 63 to 78 (fun b wx => b = .bool (lastB ys k s) ∧ ∃ q, wx = wc.drewN q)
          case first =>
            by_cases hend : k + 1 = ys.length
            · have hlb := hidd (lastB_end s hend)
              have e1 : ((k : Int) == (ys.length : Int) - 1) = true := by simp; omega
              clear hend
              go_quiet (fail)
              go_wp2_with fail
              go_meet
              exact ⟨by rw [hlb.out], _, rfl⟩
            · obtain ⟨b2, off2, s2, c2, ha2, hkk2, hc02', hc12'⟩ := HE1.out.at (k := k + 1) (by omega)
              cases ha2
              have hc02 := cell_to hbr3 hc02'
              have e1 : ((k : Int) == (ys.length : Int) - 1) = false := by simp; omega
              clear hc02' hc12'
              by_cases hss : s2 = s
              · have hlb := hidd (lastB_same hkk2 hss)
                have e2 : (s2.toList == s.toList) = true := by rw [beqB]; simpa using hss
                have e3 : (s2.toList != s.toList) = false := by rw [bne, e2]; rfl
                clear hss
                go_quiet (fail)
                go_wp2_with fail
                go_meet
                exact ⟨by rw [hlb.out], _, rfl⟩
              · have hlb := hidd (lastB_other hkk2 hss)
                have e2 : (s2.toList == s.toList) = false := by rw [beqB]; simpa using hss
                have e3 : (s2.toList != s.toList) = true := by rw [bne, e2]; rfl
                go_quiet (fail)
                go_wp2_with fail
                go_meet
                exact ⟨by rw [hlb.out], _, rfl⟩
          case rest =>
            obtain ⟨rfl, q, hwc⟩ := hcut
            have hd4 : wc.cell? ⟨D, 0, none⟩ = some (.string s) := by rw [hwc]; exact hd3
            have Hen4 : Hid (wc.ownsRow w1.heap.size 116 2 (.slice ae ps.length ce) ps.length (rowX ps)) := by rw [hwc]; exact Hen3.out
            have Hru4 : Hid (wc.ownsRow w1.heap.size 94 2 u5 (stepR rs c).length (rowR (stepR rs c))) := by rw [hwc]; exact Hru3.out
            have Htr4 : Hid (TreesB wc (Value.slice ae ps.length ce).ownBlock u5.ownBlock ps done) := by rw [hwc]; exact Htr3.out.same rfl
            have hbr4 : Below w1.heap.size w1 wc := by rw [hwc]; exact ⟨hbr3.os, hbr3.tape, hbr3.output, hbr3.size, hbr3.block⟩
            have hsl := step_len rs c
            clear hwc q hd3 Hen3 Hru3 Htr3 hbr3
            cases hb : lastB ys k s with
            | false =>
              have Hgs := hidd (groups_go rs hkk hb)
              clear hb
              go_wp2_with fail
              go_roundw
              case rel => exact ⟨k + 1, by omega, by go_num, done, ps, stepR rs c, by rw [Hg.out, Hgs.out], Hen4.out, Hru4.out, Htr4.out, by omega, by omega, hbr4⟩
              case measure => simp [intOf]; omega
            | true =>
              have Hgs := hidd (groups_end rs hkk hb)
              clear hb
              have hn0 : (stepR rs c).length ≠ 0 := step_ne rs c
              obtain ⟨ar2, c2, rfl, har2⟩ := own_shape Hru4.out
              obtain ⟨g, rfl⟩ := har2 hn0
              have hgl := (Hru4.out.lt g rfl).2
              have hcap := own_cap Hru4.out
              have HRA := hidd (runsAt_own rfl Hru4.out)
              have hDl : D < wc.heap.size := World.block_lt_of_cell? wc _ hd4
              have hbs := hbr4.size
              clear har2
              obtain ⟨rs2, hrs2⟩ : ∃ r, Hid (stepR rs c = r) := ⟨_, hidd rfl⟩
              rw [hrs2.out] at hsl hn0 hcap HRA Hru4 Htr4 Hgs ⊢
              have c1 : ps.length + 1 ≤ maxLen := by unfold maxLen; omega
              have c2' : (ps.length + 1) * 24 ≤ 140737488355328 := by omega
              have HT := hidd (treeOfR2 (some ⟨g, 0, none⟩) g 0 c2 rs2.length rs2 wc.drew rfl (by omega) (fun _ => ⟨rfl, hcap, hgl⟩) HRA.out)
              go_wp2_with fail
              go_region_held3 (fun w' => w'.cell? ⟨D, 0, none⟩ = some (.string s)) (first | assumption | exact keepA _ (by assumption) | go_keep) (first | (go_at_call 47; refine HT.out.mono ?_; rintro e w4 ⟨p, T, hi2, rfl, hin, hTl, hb4, hlt4⟩; have q6 : w4.cell? ⟨D, 0, none⟩ = some (.string s) := (hb4.cell (p := ⟨D, 0, none⟩) hDl).trans hd4; have q7 : Below wc.heap.size wc w4 := ⟨hb4.os, hb4.tape, hb4.output, hb4.size, hb4.block⟩; have Hin : Hid (RTreeIn w4 wc.heap.size 0 hi2 p T) := hin; have HTl := hidd hTl; have hlt4' : wc.heap.size < w4.heap.size := hlt4; have Hen5 := hidd (own_to q7 Hen4.out); clear hin hTl) | (refine step_append_lies _ (by rfl) _ _ 120 (by rfl) w1.heap.size 116 i116 _ 2 24 Try.underlying120 gi gz0 gz1 gz2 rfl (by decide) _ ps.length (rowX ps) rfl (Hen5.out.alloc _) ⟨w4.heap.size, 0, none⟩ 1 1 [.string s, .pointer p] rfl rfl (news2 rfl) (oneS s _) (by omega) c1 c2' (by simp; omega) _ rfl ?_; intro g2 cap2 w5 hown5 hgrow5 hat5 hlt5; have q9 : w5.cell? ⟨D, 0, none⟩ = some (.string s) := hgrow5.cell (keepA _ q6) (fun h => Nat.ne_of_lt (HDen.out D h.symm) rfl); have Hown5 := hidd hown5; have Hgrow5 := hidd hgrow5; have Hat5 := hidd hat5; clear hown5 hgrow5 hat5))
              rename_i hheld
              have ka := below_self w4 (.cells #[.string s, .pointer p] 116)
              have HtrA := (Htr4.out.to q7).to ka
              have hH : w4.heap.size ≤ (w4.alloc (.cells #[.string s, .pointer p] 116)).heap.size := ka.size
              have hg2 : (Value.slice (some ⟨g2, 0, none⟩) (ps.length + 1) cap2).ownBlock = (Value.slice ae ps.length ce).ownBlock ∨ ∃ H, (w4.alloc (.cells #[.string s, .pointer p] 116)).heap.size ≤ H ∧ (Value.slice (some ⟨g2, 0, none⟩) (ps.length + 1) cap2).ownBlock = some H := by
                rcases Hat5.out with h | h
                · exact .inl h.symm
                · exact .inr ⟨g2, by rw [h]; exact Nat.le_refl _, rfl⟩
              have Htr5 := HtrA.app1 Hgrow5.out hg2
              have hne5 : some wc.heap.size ≠ (Value.slice ae ps.length ce).ownBlock := fun h => by have := (Hen4.out.lt _ h.symm).2; omega
              have hin5 : RTreeIn w5 wc.heap.size 0 hi2 p T := Hin.out.same (fun j _ _ => World.cell?_of_block ((Hgrow5.out.block wc.heap.size (by omega) hne5).trans (ka.block _ hlt4')))
              have hs5 := Hgrow5.out.size
              have Htr6 := hidd (Htr5.snoc (s := s) hin5 (by omega) (fun h => by
                rcases hg2 with h' | ⟨H, h', h2⟩
                · rw [h'] at h; exact hne5 h
                · rw [h2] at h; injection h; omega) (fun h => by simp [Value.ownBlock] at h; omega) HTl.out)
              have Hru5 := hidd (own_cut (((own_to q7 Hru4.out).alloc (.cells #[.string s, .pointer p] 116)).kept Hgrow5.out (own_ne Hru4.out Hen4.out (by decide))))
              have Hen6 : Hid (w5.ownsRow w1.heap.size 116 2 (.slice (some ⟨g2, 0, none⟩) (ps.length + 1) cap2) (ps ++ [(s, p)]).length (rowX (ps ++ [(s, p)]))) := by
                rw [rowX_append, List.length_append]; exact Hown5.out
              have hb5 : Below w1.heap.size w1 w5 := ((below_to hbr4 q7 hbs).alloc (by omega) _).grown Hgrow5.out (by omega) (fun j h => (Hen4.out.lt j h).1)
              clear HtrA Htr5 hheld hg2 hin5 hne5 Hin Hgrow5 Hown5 Hat5 Hen5 Htr4 Hru4 Hen4 ka HT HRA q6 q7 q9 hb4
              go_wp2_with fail
              go_roundw
              case rel => exact ⟨k + 1, by omega, by go_num, done ++ [(s, rs2)], ps ++ [(s, p)], [], by rw [Hg.out, Hgs.out, List.append_assoc]; rfl, Hen6.out, Hru5.out, Htr6.out, by simp; omega, Nat.zero_le _, hb5⟩
              case measure => simp [intOf]; omega
    · obtain rfl : k = ys.length := by omega
      have hgd : done = groups ys [] := by
        have := Hg.out
        rw [List.drop_length] at this
        simpa [groups] using this.symm
      subst hgd
      have hn : ps.length ≠ 0 → ∃ g, ae = some ⟨g, 0, none⟩ := Hae.out
      have hEX : ∃ E, (ps.length ≠ 0 → ae = some ⟨E, 0, none⟩ ∧ ps.length ≤ ce ∧ E < wr.heap.size) ∧ EntrsAt wr E 0 ps := by
        by_cases h0 : ps.length = 0
        · obtain rfl := List.eq_nil_of_length_eq_zero h0
          exact ⟨0, fun h => absurd rfl h, fun i x h => by simp at h⟩
        · obtain ⟨g, rfl⟩ := hn h0
          exact ⟨g, fun _ => ⟨rfl, own_cap Hen.out, (Hen.out.lt g rfl).2⟩, entrsAt_own rfl Hen.out⟩
      obtain ⟨E, hE1', hE2⟩ := hEX
      have H2 := hidd (treeOfX_any ae E 0 ce ps.length ps wr rfl (by omega) hE1' hE2)
      have Htr2 := hidd Htr.out.now
      have hbel : Below w0.heap.size w0 wr := hb1.trans (hbr.mono hb1.size)
      have hRlt : w.heap.size < w0.heap.size := by omega
      have hbs := hbel.size
      clear hi hz0 hz1 hz2 gi gz0 gz1 gz2 hE1' hE2 hn Hae Har Hen Hru Htr Hg
      go_wp2_with fail
      refine H2.out.mono ?_
      rintro e w6 ⟨p, T, rfl, hX, hTl, hb6⟩
      have hR6 : w6.heap[w.heap.size]? = _ := (hb6.block w.heap.size (by omega)).trans ((hbel.block w.heap.size hRlt).trans HR.out)
      have r0 : w6.cell? ⟨w.heap.size, 0, none⟩ = some (.pointer none) := by simp [World.cell?, hR6]
      have r1 : w6.cell? ⟨w.heap.size, 1, none⟩ = some (.string ⟨#[]⟩) := by simp [World.cell?, hR6]
      have r2 : w6.cell? ⟨w.heap.size, 2, none⟩ = some (.int .u64 0) := by simp [World.cell?, hR6]
      have r3 : w6.cell? ⟨w.heap.size, 3, none⟩ = some (.int .u64 0) := by simp [World.cell?, hR6]
      have s0 : w6.frozen? ⟨w.heap.size, 0, none⟩ = false := by simp [World.frozen?, hR6]
      have s1 : w6.frozen? ⟨w.heap.size, 1, none⟩ = false := by simp [World.frozen?, hR6]
      have s2 : w6.frozen? ⟨w.heap.size, 2, none⟩ = false := by simp [World.frozen?, hR6]
      have s3 : w6.frozen? ⟨w.heap.size, 3, none⟩ = false := by simp [World.frozen?, hR6]
      have Hnone : Hid (∀ j, 4 ≤ j → w6.cell? ⟨w.heap.size, j, none⟩ = none) := fun j hj => by simp [World.cell?, hR6, hj]
      have Htr6 := hidd (Htr2.out.to hb6)
      have HX := hidd hX
      have HTl := hidd hTl
      have hbw6 : Below w.heap.size w w6 := hbw.trans ((hbel.mono (by omega)).trans (hb6.mono (by omega)))
      clear hR6 H2 hX hTl Htr2
      go_wp2
      have hset : ∀ N j, N ≠ w.heap.size → ((((w6.setCell ⟨w.heap.size, 0, none⟩ (.pointer p)).setCell ⟨w.heap.size, 1, none⟩ (.string ⟨#[]⟩)).setCell ⟨w.heap.size, 2, none⟩ (.int .u64 0)).setCell ⟨w.heap.size, 3, none⟩ (.int .u64 0)).cell? ⟨N, j, none⟩ = w6.cell? ⟨N, j, none⟩ := fun N j hN => by
        refine World.cell?_of_block ?_
        rw [Below.heap_setCell _ _ _ _ hN, Below.heap_setCell _ _ _ _ hN, Below.heap_setCell _ _ _ _ hN, Below.heap_setCell _ _ _ _ hN]
      refine bodyPost_ret (v := .agg #[.pointer p, .string ⟨#[]⟩, .int .u64 0, .int .u64 0]) (by simp [results, Try.results45, go_sem, r0, r1, r2, r3]) rfl ?_
      exact ⟨ys, p, T, rfl, Hp.out, Hsd.out, HX.out.out Hnone.out hset, by rw [HTl.out]; exact Htr6.out.out Hnone.out hset,
          (((hbw6.setCell (p := ⟨w.heap.size, 0, none⟩) (Nat.le_refl _) _).setCell (p := ⟨w.heap.size, 1, none⟩) (Nat.le_refl _) _).setCell (p := ⟨w.heap.size, 2, none⟩) (Nat.le_refl _) _).setCell (p := ⟨w.heap.size, 3, none⟩) (Nat.le_refl _) _⟩

end Go.Proofs.Qxb6608633a
