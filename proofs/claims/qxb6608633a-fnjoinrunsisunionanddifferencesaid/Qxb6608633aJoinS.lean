/- joinRuns, run by run: the state. -/
import Derived.Test.Qxb6608633aAPut2
import Derived.Test.Qxb6608633aWalkM
import Derived.RangeFuncNested
import Derived.Maps.OwnIn
namespace Go.Proofs.Qxb6608633a
open Go.RowKit
open Go.Shelf

theorem box_to {a b : World} {B t : Nat} {v : Value} (k : Below a.heap.size a b) (h : Boxed a B t v) : Boxed b B t v := (k.block B h.lt).trans h
theorem box_lone {W : World} {B t : Nat} {v : Value} (h : Boxed W B t v) : ∀ j, 0 < j → W.cell? ⟨B, j, none⟩ = none := fun j hj => by
  have h' : W.heap[B]? = some (.cells #[v] t (0, 0)) := h
  simp [World.cell?, h']
  omega
/-- A change of one block that holds no node leaves the tree. -/
theorem RTreeA.but {g X : Nat} {a b : World} (k : ∀ N, N ≠ X → N < a.heap.size → b.heap[N]? = a.heap[N]?) (hX : ∀ j, 0 < j → a.cell? ⟨X, j, none⟩ = none) : ∀ {T : BT Run} {p : Option Addr}, RTreeA g a p T → RTreeA g b p T
  | .nil, _, h => h
  | .node _ _ _, _, ⟨N, off, pl, pr, e, hN, c1, c2, c3, c4, c5, hl, hr⟩ => by
    have hlt : N < a.heap.size := World.block_lt_of_cell? a _ c1
    have hne : N ≠ X := fun e => by
      subst e
      have := hX (off + 4) (by omega)
      rw [this] at c5; cases c5
    have hc : ∀ j, b.cell? ⟨N, j, none⟩ = a.cell? ⟨N, j, none⟩ := fun j => World.cell?_of_block (k N hne hlt)
    exact ⟨N, off, pl, pr, e, hN, (hc _).trans c1, (hc _).trans c2, (hc _).trans c3, (hc _).trans c4, (hc _).trans c5, hl.but k hX, hr.but k hX⟩
/-- A change of block g alone; the tree avoids any block that is new. -/
theorem RTreeA.fresh {g g' : Nat} {a b : World} (hg' : a.heap.size ≤ g') (k : ∀ N, N ≠ g → N < a.heap.size → b.heap[N]? = a.heap[N]?) : ∀ {T : BT Run} {p : Option Addr}, RTreeA g a p T → RTreeA g' b p T
  | .nil, _, h => h
  | .node _ _ _, _, ⟨N, off, pl, pr, e, hN, c1, c2, c3, c4, c5, hl, hr⟩ => by
    have hlt : N < a.heap.size := World.block_lt_of_cell? a _ c1
    have hc : ∀ j, b.cell? ⟨N, j, none⟩ = a.cell? ⟨N, j, none⟩ := fun j => World.cell?_of_block (k N hN hlt)
    exact ⟨N, off, pl, pr, e, by omega, (hc _).trans c1, (hc _).trans c2, (hc _).trans c3, (hc _).trans c4, (hc _).trans c5, hl.fresh hg' k, hr.fresh hg' k⟩

/-- Putting a run in: the one form is kept, nothing else comes in, and what is new of it is not nothing. -/
theorem put_form {Mc A B C : List Run} {r : Run} (hfm : Form Mc) (hr : 1 ≤ r.1 ∧ r.1 ≤ r.2) (hABC : A ++ (B ++ C) = Mc) (hA : ∀ x ∈ A, P96 r x = true) (hB : ∀ x ∈ B, P96 r x = false ∧ P97 r x = true) (hC : ∀ x ∈ C, P96 r x = false ∧ P97 r x = false) (hh : ¬ holdsR Mc r) :
    Form (A ++ joinR r B :: C) ∧ (∀ x, cov (A ++ joinR r B :: C) x → cov Mc x ∨ (r.1 ≤ x ∧ x ≤ r.2)) ∧ sub [r] B ≠ [] := by
  have hmem := hfm
  rw [← hABC] at hfm
  obtain ⟨fA, fBC, gA⟩ := form_append.1 hfm
  obtain ⟨fB, fC, gB⟩ := form_append.1 fBC
  have hBt : ∀ t ∈ B, ¬ t.2 < r.1 - 1 ∧ ¬ r.2 < t.1 - 1 := fun t ht => ⟨p96_not.1 (hB t ht).1, (p97_iff (hB t ht).1).1 (hB t ht).2⟩
  have hAt : ∀ t ∈ A, t.2 < r.1 - 1 := fun t ht => p96_iff.1 (hA t ht)
  have hCt : ∀ t ∈ C, r.2 < t.1 - 1 := fun t ht => (p97_not (hC t ht).1).1 (hC t ht).2
  obtain ⟨j1, j2, j3, j4⟩ := joinR_spec hr fB hBt
  have hcB : ∀ x, r.1 ≤ x ∧ x ≤ r.2 → cov B x → cov Mc x := fun x _ h => by
    rw [← hABC, cov_append, cov_append]; exact .inr (.inl h)
  refine ⟨?_, fun x => ?_, fun hnil => ?_⟩
  · rw [form_append]
    refine ⟨fA, form_cons.2 ⟨j1, fun c hc => j4 c.1 (by have := hCt c hc; omega) (fun t ht => gB t ht c hc), fC⟩, fun a ha y hy => ?_⟩
    rcases List.mem_cons.1 hy with rfl | hy
    · exact j3 a.2 (by have := hAt a ha; omega) (fun t ht => gA a ha t (List.mem_append_left _ ht))
    · exact gA a ha y (List.mem_append_right _ hy)
  · rw [cov_append, cov_cons, j2, ← hABC, cov_append, cov_append]
    rintro (a | (a | a) | a)
    · exact .inl (.inl a)
    · exact .inr a
    · exact .inl (.inr (.inl a))
    · exact .inl (.inr (.inr a))
  · have fr : Form [r] := ⟨by simpa using hr, by simp⟩
    obtain ⟨_, s2, _⟩ := sub_spec [r] B fr fB
    have hall : ∀ x, r.1 ≤ x ∧ x ≤ r.2 → cov Mc x := fun x hx => by
      have h1 := s2 x
      rw [hnil, cov_one] at h1
      by_cases hc : cov B x
      · exact hcB x hx hc
      · exact absurd (h1.2 ⟨hx, hc⟩) (cov_nil' x)
    obtain ⟨t, ht, t1, t2⟩ := hall r.1 ⟨Int.le_refl _, hr.2⟩
    by_cases hle : r.2 ≤ t.2
    · exact hh ⟨t, ht, t1, hle⟩
    · obtain ⟨u, hu, u1, u2⟩ := hall (t.2 + 1) ⟨by omega, by omega⟩
      obtain ⟨i, hi⟩ := List.mem_iff_getElem?.1 ht
      obtain ⟨j, hj⟩ := List.mem_iff_getElem?.1 hu
      obtain ⟨l1, e1⟩ := List.getElem?_eq_some_iff.1 hi
      obtain ⟨l2, e2⟩ := List.getElem?_eq_some_iff.1 hj
      have ht1 := hmem.1 t ht
      rcases Nat.lt_trichotomy i j with hij | hij | hij
      · have := List.pairwise_iff_getElem.1 hmem.2 i j l1 l2 hij
        rw [e1, e2] at this; omega
      · subst hij; rw [hi] at hj; cases hj; omega
      · have := List.pairwise_iff_getElem.1 hmem.2 j i l2 l1 hij
        rw [e1, e2] at this; omega

/-- The plain state of the way run by run, when the runs pre have come. -/
structure PlSt (zs M0 pre Mc pieces : List Run) (whole : Bool) (pm pm' : Option Addr) : Prop where
  fm : Form Mc
  um : ∀ x ∈ Mc, InU x
  len : pieces.length + Mc.length ≤ M0.length + 2 * pre.length
  ws : pre <+: zs → WaySt M0 pre Mc pieces whole ∧ (pieces = [] → pm' = pm)

theorem form_prefix {pre zs : List Run} (h : Form zs) (hp : pre <+: zs) : Form pre := by
  obtain ⟨t, rfl⟩ := hp
  exact (form_append.1 h).1

theorem pl_zero {zs M0 : List Run} {pm : Option Addr} (h : Form M0) (hu : ∀ x ∈ M0, InU x) : PlSt zs M0 [] M0 [] true pm pm :=
  ⟨h, hu, by simp, fun _ => ⟨way_zero h, fun _ => rfl⟩⟩
theorem pl_held {zs M0 pre Mc pieces : List Run} {whole : Bool} {pm pm' : Option Addr} {x : Run} (h : PlSt zs M0 pre Mc pieces whole pm pm') (hz : Form zs) (hh : holdsR Mc (pick zs x)) : PlSt zs M0 (pre ++ [x]) Mc pieces false pm pm' := by
  refine ⟨h.fm, h.um, ?_, fun hp => ?_⟩
  · have := h.len
    simp only [List.length_append, List.length_cons, List.length_nil]; omega
  · have hx : x ∈ zs := hp.subset (by simp)
    rw [pick_of hx] at hh
    have hpre : pre <+: zs := (List.prefix_append _ _).trans hp
    exact ⟨way_held (h.ws hpre).1 (form_prefix hz hp) hh, (h.ws hpre).2⟩
theorem pl_new {zs M0 pre Mc pieces : List Run} {whole : Bool} {pm pm' pj : Option Addr} {x : Run} {A B C : List Run} (h : PlSt zs M0 pre Mc pieces whole pm pm') (hz : Form zs) (hne : zs ≠ []) (hu : InU (pick zs x)) (hh : ¬ holdsR Mc (pick zs x))
    (hABC : A ++ (B ++ C) = Mc) (hA : ∀ y ∈ A, P96 (pick zs x) y = true) (hB : ∀ y ∈ B, P96 (pick zs x) y = false ∧ P97 (pick zs x) y = true) (hC : ∀ y ∈ C, P96 (pick zs x) y = false ∧ P97 (pick zs x) y = false) (w' : Bool) (hw : w' = true → whole = true ∧ sub [pick zs x] B = [pick zs x]) :
    PlSt zs M0 (pre ++ [x]) (A ++ joinR (pick zs x) B :: C) (pieces ++ sub [pick zs x] B) w' pm pj ∧ sub [pick zs x] B ≠ [] := by
  obtain ⟨f1, f2, f3⟩ := put_form h.fm (hz.1 _ (pick_mem hne x)) hABC hA hB hC hh
  refine ⟨⟨f1, inU_of f1 fun y hy => ?_, ?_, fun hp => ?_⟩, f3⟩
  · rcases f2 y hy with hy | hy
    · exact small_of h.um y hy
    · have := hu.2.2.2; omega
  · have h1 := h.len
    have h2 := sub_len [pick zs x] B
    rw [← hABC] at h1
    simp only [List.length_append, List.length_cons, List.length_nil] at h1 h2 ⊢; omega
  · have hx : x ∈ zs := hp.subset (by simp)
    rw [pick_of hx] at hh hA hB hC hw ⊢
    rw [pick_of hx] at f3
    have hpre : pre <+: zs := (List.prefix_append _ _).trans hp
    refine ⟨(way_new (h.ws hpre).1 (form_prefix hz hp) hh hABC hA hB hC w' hw).1, fun e => ?_⟩
    exact absurd (List.append_eq_nil_iff.1 e).2 f3

/-- The state in memory. -/
structure St48 (n0 : Nat) (w : World) (Bm Bp Bw : Nat) (pm' : Option Addr) (Mc : BT Run) (pieces : List Run) (whole : Bool) (vp : Value) (gs : Nat) (W : World) : Prop where
  bm : Boxed W Bm 65 (.pointer pm')
  bp : Boxed W Bp 105 vp
  bw : Boxed W Bw 4 (.bool whole)
  row : W.ownsRow n0 94 2 vp pieces.length (rowR pieces)
  ob : ∀ g, vp.ownBlock = some g → g = gs
  gl : gs < W.heap.size
  tr : RTreeA gs W pm' Mc
  be : Below n0 w W
  
theorem St48.to {n0 : Nat} {w : World} {Bm Bp Bw : Nat} {pm' : Option Addr} {Mc : BT Run} {pieces : List Run} {whole : Bool} {vp : Value} {gs : Nat} {W W' : World} (h : St48 n0 w Bm Bp Bw pm' Mc pieces whole vp gs W) (hn : n0 ≤ W.heap.size) (k : Below W.heap.size W W') : St48 n0 w Bm Bp Bw pm' Mc pieces whole vp gs W' :=
  ⟨box_to k h.bm, box_to k h.bp, box_to k h.bw, own_to k h.row, h.ob, lt_to h.gl k, h.tr.to k, below_to h.be k hn⟩
theorem St48.ne {n0 : Nat} {w : World} {Bm Bp Bw : Nat} {pm' : Option Addr} {Mc : BT Run} {pieces : List Run} {whole : Bool} {vp : Value} {gs : Nat} {W : World} (h : St48 n0 w Bm Bp Bw pm' Mc pieces whole vp gs W) : Bm ≠ Bp ∧ Bm ≠ Bw ∧ Bp ≠ Bw := by
  have h1 : W.heap[Bm]? = _ := h.bm
  have h2 : W.heap[Bp]? = _ := h.bp
  have h3 : W.heap[Bw]? = _ := h.bw
  refine ⟨fun e => ?_, fun e => ?_, fun e => ?_⟩
  · rw [e, h2] at h1; simp at h1
  · rw [e, h3] at h1; simp at h1
  · rw [e, h3] at h2; simp at h2
theorem keeps_below {n0 : Nat} {W W' : World} (k : Below W.heap.size W W') : KeepsFrom n0 W W' :=
  (⟨k.size, fun i _ h _ => (k.block i (Array.getElem?_eq_some_iff.1 h).1).trans h⟩ : KeepsOthers W W').from _
theorem own_off {W : World} {B X e size n : Nat} {v u : Value} {xs : List Value} (h : W.ownsRow B e size v n xs) (hX : some X ≠ v.ownBlock) : (W.setCell ⟨X, 0, none⟩ u).ownsRow B e size v n xs := by
  refine h.kept (grownBy_setCell' W X u) ?_
  cases hv : v.ownBlock with
  | none => simp
  | some g => exact .inr (fun e => hX (by rw [hv, e]))
theorem set_off {W : World} {X : Nat} (u : Value) : ∀ N, N ≠ X → N < W.heap.size → (W.setCell ⟨X, 0, none⟩ u).heap[N]? = W.heap[N]? := fun N h1 h2 => (grownBy_setCell' W X u).block N h2 (fun e => h1 (by cases e; rfl))
theorem below_set {n0 X : Nat} {W : World} (h : n0 ≤ X) (u : Value) : Below n0 W (W.setCell ⟨X, 0, none⟩ u) := by
  have k := grownBy_setCell' W X u
  refine ⟨k.os, k.tape, k.output, k.size, fun i hi => ?_⟩
  by_cases hi' : i < W.heap.size
  · exact k.block i hi' (fun e => by cases e; omega)
  · have h1 : W.heap[i]? = none := Array.getElem?_eq_none (by omega)
    have h2 : (W.setCell ⟨X, 0, none⟩ u).heap[i]? = none := Array.getElem?_eq_none (by rw [World.size_setCell]; omega)
    rw [h1, h2]
theorem St48.setM {n0 : Nat} {w : World} {Bm Bp Bw : Nat} {pm' pj : Option Addr} {Mc J : BT Run} {pieces : List Run} {whole : Bool} {vp : Value} {gs : Nat} {W : World} (h : St48 n0 w Bm Bp Bw pm' Mc pieces whole vp gs W) (hB : n0 ≤ Bm) (hJ : RTreeA gs W pj J) :
    St48 n0 w Bm Bp Bw pj J pieces whole vp gs (W.setCell ⟨Bm, 0, none⟩ (.pointer pj)) :=
  ⟨h.bm.set _, h.bp.other h.ne.1.symm _, h.bw.other h.ne.2.1.symm _, own_off h.row (h.bm.not_row (by decide) h.row), h.ob, by rw [World.size_setCell]; exact h.gl, hJ.but (set_off _) (box_lone h.bm), h.be.trans (below_set hB _)⟩
theorem St48.setW {n0 : Nat} {w : World} {Bm Bp Bw : Nat} {pm' : Option Addr} {Mc : BT Run} {pieces : List Run} {whole : Bool} {vp : Value} {gs : Nat} {W : World} (h : St48 n0 w Bm Bp Bw pm' Mc pieces whole vp gs W) (hB : n0 ≤ Bw) (b : Bool) :
    St48 n0 w Bm Bp Bw pm' Mc pieces b vp gs (W.setCell ⟨Bw, 0, none⟩ (.bool b)) :=
  ⟨h.bm.other h.ne.2.1 _, h.bp.other h.ne.2.2 _, h.bw.set _, own_off h.row (h.bw.not_row (by decide) h.row), h.ob, by rw [World.size_setCell]; exact h.gl, h.tr.but (set_off _) (box_lone h.bw), h.be.trans (below_set hB _)⟩
/-- The append, and the store of the new slice. -/
theorem St48.app {n0 : Nat} {w : World} {Bm Bp Bw : Nat} {pm' : Option Addr} {Mc : BT Run} {pieces rest : List Run} {whole : Bool} {vp v' : Value} {gs : Nat} {W W1 : World} (h : St48 n0 w Bm Bp Bw pm' Mc pieces whole vp gs W) (hB : n0 ≤ Bp) (hn : n0 ≤ w.heap.size)
    (hown : W1.ownsRow n0 94 2 v' (pieces.length + rest.length) (rowR pieces ++ rowR rest)) (hg : W.grownBy W1 vp.ownBlock) (hat : v'.ownBlock = vp.ownBlock ∨ v'.ownBlock = some W.heap.size) :
    KeepsFrom n0 W (W1.setCell ⟨Bp, 0, none⟩ v') ∧ Below n0 W (W1.setCell ⟨Bp, 0, none⟩ v') ∧ ∃ gs', St48 n0 w Bm Bp Bw pm' Mc (pieces ++ rest) whole v' gs' (W1.setCell ⟨Bp, 0, none⟩ v') := by
  have hrow : ∀ g, vp.ownBlock = some g → n0 ≤ g ∧ g < W.heap.size := fun g hgv => h.row.lt g hgv
  have hsz := h.be.size
  have b1 : Below n0 W W1 := ⟨hg.os, hg.tape, hg.output, hg.size, fun k hk => hg.block k (by omega) (fun e => by have := hrow k e.symm; omega)⟩
  have bm1 := h.bm.kept hg (h.bm.not_row (by decide) h.row)
  have bw1 := h.bw.kept hg (h.bw.not_row (by decide) h.row)
  have bp1 := h.bp.kept hg (h.bp.not_row (by decide) h.row)
  have k1 : KeepsOthers W W1 := KeepsOthers.of_grownBy hg (fun j o hj ho => by
    rcases h.row.2 with ⟨hv, _⟩ | ⟨g, cap, cur, hv, _, hc, _⟩
    · rw [hv] at hj; cases hj
    · rw [hv] at hj; cases hj; rw [hc] at ho; cases ho; rfl)
  have off : ∀ N, N ≠ gs → N < W.heap.size → W1.heap[N]? = W.heap[N]? := fun N h1 h2 => hg.block N h2 (fun e => h1 (h.ob N e.symm))
  have hrow2 : (W1.setCell ⟨Bp, 0, none⟩ v').ownsRow n0 94 2 v' (pieces ++ rest).length (rowR (pieces ++ rest)) := by
    rw [List.length_append, rowR_append]
    exact own_off hown (bp1.not_row (by decide) hown)
  refine ⟨(k1.trans (KeepsOthers.setCell _ _ _)).from _, b1.trans (below_set hB _), ?_⟩
  rcases hat with hat | hat
  · exact ⟨gs, bm1.other h.ne.1 _, bp1.set _, bw1.other h.ne.2.2.symm _, hrow2, fun g e => h.ob g (by rw [← hat]; exact e), by rw [World.size_setCell]; have := hg.size; have := h.gl; omega, (h.tr.off off).but (set_off _) (box_lone bp1), h.be.trans (b1.trans (below_set hB _))⟩
  · exact ⟨W.heap.size, bm1.other h.ne.1 _, bp1.set _, bw1.other h.ne.2.2.symm _, hrow2, fun g e => by rw [hat] at e; cases e; rfl, by rw [World.size_setCell]; exact (hown.lt _ hat).2, (h.tr.fresh (Nat.le_refl _) off).but (set_off _) (box_lone bp1), h.be.trans (b1.trans (below_set hB _))⟩

/-- What the loop keeps: memory, and the plain state. -/
def Inv48 (n0 : Nat) (w : World) (Bm Bp Bw : Nat) (pm : Option Addr) (zs M0 pre : List Run) (W : World) : Prop :=
  ∃ pm' Mc pieces whole vp gs, St48 n0 w Bm Bp Bw pm' Mc pieces whole vp gs W ∧ PlSt zs M0 pre Mc.list pieces whole pm pm'

theorem RTreeA.apart {g X : Nat} {a b : World} (k : ∀ N, N ≠ X → N < a.heap.size → b.heap[N]? = a.heap[N]?) (hX : ∀ j, a.cell? ⟨X, j, none⟩ = none) {T : BT Run} {p : Option Addr} (h : RTreeA g a p T) : RTreeA g b p T := h.but k (fun j _ => hX j)
theorem inv_own {n0 : Nat} {w : World} {Bm Bp Bw : Nat} {pm : Option Addr} {zs M0 : List Run} {B : Nat} (hn : n0 ≤ w.heap.size) (hB : n0 ≤ B) : OwnFrom B (fun pre W => Inv48 n0 w Bm Bp Bw pm zs M0 pre W) := by
  rintro pre W W' row ⟨pm', Mc, pieces, whole, vp, gs, h, hp⟩ hg hr
  have hne : ∀ X, (∃ o, W.heap[X]? = some o ∧ o.isCells = true) → some X ≠ row := fun X ⟨o, ho, hc⟩ e => by
    obtain ⟨_, o', ho', hc'⟩ := hr X e.symm
    rw [ho] at ho'; cases ho'; rw [hc] at hc'; cases hc'
  refine ⟨pm', Mc, pieces, whole, vp, gs, ⟨h.bm.kept hg (hne _ ⟨_, h.bm, rfl⟩), h.bp.kept hg (hne _ ⟨_, h.bp, rfl⟩), h.bw.kept hg (hne _ ⟨_, h.bw, rfl⟩), ?_, h.ob, Nat.lt_of_lt_of_le h.gl hg.size, ?_, ownFrom_below (β := Unit) hn hB () W W' row h.be hg hr⟩, hp⟩
  · refine h.row.kept hg ?_
    rcases h.row.2 with ⟨hv, _⟩ | ⟨g, cap, cur, hv, _, hc, _⟩
    · rw [hv]; exact .inl rfl
    · refine .inr ?_
      rw [hv]; exact hne g ⟨_, hc, rfl⟩
  · cases row with
    | none => exact h.tr.off (g := gs) fun N _ hN => hg.block N hN (by simp)
    | some X =>
      refine h.tr.apart (X := X) (fun N h1 h2 => hg.block N h2 (fun e => h1 (by cases e; rfl))) (fun j => ?_)
      obtain ⟨_, o, ho, hc⟩ := hr X rfl
      cases o <;> simp_all [World.cell?, Obj.isCells]

end Go.Proofs.Qxb6608633a
