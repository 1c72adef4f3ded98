/- slices.Values, slices.AppendSeq, slices.Collect over dots: the callers. -/
import Derived.Test.Qxb6608633aSeq
import Derived.Test.Qxb6608633aRaised
namespace Go.Proofs.Qxb6608633a
open Go.RowKit Go.Shelf
attribute [local go_sem] Oper.semAt_some

theorem Try.info79 : (Try.prog.info? 79).map (fun i => (i.zero, i.size, i.bytes)) = some (some (.agg #[.string ByteArray.empty, .int .u64 0]), 2, 24) := by kernel_rfl

set_option maxHeartbeats 1000000 in
theorem values_any (ao : Option Addr) (len cap : Nat) (w : World) :
    Calls Try.prog 46 #[.slice ao len cap] w fun e w' => e = .returned (.func (.func 62) #[] #[.pointer (some ⟨w.heap.size, 0, none⟩)]) ∧ w' = w.alloc (.cells #[.slice ao len cap] 74) := by
  go_enter Try.func46, Try.ntmps46
  go_wp2
  go_ret
  exact ⟨rfl, rfl⟩

theorem values_stops (F : Fence) (n : Nat) (h62 : F.fn 62) (hro : F.round = none) (hn : 1 ≤ n) (Bs n₀ : Nat) (ao : Option Addr) (cap : Nat) (zs : List Ent) (hlen : zs.length ≤ 1048577) (w : World) (hBs : Bs < w.heap.size) (hn₀ : n₀ ≤ w.heap.size)
    (hb : ∀ a, ao = some a → a.block < n₀) (hc : w.cell? ⟨Bs, 0, none⟩ = some (.slice ao zs.length cap)) (hE : EntsAt w ao zs) :
    SeqStopsK F n Try.prog 62 #[.pointer (some ⟨Bs, 0, none⟩)] (fun x : Ent => #[Value.agg #[.string x.1, .int .u64 x.2]]) (Below n₀) (fun ys => ys = zs) (fun pre => pre <+: zs) zs.length w := fun l J Jx W hW hJ _ hY h0 =>
  values1_in F n h62 hro hn l Bs n₀ ao cap zs hlen hb J Jx _ hJ hY W (Nat.le_trans hn₀ hW.size) ((hW.cell (p := ⟨Bs, 0, none⟩) hBs).trans hc) (hE.below (hW.mono hn₀) hb) h0

set_option maxRecDepth 100000 in
set_option maxHeartbeats 2000000 in
theorem appendSeq_in (F : Fence) (n : Nat) (h92 : F.fn 92) (gf : Nat) (lb : Array Value) (hgf : F.fn gf) (eg : ∀ args w, (callFunc gf args).run Try.prog w = .ok (.enter gf args) w) (hro : F.round = none) (hn : 3 ≤ n) (zs : List Ent) (hlen : zs.length ≤ 1048577) (w : World)
    (hseq : SeqStopsK F (n - 1) Try.prog gf lb (fun x : Ent => #[Value.agg #[.string x.1, .int .u64 x.2]]) (Below w.heap.size) (fun ys => ys = zs) (fun pre => pre <+: zs) zs.length w) :
    CallsIn F n Try.prog 92 #[.slice none 0 0, .func (.func gf) #[] lb] w fun e W' => ∃ v, e = .returned v ∧ W'.ownsRow w.heap.size 79 2 v zs.length (flat zs) ∧ Below w.heap.size w W' := by
  have h1 : 1 ≤ n := by omega
  obtain ⟨i0, hi, hz0, hz1, hz2⟩ := info_parts Try.info79
  refine callsIn_of_wp_marks Try.func92 rfl h92 ?_ hro
  simp only [Try.ntmps92, List.size_toArray, List.length_cons, List.length_nil, Nat.reduceAdd, Nat.reduceSub, Array.replicate_succ, Array.replicate_zero, List.push_toArray, List.append_toArray, List.nil_append, List.cons_append]
  gi_wp2
  have bO := Boxed.new w 74 (.slice none 0 0)
  have hB0 : Below w.heap.size w (w.alloc (.cells #[.slice none 0 0] 74)) := (Below.refl _ w).alloc (Nat.le_refl _) _
  have hsz : (w.alloc (.cells #[.slice none 0 0] 74)).heap.size = w.heap.size + 1 := by simp
  obtain ⟨W0, hW0⟩ : ∃ W0, w.alloc (.cells #[.slice none 0 0] 74) = W0 := ⟨_, rfl⟩
  rw [hW0] at bO hB0 hsz ⊢
  clear hW0
  refine wpIn_rangeFunc_ownH hro h1 (gf := gf) (lb := lb) rfl hgf eg
    hseq belowK_t (belowK_b (by omega)) hB0 (fun _ => rfl)
    (fun pre W => (∃ v, Boxed W w.heap.size 74 v ∧ W.ownsRow w.heap.size 79 2 v pre.length (flat pre) ∧ True) ∧ Below w.heap.size w W)
    (fun _ _ _ => False)
    (OwnFrom.and (Own.from (holdsRow_own w.heap.size w.heap.size 74 79 2 (fun pre => pre.length) (fun pre => flat pre) (fun _ _ => True)) _) (ownFrom_below (Nat.le_refl _) (by omega)))
    (fun _ _ _ _ _ hs _ _ => hs)
    ⟨⟨_, bO, World.ownsRow_nil _ _ _ _, trivial⟩, hB0⟩
    (fun x a' W => ∃ Bx, w.heap.size < Bx ∧ W.heap[Bx]? = some (.cells #[.string x.1, .int .u64 x.2] 79 (0, 0)) ∧ a' = { tmps := #[.slice none 0 0, .func (.func gf) #[] lb, .pointer (some ⟨w.heap.size, 0, none⟩), undef, .slice none 0 0, .pointer (some ⟨Bx, 0, none⟩), .func (.func gf) #[] lb, .agg #[.string x.1, .int .u64 x.2], undef, undef, undef, undef, undef], defers := [] })
    (fun x a' _ X Y row hs hg hr => by
      obtain ⟨Bx, q1, q2, q3⟩ := hs
      refine ⟨Bx, q1, (hg.block Bx (Array.getElem?_eq_some_iff.1 q2).1 (fun e' => ?_)).trans q2, q3⟩
      obtain ⟨_, o, ho, hcl⟩ := hr Bx e'.symm
      rw [q2] at ho; cases ho; cases hcl)
    ?assign ?body ?done ?stop
  case assign =>
    rintro l pre x W K ⟨⟨v, bO1, hrow, _⟩, hB1⟩ hK
    gi_wp2
    refine hK _ _ ((KeepsOthers.alloc _ _).from _) ((Below.refl _ W).alloc hB1.size _) ⟨⟨v, bO1.alloc _, hrow.alloc _, trivial⟩, hB1.alloc hB1.size _⟩ ⟨W.heap.size, bO1.lt, World.alloc_heap_new W _, rfl⟩
  case body =>
    rintro l pre x a' W hl ⟨r, hr⟩ ⟨⟨v, hv, hrow, _⟩, hB⟩ ⟨Bx, hBx, hX, rfl⟩ hlt
    have hc := hv.cell
    have hx0 : W.cell? ⟨Bx, 0, none⟩ = some (.string x.1) := by simp [World.cell?, hX]
    have hx1 : W.cell? ⟨Bx, 1, none⟩ = some (.int .u64 x.2) := by simp [World.cell?, hX]
    have c1 : pre.length + 1 ≤ maxLen := by unfold maxLen; omega
    have c2 : (pre.length + 1) * 24 ≤ 140737488355328 := by omega
    have c3 : w.heap.size ≤ (W.alloc (.cells #[.string x.1, .int .u64 x.2] 79)).heap.size := by have := hB.size; simp; omega
    have Hrow := hidd hrow
    have HX := hidd hX
    clear hrow hX hseq
    gi_wp2_with (gi_at_builtin; refine wpListIn_append_own _ rfl _ _ 74 rfl w.heap.size 79 i0 _ 2 24 Try.underlying74 hi hz0 hz1 hz2 rfl (by decide) _ _ _ rfl (Hrow.out.alloc _) ⟨W.heap.size, 0, none⟩ 1 1 [.string x.1, .int .u64 x.2] rfl rfl (news26 79) news_one c1 c2 c3 ?_; intro v' w1 hown' hgrow _; obtain ⟨g', cap', rfl⟩ := ownsRow_succ hown'; obtain ⟨hv1, hv2, hr2, hk2, hb2⟩ := hv.appended (by decide) Hrow.out hB.size (Nat.le_refl _) hown' hgrow; have hc1 := hv1.cell; have hf1 := hv1.frozen)
    exact ⟨hk2.from _, hb2, ⟨_, hv2, by rw [List.length_append, flat_append]; exact hr2, trivial⟩, hB.trans hb2⟩
  case done =>
    rintro D ys W hD rfl ⟨⟨v, hv, hrow, _⟩, hB⟩ hK
    have hc := hv.cell
    have Hrow := hidd hrow
    clear hrow hseq
    gi_wp2
    refine ⟨by simp, .inl ⟨_, _, rfl, run_takeDeferred hK, ?_⟩⟩
    exact ⟨_, results_tmp rfl _ _ _, v, rfl, ownsRow_putObj Hrow.out _ hK rfl, hB.trans (belowK_b (w := w) (Nat.le_refl _) W D _ _ (by omega) hK rfl rfl)⟩
  case stop =>
    rintro D c pre W _ _ h _
    exact h.elim

/-- A slice of the call's own that holds the dots zs; nothing that lay has turned. -/
def DotsRet (w : World) (zs : List Ent) (e : Ending) (w' : World) : Prop :=
  ∃ v, e = .returned v ∧ w'.ownsRow w.heap.size 79 2 v zs.length (flat zs) ∧ Below w.heap.size w w'

theorem appendSeq_any (Bs : Nat) (ao : Option Addr) (cap : Nat) (zs : List Ent) (hlen : zs.length ≤ 1048577) (w : World) (hBs : Bs < w.heap.size)
    (hb : ∀ a, ao = some a → a.block < w.heap.size) (hc : w.cell? ⟨Bs, 0, none⟩ = some (.slice ao zs.length cap)) (hE : EntsAt w ao zs) :
    Calls Try.prog 92 #[.slice none 0 0, .func (.func 62) #[] #[.pointer (some ⟨Bs, 0, none⟩)]] w (DotsRet w zs) :=
  callsIn_wide.1 (appendSeq_in Fence.wide 3 trivial 62 _ trivial (enters_of Try.func62 (by kernel_rfl) rfl) rfl (Nat.le_refl _) zs hlen w
    (values_stops Fence.wide 2 trivial rfl (by omega) Bs w.heap.size ao cap zs hlen w hBs (Nat.le_refl _) hb hc hE))

set_option maxHeartbeats 1000000 in
theorem collect_any (Bs : Nat) (ao : Option Addr) (cap : Nat) (zs : List Ent) (hlen : zs.length ≤ 1048577) (w : World) (hBs : Bs < w.heap.size)
    (hb : ∀ a, ao = some a → a.block < w.heap.size) (hc : w.cell? ⟨Bs, 0, none⟩ = some (.slice ao zs.length cap)) (hE : EntsAt w ao zs) :
    Calls Try.prog 75 #[.func (.func 62) #[] #[.pointer (some ⟨Bs, 0, none⟩)]] w (DotsRet w zs) := by
  have H := hidd (appendSeq_any Bs ao cap zs hlen w hBs hb hc hE)
  clear hBs hb hc hE hlen
  go_enter Try.func75, Try.ntmps75
  go_wp2_with fail
  refine H.out.mono ?_
  rintro e w1 ⟨v, rfl, hown, hbel⟩
  have Hown := hidd hown
  clear hown
  go_wp2
  go_ret
  exact ⟨v, rfl, Hown.out, hbel⟩

end Go.Proofs.Qxb6608633a
