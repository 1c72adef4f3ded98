/- slices.AppendSeq, slices.Collect over a tree of runs. -/
import Derived.Test.Qxb6608633aWalk83
import Derived.Test.Qxb6608633aCtxWalk
namespace Go.Proofs.Qxb6608633a
open Go.RowKit
open Go.Shelf
attribute [local go_sem] Oper.semAt_some

theorem newsR {W : World} {x : Run} : ∀ j u, [Value.int .u64 x.1, Value.int .u64 x.2][j]? = some u → (W.alloc (.cells #[.int .u64 x.1, .int .u64 x.2] 94)).cell? ((⟨W.heap.size, 0, none⟩ : Addr).add j) = some u := news2 rfl

set_option maxRecDepth 100000 in
set_option maxHeartbeats 2000000 in
theorem appendSeqR_in (F : Fence) (n : Nat) (h71 : F.fn 71) (gf : Nat) (lb : Array Value) (hgf : F.fn gf) (eg : ∀ args w, (callFunc gf args).run Try.prog w = .ok (.enter gf args) w) (hro : F.round = none) (hn : 3 ≤ n) (zs : List Run) (hlen : zs.length ≤ 1048577) (w : World)
    (B cap0 : Nat) (a0 : Option Addr) (hBw : B ≤ w.heap.size) (hown0 : w.ownsRow B 94 2 (.slice a0 0 cap0) 0 [])
    (hseq : SeqStopsK F (n - 1) Try.prog gf lb (fun x : Run => #[Value.agg #[.int .u64 x.1, .int .u64 x.2]]) (Below B) (fun ys => ys = zs) (fun pre => pre <+: zs) zs.length w) :
    CallsIn F n Try.prog 71 #[.slice a0 0 cap0, .func (.func gf) #[] lb] w fun e W' => ∃ v, e = .returned v ∧ W'.ownsRow B 94 2 v zs.length (rowR zs) ∧ Below B w W' := by
  have h1 : 1 ≤ n := by omega
  obtain ⟨i0, hi, hz0, hz1, hz2⟩ := info_parts Try.info94
  refine callsIn_of_wp_marks Try.func71 rfl h71 ?_ hro
  simp only [Try.ntmps71, List.size_toArray, List.length_cons, List.length_nil, Nat.reduceAdd, Nat.reduceSub, Array.replicate_succ, Array.replicate_zero, List.push_toArray, List.append_toArray, List.nil_append, List.cons_append]
  gi_wp2
  have bO := Boxed.new w 105 (.slice a0 0 cap0)
  have hB0 : Below w.heap.size w (w.alloc (.cells #[.slice a0 0 cap0] 105)) := (Below.refl _ w).alloc (Nat.le_refl _) _
  have hBB : Below B w (w.alloc (.cells #[.slice a0 0 cap0] 105)) := hB0.mono hBw
  have hr0 := hown0.alloc (.cells #[.slice a0 0 cap0] 105)
  have hsz : (w.alloc (.cells #[.slice a0 0 cap0] 105)).heap.size = w.heap.size + 1 := by simp
  obtain ⟨W0, hW0⟩ : ∃ W0, w.alloc (.cells #[.slice a0 0 cap0] 105) = W0 := ⟨_, rfl⟩
  rw [hW0] at bO hB0 hsz hBB hr0 ⊢
  clear hW0
  refine wpIn_rangeFunc_ownH hro h1 (gf := gf) (lb := lb) rfl hgf eg
    hseq belowK_t (belowK_b (by omega)) hB0 (fun _ => rfl)
    (fun pre W => (∃ v, Boxed W w.heap.size 105 v ∧ W.ownsRow B 94 2 v pre.length (rowR pre) ∧ True) ∧ Below B w W)
    (fun _ _ _ => False)
    (OwnFrom.and (Own.from (holdsRow_own B w.heap.size 105 94 2 (fun pre => pre.length) (fun pre => rowR pre) (fun _ _ => True)) _) (ownFrom_below hBw (by omega)))
    (fun _ _ _ _ _ hs _ _ => hs)
    ⟨⟨_, bO, hr0, trivial⟩, hBB⟩
    (fun x a' W => ∃ Bx, w.heap.size < Bx ∧ W.heap[Bx]? = some (.cells #[.int .u64 x.1, .int .u64 x.2] 94 (0, 0)) ∧ a' = { tmps := #[.slice a0 0 cap0, .func (.func gf) #[] lb, .pointer (some ⟨w.heap.size, 0, none⟩), undef, .slice none 0 0, .pointer (some ⟨Bx, 0, none⟩), .func (.func gf) #[] lb, .agg #[.int .u64 x.1, .int .u64 x.2], undef, undef, undef, undef, undef], defers := [] })
    (fun x a' _ X Y row hs hg hr => by
      obtain ⟨Bx, q1, q2, q3⟩ := hs
      refine ⟨Bx, q1, (hg.block Bx (Array.getElem?_eq_some_iff.1 q2).1 (fun e' => ?_)).trans q2, q3⟩
      obtain ⟨_, o, ho, hcl⟩ := hr Bx e'.symm
      rw [q2] at ho; cases ho; cases hcl)
    ?assign ?body ?done ?stop
  case assign =>
    rintro l pre x W K ⟨⟨v, bO1, hrow, _⟩, hB1⟩ hK
    gi_wp2
    refine hK _ _ ((KeepsOthers.alloc _ _).from _) ((Below.refl _ W).alloc (Nat.le_trans hBw hB1.size) _) ⟨⟨v, bO1.alloc _, hrow.alloc _, trivial⟩, hB1.alloc (Nat.le_trans hBw hB1.size) _⟩ ⟨W.heap.size, bO1.lt, World.alloc_heap_new W _, rfl⟩
  case body =>
    rintro l pre x a' W hl ⟨r, hr⟩ ⟨⟨v, hv, hrow, _⟩, hB⟩ ⟨Bx, hBx, hX, rfl⟩ hlt
    have hc := hv.cell
    have hx0 : W.cell? ⟨Bx, 0, none⟩ = some (.int .u64 x.1) := by simp [World.cell?, hX]
    have hx1 : W.cell? ⟨Bx, 1, none⟩ = some (.int .u64 x.2) := by simp [World.cell?, hX]
    have c1 : pre.length + 1 ≤ maxLen := by unfold maxLen; omega
    have c2 : (pre.length + 1) * 16 ≤ 140737488355328 := by omega
    have hWs : B ≤ W.heap.size := Nat.le_trans hBw hB.size
    have c3 : B ≤ (W.alloc (.cells #[.int .u64 x.1, .int .u64 x.2] 94)).heap.size := by simp; omega
    have Hrow := hidd hrow
    have HX := hidd hX
    clear hrow hX hseq
    gi_wp2_with (gi_at_builtin; refine wpListIn_append_own _ rfl _ _ 105 rfl B 94 i0 _ 2 16 Try.underlying105 hi hz0 hz1 hz2 rfl (by decide) _ _ _ rfl (Hrow.out.alloc _) ⟨W.heap.size, 0, none⟩ 1 1 [.int .u64 x.1, .int .u64 x.2] rfl rfl newsR (oneU _ _) c1 c2 c3 ?_; intro v' w1 hown' hgrow _; obtain ⟨g', cap', rfl⟩ := ownsRow_succ hown'; obtain ⟨hv1, hv2, hr2, hk2, hb2⟩ := hv.appended (by decide) Hrow.out hWs hBw hown' hgrow; have hc1 := hv1.cell; have hf1 := hv1.frozen)
    exact ⟨hk2.from _, hb2, ⟨_, hv2, by rw [List.length_append, rowR_append]; exact hr2, trivial⟩, hB.trans hb2⟩
  case done =>
    rintro D ys W hD rfl ⟨⟨v, hv, hrow, _⟩, hB⟩ hK
    have hc := hv.cell
    have Hrow := hidd hrow
    clear hrow hseq
    gi_wp2
    refine ⟨by simp, .inl ⟨_, _, rfl, run_takeDeferred hK, ?_⟩⟩
    exact ⟨_, results_tmp rfl _ _ _, v, rfl, ownsRow_putObj Hrow.out _ hK rfl, hB.trans (belowK_b (w := w) hBw W D _ _ (by omega) hK rfl rfl)⟩
  case stop =>
    rintro D c pre W _ _ h _
    exact h.elim

/-- A slice of the call's own, from B on, that holds the runs zs; nothing that lay below B has turned. -/
def RunsRet (B : Nat) (w : World) (zs : List Run) (e : Ending) (w' : World) : Prop := ∃ v, e = .returned v ∧ w'.ownsRow B 94 2 v zs.length (rowR zs) ∧ Below B w w'

theorem appendSeqR_any (Bt : Nat) (p0 : Option Addr) (T : BT Run) (hlen : T.list.length ≤ 1048577) (w : World) (B cap0 : Nat) (a0 : Option Addr) (hBw : B ≤ w.heap.size) (hown0 : w.ownsRow B 94 2 (.slice a0 0 cap0) 0 [])
    (hBt : w.cell? ⟨Bt, 0, none⟩ = some (.pointer p0)) (hT : RTreeN B w p0 T) :
    Calls Try.prog 71 #[.slice a0 0 cap0, .func (.func 82) #[] #[.pointer (some ⟨Bt, 0, none⟩)]] w (RunsRet B w T.list) :=
  callsIn_wide.1 (appendSeqR_in Fence.wide 3 trivial 82 _ trivial (enters_of Try.func82 (by kernel_rfl) rfl) rfl (Nat.le_refl _) T.list hlen w B cap0 a0 hBw hown0
    (all_stops Fence.wide rfl 2 trivial trivial rfl Bt B p0 T w (World.block_lt_of_cell? w _ hBt) hBw hBt hT))

set_option maxHeartbeats 1000000 in
theorem collectR_any (Bt : Nat) (p0 : Option Addr) (T : BT Run) (hlen : T.list.length ≤ 1048577) (w : World) (hBt : w.cell? ⟨Bt, 0, none⟩ = some (.pointer p0)) (hT : RTree w p0 T) :
    Calls Try.prog 65 #[.func (.func 82) #[] #[.pointer (some ⟨Bt, 0, none⟩)]] w (RunsRet w.heap.size w T.list) := by
  have H := hidd (appendSeqR_any Bt p0 T hlen w w.heap.size 0 none (Nat.le_refl _) (World.ownsRow_nil _ _ _ _) hBt hT.toN)
  clear hlen hBt hT
  go_enter Try.func65, Try.ntmps65
  go_wp2_with fail
  refine H.out.mono ?_
  rintro e w1 ⟨v, rfl, hown, hbel⟩
  have Hown := hidd hown
  clear hown
  go_wp2
  go_ret
  exact ⟨v, rfl, Hown.out, hbel⟩

end Go.Proofs.Qxb6608633a
