/- partition, avoiding a block. -/
import Derived.Test.Qxb6608633aASplit97
namespace Go.Proofs.Qxb6608633a
open Go.RowKit

/-- The tree parted in three. -/
def PartRetA (g : Nat) (w : World) (xs : List Run) (r : Run) (e : Ending) (w' : World) : Prop :=
  ∃ pa pb pc A B C, e = .returned (.tuple #[.pointer pa, .pointer pb, .pointer pc]) ∧ RTreeA g w' pa A ∧ RTreeA g w' pb B ∧ RTreeA g w' pc C ∧ A.list ++ (B.list ++ C.list) = xs ∧
    (∀ x ∈ A.list, P96 r x = true) ∧ (∀ x ∈ B.list, P96 r x = false ∧ P97 r x = true) ∧ (∀ x ∈ C.list, P96 r x = false ∧ P97 r x = false) ∧ Below w.heap.size w w'

set_option maxHeartbeats 2000000 in
set_option maxRecDepth 100000 in
theorem partA_any (g : Nat) (p : Option Addr) (T : BT Run) (r : Run) (Br : Nat) (w : World) (hg : g < w.heap.size) (hr : InU r) (hT : RTreeA g w p T) (hf : Form T.list) (hin : ∀ x ∈ T.list, InU x) (hlen : T.list.length ≤ 900000000)
    (h0 : w.cell? ⟨Br, 0, none⟩ = some (.int .u64 r.1)) (h1 : w.cell? ⟨Br, 1, none⟩ = some (.int .u64 r.2)) :
    Calls Try.prog 86 #[.pointer p, .func (.func 87) #[] #[.pointer (some ⟨Br, 0, none⟩)]] w (PartRetA g w T.list r) := by
  have kb := below_self w (.cells #[.func (.func 87) #[] #[.pointer (some ⟨Br, 0, none⟩)]] 155)
  have e0 : (w.alloc (.cells #[.func (.func 87) #[] #[.pointer (some ⟨Br, 0, none⟩)]] 155)).cell? ⟨w.heap.size, 0, none⟩ = some (.func (.func 87) #[] #[.pointer (some ⟨Br, 0, none⟩)]) := by simp
  have hclo : Clo (w.alloc (.cells #[.func (.func 87) #[] #[.pointer (some ⟨Br, 0, none⟩)]] 155)) w.heap.size Br r := ⟨e0, cell_to kb h0, cell_to kb h1⟩
  have C1 := hidd (splitA96 g r w.heap.size Br hr T p _ (lt_to hg kb) (hT.to kb) hclo hin hlen (mono96 hf))
  have Hclo := hidd hclo
  have Hf := hidd hf
  have Hin := hidd hin
  have hg0 := lt_to hg kb
  clear hT h0 h1 hclo e0 hf hin
  go_enter Try.func86, Try.ntmps86
  go_wp2_with fail
  generalize w.alloc (.cells #[.func (.func 87) #[] #[.pointer (some ⟨Br, 0, none⟩)]] 155) = w0 at *
  refine C1.out.mono ?_
  rintro e w1 ⟨pa, pb, A, B, rfl, hA, hB, hAB, hAt, hBf, hb1⟩
  have hlA : A.list.length + B.list.length = T.list.length := by rw [← hAB]; simp
  have C2 := hidd (splitA97 g r w.heap.size Br hr B pb w1 (lt_to hg0 hb1) hB (Hclo.out.to hb1) (fun x hx => Hin.out x (by rw [← hAB]; simp [hx])) (by omega) (mono97 (form_right (a := A.list) (by rw [hAB]; exact Hf.out)) hBf))
  have HA := hidd hA
  have HAB := hidd hAB
  have HAt := hidd hAt
  have HBf := hidd hBf
  clear hA hB hAB hAt hBf C1
  go_wp2_with fail
  refine C2.out.mono ?_
  rintro e w2 ⟨pc, pd, C, D, rfl, hC, hD, hCD, hCt, hDf, hb2⟩
  have hfin : PartRetA g w T.list r (.returned (.tuple #[.pointer pa, .pointer pc, .pointer pd])) w2 :=
    ⟨pa, pc, pd, A, C, D, rfl, HA.out.to hb2, hC, hD, by rw [hCD, HAB.out], HAt.out, fun x hx => ⟨HBf.out x (by rw [← hCD]; simp [hx]), hCt x hx⟩, fun x hx => ⟨HBf.out x (by rw [← hCD]; simp [hx]), hDf x hx⟩, kb.trans ((below_to hb1 hb2 hb1.size).mono kb.size)⟩
  have Hfin := hidd hfin
  clear hC hD hCD hCt hDf hfin C2
  go_wp2
  refine bodyPost_ret (by simp [results, Try.results86, go_sem]; rfl) rfl ?_
  exact Hfin.out

end Go.Proofs.Qxb6608633a
