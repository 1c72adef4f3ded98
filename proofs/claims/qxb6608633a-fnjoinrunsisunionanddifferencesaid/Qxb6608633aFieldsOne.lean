/- ZZContextFields of a context of one entry with one run. -/
import Derived.Test.Qxb6608633aCtxOne
namespace Go.Proofs.Qxb6608633a
open Go.RowKit

theorem Try.info3 : (Try.prog.info? 3).map (fun i => (i.zero, i.size, i.bytes)) = some (some (.int .i64 0), 1, 8) := by kernel_rfl

theorem own_one {w : World} {B e : Nat} {v x : Value} (h : w.ownsRow B e 1 v 1 [x]) : ∃ g cap, v = .slice (some ⟨g, 0, none⟩) 1 cap ∧ w.cell? ⟨g, 0, none⟩ = some x := by
  have h' := h
  rcases h.2 with ⟨_, h0⟩ | ⟨g, cap, cur, rfl, hB, hg, hc, _⟩
  · cases h0
  · exact ⟨g, cap, rfl, by rw [h'.cellAt 0 (by omega)]; rfl⟩

theorem app_nil {X w' : World} {o : Obj} (hgrow : (X.alloc o).grownBy w' (Value.slice none 0 0).ownBlock) : Below X.heap.size X w' :=
  ((Below.refl _ X).alloc (Nat.le_refl _) _).grown hgrow (by simp) (fun k h => by simp [Value.ownBlock] at h)

theorem below_to {B : Nat} {a b c : World} (h : Below B a b) (k : Below b.heap.size b c) (hB : B ≤ b.heap.size) : Below B a c := h.trans (k.mono hB)
theorem cell_to {a b : World} {p : Addr} {v : Value} (k : Below a.heap.size a b) (h : a.cell? p = some v) : b.cell? p = some v := (k.cell (World.block_lt_of_cell? a p h)).trans h
theorem one_to {a b : World} {N t : Nat} {x y : Value} (k : Below a.heap.size a b) (h : OneAt a N t x y) : OneAt b N t x y := (k.block N (Array.getElem?_eq_some_iff.1 h).1).trans h
theorem below_self (w : World) (o : Obj) : Below w.heap.size w (w.alloc o) := (Below.refl _ _).alloc (Nat.le_refl _) _

/-- v is a slice of the one cell x. -/
def OneS (w : World) (v x : Value) : Prop := ∃ g cap, v = .slice (some ⟨g, 0, none⟩) 1 cap ∧ w.cell? ⟨g, 0, none⟩ = some x
theorem OneS.to {a b : World} {v x : Value} (k : Below a.heap.size a b) (h : OneS a v x) : OneS b v x := by
  obtain ⟨g, cap, h1, h2⟩ := h
  exact ⟨g, cap, h1, cell_to k h2⟩

def FieldsOneRet (w : World) (s : ByteArray) (c : Int) (e : Ending) (w' : World) : Prop :=
  ∃ a b l h, e = .returned (.tuple #[a, b, l, h, .string ⟨#[]⟩, .int .u64 0, .int .u64 0]) ∧ OneS w' a (.string s) ∧ OneS w' b (.int .i64 1) ∧ OneS w' l (.int .u64 c) ∧ OneS w' h (.int .u64 c) ∧ Below w.heap.size w w'

theorem news1 {A : World} {b t : Nat} {x : Value} (hb : b = A.heap.size) : ∀ j u, [x][j]? = some u → (A.alloc (.cells #[x] t)).cell? ((⟨b, 0, none⟩ : Addr).add j) = some u := by
  subst hb
  intro j u hj
  match j, hj with
  | 0, hj => simp at hj; subst hj; simp [Addr.add]

theorem oneV {x : Value} (h : x.oneCell' = true) : ∀ u ∈ [x], u.oneCell' = true := by intro u hu; simp at hu; subst hu; exact h

set_option maxHeartbeats 4000000 in
set_option maxRecDepth 100000 in
theorem fields_one (N M : Nat) (s : ByteArray) (c : Int) (w : World) (hN : OneAt w N 139 (.string s) (.pointer (some ⟨M, 0, none⟩))) (hM : OneAt w M 136 (.int .u64 c) (.int .u64 c)) :
    Calls Try.prog 44 #[.agg #[.pointer (some ⟨N, 0, none⟩), .string ⟨#[]⟩, .int .u64 0, .int .u64 0]] w (FieldsOneRet w s c) := by
  have hbw := below_self w (.cells #[.pointer (some ⟨N, 0, none⟩), .string ⟨#[]⟩, .int .u64 0, .int .u64 0] 98)
  have b0 : (w.alloc (.cells #[.pointer (some ⟨N, 0, none⟩), .string ⟨#[]⟩, .int .u64 0, .int .u64 0] 98)).cell? ⟨w.heap.size, 0, none⟩ = some (.pointer (some ⟨N, 0, none⟩)) := by simp
  have b1 : (w.alloc (.cells #[.pointer (some ⟨N, 0, none⟩), .string ⟨#[]⟩, .int .u64 0, .int .u64 0] 98)).cell? ⟨w.heap.size, 1, none⟩ = some (.string ⟨#[]⟩) := by simp
  have b2 : (w.alloc (.cells #[.pointer (some ⟨N, 0, none⟩), .string ⟨#[]⟩, .int .u64 0, .int .u64 0] 98)).cell? ⟨w.heap.size, 2, none⟩ = some (.int .u64 0) := by simp
  have b3 : (w.alloc (.cells #[.pointer (some ⟨N, 0, none⟩), .string ⟨#[]⟩, .int .u64 0, .int .u64 0] 98)).cell? ⟨w.heap.size, 3, none⟩ = some (.int .u64 0) := by simp
  have HN := hidd (one_to hbw hN)
  have HM := hidd (one_to hbw hM)
  obtain ⟨i9, h9, h90, h91, h92⟩ := info_parts Try.info9
  obtain ⟨i3, h3, h30, h31, h32⟩ := info_parts Try.info3
  obtain ⟨i23, hi, hz0, hz1, hz2⟩ := info_parts Try.info23
  have c1 : 0 + 1 ≤ maxLen := by unfold maxLen; omega
  clear hN hM
  go_enter Try.func44, Try.ntmps44
  go_wp2
  generalize w.alloc (.cells #[.pointer (some ⟨N, 0, none⟩), .string ⟨#[]⟩, .int .u64 0, .int .u64 0] 98) = w0 at *
  have hfin : ∀ wr, Below w0.heap.size w0 wr → Below w.heap.size w wr := fun wr h => hbw.trans (h.mono hbw.size)
  generalize w.heap.size = X at b0 b1 b2 b3 ⊢
  go_loopw [2, 3, 4, 5, 9] (fun a b l h i wr => (i = .int .i64 0 ∧ a = .slice none 0 0 ∧ b = .slice none 0 0 ∧ l = .slice none 0 0 ∧ h = .slice none 0 0 ∧ wr = w0) ∨ (i = .int .i64 1 ∧ OneS wr a (.string s) ∧ OneS wr b (.int .i64 1) ∧ OneS wr l (.int .u64 c) ∧ OneS wr h (.int .u64 c) ∧ Below w0.heap.size w0 wr)) (fun _ _ _ _ i _ => 1 - (intOf i).toNat)
  case atStart => exact .inl ⟨rfl, rfl, rfl, rfl, rfl, rfl⟩
  case round =>
    rcases hrel with ⟨rfl, rfl, rfl, rfl, rfl, hwr⟩ | ⟨rfl, ha, hb, hl, hh, hbel⟩
    · rw [hwr]
      clear hwr wr
      go_wp2_with fail
      refine (lenX_one N _ _ w0 HN.out).mono ?_
      rintro e wq ⟨rfl, hwq⟩
      rw [hwq]
      clear hwq wq
      go_wp2_with fail
      refine (atX_one N s _ w0 HN.out).mono ?_
      rintro e w1 ⟨rfl, hb1⟩
      have k0 := cell_to hb1 b0
      have HM1 := hidd (one_to hb1 HM.out)
      have e0 : (w1.alloc (.cells #[.string s, .pointer (some ⟨M, 0, none⟩)] 116)).cell? ⟨w1.heap.size, 0, none⟩ = some (.string s) := by simp
      have e1 : (w1.alloc (.cells #[.string s, .pointer (some ⟨M, 0, none⟩)] 116)).cell? ⟨w1.heap.size, 1, none⟩ = some (.pointer (some ⟨M, 0, none⟩)) := by simp
      have hb2 := below_to hb1 (below_self w1 (.cells #[.string s, .pointer (some ⟨M, 0, none⟩)] 116)) hb1.size
      have HM2 := hidd (one_to (below_self w1 (.cells #[.string s, .pointer (some ⟨M, 0, none⟩)] 116)) HM1.out)
      have c2 : (0 + 1) * 16 ≤ 140737488355328 := by omega
      have c2' : (0 + 1) * 8 ≤ 140737488355328 := by omega
      go_wp2_with (at_builtin; refine wpList_append_own _ rfl (.tmp 24) (.tmp 28) 32 rfl (w1.heap.size + 1) 9 i9 _ 1 16 Try.underlying32 h9 h90 h91 h92 rfl (by decide) _ 0 [] rfl (World.ownsRow_nil _ _ _ _) ⟨w1.heap.size + 1, 0, none⟩ 1 1 [.string s] rfl rfl (news1 (by simp)) (oneV rfl) c1 c2 (by simp) ?_)
      intro a' w3 hown hgrow _
      obtain ⟨ga, ca, rfl, hga⟩ := own_one hown
      have hb3 := app_nil hgrow
      have HM3 := hidd (one_to hb3 HM2.out)
      have e1' := cell_to hb3 e1
      have hb3' := below_to hb2 hb3 hb2.size
      have k0' := cell_to hb3 (cell_to (below_self w1 (.cells #[.string s, .pointer (some ⟨M, 0, none⟩)] 116)) k0)
      generalize w1.heap.size = D at *
      clear hown hgrow e0 e1 hb2 hb3 HM2 HM1 k0 hb1
      go_wp2_with fail
      refine (lenR_one M _ _ w3 HM3.out).mono ?_
      rintro e wq ⟨rfl, hwq⟩
      rw [hwq]
      clear hwq wq
      go_wp2_with (at_builtin; refine wpList_append_own _ rfl (.tmp 30) (.tmp 34) 53 rfl w3.heap.size 3 i3 _ 1 8 Try.underlying53 h3 h30 h31 h32 rfl (by decide) _ 0 [] rfl (World.ownsRow_nil _ _ _ _) ⟨w3.heap.size, 0, none⟩ 1 1 [.int .i64 1] rfl rfl (news1 rfl) (oneV rfl) c1 c2' (by simp) ?_)
      intro b' w4 hown hgrow _
      obtain ⟨gb, cb, rfl, hgb⟩ := own_one hown
      have hb4 := app_nil hgrow
      have HM4 := hidd (one_to hb4 HM3.out)
      have e14 := cell_to hb4 e1'
      have k04 := cell_to hb4 k0'
      have hga4 := cell_to hb4 hga
      have hb4' := below_to hb3' hb4 hb3'.size
      clear hown hgrow hb4 HM3 e1' k0' hga hb3'
      go_wp2
      go_loopw [4, 5, 11] (fun l h j wr => (j = .int .i64 0 ∧ l = .slice none 0 0 ∧ h = .slice none 0 0 ∧ wr = w4) ∨ (j = .int .i64 1 ∧ OneS wr l (.int .u64 c) ∧ OneS wr h (.int .u64 c) ∧ Below w4.heap.size w4 wr)) (fun _ _ j _ => 1 - (intOf j).toNat)
      case atStart => exact .inl ⟨rfl, rfl, rfl, rfl⟩
      case round =>
        rcases hrel with ⟨rfl, rfl, rfl, hwr⟩ | ⟨rfl, hl, hh, hbel⟩
        · rw [hwr]
          clear hwr wr
          go_wp2_with fail
          refine (lenR_one M _ _ w4 HM4.out).mono ?_
          rintro e wq ⟨rfl, hwq⟩
          rw [hwq]
          clear hwq wq
          go_wp2_with fail
          refine (atR_one M c c w4 HM4.out).mono ?_
          rintro e w5 ⟨rfl, hb5⟩
          have r0 : (w5.alloc (.cells #[.int .u64 c, .int .u64 c] 94)).cell? ⟨w5.heap.size, 0, none⟩ = some (.int .u64 c) := by simp
          have r1 : (w5.alloc (.cells #[.int .u64 c, .int .u64 c] 94)).cell? ⟨w5.heap.size, 1, none⟩ = some (.int .u64 c) := by simp
          have hb5' := below_to hb5 (below_self w5 (.cells #[.int .u64 c, .int .u64 c] 94)) hb5.size
          go_wp2_with (at_builtin; refine wpList_append_own _ rfl (.tmp 47) (.tmp 50) 33 rfl (w5.heap.size + 1) 23 i23 _ 1 8 Try.underlying33 hi hz0 hz1 hz2 rfl (by decide) _ 0 [] rfl (World.ownsRow_nil _ _ _ _) ⟨w5.heap.size + 1, 0, none⟩ 1 1 [.int .u64 c] rfl rfl (news1 (by simp)) (oneV rfl) c1 c2' (by simp) ?_)
          intro l' w6 hown hgrow _
          obtain ⟨gl, cl, rfl, hgl⟩ := own_one hown
          have hb6 := app_nil hgrow
          have r1' := cell_to hb6 r1
          have hb6' := below_to hb5' hb6 hb5'.size
          generalize w5.heap.size = D' at *
          clear hown hgrow hb6 r0 r1 hb5 hb5'
          go_wp2_with (at_builtin; refine wpList_append_own _ rfl (.tmp 52) (.tmp 55) 33 rfl w6.heap.size 23 i23 _ 1 8 Try.underlying33 hi hz0 hz1 hz2 rfl (by decide) _ 0 [] rfl (World.ownsRow_nil _ _ _ _) ⟨w6.heap.size, 0, none⟩ 1 1 [.int .u64 c] rfl rfl (news1 rfl) (oneV rfl) c1 c2' (by simp) ?_)
          intro h' w7 hown hgrow _
          obtain ⟨gh, ch, rfl, hgh⟩ := own_one hown
          have hb7 := app_nil hgrow
          have hL : OneS w7 (.slice (some ⟨gl, 0, none⟩) 1 cl) (.int .u64 c) := ⟨gl, cl, rfl, cell_to hb7 hgl⟩
          have hH : OneS w7 (.slice (some ⟨gh, 0, none⟩) 1 ch) (.int .u64 c) := ⟨gh, ch, rfl, hgh⟩
          have hb7' := below_to hb6' hb7 hb6'.size
          have HL := hidd hL
          have HH := hidd hH
          clear hown hgrow hb7 r1' hgl hgh hL hH hb6'
          go_wp2
          go_roundw
          case rel => exact .inr ⟨by go_num, HL.out, HH.out, hb7'⟩
          case measure => simp [intOf]
        · have HMr := hidd (one_to hbel HM4.out)
          have e15 := cell_to hbel e14
          have HL := hidd hl
          have HH := hidd hh
          have hA : OneS wr (.slice (some ⟨ga, 0, none⟩) 1 ca) (.string s) := ⟨ga, ca, rfl, cell_to hbel hga4⟩
          have hB : OneS wr (.slice (some ⟨gb, 0, none⟩) 1 cb) (.int .i64 1) := ⟨gb, cb, rfl, cell_to hbel hgb⟩
          have HA := hidd hA
          have HB := hidd hB
          have hbr := below_to hb4' hbel hb4'.size
          clear hl hh hA hB hga4 hgb
          go_wp2_with fail
          refine (lenR_one M _ _ wr HMr.out).mono ?_
          rintro e wq ⟨rfl, hwq⟩
          rw [hwq]
          clear hwq wq
          go_wp2
          go_roundw
          case rel => exact .inr ⟨by go_num, HA.out, HB.out, HL.out, HH.out, hbr⟩
          case measure => simp [intOf]
    · have HNr := hidd (one_to hbel HN.out)
      have k0 := cell_to hbel b0
      have k1 := cell_to hbel b1
      have k2 := cell_to hbel b2
      have k3 := cell_to hbel b3
      have HA := hidd ha
      have HB := hidd hb
      have HL := hidd hl
      have HH := hidd hh
      clear ha hb hl hh
      go_wp2_with fail
      refine (lenX_one N _ _ wr HNr.out).mono ?_
      rintro e wq ⟨rfl, hwq⟩
      rw [hwq]
      clear hwq wq
      go_wp2
      go_quiet (fail)
      go_wp2
      have hf := hfin wr hbel
      refine bodyPost_ret (by simp [results, Try.results44, go_sem]; rfl) rfl ?_
      exact ⟨_, _, _, _, rfl, HA.out, HB.out, HL.out, HH.out, ⟨hf.os, hf.tape, hf.output, hf.size, hf.block⟩⟩

end Go.Proofs.Qxb6608633a
