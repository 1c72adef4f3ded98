/- FnContextOfSeesExactlyTheDots: the law walked. -/
import Derived.Test.Qxb6608633aCtx26
import Derived.Test.Qxb6608633aCloneD
namespace Go.Proofs.Qxb6608633a
open Go.RowKit

/-- It returns true; nothing that lay has turned. -/
def LawTrue (w : World) (e : Ending) (w' : World) : Prop := e = .returned (.bool true) ∧ Below w.heap.size w w'

theorem Try.info4 : (Try.prog.info? 4).map (fun i => (i.zero, i.size, i.bytes)) = some (some (.bool false), 1, 1) := by kernel_rfl

/-- The first k dots name events. -/
def OkUpTo (es : List Ent) (k : Nat) : Prop := ∀ (i : Nat) (d : Ent), i < k → es[i]? = some d → d.1.toList.isEmpty = false ∧ d.2 ≠ 0
theorem okUpTo_zero (es : List Ent) : OkUpTo es 0 := fun i d h => absurd h (by omega)
theorem okUpTo_succ {es : List Ent} {k : Nat} {s : ByteArray} {c : Int} (h : OkUpTo es k) (hk : Hid (es[k]? = some (s, c))) (h1 : s.toList.isEmpty = false) (h2 : c ≠ 0) : OkUpTo es (k + 1) := fun i d hi hd => by
  by_cases e : i = k
  · subst e; rw [hk.out] at hd; cases hd; exact ⟨h1, h2⟩
  · exact h i d (by omega) hd
theorem okUpTo_all {es : List Ent} (h : OkUpTo es es.length) (hu : ∀ d ∈ es, 0 ≤ d.2 ∧ d.2 ≤ 18446744073709551615) : ∀ d ∈ es, OkDot d := fun d hd => by
  obtain ⟨i, hi⟩ := List.mem_iff_getElem?.1 hd
  have h1 := h i d (List.getElem?_eq_some_iff.1 hi).1 hi
  have h2 := hu d hd
  exact ⟨h1.1, by omega, h2.2⟩

open Classical in
/-- Is the dot d, at place i, the first of its kind? -/
noncomputable def fstB (es : List Ent) (i : Nat) (d : Ent) : Bool := decide (d ∉ es.take i)
open Classical in
theorem fstB_yes {es : List Ent} {i : Nat} {d : Ent} (h : d ∉ es.take i) : fstB es i d = true := by unfold fstB; exact decide_eq_true h
open Classical in
theorem fstB_no {es : List Ent} {i : Nat} {d : Ent} (h : d ∈ es.take i) : fstB es i d = false := by unfold fstB; exact decide_eq_false (fun hn => hn h)
open Classical in
theorem fstB_true {es : List Ent} {i : Nat} {d : Ent} (h : fstB es i d = true) : d ∉ es.take i := by unfold fstB at h; exact of_decide_eq_true h
open Classical in
theorem fstB_false {es : List Ent} {i : Nat} {d : Ent} (h : fstB es i d = false) : d ∈ es.take i := by unfold fstB at h; exact Classical.not_not.1 (of_decide_eq_false h)

/-- The cells xs tell of the first k dots which ones are the first of their kind. -/
def FirstTo (xs : List Value) (es : List Ent) (k : Nat) : Prop :=
  xs.length = es.length ∧ ∀ (i : Nat) (d : Ent), i < k → es[i]? = some d → xs[i]? = some (.bool (fstB es i d))
theorem firstTo_succ {xs : List Value} {es : List Ent} {k : Nat} {d : Ent} {b : Bool} (h : FirstTo xs es k) (hk : es[k]? = some d) (hb : fstB es k d = b) : FirstTo (xs.set k (.bool b)) es (k + 1) := by
  have hlt := (List.getElem?_eq_some_iff.1 hk).1
  refine ⟨by simpa using h.1, fun i e hi he => ?_⟩
  by_cases hik : i = k
  · subst hik; rw [hk] at he; cases he
    rw [List.getElem?_set_self (by rw [h.1]; exact hlt), hb]
  · rw [List.getElem?_set_ne (by omega)]
    exact h.2 i e (by omega) he

/-- None of the first m dots is d. -/
def NoneTo (es : List Ent) (m : Nat) (d : Ent) : Prop := ∀ i e, i < m → es[i]? = some e → e ≠ d
theorem noneTo_zero (es : List Ent) (d : Ent) : NoneTo es 0 d := fun i e h => absurd h (by omega)
theorem noneTo_succ {es : List Ent} {m : Nat} {d e : Ent} (h : NoneTo es m d) (hm : es[m]? = some e) (hne : e ≠ d) : NoneTo es (m + 1) d := fun i x hi hx => by
  by_cases hik : i = m
  · subst hik; rw [hm] at hx; cases hx; exact hne
  · exact h i x (by omega) hx
theorem noneTo_fst {es : List Ent} {k : Nat} {d : Ent} (h : NoneTo es k d) : fstB es k d = true := fstB_yes fun hm => by
  obtain ⟨i, hi⟩ := List.mem_iff_getElem?.1 hm
  obtain ⟨h1, _⟩ := List.getElem?_eq_some_iff.1 hi
  rw [List.length_take] at h1
  rw [List.getElem?_take, if_pos (by omega)] at hi
  exact h i d (by omega) hi rfl
theorem some_fst {es : List Ent} {k m : Nat} {d : Ent} (hm : es[m]? = some d) (hlt : m < k) : fstB es k d = false := fstB_no (List.mem_iff_getElem?.2 ⟨m, by rw [List.getElem?_take, if_pos hlt]; exact hm⟩)

/-- None of the first m runs holds d. -/
def NoHit (rw : List (ByteArray × Run)) (m : Nat) (d : Ent) : Prop := ∀ (i : Nat) (s : ByteArray) (r : Run), i < m → rw[i]? = some (s, r) → ¬ (s = d.1 ∧ r.1 ≤ d.2 ∧ d.2 ≤ r.2)
theorem noHit_zero (rw : List (ByteArray × Run)) (d : Ent) : NoHit rw 0 d := fun i _ _ h => absurd h (by omega)
theorem noHit_succ {rw : List (ByteArray × Run)} {m : Nat} {d : Ent} {s : ByteArray} {r : Run} (h : NoHit rw m d) (hm : rw[m]? = some (s, r)) (hn : ¬ (s = d.1 ∧ r.1 ≤ d.2 ∧ d.2 ≤ r.2)) : NoHit rw (m + 1) d := fun i s' r' hi hx => by
  by_cases hik : i = m
  · subst hik; rw [hm] at hx; cases hx; exact hn
  · exact h i s' r' (by omega) hx
theorem noHit_none {ys : List Ent} {d : Ent} (hsd : SortedD ys) (ho : ∀ d ∈ ys, OkDot d) (hd : d ∈ ys) (h : NoHit (rows (groups ys [])) (rows (groups ys [])).length d) : False := by
  obtain ⟨k, r, hk, h1, h2⟩ := found_of hsd ho hd
  exact h k d.1 r (List.getElem?_eq_some_iff.1 hk).1 hk ⟨rfl, h1, h2⟩

open Classical in
theorem ht_yes {ds : List Ent} {s : ByteArray} {lo hi : Int} {i : Nat} {c : Int} (h : ds[i]? = some (s, c)) (hf : fstB ds i (s, c) = true) (h1 : lo ≤ c) (h2 : c ≤ hi) : (HT ds s lo hi (i + 1)).length = (HT ds s lo hi i).length + 1 := by
  rw [ht_succ h, if_pos ⟨fstB_true hf, rfl, h1, h2⟩]; simp
open Classical in
theorem ht_no {ds : List Ent} {s : ByteArray} {lo hi : Int} {i : Nat} {d : Ent} (h : ds[i]? = some d) (hn : fstB ds i d = false ∨ s ≠ d.1 ∨ ¬ (lo ≤ d.2) ∨ ¬ (d.2 ≤ hi)) : (HT ds s lo hi (i + 1)).length = (HT ds s lo hi i).length := by
  rw [ht_succ h, if_neg]
  rintro ⟨h1, h2, h3, h4⟩
  rcases hn with h | h | h | h
  · exact h1 (fstB_false h)
  · exact h h2
  · exact h h3
  · exact h h4

set_option maxHeartbeats 40000000 in
set_option maxRecDepth 100000 in
theorem law5 (ao : Option Addr) (cap : Nat) (es : List Ent) (w : World) (he : EntsAt w ao es) (hao : ao = none → es = [] ∧ cap = 0) (hlt0 : ∀ a, ao = some a → es ≠ [] → a.block < w.heap.size)
    (hl : es.length ≤ maxLen) (hsz : ∀ e ∈ es, e.1.size ≤ maxLen) (hu : ∀ d ∈ es, 0 ≤ d.2 ∧ d.2 ≤ 18446744073709551615) :
    Calls Try.prog 5 #[.slice ao es.length cap] w (LawTrue w) := by
  have hl' : es.length ≤ 9223372036854775807 := hl
  have H24 := hidd (bytes24_any ao cap es w he hl hsz)
  have Hao := hidd hao
  have Hlt0 := hidd hlt0
  have Hu := hidd hu
  have Hsz := hidd hsz
  have He := hidd he
  clear he hl hsz hao hlt0 hu
  go_enter Try.func5, Try.ntmps5
  go_wp2_with fail
  refine H24.out.mono ?_
  rintro e wq ⟨r, rfl, hwq, hr⟩
  rw [hwq]
  clear hwq wq H24
  cases r with
  | false =>
    go_wp2
    go_ret
    exact ⟨rfl, Below.refl _ _⟩
  | true =>
    obtain ⟨hsm, hsh⟩ := hr rfl
    have Hsh := hidd hsh
    clear hr hsh
    by_cases h4 : 4096 < es.length
    · go_wp2
      go_ret
      exact ⟨rfl, Below.refl _ _⟩
    · have hn : es.length ≤ 4096 := by omega
      clear h4
      go_wp2_with fail
      go_loop [3, 4] (fun z i => ∃ (k : Nat) (n : Int), k ≤ es.length ∧ i = .int .i64 k ∧ z = .int .i64 n ∧ 0 ≤ n ∧ n ≤ 1048576) (fun _ i => es.length - (intOf i).toNat)
      case atStart => exact ⟨0, 0, Nat.zero_le _, rfl, rfl, by omega, by omega⟩
      case round =>
        obtain ⟨k, z, hk, rfl, rfl, hz0, hz1⟩ := hrel
        by_cases hlt : k < es.length
        · obtain ⟨b', off, s, n, rfl, hkk, hc0, hc1⟩ := He.out.at hlt
          have hss : s.size ≤ 1048576 := Hsh.out (s, n) (List.mem_of_getElem? hkk.out)
          by_cases h2 : (1048576 : Int) < z + (24 + (s.size : Int))
          · go_wp2
            go_ret
            exact ⟨rfl, Below.refl _ _⟩
          · go_wp2
            go_round
            case rel => exact ⟨k + 1, _, by omega, by go_num, rfl, by omega, by omega⟩
            case measure => simp [intOf]; omega
        · clear hz0 hz1
          go_wp2_with fail
          go_loop [5] (fun i => ∃ k : Nat, k ≤ es.length ∧ i = .int .i64 k ∧ OkUpTo es k) (fun i => es.length - (intOf i).toNat)
          case atStart => exact ⟨0, Nat.zero_le _, rfl, okUpTo_zero es⟩
          case round =>
            clear hlt hk
            obtain ⟨k, hk, rfl, hok⟩ := hrel
            by_cases hlt : k < es.length
            · obtain ⟨b', off, s, n, rfl, hkk, hc0, hc1⟩ := He.out.at hlt
              have Hok := hidd hok
              clear hok
              cases h1 : s.toList.isEmpty with
              | true =>
                go_wp2
                go_ret
                exact ⟨rfl, Below.refl _ _⟩
              | false =>
                by_cases h2 : n = 0
                · have h2' : (n == 0) = true := by simp [h2]
                  clear h2
                  go_wp2
                  go_ret
                  exact ⟨rfl, Below.refl _ _⟩
                · have h2' : (n == 0) = false := by simp [h2]
                  go_wp2
                  go_round
                  case rel => exact ⟨k + 1, by omega, by go_num, okUpTo_succ Hok.out hkk h1 h2⟩
                  case measure => simp [intOf]; omega
            · obtain rfl : k = es.length := by omega
              have Hdot := hidd (okUpTo_all hok Hu.out)
              have HC := hidd (cloneD_any ao cap es w He.out Hao.out Hlt0.out hsm)
              clear hok hlt hk Hsh Hu Hao Hlt0 He
              go_wp2_with fail
              refine HC.out.mono ?_
              rintro e w1 ⟨ao1, cap1, rfl, he1, hlt1, hb1⟩
              have He1 := hidd he1
              have Hlt1 := hidd hlt1
              clear he1 hlt1 HC
              obtain ⟨i9, h9, h90, h91, h92⟩ := info_parts Try.info9
              obtain ⟨i23, gi, gz0, gz1, gz2⟩ := info_parts Try.info23
              go_wp2_with (at_make; refine wpList_make_full _ rfl _ _ 32 rfl w1.heap.size 9 i9 _ 1 Try.underlying32 h9 h90 h91 _ _ _ _ es.length rfl rfl rfl rfl ?c1 ?c2 ?c3 ?_)
              case c1 => rw [h92]; omega
              case c2 => unfold maxLen; omega
              case c3 => exact Nat.le_refl _
              intro w2 hown hgrow
              have hb2 : Below w1.heap.size w1 w2 := (Below.refl _ _).grown hgrow (Nat.le_refl _) (fun k h => by cases h)
              obtain ⟨xs0, hown⟩ : ∃ xs, w2.ownsRow w1.heap.size 9 1 (.slice (some ⟨w1.heap.size, 0, none⟩) es.length es.length) es.length xs := ⟨_, hown⟩
              have hB1 : w1.heap.size < w2.heap.size := (hown.lt w1.heap.size rfl).2
              have Hown := hidd hown
              clear hown hgrow h9 h90 h91 h92
              go_wp2_with (at_make; refine wpList_make_full _ rfl _ _ 33 rfl w2.heap.size 23 i23 _ 1 Try.underlying33 gi gz0 gz1 _ _ _ _ es.length rfl rfl rfl rfl ?c4 ?c5 ?c6 ?_)
              case c4 => rw [gz2]; omega
              case c5 => unfold maxLen; omega
              case c6 => exact Nat.le_refl _
              intro w3 hown2 hgrow2
              have hown := Hown.out.kept hgrow2 (.inr (by simp [Value.ownBlock]))
              have hb3 : Below w1.heap.size w1 w3 := hb2.grown hgrow2 (by omega) (fun k h => by cases h)
              obtain ⟨ns0, hown2⟩ : ∃ xs, w3.ownsRow w2.heap.size 23 1 (.slice (some ⟨w2.heap.size, 0, none⟩) es.length es.length) es.length xs := ⟨_, hown2⟩
              have h0 : OneTo xs0 ns0 es 0 := ⟨by simpa using hown.1, by simpa using hown2.1, fun i _ _ h => absurd h (by omega)⟩
              have Hs1 := hidd hown
              have Hs2 := hidd hown2
              have Hs0 := hidd h0
              clear hgrow2 Hown gi gz0 gz1 gz2 hown hown2 h0 hb2
              generalize w2.heap.size = B2 at *
              obtain ⟨B1, HB1⟩ : ∃ B, Hid (w1.heap.size = B) := ⟨_, hidd rfl⟩
              rw [HB1.out] at hb3 hB1 Hs1 ⊢
              go_wp2_with fail
              go_loopw [9] (fun i wr => ∃ (k : Nat) (xs ns : List Value), k ≤ es.length ∧ i = .int .i64 k ∧ wr.ownsRow B1 9 1 (.slice (some ⟨B1, 0, none⟩) es.length es.length) es.length xs ∧ wr.ownsRow B2 23 1 (.slice (some ⟨B2, 0, none⟩) es.length es.length) es.length ns ∧ OneTo xs ns es k ∧ Below B1 w1 wr) (fun i _ => es.length - (intOf i).toNat)
              case atStart => exact ⟨0, xs0, ns0, Nat.zero_le _, rfl, Hs1.out, Hs2.out, Hs0.out, hb3⟩
              case round =>
                clear Hs1 Hs2 Hs0 hb3
                obtain ⟨k, xs, ns, hk, rfl, hown, hown2, hone, hbel⟩ := hrel
                have Hone := hidd hone
                have Hown := hidd hown
                have Hown2 := hidd hown2
                by_cases hlt : k < es.length
                · obtain ⟨b', off, s, n, e1, hkk, hc0, hc1⟩ := He1.out.at hlt
                  subst e1
                  have hb0 : b' < B1 := by rw [← HB1.out]; exact Hlt1.out _ rfl
                  have hc0' := (hbel.cell (p := ⟨b', off + k * 2, none⟩) hb0).trans hc0
                  have hc1' := (hbel.cell (p := ⟨b', off + k * 2 + 1, none⟩) hb0).trans hc1
                  obtain ⟨v0, hv0⟩ := cell_of_own hown k (by omega)
                  obtain ⟨v1, hv1⟩ := cell_of_own hown2 k (by omega)
                  have hf0 := hown.frozenAt k
                  have hf1 := hown2.frozenAt k
                  clear hc0 hc1 hown hown2 hone
                  go_wp2
                  have R := two_stored Hown.out Hown2.out (by omega) k (.string s) (.int .u64 n)
                  go_roundw
                  case rel => exact ⟨k + 1, _, _, by omega, by go_num, R.1, R.2, oneTo_succ Hone.out hkk, (hbel.setCell (Nat.le_refl _) _).setCell (by show B1 ≤ B2; omega) _⟩
                  case measure => simp [intOf]; omega
                · obtain rfl : k = es.length := by omega
                  have hE : SplitAt wr ⟨B1, 0, none⟩ ⟨B2, 0, none⟩ es := splitAt_of hown hown2 hone
                  have H26 := hidd (ctx26_any ⟨B1, 0, none⟩ ⟨B2, 0, none⟩ es wr hE hn Hdot.out Hsz.out)
                  clear hE hown hown2 hone Hone Hown Hown2 hlt hk
                  go_wp2_with fail
                  refine H26.out.mono ?_
                  rintro e w4 ⟨ys, hp, hsd, a, b, l, h, rfl, ha, hb, hll, hh, hb4⟩
                  have G := good_of hsd (fun d hd => Hdot.out d (hp.mem_iff.1 hd)) (fun d hd => Hsz.out d (hp.mem_iff.1 hd)) (by rw [hp.length_eq]; exact hn)
                  have H27 := hidd (oneForm_any (groups ys []) G a b l h w4 ha hb hll hh)
                  have HL := hidd hll
                  have HH := hidd hh
                  have Hp := hidd hp
                  have Hsd := hidd hsd
                  have hlen := G.len
                  have hbs := hbel.size
                  have hb5 : Below B1 w1 w4 := hbel.trans (hb4.mono (by rw [HB1.out] at hbs; exact hbs))
                  clear ha hb hll hh hp hsd G H26 hb4 hbel
                  go_wp2_with fail
                  refine H27.out.mono ?_
                  rintro e w5 ⟨o, rfl, ho, hb6⟩
                  have hb7 : Below B1 w1 w5 := hb5.trans (hb6.mono (by have := hb5.size; rw [HB1.out] at this; exact this))
                  obtain ⟨aO, cO, rfl, rO⟩ := ho.open (n := (rows (groups ys [])).length) (by simp [ownV])
                  obtain ⟨aL, cL, rfl, rL⟩ := HL.out.open (n := (rows (groups ys [])).length) (by simp [losV])
                  obtain ⟨aH, cH, rfl, rH⟩ := HH.out.open (n := (rows (groups ys [])).length) (by simp [hisV])
                  have RO := hidd rO
                  have RL := hidd (rL.to hb6)
                  have RH := hidd (rH.to hb6)
                  clear H27 ho hb6 hb5 hbs HL HH rO rL rH
                  obtain ⟨R, HR⟩ : ∃ R, Hid ((rows (groups ys [])).length = R) := ⟨_, hidd rfl⟩
                  rw [HR.out] at hlen ⊢
                  have hblk : ∀ p : Addr, ∀ v, w1.cell? p = some v → w5.cell? p = some v := fun p v hv => (hb7.cell (by rw [← HB1.out]; exact World.block_lt_of_cell? w1 _ hv)).trans hv
                  have He5 : Hid (EntsAt w5 ao1 es) := by
                    rcases He1.out with h | ⟨b, off, h1, h2⟩
                    · exact .inl h
                    · exact .inr ⟨b, off, h1, fun i s n hi => ⟨hblk _ _ (h2 i s n hi).1, hblk _ _ (h2 i s n hi).2⟩⟩
                  have hfin : Below w.heap.size w w5 := hb1.trans (hb7.mono (by have := hb1.size; rw [HB1.out] at this; exact this))
                  clear hblk He1 Hlt1 hb7 hb1
                  obtain ⟨i4, t4, t40, t41, t42⟩ := info_parts Try.info4
                  go_wp2_with (at_make; refine wpList_make_full _ rfl _ _ 58 rfl w5.heap.size 4 i4 _ 1 Try.underlying58 t4 t40 t41 _ _ _ _ es.length rfl rfl rfl rfl ?c7 ?c8 ?c9 ?_)
                  case c7 => rw [t42]; omega
                  case c8 => unfold maxLen; omega
                  case c9 => exact Nat.le_refl _
                  intro w6 hown hgrow
                  have hb6 : Below w5.heap.size w5 w6 := (Below.refl _ _).grown hgrow (Nat.le_refl _) (fun k h => by cases h)
                  obtain ⟨xs1, hown⟩ : ∃ xs, w6.ownsRow w5.heap.size 4 1 (.slice (some ⟨w5.heap.size, 0, none⟩) es.length es.length) es.length xs := ⟨_, hown⟩
                  have Hown := hidd hown
                  have hxl : FirstTo xs1 es 0 := ⟨by simpa using hown.1, fun i _ h => absurd h (by omega)⟩
                  have Hxl := hidd hxl
                  clear hown hgrow t4 t40 t41 t42 hxl
                  obtain ⟨B5, HB5⟩ : ∃ B, Hid (w5.heap.size = B) := ⟨_, hidd rfl⟩
                  rw [HB5.out] at hb6 Hown ⊢
                  go_wp2_with fail
                  go_loopw [20] (fun i wr => ∃ (k : Nat) (xs : List Value), k ≤ es.length ∧ i = .int .i64 k ∧ wr.ownsRow B5 4 1 (.slice (some ⟨B5, 0, none⟩) es.length es.length) es.length xs ∧ FirstTo xs es k ∧ Below B5 w5 wr) (fun i _ => es.length - (intOf i).toNat)
                  case atStart => exact ⟨0, xs1, Nat.zero_le _, rfl, Hown.out, Hxl.out, hb6⟩
                  case round =>
                    clear Hown Hxl hb6
                    obtain ⟨k, xs, hk, rfl, hown, hfst, hbel⟩ := hrel
                    have Hfst := hidd hfst
                    have Hown := hidd hown
                    by_cases hlt : k < es.length
                    · obtain ⟨b', off, s, c, e1, hkk, hc0, hc1⟩ := He5.out.at hlt
                      subst e1
                      obtain ⟨v0, hv0⟩ := cell_of_own hown k (by omega)
                      have hf0 := hown.frozenAt k
                      have g0 : (0 : Int) ≤ (k : Int) := by omega
                      have g1 : (k : Int) < (es.length : Int) := by omega
                      clear hown hfst
                      go_wp2_with fail
                      have st := Hown.out.stored k (.bool true)
                      have hbs : Below B5 w5 (wr.setCell ⟨B5, k, none⟩ (.bool true)) := hbel.setCell (p := ⟨B5, k, none⟩) (Nat.le_refl _) _
                      have Hst := hidd st.1
                      clear st hv0 hf0 Hown hbel
                      generalize wr.setCell ⟨B5, k, none⟩ (.bool true) = W at *
                      go_loopw [21] (fun j wr => ∃ m : Nat, m ≤ k ∧ j = .int .i64 m ∧ wr.ownsRow B5 4 1 (.slice (some ⟨B5, 0, none⟩) es.length es.length) es.length (xs.set k (.bool true)) ∧ NoneTo es m (s, c) ∧ Below B5 w5 wr) (fun j _ => k - (intOf j).toNat)
                      case atStart => exact ⟨0, Nat.zero_le _, rfl, Hst.out, noneTo_zero _ _, hbs⟩
                      case round =>
                        clear Hst hbs
                        obtain ⟨m, hm, rfl, hown, hnone, hbel⟩ := hrel
                        have Hown := hidd hown
                        have Hnone := hidd hnone
                        clear hnone
                        have hb5' : Below w5.heap.size w5 wr := by rw [HB5.out]; exact hbel
                        have hk0 := cell_to hb5' hc0
                        have hk1 := cell_to hb5' hc1
                        by_cases hmk : m < k
                        · obtain ⟨_, _, s2, c2, e1, hmm, hm0, hm1⟩ := He5.out.at (k := m) (by omega)
                          cases e1
                          have hj0 := cell_to hb5' hm0
                          have hj1 := cell_to hb5' hm1
                          have q0 : (0 : Int) ≤ (m : Int) := by omega
                          have q1 : (m : Int) < (es.length : Int) := by omega
                          clear hm0 hm1 hown
                          by_cases hs : s2 = s
                          · have e2 : (s2.toList == s.toList) = true := by rw [beqB]; simpa using hs
                            by_cases hc : c2 = c
                            · have e3 : (c2 == c) = true := by simp [hc]
                              have hF := hidd (some_fst (k := k) (by rw [hmm.out, hs, hc] : es[m]? = some (s, c)) hmk)
                              obtain ⟨v0, hv0⟩ := cell_of_own Hown.out k (by omega)
                              have hf0 := Hown.out.frozenAt k
                              clear hs hc
                              go_wp2_with fail
                              go_quiet (fail)
                              have hv1 : (wr.drewN nq).cell? ⟨B5, k, none⟩ = some v0 := hv0
                              have hf1 : (wr.drewN nq).frozen? ⟨B5, k, none⟩ = false := hf0
                              have Hown1 : Hid ((wr.drewN nq).ownsRow B5 4 1 (.slice (some ⟨B5, 0, none⟩) es.length es.length) es.length (xs.set k (.bool true))) := Hown.out
                              have hbel1 : Below B5 w5 (wr.drewN nq) := ⟨hbel.os, hbel.tape, hbel.output, hbel.size, hbel.block⟩
                              clear hv0 hf0 Hown hbel hb5' hk0 hk1 hj0 hj1
                              generalize wr.drewN nq = W1 at *
                              go_wp2_with fail
                              have st := Hown1.out.stored k (.bool false)
                              rw [List.set_set] at st
                              go_roundw
                              case rel => exact ⟨k + 1, _, by omega, by go_num, st.1, firstTo_succ Hfst.out hkk.out hF.out, hbel1.setCell (p := ⟨B5, k, none⟩) (Nat.le_refl _) _⟩
                              case measure => simp [intOf]; omega
                            · have e3 : (c2 == c) = false := by simp [hc]
                              have hne : (s2, c2) ≠ (s, c) := fun h => by cases h; exact hc rfl
                              have Hn2 := hidd (noneTo_succ Hnone.out hmm.out hne)
                              clear hne
                              go_wp2_with fail
                              go_quiet (fail)
                              go_wp2_with fail
                              go_roundw
                              case rel => exact ⟨m + 1, by omega, by go_num, Hown.out, Hn2.out, ⟨hbel.os, hbel.tape, hbel.output, hbel.size, hbel.block⟩⟩
                              case measure => simp [intOf]; omega
                          · have e2 : (s2.toList == s.toList) = false := by rw [beqB]; simpa using hs
                            have hne : (s2, c2) ≠ (s, c) := fun h => by cases h; exact hs rfl
                            have Hn2 := hidd (noneTo_succ Hnone.out hmm.out hne)
                            clear hne hs
                            go_wp2_with fail
                            go_quiet (fail)
                            go_wp2_with fail
                            go_roundw
                            case rel => exact ⟨m + 1, by omega, by go_num, Hown.out, Hn2.out, ⟨hbel.os, hbel.tape, hbel.output, hbel.size, hbel.block⟩⟩
                            case measure => simp [intOf]; omega
                        · obtain rfl : m = k := by omega
                          have hF := hidd (noneTo_fst Hnone.out)
                          clear hown
                          go_wp2_with fail
                          go_roundw
                          case rel => exact ⟨m + 1, _, by omega, by go_num, Hown.out, firstTo_succ Hfst.out hkk.out hF.out, hbel⟩
                          case measure => simp [intOf]; omega
                    · obtain rfl : k = es.length := by omega
                      have hb5' : Below w5.heap.size w5 wr := by rw [HB5.out]; exact hbel
                      have hfin7 := below_to hfin hb5' hfin.size
                      have He7 : Hid (EntsAt wr ao1 es) := by
                        rcases He5.out with h | ⟨b, off, h1, h2⟩
                        · exact .inl h
                        · exact .inr ⟨b, off, h1, fun i s n hi => ⟨cell_to hb5' (h2 i s n hi).1, cell_to hb5' (h2 i s n hi).2⟩⟩
                      have RO7 := hidd (RO.out.to hb5')
                      have RL7 := hidd (RL.out.to hb5')
                      have RH7 := hidd (RH.out.to hb5')
                      have Rf : Hid (∀ (i : Nat) (d : Ent), es[i]? = some d → wr.cell? ⟨B5, i, none⟩ = some (.bool (fstB es i d))) := fun i d hi => by
                        have hil := (List.getElem?_eq_some_iff.1 hi).1
                        rw [hown.cellAt i (by omega)]; exact hfst.2 i d hil hi
                      clear hown hfst Hfst Hown hbel hb5' hfin He5 RO RL RH hlt hk
                      go_wp2_with fail
                      generalize hwW : wr = W at *
                      clear hwW
                      go_loopw [22] (fun i wx => ∃ (k q : Nat), k ≤ es.length ∧ i = .int .i64 k ∧ wx = W.drewN q) (fun i _ => es.length - (intOf i).toNat)
                      case atStart => exact ⟨0, 0, Nat.zero_le _, rfl, rfl⟩
                      case round =>
                        obtain ⟨k, q, hk, rfl, hwr⟩ := hrel
                        by_cases hlt : k < es.length
                        · obtain ⟨b', off, s, c, e1, hkk, hc0', hc1'⟩ := He7.out.at hlt
                          subst e1
                          have hdm : (s, c) ∈ ys := Hp.out.mem_iff.2 (List.mem_of_getElem? hkk.out)
                          have Hdm := hidd hdm
                          have Hwr := hidd hwr
                          have g0 : (0 : Int) ≤ (k : Int) := by omega
                          have g1 : (k : Int) < (es.length : Int) := by omega
                          clear hwr hdm
                          go_wp2_with fail
                          go_loopw [23, 24] (fun f j wx => ∃ (m q : Nat), m ≤ R ∧ f = .bool false ∧ j = .int .i64 m ∧ NoHit (rows (groups ys [])) m (s, c) ∧ wx = W.drewN q) (fun _ j _ => R - (intOf j).toNat)
                          case atStart => exact ⟨0, q, Nat.zero_le _, rfl, rfl, noHit_zero _ _, Hwr.out⟩
                          case round =>
                            clear Hwr
                            obtain ⟨m, q2, hm, rfl, rfl, hno, hwr⟩ := hrel
                            have Hno := hidd hno
                            have Hwr := hidd hwr
                            have hc0 : wr.cell? ⟨b', off + k * 2, none⟩ = some (.string s) := by rw [hwr]; exact hc0'
                            have hc1 : wr.cell? ⟨b', off + k * 2 + 1, none⟩ = some (.int .u64 c) := by rw [hwr]; exact hc1'
                            clear hno
                            by_cases hmr : m < R
                            · obtain ⟨s2, r, hrow⟩ : ∃ s2 r, Hid ((rows (groups ys []))[m]? = some (s2, r)) := ⟨_, _, hidd (List.getElem?_eq_getElem (by rw [HR.out]; exact hmr))⟩
                              obtain ⟨gO, rfl, ho'⟩ := RO7.out m (.string s2) (by simp [ownV, hrow.out])
                              obtain ⟨gL, rfl, hl2⟩ := RL7.out m (.int .u64 r.1) (by simp [losV, hrow.out])
                              obtain ⟨gH, rfl, hh2⟩ := RH7.out m (.int .u64 r.2) (by simp [hisV, hrow.out])
                              have ho : wr.cell? ⟨gO, m, none⟩ = some (.string s2) := by rw [hwr]; exact ho'
                              have hlo : wr.cell? ⟨gL, m, none⟩ = some (.int .u64 r.1) := by rw [hwr]; exact hl2
                              have hhi : wr.cell? ⟨gH, m, none⟩ = some (.int .u64 r.2) := by rw [hwr]; exact hh2
                              have q0 : (0 : Int) ≤ (m : Int) := by omega
                              have q1 : (m : Int) < (R : Int) := by omega
                              clear ho' hl2 hh2 hwr
                              by_cases x1 : s2 = s
                              · have y1 : (s2.toList == s.toList) = true := by rw [beqB]; simpa using x1
                                by_cases x2 : r.1 ≤ c
                                · have y2 : decide (r.1 ≤ c) = true := decide_eq_true x2
                                  by_cases x3 : c ≤ r.2
                                  · have y3 : decide (c ≤ r.2) = true := decide_eq_true x3
                                    clear x1
                                    go_wp2_with fail
                                    go_quiet (fail)
                                    go_wp2_with fail
                                    go_roundw
                                    case rel => exact ⟨k + 1, _, by omega, by go_num, dN2 Hwr _⟩
                                    case measure => simp [intOf]; omega
                                  · have y3 : decide (c ≤ r.2) = false := decide_eq_false x3
                                    have Hn2 := hidd (noHit_succ (d := (s, c)) Hno.out hrow.out (fun h => x3 h.2.2))
                                    clear x1
                                    go_wp2_with fail
                                    go_quiet (fail)
                                    go_wp2_with fail
                                    go_roundw
                                    case rel => exact ⟨m + 1, _, by omega, rfl, by go_num, Hn2.out, dN2 Hwr _⟩
                                    case measure => simp [intOf]; omega
                                · have y2 : decide (r.1 ≤ c) = false := decide_eq_false x2
                                  have Hn2 := hidd (noHit_succ (d := (s, c)) Hno.out hrow.out (fun h => x2 h.2.1))
                                  clear x1
                                  go_wp2_with fail
                                  go_quiet (fail)
                                  go_wp2_with fail
                                  go_roundw
                                  case rel => exact ⟨m + 1, _, by omega, rfl, by go_num, Hn2.out, dN2 Hwr _⟩
                                  case measure => simp [intOf]; omega
                              · have y1 : (s2.toList == s.toList) = false := by rw [beqB]; simpa using x1
                                have Hn2 := hidd (noHit_succ (d := (s, c)) Hno.out hrow.out (fun h => x1 h.1))
                                clear x1
                                go_wp2_with fail
                                go_quiet (fail)
                                go_wp2_with fail
                                go_roundw
                                case rel => exact ⟨m + 1, _, by omega, rfl, by go_num, Hn2.out, dN2 Hwr _⟩
                                case measure => simp [intOf]; omega
                            · have hmR : m = (rows (groups ys [])).length := by rw [HR.out]; omega
                              have hno2 := Hno.out
                              rw [hmR] at hno2
                              exact (noHit_none Hsd.out (fun d hd => Hdot.out d (Hp.out.mem_iff.1 hd)) Hdm.out hno2).elim
                        · obtain rfl : k = es.length := by omega
                          have Hwr := hidd hwr
                          clear hwr hlt hk
                          go_wp2_with fail
                          go_loopw [25] (fun j wx => ∃ (m q : Nat), m ≤ R ∧ j = .int .i64 m ∧ wx = W.drewN q) (fun j _ => R - (intOf j).toNat)
                          case atStart => exact ⟨0, q, Nat.zero_le _, rfl, Hwr.out⟩
                          case round =>
                            clear Hwr
                            obtain ⟨m, q2, hm, rfl, hwr⟩ := hrel
                            by_cases hmr : m < R
                            · obtain ⟨s2, r, hrow⟩ : ∃ s2 r, Hid ((rows (groups ys []))[m]? = some (s2, r)) := ⟨_, _, hidd (List.getElem?_eq_getElem (by rw [HR.out]; exact hmr))⟩
                              obtain ⟨gO, rfl, ho'⟩ := RO7.out m (.string s2) (by simp [ownV, hrow.out])
                              obtain ⟨gL, rfl, hl2⟩ := RL7.out m (.int .u64 r.1) (by simp [losV, hrow.out])
                              obtain ⟨gH, rfl, hh2⟩ := RH7.out m (.int .u64 r.2) (by simp [hisV, hrow.out])
                              have hcnt := count_of Hp.out Hsd.out (fun d hd => Hdot.out d (Hp.out.mem_iff.1 hd)) hrow.out
                              have G := good_of Hsd.out (fun d hd => Hdot.out d (Hp.out.mem_iff.1 hd)) (fun d hd => Hsz.out d (Hp.out.mem_iff.1 hd)) (by rw [Hp.out.length_eq]; exact hn)
                              obtain ⟨g, hg1, hg2, hg3⟩ := mem_rows.1 (List.mem_of_getElem? hrow.out)
                              obtain ⟨z1, z2⟩ := (G.form g hg1).2.1 r hg3
                              have z3 := G.max g hg1 r hg3
                              have q0 : (0 : Int) ≤ (m : Int) := by omega
                              have q1 : (m : Int) < (R : Int) := by omega
                              have Hcnt := hidd hcnt
                              have Hwr := hidd hwr
                              clear hwr hcnt G hg1 hg2 hg3 g
                              go_wp2_with fail
                              go_loopw [26, 27] (fun cn i wx => ∃ (k q : Nat), k ≤ es.length ∧ cn = .int .u64 ((HT es s2 r.1 r.2 k).length : Nat) ∧ i = .int .i64 k ∧ wx = W.drewN q) (fun _ i _ => es.length - (intOf i).toNat)
                              case atStart => exact ⟨0, q2, Nat.zero_le _, rfl, rfl, Hwr.out⟩
                              case round =>
                                clear Hwr
                                obtain ⟨k, q3, hk, rfl, rfl, hwr⟩ := hrel
                                have ho : wr.cell? ⟨gO, m, none⟩ = some (.string s2) := by rw [hwr]; exact ho'
                                have hlo : wr.cell? ⟨gL, m, none⟩ = some (.int .u64 r.1) := by rw [hwr]; exact hl2
                                have hhi : wr.cell? ⟨gH, m, none⟩ = some (.int .u64 r.2) := by rw [hwr]; exact hh2
                                have hH := (ht_spec es s2 r.1 r.2 k hk).1
                                by_cases hlt : k < es.length
                                · obtain ⟨b', off, s, c, e1, hkk, hc0', hc1'⟩ := He7.out.at hlt
                                  subst e1
                                  have hc0 : wr.cell? ⟨b', off + k * 2, none⟩ = some (.string s) := by rw [hwr]; exact hc0'
                                  have hc1 : wr.cell? ⟨b', off + k * 2 + 1, none⟩ = some (.int .u64 c) := by rw [hwr]; exact hc1'
                                  have hfc : wr.cell? ⟨B5, k, none⟩ = some (.bool (fstB es k (s, c))) := by rw [hwr]; exact Rf.out k (s, c) hkk.out
                                  have Hwr := hidd hwr
                                  have g0 : (0 : Int) ≤ (k : Int) := by omega
                                  have g1 : (k : Int) < (es.length : Int) := by omega
                                  clear hwr hc0' hc1'
                                  have finNo : ∀ hn : fstB es k (s, c) = false ∨ s2 ≠ (s, c).1 ∨ ¬ (r.1 ≤ (s, c).2) ∨ ¬ ((s, c).2 ≤ r.2), (HT es s2 r.1 r.2 (k + 1)).length = (HT es s2 r.1 r.2 k).length := fun hn => ht_no hkk.out hn
                                  have HfinNo := hidd finNo
                                  clear finNo
                                  cases x0 : fstB es k (s, c) with
                                  | false =>
                                    rw [x0] at hfc
                                    have Hx := hidd (HfinNo.out (.inl x0))
                                    clear x0
                                    go_wp2_with fail
                                    go_quiet (fail)
                                    go_wp2_with fail
                                    go_roundw
                                    case rel => exact ⟨k + 1, _, by omega, by rw [Hx.out], by go_num, dN2 Hwr _⟩
                                    case measure => simp [intOf]; omega
                                  | true =>
                                    rw [x0] at hfc
                                    have Hx0 := hidd x0
                                    clear x0
                                    by_cases x1 : s2 = s
                                    · have y1 : (s2.toList == s.toList) = true := by rw [beqB]; simpa using x1
                                      by_cases x2 : r.1 ≤ c
                                      · have y2 : decide (r.1 ≤ c) = true := decide_eq_true x2
                                        by_cases x3 : c ≤ r.2
                                        · have y3 : decide (c ≤ r.2) = true := decide_eq_true x3
                                          have Hx : Hid ((HT es s2 r.1 r.2 (k + 1)).length = (HT es s2 r.1 r.2 k).length + 1) := ht_yes (by rw [x1]; exact hkk.out) (by rw [x1]; exact Hx0.out) x2 x3
                                          clear x1
                                          go_wp2_with fail
                                          go_quiet (fail)
                                          go_wp2_with fail
                                          go_roundw
                                          case rel => exact ⟨k + 1, _, by omega, by rw [Hx.out]; first | rfl | (congr 1; omega) | go_num, by go_num, dN2 Hwr _⟩
                                          case measure => simp [intOf]; omega
                                        · have y3 : decide (c ≤ r.2) = false := decide_eq_false x3
                                          have Hx := hidd (HfinNo.out (.inr (.inr (.inr x3))))
                                          clear x1
                                          go_wp2_with fail
                                          go_quiet (fail)
                                          go_wp2_with fail
                                          go_roundw
                                          case rel => exact ⟨k + 1, _, by omega, by rw [Hx.out], by go_num, dN2 Hwr _⟩
                                          case measure => simp [intOf]; omega
                                      · have y2 : decide (r.1 ≤ c) = false := decide_eq_false x2
                                        have Hx := hidd (HfinNo.out (.inr (.inr (.inl x2))))
                                        clear x1
                                        go_wp2_with fail
                                        go_quiet (fail)
                                        go_wp2_with fail
                                        go_roundw
                                        case rel => exact ⟨k + 1, _, by omega, by rw [Hx.out], by go_num, dN2 Hwr _⟩
                                        case measure => simp [intOf]; omega
                                    · have y1 : (s2.toList == s.toList) = false := by rw [beqB]; simpa using x1
                                      have Hx := hidd (HfinNo.out (.inr (.inl x1)))
                                      clear x1
                                      go_wp2_with fail
                                      go_quiet (fail)
                                      go_wp2_with fail
                                      go_roundw
                                      case rel => exact ⟨k + 1, _, by omega, by rw [Hx.out], by go_num, dN2 Hwr _⟩
                                      case measure => simp [intOf]; omega
                                · obtain rfl : k = es.length := by omega
                                  have Hwr := hidd hwr
                                  have k1 : IntKind.u64.wrap (r.2 - r.1) = r.2 - r.1 := IntWalk.u64_in _ (by omega)
                                  have k2 : IntKind.u64.wrap (r.2 - r.1 + 1) = r.2 - r.1 + 1 := IntWalk.u64_in _ (by omega)
                                  clear hwr hlt hk
                                  rw [Hcnt.out]
                                  go_wp2_with fail
                                  go_quiet (fail)
                                  go_wp2_with fail
                                  go_roundw
                                  case rel => exact ⟨m + 1, _, by omega, by go_num, dN2 Hwr _⟩
                                  case measure => simp [intOf]; omega
                            · obtain rfl : m = R := by omega
                              have hfin8 : Below w.heap.size w wr := by rw [hwr]; exact ⟨hfin7.os, hfin7.tape, hfin7.output, hfin7.size, hfin7.block⟩
                              clear hwr
                              go_wp2
                              go_ret
                              exact ⟨rfl, hfin8⟩

end Go.Proofs.Qxb6608633a
