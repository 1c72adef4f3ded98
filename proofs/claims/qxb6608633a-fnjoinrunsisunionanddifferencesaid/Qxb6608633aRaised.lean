/- zzRaised. -/
import Derived.Test.Qxb6608633aEq
namespace Go.Proofs.Qxb6608633a
open Go.RowKit

/-- What zzRaised still lays, behind the entries that it has passed. -/
def fin (id : ByteArray) (n : Int) : List Ent → Bool → List Ent
  | [], pl => if pl = false ∧ n ≠ 0 then [(id, n)] else []
  | (s, m) :: t, pl => if cmpB s id = 0 then (id, max m n) :: fin id n t true else if 0 < cmpB s id ∧ pl = false then (if n ≠ 0 then [(id, n)] else []) ++ ((s, m) :: fin id n t true) else (s, m) :: fin id n t pl

theorem fin_true (id : ByteArray) (n : Int) : ∀ (t : List Ent), (∀ e ∈ t, 0 < cmpB e.1 id) → fin id n t true = t
  | [], _ => by simp [fin]
  | (s, m) :: t, h => by
    have h1 : 0 < cmpB s id := h (s, m) (by simp)
    rw [fin, if_neg (by omega), if_neg (by simp), fin_true id n t (fun e he => h e (by simp [he]))]

theorem gt_of_gt {s : ByteArray} {m : Int} {t : List Ent} {id : ByteArray} (ha : Asc ((s, m) :: t)) (h : 0 ≤ cmpB s id) : ∀ e ∈ t, 0 < cmpB e.1 id := by
  intro e he
  have h1 : cmpB s e.1 < 0 := List.rel_of_pairwise_cons ha he
  by_cases h2 : cmpB s id = 0
  · have := (cmpB_zero s id).1 h2; subst this
    have := cmpB_swap s e.1; omega
  · have h3 := cmpB_swap s id
    have h4 : cmpB id e.1 < 0 := cmpB_trans (show cmpB id s < 0 by omega) h1
    have := cmpB_swap id e.1; omega

theorem fin_raise (id : ByteArray) (n : Int) (hn : 0 ≤ n) : ∀ (es : List Ent), Asc es → (∀ e ∈ es, 0 ≤ e.2) → fin id n es false = raise es id n
  | [], _, _ => by
    unfold raise; by_cases h : n = 0
    · simp [fin, h]
    · simp [fin, h, raiseR]
  | (s, m) :: t, ha, hp => by
    have ih := fin_raise id n hn t (List.Pairwise.of_cons ha) (fun e he => hp e (by simp [he]))
    have hm : 0 ≤ m := hp (s, m) (by simp)
    unfold raise at ih ⊢
    rw [fin]
    by_cases h0 : cmpB s id = 0
    · rw [if_pos h0, fin_true id n t (gt_of_gt ha (by omega)), ← (cmpB_zero s id).1 h0]
      by_cases h : n = 0
      · rw [if_pos h, h, show max m 0 = m by omega]
      · have h0' : cmpB s s = 0 := (cmpB_zero s s).2 rfl
        rw [if_neg h, raiseR, if_neg (by omega), if_pos h0']
    · rw [if_neg h0]
      by_cases h1 : 0 < cmpB s id
      · rw [if_pos ⟨h1, rfl⟩, fin_true id n t (gt_of_gt ha (by omega))]
        by_cases h : n = 0
        · simp [h]
        · rw [if_pos h, if_neg h, raiseR, if_neg (by omega), if_neg h0]; rfl
      · rw [if_neg (by simp [h1]), ih]
        by_cases h : n = 0
        · simp [h]
        · rw [if_neg h, if_neg h, raiseR, if_pos (by omega)]

theorem fin_at {es : List Ent} {k : Nat} {s : ByteArray} {m : Int} (h : Hid (es[k]? = some (s, m))) (id : ByteArray) (n : Int) (pl : Bool) :
    fin id n (es.drop k) pl = if cmpB s id = 0 then (id, max m n) :: fin id n (es.drop (k + 1)) true else if 0 < cmpB s id ∧ pl = false then (if n ≠ 0 then [(id, n)] else []) ++ ((s, m) :: fin id n (es.drop (k + 1)) true) else (s, m) :: fin id n (es.drop (k + 1)) pl := by
  have h := h.out
  obtain ⟨hk, he⟩ := List.getElem?_eq_some_iff.1 h
  rw [List.drop_eq_getElem_cons hk, he]; rfl

theorem flat_snoc (l : List Ent) (s : ByteArray) (n : Int) : flat (l ++ [(s, n)]) = flat l ++ [.string s, .int .u64 n] := by rw [flat_append]; rfl

/-- The loop's state: out holds l; the rest is still to be laid. -/
def RSt (w : World) (B : Nat) (v : Value) (l : List Ent) (k : Nat) (w0 : World) : Prop := w.ownsRow B 26 2 v l.length (flat l) ∧ l.length ≤ k + 1 ∧ Below B w0 w

theorem news26 {w : World} {s : ByteArray} {m : Int} (t : Nat) : ∀ j u, [Value.string s, .int .u64 m][j]? = some u → (w.alloc (.cells #[.string s, .int .u64 m] t)).cell? ((⟨w.heap.size, 0, none⟩ : Addr).add j) = some u :=
  news_cells (by simp) (by simp)

theorem rst_snoc {w w1 w0 : World} {B k k' : Nat} {v v' : Value} {l : List Ent} {s : ByteArray} {m : Int} (h : RSt w B v l k w0) (hB : B ≤ w.heap.size)
    (hown : w1.ownsRow B 26 2 v' (l.length + 1) (flat l ++ [.string s, .int .u64 m])) (hg : (w.alloc (.cells #[.string s, .int .u64 m] 26)).grownBy w1 v.ownBlock) (hk : l.length ≤ k') : RSt w1 B v' (l ++ [(s, m)]) k' w0 := by
  refine ⟨by rw [flat_snoc, List.length_append]; exact hown, by rw [List.length_append]; simp; omega, (h.2.2.alloc hB _).grown hg (by simp; omega) (fun j hj => (h.1.lt j hj).1)⟩

theorem rst_drewN {w w0 : World} {B k : Nat} {v : Value} {l : List Ent} (h : RSt w B v l k w0) (q : Nat) : RSt (w.drewN q) B v l k w0 :=
  ⟨own_alike h.1 rfl, h.2.1, below_drewN h.2.2 q⟩

def RaisedRet (w : World) (fs : List Ent) (e : Ending) (w' : World) : Prop :=
  ∃ ao cap, e = .returned (.slice ao fs.length cap) ∧ EntsAt w' ao fs ∧ (∀ a, ao = some a → a.block < w'.heap.size) ∧ Below w.heap.size w w'

theorem raised_of {w w0 : World} {v : Value} {l fs : List Ent} (h : w.ownsRow w0.heap.size 26 2 v l.length (flat l)) (hb : Below w0.heap.size w0 w) (he : l = fs) : RaisedRet w0 fs (.returned v) w := by
  subst he
  rcases h.2 with ⟨rfl, hl⟩ | ⟨g, c, _, rfl, _⟩
  · obtain rfl : l = [] := List.eq_nil_of_length_eq_zero hl
    exact ⟨none, 0, rfl, .inl rfl, fun a h => (by cases h), hb⟩
  · exact ⟨_, c, rfl, entsAt_of_own rfl h (flatTo_flat l), fun a ha => (by cases ha; exact (h.lt g rfl).2), hb⟩

set_option maxHeartbeats 2000000 in
set_option maxRecDepth 100000 in
theorem raised_any (ao : Option Addr) (cap : Nat) (es : List Ent) (id : ByteArray) (n : Int) (w : World) (he : EntsAt w ao es) (hlt0 : ∀ a, ao = some a → a.block < w.heap.size) (hl : es.length ≤ 1048576) (hsz : Short es) (hid : id.size ≤ 1048576)
    (hn : 0 ≤ n) (ha : Asc es) (hp : ∀ e ∈ es, 0 ≤ e.2) :
    Calls Try.prog 17 #[.slice ao es.length cap, .string id, .int .u64 n] w (RaisedRet w (raise es id n)) := by
  have Hfin : Hid (fin id n es false = raise es id n) := fin_raise id n hn es ha hp
  obtain ⟨i0, hi, hz0, hz1, hz2⟩ := info_parts Try.info26
  clear ha hp
  go_enter Try.func17, Try.ntmps17
  go_wp2_with (at_make; refine wpList_make_own _ rfl _ _ 22 rfl w.heap.size 26 i0 _ 2 Try.underlying22 hi hz0 hz1 _ _ _ (es.length + 1) rfl rfl ?c0 ?c1 ?c2 ?c3 ?_)
  case c0 => omega
  case c1 => rw [hz2]; omega
  case c2 => unfold maxLen; omega
  case c3 => exact Nat.le_refl _
  intro w1 hown hgrow
  have hst : RSt w1 w.heap.size (.slice (some ⟨w.heap.size, 0, none⟩) 0 (es.length + 1)) [] 0 w := ⟨hown, by simp, (Below.refl _ _).grown hgrow (Nat.le_refl _) (fun k h => by cases h)⟩
  have Hst := hidd hst
  clear hown hgrow hst
  go_wp2
  go_loopw [7, 8, 9] (fun v b i wr => ∃ (k : Nat) (l : List Ent) (pl : Bool), k ≤ es.length ∧ i = .int .i64 k ∧ b = .bool pl ∧ RSt wr w.heap.size v l k w ∧ (pl = false → l.length ≤ k) ∧ Hid (l ++ fin id n (es.drop k) pl = raise es id n)) (fun _ _ i _ => es.length - (intOf i).toNat)
  case atStart => exact ⟨0, [], false, Nat.zero_le _, rfl, rfl, Hst.out, fun _ => by simp, Hfin⟩
  case round =>
    clear Hst Hfin
    obtain ⟨k, l, pl, hk, rfl, rfl, hst, hpl, Hf⟩ := hrel
    have Hst := hidd hst
    have Hpl := hidd hpl
    have hbel := hst.2.2
    have hbs := hbel.size
    clear hst hpl
    by_cases hlt : k < es.length
    · obtain ⟨b', off, s, m, e1, hkk, hc0, hc1⟩ := he.at hlt
      cases e1
      have hb0 := hlt0 _ rfl
      have hc0' := (hbel.cell (p := ⟨b', off + k * 2, none⟩) hb0).trans hc0
      have hc1' := (hbel.cell (p := ⟨b', off + k * 2 + 1, none⟩) hb0).trans hc1
      have hss : s.size ≤ maxLen := by have := hsz (s, m) (List.mem_of_getElem? hkk.out); unfold maxLen; simp at this; omega
      have hii : id.size ≤ maxLen := by unfold maxLen; omega
      have hfa := fin_at hkk id n pl
      clear he hc0 hc1 hsz hlt0
      have hll : l.length ≤ k + 1 := Hst.out.2.1
      have c1 : l.length + 1 ≤ maxLen := by unfold maxLen; omega
      have c2 : (l.length + 1) * 24 ≤ 140737488355328 := by omega
      rcases (show cmpB s id < 0 ∨ cmpB s id = 0 ∨ 0 < cmpB s id from by omega) with hc | hc | hc
      · -- the id sorts after: the entry is kept
        have hcb : (cmpB s id == 0) = false := by simp; omega
        rw [if_neg (by omega), if_neg (by omega)] at hfa
        have Hf2 := hidd (show (l ++ [(s, m)]) ++ fin id n (es.drop (k + 1)) pl = raise es id n by rw [← Hf.out, hfa]; simp)
        clear hfa
        go_wp2_with fail
        refine (cmpStr_any _ _ _ hss hii).mono ?_
        rintro e w2 ⟨rfl, q, rfl⟩
        have Hst2 := hidd (rst_drewN Hst.out q)
        have c3 : w.heap.size ≤ ((wr.drewN q).alloc (.cells #[.string s, .int .u64 m] 26)).heap.size := by simp; omega
        go_wp2_with (at_builtin; refine wpList_append_own _ rfl (.tmp 56) (.tmp 61) 22 rfl w.heap.size 26 i0 _ 2 24 Try.underlying22 hi hz0 hz1 hz2 rfl (by decide) _ l.length (flat l) rfl (Hst2.out.1.alloc _) ⟨wr.heap.size, 0, none⟩ 1 1 _ rfl rfl (news26 26) news_one c1 c2 c3 ?_)
        intro v' w3 hown3 hgrow3 _
        have Hst3 := hidd (rst_snoc (k' := k + 1) Hst2.out (by simp; omega) hown3 hgrow3 (by omega))
        clear hown3 hgrow3 Hst2 Hst hi hz0 hz1 hz2 hc0' hc1'
        go_wp2
        go_roundw
        case rel => exact ⟨k + 1, l ++ [(s, m)], pl, by omega, by go_num, rfl, Hst3.out, fun h => by have := Hpl.out h; simp; omega, Hf2⟩
        case measure => simp [intOf]; omega
      · -- the id is there: its count is raised
        have hcb : (cmpB s id == 0) = true := by simpa using hc
        rw [if_pos hc] at hfa
        have Hf2 := hidd (show (l ++ [(id, max m n)]) ++ fin id n (es.drop (k + 1)) true = raise es id n by rw [← Hf.out, hfa]; simp)
        clear hfa hc
        go_wp2_with fail
        refine (cmpStr_any _ _ _ hss hii).mono ?_
        rintro e w2 ⟨rfl, q, rfl⟩
        have Hst2 := hidd (rst_drewN Hst.out q)
        have c3 : w.heap.size ≤ ((wr.drewN q).alloc (.cells #[.string id, .int .u64 (max m n)] 26)).heap.size := by simp; omega
        go_wp2_with (first | (go_at_call 15; refine (max_any _ _ _).mono ?_; rintro e w' ⟨rfl, rfl⟩) | (at_builtin; refine wpList_append_own _ rfl (.tmp 30) (.tmp 40) 22 rfl w.heap.size 26 i0 _ 2 24 Try.underlying22 hi hz0 hz1 hz2 rfl (by decide) _ l.length (flat l) rfl (Hst2.out.1.alloc _) ⟨wr.heap.size, 0, none⟩ 1 1 _ rfl rfl (news26 26) news_one c1 c2 c3 ?_))
        intro v' w3 hown3 hgrow3 _
        have Hst3 := hidd (rst_snoc (k' := k + 1) Hst2.out (by simp; omega) hown3 hgrow3 (by omega))
        clear hown3 hgrow3 Hst2 Hst hi hz0 hz1 hz2 hc0' hc1'
        go_wp2
        go_roundw
        case rel => exact ⟨k + 1, l ++ [(id, max m n)], true, by omega, by go_num, rfl, Hst3.out, fun h => (by cases h), Hf2⟩
        case measure => simp [intOf]; omega
      · have hcb : (cmpB s id == 0) = false := by simp; omega
        rw [if_neg (by omega)] at hfa
        cases pl with
        | true =>
          rw [if_neg (by simp)] at hfa
          have Hf2 := hidd (show (l ++ [(s, m)]) ++ fin id n (es.drop (k + 1)) true = raise es id n by rw [← Hf.out, hfa]; simp)
          clear hfa
          go_wp2_with fail
          refine (cmpStr_any _ _ _ hss hii).mono ?_
          rintro e w2 ⟨rfl, q, rfl⟩
          have Hst2 := hidd (rst_drewN Hst.out q)
          have c3 : w.heap.size ≤ ((wr.drewN q).alloc (.cells #[.string s, .int .u64 m] 26)).heap.size := by simp; omega
          go_wp2_with (at_builtin; refine wpList_append_own _ rfl (.tmp 56) (.tmp 61) 22 rfl w.heap.size 26 i0 _ 2 24 Try.underlying22 hi hz0 hz1 hz2 rfl (by decide) _ l.length (flat l) rfl (Hst2.out.1.alloc _) ⟨wr.heap.size, 0, none⟩ 1 1 _ rfl rfl (news26 26) news_one c1 c2 c3 ?_)
          intro v' w3 hown3 hgrow3 _
          have Hst3 := hidd (rst_snoc (k' := k + 1) Hst2.out (by simp; omega) hown3 hgrow3 (by omega))
          clear hown3 hgrow3 Hst2 Hst hi hz0 hz1 hz2 hc0' hc1'
          go_wp2
          go_roundw
          case rel => exact ⟨k + 1, l ++ [(s, m)], true, by omega, by go_num, rfl, Hst3.out, fun h => (by cases h), Hf2⟩
          case measure => simp [intOf]; omega
        | false =>
          rw [if_pos ⟨hc, rfl⟩] at hfa
          have hlk : l.length ≤ k := Hpl.out rfl
          by_cases hn0 : n = 0
          · have hnb : (n != 0) = false := by simp [hn0]
            rw [if_neg (by simp [hn0])] at hfa
            have Hf2 := hidd (show (l ++ [(s, m)]) ++ fin id n (es.drop (k + 1)) true = raise es id n by rw [← Hf.out, hfa]; simp)
            clear hfa hn0
            go_wp2_with fail
            refine (cmpStr_any _ _ _ hss hii).mono ?_
            rintro e w2 ⟨rfl, q, rfl⟩
            have Hst2 := hidd (rst_drewN Hst.out q)
            have c3 : w.heap.size ≤ ((wr.drewN q).alloc (.cells #[.string s, .int .u64 m] 26)).heap.size := by simp; omega
            go_wp2_with (at_builtin; refine wpList_append_own _ rfl (.tmp 56) (.tmp 61) 22 rfl w.heap.size 26 i0 _ 2 24 Try.underlying22 hi hz0 hz1 hz2 rfl (by decide) _ l.length (flat l) rfl (Hst2.out.1.alloc _) ⟨wr.heap.size, 0, none⟩ 1 1 _ rfl rfl (news26 26) news_one c1 c2 c3 ?_)
            intro v' w3 hown3 hgrow3 _
            have Hst3 := hidd (rst_snoc (k' := k + 1) Hst2.out (by simp; omega) hown3 hgrow3 (by omega))
            clear hown3 hgrow3 Hst2 Hst hi hz0 hz1 hz2 hc0' hc1'
            go_wp2
            go_roundw
            case rel => exact ⟨k + 1, l ++ [(s, m)], true, by omega, by go_num, rfl, Hst3.out, fun h => (by cases h), Hf2⟩
            case measure => simp [intOf]; omega
          · have hnb : (n != 0) = true := by simpa using hn0
            rw [if_pos hn0] at hfa
            have Hf2 := hidd (show ((l ++ [(id, n)]) ++ [(s, m)]) ++ fin id n (es.drop (k + 1)) true = raise es id n by rw [← Hf.out, hfa]; simp)
            clear hfa hn0
            go_wp2_with fail
            refine (cmpStr_any _ _ _ hss hii).mono ?_
            rintro e w2 ⟨rfl, q, rfl⟩
            have Hst2 := hidd (rst_drewN Hst.out q)
            have c3 : w.heap.size ≤ ((wr.drewN q).alloc (.cells #[.string id, .int .u64 n] 26)).heap.size := by simp; omega
            go_wp2_with (at_builtin; refine wpList_append_own _ rfl (.tmp 50) (.tmp 54) 22 rfl w.heap.size 26 i0 _ 2 24 Try.underlying22 hi hz0 hz1 hz2 rfl (by decide) _ l.length (flat l) rfl (Hst2.out.1.alloc _) ⟨wr.heap.size, 0, none⟩ 1 1 _ rfl rfl (news26 26) news_one c1 c2 c3 ?_)
            intro v' w3 hown3 hgrow3 _
            have hst3 := rst_snoc (k' := k) Hst2.out (by simp; omega) hown3 hgrow3 hlk
            obtain ⟨l2, hl2⟩ : ∃ l2, l2 = l ++ [(id, n)] := ⟨_, rfl⟩
            have hll2 : l2.length ≤ k + 1 := by rw [hl2, List.length_append]; simp; omega
            rw [← hl2] at hst3 Hf2
            have Hst3 := hidd hst3
            have hbel3 := hst3.2.2
            have hbs3 := hbel3.size
            have hd0 : w3.cell? ⟨b', off + k * 2, none⟩ = some (.string s) := (hbel3.cell (p := ⟨b', off + k * 2, none⟩) hb0).trans (((hbel.cell (p := ⟨b', off + k * 2, none⟩) hb0).symm).trans hc0')
            have hd1 : w3.cell? ⟨b', off + k * 2 + 1, none⟩ = some (.int .u64 m) := (hbel3.cell (p := ⟨b', off + k * 2 + 1, none⟩) hb0).trans (((hbel.cell (p := ⟨b', off + k * 2 + 1, none⟩) hb0).symm).trans hc1')
            have d1 : l2.length + 1 ≤ maxLen := by unfold maxLen; omega
            have d2 : (l2.length + 1) * 24 ≤ 140737488355328 := by omega
            have d3 : w.heap.size ≤ (w3.alloc (.cells #[.string s, .int .u64 m] 26)).heap.size := by simp; omega
            clear hown3 hgrow3 hst3 Hst2 Hst hc0' hc1' hl2
            go_wp2_with (at_builtin; refine wpList_append_own _ rfl (.tmp 56) (.tmp 61) 22 rfl w.heap.size 26 i0 _ 2 24 Try.underlying22 hi hz0 hz1 hz2 rfl (by decide) _ l2.length (flat l2) rfl (Hst3.out.1.alloc _) ⟨w3.heap.size, 0, none⟩ 1 1 _ rfl rfl (news26 26) news_one d1 d2 d3 ?_)
            intro v'' w4 hown4 hgrow4 _
            have Hst4 := hidd (rst_snoc (k' := k + 1) Hst3.out (by omega) hown4 hgrow4 hll2)
            clear hown4 hgrow4 Hst3 hi hz0 hz1 hz2 hd0 hd1
            go_wp2
            go_roundw
            case rel => exact ⟨k + 1, l2 ++ [(s, m)], true, by omega, by go_num, rfl, Hst4.out, fun h => (by cases h), Hf2⟩
            case measure => simp [intOf]; omega
    · obtain rfl : k = es.length := by omega
      have hf := Hf.out
      rw [List.drop_length, fin] at hf
      clear he hsz hlt0
      have hll : l.length ≤ es.length + 1 := Hst.out.2.1
      have c1 : l.length + 1 ≤ maxLen := by unfold maxLen; omega
      have c2 : (l.length + 1) * 24 ≤ 140737488355328 := by omega
      cases pl with
      | true =>
        rw [if_neg (by simp), List.append_nil] at hf
        have Hf2 := hidd hf
        clear hf hi hz0 hz1 hz2
        go_wp2
        go_ret
        exact raised_of Hst.out.1 hbel Hf2.out
      | false =>
        by_cases hn0 : n = 0
        · have hnb : (n != 0) = false := by simp [hn0]
          rw [if_neg (by simp [hn0]), List.append_nil] at hf
          have Hf2 := hidd hf
          clear hf hi hz0 hz1 hz2 hn0
          go_wp2
          go_ret
          exact raised_of Hst.out.1 hbel Hf2.out
        · have hnb : (n != 0) = true := by simpa using hn0
          rw [if_pos ⟨rfl, hn0⟩] at hf
          have Hf2 := hidd hf
          have hlk : l.length ≤ es.length := Hpl.out rfl
          clear hf hn0
          have c3 : w.heap.size ≤ (wr.alloc (.cells #[.string id, .int .u64 n] 26)).heap.size := by simp; omega
          go_wp2_with (at_builtin; refine wpList_append_own _ rfl (.tmp 69) (.tmp 73) 22 rfl w.heap.size 26 i0 _ 2 24 Try.underlying22 hi hz0 hz1 hz2 rfl (by decide) _ l.length (flat l) rfl (Hst.out.1.alloc _) ⟨wr.heap.size, 0, none⟩ 1 1 _ rfl rfl (news26 26) news_one c1 c2 c3 ?_)
          intro v' w3 hown3 hgrow3 _
          have Hst3 := hidd (rst_snoc (k' := es.length) Hst.out (by omega) hown3 hgrow3 hlk)
          clear hown3 hgrow3 Hst hi hz0 hz1 hz2
          go_wp2
          go_ret
          exact raised_of Hst3.out.1 Hst3.out.2.2 Hf2.out

end Go.Proofs.Qxb6608633a
