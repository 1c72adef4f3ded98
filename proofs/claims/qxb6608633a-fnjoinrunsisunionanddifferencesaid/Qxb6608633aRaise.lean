/- (*Vector).Raise. -/
import Derived.Test.Qxb6608633aIns3
import Derived.Test.Qxb6608633aRaiseL
namespace Go.Proofs.Qxb6608633a
open Go.RowKit

theorem insert_any (g h i cap B : Nat) (es : List Ent) (s : ByteArray) (m : Int) (w : World) (hown : w.ownsRow B 84 2 (.slice (some ⟨g, 0, none⟩) es.length cap) es.length (flat es))
    (hh : w.heap[h]? = some (.cells #[.string s, .int .u64 m] 84 (0, 0))) (hhg : h ≠ g) (hi : i ≤ es.length) (hn : es.length ≤ 1048576) :
    Calls Try.prog 43 #[.slice (some ⟨g, 0, none⟩) es.length cap, .int .i64 i, .slice (some ⟨h, 0, none⟩) 1 1] w (InsRet w B g es.length i (flat es) s m) := by
  obtain ⟨h0, h1, _⟩ := cells_of_block hh
  by_cases h2 : i = es.length
  · subst h2; exact ins_end g h es.length cap B (flat es) s m w hown h0 h1 hn
  · by_cases h3 : cap < es.length + 1
    · exact ins_grow g h es.length i cap B (flat es) s m w hown h0 h1 (by omega) hn h3 (flat_one es)
    · exact ins_room g h es.length i cap B (flat es) s m w hown hh hhg (by omega) hn (by omega) (flat_one es)

theorem Vec.below {w w' : World} {B p : Nat} {es : List Ent} (h : Vec w B p es) (hb : Below w.heap.size w w') : Vec w' B p es := by
  obtain ⟨g, cap, xs, h1, h2, h3, h4⟩ := h
  have hp : p < w.heap.size := (Array.getElem?_eq_some_iff.1 h2).1
  refine ⟨g, cap, xs, h1, (hb.block p hp).trans h2, ?_, h4⟩
  refine h3.kept ⟨hb.os, hb.tape, hb.output, hb.size, fun k hk _ => hb.block k hk⟩ (row := none) (.inr (by simp [Value.ownBlock]))

theorem vec_ins {w : World} {B p g n cap : Nat} {v : Value} {es : List Ent} {xs : List Value} (hBp : B ≤ p) (hp : w.heap[p]? = some (.cells #[v] 86 (0, 0))) (hl : es.length = n) (hx : flat es = xs) (hown : w.ownsRow B 84 2 (.slice (some ⟨g, 0, none⟩) n cap) n xs) :
    Vec (w.setCell ⟨p, 0, none⟩ (.slice (some ⟨g, 0, none⟩) n cap)) B p es := by
  subst hl hx
  obtain ⟨cur, _, hcur, _⟩ := own_parts hown
  have hpg : p ≠ g := by intro h; subst h; rw [hp] at hcur; cases hcur
  exact ⟨g, cap, flat es, hBp, one_setCell hp, ownsRow_setCell_other hown (by simp [Value.ownBlock]; omega) _, flatTo_flat es⟩

theorem ins_len (es : List Ent) (i : Nat) (e : Ent) (h : i ≤ es.length) : (es.take i ++ (e :: es.drop i)).length = es.length + 1 := by
  rw [List.length_append, List.length_cons, List.length_take, List.length_drop]; omega

theorem ins_flat (es : List Ent) (i : Nat) (s : ByteArray) (n : Int) : flat (es.take i ++ ((s, n) :: es.drop i)) = (flat es).take (i * 2) ++ ([.string s, .int .u64 n] ++ (flat es).drop (i * 2)) := by
  rw [flat_append, flat, flat_take, flat_drop]; rfl

theorem found_at {es : List Ent} {id : ByteArray} {i : Nat} (h : foundAt es id i = true) : ∃ s m, es[i]? = some (s, m) ∧ cmpB s id = 0 := by
  unfold foundAt at h
  split at h
  · rename_i s m he; exact ⟨s, m, he, by simpa using h⟩
  · cases h

theorem set_same {es : List Ent} {i : Nat} {e : Ent} (h : es[i]? = some e) : es.set i e = es := by
  apply List.ext_getElem?
  intro j
  by_cases hj : i = j
  · subst hj; rw [List.getElem?_set_self (List.getElem?_eq_some_iff.1 h).1, h]
  · rw [List.getElem?_set_ne hj]

/-- What Raise leaves. -/
def RaiseRet (w : World) (B p : Nat) (es : List Ent) (id : ByteArray) (n : Int) (e : Ending) (w' : World) : Prop :=
  e = .returned (.bool (raisedB es id n)) ∧ Vec w' B p (raise es id n) ∧ Below B w w'

set_option maxHeartbeats 1000000 in
set_option maxRecDepth 100000 in
theorem raise_zero (B p : Nat) (es : List Ent) (id : ByteArray) (w : World) (hv : Vec w B p es) (hB : B ≤ w.heap.size) (hid : id.toList.isEmpty = false) :
    Calls Try.prog 14 #[.pointer (some ⟨p, 0, none⟩), .agg #[.string id], .int .u64 0] w (RaiseRet w B p es id 0) := by
  have Hv := hidd hv
  clear hv
  go_enter Try.func14, Try.ntmps14
  go_wp2_with (go_at_call 41; refine (isZero_any _ _).mono ?_; rintro e w' ⟨rfl, rfl⟩)
  go_ret
  have hb : Below w.heap.size w ((w.alloc (.cells #[.string id] 30)).alloc (.cells #[.string id] 30)) := ((Below.refl _ _).alloc (Nat.le_refl _) _).alloc (by simp) _
  exact ⟨rfl, by unfold raise; rw [if_pos rfl]; exact Hv.out.below hb, hb.mono hB⟩

set_option maxHeartbeats 1000000 in
set_option maxRecDepth 100000 in
theorem raise_pos (B p : Nat) (es : List Ent) (id : ByteArray) (n : Int) (w : World) (hv : Vec w B p es) (hB : B ≤ w.heap.size) (hid : id.toList.isEmpty = false) (hn : (n == 0) = false) (hpos : 0 < n) (ha : Asc es) (hl : es.length ≤ 1048576) :
    Calls Try.prog 14 #[.pointer (some ⟨p, 0, none⟩), .agg #[.string id], .int .u64 n] w (RaiseRet w B p es id n) := by
  have hb : Below w.heap.size w ((w.alloc (.cells #[.string id] 30)).alloc (.cells #[.string id] 30)) := ((Below.refl _ _).alloc (Nat.le_refl _) _).alloc (by simp) _
  have hv1 := hv.below hb
  have Hv1 := hidd hv1
  have Ha := hidd ha
  clear hv ha hv1
  go_enter Try.func14, Try.ntmps14
  go_wp2_with (go_at_call 41; refine (isZero_any _ _).mono ?_; rintro e w' ⟨rfl, rfl⟩)
  refine (search_any B p es id _ Hv1.out hl Ha.out).mono ?_
  rintro e w2 ⟨i, hlow, rfl, hb2⟩
  have hv2 : Vec w2 B p es := Hv1.out.below hb2
  have hbw : Below w.heap.size w w2 := hb.trans (hb2.mono (by simp; omega))
  have hbox : w2.cell? ⟨w.heap.size, 0, none⟩ = some (.string id) := (hb2.cell (p := ⟨w.heap.size, 0, none⟩) (by simp; omega)).trans (by simp)
  have hsz : w.heap.size < w2.heap.size := by have := hb2.size; simp at this; omega
  obtain ⟨g, cap, xs, hBp, hp, hown, hfl⟩ := hv2
  obtain rfl := flat_of hfl
  have hplt : p < w2.heap.size := (Array.getElem?_eq_some_iff.1 hp).1
  have hglt : g < w2.heap.size := (hown.lt g rfl).2
  have hBg : B ≤ g := (hown.lt g rfl).1
  obtain ⟨cur, hcur⟩ : ∃ cur, w2.heap[g]? = some (.cells cur 84 (0, 0)) := by obtain ⟨cur, _, h, _⟩ := own_parts hown; exact ⟨cur, h⟩
  have hpg : p ≠ g := by intro h; subst h; rw [hp] at hcur; cases hcur
  have hpc : w2.cell? ⟨p, 0, none⟩ = some (.slice (some ⟨g, 0, none⟩) es.length cap) := cell_of_row w2 p 0 _ 86 (0, 0) hp
  have hpf : w2.frozen? ⟨p, 0, none⟩ = false := by simp [World.frozen?, hp]
  have hn0 : n ≠ 0 := by simpa using hn
  have Hlow := hidd hlow
  have Hp := hidd hp
  have Hown := hidd hown
  clear hfl hlow hb2 Hv1 hp hown hcur hb
  cases hfd : foundAt es id i with
  | false =>
    have hret : raisedB es id n = true := by
      unfold raisedB; rw [if_neg hn0, count_new es id i Ha.out Hlow.out hfd]; simpa using hpos
    have hral : raise es id n = es.take i ++ ((id, n) :: es.drop i) := by unfold raise; rw [if_neg hn0, raiseR_new es id n i Hlow.out hfd]
    have Hret := hidd hret
    have Hral := hidd hral
    have Hfd := hidd hfd
    have HownA := hidd ((Hown.out.alloc (.cells #[.string id, .int .u64 n] 84)).drew)
    have HhA : Hid ((w2.alloc (.cells #[.string id, .int .u64 n] 84)).drew.heap[w2.heap.size]? = some (.cells #[.string id, .int .u64 n] 84 (0, 0))) := heap_alloc_new w2 _
    have hile : i ≤ es.length := Hlow.out.1
    have hgne : w2.heap.size ≠ g := by omega
    have hpcA : Hid ((w2.alloc (.cells #[.string id, .int .u64 n] 84)).drew.cell? ⟨p, 0, none⟩ = some (.slice (some ⟨g, 0, none⟩) es.length cap)) := (World.cell?_alloc_past _ _ _ hplt).trans hpc
    have hpfA : Hid ((w2.alloc (.cells #[.string id, .int .u64 n] 84)).drew.heap[p]? = some (.cells #[.slice (some ⟨g, 0, none⟩) es.length cap] 86 (0, 0))) := (Below.heap_alloc w2 _ p hplt).trans Hp.out
    clear hfd hret hral
    go_wp2_with fail
    go_region_with (go_at_call 43; refine (insert_any g _ i cap B es id n _ HownA.out HhA.out hgne hile hl).mono ?_; rintro e w3 ⟨g', cap', rfl, hown3, hgrow3⟩; have hp3 := hidd ((hgrow3.block p (by simp; omega) (by simpa using hpg)).trans hpfA.out); have hpc3 : w3.cell? ⟨p, 0, none⟩ = some (.slice (some ⟨g, 0, none⟩) es.length cap) := cell_of_row w3 p 0 _ 86 (0, 0) hp3.out; have hpf3 : w3.frozen? ⟨p, 0, none⟩ = false := by simp [World.frozen?, hp3.out])
    all_goals
      go_wp2
      go_ret
      refine ⟨by rw [Hret.out]; rfl, ?_, ?_⟩
      · rw [Hral.out]
        exact vec_ins hBp hp3.out (ins_len es i _ hile) (ins_flat es i id n) hown3
      · exact (((((hbw.mono hB).alloc (by omega) _).drew.grown hgrow3 (by simp; omega) (fun k h => by cases h; exact hBg))).setCell hBp _)
  | true =>
    obtain ⟨s, m, hse, hs0⟩ := found_at hfd
    have hilt : i < es.length := (List.getElem?_eq_some_iff.1 hse).1
    have hcnt : countL es id = m := count_old es id i s m Hlow.out hse hs0
    have hral : raise es id n = es.set i (s, max m n) := by unfold raise; rw [if_neg hn0, raiseR_old es id n i s m Hlow.out hse hs0]
    have hret : raisedB es id n = decide (m < n) := by unfold raisedB; rw [if_neg hn0, hcnt]
    have hcell : w2.cell? ⟨g, i * 2 + 1, none⟩ = some (.int .u64 m) := by rw [Hown.out.cellAt (i * 2 + 1) (by omega)]; exact (flat_at es i s m hse).2
    have hfro := Hown.out.frozenAt (i * 2 + 1)
    have Hse := hidd hse
    have Hral := hidd hral
    have Hret := hidd hret
    clear hse hs0 hcnt hral hret hfd
    by_cases hmn : n ≤ m
    · go_wp2
      go_ret
      refine ⟨by rw [Hret.out, decide_eq_false (show ¬ m < n by omega)]; rfl, ?_, hbw.mono hB⟩
      rw [Hral.out, show max m n = m by omega, set_same Hse.out]
      exact ⟨g, cap, flat es, hBp, Hp.out, Hown.out, flatTo_flat es⟩
    · go_wp2
      go_ret
      refine ⟨by rw [Hret.out, decide_eq_true (show m < n by omega)]; rfl, ?_, (hbw.mono hB).setCell (by exact hBg) _⟩
      rw [Hral.out, show max m n = n by omega]
      refine ⟨g, cap, flat (es.set i (s, n)), hBp, ?_, ?_, flatTo_flat _⟩
      · rw [List.length_set, Below.heap_setCell _ _ _ _ hpg]; exact Hp.out
      · rw [List.length_set, ← flat_set es i s m n Hse.out]; exact (Hown.out.stored _ _).1

theorem raise_any (B p : Nat) (es : List Ent) (id : ByteArray) (n : Int) (w : World) (hv : Vec w B p es) (hB : B ≤ w.heap.size) (hid : id.toList.isEmpty = false) (hn : 0 ≤ n) (ha : Asc es) (hl : es.length ≤ 1048576) :
    Calls Try.prog 14 #[.pointer (some ⟨p, 0, none⟩), .agg #[.string id], .int .u64 n] w (RaiseRet w B p es id n) := by
  by_cases h : n = 0
  · subst h; exact raise_zero B p es id w hv hB hid
  · exact raise_pos B p es id n w hv hB hid (by simpa using h) (by omega) ha hl

end Go.Proofs.Qxb6608633a
