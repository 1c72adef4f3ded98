/- ZZContextFields in general. -/
import Derived.Test.Qxb6608633aCtxWalk
import Derived.Test.Qxb6608633aOneForm
namespace Go.Proofs.Qxb6608633a
open Go.RowKit

def loR (rs : List Run) : List Value := rs.map fun r => .int .u64 r.1
def hiR (rs : List Run) : List Value := rs.map fun r => .int .u64 r.2
theorem losV_take {gs : List Grp} {e : Nat} {g : Grp} (h : gs[e]? = some g) : losV (gs.take (e + 1)) = losV (gs.take e) ++ loR g.2 := by
  unfold losV loR
  rw [rows_take h, List.map_append, List.map_map]; rfl
theorem hisV_take {gs : List Grp} {e : Nat} {g : Grp} (h : gs[e]? = some g) : hisV (gs.take (e + 1)) = hisV (gs.take e) ++ hiR g.2 := by
  unfold hisV hiR
  rw [rows_take h, List.map_append, List.map_map]; rfl
theorem idsV_take {gs : List Grp} {e : Nat} {g : Grp} (h : gs[e]? = some g) : idsV (gs.take (e + 1)) = idsV (gs.take e) ++ [.string g.1] := by
  unfold idsV
  rw [List.take_add_one, h]; simp
theorem cntV_take {gs : List Grp} {e : Nat} {g : Grp} (h : gs[e]? = some g) : cntV (gs.take (e + 1)) = cntV (gs.take e) ++ [.int .i64 (g.2.length : Nat)] := by
  unfold cntV
  rw [List.take_add_one, h]; simp
theorem loR_take {rs : List Run} {m : Nat} {r : Run} (h : rs[m]? = some r) : loR (rs.take (m + 1)) = loR (rs.take m) ++ [.int .u64 r.1] := by
  unfold loR
  rw [List.take_add_one, h]; simp
theorem hiR_take {rs : List Run} {m : Nat} {r : Run} (h : rs[m]? = some r) : hiR (rs.take (m + 1)) = hiR (rs.take m) ++ [.int .u64 r.2] := by
  unfold hiR
  rw [List.take_add_one, h]; simp

/-- The two slices lie in two rows. -/
def Apart (v u : Value) : Prop := ∀ k, v.ownBlock = some k → u.ownBlock ≠ some k
theorem Apart.symm {v u : Value} (h : Apart v u) : Apart u v := fun k h1 h2 => h k h2 h1
theorem Apart.ne {v u : Value} (h : Apart v u) : v.ownBlock = none ∨ v.ownBlock ≠ u.ownBlock := by
  cases hv : v.ownBlock with
  | none => exact .inl rfl
  | some k => exact .inr (fun e => h k hv e.symm)
theorem Apart.app {v u v' : Value} {H : Nat} (h : Apart v u) (hv : v'.ownBlock = v.ownBlock ∨ v'.ownBlock = some H) (hu : ∀ k, u.ownBlock = some k → k < H) : Apart v' u := by
  intro k h1 h2
  rcases hv with e | e
  · exact h k (by rw [← e]; exact h1) h2
  · rw [e] at h1; injection h1 with h1; have := hu k h2; omega
theorem own_not {w : World} {B e size n D t : Nat} {v : Value} {xs : List Value} {cs : Array Value} (h : w.ownsRow B e size v n xs) (hd : w.heap[D]? = some (.cells cs t)) (ht : t ≠ e) : some D ≠ v.ownBlock := by
  rcases h.2 with ⟨rfl, _⟩ | ⟨g, c, cur, rfl, _, hg, _⟩
  · simp [Value.ownBlock]
  · intro e'
    simp [Value.ownBlock] at e'
    subst e'; rw [hd] at hg; cases hg; exact ht rfl

theorem Trees.at {w : World} {ps : List Etr} {gs : List Grp} {n : Nat} {g : Grp} (h : Trees w ps gs) (hn : gs[n]? = some g) : ∃ q T, ps[n]? = some (g.1, q) ∧ RTree w q T ∧ T.list = g.2 := by
  have hlt := (List.getElem?_eq_some_iff.1 hn).1
  have hl := h.length
  obtain ⟨p, hp⟩ : ∃ p, ps[n]? = some p := ⟨_, List.getElem?_eq_getElem (by omega)⟩
  obtain ⟨T, hT, hTl⟩ := h.2 n p g hp hn
  have h1 : (ps.map (·.1))[n]? = (gs.map (·.1))[n]? := by rw [h.1]
  simp [hp, hn] at h1
  exact ⟨p.2, T, by rw [hp, ← h1], hT, hTl⟩

/-- The context's fields handed out. -/
def FieldsRet (w : World) (gs : List Grp) (e : Ending) (w' : World) : Prop :=
  ∃ a b l h, e = .returned (.tuple #[a, b, l, h, .string ⟨#[]⟩, .int .u64 0, .int .u64 0]) ∧ SlS w' a (idsV gs) ∧ SlS w' b (cntV gs) ∧ SlS w' l (losV gs) ∧ SlS w' h (hisV gs) ∧ Below w.heap.size w w'

/-- The four rows grown so far. -/
def Rows4 (B : Nat) (wr : World) (a b l h : Value) (n K : Nat) (A C L H : List Value) : Prop :=
  wr.ownsRow B 9 1 a n A ∧ wr.ownsRow B 3 1 b n C ∧ wr.ownsRow B 23 1 l K L ∧ wr.ownsRow B 23 1 h K H ∧ Apart l h

theorem Rows4.to {B : Nat} {w w' : World} {a b l h : Value} {n K : Nat} {A C L H : List Value} (k : Below w.heap.size w w') (r : Rows4 B w a b l h n K A C L H) : Rows4 B w' a b l h n K A C L H :=
  ⟨own_to k r.1, own_to k r.2.1, own_to k r.2.2.1, own_to k r.2.2.2.1, r.2.2.2.2⟩

set_option maxHeartbeats 4000000 in
set_option maxRecDepth 100000 in
theorem fields_any (p : Option Addr) (T : BT Etr) (gs : List Grp) (hg : Good gs) (w : World) (hX : XTree w p T) (hT : Trees w T.list gs) :
    Calls Try.prog 44 #[.agg #[.pointer p, .string ⟨#[]⟩, .int .u64 0, .int .u64 0]] w (FieldsRet w gs) := by
  have hbw := below_self w (.cells #[.pointer p, .string ⟨#[]⟩, .int .u64 0, .int .u64 0] 98)
  have b0 : (w.alloc (.cells #[.pointer p, .string ⟨#[]⟩, .int .u64 0, .int .u64 0] 98)).cell? ⟨w.heap.size, 0, none⟩ = some (.pointer p) := by simp
  have b1 : (w.alloc (.cells #[.pointer p, .string ⟨#[]⟩, .int .u64 0, .int .u64 0] 98)).cell? ⟨w.heap.size, 1, none⟩ = some (.string ⟨#[]⟩) := by simp
  have b2 : (w.alloc (.cells #[.pointer p, .string ⟨#[]⟩, .int .u64 0, .int .u64 0] 98)).cell? ⟨w.heap.size, 2, none⟩ = some (.int .u64 0) := by simp
  have b3 : (w.alloc (.cells #[.pointer p, .string ⟨#[]⟩, .int .u64 0, .int .u64 0] 98)).cell? ⟨w.heap.size, 3, none⟩ = some (.int .u64 0) := by simp
  have HX := hidd (hX.to hbw)
  have HT := hidd (hT.to hbw)
  have HTl := hidd hT.length
  have Hg := hidd hg
  have hlen := hg.len
  have hcnt := hg.count
  obtain ⟨i9, h9, h90, h91, h92⟩ := info_parts Try.info9
  obtain ⟨i3, h3, h30, h31, h32⟩ := info_parts Try.info3
  obtain ⟨i23, hi, hz0, hz1, hz2⟩ := info_parts Try.info23
  clear hX hT hg
  go_enter Try.func44, Try.ntmps44
  go_wp2
  generalize w.alloc (.cells #[.pointer p, .string ⟨#[]⟩, .int .u64 0, .int .u64 0] 98) = w0 at *
  have hfin : ∀ wr, Below w0.heap.size w0 wr → Below w.heap.size w wr := fun wr h => hbw.trans (h.mono hbw.size)
  generalize w.heap.size = X at b0 b1 b2 b3 ⊢
  go_loopw [2, 3, 4, 5, 9] (fun a b l h i wr => ∃ n : Nat, n ≤ gs.length ∧ i = .int .i64 n ∧ Rows4 w0.heap.size wr a b l h n (rows (gs.take n)).length (idsV (gs.take n)) (cntV (gs.take n)) (losV (gs.take n)) (hisV (gs.take n)) ∧ Below w0.heap.size w0 wr) (fun _ _ _ _ i _ => gs.length - (intOf i).toNat)
  case atStart => exact ⟨0, Nat.zero_le _, rfl, ⟨World.ownsRow_nil _ _ _ _, World.ownsRow_nil _ _ _ _, World.ownsRow_nil _ _ _ _, World.ownsRow_nil _ _ _ _, fun k h => by cases h⟩, Below.refl _ _⟩
  case round =>
    obtain ⟨n, hn, rfl, hrows, hbel⟩ := hrel
    have Hrows := hidd hrows
    have k0 := cell_to hbel b0
    have HXr := hidd (HX.out.to hbel)
    clear hrows
    by_cases hlt : n < gs.length
    · obtain ⟨g, hgn⟩ : ∃ g, Hid (gs[n]? = some g) := ⟨gs[n], hidd (List.getElem?_eq_getElem hlt)⟩
      obtain ⟨q, Tr, hq, hR0, hTr⟩ := HT.out.at hgn.out
      have Hq := hidd hq
      have HR0 := hidd hR0
      have HTr := hidd hTr
      have hroom := rows_room hgn.out
      obtain ⟨K, HK⟩ : ∃ K, Hid ((rows (gs.take n)).length = K) := ⟨_, hidd rfl⟩
      obtain ⟨L, HL⟩ : ∃ L, Hid (g.2.length = L) := ⟨_, hidd rfl⟩
      rw [HK.out] at Hrows hroom
      rw [HL.out] at hroom
      clear hq hR0 hTr
      go_wp2_with fail
      refine (lenX_any p T wr HXr.out).mono ?_
      rintro e wq ⟨rfl, hwq⟩
      rw [hwq, HTl.out]
      clear hwq wq
      go_wp2_with fail
      refine (atX_any p T n (g.1, q) wr HXr.out Hq.out (by rw [HTl.out]; omega)).mono ?_
      rintro e w1 ⟨rfl, hb1⟩
      have hbA := below_to hbel hb1 hbel.size
      have ka := below_self w1 (.cells #[.string g.1, .pointer q] 116)
      have hbB := below_to hbA ka hbA.size
      have e0 : (w1.alloc (.cells #[.string g.1, .pointer q] 116)).cell? ⟨w1.heap.size, 0, none⟩ = some (.string g.1) := by simp
      have e1 : (w1.alloc (.cells #[.string g.1, .pointer q] 116)).cell? ⟨w1.heap.size, 1, none⟩ = some (.pointer q) := by simp
      have HD := hidd (World.alloc_heap_new w1 (.cells #[.string g.1, .pointer q] 116))
      obtain ⟨ra, rb, rl, rh, hap⟩ := (Hrows.out.to hb1).to ka
      have Ra := hidd ra
      have Rb := hidd rb
      have Rl := hidd rl
      have Rh := hidd rh
      have Hap := hidd hap
      have hDs : w0.heap.size ≤ w1.heap.size := hbA.size
      clear Hrows HXr hb1 hbA ka hbel ra rb rl rh hap
      have hbs := hbB.size
      have c1 : n + 1 ≤ maxLen := by unfold maxLen; omega
      have c2 : (n + 1) * 16 ≤ 140737488355328 := by omega
      have c2' : (n + 1) * 8 ≤ 140737488355328 := by omega
      have c3 : w0.heap.size ≤ ((w1.alloc (.cells #[.string g.1, .pointer q] 116)).alloc (.cells #[.string g.1] 9)).heap.size := by simp; omega
      go_wp2_with (at_builtin; refine wpList_append_own _ rfl (.tmp 24) (.tmp 28) 32 rfl w0.heap.size 9 i9 _ 1 16 Try.underlying32 h9 h90 h91 h92 rfl (by decide) _ n _ rfl (Ra.out.alloc _) ⟨w1.heap.size + 1, 0, none⟩ 1 1 [.string g.1] rfl rfl (news1 (by simp)) (oneV rfl) c1 c2 c3 ?_)
      intro a' w3 hown hgrow _
      generalize w1.alloc (.cells #[.string g.1, .pointer q] 116) = w2 at *
      generalize w1.heap.size = D at *
      have Ra3 : Hid (w3.ownsRow w0.heap.size 9 1 a' (n + 1) (idsV (gs.take (n + 1)))) := by
        have h := idsV_take hgn.out
        rw [h]; exact hown
      have Rb3 := hidd ((Rb.out.alloc (.cells #[.string g.1] 9)).kept hgrow (own_ne Rb.out Ra.out (by decide)))
      have Rl3 := hidd ((Rl.out.alloc (.cells #[.string g.1] 9)).kept hgrow (own_ne Rl.out Ra.out (by decide)))
      have Rh3 := hidd ((Rh.out.alloc (.cells #[.string g.1] 9)).kept hgrow (own_ne Rh.out Ra.out (by decide)))
      have hb3 : Below w0.heap.size w0 w3 := (hbB.alloc hbs _).grown hgrow (by simp; omega) (fun j h => (Ra.out.lt j h).1)
      have hD2 := (below_self w2 (.cells #[.string g.1] 9)).block D (Array.getElem?_eq_some_iff.1 HD.out).1
      have HD3 : Hid (w3.heap[D]? = some (.cells #[.string g.1, .pointer q] 116)) := (hgrow.block D (by have := (Array.getElem?_eq_some_iff.1 HD.out).1; simp; omega) (own_not Ra.out HD.out (by decide))).trans (hD2.trans HD.out)
      have e13 : w3.cell? ⟨D, 1, none⟩ = some (.pointer q) := by simp [World.cell?, HD3.out]
      have hs3 := hb3.size
      clear hown hgrow hbB hD2 Ra Rb Rl Rh HD e0 e1 hbs c3 c2
      go_wp2_with fail
      refine (lenR_any q Tr w3 (HR0.out.to hb3)).mono ?_
      rintro e wq ⟨rfl, hwq⟩
      rw [hwq, HTr.out, HL.out]
      clear hwq wq
      have c3 : w0.heap.size ≤ (w3.alloc (.cells #[.int .i64 (L : Nat)] 3)).heap.size := by simp; omega
      go_wp2_with (at_builtin; refine wpList_append_own _ rfl (.tmp 30) (.tmp 34) 53 rfl w0.heap.size 3 i3 _ 1 8 Try.underlying53 h3 h30 h31 h32 rfl (by decide) _ n _ rfl (Rb3.out.alloc _) ⟨w3.heap.size, 0, none⟩ 1 1 [.int .i64 (L : Nat)] rfl rfl (news1 rfl) (oneV rfl) c1 c2' c3 ?_)
      intro b' w4 hown hgrow _
      have Rb4 : Hid (w4.ownsRow w0.heap.size 3 1 b' (n + 1) (cntV (gs.take (n + 1)))) := by
        have h := cntV_take hgn.out
        rw [h, HL.out]; exact hown
      have Ra4 := hidd ((Ra3.out.alloc (.cells #[.int .i64 (L : Nat)] 3)).kept hgrow (own_ne Ra3.out Rb3.out (by decide)))
      have Rl4 := hidd ((Rl3.out.alloc (.cells #[.int .i64 (L : Nat)] 3)).kept hgrow (own_ne Rl3.out Rb3.out (by decide)))
      have Rh4 := hidd ((Rh3.out.alloc (.cells #[.int .i64 (L : Nat)] 3)).kept hgrow (own_ne Rh3.out Rb3.out (by decide)))
      have hb4 : Below w0.heap.size w0 w4 := (hb3.alloc hs3 _).grown hgrow (by simp; omega) (fun j h => (Rb3.out.lt j h).1)
      have hD2 := (below_self w3 (.cells #[.int .i64 (L : Nat)] 3)).block D (Array.getElem?_eq_some_iff.1 HD3.out).1
      have HD4 : Hid (w4.heap[D]? = some (.cells #[.string g.1, .pointer q] 116)) := (hgrow.block D (by have := (Array.getElem?_eq_some_iff.1 HD3.out).1; simp; omega) (own_not Rb3.out HD3.out (by decide))).trans (hD2.trans HD3.out)
      clear hown hgrow hb3 hD2 Ra3 Rb3 Rl3 Rh3 HD3 e13 hs3 c3
      go_wp2_with fail
      go_loopw [4, 5, 11] (fun l h j wr => ∃ m : Nat, m ≤ L ∧ j = .int .i64 m ∧ Rows4 w0.heap.size wr a' b' l h (n + 1) (K + m) (idsV (gs.take (n + 1))) (cntV (gs.take (n + 1))) (losV (gs.take n) ++ loR (g.2.take m)) (hisV (gs.take n) ++ hiR (g.2.take m)) ∧ wr.heap[D]? = some (.cells #[.string g.1, .pointer q] 116) ∧ Below w0.heap.size w0 wr) (fun _ _ j _ => L - (intOf j).toNat)
      case atStart => exact ⟨0, Nat.zero_le _, rfl, ⟨Ra4.out, Rb4.out, by simpa [loR] using Rl4.out, by simpa [hiR] using Rh4.out, Hap.out⟩, HD4.out, hb4⟩
      case round =>
        clear Ra4 Rb4 Rl4 Rh4 HD4 Hap
        obtain ⟨m, hm, rfl, hr4, hD, hbel⟩ := hrel
        have HD := hidd hD
        have e1 : wr.cell? ⟨D, 1, none⟩ = some (.pointer q) := by simp [World.cell?, hD]
        have Hr4 := hidd hr4
        have HRr := hidd (HR0.out.to hbel)
        clear hD hr4
        by_cases hml : m < L
        · obtain ⟨r, hr⟩ : ∃ r, Hid (g.2[m]? = some r) := ⟨g.2[m]'(by rw [HL.out]; exact hml), hidd (List.getElem?_eq_getElem _)⟩
          go_wp2_with fail
          refine (lenR_any q Tr wr HRr.out).mono ?_
          rintro e wq ⟨rfl, hwq⟩
          rw [hwq, HTr.out, HL.out]
          clear hwq wq
          go_wp2_with fail
          refine (atR_any q Tr m r wr HRr.out (by rw [HTr.out]; exact hr.out) (by rw [HTr.out, HL.out]; omega)).mono ?_
          rintro e w1 ⟨rfl, hb1⟩
          have hbA := below_to hbel hb1 hbel.size
          have ka := below_self w1 (.cells #[.int .u64 r.1, .int .u64 r.2] 94)
          have hbB := below_to hbA ka hbA.size
          have f0 : (w1.alloc (.cells #[.int .u64 r.1, .int .u64 r.2] 94)).cell? ⟨w1.heap.size, 0, none⟩ = some (.int .u64 r.1) := by simp
          have f1 : (w1.alloc (.cells #[.int .u64 r.1, .int .u64 r.2] 94)).cell? ⟨w1.heap.size, 1, none⟩ = some (.int .u64 r.2) := by simp
          have HF := hidd (World.alloc_heap_new w1 (.cells #[.int .u64 r.1, .int .u64 r.2] 94))
          obtain ⟨ra, rb, rl, rh, hap⟩ := (Hr4.out.to hb1).to ka
          have Ra := hidd ra
          have Rb := hidd rb
          have Rl := hidd rl
          have Rh := hidd rh
          have Hap := hidd hap
          have HD1 : Hid ((w1.alloc (.cells #[.int .u64 r.1, .int .u64 r.2] 94)).heap[D]? = some (.cells #[.string g.1, .pointer q] 116)) := by
            have h0 := (Array.getElem?_eq_some_iff.1 HD.out).1
            exact (ka.block D (Nat.lt_of_lt_of_le h0 hb1.size)).trans ((hb1.block D h0).trans HD.out)
          have hDs := hbA.size
          have hbs := hbB.size
          have c1 : K + m + 1 ≤ maxLen := by unfold maxLen; omega
          have c2 : (K + m + 1) * 8 ≤ 140737488355328 := by omega
          have c3 : w0.heap.size ≤ ((w1.alloc (.cells #[.int .u64 r.1, .int .u64 r.2] 94)).alloc (.cells #[.int .u64 r.1] 23)).heap.size := by simp; omega
          clear Hr4 HRr hb1 hbA ka hbel ra rb rl rh hap HD
          go_wp2_with (at_builtin; refine wpList_append_lies _ rfl (.tmp 47) (.tmp 50) 33 rfl w0.heap.size 23 i23 _ 1 8 Try.underlying33 hi hz0 hz1 hz2 rfl (by decide) _ (K + m) _ rfl (Rl.out.alloc _) ⟨w1.heap.size + 1, 0, none⟩ 1 1 [.int .u64 r.1] rfl rfl (news1 (by simp)) (oneV rfl) (by omega) c1 c2 c3 _ rfl ?_)
          intro g1 cap1 w3 hown hgrow hat hlt1
          have hsz2 : (w1.alloc (.cells #[.int .u64 r.1, .int .u64 r.2] 94)).heap.size = w1.heap.size + 1 := by simp
          generalize w1.alloc (.cells #[.int .u64 r.1, .int .u64 r.2] 94) = w2 at *
          generalize w1.heap.size = D2 at *
          have kb := below_self w2 (.cells #[.int .u64 r.1] 23)
          have hap3 : Apart (.slice (some ⟨g1, 0, none⟩) (K + m + 1) cap1) u5 := Hap.out.app (H := D2 + 1 + 1) (by
            rcases hat with h | h
            · exact .inl h.symm
            · exact .inr (by rw [h]; rfl)) (fun k h => by have := (Rh.out.lt k h).2; omega)
          have Rl3 : Hid (w3.ownsRow w0.heap.size 23 1 (.slice (some ⟨g1, 0, none⟩) (K + m + 1) cap1) (K + (m + 1)) (losV (gs.take n) ++ loR (g.2.take (m + 1)))) := by
            rw [loR_take hr.out]; exact hown
          have Ra3 := hidd ((Ra.out.alloc (.cells #[.int .u64 r.1] 23)).kept hgrow (own_ne Ra.out Rl.out (by decide)))
          have Rb3 := hidd ((Rb.out.alloc (.cells #[.int .u64 r.1] 23)).kept hgrow (own_ne Rb.out Rl.out (by decide)))
          have Rh3 := hidd ((Rh.out.alloc (.cells #[.int .u64 r.1] 23)).kept hgrow Hap.out.symm.ne)
          have hb3 : Below w0.heap.size w0 w3 := (hbB.alloc hbs _).grown hgrow (by simp; omega) (fun j h => (Rl.out.lt j h).1)
          have hD2 := (Array.getElem?_eq_some_iff.1 HD1.out).1
          have hF2 := (Array.getElem?_eq_some_iff.1 HF.out).1
          have HD3 : Hid (w3.heap[D]? = some (.cells #[.string g.1, .pointer q] 116)) := (hgrow.block D (Nat.lt_of_lt_of_le hD2 kb.size) (own_not Rl.out HD1.out (by decide))).trans ((kb.block D hD2).trans HD1.out)
          have hF3 : w3.heap[D2]? = some (.cells #[.int .u64 r.1, .int .u64 r.2] 94) := (hgrow.block D2 (Nat.lt_of_lt_of_le hF2 kb.size) (own_not Rl.out HF.out (by decide))).trans ((kb.block D2 hF2).trans HF.out)
          have f13 : w3.cell? ⟨D2, 1, none⟩ = some (.int .u64 r.2) := by simp [World.cell?, hF3]
          have hs3 := hb3.size
          have Hap3 := hidd hap3
          have c3' : w0.heap.size ≤ (w3.alloc (.cells #[.int .u64 r.2] 23)).heap.size := by simp; omega
          clear hown hgrow hat hlt1 hbB hbs kb hD2 hF2 hF3 HF f0 f1 Ra Rb Rl Rh Hap hap3 HD1 hDs c3
          go_wp2_with (at_builtin; refine wpList_append_lies _ rfl (.tmp 52) (.tmp 55) 33 rfl w0.heap.size 23 i23 _ 1 8 Try.underlying33 hi hz0 hz1 hz2 rfl (by decide) _ (K + m) _ rfl (Rh3.out.alloc _) ⟨w3.heap.size, 0, none⟩ 1 1 [.int .u64 r.2] rfl rfl (news1 rfl) (oneV rfl) (by omega) c1 c2 c3' _ rfl ?_)
          intro g2 cap2 w4 hown hgrow hat hlt1
          have kb := below_self w3 (.cells #[.int .u64 r.2] 23)
          have hap4 : Apart (.slice (some ⟨g1, 0, none⟩) (K + m + 1) cap1) (.slice (some ⟨g2, 0, none⟩) (K + m + 1) cap2) := (Hap3.out.symm.app (H := w3.heap.size + 1) (by
            rcases hat with h | h
            · exact .inl h.symm
            · exact .inr (by rw [h]; rfl)) (fun k h => by have := (Rl3.out.lt k h).2; omega)).symm
          have Rh4 : Hid (w4.ownsRow w0.heap.size 23 1 (.slice (some ⟨g2, 0, none⟩) (K + m + 1) cap2) (K + (m + 1)) (hisV (gs.take n) ++ hiR (g.2.take (m + 1)))) := by
            rw [hiR_take hr.out]; exact hown
          have Ra4 := hidd ((Ra3.out.alloc (.cells #[.int .u64 r.2] 23)).kept hgrow (own_ne Ra3.out Rh3.out (by decide)))
          have Rb4 := hidd ((Rb3.out.alloc (.cells #[.int .u64 r.2] 23)).kept hgrow (own_ne Rb3.out Rh3.out (by decide)))
          have Rl4 := hidd ((Rl3.out.alloc (.cells #[.int .u64 r.2] 23)).kept hgrow Hap3.out.ne)
          have hb4' : Below w0.heap.size w0 w4 := (hb3.alloc hs3 _).grown hgrow (by simp; omega) (fun j h => (Rh3.out.lt j h).1)
          have hD2 := (Array.getElem?_eq_some_iff.1 HD3.out).1
          have HD4 : Hid (w4.heap[D]? = some (.cells #[.string g.1, .pointer q] 116)) := (hgrow.block D (Nat.lt_of_lt_of_le hD2 kb.size) (own_not Rh3.out HD3.out (by decide))).trans ((kb.block D hD2).trans HD3.out)
          have Hap4 := hidd hap4
          clear hown hgrow hat hlt1 hb3 hs3 kb hD2 Ra3 Rb3 Rl3 Rh3 Hap3 hap4 HD3 f13
          go_wp2_with fail
          go_roundw
          case rel => exact ⟨m + 1, by omega, by go_num, ⟨Ra4.out, Rb4.out, Rl4.out, Rh4.out, Hap4.out⟩, HD4.out, hb4'⟩
          case measure => simp [intOf]; omega
        · obtain rfl : m = L := by omega
          go_wp2_with fail
          refine (lenR_any q Tr wr HRr.out).mono ?_
          rintro e wq ⟨rfl, hwq⟩
          rw [hwq, HTr.out, HL.out]
          clear hwq wq
          have hl2 : (rows (gs.take (n + 1))).length = K + m := by rw [rows_take hgn.out, List.length_append, HK.out, List.length_map, HL.out]
          have Hl2 := hidd hl2
          have Hlo := hidd (losV_take hgn.out)
          have Hhi := hidd (hisV_take hgn.out)
          have ht : g.2.take m = g.2 := by rw [← HL.out]; exact List.take_length
          rw [ht] at Hr4
          clear hl2 ht
          go_wp2_with fail
          go_roundw
          case rel => exact ⟨n + 1, by omega, by go_num, by rw [Hl2.out, Hlo.out, Hhi.out]; exact Hr4.out, hbel⟩
          case measure => simp [intOf]; omega
    · obtain rfl : n = gs.length := by omega
      rw [List.take_length] at Hrows
      obtain ⟨ra, rb, rl, rh, _⟩ := Hrows.out
      have HA := hidd (sls_own ra)
      have HB := hidd (sls_own rb)
      have HL := hidd (sls_own rl)
      have HH := hidd (sls_own rh)
      have k1 := cell_to hbel b1
      have k2 := cell_to hbel b2
      have k3 := cell_to hbel b3
      clear Hrows ra rb rl rh
      go_wp2_with fail
      refine (lenX_any p T wr HXr.out).mono ?_
      rintro e wq ⟨rfl, hwq⟩
      rw [hwq, HTl.out]
      clear hwq wq
      go_wp2
      go_quiet (fail)
      go_wp2
      have hf := hfin wr hbel
      refine bodyPost_ret (by simp [results, Try.results44, go_sem]; rfl) rfl ?_
      exact ⟨_, _, _, _, rfl, HA.out, HB.out, HL.out, HH.out, ⟨hf.os, hf.tape, hf.output, hf.size, hf.block⟩⟩

end Go.Proofs.Qxb6608633a
