/- zzContextOneForm: the walk. -/
import Derived.Test.Qxb6608633aPlainC
import Derived.Deep.DeepCutAuto
namespace Go.Proofs.Qxb6608633a
open Go.RowKit

/-- The slice at ao holds the cells xs. -/
def Rd (w : World) (ao : Option Addr) (xs : List Value) : Prop := ∀ (i : Nat) (x : Value), xs[i]? = some x → ∃ g, ao = some ⟨g, 0, none⟩ ∧ w.cell? ⟨g, i, none⟩ = some x
theorem Rd.to {a b : World} {ao : Option Addr} {xs : List Value} (k : Below a.heap.size a b) (h : Rd a ao xs) : Rd b ao xs := fun i x hi => by
  obtain ⟨g, h1, h2⟩ := h i x hi
  exact ⟨g, h1, cell_to k h2⟩

/-- The slice v holds the cells xs. -/
def SlS (w : World) (v : Value) (xs : List Value) : Prop := ∃ ao cap, v = .slice ao xs.length cap ∧ Rd w ao xs
theorem SlS.to {a b : World} {v : Value} {xs : List Value} (k : Below a.heap.size a b) (h : SlS a v xs) : SlS b v xs := by
  obtain ⟨ao, cap, h1, h2⟩ := h
  exact ⟨ao, cap, h1, h2.to k⟩
theorem SlS.open {w : World} {v : Value} {xs : List Value} {n : Nat} (h : SlS w v xs) (hn : xs.length = n) : ∃ ao cap, v = .slice ao n cap ∧ Rd w ao xs := by subst hn; exact h
theorem sls_own {w : World} {B e n : Nat} {v : Value} {xs : List Value} (h : w.ownsRow B e 1 v n xs) : SlS w v xs := by
  have hl : xs.length = n := by simpa using h.1
  have h' := h
  rcases h.2 with ⟨rfl, rfl⟩ | ⟨g, cap, cur, rfl, _⟩
  · exact ⟨none, 0, by rw [hl], fun i x hi => by have := (List.getElem?_eq_some_iff.1 hi).1; omega⟩
  · exact ⟨_, cap, by rw [hl], fun i x hi => ⟨g, rfl, by have := (List.getElem?_eq_some_iff.1 hi).1; rw [h'.cellAt i (by omega)]; exact hi⟩⟩

def idsV (gs : List Grp) : List Value := gs.map fun g => .string g.1
def cntV (gs : List Grp) : List Value := gs.map fun g => .int .i64 (g.2.length : Nat)
def losV (gs : List Grp) : List Value := (rows gs).map fun x => .int .u64 x.2.1
def hisV (gs : List Grp) : List Value := (rows gs).map fun x => .int .u64 x.2.2
def ownV (gs : List Grp) : List Value := (rows gs).map fun x => .string x.1

theorem ownV_take {gs : List Grp} {e : Nat} {g : Grp} (h : gs[e]? = some g) : ownV (gs.take (e + 1)) = ownV (gs.take e) ++ List.replicate g.2.length (.string g.1) := by
  unfold ownV
  rw [rows_take h, List.map_append, List.map_map]
  congr 1
  exact List.map_const' (l := g.2) (b := Value.string g.1)

/-- The owners handed out, and true. -/
def OwnRet (w : World) (gs : List Grp) (e : Ending) (w' : World) : Prop := ∃ o, e = .returned (.tuple #[o, .bool true]) ∧ SlS w' o (ownV gs) ∧ Below w.heap.size w w'

set_option maxHeartbeats 4000000 in
set_option maxRecDepth 100000 in
theorem oneForm_any (gs : List Grp) (hg : Good gs) (a b l h : Value) (w : World) (ha : SlS w a (idsV gs)) (hb : SlS w b (cntV gs)) (hl : SlS w l (losV gs)) (hh : SlS w h (hisV gs)) :
    Calls Try.prog 27 #[a, b, l, h] w (OwnRet w gs) := by
  obtain ⟨aa, ca, rfl, Ra⟩ := ha.open (n := gs.length) (by simp [idsV])
  obtain ⟨ab, cb, rfl, Rb⟩ := hb.open (n := gs.length) (by simp [cntV])
  obtain ⟨al, cl, rfl, Rl⟩ := hl.open (n := (rows gs).length) (by simp [losV])
  obtain ⟨ah, ch, rfl, Rh⟩ := hh.open (n := (rows gs).length) (by simp [hisV])
  have hR := hg.len
  have hG := hg.count
  have Hg := hidd hg
  obtain ⟨R, HR⟩ : ∃ R, Hid ((rows gs).length = R) := ⟨_, hidd rfl⟩
  rw [HR.out] at hR hG ⊢
  obtain ⟨i9, h9, h90, h91, h92⟩ := info_parts Try.info9
  have HRa := hidd Ra
  have HRb := hidd Rb
  have HRl := hidd Rl
  have HRh := hidd Rh
  clear ha hb hl hh hg Ra Rb Rl Rh
  go_enter Try.func27, Try.ntmps27
  go_wp2
  go_loopw [10, 11, 12] (fun o k e wr => ∃ n : Nat, n ≤ gs.length ∧ e = .int .i64 n ∧ k = .int .i64 ((rows (gs.take n)).length : Nat) ∧ wr.ownsRow w.heap.size 9 1 o (rows (gs.take n)).length (ownV (gs.take n)) ∧ Below w.heap.size w wr) (fun _ _ e _ => gs.length - (intOf e).toNat)
  case atStart => exact ⟨0, Nat.zero_le _, rfl, rfl, World.ownsRow_nil _ _ _ _, Below.refl _ _⟩
  case round =>
    obtain ⟨n, hn, rfl, rfl, hown, hbel⟩ := hrel
    have Hown := hidd hown
    clear hown
    by_cases hlt : n < gs.length
    · obtain ⟨g, hgn⟩ : ∃ g, Hid (gs[n]? = some g) := ⟨gs[n], hidd (List.getElem?_eq_getElem hlt)⟩
      have hmem := List.mem_of_getElem? hgn.out
      have hne := Hg.out.ne g hmem
      have hroom := rows_room hgn.out
      have hL : 0 < g.2.length := List.length_pos_iff.2 (Hg.out.form g hmem).1
      have hfm := hidd (Hg.out.form g hmem).2
      have hmx := hidd (Hg.out.max g hmem)
      have Hmem := hidd hmem
      rw [HR.out] at hroom
      obtain ⟨ga, rfl, hca⟩ := HRa.out.to hbel n (.string g.1) (by simp [idsV, hgn.out])
      obtain ⟨gb, rfl, hcb⟩ := HRb.out.to hbel n (.int .i64 (g.2.length : Nat)) (by simp [cntV, hgn.out])
      obtain ⟨K, HK⟩ : ∃ K, Hid ((rows (gs.take n)).length = K) := ⟨_, hidd rfl⟩
      obtain ⟨L, HL⟩ : ∃ L, Hid (g.2.length = L) := ⟨_, hidd rfl⟩
      rw [HK.out] at Hown hroom ⊢
      rw [HL.out] at hroom hL hcb
      clear hmem
      have gl1 : ¬ ((L : Int) < 1) := by omega
      have gl2 : ¬ ((R : Int) - (K : Int) < (L : Int)) := by omega
      have gw : IntKind.i64.wrap ((R : Int) - (K : Int)) = (R : Int) - (K : Int) := IntWalk.i64_in _ (by omega)
      go_upto_region 10 with fail
      go_cut [69] from 55 to 69 (fun b wx => b = .bool false ∧ ∃ q, wx = wr.drewN q)
      case first =>
        cases n with
        | zero =>
          go_quiet (fail)
          go_wp2_with fail
          go_meet
          exact ⟨rfl, _, rfl⟩
        | succ n =>
          obtain ⟨g0, hgn0⟩ : ∃ g, Hid (gs[n]? = some g) := ⟨gs[n], hidd (List.getElem?_eq_getElem (by omega))⟩
          obtain ⟨ga', e1, hca'⟩ := HRa.out.to hbel n (.string g0.1) (by simp [idsV, hgn0.out])
          cases e1
          have hm1 := Hg.out.size g (List.mem_of_getElem? hgn.out)
          have hm2 := Hg.out.size g0 (List.mem_of_getElem? hgn0.out)
          have hcc : cmpB g0.1 g.1 < 0 := by
            have h1 := List.getElem?_eq_some_iff.1 hgn0.out
            have h2 := List.getElem?_eq_some_iff.1 hgn.out
            obtain ⟨l1, e1⟩ := h1
            obtain ⟨l2, e2⟩ := h2
            rw [← e1, ← e2]
            exact List.pairwise_iff_getElem.1 Hg.out.asc n (n + 1) l1 l2 (by omega)
          have hw : IntKind.i64.wrap (n : Int) = (n : Int) := wrapN n (by omega)
          have g1 : (0 : Int) ≤ (n : Int) + 1 := by omega
          have g2 : (n : Int) + 1 < (gs.length : Int) := by omega
          have g3 : (0 : Int) ≤ (n : Int) := by omega
          have g4 : (n : Int) < (gs.length : Int) := by omega
          go_quiet ((go_at_call 40; exact Calls.quiet_of (cmpStr_any _ _ _ hm2 hm1)))
          go_wp2_with fail
          go_meet
          exact ⟨by rw [decide_eq_false (by omega)], _, rfl⟩
      case rest =>
        obtain ⟨rfl, q, hwc⟩ := hcut
        have Hown2 : Hid (wc.ownsRow w.heap.size 9 1 u10 K (ownV (gs.take n))) := by rw [hwc]; exact Hown.out
        have hbel2 : Below w.heap.size w wc := by rw [hwc]; exact ⟨hbel.os, hbel.tape, hbel.output, hbel.size, hbel.block⟩
        clear hwc q Hown hbel hca hcb
        go_wp2_with fail
        go_loopw [10, 11, 13] (fun o k j wr => ∃ m : Nat, m ≤ L ∧ j = .int .i64 m ∧ k = .int .i64 (K + m : Nat) ∧ wr.ownsRow w.heap.size 9 1 o (K + m) (ownV (gs.take n) ++ List.replicate m (.string g.1)) ∧ Below w.heap.size w wr) (fun _ _ j _ => L - (intOf j).toNat)
        case atStart => exact ⟨0, Nat.zero_le _, rfl, rfl, by simpa using Hown2.out, hbel2⟩
        case round =>
          clear Hown2 hbel2
          obtain ⟨m, hm, rfl, rfl, hown, hbel⟩ := hrel
          have Hown := hidd hown
          clear hown
          obtain ⟨_, e1, hca⟩ := HRa.out.to hbel n (.string g.1) (by simp [idsV, hgn.out])
          cases e1
          obtain ⟨_, e1, hcb⟩ := HRb.out.to hbel n (.int .i64 (L : Nat)) (by simp [cntV, hgn.out, HL.out])
          cases e1
          by_cases hml : m < L
          · obtain ⟨r, hr⟩ : ∃ r, Hid (g.2[m]? = some r) := ⟨g.2[m]'(by rw [HL.out]; exact hml), hidd (List.getElem?_eq_getElem _)⟩
            have hrow := rows_at hgn.out hr.out
            rw [HK.out] at hrow
            obtain ⟨gl, rfl, hcl⟩ := HRl.out.to hbel (K + m) (.int .u64 r.1) (by simp [losV, hrow])
            obtain ⟨gh, rfl, hch⟩ := HRh.out.to hbel (K + m) (.int .u64 r.2) (by simp [hisV, hrow])
            have hf := hfm.out.1 r (List.mem_of_getElem? hr.out)
            have hx := hmx.out r (List.mem_of_getElem? hr.out)
            obtain ⟨f1, f2⟩ := hf
            have f3 : (r.1 == 0) = false := by simp; omega
            have f4 : decide (r.2 < r.1) = false := decide_eq_false (by omega)
            have hbs := hbel.size
            clear hrow
            go_wp2_with fail
            go_quiet (fail)
            have hca1 : (wr.drewN nq).cell? ⟨ga, n, none⟩ = some (.string g.1) := hca
            have hcl1 : (wr.drewN nq).cell? ⟨gl, K + m, none⟩ = some (.int .u64 r.1) := hcl
            have hbel1 : Below w.heap.size w (wr.drewN nq) := ⟨hbel.os, hbel.tape, hbel.output, hbel.size, hbel.block⟩
            have Hown1 : Hid ((wr.drewN nq).ownsRow w.heap.size 9 1 u10 (K + m) (ownV (gs.take n) ++ List.replicate m (.string g.1))) := Hown.out
            clear hca hcb hcl hch hbel Hown hbs
            generalize wr.drewN nq = W at *
            go_upto_region 17 with fail
            go_cut [120] from 94 to 120 (fun b wx => b = .bool false ∧ ∃ q, wx = W.drewN q)
            case first =>
              cases m with
              | zero =>
                go_quiet (fail)
                go_wp2_with fail
                go_meet
                exact ⟨rfl, _, rfl⟩
              | succ m =>
                obtain ⟨r', hr'⟩ : ∃ r, Hid (g.2[m]? = some r) := ⟨g.2[m]'(by rw [HL.out]; omega), hidd (List.getElem?_eq_getElem _)⟩
                have hrow' := rows_at hgn.out hr'.out
                rw [HK.out] at hrow'
                obtain ⟨_, e1, hch'⟩ := HRh.out.to hbel1 (K + m) (.int .u64 r'.2) (by simp [hisV, hrow'])
                cases e1
                have hf' := hfm.out.1 r' (List.mem_of_getElem? hr'.out)
                have hgap : r'.2 + 2 ≤ r.1 := by
                  obtain ⟨l1, e1⟩ := List.getElem?_eq_some_iff.1 hr'.out
                  obtain ⟨l2, e2⟩ := List.getElem?_eq_some_iff.1 hr.out
                  rw [← e1, ← e2]
                  exact List.pairwise_iff_getElem.1 hfm.out.2 m (m + 1) l1 l2 (by omega)
                obtain ⟨f1', f2'⟩ := hf'
                have k1 : IntKind.i64.wrap ((K : Int) + ((m : Int) + 1) - 1) = ((K + m : Nat) : Int) := by rw [show (K : Int) + ((m : Int) + 1) - 1 = ((K + m : Nat) : Int) by omega]; exact wrapN _ (by omega)
                have k1' : ((K + (m + 1) : Nat) : Int) - 1 = ((K + m : Nat) : Int) := by omega
                have k2 : IntKind.u64.wrap (r.1 - r'.2) = r.1 - r'.2 := IntWalk.u64_in _ (by omega)
                have k3 : decide (r.1 ≤ r'.2) = false := decide_eq_false (by omega)
                have k4 : decide (r.1 - r'.2 < 2) = false := decide_eq_false (by omega)
                have g1 : (0 : Int) ≤ ((K + m : Nat) : Int) := by omega
                have g2 : ((K + m : Nat) : Int) < (R : Int) := by omega
                clear hrow'
                go_quiet (fail)
                go_wp2_with fail
                go_meet
                exact ⟨by first | rfl | rw [k3] | rw [decide_eq_false (by omega)], _, rfl⟩
            case rest =>
              obtain ⟨rfl, q, hwc⟩ := hcut
              have hca2 : wc.cell? ⟨ga, n, none⟩ = some (.string g.1) := by rw [hwc]; exact hca1
              have hbel2 : Below w.heap.size w wc := by rw [hwc]; exact ⟨hbel1.os, hbel1.tape, hbel1.output, hbel1.size, hbel1.block⟩
              have Hown2 : Hid (wc.ownsRow w.heap.size 9 1 u10 (K + m) (ownV (gs.take n) ++ List.replicate m (.string g.1))) := by rw [hwc]; exact Hown1.out
              have hbs := hbel2.size
              have c1 : K + m + 1 ≤ maxLen := by unfold maxLen; omega
              have c2 : (K + m + 1) * 16 ≤ 140737488355328 := by omega
              have c3 : w.heap.size ≤ (wc.alloc (.cells #[.string g.1] 9)).heap.size := by simp; omega
              clear hwc q hca1 hcl1 hbel1 Hown1
              go_wp2_with (at_builtin; refine wpList_append_own _ rfl (.tmp 121) (.tmp 126) 32 rfl w.heap.size 9 i9 _ 1 16 Try.underlying32 h9 h90 h91 h92 rfl (by decide) _ (K + m) _ rfl (Hown2.out.alloc _) ⟨wc.heap.size, 0, none⟩ 1 1 [.string g.1] rfl rfl (news1 rfl) (oneV rfl) c1 c2 c3 ?_)
              intro v' w3 hown3 hgrow3 _
              have hbel3 : Below w.heap.size w w3 := (hbel2.alloc (by omega) _).grown hgrow3 (by simp; omega) (fun j h => (Hown2.out.lt j h).1)
              rw [← List.replicate_succ'] at hown3
              have Hown3 := hidd hown3
              clear hown3 hgrow3 Hown2 hbel2
              go_wp2_with fail
              go_roundw
              case rel => exact ⟨m + 1, by omega, by go_num, by go_num, Hown3.out, hbel3⟩
              case measure => simp [intOf]; omega
          · obtain rfl : m = L := by omega
            have ht := hidd (ownV_take hgn.out)
            have hl2 : (rows (gs.take (n + 1))).length = K + m := by rw [rows_take hgn.out, List.length_append, HK.out, List.length_map, HL.out]
            have Hl2 := hidd hl2
            rw [HL.out] at ht
            clear hl2
            go_wp2_with fail
            go_roundw
            case rel => exact ⟨n + 1, by omega, by go_num, by rw [Hl2.out], by rw [Hl2.out, ht.out]; exact Hown.out, hbel⟩
            case measure => simp [intOf]; omega
    · obtain rfl : n = gs.length := by omega
      rw [List.take_length, HR.out] at Hown ⊢
      have hS := hidd (sls_own Hown.out)
      clear Hown
      go_wp2
      go_ret2
      exact ⟨_, rfl, hS.out, hbel⟩

end Go.Proofs.Qxb6608633a
