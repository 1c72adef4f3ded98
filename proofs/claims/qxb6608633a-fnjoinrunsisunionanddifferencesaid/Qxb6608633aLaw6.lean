/- FnJoinRunsIsUnionAndDifference: the law walked over joinRuns' contract. -/
import Derived.Test.Qxb6608633aJoinQ
import Derived.Test.Qxb6608633aLaw5
namespace Go.Proofs.Qxb6608633a
open Go.RowKit

theorem eqIn_self (d N off : Nat) (w : World) : (Op.equalIn (d + 1) 65 (.pointer (some ⟨N, off, none⟩)) (.pointer (some ⟨N, off, none⟩))).run Try.prog w = .ok true w := by
  obtain ⟨i0, hi0, _, hz1, _⟩ := info_parts Try.info136
  simp [Op.equalIn, run_underlying Try.underlying65, sizeOf, typeInfo, hi0, sameAddr]
theorem eq_self (N off : Nat) (w : World) : (Op.equal 65 (.pointer (some ⟨N, off, none⟩)) (.pointer (some ⟨N, off, none⟩))).run Try.prog w = .ok true w := eqIn_self 9999 N off w
theorem neq_self (N off : Nat) (w : World) : (binOp .neq 65 (.pointer (some ⟨N, off, none⟩)) (.pointer (some ⟨N, off, none⟩))).run Try.prog w = .ok (.bool false) w := by
  simp only [binOp]
  simp [eq_self]
theorem RTree.shape {w : World} {p : Option Addr} {T : BT Run} (h : RTree w p T) : p = none ∨ ∃ N off, p = some ⟨N, off, none⟩ := by
  cases T with
  | nil => exact .inl h
  | node l x r => obtain ⟨N, off, _, _, hp, _⟩ := h; exact .inr ⟨N, off, hp⟩

/-- joinRuns' contract. -/
def JoinAll : Prop := ∀ (pm pt : Option Addr) (M T : BT Run) (w : World), RTree w pm M → RTree w pt T → Form M.list → Form T.list → (∀ x ∈ M.list, InU x) → (∀ x ∈ T.list, InU x) → M.list.length ≤ 32768 → T.list.length ≤ 32768 →
    Calls Try.prog 48 #[.pointer pm, .pointer pt] w (JoinRet w pm M.list T.list)

set_option maxHeartbeats 1000000 in
theorem join33 (hJ : JoinAll) (pm pt : Option Addr) (M T : BT Run) (w : World) (hM : RTree w pm M) (hT : RTree w pt T) (fM : Form M.list) (fT : Form T.list) (uM : ∀ x ∈ M.list, InU x) (uT : ∀ x ∈ T.list, InU x) (lM : M.list.length ≤ 32768) (lT : T.list.length ≤ 32768) :
    Calls Try.prog 33 #[.pointer pm, .pointer pt] w (JoinRet w pm M.list T.list) := by
  have C := hidd (hJ pm pt M T w hM hT fM fT uM uT lM lT)
  clear hJ hM hT fM fT uM uT lM lT
  go_enter Try.func33, Try.ntmps33
  go_wp2_with fail
  refine C.out.mono ?_
  rintro e w1 ⟨pj, pf, J, F, rfl, rest⟩
  have Hfin : Hid (JoinRet w pm M.list T.list (.returned (.tuple #[.pointer pj, .pointer pf])) w1) := ⟨pj, pf, J, F, rfl, rest⟩
  clear rest C
  go_wp2
  go_ret2
  exact Hfin.out

set_option maxHeartbeats 8000000 in
set_option maxRecDepth 100000 in
theorem law6 (hJ : JoinAll) (aa : Option Addr) (ca : Nat) (A : List Run) (ab : Option Addr) (cb : Nat) (B : List Run) (w : World) (ha : SlR w (.slice aa A.length ca) A) (hb : SlR w (.slice ab B.length cb) B)
    (hna : aa = none → A = [] ∧ ca = 0) (hnb : ab = none → B = [] ∧ cb = 0) (hla : A.length ≤ maxLen) (hlb : B.length ≤ maxLen)
    (hua : ∀ x ∈ A, (0 ≤ x.1 ∧ x.1 ≤ 18446744073709551615) ∧ 0 ≤ x.2 ∧ x.2 ≤ 18446744073709551615) (hub : ∀ x ∈ B, (0 ≤ x.1 ∧ x.1 ≤ 18446744073709551615) ∧ 0 ≤ x.2 ∧ x.2 ≤ 18446744073709551615) :
    Calls Try.prog 6 #[.slice aa A.length ca, .slice ab B.length cb] w (LawTrue w) := by
  have hla' : A.length ≤ 9223372036854775807 := hla
  have hlb' : B.length ≤ 9223372036854775807 := hlb
  have C28 := hidd (bytes28_any _ _ A B w ha hb hla hlb)
  have Ha := hidd ha
  have Hb := hidd hb
  have Hna := hidd hna
  have Hnb := hidd hnb
  have Hua := hidd hua
  have Hub := hidd hub
  have HJ := hidd hJ
  clear ha hb hna hnb hla hlb hua hub hJ
  go_enter Try.func6, Try.ntmps6
  go_wp2_with fail
  refine C28.out.mono ?_
  rintro e wq ⟨r, rfl, hwq, hr⟩
  rw [hwq]
  clear hwq wq C28
  cases r with
  | false =>
    go_wp2
    go_ret
    exact ⟨rfl, Below.refl _ _⟩
  | true =>
    obtain ⟨hsa, hsb⟩ := hr rfl
    clear hr
    by_cases h4 : 32768 < A.length
    · go_wp2
      go_ret
      exact ⟨rfl, Below.refl _ _⟩
    · by_cases h5 : 32768 < B.length
      · go_wp2
        go_ret
        exact ⟨rfl, Below.refl _ _⟩
      · have hA : A.length ≤ 32768 := by omega
        have hB : B.length ≤ 32768 := by omega
        have CA := hidd (oneForm29 _ A w Ha.out (by omega) Hua.out)
        go_wp2_with fail
        refine CA.out.mono ?_
        rintro e w1 ⟨b1, rfl, hb1, q1, hw1⟩
        have Hb1 := hidd hb1
        have hB1 : Below w.heap.size w w1 := by rw [hw1]; exact below_drewN w q1
        have Ha1 := hidd (Ha.out.to hB1)
        have HbA := hidd (Hb.out.to hB1)
        clear hb1 hw1 CA Ha Hb
        cases b1 with
        | false =>
          go_wp2
          go_ret
          exact ⟨rfl, hB1⟩
        | true =>
          have HfA := hidd (Hb1.out.1 rfl)
          have CB := hidd (oneForm29 _ B w1 HbA.out (by omega) Hub.out)
          clear Hb1
          go_wp2_with fail
          refine CB.out.mono ?_
          rintro e w2 ⟨b2, rfl, hb2, q2, hw2⟩
          have Hb2 := hidd hb2
          have hB2 : Below w1.heap.size w1 w2 := by rw [hw2]; exact below_drewN w1 q2
          have hB3 := below_to hB1 hB2 hB1.size
          have Ha2 := hidd (Ha1.out.to hB2)
          have Hb2' := hidd (HbA.out.to hB2)
          clear hb2 hw2 CB Ha1 HbA hB1 hB2
          cases b2 with
          | false =>
            go_wp2
            go_ret
            exact ⟨rfl, hB3⟩
          | true =>
            have HfB := hidd (Hb2.out.1 rfl)
            have HuA : Hid (∀ x ∈ A, InU x) := fun x hx => by
              have h1 := HfA.out.1 x hx
              have h2 := Hua.out x hx
              exact ⟨h1.1, h2.1.2, h2.2.1, h2.2.2⟩
            have HuB : Hid (∀ x ∈ B, InU x) := fun x hx => by
              have h1 := HfB.out.1 x hx
              have h2 := Hub.out x hx
              exact ⟨h1.1, h2.1.2, h2.2.1, h2.2.2⟩
            have C1 := hidd (clone30 aa ca A w2 Ha2.out Hna.out hsa)
            clear Hb2 Hua Hub Hna
            go_wp2_with fail
            refine C1.out.mono ?_
            rintro e w3 ⟨va, rfl, hva, hk⟩
            have hB4 := below_to hB3 hk hB3.size
            have Hva := hidd hva
            have Hb3 := hidd (Hb2'.out.to hk)
            have C2 := hidd (clone30 ab cb B w3 Hb3.out Hnb.out hsb)
            clear hva C1 Ha2 Hb2' hB3 hk Hnb
            go_wp2_with fail
            refine C2.out.mono ?_
            rintro e w4 ⟨vb, rfl, hvb, hk⟩
            have hB5 := below_to hB4 hk hB4.size
            have Hva4 := hidd (Hva.out.to hk)
            have Hvb4 := hidd hvb
            have C3 := hidd (split31 va A w4 Hva4.out hsa)
            clear hvb C2 Hva Hb3 hB4 hk
            go_wp2_with fail
            refine C3.out.mono ?_
            rintro e w5 ⟨al, ah, rfl, hal, hk⟩
            have hB6 := below_to hB5 hk hB5.size
            have Hva5 := hidd (Hva4.out.to hk)
            have Hvb5 := hidd (Hvb4.out.to hk)
            have Hal5 := hidd hal
            have C4 := hidd (split31 vb B w5 Hvb5.out hsb)
            clear hal C3 Hva4 Hvb4 hB5 hk
            go_wp2_with fail
            refine C4.out.mono ?_
            rintro e w6 ⟨bl, bh, rfl, hbl, hk⟩
            have hB7 := below_to hB6 hk hB6.size
            have Hva6 := hidd (Hva5.out.to hk)
            have Hvb6 := hidd (Hvb5.out.to hk)
            have Hal6 : Hid (EndsAt w6 al ah A) := ⟨Hal5.out.1.to hk, Hal5.out.2.to hk⟩
            have Hbl6 := hidd hbl
            have C5 := hidd (runTree32 al ah A w6 Hal6.out hsa)
            clear hbl C4 Hva5 Hvb5 Hal5 hB6 hk
            go_wp2_with fail
            refine C5.out.mono ?_
            rintro e w7 ⟨pm, TM, rfl, hTM, hTMl, hk⟩
            have hB8 := below_to hB7 hk hB7.size
            have Hva7 := hidd (Hva6.out.to hk)
            have Hvb7 := hidd (Hvb6.out.to hk)
            have Hbl7 : Hid (EndsAt w7 bl bh B) := ⟨Hbl6.out.1.to hk, Hbl6.out.2.to hk⟩
            have HTM := hidd hTM
            have HTMl := hidd hTMl
            have C6 := hidd (runTree32 bl bh B w7 Hbl7.out hsb)
            clear hTM hTMl C5 Hva6 Hvb6 Hal6 Hbl6 hB7 hk
            go_wp2_with fail
            refine C6.out.mono ?_
            rintro e w8 ⟨pt, TT, rfl, hTT, hTTl, hk⟩
            have hB9 := below_to hB8 hk hB8.size
            have Hva8 := hidd (Hva7.out.to hk)
            have Hvb8 := hidd (Hvb7.out.to hk)
            have C7 := hidd (join33 HJ.out pm pt TM TT w8 (HTM.out.to hk) hTT (by rw [HTMl.out]; exact HfA.out) (by rw [hTTl]; exact HfB.out) (by rw [HTMl.out]; exact HuA.out) (by rw [hTTl]; exact HuB.out) (by rw [HTMl.out]; exact hA) (by rw [hTTl]; exact hB))
            rw [HTMl.out, hTTl] at C7
            clear hTT hTTl C6 Hva7 Hvb7 Hbl7 hB8 hk HTM HTMl HJ
            go_wp2_with fail
            refine C7.out.mono ?_
            rintro e w9 ⟨pj, pf, J, F, rfl, hJ, hF, fJ, fF, hag, hnil, lJ, lF, hk⟩
            have hB10 := below_to hB9 hk hB9.size
            have Hva9 := hidd (Hva8.out.to hk)
            have Hvb9 := hidd (Hvb8.out.to hk)
            have HF := hidd hF
            have HfJ := hidd fJ
            have HfF := hidd fF
            have Hag := hidd hag
            have Hnil := hidd hnil
            have C8 := hidd (runs34 pj J w9 hJ lJ)
            have Hpj := hidd hJ.shape
            clear hJ hF fJ fF hag hnil C7 Hva8 Hvb8 hB9 hk
            go_wp2_with fail
            refine C8.out.mono ?_
            rintro e w10 ⟨jl, jh, rfl, hjl, hk⟩
            have hB11 := below_to hB10 hk hB10.size
            have Hva10 := hidd (Hva9.out.to hk)
            have Hvb10 := hidd (Hvb9.out.to hk)
            have HF10 := hidd (HF.out.to hk)
            have Hjl := hidd hjl
            have C9 := hidd (runs34 pf F w10 HF10.out lF)
            clear hjl C8 Hva9 Hvb9 HF hB10 hk
            go_wp2_with fail
            refine C9.out.mono ?_
            rintro e w11 ⟨fl, fh, rfl, hfl, hk⟩
            have hB12 := below_to hB11 hk hB11.size
            have Hva11 := hidd (Hva10.out.to hk)
            have Hvb11 := hidd (Hvb10.out.to hk)
            have HF11 := hidd (HF10.out.to hk)
            have Hjl11 : Hid (EndsAt w11 jl jh J.list) := ⟨Hjl.out.1.to hk, Hjl.out.2.to hk⟩
            have Hfl := hidd hfl
            have C10 := hidd (from35 jl jh J.list w11 Hjl11.out (by omega))
            clear hfl C9 Hva10 Hvb10 HF10 Hjl hB11 hk
            go_wp2_with fail
            refine C10.out.mono ?_
            rintro e w12 ⟨vj, rfl, hvj, hk⟩
            have hB13 := below_to hB12 hk hB12.size
            have Hva12 := hidd (Hva11.out.to hk)
            have Hvb12 := hidd (Hvb11.out.to hk)
            have HF12 := hidd (HF11.out.to hk)
            have Hfl12 : Hid (EndsAt w12 fl fh F.list) := ⟨Hfl.out.1.to hk, Hfl.out.2.to hk⟩
            have Hvj := hidd hvj
            have C11 := hidd (from35 fl fh F.list w12 Hfl12.out (by omega))
            clear hvj C10 Hva11 Hvb11 HF11 Hjl11 Hfl hB12 hk
            go_wp2_with fail
            refine C11.out.mono ?_
            rintro e w13 ⟨vf, rfl, hvf, hk⟩
            have hB14 := below_to hB13 hk hB13.size
            have Hva13 := hidd (Hva12.out.to hk)
            have Hvb13 := hidd (Hvb12.out.to hk)
            have HF13 := hidd (HF12.out.to hk)
            have Hvj13 := hidd (Hvj.out.to hk)
            have Hvf := hidd hvf
            have smJ : Small J.list := fun x hx => ((Hag.out x).1.1 hx).elim (fun h => small_of HuA.out x h) (fun h => small_of HuB.out x h)
            have smF : Small F.list := fun x hx => small_of HuB.out x ((Hag.out x).2.1 hx).1
            have HuJ := hidd (inU_of HfJ.out smJ)
            have HuF := hidd (inU_of HfF.out smF)
            have C12 := hidd (oneForm29 vj J.list w13 Hvj13.out lJ (fun x hx => by obtain ⟨a1, a2, a3, a4⟩ := HuJ.out x hx; exact ⟨⟨by omega, a2⟩, a3, a4⟩))
            clear hvf C11 Hva12 Hvb12 HF12 Hvj Hfl12 hB13 hk smJ smF
            go_wp2_with fail
            refine C12.out.mono ?_
            rintro e w14 ⟨b3, rfl, hb3, q3, hw3⟩
            obtain rfl : b3 = true := hb3.2 HfJ.out
            have hk : Below w13.heap.size w13 w14 := by rw [hw3]; exact below_drewN w13 q3
            have hB15 := below_to hB14 hk hB14.size
            have Hva14 := hidd (Hva13.out.to hk)
            have Hvb14 := hidd (Hvb13.out.to hk)
            have HF14 := hidd (HF13.out.to hk)
            have Hvj14 := hidd (Hvj13.out.to hk)
            have Hvf14 := hidd (Hvf.out.to hk)
            have C13 := hidd (oneForm29 vf F.list w14 Hvf14.out lF (fun x hx => by obtain ⟨a1, a2, a3, a4⟩ := HuF.out x hx; exact ⟨⟨by omega, a2⟩, a3, a4⟩))
            clear hb3 hw3 C12 Hva13 Hvb13 HF13 Hvj13 Hvf hB14 hk
            go_wp2_with fail
            refine C13.out.mono ?_
            rintro e w15 ⟨b4, rfl, hb4, q4, hw4⟩
            obtain rfl : b4 = true := hb4.2 HfF.out
            have hk : Below w14.heap.size w14 w15 := by rw [hw4]; exact below_drewN w14 q4
            have hB16 := below_to hB15 hk hB15.size
            have HF15 := hidd (HF14.out.to hk)
            have H4 : Hid (Four w15 va vb vj vf A B J.list F.list) := ⟨Hva14.out.to hk, Hvb14.out.to hk, Hvj14.out.to hk, Hvf14.out.to hk, HfA.out, HfB.out, HfJ.out, HfF.out, by omega, by omega, lJ, lF, Hag.out⟩
            obtain ⟨aj, cj, hvj, _⟩ := H4.out.j
            obtain ⟨af, cf, hvf, _⟩ := H4.out.f
            have D1 := hidd (agreesAround_any va vb vj vf va A B J.list F.list A w15 H4.out H4.out.m (by omega) HuA.out)
            have D2 := hidd (agreesAround_any va vb vj vf vb A B J.list F.list B w15 H4.out H4.out.t (by omega) HuB.out)
            have D3 := hidd (agreesAround_any va vb vj vf vj A B J.list F.list J.list w15 H4.out H4.out.j lJ HuJ.out)
            have D4 := hidd (agreesAround_any va vb vj vf vf A B J.list F.list F.list w15 H4.out H4.out.f lF HuF.out)
            clear hb4 hw4 C13 Hva14 Hvb14 HF14 Hvj14 Hvf14 hB15 hk H4
            subst hvf
            subst hvj
            rcases HF15.out.none_iff with ⟨rfl, rfl⟩ | ⟨a, l, x, r, rfl, rfl⟩
            · obtain rfl : pj = pm := Hnil.out rfl
              have hz : (BT.nil : BT Run).list.length = 0 := rfl
              rw [hz] at D1 D2 D3 D4 ⊢
              rcases Hpj.out with rfl | ⟨N, off, rfl⟩
              · go_wp2_with (first | (go_at_call 36; (with_reducible refine D1.out.mono ?_); rintro e wq ⟨rfl, hwq⟩; rw [hwq]; clear hwq wq) | (go_at_call 36; (with_reducible refine D2.out.mono ?_); rintro e wq ⟨rfl, hwq⟩; rw [hwq]; clear hwq wq) | (go_at_call 36; (with_reducible refine D3.out.mono ?_); rintro e wq ⟨rfl, hwq⟩; rw [hwq]; clear hwq wq) | (go_at_call 36; (with_reducible refine D4.out.mono ?_); rintro e wq ⟨rfl, hwq⟩; rw [hwq]; clear hwq wq))
                go_ret
                exact ⟨rfl, hB16⟩
              · have hneq := fun V => neq_self N off V
                go_wp2_with (first | (go_at_call 36; (with_reducible refine D1.out.mono ?_); rintro e wq ⟨rfl, hwq⟩; rw [hwq]; clear hwq wq) | (go_at_call 36; (with_reducible refine D2.out.mono ?_); rintro e wq ⟨rfl, hwq⟩; rw [hwq]; clear hwq wq) | (go_at_call 36; (with_reducible refine D3.out.mono ?_); rintro e wq ⟨rfl, hwq⟩; rw [hwq]; clear hwq wq) | (go_at_call 36; (with_reducible refine D4.out.mono ?_); rintro e wq ⟨rfl, hwq⟩; rw [hwq]; clear hwq wq))
                go_ret
                exact ⟨rfl, hB16⟩
            · obtain ⟨n, hn⟩ : ∃ n, (BT.node l x r).list.length = n + 1 := ⟨l.list.length + r.list.length, by simp [BT.list]; omega⟩
              rw [hn] at D1 D2 D3 D4 ⊢
              have e0 : (((n : Int) + 1) == 0) = false := by simp; omega
              go_wp2_with (first | (go_at_call 36; (with_reducible refine D1.out.mono ?_); rintro e wq ⟨rfl, hwq⟩; rw [hwq]; clear hwq wq) | (go_at_call 36; (with_reducible refine D2.out.mono ?_); rintro e wq ⟨rfl, hwq⟩; rw [hwq]; clear hwq wq) | (go_at_call 36; (with_reducible refine D3.out.mono ?_); rintro e wq ⟨rfl, hwq⟩; rw [hwq]; clear hwq wq) | (go_at_call 36; (with_reducible refine D4.out.mono ?_); rintro e wq ⟨rfl, hwq⟩; rw [hwq]; clear hwq wq))
              go_ret
              exact ⟨rfl, hB16⟩

end Go.Proofs.Qxb6608633a
