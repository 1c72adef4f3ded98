/- slices.Insert of one entry into a row of the call's own. -/
import Derived.Test.Qxb6608633aSearch
import Derived.Laws.CopyOwn
import Derived.Deep.RegionLaw
namespace Go.Proofs.Qxb6608633a
open Go.RowKit

section
variable {P : Program} (w : World)

/-- 'append(s, make([]E, n)...)' where it must grow. -/
theorem run_append_zeros_grow (t u ty e : TypeId) (i : TypeInfo) (z : Value) (ht : P.underlying t = some (.slice e)) (hu : P.underlying u = some (.int .i64)) (hi : P.info? e = some i) (hz : i.zero = some z)
    (b : Addr) (sLen sCap : Nat) (olds : List Value) (hlo : olds.length = sLen * i.size) (holds : ∀ j v, olds[j]? = some v → w.cell? (b.add j) = some v)
    (n : Nat) (hn0 : 0 < n) (hs0 : 0 < i.size)
    (hg : sCap < sLen + n) (h63 : ((sLen + n : Nat) : Int) ≤ 9223372036854775807) (hnb : n * i.bytes ≤ 281474976710656) (hfit : Builtin.nextslicecap (sLen + n) sCap * i.bytes ≤ 281474976710656) :
    (Builtin.append_ #[t, u] ty #[.slice (some b) sLen sCap, .int .i64 n]).run P w =
      .ok (.slice (some ⟨w.heap.size, 0, none⟩) (sLen + n) (grownCap w (sLen + n) sCap e))
        (w.drew.alloc (.cells (olds.toArray ++ Builtin.zeroCells z.cells n ++ Builtin.zeroCells z.cells (grownCap w (sLen + n) sCap e - (sLen + n))) e)) := by
  have hn : ¬ (sLen + n ≤ sCap) := by omega
  have h63' : ¬ (9223372036854775807 < ((sLen : Int) + (n : Int))) := by omega
  have h48' : ¬ (281474976710656 < Builtin.nextslicecap (sLen + n) sCap * i.bytes) := by omega
  have hw : IntKind.i64.wrap (n : Int) = (n : Int) := wrapN n (by omega)
  have hnb' : ¬ (281474976710656 < (n : Int) * (i.bytes : Int)) := by have : ((n * i.bytes : Nat) : Int) ≤ 281474976710656 := by omega
                                                                      rw [Int.natCast_mul] at this; omega
  have hz0 : ¬ ((n : Int) < 0) := by omega
  have hnz : ¬ (n * i.size = 0) := by have := Nat.mul_pos hn0 hs0; omega
  have hfo := run_firstCells_some (P := P) w.drew i.size sLen b sLen sCap olds hlo (by simpa using holds)
  simp [Builtin.append_, run_underlying ht, run_underlying hu, sizeOf, typeInfo, zeroValue, hi, hz, asInt, asIntOf, hw, hnb', hz0, hnz, hn, h63', h48', Question.forced, hfo, newRow, grownCap]

/-- 'copy(dst, src)' into a row that is known whole, elements of whatever size. -/
theorem run_copy_rows (dT sT ty elem : TypeId) (g o dLen dCap : Nat) (a : Addr) (sLen sCap size : Nat) (cur : Array Value) (t : TypeId) (cs : List Value)
    (hu : P.underlying dT = some (.slice elem)) (hs : (P.info? elem).map (·.size) = some size)
    (hg : w.heap[g]? = some (.cells cur t (0, 0))) (hn : cs.length = Nat.min sLen dLen * size)
    (hsrc : ∀ j v, cs[j]? = some v → w.cell? (a.add j) = some v) (hfit : o + cs.length ≤ cur.size) (h1 : ∀ v ∈ cs, v.oneCell' = true) :
    (Builtin.copy_ #[dT, sT] ty #[.slice (some ⟨g, o, none⟩) dLen dCap, .slice (some a) sLen sCap]).run P w =
      .ok (goInt (Nat.min sLen dLen : Nat)) (w.setRow g (cur.toList.take o ++ cs ++ cur.toList.drop (o + cs.length)).toArray) := by
  have hl := run_loadCells_list (P := P) w a cs hsrc
  have hst := run_storeCells_at P g o t cs 0 cur w hg (by simpa using hfit) h1
  cases hq : P.info? elem with
  | none => simp [hq] at hs
  | some i =>
    have hi : i.size = size := by simpa [hq] using hs
    simp [Builtin.copy_, run_underlying hu, Builtin.lenOf, Builtin.firstCells, sizeOf, typeInfo, hq, hi, ← hn, hl, hst]
end

theorem own_parts {w : World} {B e size g n cap : Nat} {xs : List Value} (h : w.ownsRow B e size (.slice (some ⟨g, 0, none⟩) n cap) n xs) :
    ∃ cur, B ≤ g ∧ w.heap[g]? = some (.cells cur e (0, 0)) ∧ n ≤ cap ∧ cap ≤ maxLen ∧ cur.size = cap * size ∧ cur.toList.take (n * size) = xs := by
  rcases h.2 with ⟨h, _⟩ | ⟨g', c', cur, h, r⟩
  · cases h
  · cases h; exact ⟨cur, r⟩

theorem take_splice {α : Type} (L : List α) (N off : Nat) (cs : List α) (h : off + cs.length ≤ N) (hN : N ≤ L.length) :
    (L.take off ++ cs ++ L.drop (off + cs.length)).take N = splice (L.take N) off cs := by
  unfold splice
  rw [List.append_assoc, List.take_append, List.take_append, List.length_take, List.take_take, List.take_take, Nat.min_eq_right (show off ≤ N by omega), Nat.min_eq_left (show off ≤ N by omega), Nat.min_eq_left (show off ≤ L.length by omega),
    List.take_of_length_le (show cs.length ≤ N - off by omega), List.drop_take, show N - off - cs.length = N - (off + cs.length) by omega]

section
variable {P : Program}

theorem run_copy_own2 (w : World) (dT sT ty elem size : Nat) (hu : P.underlying dT = some (.slice elem)) (hsz : (P.info? elem).map (·.size) = some size)
    (g off dLen dCap : Nat) (ad : Addr) (sLen sCap : Nat)
    (base n cap : Nat) (xs : List Value) (hown : w.ownsRow base elem size (.slice (some ⟨g, 0, none⟩) n cap) n xs) (cs : List Value) (hn : cs.length = Nat.min sLen dLen * size)
    (hsrc : ∀ j v, cs[j]? = some v → w.cell? (ad.add j) = some v) (hfit : off + cs.length ≤ n * size) (h1 : ∀ v ∈ cs, v.oneCell' = true) :
    ∃ w', (Builtin.copy_ #[dT, sT] ty #[.slice (some ⟨g, off, none⟩) dLen dCap, .slice (some ad) sLen sCap]).run P w = .ok (goInt (Nat.min sLen dLen : Nat)) w' ∧
      w'.ownsRow base elem size (.slice (some ⟨g, 0, none⟩) n cap) n (splice xs off cs) ∧ w.grownBy w' (some g) := by
  obtain ⟨cur, hB, hg, hnc, hcm, hcs, htk⟩ := own_parts hown
  have hle : n * size ≤ cap * size := Nat.mul_le_mul_right _ hnc
  have hr := run_copy_rows (P := P) w dT sT ty elem g off dLen dCap ad sLen sCap size cur elem cs hu hsz hg hn hsrc (by omega) h1
  refine ⟨_, hr, ⟨?_, .inr ⟨g, cap, _, rfl, hB, setRow_heap w g cur _ elem _ hg, hnc, hcm, ?_, ?_⟩⟩, ⟨rfl, rfl, rfl, by simp, fun k _ hk => setRow_other w g k _ (fun e => hk (by simp [e]))⟩⟩
  · rw [length_splice _ _ _ (by rw [hown.1]; exact hfit)]; exact hown.1
  · simp only [List.size_toArray, List.length_append, List.length_take, List.length_drop, Array.length_toList]; omega
  · rw [← htk]; exact take_splice cur.toList (n * size) off cs hfit (by simpa using (show n * size ≤ cur.size by omega))

theorem wp_copy_own2 {w : World} {o : Oper} {a : Act} {K : Act → World → Prop} {Q : Exit → Act → World → Prop} (d s : Operand) (dT sT : TypeId)
    (ho : o.op = .call { callee := .builtin .copy, args := #[d, s], argTypes := #[dT, sT] }) (elem size : Nat) (hu : P.underlying dT = some (.slice elem)) (hsz : (P.info? elem).map (·.size) = some size)
    (g off dLen dCap : Nat) (hd : a.eval d = .slice (some ⟨g, off, none⟩) dLen dCap) (ad : Addr) (sLen sCap : Nat) (hs : a.eval s = .slice (some ad) sLen sCap)
    (base n cap : Nat) (xs : List Value) (hown : w.ownsRow base elem size (.slice (some ⟨g, 0, none⟩) n cap) n xs) (cs : List Value) (hn : cs.length = Nat.min sLen dLen * size)
    (hsrc : ∀ j v, cs[j]? = some v → w.cell? (ad.add j) = some v) (hfit : off + cs.length ≤ n * size) (h1 : ∀ v ∈ cs, v.oneCell' = true)
    (h : ∀ w', w'.ownsRow base elem size (.slice (some ⟨g, 0, none⟩) n cap) n (splice xs off cs) → w.grownBy w' (some g) → K (a.put o.dst (goInt (Nat.min sLen dLen : Nat))) w') : o.wp P a w K Q := by
  obtain ⟨w', hr, h2, h3⟩ := run_copy_own2 (P := P) w dT sT o.type elem size hu hsz g off dLen dCap ad sLen sCap base n cap xs hown cs hn hsrc hfit h1
  unfold Oper.wp execOp
  simp only [ho, resolve, invoke, builtin, Sem.run_bind, Sem.run_pure, Result.andThen_ok, List.map_toArray, List.map_cons, List.map_nil, hd, hs, hr]
  exact h w' h2 h3

theorem wpList_copy_own2 {w : World} {ops : Array Oper} {rest : List Oper} {o : Oper} {a : Act} {Q : Exit → Act → World → Prop} (hgd : o.guard = none) (d s : Operand) (dT sT : TypeId)
    (ho : o.op = .call { callee := .builtin .copy, args := #[d, s], argTypes := #[dT, sT] }) (elem size : Nat) (hu : P.underlying dT = some (.slice elem)) (hsz : (P.info? elem).map (·.size) = some size)
    (g off dLen dCap : Nat) (hd : a.eval d = .slice (some ⟨g, off, none⟩) dLen dCap) (ad : Addr) (sLen sCap : Nat) (hs : a.eval s = .slice (some ad) sLen sCap)
    (base n cap : Nat) (xs : List Value) (hown : w.ownsRow base elem size (.slice (some ⟨g, 0, none⟩) n cap) n xs) (cs : List Value) (hn : cs.length = Nat.min sLen dLen * size)
    (hsrc : ∀ j v, cs[j]? = some v → w.cell? (ad.add j) = some v) (hfit : off + cs.length ≤ n * size) (h1 : ∀ v ∈ cs, v.oneCell' = true)
    (h : ∀ w', w'.ownsRow base elem size (.slice (some ⟨g, 0, none⟩) n cap) n (splice xs off cs) → w.grownBy w' (some g) → wpList P ops Q rest (a.put o.dst (goInt (Nat.min sLen dLen : Nat))) w') : wpList P ops Q (o :: rest) a w :=
  wpList_plain hgd fun _ hK => wp_copy_own2 d s dT sT ho elem size hu hsz g off dLen dCap hd ad sLen sCap hs base n cap xs hown cs hn hsrc hfit h1 fun w' h2 h3 => hK _ _ (h w' h2 h3)

theorem step_copy_own2 {w : World} {ops : Array Oper} {o : Oper} {a : Act} {K : Act → World → Prop} {Q : Exit → Act → World → Prop} {E : Prop} (hgd : o.guard = none) (d s : Operand) (dT sT : TypeId)
    (ho : o.op = .call { callee := .builtin .copy, args := #[d, s], argTypes := #[dT, sT] }) (elem size : Nat) (hu : P.underlying dT = some (.slice elem)) (hsz : (P.info? elem).map (·.size) = some size)
    (g off dLen dCap : Nat) (hd : a.eval d = .slice (some ⟨g, off, none⟩) dLen dCap) (ad : Addr) (sLen sCap : Nat) (hs : a.eval s = .slice (some ad) sLen sCap)
    (base n cap : Nat) (xs : List Value) (hown : w.ownsRow base elem size (.slice (some ⟨g, 0, none⟩) n cap) n xs) (cs : List Value) (hn : cs.length = Nat.min sLen dLen * size)
    (hsrc : ∀ j v, cs[j]? = some v → w.cell? (ad.add j) = some v) (hfit : off + cs.length ≤ n * size) (h1 : ∀ v ∈ cs, v.oneCell' = true)
    (h : ∀ w', w'.ownsRow base elem size (.slice (some ⟨g, 0, none⟩) n cap) n (splice xs off cs) → w.grownBy w' (some g) → K (a.put o.dst (goInt (Nat.min sLen dLen : Nat))) w') :
    if Region.wanted o (yielded ops a.tmps) = true then Oper.wp P o a w K Q else E := by
  have hw : Region.wanted o (yielded ops a.tmps) = true := by simp [Region.wanted, hgd]
  rw [if_pos hw]
  exact wp_copy_own2 d s dT sT ho elem size hu hsz g off dLen dCap hd ad sLen sCap hs base n cap xs hown cs hn hsrc hfit h1 h

theorem wpList_append_zeros {w : World} {ops : Array Oper} {rest : List Oper} {o : Oper} {a : Act} {Q : Exit → Act → World → Prop} (hgd : o.guard = none) (s x : Operand) (t u : TypeId)
    (ho : o.op = .call { callee := .builtin .append, args := #[s, x], argTypes := #[t, u] }) (base e : Nat) (i : TypeInfo) (z : Value) (size bytes : Nat)
    (ht : P.underlying t = some (.slice e)) (hu : P.underlying u = some (.int .i64)) (hi : P.info? e = some i) (hz : i.zero = some z) (hsize : i.size = size) (hby : i.bytes = bytes) (hzs : z.cells.size = size) (hs0 : 0 < size)
    (b : Addr) (sLen sCap : Nat) (hs : a.eval s = .slice (some b) sLen sCap) (olds : List Value) (hlo : olds.length = sLen * size) (holds : ∀ j v, olds[j]? = some v → w.cell? (b.add j) = some v)
    (n : Nat) (C : Int) (hx : a.eval x = .int .i64 C) (hC : C = n) (hn0 : 0 < n) (hg : sCap < sLen + n) (h63 : sLen + n ≤ maxLen) (hbytes : (sLen + n) * bytes ≤ 140737488355328) (hbase : base ≤ w.heap.size)
    (h : ∀ zs cap w', zs.length = n * size → w'.ownsRow base e size (.slice (some ⟨w.heap.size, 0, none⟩) (sLen + n) cap) (sLen + n) (olds ++ zs) → w.grownBy w' none → w.heap.size < w'.heap.size → wpList P ops Q rest (a.put o.dst (.slice (some ⟨w.heap.size, 0, none⟩) (sLen + n) cap)) w') :
    wpList P ops Q (o :: rest) a w := by
  subst hsize hby hC
  have hge := grownCap_ge w (sLen + n) sCap e
  have hcm : grownCap w (sLen + n) sCap e ≤ maxLen := grownCap_le_maxLen w (sLen + n) sCap e h63
  have hb' : n * i.bytes ≤ (sLen + n) * i.bytes := Nat.mul_le_mul_right _ (by omega)
  have hr := run_append_zeros_grow (P := P) w t u o.type e i z ht hu hi hz b sLen sCap olds hlo holds n hn0 hs0 hg (by simp only [maxLen] at h63; omega) (by omega) (growslice_fits (by omega) hbytes)
  refine wpList_plain hgd fun _ hK => ?_
  unfold Oper.wp execOp
  simp only [ho, resolve, invoke, builtin, Sem.run_bind, Sem.run_pure, Result.andThen_ok, List.map_toArray, List.map_cons, List.map_nil, hs, hx, hr]
  refine hK _ _ (h (Builtin.zeroCells z.cells n).toList _ _ ?_ ⟨?_, .inr ⟨w.heap.size, _, _, rfl, hbase, heap_alloc_new w.drew _, hge, hcm, ?_, ?_⟩⟩ ⟨rfl, rfl, rfl, by simp, fun k hk _ => Below.heap_alloc w.drew _ k hk⟩ (by simp))
  · simp [size_zeroCells, hzs]
  · simp [size_zeroCells, hzs, hlo, Nat.add_mul]
  · simp only [Array.size_append, List.size_toArray, size_zeroCells, hzs, hlo, ← Nat.add_mul]
    congr 1
    omega
  · have hlen : (olds ++ (Builtin.zeroCells z.cells n).toList).length = (sLen + n) * i.size := by simp [size_zeroCells, hzs, hlo, Nat.add_mul]
    simp only [Array.toList_append]
    rw [← hlen]
    exact List.take_left
end

end Go.Proofs.Qxb6608633a
