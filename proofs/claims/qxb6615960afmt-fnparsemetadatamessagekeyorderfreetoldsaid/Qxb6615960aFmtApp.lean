/-
  The walks of zzAppendInt (13) and zzAppendStr (14).
-/
import Derived.Test.Qxb6615960aFmtUint
import Derived.Test.Qxb6615960aFmtText
namespace Go.Proofs.Qxb6615960aFmt
open Go.RowKit Go.WideShapes

/-- Where two appends follow each other. -/
theorem Apd.step {base : Nat} {w w1 w2 : World} {l : List Int} {e : Ending} (h : Apd base w1 w2 l e) (hb : Below base w w1) : Apd base w w2 l e := by
  obtain ⟨g, cap, h1, h2, h3⟩ := h
  exact ⟨g, cap, h1, h2, hb.trans h3⟩

set_option maxRecDepth 100000 in
set_option maxHeartbeats 1000000 in
theorem appendInt (base g n cap : Nat) (v : Int) (l : List Int) (w : World) (hv0 : -9223372036854775808 ≤ v) (hv1 : v ≤ 9223372036854775807) (hown : w.ownsRow base 5 1 (.slice (some ⟨g, 0, none⟩) n cap) n (byteVals l)) (hn : l.length = n) (hB : base ≤ w.heap.size) (hlim : n ≤ 1900000) :
    Calls Tryf.prog 13 #[.slice (some ⟨g, 0, none⟩) n cap, .int .i64 v] w fun e w' => Apd base w w' (l ++ intT v) e := by
  obtain ⟨i0, hi, hz0, hz1, hz2⟩ := info_parts info5
  have HO : Hid (w.ownsRow base 5 1 (.slice (some ⟨g, 0, none⟩) n cap) n (byteVals l)) := hown
  clear hown
  go_enter Tryf.func13, Tryf.ntmps13
  go_wp2_with (at_builtin; refine wpList_append_own_at _ rfl _ _ 22 rfl base 5 i0 (.int .u8 0) 1 1 Tryf.underlying22 hi hz0 hz1 hz2 rfl (by decide) (.slice (some ⟨g, 0, none⟩) n cap) n _ rfl (HO.out.alloc _) ⟨w.heap.size, 0, none⟩ 1 1 [.int .u8 105] rfl rfl (cell_one_new _ _ _) (byteVals_one [105]) ?c3 ?c4 ?c5 ?_)
  case c3 => unfold maxLen; omega
  case c4 => omega
  case c5 => simp; omega
  intro v1 w1 hown1 hgrow1 _ _
  obtain ⟨g1, cap1, rfl, hb1, hlt1⟩ := hown1.form (by omega)
  have HB1 : Hid (Below base w w1) := ((Below.refl base w).alloc hB _).grown hgrow1 (by simp; omega) (fun i hi => (HO.out.lt i hi).1)
  have HO1 : Hid (w1.ownsRow base 5 1 (.slice (some ⟨g1, 0, none⟩) (n + 1) cap1) (n + 1) (byteVals (l ++ [105]))) := by
    show World.ownsRow _ _ _ _ _ _ _
    rw [byteVals_append]; exact hown1
  clear hown1 hgrow1
  have hB1 : base ≤ w1.heap.size := by have := HB1.out.size; omega
  by_cases hneg : v < 0
  · have hd : decide (v < 0) = true := by simp [hneg]
    go_wp2_with (at_builtin; refine wpList_append_own_at _ rfl _ _ 22 rfl base 5 i0 (.int .u8 0) 1 1 Tryf.underlying22 hi hz0 hz1 hz2 rfl (by decide) (.slice (some ⟨g1, 0, none⟩) (n + 1) cap1) (n + 1) _ rfl (HO1.out.alloc _) ⟨w1.heap.size, 0, none⟩ 1 1 [.int .u8 45] rfl rfl (cell_one_new _ _ _) (byteVals_one [45]) ?d3 ?d4 ?d5 ?_)
    case d3 => unfold maxLen; omega
    case d4 => omega
    case d5 => simp; omega
    intro v2 w2 hown2 hgrow2 _ _
    obtain ⟨g2, cap2, rfl, hb2, hlt2⟩ := hown2.form (by omega)
    have HB2 : Hid (Below base w w2) := (HB1.out.alloc hB1 _).grown hgrow2 (by simp; omega) (fun i hi => (HO1.out.lt i hi).1)
    have HO2 : Hid (w2.ownsRow base 5 1 (.slice (some ⟨g2, 0, none⟩) (n + 1 + 1) cap2) (n + 1 + 1) (byteVals (l ++ [105] ++ [45]))) := by
      show World.ownsRow _ _ _ _ _ _ _
      rw [byteVals_append (l ++ [105])]; exact hown2
    clear hown2 hgrow2
    have hB2 : base ≤ w2.heap.size := by have := HB2.out.size; omega
    go_wp2_with fail
    obtain ⟨u, huv⟩ : ∃ u : Nat, u = (-v).toNat := ⟨_, rfl⟩
    have hw : IntKind.u64.wrap (-IntKind.u64.wrap v) = (u : Int) := by
      rw [huv]
      simp only [IntKind.wrap, IntKind.signed, IntKind.bits]
      simp
      omega
    rw [hw]
    have hu64 : u ≤ 9223372036854775808 := by omega
    have HUV : Hid (u = (-v).toNat) := huv
    clear hw huv
    refine (appendUint base u g2 (n + 1 + 1) cap2 (l ++ [105] ++ [45]) w2 (by omega) HO2.out (by simp [hn]) hB2 (by omega)).mono ?_
    rintro e w3 ⟨g3, cap3, rfl, hown3, hb3⟩
    have HB3 : Hid (Below base w w3) := HB2.out.trans hb3
    obtain ⟨L, hL⟩ : ∃ L, L = (l ++ [105] ++ [45]) ++ dig u := ⟨_, rfl⟩
    rw [← hL] at hown3 ⊢
    have HL : Hid (L = (l ++ [105] ++ [45]) ++ dig u) := hL
    obtain ⟨m, hm⟩ : ∃ m, m = L.length := ⟨_, rfl⟩
    have hml : m ≤ n + 22 := by
      have := nd_le_20 u (by omega)
      rw [hm, hL]; simp [dig_length]; omega
    have HM : Hid (m = L.length) := hm
    rw [← hm] at hown3 ⊢
    have HO3 : Hid (w3.ownsRow base 5 1 (.slice (some ⟨g3, 0, none⟩) m cap3) m (byteVals L)) := hown3
    clear hown3 hb3 hm hL
    have hB3 : base ≤ w3.heap.size := by have := HB3.out.size; omega
    go_wp2_with (at_builtin; refine wpList_append_own_at _ rfl _ _ 22 rfl base 5 i0 (.int .u8 0) 1 1 Tryf.underlying22 hi hz0 hz1 hz2 rfl (by decide) (.slice (some ⟨g3, 0, none⟩) m cap3) m _ rfl (HO3.out.alloc _) ⟨w3.heap.size, 0, none⟩ 1 1 [.int .u8 101] rfl rfl (cell_one_new _ _ _) (byteVals_one [101]) ?e3 ?e4 ?e5 ?_)
    case e3 => unfold maxLen; omega
    case e4 => omega
    case e5 => simp; omega
    intro v4 w4 hown4 hgrow4 _ _
    obtain ⟨g4, cap4, rfl, hb4, hlt4⟩ := hown4.form (by omega)
    have HF : Hid (Apd base w w4 (l ++ intT v) (.returned (.slice (some ⟨g4, 0, none⟩) (m + 1) cap4))) := by
      have hb := (HB3.out.alloc hB3 _).grown hgrow4 (by simp; omega) (fun i hi => (HO3.out.lt i hi).1)
      have e1 : l ++ intT v = L ++ [101] := by rw [HL.out, HUV.out]; simp [intT, hneg]
      have e2 : (l ++ intT v).length = m + 1 := by rw [e1, List.length_append, HM.out]; rfl
      refine ⟨g4, cap4, by rw [e2], by rw [e2, e1, byteVals_append]; exact hown4, hb⟩
    clear hown4 hgrow4
    go_wp2
    go_ret
    exact HF.out
  · have hd : decide (v < 0) = false := by simp [hneg]
    go_wp2_with fail
    obtain ⟨u, huv⟩ : ∃ u : Nat, u = v.toNat := ⟨_, rfl⟩
    have hw : v = (u : Int) := by omega
    rw [show Value.int .u64 v = Value.int .u64 (u : Int) by rw [← hw]]
    have hu64 : u ≤ 9223372036854775808 := by omega
    have HUV : Hid (u = v.toNat) := huv
    clear hw huv
    refine (appendUint base u g1 (n + 1) cap1 (l ++ [105]) w1 (by omega) HO1.out (by simp [hn]) hB1 (by omega)).mono ?_
    rintro e w3 ⟨g3, cap3, rfl, hown3, hb3⟩
    have HB3 : Hid (Below base w w3) := HB1.out.trans hb3
    obtain ⟨L, hL⟩ : ∃ L, L = (l ++ [105]) ++ dig u := ⟨_, rfl⟩
    rw [← hL] at hown3 ⊢
    have HL : Hid (L = (l ++ [105]) ++ dig u) := hL
    obtain ⟨m, hm⟩ : ∃ m, m = L.length := ⟨_, rfl⟩
    have hml : m ≤ n + 22 := by
      have := nd_le_20 u (by omega)
      rw [hm, hL]; simp [dig_length]; omega
    have HM : Hid (m = L.length) := hm
    rw [← hm] at hown3 ⊢
    have HO3 : Hid (w3.ownsRow base 5 1 (.slice (some ⟨g3, 0, none⟩) m cap3) m (byteVals L)) := hown3
    clear hown3 hb3 hm hL
    have hB3 : base ≤ w3.heap.size := by have := HB3.out.size; omega
    go_wp2_with (at_builtin; refine wpList_append_own_at _ rfl _ _ 22 rfl base 5 i0 (.int .u8 0) 1 1 Tryf.underlying22 hi hz0 hz1 hz2 rfl (by decide) (.slice (some ⟨g3, 0, none⟩) m cap3) m _ rfl (HO3.out.alloc _) ⟨w3.heap.size, 0, none⟩ 1 1 [.int .u8 101] rfl rfl (cell_one_new _ _ _) (byteVals_one [101]) ?e3 ?e4 ?e5 ?_)
    case e3 => unfold maxLen; omega
    case e4 => omega
    case e5 => simp; omega
    intro v4 w4 hown4 hgrow4 _ _
    obtain ⟨g4, cap4, rfl, hb4, hlt4⟩ := hown4.form (by omega)
    have HF : Hid (Apd base w w4 (l ++ intT v) (.returned (.slice (some ⟨g4, 0, none⟩) (m + 1) cap4))) := by
      have hb := (HB3.out.alloc hB3 _).grown hgrow4 (by simp; omega) (fun i hi => (HO3.out.lt i hi).1)
      have e1 : l ++ intT v = L ++ [101] := by
        rw [HL.out, HUV.out]
        unfold intT
        rw [if_neg (by omega)]
        simp
      have e2 : (l ++ intT v).length = m + 1 := by rw [e1, List.length_append, HM.out]; rfl
      refine ⟨g4, cap4, by rw [e2], by rw [e2, e1, byteVals_append]; exact hown4, hb⟩
    clear hown4 hgrow4
    go_wp2
    go_ret
    exact HF.out

theorem append_nil (g n cap c : Nat) (ty : TypeId) (hn : n ≤ cap) (w : World) :
    (Builtin.append_ #[22, 22] ty #[.slice (some ⟨g, 0, none⟩) n cap, .slice none 0 c]).run Tryf.prog w = .ok (.slice (some ⟨g, 0, none⟩) n cap) w := by
  obtain ⟨i0, hi, hz0, hz1, hz2⟩ := info_parts info5
  have hf := run_firstCells_none (P := Tryf.prog) w 1 0 0 c
  simp [Builtin.append_, run_underlying Tryf.underlying22, sizeOf, typeInfo, hi, hz1, Builtin.lenOf, hn, hf, storeCells]

/-- 'append(dst, s...)', s a slice of bytes that lies below. -/
theorem src_cells {w : World} {b off m : Nat} {s : List Int} (hl : s.length = m) (h : ∀ i, i < m → w.cell? ⟨b, off + i, none⟩ = some (.int .u8 (s.getD i 0))) : ∀ j u, (byteVals s)[j]? = some u → w.cell? ((⟨b, off, none⟩ : Addr).add j) = some u := by
  intro j u hj
  have hjl : j < s.length := by
    rcases Nat.lt_or_ge j s.length with h' | h'
    · exact h'
    · rw [List.getElem?_eq_none (by rw [byteVals_length]; exact h')] at hj; cases hj
  rw [add_plain, h j (by omega)]
  rw [byteVals, List.getElem?_map, List.getElem?_eq_getElem hjl] at hj
  rw [List.getD_eq_getElem?_getD, List.getElem?_eq_getElem hjl]
  simpa using hj

set_option maxRecDepth 100000 in
set_option maxHeartbeats 1000000 in
theorem appendStr (base g n cap : Nat) (a : Option Addr) (m c : Nat) (l s : List Int) (w : World) (ha : a = none → m = 0 ∧ c = 0) (hs : ∀ w', Below base w w' → Seg w' a m s) (hown : w.ownsRow base 5 1 (.slice (some ⟨g, 0, none⟩) n cap) n (byteVals l)) (hn : l.length = n) (hB : base ≤ w.heap.size) (hlim : n ≤ 1000) (hm : m ≤ 1048576) :
    Calls Tryf.prog 14 #[.slice (some ⟨g, 0, none⟩) n cap, .slice a m c] w fun e w' => Apd base w w' (l ++ strT s) e := by
  obtain ⟨i0, hi, hz0, hz1, hz2⟩ := info_parts info5
  have HO : Hid (w.ownsRow base 5 1 (.slice (some ⟨g, 0, none⟩) n cap) n (byteVals l)) := hown
  have HS : Hid (∀ w', Below base w w' → Seg w' a m s) := hs
  have HA : Hid (a = none → m = 0 ∧ c = 0) := ha
  have hsl : s.length = m := (hs w (Below.refl _ _)).1
  clear hown hs ha
  go_enter Tryf.func14, Tryf.ntmps14
  go_wp2_with fail
  refine (appendUint base m g n cap l w (by omega) HO.out hn hB (by omega)).mono ?_
  rintro e w1 ⟨g1, cap1, rfl, hown1, hb1⟩
  obtain ⟨L, hL⟩ : ∃ L, L = l ++ dig m := ⟨_, rfl⟩
  rw [← hL] at hown1 ⊢
  have HL : Hid (L = l ++ dig m) := hL
  obtain ⟨k, hk⟩ : ∃ k, k = L.length := ⟨_, rfl⟩
  have hkl : k ≤ n + 20 := by
    have := nd_le_20 m (by omega)
    rw [hk, hL]; simp [dig_length]; omega
  have HK : Hid (k = L.length) := hk
  rw [← hk] at hown1 ⊢
  have HO1 : Hid (w1.ownsRow base 5 1 (.slice (some ⟨g1, 0, none⟩) k cap1) k (byteVals L)) := hown1
  have HB1 : Hid (Below base w w1) := hb1
  have hB1 : base ≤ w1.heap.size := by have := hb1.size; omega
  clear hown1 hb1 hk hL
  go_wp2_with (at_builtin; refine wpList_append_own_at _ rfl _ _ 22 rfl base 5 i0 (.int .u8 0) 1 1 Tryf.underlying22 hi hz0 hz1 hz2 rfl (by decide) (.slice (some ⟨g1, 0, none⟩) k cap1) k _ rfl (HO1.out.alloc _) ⟨w1.heap.size, 0, none⟩ 1 1 [.int .u8 58] rfl rfl (cell_one_new _ _ _) (byteVals_one [58]) ?c3 ?c4 ?c5 ?_)
  case c3 => unfold maxLen; omega
  case c4 => omega
  case c5 => simp; omega
  intro v2 w2 hown2 hgrow2 _ _
  obtain ⟨g2, cap2, rfl, hb2, hlt2⟩ := hown2.form (by omega)
  have HB2 : Hid (Below base w w2) := (HB1.out.alloc hB1 _).grown hgrow2 (by simp; omega) (fun i hi => (HO1.out.lt i hi).1)
  have HO2 : Hid (w2.ownsRow base 5 1 (.slice (some ⟨g2, 0, none⟩) (k + 1) cap2) (k + 1) (byteVals (L ++ [58]))) := by
    show World.ownsRow _ _ _ _ _ _ _
    rw [byteVals_append]; exact hown2
  have hB2 : base ≤ w2.heap.size := by have := HB2.out.size; omega
  clear hown2 hgrow2
  have e1 : l ++ strT s = L ++ [58] ++ s := by rw [HL.out]; simp [strT, hsl]
  have e2 : (l ++ strT s).length = k + 1 + m := by rw [e1, List.length_append, List.length_append, HK.out, hsl]; rfl
  have HE1 : Hid (l ++ strT s = L ++ [58] ++ s) := e1
  have HE2 : Hid ((l ++ strT s).length = k + 1 + m) := e2
  clear e1 e2
  cases a with
  | none =>
    obtain ⟨rfl, rfl⟩ := HA.out rfl
    have hs0 : s = [] := List.length_eq_zero_iff.1 hsl
    have hcap : k + 1 ≤ cap2 := by
      rcases HO2.out.2 with ⟨h', _⟩ | ⟨g', c', cur, hv, _, _, hle, _⟩
      · cases h'
      · simp only [Value.slice.injEq] at hv
        obtain ⟨_, _, rfl⟩ := hv
        exact hle
    have hap := fun ty w => append_nil g2 (k + 1) cap2 0 ty hcap w
    have HF : Hid (Apd base w w2 (l ++ strT s) (.returned (.slice (some ⟨g2, 0, none⟩) (k + 1) cap2))) := by
      refine ⟨g2, cap2, by rw [HE2.out], ?_, HB2.out⟩
      rw [HE2.out, HE1.out, hs0, List.append_nil]; exact HO2.out
    clear hsl hs0
    go_wp2
    go_ret
    exact HF.out
  | some x =>
    have HN : Hid (∀ j u, (byteVals s)[j]? = some u → w2.cell? (x.add j) = some u) := by
      show ∀ j u, _ → _
      obtain ⟨_, _, h3⟩ := HS.out w2 HB2.out
      rcases h3 with h3 | ⟨b, off, hx, _, hc⟩
      · have : s = [] := List.length_eq_zero_iff.1 (by omega)
        subst this
        intro j u hj
        simp [byteVals] at hj
      · cases hx
        exact src_cells hsl hc
    have HSL : Hid (s.length = m) := hsl
    clear hsl
    go_wp2_with (at_builtin; refine wpList_append_own_at _ rfl _ _ 22 rfl base 5 i0 (.int .u8 0) 1 1 Tryf.underlying22 hi hz0 hz1 hz2 rfl (by decide) (.slice (some ⟨g2, 0, none⟩) (k + 1) cap2) (k + 1) _ rfl HO2.out x m c (byteVals s) rfl ?f1 HN.out (byteVals_one _) ?f3 ?f4 ?f5 ?_)
    case f1 => rw [byteVals_length, HSL.out, Nat.mul_one]
    case f3 => unfold maxLen; omega
    case f4 => omega
    case f5 => exact hB2
    intro v3 w3 hown3 hgrow3 _ _
    obtain ⟨g3, cap3, rfl, hb3, hlt3⟩ := hown3.form (by omega)
    have HF : Hid (Apd base w w3 (l ++ strT s) (.returned (.slice (some ⟨g3, 0, none⟩) (k + 1 + m) cap3))) := by
      have hb := HB2.out.grown hgrow3 hB2 (fun i hi => (HO2.out.lt i hi).1)
      refine ⟨g3, cap3, by rw [HE2.out], ?_, hb⟩
      rw [HE2.out, HE1.out, byteVals_append (L ++ [58])]; exact hown3
    clear hown3 hgrow3
    go_wp2
    go_ret
    exact HF.out
end Go.Proofs.Qxb6615960aFmt
