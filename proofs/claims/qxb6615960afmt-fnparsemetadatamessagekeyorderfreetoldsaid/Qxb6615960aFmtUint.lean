/-
  The walk of zzAppendUint (28).
-/
import Derived.Test.Qxb6615960aFmtDec
import Derived.Lib.AppendStr
import Derived.Maps.Range
namespace Go.Proofs.Qxb6615960aFmt
open Go.RowKit Go.WideShapes

theorem info5 : (Tryf.prog.info? 5).map (fun i => (i.zero, i.size, i.bytes)) = some (some (.int .u8 0), 1, 1) := by kernel_rfl
def byteVals (l : List Int) : List Value := l.map (Value.int .u8)
theorem byteVals_length (l : List Int) : (byteVals l).length = l.length := by simp [byteVals]
theorem byteVals_append (l m : List Int) : byteVals (l ++ m) = byteVals l ++ byteVals m := by simp [byteVals]
theorem byteVals_one (l : List Int) : ∀ u ∈ byteVals l, u.oneCell' = true := by
  intro u hu
  simp only [byteVals, List.mem_map] at hu
  obtain ⟨x, _, rfl⟩ := hu
  rfl

/-- What an append leaves. -/
def Apd (base : Nat) (w w' : World) (l : List Int) (e : Ending) : Prop :=
  ∃ g cap, e = .returned (.slice (some ⟨g, 0, none⟩) l.length cap) ∧ w'.ownsRow base 5 1 (.slice (some ⟨g, 0, none⟩) l.length cap) l.length (byteVals l) ∧ Below base w w'

/-- The digits that stand in the array already. -/
def Row20 (w : World) (A u j : Nat) : Prop :=
  ∀ t, t < 20 → (∃ x, w.cell? ⟨A, t, none⟩ = some (.int .u8 x) ∧ (20 - j ≤ t → x = 48 + ((u / 10 ^ (19 - t) % 10 : Nat) : Int))) ∧ w.frozen? ⟨A, t, none⟩ = false

theorem Row20.store {w : World} {A u j : Nat} {x : Int} (h : Row20 w A u j) (hj : j ≤ 19) (hx : x = 48 + ((u / 10 ^ j % 10 : Nat) : Int)) : Row20 (w.setCell ⟨A, 19 - j, none⟩ (.int .u8 x)) A u (j + 1) := by
  intro t ht
  obtain ⟨⟨y, hy, hyv⟩, hf⟩ := h t ht
  refine ⟨?_, by simpa using hf⟩
  by_cases htj : t = 19 - j
  · subst htj
    refine ⟨x, World.cell?_setCell_same w _ _ hy, fun _ => ?_⟩
    rw [hx, show 19 - (19 - j) = j by omega]
  · refine ⟨y, ?_, fun h' => hyv (by omega)⟩
    rw [World.cell?_setCell_other w _ _ _ (by intro e; cases e; exact htj rfl)]; exact hy

theorem frozen_block {w : World} {A : Nat} {vs : Array Value} {t : TypeId} (h : w.heap[A]? = some (.cells vs t)) (i : Nat) : w.frozen? ⟨A, i, none⟩ = false := by simp [World.frozen?, h]

theorem row20_new (w : World) (u : Nat) : Row20 (w.alloc (.cells (Array.replicate 20 (.int .u8 0)) 42)) w.heap.size u 0 := by
  have hblk : (w.alloc (.cells (Array.replicate 20 (.int .u8 0)) 42)).heap[w.heap.size]? = some (.cells (Array.replicate 20 (.int .u8 0)) 42) := (MapKept.heap_alloc w _).1
  intro t ht
  refine ⟨⟨0, ?_, fun h => by omega⟩, ?_⟩
  · rw [World.cell?_alloc_mark]; simp [ht]
  · exact frozen_block hblk t

theorem slice42 (A k : Nat) (h1 : 1 ≤ k) (h2 : k ≤ 20) (w : World) :
    (Instr.sliceAt 42 (.pointer (some ⟨A, 0, none⟩)) (some (.int .i64 ((k : Int) - 1))) none none).run Tryf.prog w = .ok (.slice (some ⟨A, k - 1, none⟩) (21 - k) (21 - k)) w := by
  have ha : Tryf.prog.arrayLen 42 = 20 := by kernel_rfl
  have hz : (sizeOf (Tryf.prog.elem 42)).run Tryf.prog w = .ok 1 w := by kernel_rfl
  have hu : Tryf.prog.underlying 42 = some (.array (Tryf.prog.arrayLen 42) (Tryf.prog.elem 42)) := by kernel_rfl
  have hto : ((k : Int) - 1).toNat = k - 1 := by omega
  have hne : ¬ 20 = k - 1 := by omega
  rw [run_sliceAt_array_l w 42 ⟨A, 0, none⟩ hu .i64 ((k : Int) - 1) (by omega) (by rw [ha]; omega), hz, ha, hto]
  simp [slicedAt, hne, Addr.add]
  omega

theorem more_digits {u j : Nat} (h : 10 ≤ u / 10 ^ j) (hu : u < 18446744073709551616) : j + 1 ≤ 19 := by
  have h1 : 10 * 10 ^ j ≤ u := (Nat.le_div_iff_mul_le (Nat.pow_pos (by decide))).1 h
  have h2 : 10 ^ (j + 1) < 10 ^ 20 := by rw [Nat.pow_succ]; omega
  have := (Nat.pow_lt_pow_iff_right (by decide : 1 < 10)).1 h2
  omega

/-- What the array's end reads as, when all digits stand. -/
theorem row20_digits {w : World} {A u j : Nat} (h : Row20 w A u (j + 1)) (hj : j ≤ 19) (hnd : nd u = j + 1) : ∀ t x, (byteVals (dig u))[t]? = some x → w.cell? ((⟨A, 19 - j, none⟩ : Addr).add t) = some x := by
  intro t x hx
  have ht : t < nd u := by
    rcases Nat.lt_or_ge t (nd u) with h' | h'
    · exact h'
    · rw [List.getElem?_eq_none (by rw [byteVals_length, dig_length]; exact h')] at hx; cases hx
  obtain ⟨⟨y, hy, hyv⟩, _⟩ := h (19 - j + t) (by omega)
  rw [add_plain, hy, hyv (by omega)]
  rw [byteVals, List.getElem?_map] at hx
  have hg := dig_getD u ht
  rw [List.getD_eq_getElem?_getD] at hg
  rw [List.getElem?_eq_getElem (by rw [dig_length]; exact ht)] at hx hg
  simp only [Option.getD_some] at hg
  simp only [Option.map_some, hg] at hx
  rw [← hx]
  unfold dg
  rw [show 19 - (19 - j + t) = nd u - 1 - t by omega]

set_option maxRecDepth 100000 in
set_option maxHeartbeats 1000000 in
theorem appendUint (base u g n cap : Nat) (l : List Int) (w : World) (hu : u < 18446744073709551616) (hown : w.ownsRow base 5 1 (.slice (some ⟨g, 0, none⟩) n cap) n (byteVals l)) (hn : l.length = n) (hB : base ≤ w.heap.size) (hlim : n ≤ 2000000) :
    Calls Tryf.prog 28 #[.slice (some ⟨g, 0, none⟩) n cap, .int .u64 u] w fun e w' => Apd base w w' (l ++ dig u) e := by
  obtain ⟨i0, hi, hz0, hz1, hz2⟩ := info_parts info5
  have HO : Hid (w.ownsRow base 5 1 (.slice (some ⟨g, 0, none⟩) n cap) n (byteVals l)) := hown
  clear hown
  go_enter Tryf.func28, Tryf.ntmps28
  go_wp2
  go_loopw [1, 6] (fun vu vi wr => ∃ j, j ≤ 19 ∧ vu = .int .u64 ((u / 10 ^ j : Nat) : Int) ∧ vi = .int .i64 ((20 - j : Nat) : Int) ∧ (j = 0 ∨ 10 ≤ u / 10 ^ (j - 1)) ∧ Row20 wr w.heap.size u j ∧ w.grownBy wr none ∧ w.heap.size < wr.heap.size)
    (fun vu _ _ => (intOf vu).toNat)
  case atStart => exact ⟨0, by omega, by simp, rfl, .inl rfl, row20_new w u, World.grownBy_alloc _ _ _, by simp⟩
  case round =>
    obtain ⟨j, hj, rfl, rfl, hjj, hrow, hgr, hsz⟩ := hrel
    obtain ⟨y, hy⟩ : ∃ y, y = u / 10 ^ j := ⟨_, rfl⟩
    have hyu : y ≤ u := by rw [hy]; exact Nat.div_le_self _ _
    have HY : Hid (y = u / 10 ^ j) := hy
    have HJ : Hid (j = 0 ∨ 10 ≤ u / 10 ^ (j - 1)) := hjj
    have HR : Hid (Row20 wr w.heap.size u j) := hrow
    have HG : Hid (w.grownBy wr none) := hgr
    rw [← hy]
    obtain ⟨k, hk⟩ : ∃ k, k = 20 - j := ⟨_, rfl⟩
    have HK : Hid (k = 20 - j) := hk
    have hk1 : 1 ≤ k := by omega
    have hk20 : k ≤ 20 := by omega
    rw [← hk]
    obtain ⟨⟨x0, hx0, _⟩, hf0⟩ := hrow (19 - j) (by omega)
    have ekj : 19 - j = k - 1 := by omega
    rw [ekj] at hx0 hf0
    clear hy hjj hrow hgr hk ekj
    by_cases h10 : 10 ≤ y
    · have hge : decide ((10 : Int) ≤ (y : Int)) = true := by simp; omega
      go_wp2
      go_roundw
      case rel =>
        have e1 := HY.out
        have e2 := HK.out
        have h19 : j + 1 ≤ 19 := more_digits (by rw [← e1]; exact h10) hu
        have ek : k - 1 = 19 - j := by omega
        refine ⟨j + 1, h19, ?_, ?_, .inr (by rw [Nat.add_sub_cancel, ← e1]; exact h10), ?_, ?_, by simpa using hsz⟩
        · congr 1
          rw [Nat.pow_succ, ← Nat.div_div_eq_div_mul, ← e1]; omega
        · congr 1; omega
        · rw [ek]; exact HR.out.store hj (by rw [← e1]; omega)
        · exact HG.out.andThen (row' := some w.heap.size) (grown_set (grown_refl _ _) _ _) (fun i hi => .inl (by simp at hi; omega))
      case measure => simp [intOf]; omega
    · have hge : decide ((10 : Int) ≤ (y : Int)) = false := by simp; omega
      have hnd : nd u = j + 1 := nd_of_rounds u j (by rw [← HY.out]; omega) HJ.out
      have ek : k - 1 = 19 - j := by have := HK.out; omega
      have HW : Hid (Row20 (wr.setCell ⟨w.heap.size, k - 1, none⟩ (.int .u8 (48 + (y : Int)))) w.heap.size u (j + 1)) := by
        show Row20 _ _ _ _
        rw [ek]; exact HR.out.store hj (by rw [← HY.out]; omega)
      have hgw : w.grownBy (wr.setCell ⟨w.heap.size, k - 1, none⟩ (.int .u8 (48 + (y : Int)))) none := HG.out.andThen (row' := some w.heap.size) (grown_set (grown_refl _ _) _ _) (fun i hi => .inl (by simp at hi; omega))
      have HO2 : Hid ((wr.setCell ⟨w.heap.size, k - 1, none⟩ (.int .u8 (48 + (y : Int)))).ownsRow base 5 1 (.slice (some ⟨g, 0, none⟩) n cap) n (byteVals l)) := HO.out.kept hgw (.inr (by simp [Value.ownBlock]))
      have HG2 : Hid (w.grownBy (wr.setCell ⟨w.heap.size, k - 1, none⟩ (.int .u8 (48 + (y : Int)))) none) := hgw
      have HN : Hid (∀ t x, (byteVals (dig u))[t]? = some x → (wr.setCell ⟨w.heap.size, k - 1, none⟩ (.int .u8 (48 + (y : Int)))).cell? ((⟨w.heap.size, k - 1, none⟩ : Addr).add t) = some x) := by
        show ∀ t x, _ → _
        have := row20_digits HW.out hj hnd
        rw [← ek] at this
        exact this
      have HND : Hid (nd u = 21 - k) := by show nd u = 21 - k; have := HK.out; omega
      have hsl := fun w' => slice42 w.heap.size k hk1 hk20 w'
      have hws : w.heap.size ≤ (wr.setCell ⟨w.heap.size, k - 1, none⟩ (.int .u8 (48 + (y : Int)))).heap.size := hgw.size
      clear hgw hnd ek
      go_wp2_with (at_builtin; refine wpList_append_own_at _ rfl _ _ 22 rfl base 5 i0 (.int .u8 0) 1 1 Tryf.underlying22 hi hz0 hz1 hz2 rfl (by decide) (.slice (some ⟨g, 0, none⟩) n cap) n _ rfl HO2.out ⟨w.heap.size, k - 1, none⟩ (21 - k) (21 - k) (byteVals (dig u)) rfl ?c1 HN.out (byteVals_one _) ?c3 ?c4 ?c5 ?_)
      case c1 => rw [byteVals_length, dig_length, HND.out, Nat.mul_one]
      case c3 => unfold maxLen; omega
      case c4 => omega
      case c5 => exact Nat.le_trans hB hws
      intro v' w1 hown' hgrow _ _
      obtain ⟨g', cap', rfl, hb', hlt'⟩ := hown'.form (by omega)
      have HF : Hid (Apd base w w1 (l ++ dig u) (.returned (.slice (some ⟨g', 0, none⟩) (n + (21 - k)) cap'))) := by
        have e : (l ++ dig u).length = n + (21 - k) := by rw [List.length_append, dig_length, HND.out, hn]
        refine ⟨g', cap', by rw [e], by rw [e, byteVals_append]; exact hown', ?_⟩
        have h1 : Below base w (wr.setCell ⟨w.heap.size, k - 1, none⟩ (.int .u8 (48 + (y : Int)))) := (Below.refl base w).grown HG2.out hB (fun i hi => by cases hi)
        exact h1.grown hgrow (Nat.le_trans hB hws) (fun i hi => (HO2.out.lt i hi).1)
      clear hown' hgrow hsl
      go_wp2
      go_ret
      exact HF.out
end Go.Proofs.Qxb6615960aFmt
