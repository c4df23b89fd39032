/-
  The walks of zzB1Recase (10) at 0 and 1, and of zzB1UpperEqual (9) at the marker.
-/
import Derived.Test.Qxb6615213aClone
import Derived.Test.Qxb6615213aIndex
import Derived.Deep.QuietTactic
import Derived.BigQuiet
namespace Go.Proofs.Qxb6615213a
open Go.RowKit Go.WideShapes

/-- The first k numbers of l turned by f. -/
def mix (f : Int → Int) (l : List Int) (k : Nat) : List Value := byteVals ((l.take k).map f ++ l.drop k)
theorem mix_zero (f : Int → Int) (l : List Int) : mix f l 0 = byteVals l := by simp [mix]
theorem mix_full (f : Int → Int) (l : List Int) : mix f l l.length = byteVals (l.map f) := by simp [mix]
theorem mix_at (f : Int → Int) (l : List Int) {k : Nat} (h : k < l.length) : (mix f l k)[k]? = some (.int .u8 (l.getD k 0)) := by
  unfold mix byteVals
  rw [List.getElem?_map, List.getElem?_append_right (by rw [List.length_map, List.length_take]; omega), List.length_map, List.length_take, List.getElem?_drop, List.getD_eq_getElem?_getD,
    show k + (k - min k l.length) = k by omega, List.getElem?_eq_getElem h]
  rfl
theorem mix_step (f : Int → Int) (l : List Int) {k : Nat} (h : k < l.length) : (mix f l k).set k (.int .u8 (f (l.getD k 0))) = mix f l (k + 1) := by
  have e1 : l.drop k = l[k] :: l.drop (k + 1) := List.drop_eq_getElem_cons h
  have e2 : l.getD k 0 = l[k] := by rw [List.getD_eq_getElem?_getD, List.getElem?_eq_getElem h]; rfl
  unfold mix byteVals
  rw [e1, e2, List.map_append, List.set_append_right _ _ (by rw [List.length_map, List.length_map, List.length_take]; omega), List.length_map, List.length_map, List.length_take, show k - min k l.length = 0 by omega,
    List.map_cons, List.set_cons_zero, List.take_add_one, List.getElem?_eq_getElem h, List.map_append, List.map_append, List.map_append, List.append_assoc]
  rfl

theorem lower_free (c : Int) (w : World) : Calls Try.prog 12 #[.int .u8 c] w fun e w' => e = .returned (.int .u8 (lowI c)) ∧ w' = w := by
  unfold lowI
  by_cases ha : 65 ≤ c
  · by_cases hb : c ≤ 90
    · exact (lower_any c w (by omega) (by omega)).mono fun e w' h => by rw [lowI] at h; exact h
    · rw [if_neg (by omega)]
      go_enter Try.func12, Try.ntmps12
      go_wp2
      go_ret
      exact ⟨rfl, rfl⟩
  · rw [if_neg (by omega)]
    go_enter Try.func12, Try.ntmps12
    go_wp2
    go_ret
    exact ⟨rfl, rfl⟩
theorem upper_free (c : Int) (w : World) : Calls Try.prog 13 #[.int .u8 c] w fun e w' => e = .returned (.int .u8 (upI c)) ∧ w' = w := by
  unfold upI
  by_cases ha : 97 ≤ c
  · by_cases hb : c ≤ 122
    · exact (upper_any c w (by omega) (by omega)).mono fun e w' h => by rw [upI] at h; exact h
    · rw [if_neg (by omega)]
      go_enter Try.func13, Try.ntmps13
      go_wp2
      go_ret
      exact ⟨rfl, rfl⟩
  · rw [if_neg (by omega)]
    go_enter Try.func13, Try.ntmps13
    go_wp2
    go_ret
    exact ⟨rfl, rfl⟩
theorem lower_fw (c : Int) (w : World) : Calls Try.prog 12 #[.int .u8 c] w fun e w' => e = .returned (.int .u8 (lowI c)) ∧ w = w' := (lower_free c w).mono fun _ _ h => ⟨h.1, h.2.symm⟩
theorem upper_fw (c : Int) (w : World) : Calls Try.prog 13 #[.int .u8 c] w fun e w' => e = .returned (.int .u8 (upI c)) ∧ w = w' := (upper_free c w).mono fun _ _ h => ⟨h.1, h.2.symm⟩

theorem recase_nil (how : Int) (w : World) : Calls Try.prog 10 #[.slice none 0 0, .int .i64 how] w fun e w' => e = .returned (.slice none 0 0) ∧ w' = w := by
  go_enter Try.func10, Try.ntmps10
  go_wp2_with fail
  refine (clone_nil _).mono ?_
  rintro e w1 ⟨rfl, hw⟩
  obtain rfl := hw.symm
  go_wp2
  refine wp_loop_rounds 1 ?_
  rw [rounds_succ]
  go_wp2
  go_ret
  exact ⟨rfl, rfl⟩

set_option maxHeartbeats 400000 in
theorem recase_up (x : Addr) (n c : Nat) (l : List Int) (w : World) (h : Seg w (some x) n l) (hn : n ≤ 1048600) :
    Calls Try.prog 10 #[.slice (some x) n c, .int .i64 0] w fun e w' => e = .returned (.slice (some ⟨w.heap.size, 0, none⟩) n n) ∧
      w'.ownsRow w.heap.size 5 1 (.slice (some ⟨w.heap.size, 0, none⟩) n n) n (byteVals (l.map upI)) ∧ Below w.heap.size w w' := by
  have HS : Hid (Seg w (some x) n l) := h
  clear h
  go_enter Try.func10, Try.ntmps10
  go_wp2_with fail
  refine (clone_some x n c l w HS.out hn).mono ?_
  rintro e w1 ⟨rfl, hown1, hb1⟩
  go_wp2_with fail
  go_loopw [6] (fun i wr => ∃ k : Nat, k ≤ n ∧ i = .int .i64 k ∧ wr.ownsRow w.heap.size 5 1 (.slice (some ⟨w.heap.size, 0, none⟩) n n) n (mix upI l k) ∧ Below w.heap.size w wr)
    (fun i _ => n - (intOf i).toNat)
  case atStart => exact ⟨0, Nat.zero_le _, rfl, by rw [mix_zero]; exact hown1, hb1⟩
  case round =>
    obtain ⟨k, hk, rfl, hownr, hbr⟩ := hrel
    clear hown1 hb1
    by_cases hlt : k < n
    · have hkl : k < l.length := by rw [HS.out.1]; exact hlt
      have hck : wr.cell? ⟨w.heap.size, k, none⟩ = some (.int .u8 (l.getD k 0)) := by rw [hownr.cellAt k (by omega)]; exact mix_at upI l hkl
      have hfk : wr.frozen? ⟨w.heap.size, k, none⟩ = false := hownr.frozenAt k
      have hst := (hownr.stored k (.int .u8 (upI (l.getD k 0)))).1
      rw [mix_step upI l hkl] at hst
      obtain ⟨y, hy⟩ : ∃ y, y = l.getD k 0 := ⟨_, rfl⟩
      rw [← hy] at hck hst
      have HST : Hid ((wr.setCell ⟨w.heap.size, k, none⟩ (.int .u8 (upI y))).ownsRow w.heap.size 5 1 (.slice (some ⟨w.heap.size, 0, none⟩) n n) n (mix upI l (k + 1))) := hst
      clear hy hst hownr hkl
      go_wp2_with (go_at_call 13; refine (upper_fw _ _).mono ?_; rintro e w' ⟨rfl, rfl⟩)
      go_roundw
      case rel => exact ⟨k + 1, by omega, by go_num, HST.out, hbr.setCell (Nat.le_refl _) _⟩
      case measure => simp [intOf]; omega
    · have hke : k = l.length := by rw [HS.out.1]; omega
      have hfin : wr.ownsRow w.heap.size 5 1 (.slice (some ⟨w.heap.size, 0, none⟩) n n) n (byteVals (l.map upI)) := by rw [hke, mix_full] at hownr; exact hownr
      clear hke hownr
      go_wp2
      go_ret
      exact ⟨rfl, hfin, hbr⟩

set_option maxHeartbeats 400000 in
theorem recase_low (x : Addr) (n c : Nat) (l : List Int) (w : World) (h : Seg w (some x) n l) (hn : n ≤ 1048600) :
    Calls Try.prog 10 #[.slice (some x) n c, .int .i64 1] w fun e w' => e = .returned (.slice (some ⟨w.heap.size, 0, none⟩) n n) ∧
      w'.ownsRow w.heap.size 5 1 (.slice (some ⟨w.heap.size, 0, none⟩) n n) n (byteVals (l.map lowI)) ∧ Below w.heap.size w w' := by
  have HS : Hid (Seg w (some x) n l) := h
  clear h
  go_enter Try.func10, Try.ntmps10
  go_wp2_with fail
  refine (clone_some x n c l w HS.out hn).mono ?_
  rintro e w1 ⟨rfl, hown1, hb1⟩
  go_wp2_with fail
  go_loopw [6] (fun i wr => ∃ k : Nat, k ≤ n ∧ i = .int .i64 k ∧ wr.ownsRow w.heap.size 5 1 (.slice (some ⟨w.heap.size, 0, none⟩) n n) n (mix lowI l k) ∧ Below w.heap.size w wr)
    (fun i _ => n - (intOf i).toNat)
  case atStart => exact ⟨0, Nat.zero_le _, rfl, by rw [mix_zero]; exact hown1, hb1⟩
  case round =>
    obtain ⟨k, hk, rfl, hownr, hbr⟩ := hrel
    clear hown1 hb1
    by_cases hlt : k < n
    · have hkl : k < l.length := by rw [HS.out.1]; exact hlt
      have hck : wr.cell? ⟨w.heap.size, k, none⟩ = some (.int .u8 (l.getD k 0)) := by rw [hownr.cellAt k (by omega)]; exact mix_at lowI l hkl
      have hfk : wr.frozen? ⟨w.heap.size, k, none⟩ = false := hownr.frozenAt k
      have hst := (hownr.stored k (.int .u8 (lowI (l.getD k 0)))).1
      rw [mix_step lowI l hkl] at hst
      obtain ⟨y, hy⟩ : ∃ y, y = l.getD k 0 := ⟨_, rfl⟩
      rw [← hy] at hck hst
      have HST : Hid ((wr.setCell ⟨w.heap.size, k, none⟩ (.int .u8 (lowI y))).ownsRow w.heap.size 5 1 (.slice (some ⟨w.heap.size, 0, none⟩) n n) n (mix lowI l (k + 1))) := hst
      clear hy hst hownr hkl
      go_wp2_with (go_at_call 12; refine (lower_fw _ _).mono ?_; rintro e w' ⟨rfl, rfl⟩)
      go_roundw
      case rel => exact ⟨k + 1, by omega, by go_num, HST.out, hbr.setCell (Nat.le_refl _) _⟩
      case measure => simp [intOf]; omega
    · have hke : k = l.length := by rw [HS.out.1]; omega
      have hfin : wr.ownsRow w.heap.size 5 1 (.slice (some ⟨w.heap.size, 0, none⟩) n n) n (byteVals (l.map lowI)) := by rw [hke, mix_full] at hownr; exact hownr
      clear hke hownr
      go_wp2
      go_ret
      exact ⟨rfl, hfin, hbr⟩

theorem markUp (k : Nat) (h : k < ({ data := #[79, 70, 68, 67, 70, 73, 68, 88] } : ByteArray).size) : upI ((({ data := #[79, 70, 68, 67, 70, 73, 68, 88] } : ByteArray)[k]'h).toNat : Int) = mkUp.getD k 0 := by
  have h8 : k < 8 := h
  rcases (show k = 0 ∨ k = 1 ∨ k = 2 ∨ k = 3 ∨ k = 4 ∨ k = 5 ∨ k = 6 ∨ k = 7 from by omega) with rfl | rfl | rfl | rfl | rfl | rfl | rfl | rfl <;> rfl
theorem up_next {l m : List Int} {k : Nat} (hl : k < l.length) (hm : k < m.length) (h : (l.take k).map upI = m.take k) (hx : upI (l.getD k 0) = m.getD k 0) : (l.take (k + 1)).map upI = m.take (k + 1) := by
  rw [List.take_add_one, List.take_add_one, List.map_append, h]
  rw [List.getD_eq_getElem?_getD, List.getD_eq_getElem?_getD, List.getElem?_eq_getElem hl, List.getElem?_eq_getElem hm] at hx
  rw [List.getElem?_eq_getElem hl, List.getElem?_eq_getElem hm]
  simp only [Option.getD_some] at hx
  simp [hx]

set_option maxHeartbeats 400000 in
theorem upperEq_any (b off c : Nat) (l : List Int) (w : World) (hl : l.length = 8) (h1 : ∀ i, i < 8 → w.cell? ⟨b, off + i, none⟩ = some (.int .u8 (l.getD i 0))) :
    Calls Try.prog 9 #[.slice (some ⟨b, off, none⟩) 8 c, .string { data := #[79, 70, 68, 67, 70, 73, 68, 88] }] w fun e w' => e = .returned (.bool (l.map upI == mkUp)) ∧ ∃ q, w' = w.drewN q := by
  have H1 : Hid (∀ i, i < 8 → w.cell? ⟨b, off + i, none⟩ = some (.int .u8 (l.getD i 0))) := h1
  have HL : Hid (l.length = 8) := hl
  clear h1 hl
  go_enter Try.func9, Try.ntmps9
  go_wp2
  go_loopw [5] (fun i wr => ∃ k q : Nat, k ≤ 8 ∧ i = .int .i64 k ∧ wr = w.drewN q ∧ (l.take k).map upI = mkUp.take k) (fun i _ => 8 - (intOf i).toNat)
  case atStart => exact ⟨0, 0, Nat.zero_le _, rfl, rfl, rfl⟩
  case round =>
    obtain ⟨k, q, hk, rfl, hq, hlm⟩ := hrel
    have HLM : Hid ((l.take k).map upI = mkUp.take k) := hlm
    have HQ : Hid (wr = w.drewN q) := hq
    clear hlm hq
    by_cases hlt : k < 8
    · have g1 : wr.cell? ⟨b, off + k, none⟩ = some (.int .u8 (l.getD k 0)) := by rw [HQ.out]; exact H1.out k hlt
      obtain ⟨x, hx⟩ : ∃ x, x = l.getD k 0 := ⟨_, rfl⟩
      rw [← hx] at g1
      have HX : Hid (x = l.getD k 0) := hx
      clear hx
      have hk1 : (k : Int) < 8 := by omega
      have hk0 : (0 : Int) ≤ (k : Int) := by omega
      have hm := markUp k hlt
      by_cases hxy : upI x = mkUp.getD k 0
      · have hne : (upI x != upI ((({ data := #[79, 70, 68, 67, 70, 73, 68, 88] } : ByteArray)[k]'hlt).toNat : Int)) = false := by rw [hm, hxy]; simp
        have HN : Hid ((l.take (k + 1)).map upI = mkUp.take (k + 1)) := up_next (by rw [HL.out]; exact hlt) hlt HLM.out (by rw [← HX.out, hxy])
        clear hxy hm
        go_wp2
        go_quiet ((go_at_call 13; exact Calls.quiet_of_same (upper_free _ _)))
        go_wp2
        go_roundw
        case rel => exact ⟨k + 1, q + _, by omega, by go_num, by rw [HQ.out, World.drewN_drewN], HN.out⟩
        case measure => simp [intOf]; omega
      · have hne : (upI x != upI ((({ data := #[79, 70, 68, 67, 70, 73, 68, 88] } : ByteArray)[k]'hlt).toNat : Int)) = true := by rw [hm]; exact bne_iff_ne.2 hxy
        have HF : Hid ((l.map upI == mkUp) = false) := by
          apply beq_eq_false_iff_ne.2
          intro e
          refine hxy ?_
          rw [HX.out, ← e, List.getD_eq_getElem?_getD, List.getD_eq_getElem?_getD, List.getElem?_map, List.getElem?_eq_getElem (by rw [HL.out]; exact hlt)]
          rfl
        clear hxy hm
        go_wp2
        go_quiet ((go_at_call 13; exact Calls.quiet_of_same (upper_free _ _)))
        go_wp2
        go_ret
        exact ⟨ret_bool HF.out.symm, q + _, by rw [HQ.out, World.drewN_drewN]⟩
    · have HF : Hid ((l.map upI == mkUp) = true) := by
        apply beq_iff_eq.2
        have h := HLM.out
        rw [List.take_of_length_le (by rw [HL.out]; omega), List.take_of_length_le (by show 8 ≤ k; omega)] at h
        exact h
      go_wp2
      go_ret
      exact ⟨ret_bool HF.out.symm, q, HQ.out⟩
end Go.Proofs.Qxb6615213a
