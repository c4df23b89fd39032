/-
  The walks of bytes.Clone (19), ZZnewRecord (15), Record.Bytes (16).
-/
import Derived.Test.Qxb6615213aClone
import Derived.Laws.ResultCell
namespace Go.Proofs.Qxb6615213a
open Go.RowKit Go.WideShapes

theorem Seg.cells {w : World} {a : Option Addr} {n : Nat} {l : List Int} (h : Seg w a n l) : ∀ ad, a = some ad → ∀ j u, (byteVals l)[j]? = some u → w.cell? (ad.add j) = some u := by
  rintro ad rfl j u hu
  obtain ⟨h1, h2, h3⟩ := h
  have hj : j < l.length := by
    have := (List.getElem?_eq_some_iff.1 hu).1
    rwa [byteVals_length] at this
  rcases h3 with h3 | ⟨b, off, hx, hbl, hcell⟩
  · omega
  · obtain rfl : ad = ⟨b, off, none⟩ := by simpa using hx
    rw [add_plain, hcell j (by omega), ← hu]
    unfold byteVals
    rw [List.getElem?_map, List.getD_eq_getElem?_getD, List.getElem?_eq_getElem hj]
    rfl
theorem byteVals_one (l : List Int) : ∀ u ∈ byteVals l, u.oneCell' = true := ints_oneCell _ _

theorem bclone_nil (w : World) : Calls Try.prog 19 #[.slice none 0 0] w fun e w' => e = .returned (.slice none 0 0) ∧ w' = w := by
  have hnil := fun (w : World) => Lib.run_eql_slice_nil (P := Try.prog) w 22 5 none 0 0 0 0 Try.underlying22
  go_enter Try.func19, Try.ntmps19
  go_wp2
  go_ret
  exact ⟨rfl, rfl⟩

theorem bclone_some (x : Addr) (n c : Nat) (l : List Int) (w : World) (h : Seg w (some x) n l) (hn : n ≤ 1048600) :
    Calls Try.prog 19 #[.slice (some x) n c] w fun e w' => ∃ g cap, e = .returned (.slice (some ⟨g, 0, none⟩) n cap) ∧
      w'.ownsRow w.heap.size 5 1 (.slice (some ⟨g, 0, none⟩) n cap) n (byteVals l) ∧ Below w.heap.size w w' := by
  have hnil := fun (w : World) => Lib.run_eql_slice_nil (P := Try.prog) w 22 5 (some x) n c 0 0 Try.underlying22
  obtain ⟨i0, hi, hz0, hz1, hz2⟩ := info_parts info5
  have HS : Hid (Seg w (some x) n l) := h
  clear h
  go_enter Try.func19, Try.ntmps19
  go_wp2_with (at_builtin; refine wpList_append_own _ rfl (.tmp 5) (.tmp 6) 22 rfl w.heap.size 5 i0 (.int .u8 0) 1 1 Try.underlying22 hi hz0 hz1 hz2 rfl (by decide) (.slice (some ⟨w.heap.size, 0, none⟩) 0 0) 0 [] rfl (World.ownsRow_lit w #[] 0 (Nat.le_refl _) (Nat.zero_le _) rfl) x n c (byteVals l) rfl (by rw [byteVals_length, HS.out.1]; omega) ((HS.out.below ((Below.refl _ _).alloc (Nat.le_refl _) _)).cells x rfl) (byteVals_one l) (by unfold maxLen; omega) (by omega) (by simp) ?_; intro v1 w1 hown hgrow hv)
  obtain ⟨g, cap, hvv⟩ : ∃ g cap, v1 = .slice (some ⟨g, 0, none⟩) n cap := by
    rcases hown.2 with ⟨h1, _⟩ | ⟨g, cap, cur, h1, _⟩
    · exact absurd (hv.1 h1).1 (by simp)
    · exact ⟨g, cap, by rw [h1, Nat.zero_add]⟩
  have hb : Below w.heap.size w w1 := ((Below.refl _ _).alloc (Nat.le_refl _) _).grown hgrow (by simp) (fun k hk => by simp [Value.ownBlock] at hk; omega)
  rw [List.nil_append, Nat.zero_add, hvv] at hown
  rw [hvv]
  clear hgrow hv hvv hi hz0 hz1 hz2 hnil
  have HO : Hid (w1.ownsRow w.heap.size 5 1 (.slice (some ⟨g, 0, none⟩) n cap) n (byteVals l)) := hown
  clear hown
  go_wp2
  go_ret
  exact ⟨g, cap, rfl, HO.out, hb⟩

theorem newRecord_any (line : Int) (a : Option Addr) (n c : Nat) (w : World) :
    Calls Try.prog 15 #[.int .i64 line, .slice a n c] w fun e w' => e = .returned (.agg #[.int .i64 line, .pointer none, .slice a n c]) ∧ Below w.heap.size w w' := by
  go_enter Try.func15, Try.ntmps15
  go_wp2
  exact bodyPost_ret (v := .agg #[.int .i64 line, .pointer none, .slice a n c]) (by simp [results, Try.results15, go_sem]) rfl ⟨rfl, (Below.refl _ _).alloc (Nat.le_refl _) _⟩

theorem own_down {w : World} {base base' : Nat} {v : Value} {n : Nat} {xs : List Value} (h : w.ownsRow base 5 1 v n xs) (hb : base' ≤ base) : w.ownsRow base' 5 1 v n xs := by
  refine ⟨h.1, ?_⟩
  rcases h.2 with h1 | ⟨g, cap, cur, e1, e2, e3⟩
  · exact .inl h1
  · exact .inr ⟨g, cap, cur, e1, Nat.le_trans hb e2, e3⟩

theorem bytes_some (line : Int) (x : Addr) (n c : Nat) (l : List Int) (w : World) (h : Seg w (some x) n l) (hn : n ≤ 1048600) :
    Calls Try.prog 16 #[.agg #[.int .i64 line, .pointer none, .slice (some x) n c]] w fun e w' => ∃ g cap, e = .returned (.slice (some ⟨g, 0, none⟩) n cap) ∧
      w'.ownsRow w.heap.size 5 1 (.slice (some ⟨g, 0, none⟩) n cap) n (byteVals l) ∧ Below w.heap.size w w' := by
  have HS : Hid (Seg w (some x) n l) := h
  clear h
  go_enter Try.func16, Try.ntmps16
  go_wp2_with fail
  have hb0 : Below w.heap.size w (w.alloc (.cells #[.int .i64 line, .pointer none, .slice (some x) n c] 34)) := (Below.refl _ _).alloc (Nat.le_refl _) _
  refine (bclone_some x n c l _ (HS.out.below hb0) hn).mono ?_
  rintro e w' ⟨g, cap, rfl, h3, h4⟩
  have HH : Hid (w'.ownsRow w.heap.size 5 1 (.slice (some ⟨g, 0, none⟩) n cap) n (byteVals l) ∧ Below w.heap.size w w') := ⟨own_down h3 (by simp), hb0.trans (h4.mono (by simp))⟩
  clear h3 h4 hb0
  go_wp2
  go_ret
  exact ⟨g, cap, rfl, HH.out⟩

theorem bytes_nil (line : Int) (w : World) :
    Calls Try.prog 16 #[.agg #[.int .i64 line, .pointer none, .slice none 0 0]] w fun e w' => e = .returned (.slice none 0 0) ∧ Below w.heap.size w w' := by
  go_enter Try.func16, Try.ntmps16
  go_wp2_with fail
  have hb0 : Below w.heap.size w (w.alloc (.cells #[.int .i64 line, .pointer none, .slice none 0 0] 34)) := (Below.refl _ _).alloc (Nat.le_refl _) _
  refine (bclone_nil _).mono ?_
  rintro e w' ⟨rfl, rfl⟩
  have HH : Hid (Below w.heap.size w (w.alloc (.cells #[.int .i64 line, .pointer none, .slice none 0 0] 34))) := hb0
  clear hb0
  go_wp2
  go_ret
  exact ⟨rfl, HH.out⟩
end Go.Proofs.Qxb6615213a
