/-
  The walks of zzUsage (8), StreamEnd.Ends (9), zzSame (10).
-/
import Derived.Test.Qxb6616063aClone
import Derived.Laws.ResultCell
import Derived.Deep.RegionLaw
import Derived.Deep.AppendLies
import Derived.Laws.IdiomStrings
namespace Go.Proofs.Qxb6616063a
open Go.RowKit Go.WideShapes

theorem usage_any (i1 i2 i3 i4 : Int) (w : World) :
    Calls Try.prog 8 #[.int .i64 i1, .int .i64 i2, .int .i64 i3, .int .i64 i4] w fun e w' => e = .returned (.agg #[.int .i64 i1, .int .i64 i2, .int .i64 i3, .int .i64 i4]) ∧ Below w.heap.size w w' := by
  go_enter Try.func8, Try.ntmps8
  go_wp2
  exact bodyPost_ret (v := .agg #[.int .i64 i1, .int .i64 i2, .int .i64 i3, .int .i64 i4]) (by simp [results, Try.results8, go_sem]) rfl ⟨rfl, (Below.refl _ _).alloc (Nat.le_refl _) _⟩

/-- What Ends leaves: n + 1 pairs, in new memory. -/
def Ended (w : World) (n : Nat) (R S : Nat → ByteArray) (e : Ending) (w' : World) : Prop :=
  ∃ g cap, e = .returned (.slice (some ⟨g, 0, none⟩) n cap) ∧ w.heap.size ≤ g ∧ g < w'.heap.size ∧ Pairs w' g 0 n R S ∧ Below w.heap.size w w'

/-- The first pair, then the others. -/
def ahead (r : ByteArray) (R : Nat → ByteArray) : Nat → ByteArray
  | 0 => r
  | i + 1 => R i

/-- The pairs as cells. -/
def vals (R S : Nat → ByteArray) (n : Nat) : List Value := (List.range n).flatMap fun i => [Value.string (R i), .string (S i)]
theorem vals_succ (R S : Nat → ByteArray) (n : Nat) : vals R S (n + 1) = vals R S n ++ [Value.string (R n), .string (S n)] := by simp [vals, List.range_succ]
theorem vals_length (R S : Nat → ByteArray) : ∀ n, (vals R S n).length = n * 2
  | 0 => rfl
  | n + 1 => by rw [vals_succ, List.length_append, vals_length R S n]; simp; omega
theorem vals_at (R S : Nat → ByteArray) : ∀ n i, i < n → (vals R S n)[i * 2]? = some (.string (R i)) ∧ (vals R S n)[i * 2 + 1]? = some (.string (S i))
  | 0, i, h => by omega
  | n + 1, i, h => by
    rw [vals_succ]
    have hl := vals_length R S n
    by_cases e : i = n
    · subst e
      rw [List.getElem?_append_right (by omega), List.getElem?_append_right (by omega), hl, show i * 2 - i * 2 = 0 by omega, show i * 2 + 1 - i * 2 = 1 by omega]
      exact ⟨rfl, rfl⟩
    · rw [List.getElem?_append_left (by omega), List.getElem?_append_left (by omega)]
      exact vals_at R S n i (by omega)
theorem vals_one (R S : Nat → ByteArray) (n : Nat) : ∀ u ∈ vals R S n, u.oneCell' = true := by
  intro u hu
  simp only [vals, List.mem_flatMap, List.mem_cons, List.not_mem_nil, or_false] at hu
  obtain ⟨i, _, h | h⟩ := hu <;> rw [h] <;> rfl
/-- The pairs as the law on append asks them. -/
theorem Pairs.cells {w : World} {b off n : Nat} {R S : Nat → ByteArray} (h : Pairs w b off n R S) : ∀ j u, (vals R S n)[j]? = some u → w.cell? ((⟨b, off, none⟩ : Addr).add j) = some u := by
  intro j u hu
  have hj : j < n * 2 := by
    have := (List.getElem?_eq_some_iff.1 hu).1
    rwa [vals_length] at this
  rw [add_plain]
  obtain ⟨h1, h2⟩ := h (j / 2) (by omega)
  obtain ⟨v1, v2⟩ := vals_at R S n (j / 2) (by omega)
  by_cases hp : j % 2 = 0
  · have e : j = j / 2 * 2 := by omega
    rw [e, v1] at hu
    rw [e, h1, hu]
  · have e : j = j / 2 * 2 + 1 := by omega
    rw [e, v2] at hu
    rw [show off + j = off + j / 2 * 2 + 1 by omega, h2, hu]
/-- A row that owns the first pair and the others behind it. -/
theorem pairs_of_own {w : World} {base g n cap : Nat} {r s : ByteArray} {R S : Nat → ByteArray} (h : w.ownsRow base 38 2 (.slice (some ⟨g, 0, none⟩) (1 + n) cap) (1 + n) ([Value.string r, .string s] ++ vals R S n)) : Pairs w g 0 (n + 1) (ahead r R) (ahead s S) := by
  intro i hi
  rw [Nat.zero_add, h.cellAt (i * 2) (by omega), h.cellAt (i * 2 + 1) (by omega)]
  match i, hi with
  | 0, _ => exact ⟨rfl, rfl⟩
  | i + 1, hi =>
    obtain ⟨v1, v2⟩ := vals_at R S n i (by omega)
    rw [show (i + 1) * 2 = i * 2 + 2 by omega]
    exact ⟨v1, v2⟩

theorem one_pair (w : World) (r s : ByteArray) : Pairs ((w.alloc (.cells #[.string r, .string s] 38)).alloc (.cells #[.string r, .string s] 38)) (w.heap.size + 1) 0 1 (ahead r (fun _ => r)) (ahead s (fun _ => s)) := by
  intro i hi
  obtain rfl : i = 0 := by omega
  have e : w.heap.size + 1 = (w.alloc (.cells #[.string r, .string s] 38)).heap.size := by simp
  rw [e]
  exact ⟨World.cell?_alloc_mark _ _ 38 (0, 0) 0, World.cell?_alloc_mark _ _ 38 (0, 0) 1⟩

set_option maxHeartbeats 1000000 in
theorem ends_zero (p : Nat) (r s : ByteArray) (a : Option Addr) (c : Nat) (w : World) (hp : p < w.heap.size) (h0 : w.cell? ⟨p, 0, none⟩ = some (.string r)) (h1 : w.cell? ⟨p, 1, none⟩ = some (.string s)) (h2 : w.cell? ⟨p, 2, none⟩ = some (.slice a 0 c)) :
    Calls Try.prog 9 #[.pointer (some ⟨p, 0, none⟩)] w (Ended w 1 (ahead r (fun _ => r)) (ahead s (fun _ => s))) := by
  have hpz : p < w.heap.size + 1 := by omega
  have hpz2 : p < w.heap.size + 1 + 1 := by omega
  cases a
  all_goals
    go_enter Try.func9, Try.ntmps9
    go_wp2
    go_region
    go_wp2
    go_region
    go_wp2
    go_ret
    exact ⟨w.heap.size + 1, 1, rfl, by omega, by simp, one_pair w r s, (((Below.refl _ _).alloc (Nat.le_refl _) _).alloc (by simp) _).drew.drew⟩

set_option maxHeartbeats 1000000 in
theorem ends_at (p : Nat) (r s : ByteArray) (b off n c : Nat) (R S : Nat → ByteArray) (w : World) (hp : p < w.heap.size) (hbl : b < w.heap.size) (hn0 : 0 < n) (hn : n ≤ 1048600) (hpr : Pairs w b off n R S)
    (h0 : w.cell? ⟨p, 0, none⟩ = some (.string r)) (h1 : w.cell? ⟨p, 1, none⟩ = some (.string s)) (h2 : w.cell? ⟨p, 2, none⟩ = some (.slice (some ⟨b, off, none⟩) n c)) :
    Calls Try.prog 9 #[.pointer (some ⟨p, 0, none⟩)] w (Ended w (n + 1) (ahead r R) (ahead s S)) := by
  have hpz : p < w.heap.size + 1 := by omega
  have hpz2 : p < w.heap.size + 1 + 1 := by omega
  obtain ⟨i0, hi, hz0, hz1, hz2⟩ := info_parts info38
  have HP : Hid (Pairs w b off n R S) := hpr
  clear hpr
  have hbelow : Below w.heap.size w ((w.alloc (.cells #[.string r, .string s] 38)).alloc (.cells #[.string r, .string s] 38)).drew.drew := (((Below.refl _ _).alloc (Nat.le_refl _) _).alloc (by simp) _).drew.drew
  have HBL : Hid (Below w.heap.size w ((w.alloc (.cells #[.string r, .string s] 38)).alloc (.cells #[.string r, .string s] 38)).drew.drew) := hbelow
  have HOW : Hid (((w.alloc (.cells #[.string r, .string s] 38)).alloc (.cells #[.string r, .string s] 38)).drew.drew.ownsRow w.heap.size 38 2 (.slice (some ⟨w.heap.size + 1, 0, none⟩) 1 1) 1 [Value.string r, .string s]) := by
    have h := World.ownsRow_lit (base := w.heap.size) (e := 38) (size := 2) (w.alloc (.cells #[.string r, .string s] 38)) #[.string r, .string s] 1 (by simp) (by unfold maxLen; omega) rfl
    have e : (w.alloc (.cells #[.string r, .string s] 38)).heap.size = w.heap.size + 1 := by simp
    rw [e] at h
    exact h
  clear hbelow
  go_enter Try.func9, Try.ntmps9
  go_wp2
  go_region
  go_wp2
  go_region_law ((refine step_append_lies _ (by rfl) (.tmp 14) (.tmp 18) 28 (by rfl) w.heap.size 38 i0 (.agg #[.string ⟨#[]⟩, .string ⟨#[]⟩]) 2 32 Try.underlying28 hi hz0 hz1 hz2 rfl (by decide) (.slice (some ⟨w.heap.size + 1, 0, none⟩) 1 1) 1 [.string r, .string s] (by rfl) (by exact HOW.out) ⟨b, off, none⟩ n c (vals R S n) (by rfl) (vals_length R S n) (by exact (HP.out.below HBL.out hbl).cells) (vals_one R S n) hn0 (by unfold maxLen; omega) (by omega) (by simp; omega) (w.heap.size + 1 + 1) (by simp) ?_; intro g cap w1 hown hgrow hat hlt))
  all_goals
    have HE : Hid (w.heap.size ≤ g ∧ g < w1.heap.size ∧ Pairs w1 g 0 (n + 1) (ahead r R) (ahead s S) ∧ Below w.heap.size w w1) :=
      ⟨by rcases hat with e | e
          · simp [Value.ownBlock] at e; omega
          · omega, hlt, pairs_of_own hown, HBL.out.grown hgrow (by simp; omega) (fun k hk => by simp [Value.ownBlock] at hk; omega)⟩
    clear hown hgrow hat hlt hi hz0 hz1 hz2
    go_wp2
    go_ret
    exact ⟨g, cap, by rw [Nat.add_comm n 1]; rfl, HE.out⟩

/-- zzSame at a pair and its own two texts. -/
theorem same_eq (x y : ByteArray) (w : World) :
    Calls Try.prog 10 #[.agg #[.string x, .string y], .string x, .string y] w fun e w' => e = .returned (.bool true) ∧ w.alloc (.cells #[.string x, .string y] 38) = w' := by
  have h1 : (x.toList == x.toList) = true := by simp
  have h2 : (y.toList == y.toList) = true := by simp
  go_enter Try.func10, Try.ntmps10
  go_wp2
  go_ret
  exact ⟨rfl, rfl⟩

/-- The slice value '.slice a n _' reads n pairs of strings. -/
def PSeg (w : World) (a : Option Addr) (n : Nat) (R S : Nat → ByteArray) : Prop := n = 0 ∨ ∃ b off, a = some ⟨b, off, none⟩ ∧ b < w.heap.size ∧ Pairs w b off n R S
theorem PSeg.below {w w' : World} {a : Option Addr} {n : Nat} {R S : Nat → ByteArray} (h : PSeg w a n R S) (hb : Below w.heap.size w w') : PSeg w' a n R S := by
  rcases h with h | ⟨b, off, ha, hl, hp⟩
  · exact .inl h
  · exact .inr ⟨b, off, ha, Nat.lt_of_lt_of_le hl hb.size, hp.below hb hl⟩
theorem PSeg.take {w : World} {a : Option Addr} {n : Nat} {R S : Nat → ByteArray} (h : PSeg w a n R S) {k : Nat} (hk : k ≤ n) : PSeg w a k R S := by
  rcases h with h | ⟨b, off, ha, hl, hp⟩
  · exact .inl (by omega)
  · exact .inr ⟨b, off, ha, hl, fun i hi => hp i (by omega)⟩

theorem cloneZ_some (x : Addr) (n c : Nat) (R S : Nat → ByteArray) (w : World) (h : PSeg w (some x) n R S) (hn : n ≤ 1048600) :
    Calls Try.prog 6 #[.slice (some x) n c] w fun e w' => e = .returned (.slice (some ⟨w.heap.size, 0, none⟩) n n) ∧ PSeg w' (some ⟨w.heap.size, 0, none⟩) n R S ∧ Below w.heap.size w w' := by
  rcases h with rfl | ⟨b, off, hx, hl, hp⟩
  · refine (cloneZ_zero x c w).mono ?_
    rintro e w' ⟨rfl, _, hb⟩
    exact ⟨rfl, .inl rfl, hb⟩
  · obtain rfl : x = ⟨b, off, none⟩ := by simpa using hx
    refine (cloneZ_at b off n c R S w hl hp hn).mono ?_
    rintro e w' ⟨rfl, hg, hq, hb⟩
    exact ⟨rfl, .inr ⟨_, 0, rfl, hg, hq⟩, hb⟩
theorem canon_some (x : Addr) (n c : Nat) (R S : Nat → ByteArray) (w : World) (h : PSeg w (some x) n R S) (hn : n ≤ 1048600) :
    Calls Try.prog 7 #[.slice (some x) n c] w fun e w' => e = .returned (.slice (some ⟨w.heap.size, 0, none⟩) n n) ∧ PSeg w' (some ⟨w.heap.size, 0, none⟩) n R S ∧ Below w.heap.size w w' := by
  rcases h with rfl | ⟨b, off, hx, hl, hp⟩
  · refine (canon_zero x c w).mono ?_
    rintro e w' ⟨rfl, _, hb⟩
    exact ⟨rfl, .inl rfl, hb⟩
  · obtain rfl : x = ⟨b, off, none⟩ := by simpa using hx
    refine (canon_at b off n c R S w hl hp hn).mono ?_
    rintro e w' ⟨rfl, hg, hq, hb⟩
    exact ⟨rfl, .inr ⟨_, 0, rfl, hg, hq⟩, hb⟩
theorem pairs_zero {w : World} {g : Nat} {r s : ByteArray} {R S R' S' : Nat → ByteArray} (h : Pairs w g 0 1 (ahead r R) (ahead s S)) : Pairs w g 0 1 (ahead r R') (ahead s S') := by
  intro i hi
  obtain rfl : i = 0 := by omega
  exact h 0 hi
theorem ends_any (p : Nat) (r s : ByteArray) (a : Option Addr) (n c : Nat) (R S : Nat → ByteArray) (w : World) (hp : p < w.heap.size) (hn : n ≤ 1048600) (h : PSeg w a n R S)
    (h0 : w.cell? ⟨p, 0, none⟩ = some (.string r)) (h1 : w.cell? ⟨p, 1, none⟩ = some (.string s)) (h2 : w.cell? ⟨p, 2, none⟩ = some (.slice a n c)) :
    Calls Try.prog 9 #[.pointer (some ⟨p, 0, none⟩)] w (Ended w (n + 1) (ahead r R) (ahead s S)) := by
  by_cases h3 : n = 0
  · subst h3
    refine (ends_zero p r s a c w hp h0 h1 h2).mono ?_
    rintro e w' ⟨g, cap, rfl, q1, q2, q3, q4⟩
    exact ⟨g, cap, rfl, q1, q2, pairs_zero q3, q4⟩
  · rcases h with h | ⟨b, off, rfl, hl, hq⟩
    · exact absurd h h3
    · exact ends_at p r s b off n c R S w hp hl (by omega) hn hq h0 h1 h2
end Go.Proofs.Qxb6616063a
