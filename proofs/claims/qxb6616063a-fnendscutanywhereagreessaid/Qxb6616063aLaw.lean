/-
  The walk of FnEndsCutAnywhereAgrees (3).
-/
import Derived.Test.Qxb6616063aEnds
import Derived.Deep.QuietTactic
import Derived.BigQuiet
import Derived.Deep.RegionHeld3
namespace Go.Proofs.Qxb6616063a
open Go.RowKit Go.WideShapes

/-- All sizes are small. -/
def Small (r s : ByteArray) (n : Nat) (R S : Nat → ByteArray) : Prop := r.size ≤ 1048576 ∧ s.size ≤ 1048576 ∧ n ≤ 1048576 ∧ ∀ i, i < n → (R i).size ≤ 1048576 ∧ (S i).size ≤ 1048576

theorem Asked.mono {w : World} {p q : Prop} {e : Ending} {w' : World} (h : Asked w p e w') (hpq : p → q) : Asked w q e w' := by
  obtain ⟨b, h1, h2, h3⟩ := h
  exact ⟨b, h1, h2, fun hb => hpq (h3 hb)⟩
theorem bytes_any (r s : ByteArray) (a : Option Addr) (n c : Nat) (R S : Nat → ByteArray) (k i1 i2 i3 i4 : Int) (w : World) (hr : r.size ≤ 9223372036854775807) (hs : s.size ≤ 9223372036854775807) (hn : n ≤ 9223372036854775807)
    (hp : PSeg w a n R S) (hz : ∀ i, i < n → (R i).size ≤ 9223372036854775807 ∧ (S i).size ≤ 9223372036854775807) :
    Calls Try.prog 4 #[.string r, .string s, .slice a n c, .int .i64 k, .int .i64 i1, .int .i64 i2, .int .i64 i3, .int .i64 i4] w (Asked w (Small r s n R S)) := by
  by_cases h0 : n = 0
  · subst h0
    exact (bytes_zero r s a c k i1 i2 i3 i4 w hr hs).mono fun e w' h => h.mono fun ⟨h1, h2⟩ => ⟨h1, h2, by omega, fun i hi => by omega⟩
  · rcases hp with h | ⟨b, off, rfl, hl, hq⟩
    · exact absurd h h0
    · exact bytes_at r s b off n c R S k i1 i2 i3 i4 w hr hs hn hq hz
theorem fit_any (r s : ByteArray) (a : Option Addr) (n c : Nat) (R S : Nat → ByteArray) (w : World) (hz : Small r s n R S) (hp : PSeg w a n R S) :
    Calls Try.prog 5 #[.string r, .string s, .slice a n c] w (Asked w True) := by
  obtain ⟨h1, h2, h3, h4⟩ := hz
  by_cases h0 : n = 0
  · subst h0
    exact fit_zero r s a c w h1 h2
  · rcases hp with h | ⟨b, off, rfl, hl, hq⟩
    · exact absurd h h0
    · exact fit_at r s b off n c R S w h1 h2 h3 hq h4

/-- A stream's end lies at the head of block p. -/
def BoxAt (w : World) (p : Nat) (r s : ByteArray) (a : Option Addr) (n c : Nat) : Prop :=
  p < w.heap.size ∧ w.cell? ⟨p, 0, none⟩ = some (.string r) ∧ w.cell? ⟨p, 1, none⟩ = some (.string s) ∧ w.cell? ⟨p, 2, none⟩ = some (.slice a n c)
theorem boxAt_new (w : World) (r s : ByteArray) (a : Option Addr) (n c : Nat) (j1 j2 j3 j4 : Int) : BoxAt (w.alloc (.cells #[.string r, .string s, .slice a n c, .int .i64 j1, .int .i64 j2, .int .i64 j3, .int .i64 j4] 34)) w.heap.size r s a n c :=
  ⟨by simp, World.cell?_alloc_mark w _ 34 (0, 0) 0, World.cell?_alloc_mark w _ 34 (0, 0) 1, World.cell?_alloc_mark w _ 34 (0, 0) 2⟩
theorem BoxAt.below {w w' : World} {p : Nat} {r s : ByteArray} {a : Option Addr} {n c : Nat} (h : BoxAt w p r s a n c) (hb : Below w.heap.size w w') : BoxAt w' p r s a n c :=
  ⟨Nat.lt_of_lt_of_le h.1 hb.size, (hb.cell (p := ⟨p, 0, none⟩) h.1).trans h.2.1, (hb.cell (p := ⟨p, 1, none⟩) h.1).trans h.2.2.1, (hb.cell (p := ⟨p, 2, none⟩) h.1).trans h.2.2.2⟩
theorem below_then {a b c : World} (h : Below a.heap.size a b) (k : Below b.heap.size b c) : Below a.heap.size a c := h.trans (k.mono h.size)
theorem below_new (w : World) (o : Obj) : Below w.heap.size w (w.alloc o) := (Below.refl _ _).alloc (Nat.le_refl _) _

/-- The law returns true, and nothing that was there has turned. -/
def Good (w : World) (e : Ending) (w' : World) : Prop := e = .returned (.bool true) ∧ Below w.heap.size w w'

set_option maxHeartbeats 4000000 in
theorem law_some (r s : ByteArray) (x : Addr) (n c : Nat) (R S : Nat → ByteArray) (kk i1 i2 i3 i4 : Int) (w : World) (hr : r.size ≤ 9223372036854775807) (hs : s.size ≤ 9223372036854775807) (hn : n ≤ 9223372036854775807)
    (hp : PSeg w (some x) n R S) (hz : ∀ i, i < n → (R i).size ≤ 9223372036854775807 ∧ (S i).size ≤ 9223372036854775807) :
    Calls Try.prog 3 #[.string r, .string s, .slice (some x) n c, .int .i64 kk, .int .i64 i1, .int .i64 i2, .int .i64 i3, .int .i64 i4] w (Good w) := by
  have HP : Hid (PSeg w (some x) n R S) := hp
  have HZ : Hid (r.size ≤ 9223372036854775807 ∧ s.size ≤ 9223372036854775807 ∧ n ≤ 9223372036854775807 ∧ ∀ i, i < n → (R i).size ≤ 9223372036854775807 ∧ (S i).size ≤ 9223372036854775807) := ⟨hr, hs, hn, hz⟩
  clear hp hz hr hs hn
  go_enter Try.func3, Try.ntmps3
  go_wp2_with fail
  refine (bytes_any r s (some x) n c R S kk i1 i2 i3 i4 w HZ.out.1 HZ.out.2.1 HZ.out.2.2.1 HP.out HZ.out.2.2.2).mono ?_
  rintro e w' ⟨q, rfl, rfl, hq⟩
  cases q with
  | false =>
    clear hq
    go_wp2
    go_ret
    exact ⟨rfl, Below.refl _ _⟩
  | true =>
    have HSM : Hid (Small r s n R S) := hq rfl
    clear hq
    have hn : (n : Int) ≤ 1048576 := by have := HSM.out.2.2.1; omega
    go_wp2_with fail
    refine (fit_any r s (some x) n c R S w HSM.out HP.out).mono ?_
    rintro e w' ⟨q, rfl, rfl, _⟩
    cases q with
    | false =>
      go_wp2
      go_ret
      exact ⟨rfl, Below.refl _ _⟩
    | true =>
      by_cases hk0 : kk < 0
      · go_wp2
        go_ret
        exact ⟨rfl, Below.refl _ _⟩
      · by_cases hkn : (n : Int) < kk
        · go_wp2
          go_ret
          exact ⟨rfl, Below.refl _ _⟩
        · obtain ⟨K, hK⟩ : ∃ K : Nat, kk = (K : Int) := ⟨kk.toNat, by omega⟩
          rw [hK]
          have hKn : (K : Int) ≤ (n : Int) := by omega
          clear hK hk0 hkn
          go_wp2_with fail
          refine (cloneZ_some x n c R S w HP.out (by omega)).mono ?_
          rintro e w1 ⟨rfl, hp1, hb1⟩
          have HP1 : Hid (PSeg w1 (some ⟨w.heap.size, 0, none⟩) n R S) := hp1
          have HB1 : Hid (Below w.heap.size w w1) := hb1
          clear hp1 hb1
          go_wp2_with fail
          refine (canon_some _ n n R S w1 HP1.out (by omega)).mono ?_
          rintro e w2 ⟨rfl, hp2, hb2⟩
          have HQ2 : Hid (PSeg w2 (some ⟨w1.heap.size, 0, none⟩) n R S) := hp2
          have HP2 : Hid (PSeg w2 (some ⟨w.heap.size, 0, none⟩) n R S) := HP1.out.below hb2
          have HB2 : Hid (Below w.heap.size w w2) := HB1.out.trans (hb2.mono HB1.out.size)
          clear hp2 hb2
          go_wp2_with fail
          refine (usage_any _ _ _ _ w2).mono ?_
          rintro e w3 ⟨rfl, hb3⟩
          have HQ3 : Hid (PSeg w3 (some ⟨w1.heap.size, 0, none⟩) n R S) := HQ2.out.below hb3
          have HP3 : Hid (PSeg w3 (some ⟨w.heap.size, 0, none⟩) n R S) := HP2.out.below hb3
          have HB3 : Hid (Below w.heap.size w w3) := HB2.out.trans (hb3.mono HB2.out.size)
          clear hb3
          go_wp2_with fail
          have hbox4 := boxAt_new w3 r s (some ⟨w1.heap.size, 0, none⟩) n n i1 i2 i3 i4
          have hbel4 := below_new w3 (.cells #[.string r, .string s, .slice (some ⟨w1.heap.size, 0, none⟩) n n, .int .i64 i1, .int .i64 i2, .int .i64 i3, .int .i64 i4] 34)
          obtain ⟨W4, hW4⟩ : ∃ W4, W4 = w3.alloc (.cells #[.string r, .string s, .slice (some ⟨w1.heap.size, 0, none⟩) n n, .int .i64 i1, .int .i64 i2, .int .i64 i3, .int .i64 i4] 34) := ⟨_, rfl⟩
          rw [← hW4] at hbox4 hbel4 ⊢
          have HX4 : Hid (BoxAt W4 w3.heap.size r s (some ⟨w1.heap.size, 0, none⟩) n n) := hbox4
          have HQ4 : Hid (PSeg W4 (some ⟨w1.heap.size, 0, none⟩) n R S) := HQ3.out.below hbel4
          have HP4 : Hid (PSeg W4 (some ⟨w.heap.size, 0, none⟩) n R S) := HP3.out.below hbel4
          have HB4 : Hid (Below w.heap.size w W4) := below_then HB3.out hbel4
          clear hbox4 hbel4 hW4 HP1 HP2 HP3 HQ2 HQ3 HB1 HB2 HB3
          refine (canon_some _ K n R S W4 (HP4.out.take (by omega)) (by omega)).mono ?_
          rintro e w5 ⟨rfl, hq5, hb5⟩
          have HH5 : Hid (PSeg w5 (some ⟨W4.heap.size, 0, none⟩) K R S) := hq5
          have HX5 : Hid (BoxAt w5 w3.heap.size r s (some ⟨w1.heap.size, 0, none⟩) n n) := HX4.out.below hb5
          have HQ5 : Hid (PSeg w5 (some ⟨w1.heap.size, 0, none⟩) n R S) := HQ4.out.below hb5
          have HP5 : Hid (PSeg w5 (some ⟨w.heap.size, 0, none⟩) n R S) := HP4.out.below hb5
          have HB5 : Hid (Below w.heap.size w w5) := below_then HB4.out hb5
          clear hq5 hb5 HX4 HQ4 HP4 HB4
          go_wp2_with fail
          have hbox6 := boxAt_new w5 r s (some ⟨W4.heap.size, 0, none⟩) K K 0 0 0 0
          have hbel6 := below_new w5 (.cells #[.string r, .string s, .slice (some ⟨W4.heap.size, 0, none⟩) K K, .int .i64 0, .int .i64 0, .int .i64 0, .int .i64 0] 34)
          obtain ⟨W6, hW6⟩ : ∃ W6, W6 = w5.alloc (.cells #[.string r, .string s, .slice (some ⟨W4.heap.size, 0, none⟩) K K, .int .i64 0, .int .i64 0, .int .i64 0, .int .i64 0] 34) := ⟨_, rfl⟩
          rw [← hW6] at hbox6 hbel6 ⊢
          have HY6 : Hid (BoxAt W6 w5.heap.size r s (some ⟨W4.heap.size, 0, none⟩) K K) := hbox6
          have HH6 : Hid (PSeg W6 (some ⟨W4.heap.size, 0, none⟩) K R S) := HH5.out.below hbel6
          have HX6 : Hid (BoxAt W6 w3.heap.size r s (some ⟨w1.heap.size, 0, none⟩) n n) := HX5.out.below hbel6
          have HQ6 : Hid (PSeg W6 (some ⟨w1.heap.size, 0, none⟩) n R S) := HQ5.out.below hbel6
          have HP6 : Hid (PSeg W6 (some ⟨w.heap.size, 0, none⟩) n R S) := HP5.out.below hbel6
          have HB6 : Hid (Below w.heap.size w W6) := below_then HB5.out hbel6
          clear hbox6 hbel6 hW6 HX5 HQ5 HP5 HB5 HH5
          refine (ends_any w3.heap.size r s _ n n R S W6 HX6.out.1 (by omega) HQ6.out HX6.out.2.1 HX6.out.2.2.1 HX6.out.2.2.2).mono ?_
          rintro e w7 ⟨gw, cw, rfl, _, hgw, hpw, hb7⟩
          have HW7 : Hid (gw < w7.heap.size ∧ Pairs w7 gw 0 (n + 1) (ahead r R) (ahead s S)) := ⟨hgw, hpw⟩
          have HY7 : Hid (BoxAt w7 w5.heap.size r s (some ⟨W4.heap.size, 0, none⟩) K K) := HY6.out.below hb7
          have HH7 : Hid (PSeg w7 (some ⟨W4.heap.size, 0, none⟩) K R S) := HH6.out.below hb7
          have HP7 : Hid (PSeg w7 (some ⟨w.heap.size, 0, none⟩) n R S) := HP6.out.below hb7
          have HB7 : Hid (Below w.heap.size w w7) := below_then HB6.out hb7
          clear hgw hpw hb7 HX6 HQ6 HP6 HB6 HH6 HY6
          go_wp2_with fail
          refine (ends_any w5.heap.size r s _ K K R S w7 HY7.out.1 (by omega) HH7.out HY7.out.2.1 HY7.out.2.2.1 HY7.out.2.2.2).mono ?_
          rintro e w8 ⟨gh, ch, rfl, _, hgh, hph, hb8⟩
          have HH8 : Hid (gh < w8.heap.size ∧ Pairs w8 gh 0 (K + 1) (ahead r R) (ahead s S)) := ⟨hgh, hph⟩
          have HW8 : Hid (gw < w8.heap.size ∧ Pairs w8 gw 0 (n + 1) (ahead r R) (ahead s S)) := ⟨Nat.lt_of_lt_of_le HW7.out.1 hb8.size, HW7.out.2.below hb8 HW7.out.1⟩
          have HP8 : Hid (PSeg w8 (some ⟨w.heap.size, 0, none⟩) n R S) := HP7.out.below hb8
          have HB8 : Hid (Below w.heap.size w w8) := below_then HB7.out hb8
          clear hgh hph hb8 HW7 HY7 HH7 HP7 HB7
          obtain ⟨c0, c1⟩ := HH8.out.2 0 (by omega)
          have c0' : w8.cell? ⟨gh, 0, none⟩ = some (.string r) := c0
          have c1' : w8.cell? ⟨gh, 1, none⟩ = some (.string s) := c1
          clear c0 c1
          go_wp2_with fail
          refine (same_eq r s w8).mono ?_
          rintro e w9 ⟨rfl, hw9⟩
          have hb9 : Below w8.heap.size w8 w9 := by rw [← hw9]; exact below_new _ _
          have HH9 : Hid (gh < w9.heap.size ∧ Pairs w9 gh 0 (K + 1) (ahead r R) (ahead s S)) := ⟨Nat.lt_of_lt_of_le HH8.out.1 hb9.size, HH8.out.2.below hb9 HH8.out.1⟩
          have HW9 : Hid (gw < w9.heap.size ∧ Pairs w9 gw 0 (n + 1) (ahead r R) (ahead s S)) := ⟨Nat.lt_of_lt_of_le HW8.out.1 hb9.size, HW8.out.2.below hb9 HW8.out.1⟩
          have HP9 : Hid (PSeg w9 (some ⟨w.heap.size, 0, none⟩) n R S) := HP8.out.below hb9
          have HB9 : Hid (Below w.heap.size w w9) := below_then HB8.out hb9
          clear hb9 hw9 c0' c1' HH8 HW8 HP8 HB8
          go_wp2_with fail
          go_loopw [21] (fun i wr => ∃ j q : Nat, j ≤ K + 1 ∧ i = .int .i64 j ∧ wr = w9.drewN q) (fun i _ => K + 1 - (intOf i).toNat)
          case atStart => exact ⟨0, 0, Nat.zero_le _, rfl, rfl⟩
          case round =>
            obtain ⟨j, q, hj, rfl, hq⟩ := hrel
            have HQ : Hid (wr = w9.drewN q) := hq
            clear hq
            by_cases hlt : j < K + 1
            · obtain ⟨a1, a2⟩ := HW9.out.2 j (by omega)
              obtain ⟨b1, b2⟩ := HH9.out.2 j hlt
              rw [Nat.zero_add] at a1 a2 b1 b2
              obtain ⟨y1, hy1⟩ : ∃ y1, y1 = ahead r R j := ⟨_, rfl⟩
              obtain ⟨y2, hy2⟩ : ∃ y2, y2 = ahead s S j := ⟨_, rfl⟩
              rw [← hy1] at a1 b1
              rw [← hy2] at a2 b2
              have a1' : wr.cell? ⟨gw, j * 2, none⟩ = some (.string y1) := by rw [HQ.out]; exact a1
              have a2' : wr.cell? ⟨gw, j * 2 + 1, none⟩ = some (.string y2) := by rw [HQ.out]; exact a2
              have b1' : wr.cell? ⟨gh, j * 2, none⟩ = some (.string y1) := by rw [HQ.out]; exact b1
              have b2' : wr.cell? ⟨gh, j * 2 + 1, none⟩ = some (.string y2) := by rw [HQ.out]; exact b2
              clear a1 a2 b1 b2 hy1 hy2
              have hj0 : (0 : Int) ≤ (j : Int) := by omega
              have hj1 : (j : Int) < (K : Int) + 1 := by omega
              have hj2 : (j : Int) < (n : Int) + 1 := by omega
              have e1 : (y1.toList == y1.toList) = true := by simp
              have e2 : (y2.toList == y2.toList) = true := by simp
              go_wp2
              go_quiet (fail)
              go_wp2
              go_roundw
              case rel => exact ⟨j + 1, q + _, by omega, by go_num, by rw [HQ.out, World.drewN_drewN]⟩
              case measure => simp [intOf]; omega
            · have hbq : Below w9.heap.size w9 wr := by rw [HQ.out]; exact ⟨rfl, rfl, rfl, Nat.le_refl _, fun _ _ => rfl⟩
              have HBQ : Hid (Below w9.heap.size w9 wr) := hbq
              clear hbq HQ HH9
              go_wp2_with fail
              go_loopw [22] (fun i wz => ∃ j : Nat, j ≤ n ∧ i = .int .i64 j ∧ Below w9.heap.size w9 wz) (fun i _ => n - (intOf i).toNat)
              case atStart => exact ⟨0, Nat.zero_le _, rfl, HBQ.out⟩
              case round =>
                obtain ⟨m, hm, rfl, hbm⟩ := hrel
                have HBM : Hid (Below w9.heap.size w9 wr) := hbm
                clear hbm
                by_cases hmn : m < n
                · obtain ⟨a1, a2⟩ := HW9.out.2.below HBM.out HW9.out.1 (m + 1) (by omega)
                  obtain ⟨bb, off, hbo, hbl, hpp⟩ : ∃ b off, (some ⟨w.heap.size, 0, none⟩ : Option Addr) = some ⟨b, off, none⟩ ∧ b < w9.heap.size ∧ Pairs w9 b off n R S := by
                    rcases HP9.out with h | h
                    · omega
                    · exact h
                  simp only [Option.some.injEq, Addr.mk.injEq, and_true] at hbo
                  obtain ⟨rfl, rfl⟩ := hbo
                  obtain ⟨b1, b2⟩ := hpp.below HBM.out hbl m hmn
                  rw [Nat.zero_add] at a1 a2 b1 b2
                  have hy1' : ahead r R (m + 1) = R m := rfl
                  have hy2' : ahead s S (m + 1) = S m := rfl
                  rw [hy1'] at a1
                  rw [hy2'] at a2
                  obtain ⟨y1, hy1⟩ : ∃ y1, y1 = R m := ⟨_, rfl⟩
                  obtain ⟨y2, hy2⟩ : ∃ y2, y2 = S m := ⟨_, rfl⟩
                  rw [← hy1] at a1 b1
                  rw [← hy2] at a2 b2
                  clear hy1 hy2 hy1' hy2' hpp
                  have hj0 : (0 : Int) ≤ (m : Int) := by omega
                  have hj1 : (m : Int) < (n : Int) := by omega
                  have hj2 : (m : Int) + 1 < (n : Int) + 1 := by omega
                  have hj3 : (0 : Int) ≤ (m : Int) + 1 := by omega
                  have hw1 : IntKind.i64.wrap ((m : Int) + 1) = (m : Int) + 1 := by rw [IntKind.wrap_i64]; omega
                  have ht1 : ((m : Int) + 1).toNat = m + 1 := by omega
                  go_wp2
                  go_region_held3 (fun w' => w'.cell? ⟨gw, (m + 1) * 2, none⟩ = some (.string y1) ∧ w'.cell? ⟨gw, (m + 1) * 2 + 1, none⟩ = some (.string y2) ∧ w'.cell? ⟨w.heap.size, m * 2, none⟩ = some (.string y1) ∧ w'.cell? ⟨w.heap.size, m * 2 + 1, none⟩ = some (.string y2)) (go_keep)
                    (first | (go_at_call 10; refine (same_eq _ _ _).mono ?_; rintro e w' ⟨rfl, rfl⟩))
                  go_wp2
                  go_roundw
                  case rel => exact ⟨m + 1, by omega, by go_num, (HBM.out.alloc HBM.out.size _).drew⟩
                  case measure => simp [intOf]; omega
                · go_wp2
                  go_ret
                  exact ⟨rfl, below_then HB9.out HBM.out⟩
end Go.Proofs.Qxb6616063a
