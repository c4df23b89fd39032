/-
  The walk of ParseMetadataMessage (8).
-/
import Derived.Test.Qxb6615960aFmtField
namespace Go.Proofs.Qxb6615960aFmt
open Go.RowKit Go.Extern.Stop Go.Stop Go.Extern

def kT : List Int := [109, 115, 103, 95, 116, 121, 112, 101]
def kP : List Int := [112, 105, 101, 99, 101]
def kS : List Int := [116, 111, 116, 97, 108, 95, 115, 105, 122, 101]
def kV : List Int := [118]

/-- The map holds the integer a at the key k. -/
def HasInt (d : DataW Unit) (k : List Int) (a : Int) : Prop := Maps.has d (kl k) = true ∧ ∀ z, d.atKey (kl k) z = .lit (.int .i64 a)

def Accept (es : List (List Int × Ent)) (t piece : Int) (withSize : Bool) : Prop := AllGood es ∧ 0 ≤ piece ∧ piece ≤ 2147483647 ∧ (t ≠ 1 ∨ withSize = true)

/-- What ParseMetadataMessage leaves. -/
def Parsed (w w' : World) (B n q : Nat) (acc : Prop) (t piece size : Int) (e : Ending) : Prop :=
  w.grownBy w' none ∧ ((acc ∧ ∃ sz a m cc, e = .returned (.tuple #[.agg #[.int .i64 t, .int .i64 piece, .int .i64 sz, .slice a m cc], .nilIface]) ∧
      ((t ≠ 1 ∧ sz = 0 ∧ a = none ∧ m = 0 ∧ cc = 0) ∨ (t = 1 ∧ sz = size ∧ m = n - q ∧ (n - q = 0 ∨ a = some ⟨B, q, none⟩)))) ∨
    (¬ acc ∧ ∃ ty x, e = .returned (.tuple #[.agg #[.int .i64 0, .int .i64 0, .int .i64 0, .slice none 0 0], .iface ty (.pointer (some x))])))

theorem set4 {w : World} {A : Nat} {x0 x1 x2 x3 : Value} (h0 : w.cell? ⟨A, 0, none⟩ = some x0) (h1 : w.cell? ⟨A, 1, none⟩ = some x1) (h2 : w.cell? ⟨A, 2, none⟩ = some x2) (h3 : w.cell? ⟨A, 3, none⟩ = some x3) (v0 v1 v2 v3 : Value) :
    (loadVar 26 ⟨A, 0, none⟩).run Tryf.prog ((((w.setCell ⟨A, 0, none⟩ v0).setCell ⟨A, 1, none⟩ v1).setCell ⟨A, 2, none⟩ v2).setCell ⟨A, 3, none⟩ v3) = .ok (.agg #[v0, v1, v2, v3]) ((((w.setCell ⟨A, 0, none⟩ v0).setCell ⟨A, 1, none⟩ v1).setCell ⟨A, 2, none⟩ v2).setCell ⟨A, 3, none⟩ v3) := by
  apply load26
  · rw [World.cell?_setCell_other _ _ _ _ (by intro e; cases e), World.cell?_setCell_other _ _ _ _ (by intro e; cases e), World.cell?_setCell_other _ _ _ _ (by intro e; cases e)]
    exact World.cell?_setCell_same _ _ _ h0
  · rw [World.cell?_setCell_other _ _ _ _ (by intro e; cases e), World.cell?_setCell_other _ _ _ _ (by intro e; cases e)]
    refine World.cell?_setCell_same _ _ _ (?_ : _ = some x1)
    rw [World.cell?_setCell_other _ _ _ _ (by intro e; cases e)]; exact h1
  · rw [World.cell?_setCell_other _ _ _ _ (by intro e; cases e)]
    refine World.cell?_setCell_same _ _ _ (?_ : _ = some x2)
    rw [World.cell?_setCell_other _ _ _ _ (by intro e; cases e), World.cell?_setCell_other _ _ _ _ (by intro e; cases e)]; exact h2
  · refine World.cell?_setCell_same _ _ _ (?_ : _ = some x3)
    rw [World.cell?_setCell_other _ _ _ _ (by intro e; cases e), World.cell?_setCell_other _ _ _ _ (by intro e; cases e), World.cell?_setCell_other _ _ _ _ (by intro e; cases e)]; exact h3

theorem set4_alloc {w : World} {A : Nat} {x0 x1 x2 x3 : Value} (h0 : w.cell? ⟨A, 0, none⟩ = some x0) (h1 : w.cell? ⟨A, 1, none⟩ = some x1) (h2 : w.cell? ⟨A, 2, none⟩ = some x2) (h3 : w.cell? ⟨A, 3, none⟩ = some x3) (v0 v1 v2 v3 : Value) (o : Obj) :
    (loadVar 26 ⟨A, 0, none⟩).run Tryf.prog (((((w.setCell ⟨A, 0, none⟩ v0).setCell ⟨A, 1, none⟩ v1).setCell ⟨A, 2, none⟩ v2).setCell ⟨A, 3, none⟩ v3).alloc o) = .ok (.agg #[v0, v1, v2, v3]) (((((w.setCell ⟨A, 0, none⟩ v0).setCell ⟨A, 1, none⟩ v1).setCell ⟨A, 2, none⟩ v2).setCell ⟨A, 3, none⟩ v3).alloc o) := by
  have hlt : A < ((((w.setCell ⟨A, 0, none⟩ v0).setCell ⟨A, 1, none⟩ v1).setCell ⟨A, 2, none⟩ v2).setCell ⟨A, 3, none⟩ v3).heap.size := by simpa using cell_lt h0
  have hg := World.grownBy_alloc ((((w.setCell ⟨A, 0, none⟩ v0).setCell ⟨A, 1, none⟩ v1).setCell ⟨A, 2, none⟩ v2).setCell ⟨A, 3, none⟩ v3) o none
  apply load26
  · rw [hg.cell_far _ hlt (by simp), World.cell?_setCell_other _ _ _ _ (by intro e; cases e), World.cell?_setCell_other _ _ _ _ (by intro e; cases e), World.cell?_setCell_other _ _ _ _ (by intro e; cases e)]
    exact World.cell?_setCell_same _ _ _ h0
  · rw [hg.cell_far _ hlt (by simp), World.cell?_setCell_other _ _ _ _ (by intro e; cases e), World.cell?_setCell_other _ _ _ _ (by intro e; cases e)]
    refine World.cell?_setCell_same _ _ _ (?_ : _ = some x1)
    rw [World.cell?_setCell_other _ _ _ _ (by intro e; cases e)]; exact h1
  · rw [hg.cell_far _ hlt (by simp), World.cell?_setCell_other _ _ _ _ (by intro e; cases e)]
    refine World.cell?_setCell_same _ _ _ (?_ : _ = some x2)
    rw [World.cell?_setCell_other _ _ _ _ (by intro e; cases e), World.cell?_setCell_other _ _ _ _ (by intro e; cases e)]; exact h2
  · rw [hg.cell_far _ hlt (by simp)]
    refine World.cell?_setCell_same _ _ _ (?_ : _ = some x3)
    rw [World.cell?_setCell_other _ _ _ _ (by intro e; cases e), World.cell?_setCell_other _ _ _ _ (by intro e; cases e), World.cell?_setCell_other _ _ _ _ (by intro e; cases e)]; exact h3

theorem grown_set4 {w w' : World} (h : w.grownBy w' none) (v0 v1 v2 v3 : Value) : w.grownBy ((((w'.setCell ⟨w.heap.size, 0, none⟩ v0).setCell ⟨w.heap.size, 1, none⟩ v1).setCell ⟨w.heap.size, 2, none⟩ v2).setCell ⟨w.heap.size, 3, none⟩ v3) none :=
  h.andThen (row' := some w.heap.size) (grown_set (grown_set (grown_set (grown_set (grown_refl _ _) _ _) _ _) _ _) _ _) (fun j hj => .inl (by simp at hj; omega))

def zeros : Array Value := #[.int .i64 0, .int .i64 0, .int .i64 0, .slice none 0 0]
/-- What stands while the fields are asked. -/
def St (w wi : World) (P M : Nat) (ra : Option Addr) (rn rc : Nat) (es : List (List Int × Ent)) : Prop :=
  w.grownBy wi none ∧ wi.heap[w.heap.size]? = some (.cells #[.int .i64 0, .int .i64 0, .int .i64 0, .slice none 0 0] 26) ∧ wi.heap[P]? = some (.cells #[.map (some M), .slice ra rn rc] 50) ∧ wi.ownsMap Tryf.prog 9 elem M es.length (dOf es)
theorem lt_of_some {w : World} {b : Nat} {o : Obj} (h : w.heap[b]? = some o) : b < w.heap.size := (Array.getElem?_eq_some_iff.1 h).1
theorem St.kept {w wi wj : World} {P M : Nat} {ra : Option Addr} {rn rc : Nat} {es : List (List Int × Ent)} (h : St w wi P M ra rn rc es) (hg : wi.grownBy wj none) : St w wj P M ra rn rc es := by
  obtain ⟨h1, h2, h3, h4⟩ := h
  exact ⟨h1.trans hg, (hg.block _ (lt_of_some h2) (by simp)).trans h2, (hg.block _ (lt_of_some h3) (by simp)).trans h3, h4.kept hg (by simp)⟩

set_option maxRecDepth 100000 in
set_option maxHeartbeats 1000000 in
theorem parse_any (F : Interp) (B n c q : Nat) (l : List Int) (es : List (List Int × Ent)) (data : List Int) (t piece size : Int) (withSize : Bool) (w : World) (hF : F.answers w.tape) (hlen : l.length = n) (hnc : n ≤ c) (hby : ∀ x ∈ l, 0 ≤ x ∧ x ≤ 255) (hcell : ∀ i, i < n → w.cell? ⟨B, i, none⟩ = some (.int .u8 (l.getD i 0)))
    (h : l = 100 :: (es.flatMap entT ++ 101 :: data)) (hdist : es.Pairwise (fun x y => kl x.1 ≠ kl y.1)) (hwf : ∀ x ∈ es, x.2.wf) (hn : n ≤ 1000000000000)
    (hT : HasInt (dOf es) kT t) (hP : HasInt (dOf es) kP piece) (hS : (withSize = true ∧ HasInt (dOf es) kS size) ∨ (withSize = false ∧ Maps.has (dOf es) (kl kS) = false)) (hp0 : -9223372036854775808 ≤ piece) (hp1 : piece ≤ 9223372036854775807) (hq : q = 2 + (es.flatMap entT).length) :
    Calls Tryf.prog 8 #[.slice (some ⟨B, 0, none⟩) n c] w fun e w' => Parsed w w' B n q (Accept es t piece withSize) t piece size e := by
  have hn0 : 0 < n := by rw [← hlen, h]; simp
  have hB : B < w.heap.size := cell_lt (hcell 0 hn0)
  have HPre : Hid (∀ w1, w.grownBy w1 none → Calls Tryf.prog 19 #[.slice (some ⟨B, 0, none⟩) n c] w1 fun e w' => Prefix w1 w' B n q es e) := fun w1 hg =>
    hq ▸ prefix_any F B n c l es data w1 (answers_grown hF hg) hlen hnc hby (fun i hi => by rw [hg.cell_far _ hB (by simp)]; exact hcell i hi) h hdist hwf hn
  have HT : Hid (HasInt (dOf es) kT t) := hT
  have HP : Hid (HasInt (dOf es) kP piece) := hP
  have HS : Hid ((withSize = true ∧ HasInt (dOf es) kS size) ∨ (withSize = false ∧ Maps.has (dOf es) (kl kS) = false)) := hS
  clear h hdist hwf hby hcell hlen hT hP hS hq
  go_enter Tryf.func8, Tryf.ntmps8
  go_wp2_with fail
  refine (HPre.out _ (grown_alloc (grown_refl _ _) _)).mono ?_
  have hA1 : (w.alloc (.cells #[.int .i64 0, .int .i64 0, .int .i64 0, .slice none 0 0] 26)).heap[w.heap.size]? = some (.cells #[.int .i64 0, .int .i64 0, .int .i64 0, .slice none 0 0] 26) := (MapKept.heap_alloc w _).1
  have hg1 : w.grownBy (w.alloc (.cells #[.int .i64 0, .int .i64 0, .int .i64 0, .slice none 0 0] 26)) none := World.grownBy_alloc _ _ _
  have hs1 : w.heap.size < (w.alloc (.cells #[.int .i64 0, .int .i64 0, .int .i64 0, .slice none 0 0] 26)).heap.size := by simp
  generalize w.alloc (.cells #[.int .i64 0, .int .i64 0, .int .i64 0, .slice none 0 0] 26) = w1 at hA1 hg1 hs1 ⊢
  rintro e w2 ⟨hg, ⟨ho, M, ra, rn, rc, a, cc, rfl, hM, hsl⟩ | ⟨ho, g, s, rfl, hs⟩⟩
  · have hst : St w (w2.alloc (.cells #[.map (some M), .slice ra rn rc] 50)) w2.heap.size M ra rn rc es := by
      have hk := World.grownBy_alloc w2 (.cells #[.map (some M), .slice ra rn rc] 50) none
      have hA2 := (hg.block _ hs1 (by simp)).trans hA1
      exact ⟨(hg1.trans hg).trans hk, (hk.block _ (lt_of_some hA2) (by simp)).trans hA2, (MapKept.heap_alloc w2 _).1, hM.kept hk (by simp)⟩
    have HST : Hid (St w (w2.alloc (.cells #[.map (some M), .slice ra rn rc] 50)) w2.heap.size M ra rn rc es) := hst
    have HO : Hid (AllGood es) := ho
    have HSL : Hid (n - q = 0 ∨ a = some ⟨B, q, none⟩) := hsl
    clear hg hg1 hs1 hA1 ho hM hst hsl
    go_wp2_with fail
    generalize w2.alloc (.cells #[.map (some M), .slice ra rn rc] 50) = w3 at HST ⊢
    refine (field_hit M _ _ ra rn rc _ kT t w3 rfl (by unfold maxLen; decide) HST.out.2.2.2 HT.out.1 HT.out.2).mono ?_
    rintro e w4 ⟨rfl, hg4⟩
    have HST4 : Hid (St w w4 w2.heap.size M ra rn rc es) := HST.out.kept hg4
    clear HST hg4
    obtain ⟨hq0, _⟩ := cell_of_block HST4.out.2.2.1 0 _ rfl
    obtain ⟨hq1, _⟩ := cell_of_block HST4.out.2.2.1 1 _ rfl
    go_wp2_with fail
    refine (field_hit M _ _ ra rn rc _ kP piece w4 rfl (by unfold maxLen; decide) HST4.out.2.2.2 HP.out.1 HP.out.2).mono ?_
    rintro e w5 ⟨rfl, hg5⟩
    have HST5 : Hid (St w w5 w2.heap.size M ra rn rc es) := HST4.out.kept hg5
    clear HST4 hg5 hq0 hq1
    obtain ⟨hq0, _⟩ := cell_of_block HST5.out.2.2.1 0 _ rfl
    obtain ⟨hq1, _⟩ := cell_of_block HST5.out.2.2.1 1 _ rfl
    obtain ⟨ha0, hfa0⟩ := cell_of_block HST5.out.2.1 0 _ rfl
    obtain ⟨ha1, hfa1⟩ := cell_of_block HST5.out.2.1 1 _ rfl
    obtain ⟨ha2, hfa2⟩ := cell_of_block HST5.out.2.1 2 _ rfl
    obtain ⟨ha3, hfa3⟩ := cell_of_block HST5.out.2.1 3 _ rfl
    have hlt := lt_of_some HST5.out.2.1
    have hlt2 := lt_of_some HST5.out.2.2.1
    by_cases hneg : piece < 0
    · have hd1 : decide (piece < 0) = true := by simp [hneg]
      have HNA : Hid (¬ Accept es t piece withSize) := fun h => by have := h.2.1; omega
      clear hneg
      go_wp2_with fail
      refine (errorf_piece F piece w5.heap.size 1 _ (answers_grown hF (grown_alloc HST5.out.1 _)) (by simp)).mono ?_
      rintro e w6 ⟨v, rfl, g, s, rfl, hs, hg6⟩
      have hst := HST5.out.kept (World.grownBy.trans (grown_alloc (grown_refl w5 none) _) hg6)
      have HST6 : Hid (St w w6 w2.heap.size M ra rn rc es) := hst
      clear hst hg6 hs ha0 hfa0 ha1 hfa1 ha2 hfa2 ha3 hfa3 hq0 hq1
      obtain ⟨ha0, hfa0⟩ := cell_of_block HST6.out.2.1 0 _ rfl
      obtain ⟨ha1, hfa1⟩ := cell_of_block HST6.out.2.1 1 _ rfl
      obtain ⟨ha2, hfa2⟩ := cell_of_block HST6.out.2.1 2 _ rfl
      obtain ⟨ha3, hfa3⟩ := cell_of_block HST6.out.2.1 3 _ rfl
      go_wp2
      (try simp only [Exit.inBlock, Exit.then])
      refine bodyPost_ret (results_cell_tmp rfl _ _ _ rfl (set4 ha0 ha1 ha2 ha3 _ _ _ _)) rfl ?_
      exact ⟨grown_set4 HST6.out.1 _ _ _ _, .inr ⟨HNA.out, _, _, rfl⟩⟩
    · have hd1 : decide (piece < 0) = false := by simp [hneg]
      by_cases hbig : 2147483647 < piece
      · have hd2 : decide (2147483647 < piece) = true := by simp [hbig]
        have HNA : Hid (¬ Accept es t piece withSize) := fun h => by have := h.2.2.1; omega
        clear hneg hbig
        go_wp2_with fail
        refine (errorf_piece F piece w5.heap.size 1 _ (answers_grown hF (grown_alloc HST5.out.1 _)) (by simp)).mono ?_
        rintro e w6 ⟨v, rfl, g, s, rfl, hs, hg6⟩
        have hst := HST5.out.kept (World.grownBy.trans (grown_alloc (grown_refl w5 none) _) hg6)
        have HST6 : Hid (St w w6 w2.heap.size M ra rn rc es) := hst
        clear hst hg6 hs ha0 hfa0 ha1 hfa1 ha2 hfa2 ha3 hfa3 hq0 hq1
        obtain ⟨ha0, hfa0⟩ := cell_of_block HST6.out.2.1 0 _ rfl
        obtain ⟨ha1, hfa1⟩ := cell_of_block HST6.out.2.1 1 _ rfl
        obtain ⟨ha2, hfa2⟩ := cell_of_block HST6.out.2.1 2 _ rfl
        obtain ⟨ha3, hfa3⟩ := cell_of_block HST6.out.2.1 3 _ rfl
        go_wp2
        (try simp only [Exit.inBlock, Exit.then])
        refine bodyPost_ret (results_cell_tmp rfl _ _ _ rfl (set4 ha0 ha1 ha2 ha3 _ _ _ _)) rfl ?_
        exact ⟨grown_set4 HST6.out.1 _ _ _ _, .inr ⟨HNA.out, _, _, rfl⟩⟩
      · have hd2 : decide (2147483647 < piece) = false := by simp [hbig]
        by_cases ht : t = 1
        · subst ht
          have ht1 : ((1 : Int) != 1) = false := rfl
          rcases HS.out with ⟨hws, hint⟩ | ⟨hws, hno⟩
          · have HAC : Hid (Accept es 1 piece withSize) := ⟨HO.out, by omega, by omega, .inr hws⟩
            clear hws hneg hbig
            go_wp2_with fail
            have HST6 : Hid (St w (w5.alloc (.cells #[.int .i64 1, .int .i64 piece, .int .i64 0, .slice none 0 0] 26)) w2.heap.size M ra rn rc es) := HST5.out.kept (World.grownBy_alloc _ _ _)
            have HQ6 : Hid ((w5.alloc (.cells #[.int .i64 1, .int .i64 piece, .int .i64 0, .slice none 0 0] 26)).heap[w5.heap.size]? = some (.cells #[.int .i64 1, .int .i64 piece, .int .i64 0, .slice none 0 0] 26)) := (MapKept.heap_alloc w5 _).1
            generalize w5.alloc (.cells #[.int .i64 1, .int .i64 piece, .int .i64 0, .slice none 0 0] 26) = w6 at HST6 HQ6 ⊢
            refine (field_hit M _ _ ra rn rc _ kS size w6 rfl (by unfold maxLen; decide) HST6.out.2.2.2 hint.1 hint.2).mono ?_
            rintro e w7 ⟨rfl, hg7⟩
            have HST7 : Hid (St w w7 w2.heap.size M ra rn rc es) := HST6.out.kept hg7
            have HQ7 : Hid (w7.heap[w5.heap.size]? = some (.cells #[.int .i64 1, .int .i64 piece, .int .i64 0, .slice none 0 0] 26)) := (hg7.block _ (lt_of_some HQ6.out) (by simp)).trans HQ6.out
            clear hg7 HST6 HQ6 hint ha0 hfa0 ha1 hfa1 ha2 hfa2 ha3 hfa3 hq0 hq1
            obtain ⟨ha0, hfa0⟩ := cell_of_block HST7.out.2.1 0 _ rfl
            obtain ⟨ha1, hfa1⟩ := cell_of_block HST7.out.2.1 1 _ rfl
            obtain ⟨ha2, hfa2⟩ := cell_of_block HST7.out.2.1 2 _ rfl
            obtain ⟨ha3, hfa3⟩ := cell_of_block HST7.out.2.1 3 _ rfl
            obtain ⟨hr0, hfr0⟩ := cell_of_block HQ7.out 0 _ rfl
            obtain ⟨hr1, hfr1⟩ := cell_of_block HQ7.out 1 _ rfl
            obtain ⟨hr2, hfr2⟩ := cell_of_block HQ7.out 2 _ rfl
            obtain ⟨hr3, hfr3⟩ := cell_of_block HQ7.out 3 _ rfl
            have hne : ¬ w.heap.size = w5.heap.size := by omega
            go_wp2
            (try simp only [Exit.inBlock, Exit.then])
            have hkx : w7.grownBy ((w7.setCell ⟨w5.heap.size, 2, none⟩ (.int .i64 size)).setCell ⟨w5.heap.size, 3, none⟩ (.slice a (n - q) cc)) (some w5.heap.size) := grown_set (grown_set (grown_refl _ _) _ _) _ _
            have hlt7 := lt_of_some HST7.out.2.1
            have hfar := fun i => hkx.cell_far ⟨w.heap.size, i, none⟩ hlt7 (by simp; omega)
            refine bodyPost_ret (results_cell_tmp rfl _ _ _ rfl (set4 ((hfar 0).trans ha0) ((hfar 1).trans ha1) ((hfar 2).trans ha2) ((hfar 3).trans ha3) _ _ _ _)) rfl ?_
            exact ⟨grown_set4 (HST7.out.1.andThen hkx (fun j hj => .inl (by simp at hj; omega))) _ _ _ _, .inl ⟨HAC.out, size, a, n - q, cc, rfl, .inr ⟨rfl, rfl, rfl, HSL.out⟩⟩⟩
          · have HNA : Hid (¬ Accept es 1 piece withSize) := fun h => by
              rcases h.2.2.2 with h | h
              · exact h rfl
              · rw [hws] at h; cases h
            clear hws hneg hbig
            go_wp2_with fail
            have HST6 : Hid (St w (w5.alloc (.cells #[.int .i64 1, .int .i64 piece, .int .i64 0, .slice none 0 0] 26)) w2.heap.size M ra rn rc es) := HST5.out.kept (World.grownBy_alloc _ _ _)
            have HQ6 : Hid ((w5.alloc (.cells #[.int .i64 1, .int .i64 piece, .int .i64 0, .slice none 0 0] 26)).heap[w5.heap.size]? = some (.cells #[.int .i64 1, .int .i64 piece, .int .i64 0, .slice none 0 0] 26)) := (MapKept.heap_alloc w5 _).1
            generalize w5.alloc (.cells #[.int .i64 1, .int .i64 piece, .int .i64 0, .slice none 0 0] 26) = w6 at HST6 HQ6 ⊢
            refine (field_miss F M _ _ ra rn rc _ kS w6 (answers_grown hF HST6.out.1) rfl (by unfold maxLen; decide) HST6.out.2.2.2 hno).mono ?_
            rintro e w7 ⟨v, rfl, g, s, rfl, hs, hg7⟩
            have HST7 : Hid (St w w7 w2.heap.size M ra rn rc es) := HST6.out.kept hg7
            have HQ7 : Hid (w7.heap[w5.heap.size]? = some (.cells #[.int .i64 1, .int .i64 piece, .int .i64 0, .slice none 0 0] 26)) := (hg7.block _ (lt_of_some HQ6.out) (by simp)).trans HQ6.out
            have HS7 : Hid (w7.cell? ⟨g, 0, none⟩ = some (.string s)) := hs
            clear hg7 HST6 HQ6 hno hs ha0 hfa0 ha1 hfa1 ha2 hfa2 ha3 hfa3 hq0 hq1
            obtain ⟨hr2, hfr2⟩ := cell_of_block HQ7.out 2 _ rfl
            have hne : ¬ w.heap.size = w5.heap.size := by omega
            have hlt5 := lt_of_some HQ7.out
            go_wp2_with fail
            have hkx : w7.grownBy (w7.setCell ⟨w5.heap.size, 2, none⟩ (.int .i64 0)) (some w5.heap.size) := grown_set (grown_refl _ _) _ _
            have hlt7 := lt_of_some HST7.out.2.1
            have hgQ : g ≠ w5.heap.size := by
              intro e
              have h1 := HS7.out
              have h2 := (cell_of_block HQ7.out 0 _ rfl).1
              rw [e, h2] at h1
              cases h1
            have HX : Hid (w.grownBy (w7.setCell ⟨w5.heap.size, 2, none⟩ (.int .i64 0)) none) := HST7.out.1.andThen hkx (fun j hj => .inl (by simp at hj; omega))
            have HXA : Hid ((w7.setCell ⟨w5.heap.size, 2, none⟩ (.int .i64 0)).heap[w.heap.size]? = some (.cells #[.int .i64 0, .int .i64 0, .int .i64 0, .slice none 0 0] 26)) := (hkx.block _ hlt7 (by simp; omega)).trans HST7.out.2.1
            have HXG : Hid ((w7.setCell ⟨w5.heap.size, 2, none⟩ (.int .i64 0)).cell? ⟨g, 0, none⟩ = some (.string s)) := (hkx.cell_far _ (cell_lt HS7.out) (by simp; exact hgQ)).trans HS7.out
            have hxs : w7.heap.size = (w7.setCell ⟨w5.heap.size, 2, none⟩ (.int .i64 0)).heap.size := by simp
            rw [hxs]
            generalize w7.setCell ⟨w5.heap.size, 2, none⟩ (.int .i64 0) = w8 at HX HXA HXG ⊢
            clear hxs hkx
            refine (errorf_wrap F g s w8.heap.size 1 _ (answers_grown hF (grown_alloc HX.out _)) (by simp) ?_).mono ?_
            · rw [(World.grownBy_alloc w8 _ none).cell_far _ (cell_lt HXG.out) (by simp)]; exact HXG.out
            rintro e w9 ⟨x, rfl, hg9⟩
            have hg89 : w8.grownBy w9 none := World.grownBy.trans (grown_alloc (grown_refl w8 none) _) hg9
            have HG9 : Hid (w.grownBy w9 none) := HX.out.trans hg89
            have hA9 := (hg89.block _ (lt_of_some HXA.out) (by simp)).trans HXA.out
            obtain ⟨ha0, hfa0⟩ := cell_of_block hA9 0 _ rfl
            obtain ⟨ha1, hfa1⟩ := cell_of_block hA9 1 _ rfl
            obtain ⟨ha2, hfa2⟩ := cell_of_block hA9 2 _ rfl
            obtain ⟨ha3, hfa3⟩ := cell_of_block hA9 3 _ rfl
            clear hg9 hg89 hA9
            go_wp2
            (try simp only [Exit.inBlock, Exit.then])
            refine bodyPost_ret (results_cell_tmp rfl _ _ _ rfl (set4 ha0 ha1 ha2 ha3 _ _ _ _)) rfl ?_
            exact ⟨grown_set4 HG9.out _ _ _ _, .inr ⟨HNA.out, _, _, rfl⟩⟩
        · have ht1 : (t != 1) = true := by simp [ht]
          have HAC : Hid (Accept es t piece withSize) := ⟨HO.out, by omega, by omega, .inl ht⟩
          have HTT : Hid (t ≠ 1) := ht
          clear ht hneg hbig
          go_wp2
          (try simp only [Exit.inBlock, Exit.then])
          refine bodyPost_ret (results_cell_tmp rfl _ _ _ rfl (set4_alloc ha0 ha1 ha2 ha3 _ _ _ _ _)) rfl ?_
          exact ⟨grown_alloc (grown_set4 HST5.out.1 _ _ _ _) _, .inl ⟨HAC.out, 0, none, 0, 0, rfl, .inl ⟨HTT.out, rfl, rfl, rfl, rfl⟩⟩⟩
  · have HG2 : Hid (w.grownBy w2 none) := hg1.trans hg
    have HA2 : Hid (w2.heap[w.heap.size]? = some (.cells #[.int .i64 0, .int .i64 0, .int .i64 0, .slice none 0 0] 26)) := (hg.block _ hs1 (by simp)).trans hA1
    have HO : Hid (¬ AllGood es) := ho
    have HS2 : Hid (w2.cell? ⟨g, 0, none⟩ = some (.string s)) := hs
    clear hg hg1 hs1 hA1 ho hs
    go_wp2_with fail
    refine (errorf_wrap F g s (w2.heap.size + 1) 1 _ (answers_grown hF (grown_alloc (grown_alloc HG2.out _) _)) (by simp) ?_).mono ?_
    · rw [(grown_alloc (grown_alloc (grown_refl w2 none) _) _).cell_far _ (cell_lt HS2.out) (by simp)]; exact HS2.out
    rintro e w3 ⟨x, rfl, hg3⟩
    have hg23 : w2.grownBy w3 none := World.grownBy.trans (grown_alloc (grown_alloc (grown_refl w2 none) _) _) hg3
    have HG3 : Hid (w.grownBy w3 none) := HG2.out.trans hg23
    have hA3 := (hg23.block _ (lt_of_some HA2.out) (by simp)).trans HA2.out
    obtain ⟨ha0, hfa0⟩ := cell_of_block hA3 0 _ rfl
    obtain ⟨ha1, hfa1⟩ := cell_of_block hA3 1 _ rfl
    obtain ⟨ha2, hfa2⟩ := cell_of_block hA3 2 _ rfl
    obtain ⟨ha3, hfa3⟩ := cell_of_block hA3 3 _ rfl
    clear hg23 hg3 hA3
    go_wp2
    (try simp only [Exit.inBlock, Exit.then])
    refine bodyPost_ret (results_cell_tmp rfl _ _ _ rfl (set4 ha0 ha1 ha2 ha3 _ _ _ _)) rfl ?_
    exact ⟨grown_set4 HG3.out _ _ _ _, .inr ⟨fun h => HO.out h.1, _, _, rfl⟩⟩
end Go.Proofs.Qxb6615960aFmt
