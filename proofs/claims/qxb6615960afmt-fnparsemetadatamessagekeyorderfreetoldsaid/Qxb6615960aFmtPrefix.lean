/-
  The walks of (*decoder).value (32) at a dictionary and of DecodeDictPrefix (19).
-/
import Derived.Test.Qxb6615960aFmtDict
namespace Go.Proofs.Qxb6615960aFmt
open Go.RowKit Go.Extern.Stop Go.Stop Go.Extern

theorem assert50 (v : Value) (w : World) : (Instr.typeAssert (.iface 50 v) 20 50 true).run Tryf.prog w = .ok (.tuple #[v, .bool true]) w := by kernel_rfl
theorem assert2 (v : Value) (w : World) : (Instr.typeAssert (.iface 2 v) 20 2 true).run Tryf.prog w = .ok (.tuple #[v, .bool true]) w := by kernel_rfl

/-- What value leaves at a dictionary. -/
def ValDict (w w' : World) (D B n c : Nat) (l : List Int) (q : Nat) (es : List (List Int × Ent)) (e : Ending) : Prop :=
  w.grownBy w' (some D) ∧ ((AllGood es ∧ ∃ M ra rn rc, e = .returned (.tuple #[.iface 50 (.agg #[.map (some M), .slice ra rn rc]), .nilIface]) ∧ w'.ownsMap Tryf.prog 9 elem M es.length (dOf es) ∧ Dec w' D B n c l q) ∨
    (¬ AllGood es ∧ ∃ z g s, e = .returned (.tuple #[z, .iface 99 (.pointer (some ⟨g, 0, none⟩))]) ∧ w'.cell? ⟨g, 0, none⟩ = some (.string s)))

set_option maxRecDepth 100000 in
set_option maxHeartbeats 400000 in
theorem value_dict (F : Interp) (D B n c : Nat) (l : List Int) (es : List (List Int × Ent)) (data : List Int) (w : World) (hF : F.answers w.tape) (hd : Dec w D B n c l 0)
    (h : l = 100 :: (es.flatMap entT ++ 101 :: data)) (hdist : es.Pairwise (fun x y => kl x.1 ≠ kl y.1)) (hwf : ∀ x ∈ es, x.2.wf) (hn : n ≤ 1000000000000) :
    Calls Tryf.prog 32 #[.pointer (some ⟨D, 0, none⟩), .int .i64 0] w fun e w' => ValDict w w' D B n c l (2 + (es.flatMap entT).length) es e := by
  have HT : Hid (l.drop 0 = 100 :: (es.flatMap entT ++ 101 :: data)) := h
  have HD : Hid (Dec w D B n c l 0) := hd
  have HDI : Hid (es.Pairwise (fun x y => kl x.1 ≠ kl y.1)) := hdist
  have HW : Hid (∀ x ∈ es, x.2.wf) := hwf
  obtain ⟨hc0, hc1, hf, hBD, hll, hnc, hby, hcell⟩ := hd
  have hp : 0 < n := by rw [← hll, h]; simp
  have hb := hcell 0 hp
  have hi : l.getD 0 0 = 100 := by rw [h]; rfl
  rw [hi] at hb
  have hc1' : w.cell? ⟨D, 1, none⟩ = some (.int .i64 0) := hc1
  have hge : decide ((n : Int) ≤ 0) = false := by simp; omega
  clear hcell hby hll hi hc1 h hdist hwf
  go_enter Tryf.func32, Tryf.ntmps32
  go_wp2
  go_quiet (fail)
  go_wp2
  go_quiet (fail)
  go_wp2_with fail
  refine (dict_any F D B n c l 0 es data _ _ (answers_grown hF (grown_drewN (grown_refl _ none) _)) (HD.out.drewN _) HT.out HDI.out HW.out hn).mono ?_
  rintro e w1 ⟨hg, ⟨ho, M, ra, rn, rc, rfl, _, hM, hd1⟩ | ⟨ho, z, g, s, rfl, hs⟩⟩
  · have HG : Hid (w.grownBy w1 (some D)) := World.grownBy.trans (grown_drewN (grown_refl _ _) _) hg
    have HD1 : Hid (Dec w1 D B n c l (0 + 2 + (es.flatMap entT).length)) := hd1
    have HM : Hid (w1.ownsMap Tryf.prog 9 elem M es.length (dOf es)) := hM
    have HO : Hid (AllGood es) := ho
    clear hg hd1 ho hM hc0 hc1' hf hb
    go_wp2
    go_ret2
    have e : 2 + (es.flatMap entT).length = 0 + 2 + (es.flatMap entT).length := by omega
    rw [e]
    exact ⟨HG.out, .inl ⟨HO.out, M, ra, rn, rc, rfl, HM.out, HD1.out⟩⟩
  · have HG : Hid (w.grownBy w1 (some D)) := World.grownBy.trans (grown_drewN (grown_refl _ _) _) hg
    have HO : Hid (¬ AllGood es) := ho
    have HS : Hid (w1.cell? ⟨g, 0, none⟩ = some (.string s)) := hs
    clear hg ho hc0 hc1' hf hb hs
    go_wp2
    go_ret2
    exact ⟨HG.out, .inr ⟨HO.out, _, g, s, rfl, HS.out⟩⟩

/-- What DecodeDictPrefix leaves. -/
def Prefix (w w' : World) (B n : Nat) (q : Nat) (es : List (List Int × Ent)) (e : Ending) : Prop :=
  w.grownBy w' none ∧ ((AllGood es ∧ ∃ M ra rn rc a cc, e = .returned (.tuple #[.agg #[.map (some M), .slice ra rn rc], .slice a (n - q) cc, .nilIface]) ∧ w'.ownsMap Tryf.prog 9 elem M es.length (dOf es) ∧ (n - q = 0 ∨ a = some ⟨B, q, none⟩)) ∨
    (¬ AllGood es ∧ ∃ g s, e = .returned (.tuple #[.agg #[.map none, .slice none 0 0], .slice none 0 0, .iface 99 (.pointer (some ⟨g, 0, none⟩))]) ∧ w'.cell? ⟨g, 0, none⟩ = some (.string s)))

theorem dec_new {w : World} {B n c : Nat} {l : List Int} (hlen : l.length = n) (hnc : n ≤ c) (hn0 : 0 < n) (hby : ∀ x ∈ l, 0 ≤ x ∧ x ≤ 255) (hcell : ∀ i, i < n → w.cell? ⟨B, i, none⟩ = some (.int .u8 (l.getD i 0))) (A : Obj) :
    Dec ((w.alloc A).alloc (.cells #[.slice (some ⟨B, 0, none⟩) n c, .int .i64 0] 74)) (w.heap.size + 1) B n c l 0 := by
  have hB : B < w.heap.size := cell_lt (hcell 0 hn0)
  have hs : (w.alloc A).heap.size = w.heap.size + 1 := by simp
  have hcell' : ∀ i, i < n → (w.alloc A).cell? ⟨B, i, none⟩ = some (.int .u8 (l.getD i 0)) := fun i hi => by
    rw [(World.grownBy_alloc w A none).cell_far _ hB (by simp)]; exact hcell i hi
  generalize w.alloc A = w1 at hs hcell' ⊢
  have hblk : (w1.alloc (.cells #[.slice (some ⟨B, 0, none⟩) n c, .int .i64 0] 74)).heap[w.heap.size + 1]? = some (.cells #[.slice (some ⟨B, 0, none⟩) n c, .int .i64 0] 74) := by rw [← hs]; exact (MapKept.heap_alloc w1 _).1
  obtain ⟨h0, _⟩ := cell_of_block hblk 0 _ rfl
  obtain ⟨h1, h1f⟩ := cell_of_block hblk 1 _ rfl
  refine ⟨h0, h1, h1f, by omega, hlen, hnc, hby, fun i hi => ?_⟩
  rw [(World.grownBy_alloc w1 _ none).cell_far _ (by simp only; omega) (by simp)]; exact hcell' i hi

theorem prefix_done {w w3 w4 : World} {B n q M cc : Nat} {a : Option Addr} {es : List (List Int × Ent)} {ra : Option Addr} {rn rc : Nat} {v0 v1 : Value} (hg : w.grownBy w3 none) (hg4 : w3.grownBy w4 none) (hM : w4.ownsMap Tryf.prog 9 elem M es.length (dOf es)) (ho : AllGood es)
    (hq : q = 2 + (es.flatMap entT).length) (hMA : some M ≠ some w.heap.size) (ha : n - q = 0 ∨ a = some ⟨B, q, none⟩) :
    Prefix w ((w4.setCell ⟨w.heap.size, 0, none⟩ v0).setCell ⟨w.heap.size, 1, none⟩ v1).drew B n (2 + (es.flatMap entT).length) es (.returned (.tuple #[.agg #[.map (some M), .slice ra rn rc], .slice a (n - q) cc, .nilIface])) := by
  have hk : w4.grownBy ((w4.setCell ⟨w.heap.size, 0, none⟩ v0).setCell ⟨w.heap.size, 1, none⟩ v1).drew (some w.heap.size) := grown_drew (grown_set (grown_set (grown_refl _ _) _ _) _ _)
  subst hq
  exact ⟨(hg.trans hg4).andThen hk (fun j hj => .inl (by simp at hj; omega)), .inl ⟨ho, M, ra, rn, rc, a, cc, rfl, hM.kept hk hMA, ha⟩⟩

theorem prefix_bad {w w3 : World} {B n q g : Nat} {s : ByteArray} {es : List (List Int × Ent)} {v0 v1 : Value} (hg : w.grownBy w3 none) (ha : w3.cell? ⟨w.heap.size, 0, none⟩ = some (.map none)) (hs : w3.cell? ⟨g, 0, none⟩ = some (.string s)) (hno : ¬ AllGood es) :
    Prefix w ((w3.setCell ⟨w.heap.size, 0, none⟩ v0).setCell ⟨w.heap.size, 1, none⟩ v1) B n q es (.returned (.tuple #[.agg #[.map none, .slice none 0 0], .slice none 0 0, .iface 99 (.pointer (some ⟨g, 0, none⟩))])) := by
  have hk : w3.grownBy ((w3.setCell ⟨w.heap.size, 0, none⟩ v0).setCell ⟨w.heap.size, 1, none⟩ v1) (some w.heap.size) := grown_set (grown_set (grown_refl _ _) _ _) _ _
  have hne : g ≠ w.heap.size := by
    intro e
    subst e
    rw [ha] at hs
    cases hs
  refine ⟨hg.andThen hk (fun j hj => .inl (by simp at hj; omega)), .inr ⟨hno, g, s, rfl, ?_⟩⟩
  rw [hk.cell_far _ (cell_lt hs) (by simp; exact hne)]; exact hs

set_option maxRecDepth 100000 in
set_option maxHeartbeats 400000 in
theorem prefix_any (F : Interp) (B n c : Nat) (l : List Int) (es : List (List Int × Ent)) (data : List Int) (w : World) (hF : F.answers w.tape) (hlen : l.length = n) (hnc : n ≤ c) (hby : ∀ x ∈ l, 0 ≤ x ∧ x ≤ 255) (hcell : ∀ i, i < n → w.cell? ⟨B, i, none⟩ = some (.int .u8 (l.getD i 0)))
    (h : l = 100 :: (es.flatMap entT ++ 101 :: data)) (hdist : es.Pairwise (fun x y => kl x.1 ≠ kl y.1)) (hwf : ∀ x ∈ es, x.2.wf) (hn : n ≤ 1000000000000) :
    Calls Tryf.prog 19 #[.slice (some ⟨B, 0, none⟩) n c] w fun e w' => Prefix w w' B n (2 + (es.flatMap entT).length) es e := by
  have hn0 : 0 < n := by rw [← hlen, h]; simp
  have hB : B < w.heap.size := cell_lt (hcell 0 hn0)
  have HDN : Hid (∀ A, Dec ((w.alloc A).alloc (.cells #[.slice (some ⟨B, 0, none⟩) n c, .int .i64 0] 74)) (w.heap.size + 1) B n c l 0) := fun A => dec_new hlen hnc hn0 hby hcell A
  have HT : Hid (l = 100 :: (es.flatMap entT ++ 101 :: data)) := h
  have HDI : Hid (es.Pairwise (fun x y => kl x.1 ≠ kl y.1)) := hdist
  have HW : Hid (∀ x ∈ es, x.2.wf) := hwf
  have hnq : 2 + (es.flatMap entT).length ≤ n := by rw [← hlen, h]; simp; omega
  clear h hdist hwf hby hcell hlen
  go_enter Tryf.func19, Tryf.ntmps19
  go_wp2_with fail
  have HD2 : Hid (Dec ((w.alloc (.cells #[.map none, .slice none 0 0] 50)).alloc (.cells #[.slice (some ⟨B, 0, none⟩) n c, .int .i64 0] 74)) (w.heap.size + 1) B n c l 0) := HDN.out _
  have HG2 : Hid (w.grownBy ((w.alloc (.cells #[.map none, .slice none 0 0] 50)).alloc (.cells #[.slice (some ⟨B, 0, none⟩) n c, .int .i64 0] 74)) none) := grown_alloc (grown_alloc (grown_refl _ _) _) _
  have HA2 : Hid (((w.alloc (.cells #[.map none, .slice none 0 0] 50)).alloc (.cells #[.slice (some ⟨B, 0, none⟩) n c, .int .i64 0] 74)).heap[w.heap.size]? = some (.cells #[.map none, .slice none 0 0] 50)) := by
    show ((w.alloc (.cells #[.map none, .slice none 0 0] 50)).alloc _).heap[w.heap.size]? = _
    rw [(World.grownBy_alloc (w.alloc (.cells #[.map none, .slice none 0 0] 50)) _ none).block _ (by simp) (by simp)]
    exact (MapKept.heap_alloc w _).1
  generalize (w.alloc (.cells #[.map none, .slice none 0 0] 50)).alloc (.cells #[.slice (some ⟨B, 0, none⟩) n c, .int .i64 0] 74) = w2 at HD2 HG2 HA2 ⊢
  refine (value_dict F (w.heap.size + 1) B n c l es data w2 (answers_grown hF HG2.out) HD2.out HT.out HDI.out HW.out hn).mono ?_
  have hsz2 : w.heap.size + 1 < w2.heap.size := HD2.out.lt
  rintro e w3 ⟨hg, ⟨ho, M, ra, rn, rc, rfl, hM, hd3⟩ | ⟨ho, z, g, s, rfl, hs⟩⟩
  · have HG3 : Hid (w.grownBy w3 none) := HG2.out.andThen hg (fun j hj => .inl (by simp at hj; omega))
    have HA3 : Hid (w3.heap[w.heap.size]? = some (.cells #[.map none, .slice none 0 0] 50)) := by
      show w3.heap[w.heap.size]? = _
      rw [hg.block _ (by omega) (by simp)]; exact HA2.out
    have HD3 : Hid (Dec w3 (w.heap.size + 1) B n c l (2 + (es.flatMap entT).length)) := hd3
    have HM3 : Hid (w3.ownsMap Tryf.prog 9 elem M es.length (dOf es)) := hM
    have HO : Hid (AllGood es) := ho
    have hsz3 : w.heap.size + 1 < w3.heap.size := HD3.out.lt
    clear hg hd3 hM ho
    have hta := assert50
    go_wp2
    clear hta
    have HG4 : Hid (w3.grownBy (w3.alloc (.cells #[.map (some M), .slice ra rn rc] 50)) none) := World.grownBy_alloc _ _ _
    have HB4 : Hid ((w3.alloc (.cells #[.map (some M), .slice ra rn rc] 50)).heap[w3.heap.size]? = some (.cells #[.map (some M), .slice ra rn rc] 50)) := (MapKept.heap_alloc w3 _).1
    generalize w3.alloc (.cells #[.map (some M), .slice ra rn rc] 50) = w4 at HG4 HB4 ⊢
    have HD4 : Hid (Dec w4 (w.heap.size + 1) B n c l (2 + (es.flatMap entT).length)) := HD3.out.kept HG4.out (by simp) (by simp)
    have hA4 : w4.heap[w.heap.size]? = some (.cells #[.map none, .slice none 0 0] 50) := by
      rw [HG4.out.block _ (by omega) (by simp)]; exact HA3.out
    have HM4 : Hid (w4.ownsMap Tryf.prog 9 elem M es.length (dOf es)) := HM3.out.kept HG4.out (by simp)
    obtain ⟨hc0, hc1, hf, _, _, _, _, _⟩ := HD4.out
    obtain ⟨ha0, hfa0⟩ := cell_of_block hA4 0 _ rfl
    obtain ⟨ha1, hfa1⟩ := cell_of_block hA4 1 _ rfl
    obtain ⟨hb0, _⟩ := cell_of_block HB4.out 0 _ rfl
    obtain ⟨hb1, _⟩ := cell_of_block HB4.out 1 _ rfl
    have hMA : some M ≠ some w.heap.size := by
      intro e
      obtain ⟨es', cl, hb, _⟩ := HM4.out
      cases e
      rw [hA4] at hb
      cases hb
    have HA4 : Hid (w4.heap[w.heap.size]? = some (.cells #[.map none, .slice none 0 0] 50)) := hA4
    obtain ⟨q, hq⟩ : ∃ q, q = 2 + (es.flatMap entT).length := ⟨_, rfl⟩
    have HQ : Hid (q = 2 + (es.flatMap entT).length) := hq
    rw [← hq] at hc1 hnq
    have hs1 : (0 : Int) ≤ (q : Int) := by omega
    have hs2 : (q : Int) ≤ (n : Int) := by omega
    have HMA : Hid (some M ≠ some w.heap.size) := hMA
    clear hA4 hq hMA
    by_cases hcq : c = q
    · go_region
      go_wp2
      (try simp only [Exit.inBlock, Exit.then])
      refine bodyPost_ret (results_cell_tmp2 rfl _ _ _ rfl (load50 _ _ _ _ (set2_0 ha0 _ _) (set2_1 ha1 _ _))) rfl ?_
      exact prefix_done HG3.out HG4.out HM4.out HO.out HQ.out HMA.out (.inl (by omega))
    · go_region
      go_wp2
      (try simp only [Exit.inBlock, Exit.then])
      refine bodyPost_ret (results_cell_tmp2 rfl _ _ _ rfl (load50 _ _ _ _ (set2_0 ha0 _ _) (set2_1 ha1 _ _))) rfl ?_
      exact prefix_done HG3.out HG4.out HM4.out HO.out HQ.out HMA.out (.inr rfl)
  · have HG3 : Hid (w.grownBy w3 none) := HG2.out.andThen hg (fun j hj => .inl (by simp at hj; omega))
    have hA3 : w3.heap[w.heap.size]? = some (.cells #[.map none, .slice none 0 0] 50) := by
      rw [hg.block _ (by omega) (by simp)]; exact HA2.out
    obtain ⟨ha0, hfa0⟩ := cell_of_block hA3 0 _ rfl
    obtain ⟨ha1, hfa1⟩ := cell_of_block hA3 1 _ rfl
    have HS : Hid (w3.cell? ⟨g, 0, none⟩ = some (.string s)) := hs
    have HO : Hid (¬ AllGood es) := ho
    clear hg hs ho hA3
    go_wp2
    (try simp only [Exit.inBlock, Exit.then])
    refine bodyPost_ret (results_cell_tmp2 rfl _ _ _ rfl (load50 _ _ _ _ (set2_0 ha0 _ _) (set2_1 ha1 _ _))) rfl ?_
    exact prefix_bad HG3.out ha0 HS.out HO.out
end Go.Proofs.Qxb6615960aFmt
