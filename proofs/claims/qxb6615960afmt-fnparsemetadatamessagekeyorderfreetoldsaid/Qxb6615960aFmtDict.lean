/-
  The walk of (*decoder).dict (41).
-/
import Derived.Test.Qxb6615960aFmtMap
import Derived.Test.Qxb6615960aFmtRet
namespace Go.Proofs.Qxb6615960aFmt
open Go.RowKit Go.Extern.Stop Go.Stop Go.Extern

def entT (x : List Int × Ent) : List Int := strT x.1 ++ x.2.text
def AllGood (es : List (List Int × Ent)) : Prop := ∀ x ∈ es, x.2.good

/-- What dict leaves. -/
def DictPost (w w' : World) (D B n c : Nat) (l : List Int) (q : Nat) (es : List (List Int × Ent)) (e : Ending) : Prop :=
  w.grownBy w' (some D) ∧ ((AllGood es ∧ ∃ M ra rn rc, e = .returned (.tuple #[.agg #[.map (some M), .slice ra rn rc], .nilIface]) ∧ M < w'.heap.size ∧ w'.ownsMap Tryf.prog 9 elem M es.length (dOf es) ∧ Dec w' D B n c l q) ∨
    (¬ AllGood es ∧ ∃ z g s, e = .returned (.tuple #[z, .iface 99 (.pointer (some ⟨g, 0, none⟩))]) ∧ w'.cell? ⟨g, 0, none⟩ = some (.string s)))

/-- What stands at the loop's head. -/
def DictInv (w wr : World) (D B n c : Nat) (l : List Int) (p : Nat) (es : List (List Int × Ent)) (data : List Int) : Prop :=
  ∃ done todo q, es = done ++ todo ∧ AllGood done ∧ Dec wr D B n c l q ∧ q = p + 1 + (done.flatMap entT).length ∧ l.drop q = todo.flatMap entT ++ 101 :: data ∧ w.grownBy wr (some D) ∧
    wr.heap[w.heap.size]? = some (.cells #[.map none, .slice none 0 0] 50) ∧ wr.ownsMap Tryf.prog 9 elem (w.heap.size + 1) done.length (dOf done)

theorem cell_of_block {w : World} {A : Nat} {vs : Array Value} {t : TypeId} (h : w.heap[A]? = some (.cells vs t)) (i : Nat) (v : Value) (hv : vs[i]? = some v) : w.cell? ⟨A, i, none⟩ = some v ∧ w.frozen? ⟨A, i, none⟩ = false := by
  constructor
  · simp [World.cell?, h, hv]
  · simp [World.frozen?, h]

theorem flat_len : ∀ es : List (List Int × Ent), es.length ≤ (es.flatMap entT).length
  | [] => Nat.le_refl _
  | x :: r => by
    rw [List.flatMap_cons, List.length_append, List.length_cons]
    have h1 := flat_len r
    have h2 : 1 ≤ (entT x).length := by unfold entT; rw [List.length_append, strT_length]; omega
    omega

theorem Dec.Blt {w : World} {D B n c : Nat} {l : List Int} {p : Nat} (h : Dec w D B n c l p) (hn : 0 < n) : B < w.heap.size := cell_lt (h.2.2.2.2.2.2.2 0 hn)

theorem dict_done {w w1 : World} {D B n c : Nat} {l : List Int} {p q r : Nat} {es done : List (List Int × Ent)} {ra : Option Addr} {rn rc : Nat} (hg : w.grownBy w1 (some D)) (hd : Dec w1 D B n c l (q + 1))
    (hM : w1.ownsMap Tryf.prog 9 elem (w.heap.size + 1) done.length (dOf done)) (hes : es = done ++ []) (hgood : AllGood done) (hq : q = p + 1 + (done.flatMap entT).length) (_ : r = q + 1) (hlt : D < w.heap.size) (hB : B < w.heap.size) :
    DictPost w ((w1.setCell ⟨w.heap.size, 0, none⟩ (.map (some (w.heap.size + 1)))).setCell ⟨w.heap.size, 1, none⟩ (.slice ra rn rc)).drew D B n c l (p + 2 + (es.flatMap entT).length) es
      (.returned (.tuple #[.agg #[.map (some (w.heap.size + 1)), .slice ra rn rc], .nilIface])) := by
  rw [List.append_nil] at hes
  subst hes
  have hk : w1.grownBy ((w1.setCell ⟨w.heap.size, 0, none⟩ (.map (some (w.heap.size + 1)))).setCell ⟨w.heap.size, 1, none⟩ (.slice ra rn rc)).drew (some w.heap.size) := grown_drew (grown_set (grown_set (grown_refl _ _) _ _) _ _)
  have hM' := hM.kept hk (by simp)
  have hd' := hd.kept hk (by simp; omega) (by simp; omega)
  refine ⟨hg.andThen hk (fun j hj => .inl (by simp at hj; omega)), .inl ⟨hgood, _, ra, rn, rc, rfl, hM'.lt, hM', ?_⟩⟩
  have e : p + 2 + (es.flatMap entT).length = q + 1 := by omega
  rw [e]; exact hd'

theorem set2_0 {w : World} {A : Nat} {x : Value} (h : w.cell? ⟨A, 0, none⟩ = some x) (v0 v1 : Value) : ((w.setCell ⟨A, 0, none⟩ v0).setCell ⟨A, 1, none⟩ v1).cell? ⟨A, 0, none⟩ = some v0 := by
  rw [World.cell?_setCell_other _ _ _ _ (by intro e; cases e), World.cell?_setCell_same _ _ _ h]
theorem set2_1 {w : World} {A : Nat} {x : Value} (h : w.cell? ⟨A, 1, none⟩ = some x) (v0 v1 : Value) : ((w.setCell ⟨A, 0, none⟩ v0).setCell ⟨A, 1, none⟩ v1).cell? ⟨A, 1, none⟩ = some v1 := by
  have h' : (w.setCell ⟨A, 0, none⟩ v0).cell? ⟨A, 1, none⟩ = some x := by rw [World.cell?_setCell_other _ _ _ _ (by intro e; cases e)]; exact h
  exact World.cell?_setCell_same _ _ _ h'

theorem dict_next {w w2 w3 : World} {D B n c : Nat} {l : List Int} {p q : Nat} {es done t : List (List Int × Ent)} {k : List Int} {v : Ent} {data : List Int} (hes : es = done ++ (k, v) :: t) (hgood : AllGood done) (hv : v.good)
    (hd : Dec w2 D B n c l (q + (strT k).length + v.text.length)) (hq : q = p + 1 + (done.flatMap entT).length) (hdp : l.drop q = strT k ++ (v.text ++ (t.flatMap entT ++ 101 :: data))) (hg : w.grownBy w2 (some D))
    (hA : w2.heap[w.heap.size]? = some (.cells #[.map none, .slice none 0 0] 50)) (hM : w3.ownsMap Tryf.prog 9 elem (w.heap.size + 1) (done.length + 1) ((dOf done).put (kl k) v.datum)) (hk : w2.grownBy w3 (some (w.heap.size + 1)))
    (hlt : D < w.heap.size) (hB : B < w.heap.size) : DictInv w w3 D B n c l p es data := by
  refine ⟨done ++ [(k, v)], t, q + (strT k).length + v.text.length, by rw [hes]; simp, ?_, hd.kept hk (by simp; omega) (by simp; omega), ?_, drop_more (drop_more hdp), hg.andThen hk (fun j hj => .inl (by simp at hj; omega)), ?_, ?_⟩
  · intro x hx
    rcases List.mem_append.1 hx with h | h
    · exact hgood x h
    · rw [List.mem_singleton.1 h]; exact hv
  · rw [List.flatMap_append, List.length_append, List.flatMap_singleton]
    simp only [entT, List.length_append]
    omega
  · rw [hk.block _ ?_ (by simp)]
    · exact hA
    · exact (Array.getElem?_eq_some_iff.1 hA).1
  · rw [dOf_snoc, List.length_append]; exact hM

theorem dict_bad {w w2 : World} {D B n c : Nat} {l : List Int} {q g : Nat} {s : ByteArray} {es : List (List Int × Ent)} (hg : w.grownBy w2 (some D)) (ha : w2.cell? ⟨w.heap.size, 0, none⟩ = some (.map none)) (hs : w2.cell? ⟨g, 0, none⟩ = some (.string s)) (hno : ¬ AllGood es) :
    DictPost w ((w2.setCell ⟨w.heap.size, 0, none⟩ (.map none)).setCell ⟨w.heap.size, 1, none⟩ (.slice none 0 0)) D B n c l q es
      (.returned (.tuple #[.agg #[.map none, .slice none 0 0], .iface 99 (.pointer (some ⟨g, 0, none⟩))])) := by
  have hk : w2.grownBy ((w2.setCell ⟨w.heap.size, 0, none⟩ (.map none)).setCell ⟨w.heap.size, 1, none⟩ (.slice none 0 0)) (some w.heap.size) := grown_set (grown_set (grown_refl _ _) _ _) _ _
  have hne : g ≠ w.heap.size := by
    intro e
    subst e
    rw [ha] at hs
    cases hs
  refine ⟨hg.andThen hk (fun j hj => .inl (by simp at hj; omega)), .inr ⟨hno, _, g, s, rfl, ?_⟩⟩
  rw [hk.cell_far _ (cell_lt hs) (by simp; exact hne)]; exact hs

theorem dict_start (w : World) {D B n c : Nat} {l : List Int} {p : Nat} {es : List (List Int × Ent)} {data : List Int} (hd : Dec w D B n c l p) (h : l.drop p = 100 :: (es.flatMap entT ++ 101 :: data)) :
    DictInv w (((w.setCell ⟨D, 1, none⟩ (.int .i64 ((p : Int) + 1))).alloc (.cells #[.map none, .slice none 0 0] 50)).alloc (.map #[] 0)) D B n c l p es data := by
  have e : ((p : Nat) : Int) + 1 = ((p + 1 : Nat) : Int) := by omega
  rw [e]
  have hd1 := hd.set (p + 1)
  have hs : (w.setCell ⟨D, 1, none⟩ (.int .i64 ((p + 1 : Nat) : Int))).heap.size = w.heap.size := by simp
  have hg1 : w.grownBy (w.setCell ⟨D, 1, none⟩ (.int .i64 ((p + 1 : Nat) : Int))) (some D) := grown_set (grown_refl _ _) _ _
  generalize w.setCell ⟨D, 1, none⟩ (.int .i64 ((p + 1 : Nat) : Int)) = w1 at hd1 hs hg1 ⊢
  have hg2 : w1.grownBy (w1.alloc (.cells #[.map none, .slice none 0 0] 50)) none := World.grownBy_alloc _ _ _
  have hs2 : (w1.alloc (.cells #[.map none, .slice none 0 0] 50)).heap.size = w.heap.size + 1 := by simp [hs]
  have hA : (w1.alloc (.cells #[.map none, .slice none 0 0] 50)).heap[w.heap.size]? = some (.cells #[.map none, .slice none 0 0] 50) := by rw [← hs]; exact (MapKept.heap_alloc w1 _).1
  generalize w1.alloc (.cells #[.map none, .slice none 0 0] 50) = w2 at hg2 hs2 hA ⊢
  have hg3 : w2.grownBy (w2.alloc (.map #[] 0)) none := World.grownBy_alloc _ _ _
  have hM := World.ownsMap_made w2 Tryf.prog 9 elem
  rw [hs2] at hM
  refine ⟨[], es, p + 1, rfl, (fun x hx => by cases hx), (hd1.kept hg2 (by simp) (by simp)).kept hg3 (by simp) (by simp), by simp, ?_, (hg1.trans (hg2.but _)).trans (hg3.but _), ?_, hM⟩
  · have := drop_more (l := l) (p := p) (X := [100]) (Y := es.flatMap entT ++ 101 :: data) (by rw [h]; simp)
    simpa using this
  · rw [hg3.block _ (by omega) (by simp)]; exact hA

set_option maxRecDepth 100000 in
set_option maxHeartbeats 400000 in
theorem dict_any (F : Interp) (D B n c : Nat) (l : List Int) (p : Nat) (es : List (List Int × Ent)) (data : List Int) (depth : Int) (w : World) (hF : F.answers w.tape) (hd : Dec w D B n c l p)
    (h : l.drop p = 100 :: (es.flatMap entT ++ 101 :: data)) (hdist : es.Pairwise (fun x y => kl x.1 ≠ kl y.1)) (hwf : ∀ x ∈ es, x.2.wf) (hn : n ≤ 1000000000000) :
    Calls Tryf.prog 41 #[.pointer (some ⟨D, 0, none⟩), .int .i64 depth] w fun e w' => DictPost w w' D B n c l (p + 2 + (es.flatMap entT).length) es e := by
  have hpn : p < n := by have h1 := drop_len h (by simp); have h2 := hd.2.2.2.2.1; simp at h1; omega
  have HT : Hid (l.drop p = 100 :: (es.flatMap entT ++ 101 :: data)) := h
  have HD : Hid (Dec w D B n c l p) := hd
  have HDI : Hid (es.Pairwise (fun x y => kl x.1 ≠ kl y.1)) := hdist
  have HW : Hid (∀ x ∈ es, x.2.wf) := hwf
  have hc1 := hd.2.1
  have hf := hd.2.2.1
  have hlt := hd.lt
  have hmk := fun w => run_makeMap (P := Tryf.prog) (w := w)
  have HS := dict_start w (es := es) (data := data) hd h
  clear h hd hdist hwf
  go_enter Tryf.func41, Tryf.ntmps41
  go_wp2
  clear hc1 hf hmk
  go_loopw [8] (fun _ wr => DictInv w wr D B n c l p es data) (fun _ wr => n - posOf wr D)
  case atStart => exact HS
  case round =>
    clear HS
    obtain ⟨done, todo, q, hes, hgood, hdr, hqe, hdrop, hgr, hA, hM⟩ := hrel
    have hlq := drop_len hdrop (by simp)
    have hll0 := hdr.2.2.2.2.1
    have hqn : q < n := by simp at hlq; omega
    have hge : decide ((n : Int) ≤ (q : Int)) = false := by simp; omega
    have HDR : Hid (Dec wr D B n c l q) := hdr
    have HGR : Hid (w.grownBy wr (some D)) := hgr
    have HA : Hid (wr.heap[w.heap.size]? = some (.cells #[.map none, .slice none 0 0] 50)) := hA
    have HM : Hid (wr.ownsMap Tryf.prog 9 elem (w.heap.size + 1) done.length (dOf done)) := hM
    have HGD : Hid (AllGood done) := hgood
    have HES : Hid (es = done ++ todo) := hes
    have HQ : Hid (q = p + 1 + (done.flatMap entT).length) := hqe
    have HDP : Hid (l.drop q = todo.flatMap entT ++ 101 :: data) := hdrop
    obtain ⟨hc0, hc1, hf, hBD, hll, hnc, hby, hcell⟩ := hdr
    have hb := hcell q hqn
    clear hcell hby hll hlq hll0 hgr hA hM hgood hes hqe hdrop
    cases todo with
    | nil =>
      have h101 : l.getD q 0 = 101 := by have := drop_getD HDP.out 0; simpa using this
      rw [h101] at hb
      clear h101
      go_wp2
      go_quiet (fail)
      revert nq; intro nq1
      go_wp2
      go_quiet (fail)
      go_wp2
      have e : ((q : Nat) : Int) + 1 = ((q + 1 : Nat) : Int) := by omega
      rw [e]
      have HD1 : Hid (Dec ((wr.drewN (nq1 + nq)).setCell ⟨D, 1, none⟩ (.int .i64 ((q + 1 : Nat) : Int))) D B n c l (q + 1)) := (HDR.out.drewN (nq1 + nq)).set (q + 1)
      have HG0 : wr.grownBy ((wr.drewN (nq1 + nq)).setCell ⟨D, 1, none⟩ (.int .i64 ((q + 1 : Nat) : Int))) (some D) := grown_set (grown_drewN (grown_refl _ _) _) _ _
      generalize (wr.drewN (nq1 + nq)).setCell ⟨D, 1, none⟩ (.int .i64 ((q + 1 : Nat) : Int)) = w1 at HD1 HG0 ⊢
      have hsz : w.heap.size + 1 < wr.heap.size := HM.out.lt
      have HG1 : Hid (w.grownBy w1 (some D)) := HGR.out.trans HG0
      have HM1 : Hid (w1.ownsMap Tryf.prog 9 elem (w.heap.size + 1) done.length (dOf done)) := HM.out.kept HG0 (by simp; omega)
      have hA1 : w1.heap[w.heap.size]? = some (.cells #[.map none, .slice none 0 0] 50) := by rw [HG0.block _ (by omega) (by simp; omega)]; exact HA.out
      clear hc0 hc1 hf hb HG0
      obtain ⟨hc0, hc1, hf, _, _, _, _, _⟩ := HD1.out
      obtain ⟨ha0, hfa0⟩ := cell_of_block hA1 0 _ rfl
      obtain ⟨ha1, hfa1⟩ := cell_of_block hA1 1 _ rfl
      obtain ⟨r, hr⟩ : ∃ r, r = q + 1 := ⟨_, rfl⟩
      have hpr : p ≤ r := by have := HQ.out; omega
      have HR : Hid (r = q + 1) := hr
      have hrn : r ≤ n := by omega
      rw [← hr] at hc1 ⊢
      have hs1 : (0 : Int) ≤ (p : Int) := by omega
      have hs2 : (p : Int) ≤ (r : Int) := by omega
      have hs3 : (r : Int) ≤ (c : Int) := by omega
      have hcp : ¬ c = p := by omega
      clear hr e hge hqn
      go_region
      go_wp2
      (try simp only [Exit.inBlock, Exit.then])
      refine bodyPost_ret (results_cell_tmp rfl _ _ _ rfl (load50 _ _ _ _ (set2_0 ha0 _ _) (set2_1 ha1 _ _))) rfl ?_
      exact dict_done HG1.out HD1.out HM1.out HES.out HGD.out HQ.out HR.out hlt (HD.out.Blt (by omega))
    | cons x t =>
      obtain ⟨k, v⟩ := x
      have HDP' : Hid (l.drop q = strT k ++ (v.text ++ (t.flatMap entT ++ 101 :: data))) := by
        show l.drop q = _
        rw [HDP.out]; simp [entT]
      have hlen := drop_len HDP'.out (by simp)
      rw [List.length_append, strT_length, List.length_append, List.length_append] at hlen
      have hln := HDR.out.2.2.2.2.1
      have hmax : (1000000000000 : Nat) ≤ maxLen := by unfold maxLen; omega
      have hkm : k.length ≤ maxLen := by omega
      have hdm : done.length < maxLen := by
        have h1 := flat_len done
        have h2 := HQ.out
        omega
      have hno : Maps.has (dOf done) (kl k) = false := has_dOf_not (fun y hy => by
        have h := HDI.out
        rw [HES.out, List.pairwise_append] at h
        exact (h.2.2 y hy (k, v) (by simp)).symm)
      have hwfv : v.wf := HW.out (k, v) (by rw [HES.out]; simp)
      have h48 : l.getD q 0 = 48 + ((dg k.length 0 : Nat) : Int) := by
        have h1 : l.drop q = dig k.length ++ 58 :: (k ++ (v.text ++ (t.flatMap entT ++ 101 :: data))) := by rw [HDP'.out]; simp [strT]
        exact (digits_at h1).1 0 (nd_pos _)
      have hlt10 := dg_lt k.length 0
      rw [h48] at hb
      obtain ⟨y, hy⟩ : ∃ y : Int, y = 48 + ((dg k.length 0 : Nat) : Int) := ⟨_, rfl⟩
      rw [← hy] at hb
      have hy1 : (y == 101) = false := by simp; omega
      have hy2 : decide (y < 48) = false := by simp; omega
      have hy3 : decide (57 < y) = false := by simp; omega
      have HNO : Hid (Maps.has (dOf done) (kl k) = false) := hno
      have hsz : w.heap.size + 1 < wr.heap.size := HM.out.lt
      clear h48 hlt10 hy hlen hno
      go_wp2
      go_quiet (fail)
      revert nq; intro nq1
      go_wp2
      go_quiet (fail)
      go_wp2_with fail
      refine (str_at F D B n c l q k _ _ (answers_grown hF (grown_drewN HGR.out _)) (HDR.out.drewN _) HDP'.out (by simp) hn).mono ?_
      rintro e w1 ⟨hg1', rfl, hd1⟩
      have hg1 : wr.grownBy w1 (some D) := World.grownBy.trans (grown_drewN (grown_refl _ _) _) hg1'
      have HM1 : Hid (w1.ownsMap Tryf.prog 9 elem (w.heap.size + 1) done.length (dOf done)) := HM.out.kept hg1 (by simp; omega)
      have hA1 : w1.heap[w.heap.size]? = some (.cells #[.map none, .slice none 0 0] 50) := by rw [hg1.block _ (by omega) (by simp; omega)]; exact HA.out
      have HA1 : Hid (w1.heap[w.heap.size]? = some (.cells #[.map none, .slice none 0 0] 50)) := hA1
      have HG1 : Hid (w.grownBy w1 (some D)) := HGR.out.trans hg1
      have HD1 : Hid (Dec w1 D B n c l (q + (strT k).length)) := hd1
      have hlook := look_miss HM1.out hkm HNO.out
      have hsz1 : w.heap.size + 1 < w1.heap.size := HM1.out.lt
      clear hg1' hg1 hd1 hA1 hc0 hc1 hf hb
      go_wp2_with fail
      refine (value_at F D B n c l (q + (strT k).length) v _ depth w1 (answers_grown hF HG1.out) HD1.out hwfv (drop_more HDP'.out) (by simp) hn).mono ?_
      rintro e w2 ⟨hg2, ⟨ho, rfl, hd2⟩ | ⟨ho, z, g, s, rfl, hs⟩⟩
      · have HM2 : Hid (w2.ownsMap Tryf.prog 9 elem (w.heap.size + 1) done.length (dOf done)) := HM1.out.kept hg2 (by simp; omega)
        have HA2 : Hid (w2.heap[w.heap.size]? = some (.cells #[.map none, .slice none 0 0] 50)) := by
          show w2.heap[w.heap.size]? = _
          rw [hg2.block _ (by omega) (by simp; omega)]; exact HA1.out
        have HG2 : Hid (w.grownBy w2 (some D)) := HG1.out.trans hg2
        have HD2 : Hid (Dec w2 D B n c l (q + (strT k).length + v.text.length)) := hd2
        have HO : Hid v.good := ho
        clear hg2 hd2 ho hlook
        go_wp2_with (at_mapUpdate; refine wpList_mapUpdate_own _ rfl _ _ _ 48 rfl 9 20 keyed9 Tryf.underlying48 elem (w.heap.size + 1) done.length (dOf done) rfl HM2.out hdm _ _ (kl k) rfl rfl (key_of k hkm) v.datum [] (elem_val v) ?_)
        intro w3 hown3 hgrow3
        have HI : Hid (DictInv w w3 D B n c l p es data) := dict_next HES.out HGD.out HO.out HD2.out HQ.out HDP'.out HG2.out HA2.out hown3 hgrow3 hlt (HD.out.Blt (by omega))
        have HP : Hid (posOf w3 D = q + (strT k).length + v.text.length) := posOf_dec (HD2.out.kept hgrow3 (by simp; omega) (by have := HD.out.Blt (by omega); simp; omega))
        clear hown3 hgrow3
        go_wp2
        go_roundw
        case rel => exact HI.out
        case measure => rw [HP.out, posOf_dec HDR.out, strT_length]; omega
      · have HG2 : Hid (w.grownBy w2 (some D)) := HG1.out.trans hg2
        have hA2 : w2.heap[w.heap.size]? = some (.cells #[.map none, .slice none 0 0] 50) := by
          rw [hg2.block _ (by omega) (by simp; omega)]; exact HA1.out
        have HS2 : Hid (w2.cell? ⟨g, 0, none⟩ = some (.string s)) := hs
        have HO : Hid (¬ v.good) := ho
        obtain ⟨ha0, hfa0⟩ := cell_of_block hA2 0 _ rfl
        obtain ⟨ha1, hfa1⟩ := cell_of_block hA2 1 _ rfl
        have HA2 : Hid (w2.heap[w.heap.size]? = some (.cells #[.map none, .slice none 0 0] 50)) := hA2
        clear hg2 hA2 hlook hs ho
        go_wp2
        (try simp only [Exit.inBlock, Exit.then])
        refine bodyPost_ret (results_cell_tmp rfl _ _ _ rfl (load50 _ _ _ _ (set2_0 ha0 _ _) (set2_1 ha1 _ _))) rfl ?_
        exact dict_bad HG2.out ha0 HS2.out (fun h => HO.out (h (k, v) (by rw [HES.out]; simp)))
end Go.Proofs.Qxb6615960aFmt
