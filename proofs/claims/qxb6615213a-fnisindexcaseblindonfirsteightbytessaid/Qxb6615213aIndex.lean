/-
  The walks of beginsWith (18) and IsIndex (8).
-/
import Derived.Test.Qxb6615213aCase
namespace Go.Proofs.Qxb6615213a
open Go.RowKit Go.WideShapes

def mark : ByteArray := { data := #[79, 70, 68, 67, 70, 73, 68, 88] }
def mkLow : List Int := [111, 102, 100, 99, 102, 105, 100, 120]
def mkUp : List Int := [79, 70, 68, 67, 70, 73, 68, 88]
def isIdx (l : List Int) : Bool := decide (8 ≤ l.length) && ((l.take 8).map lowI == mkLow)

theorem isIndex_short (a : Option Addr) (n c : Nat) (hn : n < 8) (w : World) :
    Calls Try.prog 8 #[.slice a n c] w fun e w' => e = .returned (.bool false) ∧ w' = w := by
  go_enter Try.func8, Try.ntmps8
  go_wp2
  go_ret
  exact ⟨rfl, rfl⟩

theorem isIndex_short_w (a : Option Addr) (n c : Nat) (hn : n < 8) (w : World) :
    Calls Try.prog 8 #[.slice a n c] w fun e w' => e = .returned (.bool false) ∧ w = w' :=
  (isIndex_short a n c hn w).mono fun _ _ h => ⟨h.1, h.2.symm⟩

theorem bs_strOf {l : List Int} (h : ∀ x ∈ l, 0 ≤ x ∧ x ≤ 255) : bs (strOfNums l) = l := by
  unfold bs
  rw [strOfNums_data, List.map_map]
  have : ∀ x ∈ l, ((fun x : UInt8 => (x.toNat : Int)) ∘ fun n : Int => UInt8.ofNat n.toNat) x = x := by
    intro x hx
    have := h x hx
    show ((UInt8.ofNat x.toNat).toNat : Int) = x
    rw [UInt8.toNat_ofNat']
    omega
  rw [List.map_congr_left this]
  simp

theorem lowI_range {x : Int} (h : 0 ≤ x ∧ x ≤ 255) : 0 ≤ lowI x ∧ lowI x ≤ 255 := by unfold lowI; split <;> omega
theorem upI_range {x : Int} (h : 0 ≤ x ∧ x ≤ 255) : 0 ≤ upI x ∧ upI x ≤ 255 := by unfold upI; split <;> omega
theorem map_range {f : Int → Int} (hf : ∀ {x}, 0 ≤ x ∧ x ≤ 255 → 0 ≤ f x ∧ f x ≤ 255) {l : List Int} (h : ∀ x ∈ l, 0 ≤ x ∧ x ≤ 255) : ∀ x ∈ l.map f, 0 ≤ x ∧ x ≤ 255 := by
  intro x hx
  obtain ⟨y, hy, rfl⟩ := List.mem_map.1 hx
  exact hf (h y hy)
/-- Two strings of bytes are one where their numbers are. -/
theorem strOf_beq {l m : List Int} (hl : ∀ x ∈ l, 0 ≤ x ∧ x ≤ 255) (hm : ∀ x ∈ m, 0 ≤ x ∧ x ≤ 255) : ((strOfNums l).toList == (strOfNums m).toList) = (l == m) := by
  rw [ByteArray.toList_eq, ByteArray.toList_eq, Bool.eq_iff_iff, beq_iff_eq, beq_iff_eq]
  constructor
  · intro h
    have := congrArg (fun z : List UInt8 => z.map fun x => (x.toNat : Int)) h
    have h1 := bs_strOf hl
    have h2 := bs_strOf hm
    unfold bs at h1 h2
    rw [← h1, ← h2]
    exact this
  · intro h
    rw [h]
theorem mark_low : (bs { data := #[79, 70, 68, 67, 70, 73, 68, 88] }).map lowI = mkLow := by decide
theorem idx_eq {l : List Int} (h : 8 ≤ l.length) (hr : ∀ x ∈ l, 0 ≤ x ∧ x ≤ 255) :
    ((strOfNums (List.take 8 (List.map lowI l))).toList == (strOfNums (List.map lowI (bs { data := #[79, 70, 68, 67, 70, 73, 68, 88] }))).toList) = isIdx l := by
  rw [mark_low, strOf_beq (fun x hx => map_range lowI_range hr x (List.mem_of_mem_take hx)) (by decide)]
  unfold isIdx
  rw [decide_eq_true h, Bool.true_and, List.map_take]
theorem ret_bool {a b : Bool} (h : a = b) : Ending.returned (.bool a) = .returned (.bool b) := by rw [h]

theorem isIndex_long (b off n c : Nat) (l : List Int) (hn : 8 ≤ n) (hc : n ≤ c) (hlen : l.length = n) (hr : ∀ x ∈ l, 0 ≤ x ∧ x ≤ 255) (w : World) (hcell : ∀ i, i < n → w.cell? ⟨b, off + i, none⟩ = some (.int .u8 (l.getD i 0))) :
    Calls Try.prog 8 #[.slice (some ⟨b, off, none⟩) n c] w fun e w' => e = .returned (.bool (isIdx l)) ∧ Below w.heap.size w w' := by
  have hcv := run_convert_bytes_arg (P := Try.prog) w 22 5 Try.underlying22 Try.underlying5 b off 8 c (l.take 8) (by rw [List.length_take]; omega) (fun j hj => by rw [hcell j (by omega), List.getD_eq_getElem?_getD, List.getD_eq_getElem?_getD, List.getElem?_take, if_pos hj]) 9 Try.underlying9
  have hh : (8 : Int) ≤ (n : Int) := by omega
  have hh2 : (n : Int) ≤ (c : Int) := by omega
  clear hcell
  go_enter Try.func8, Try.ntmps8
  go_wp2_with (go_at_call 18; go_in)
  refine (folded_any _ _ (by rw [strOfNums_size, List.length_take]; omega)).mono ?_
  rintro e w1 ⟨rfl, hb1⟩
  rw [bs_strOf (fun x hx => hr x (List.mem_of_mem_take hx))]
  go_wp2_with (go_at_call 18; go_in)
  refine (folded_any _ _ (by decide)).mono ?_
  rintro e w2 ⟨rfl, hb2⟩
  go_wp2
  go_ret
  exact ⟨ret_bool (idx_eq (by omega) hr), hb1.trans (hb2.mono hb1.size)⟩

/-- IsIndex at every slice. -/
theorem isIndex_any (a : Option Addr) (n c : Nat) (l : List Int) (w : World) (h : Seg w a n l) (hc : n ≤ c) :
    Calls Try.prog 8 #[.slice a n c] w fun e w' => e = .returned (.bool (isIdx l)) ∧ Below w.heap.size w w' := by
  obtain ⟨h1, h2, h3⟩ := h
  by_cases hn : n < 8
  · refine (isIndex_short a n c hn w).mono ?_
    rintro e w' ⟨rfl, rfl⟩
    refine ⟨ret_bool ?_, Below.refl _ _⟩
    unfold isIdx
    rw [decide_eq_false (by omega), Bool.false_and]
  · rcases h3 with h3 | ⟨b, off, rfl, _, hcell⟩
    · omega
    · exact isIndex_long b off n c l (by omega) hc h1 h2 w hcell

end Go.Proofs.Qxb6615213a
