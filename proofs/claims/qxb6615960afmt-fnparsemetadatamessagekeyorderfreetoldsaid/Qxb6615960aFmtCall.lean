/-
  ParseMetadataMessage at a message that the law has built.
-/
import Derived.Test.Qxb6615960aFmtBuf
namespace Go.Proofs.Qxb6615960aFmt
open Go.RowKit Go.WideShapes Go.Extern.Stop Go.Stop Go.Extern

def Bytes (l : List Int) : Prop := ∀ x ∈ l, 0 ≤ x ∧ x ≤ 255
theorem Bytes.app {l m : List Int} (h : Bytes l) (k : Bytes m) : Bytes (l ++ m) := fun x hx => (List.mem_append.1 hx).elim (h x) (k x)
theorem Bytes.cons {a : Int} {l : List Int} (ha : 0 ≤ a ∧ a ≤ 255) (h : Bytes l) : Bytes (a :: l) := fun x hx => by
  rcases List.mem_cons.1 hx with rfl | hx
  · exact ha
  · exact h x hx
theorem strT_bytes {s : List Int} (h : Bytes s) : Bytes (strT s) := Bytes.app (dig_bytes _) (Bytes.cons (by decide) h)
theorem intT_bytes (v : Int) : Bytes (intT v) := by
  unfold intT
  refine Bytes.cons (by decide) (Bytes.app ?_ (Bytes.cons (by decide) (fun x hx => by cases hx)))
  split
  · exact Bytes.cons (by decide) (dig_bytes _)
  · exact dig_bytes _
def EntBytes : Ent → Prop
  | .int _ => True
  | .str s => Bytes s
theorem msg_bytes {es : List (List Int × Ent)} {data : List Int} (hk : ∀ x ∈ es, Bytes x.1 ∧ EntBytes x.2) (hd : Bytes data) : Bytes (msg es data) := by
  refine Bytes.cons (by decide) (Bytes.app ?_ (Bytes.cons (by decide) hd))
  intro y hy0
  obtain ⟨x, hx, hy⟩ := List.mem_flatMap.1 hy0
  obtain ⟨h1, h2⟩ := hk x hx
  clear hy0 hx
  revert y
  refine Bytes.app (strT_bytes h1) ?_
  obtain ⟨k, e⟩ := x
  cases e with
  | int v => exact intT_bytes v
  | str s => exact strT_bytes h2
theorem k_bytes : Bytes kT ∧ Bytes kP ∧ Bytes kS ∧ Bytes kV := by
  refine ⟨?_, ?_, ?_, ?_⟩ <;> intro x hx <;> simp [kT, kP, kS, kV] at hx <;> omega
theorem esF_bytes {t piece size : Int} {ws : Bool} {extra : List Int} (h : Bytes extra) : ∀ x ∈ esF t piece size ws extra, Bytes x.1 ∧ EntBytes x.2 := by
  obtain ⟨h1, h2, h3, h4⟩ := k_bytes
  intro x hx
  cases ws <;> simp [esF, szE] at hx
  · rcases hx with rfl | rfl | rfl
    · exact ⟨h1, trivial⟩
    · exact ⟨h2, trivial⟩
    · exact ⟨h4, h⟩
  · rcases hx with rfl | rfl | rfl | rfl
    · exact ⟨h1, trivial⟩
    · exact ⟨h2, trivial⟩
    · exact ⟨h3, trivial⟩
    · exact ⟨h4, h⟩
theorem esR_bytes {t piece size : Int} {ws : Bool} {extra : List Int} (h : Bytes extra) : ∀ x ∈ esR t piece size ws extra, Bytes x.1 ∧ EntBytes x.2 := by
  obtain ⟨h1, h2, h3, h4⟩ := k_bytes
  intro x hx
  cases ws <;> simp [esR, szE] at hx
  · rcases hx with rfl | rfl | rfl
    · exact ⟨h4, h⟩
    · exact ⟨h2, trivial⟩
    · exact ⟨h1, trivial⟩
  · rcases hx with rfl | rfl | rfl | rfl
    · exact ⟨h4, h⟩
    · exact ⟨h3, trivial⟩
    · exact ⟨h2, trivial⟩
    · exact ⟨h1, trivial⟩

/-- What the call leaves: accepted with these fields, or refused with the zero message. -/
def ParsedV (w w' : World) (acc : Prop) (t piece size : Int) (data : List Int) (e : Ending) : Prop :=
  w.grownBy w' none ∧ ((acc ∧ ∃ sz a m cc, e = .returned (.tuple #[.agg #[.int .i64 t, .int .i64 piece, .int .i64 sz, .slice a m cc], .nilIface]) ∧
      ((t ≠ 1 ∧ sz = 0 ∧ a = none ∧ m = 0 ∧ cc = 0) ∨ (t = 1 ∧ sz = size ∧ m = data.length ∧ ∀ w2, w.grownBy w2 none → Seg w2 a m data))) ∨
    (¬ acc ∧ ∃ ty x, e = .returned (.tuple #[.agg #[.int .i64 0, .int .i64 0, .int .i64 0, .slice none 0 0], .iface ty (.pointer (some x))])))

def Rng (x : Int) : Prop := -9223372036854775808 ≤ x ∧ x ≤ 9223372036854775807

/-- The bytes of the message stand in memory. -/
structure At (w : World) (g n cap : Nat) (l : List Int) : Prop where
  len : l.length = n
  cap : n ≤ cap
  by8 : Bytes l
  cell : ∀ i, i < n → w.cell? ⟨g, i, none⟩ = some (.int .u8 (l.getD i 0))
  lt : g < w.heap.size

theorem Buf.at {base : Nat} {w : World} {g n cap : Nat} {l : List Int} (h : Buf base w g n cap l) (hb : Bytes l) : At w g n cap l := by
  obtain ⟨hown, hn, hB⟩ := h
  refine ⟨hn, ?_, hb, fun i hi => ?_, (hown.lt g rfl).2⟩
  · rcases hown.2 with ⟨h', _⟩ | ⟨g', c', cur, hv, _, _, hle, _⟩
    · cases h'
    · simp only [Value.slice.injEq] at hv
      obtain ⟨_, _, rfl⟩ := hv
      exact hle
  · rw [hown.cellAt i (by omega)]
    simp [byteVals, List.getD, List.getElem?_eq_getElem (show i < l.length by omega)]
theorem At.grown {w w' : World} {g n cap : Nat} {l : List Int} (h : At w g n cap l) (hg : w.grownBy w' none) : At w' g n cap l :=
  ⟨h.len, h.cap, h.by8, fun i hi => (hg.cell_far _ h.lt (by simp)).trans (h.cell i hi), Nat.lt_of_lt_of_le h.lt hg.size⟩
theorem At.below {w w' : World} {base g n cap : Nat} {l : List Int} (h : At w g n cap l) (hg : Below base w w') (hlt : g < base) : At w' g n cap l :=
  ⟨h.len, h.cap, h.by8, fun i hi => (hg.cell (p := ⟨g, i, none⟩) hlt).trans (h.cell i hi), Nat.lt_of_lt_of_le h.lt hg.size⟩

theorem callParse (F : Interp) (es : List (List Int × Ent)) (t piece size : Int) (ws : Bool) (data : List Int) (g n cap : Nat) (w : World) (hF : F.answers w.tape) (h : At w g n cap (msg es data)) (hf : Fine es t piece size ws)
    (ht : Rng t) (hp : Rng piece) (hs : Rng size) (hn : n ≤ 1000000000000) :
    Calls Tryf.prog 8 #[.slice (some ⟨g, 0, none⟩) n cap] w fun e w' => ParsedV w w' (Acc t piece size ws) t piece size data e := by
  have hd : Bytes data := fun x hx => h.by8 x (by simp [msg, hx])
  have hnq : n - (2 + (es.flatMap entT).length) = data.length := by rw [← h.len]; simp only [msg, List.length_cons, List.length_append]; omega
  refine (parse_any F g n cap (2 + (es.flatMap entT).length) (msg es data) es data t piece size ws w hF h.len h.cap h.by8 h.cell rfl hf.dist (hf.wf ht hp hs) hn hf.hT hf.hP hf.hS hp.1 hp.2 rfl).mono ?_
  rintro e w' ⟨hg, ⟨hacc, sz, a, m, cc, rfl, hcase⟩ | ⟨hacc, ty, x, rfl⟩⟩
  · refine ⟨hg, .inl ⟨hf.acc.1 hacc, sz, a, m, cc, rfl, ?_⟩⟩
    rcases hcase with h1 | ⟨h1, h2, h3, h4⟩
    · exact .inl h1
    · refine .inr ⟨h1, h2, by rw [h3, hnq], fun w2 hg2 => ?_⟩
      rw [h3, hnq]
      refine ⟨rfl, hd, ?_⟩
      rcases h4 with h4 | h4
      · exact .inl (by omega)
      · refine .inr ⟨g, _, h4, Nat.lt_of_lt_of_le h.lt hg2.size, fun i hi => ?_⟩
        rw [(h.grown hg2).cell _ (by omega)]
        have e1 : msg es data = (100 :: (es.flatMap entT ++ [101])) ++ data := by simp [msg]
        have e2 : 2 + (es.flatMap entT).length = (100 :: (es.flatMap entT ++ [101])).length := by simp; omega
        rw [e2, e1, getD_right]
  · exact ⟨hg, .inr ⟨fun h => hacc (hf.acc.2 h), ty, x, rfl⟩⟩
end Go.Proofs.Qxb6615960aFmt
