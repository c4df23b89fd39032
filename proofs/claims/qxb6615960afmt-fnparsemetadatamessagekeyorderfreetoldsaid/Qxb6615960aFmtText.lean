/-
  The text of an entry, and the readers (str 39, value 32) at a text.
-/
import Derived.Test.Qxb6615960aFmtValue
namespace Go.Proofs.Qxb6615960aFmt
open Go.RowKit Go.Extern.Stop Go.Stop Go.Extern

def strT (s : List Int) : List Int := dig s.length ++ 58 :: s
def intT (v : Int) : List Int := 105 :: ((if v < 0 then 45 :: dig (-v).toNat else dig v.toNat) ++ [101])

inductive Ent where
  | int (v : Int)
  | str (s : List Int)

def Ent.text : Ent → List Int
  | .int v => intT v
  | .str s => strT s
def Ent.good : Ent → Prop
  | .int v => v ≠ -9223372036854775808
  | .str _ => True
def Ent.wf : Ent → Prop
  | .int v => -9223372036854775808 ≤ v ∧ v ≤ 9223372036854775807
  | .str _ => True
def Ent.val : Ent → Value
  | .int v => .iface 2 (.int .i64 v)
  | .str s => .iface 9 (.string (strOfNums s))

theorem drop_getD {l : List Int} {p : Nat} {X : List Int} (h : l.drop p = X) (j : Nat) : l.getD (p + j) 0 = X.getD j 0 := by
  rw [← h]; simp [List.getD]
theorem drop_len {l : List Int} {p : Nat} {X : List Int} (h : l.drop p = X) (hX : X ≠ []) : l.length = p + X.length := by
  have := congrArg List.length h
  rw [List.length_drop] at this
  have : 0 < X.length := List.length_pos_iff.2 hX
  omega
theorem drop_more {l : List Int} {p : Nat} {X Y : List Int} (h : l.drop p = X ++ Y) : l.drop (p + X.length) = Y := by
  rw [← List.drop_drop, h]; simp

theorem getD_left {X Y : List Int} {j : Nat} (h : j < X.length) : (X ++ Y).getD j 0 = X.getD j 0 := by
  simp [List.getD, List.getElem?_append_left h]
theorem getD_right {X Y : List Int} {k : Nat} : (X ++ Y).getD (X.length + k) 0 = Y.getD k 0 := by
  rw [List.getD_eq_getElem?_getD, List.getD_eq_getElem?_getD, List.getElem?_append_right (by omega), Nat.add_sub_cancel_left]

/-- Digits at a text. -/
theorem digits_at {l : List Int} {p u : Nat} {e : Int} {rest : List Int} (h : l.drop p = dig u ++ e :: rest) :
    (∀ j, j < nd u → l.getD (p + j) 0 = 48 + (dg u j : Nat)) ∧ l.getD (p + nd u) 0 = e ∧ l.length = p + nd u + 1 + rest.length := by
  refine ⟨fun j hj => ?_, ?_, ?_⟩
  · rw [drop_getD h, getD_left (by rw [dig_length]; exact hj), dig_getD u hj]
  · rw [drop_getD h, ← dig_length u]
    exact getD_right (X := dig u) (Y := e :: rest) (k := 0)
  · rw [drop_len h (by simp), List.length_append, dig_length, List.length_cons]; omega

theorem strT_length (s : List Int) : (strT s).length = nd s.length + 1 + s.length := by simp [strT, dig_length]; omega

theorem str_at (F : Interp) (D B n c : Nat) (l : List Int) (p : Nat) (s rest : List Int) (w : World) (hF : F.answers w.tape) (hd : Dec w D B n c l p) (h : l.drop p = strT s ++ rest) (hr : rest ≠ []) (hn : n ≤ 1000000000000) :
    Calls Tryf.prog 39 #[.pointer (some ⟨D, 0, none⟩)] w fun e w' => w.grownBy w' (some D) ∧
      e = .returned (.tuple #[.string (strOfNums s), .nilIface]) ∧ Dec w' D B n c l (p + (strT s).length) := by
  have h' : l.drop p = dig s.length ++ 58 :: (s ++ rest) := by rw [h]; simp [strT]
  obtain ⟨h1, h2, h3⟩ := digits_at h'
  have hl := hd.2.2.2.2.1
  have hr' : 0 < rest.length := List.length_pos_iff.2 hr
  rw [List.length_append] at h3
  refine (str_any F D B n c l p s.length w hF hd h1 h2 (by omega) hn).mono ?_
  rintro e w' ⟨hg, rfl, hd'⟩
  refine ⟨hg, ?_, by rw [strT_length]; have e1 : p + (nd s.length + 1 + s.length) = p + nd s.length + 1 + s.length := by omega
                     rw [e1]; exact hd'⟩
  have e2 : part l (p + nd s.length + 1) s.length = s := by
    have h4 : l.drop (p + (dig s.length ++ [58]).length) = s ++ rest := drop_more (by rw [h']; simp)
    have e3 : p + nd s.length + 1 = p + (dig s.length ++ [58]).length := by simp [dig_length]; omega
    unfold part
    rw [e3, h4]; simp
  rw [e2]

/-- What a reader leaves: a value and the place behind it; or an error (and some value). -/
def GotV (w w' : World) (D B n c : Nat) (l : List Int) (q : Nat) (ok : Prop) (v : Value) (e : Ending) : Prop :=
  w.grownBy w' (some D) ∧ ((ok ∧ e = .returned (.tuple #[v, .nilIface]) ∧ Dec w' D B n c l q) ∨ (¬ ok ∧ ∃ z g s, e = .returned (.tuple #[z, .iface 99 (.pointer (some ⟨g, 0, none⟩))]) ∧ w'.cell? ⟨g, 0, none⟩ = some (.string s)))

theorem Got.v {w w' : World} {D B n c : Nat} {l : List Int} {q q' : Nat} {ok ok' : Prop} {v z : Value} {e : Ending} (h : Got w w' D B n c l q ok v z e) (hq : q = q') (ho : ok ↔ ok') : GotV w w' D B n c l q' ok' v e := by
  subst hq
  obtain ⟨hg, ⟨h1, h2, h3⟩ | ⟨h1, g, s, h2, h3⟩⟩ := h
  · exact ⟨hg, .inl ⟨ho.1 h1, h2, h3⟩⟩
  · exact ⟨hg, .inr ⟨fun h => h1 (ho.2 h), z, g, s, h2, h3⟩⟩

theorem value_at (F : Interp) (D B n c : Nat) (l : List Int) (p : Nat) (x : Ent) (rest : List Int) (depth : Int) (w : World) (hF : F.answers w.tape) (hd : Dec w D B n c l p) (hx : x.wf) (h : l.drop p = x.text ++ rest) (hr : rest ≠ []) (hn : n ≤ 1000000000000) :
    Calls Tryf.prog 32 #[.pointer (some ⟨D, 0, none⟩), .int .i64 depth] w fun e w' => GotV w w' D B n c l (p + x.text.length) x.good x.val e := by
  have hl := hd.2.2.2.2.1
  have hr' : 0 < rest.length := List.length_pos_iff.2 hr
  cases x with
  | str s =>
    have h' : l.drop p = dig s.length ++ 58 :: (s ++ rest) := by rw [h]; simp [Ent.text, strT]
    obtain ⟨h1, h2, h3⟩ := digits_at h'
    rw [List.length_append] at h3
    refine (value_str F D B n c l p s.length depth w hF hd h1 h2 (by omega) hn).mono ?_
    intro e w' hgot
    have e2 : part l (p + nd s.length + 1) s.length = s := by
      have h4 : l.drop (p + (dig s.length ++ [58]).length) = s ++ rest := drop_more (by rw [h']; simp)
      have e3 : p + nd s.length + 1 = p + (dig s.length ++ [58]).length := by simp [dig_length]; omega
      unfold part
      rw [e3, h4]; simp
    rw [e2] at hgot
    exact hgot.v (by simp only [Ent.text]; rw [strT_length]; omega) Iff.rfl
  | int v =>
    obtain ⟨hv0, hv1⟩ := hx
    have h105 : l.getD p 0 = 105 := by have := drop_getD h 0; simpa [Ent.text, intT] using this
    have hp : p < n := by have := drop_len h (by simp [hr]); rw [List.length_append] at this; omega
    by_cases hneg : v < 0
    · obtain ⟨u, hu⟩ : ∃ u : Nat, u = (-v).toNat := ⟨_, rfl⟩
      have ht : Ent.text (.int v) = 105 :: 45 :: (dig u ++ [101]) := by simp [Ent.text, intT, hneg, hu]
      rw [ht] at h ⊢
      have h45 : l.getD (p + 1) 0 = 45 := by have := drop_getD h 1; simpa using this
      have h' : l.drop (p + 2) = dig u ++ 101 :: rest := by
        have := drop_more (l := l) (p := p) (X := [105, 45]) (Y := dig u ++ 101 :: rest) (by rw [h]; simp)
        simpa using this
      obtain ⟨h1, h2, h3⟩ := digits_at h'
      have hvu : v = -(u : Int) := by omega
      have hval : Ent.val (.int v) = .iface 2 (.int .i64 (-(u : Int))) := by
        show Value.iface 2 (.int .i64 v) = _
        rw [hvu]
      rw [hval]
      refine (value_int D B n c l p (p + 2 + nd u + 1) (u < 9223372036854775808) _ depth w hd h105 hp (fun k => integer_neg F D B n c l p u _ hF (hd.drewN k) h45 h1 h2 (by omega) hn (by omega) (by omega))).mono ?_
      intro e w' hgot
      exact hgot.v (by simp [dig_length]; omega) (by unfold Ent.good; omega)
    · obtain ⟨u, hu⟩ : ∃ u : Nat, u = v.toNat := ⟨_, rfl⟩
      have ht : Ent.text (.int v) = 105 :: (dig u ++ [101]) := by simp [Ent.text, intT, hneg, hu]
      rw [ht] at h ⊢
      have h' : l.drop (p + 1) = dig u ++ 101 :: rest := by
        have := drop_more (l := l) (p := p) (X := [105]) (Y := dig u ++ 101 :: rest) (by rw [h]; simp)
        simpa using this
      obtain ⟨h1, h2, h3⟩ := digits_at h'
      have hvu : v = (u : Int) := by omega
      have hval : Ent.val (.int v) = .iface 2 (.int .i64 (u : Int)) := by
        show Value.iface 2 (.int .i64 v) = _
        rw [hvu]
      rw [hval]
      refine (value_int D B n c l p (p + 1 + nd u + 1) True _ depth w hd h105 hp (fun k => integer_pos F D B n c l p u _ hF (hd.drewN k) h1 h2 (by omega) hn (by omega))).mono ?_
      intro e w' hgot
      exact hgot.v (by simp [dig_length]; omega) (by unfold Ent.good; constructor; · intro _; omega
                                                     · intro _; trivial)
end Go.Proofs.Qxb6615960aFmt
