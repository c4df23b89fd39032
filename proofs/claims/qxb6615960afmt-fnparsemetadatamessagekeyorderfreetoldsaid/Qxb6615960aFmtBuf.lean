/-
  The message that the law builds: the appends in one form, and the plain facts on its entries.
-/
import Derived.Test.Qxb6615960aFmtApp
import Derived.Test.Qxb6615960aFmtParse
import Derived.Test.Qxb6615960aFmtSmall
namespace Go.Proofs.Qxb6615960aFmt
open Go.RowKit Go.WideShapes

/-- The bytes l stand in the call's own row. -/
def Buf (base : Nat) (w : World) (g n cap : Nat) (l : List Int) : Prop := w.ownsRow base 5 1 (.slice (some ⟨g, 0, none⟩) n cap) n (byteVals l) ∧ l.length = n ∧ base ≤ w.heap.size

theorem wpList_append_seg (w : World) {ops : Array Oper} {rest : List Oper} {o : Oper} {a : Act} {Q : Exit → Act → World → Prop} (hgd : o.guard = none) (s x : Operand)
    (ho : o.op = .call { callee := .builtin .append, args := #[s, x], argTypes := #[22, 22] }) (base g n cap : Nat) (l : List Int) (hs : a.eval s = .slice (some ⟨g, 0, none⟩) n cap) (hown : Buf base w g n cap l)
    (ad : Option Addr) (m c : Nat) (src : List Int) (hx : a.eval x = .slice ad m c) (hseg : Seg w ad m src) (hnil : ad = none → m = 0 ∧ c = 0) (h0 : 0 < n + m) (hlim : n + m ≤ 4000000)
    (h : ∀ g' cap' n' L w', Hid (L = l ++ src) → n' ≤ n + m → 0 < n' → Buf base w' g' n' cap' L → Below base w w' → wpList Tryf.prog ops Q rest (a.put o.dst (.slice (some ⟨g', 0, none⟩) n' cap')) w') :
    wpList Tryf.prog ops Q (o :: rest) a w := by
  obtain ⟨i0, hi, hz0, hz1, hz2⟩ := info_parts info5
  obtain ⟨hown, hn, hB⟩ := hown
  cases ad with
  | none =>
    obtain ⟨rfl, rfl⟩ := hnil rfl
    have hs0 : src = [] := List.length_eq_zero_iff.1 hseg.1
    have hcap : n ≤ cap := by
      rcases hown.2 with ⟨h', _⟩ | ⟨g', c', cur, hv, _, _, hle, _⟩
      · cases h'
      · simp only [Value.slice.injEq] at hv
        obtain ⟨_, _, rfl⟩ := hv
        exact hle
    refine wpList_plain hgd fun K hK => ?_
    have hr := append_nil g n cap 0 o.type hcap w
    unfold Oper.wp execOp
    simp only [ho, resolve, invoke, builtin, Sem.run_bind, Sem.run_pure, Result.andThen_ok, List.map_toArray, List.map_cons, List.map_nil, hs, hx, hr]
    exact hK _ _ (h g cap n l w (show l = l ++ src by rw [hs0, List.append_nil]) (by omega) (by omega) ⟨hown, hn, hB⟩ (Below.refl _ _))
  | some ad =>
    have hN : ∀ j u, (byteVals src)[j]? = some u → w.cell? (ad.add j) = some u := by
      obtain ⟨h1, _, h3⟩ := hseg
      rcases h3 with h3 | ⟨b, off, hx, _, hc⟩
      · have : src = [] := List.length_eq_zero_iff.1 (by omega)
        subst this
        intro j u hj
        simp [byteVals] at hj
      · cases hx
        exact src_cells h1 hc
    refine wpList_append_own_at _ hgd _ _ 22 ho base 5 i0 (.int .u8 0) 1 1 Tryf.underlying22 hi hz0 hz1 hz2 rfl (by decide) (.slice (some ⟨g, 0, none⟩) n cap) n _ hs hown ad m c (byteVals src) hx (by rw [byteVals_length, hseg.1, Nat.mul_one]) hN (byteVals_one _) (by unfold maxLen; omega) (by omega) hB ?_
    intro v' w' hown' hgrow _ _
    obtain ⟨g', cap', rfl, hb', hlt'⟩ := hown'.form h0
    have hb : Below base w w' := (Below.refl base w).grown hgrow hB (fun i hi => (hown.lt i hi).1)
    refine h g' cap' (n + m) (l ++ src) w' rfl (Nat.le_refl _) h0 ⟨?_, by rw [List.length_append, hn, hseg.1], by have := hb.size; omega⟩ hb
    rw [byteVals_append]; exact hown'

theorem wpList_append_str (w : World) {ops : Array Oper} {rest : List Oper} {o : Oper} {a : Act} {Q : Exit → Act → World → Prop} (hgd : o.guard = none) (s x : Operand)
    (ho : o.op = .call { callee := .builtin .append, args := #[s, x], argTypes := #[22, 9] }) (base g n cap : Nat) (l : List Int) (hs : a.eval s = .slice (some ⟨g, 0, none⟩) n cap) (hown : Buf base w g n cap l)
    (str : ByteArray) (src : List Int) (hx : a.eval x = .string str) (hsrc : Lib.strCells str = byteVals src) (h0 : 0 < n + src.length) (hlim : n + src.length ≤ 4000000)
    (h : ∀ g' cap' n' L w', Hid (L = l ++ src) → n' ≤ n + src.length → 0 < n' → Buf base w' g' n' cap' L → Below base w w' → wpList Tryf.prog ops Q rest (a.put o.dst (.slice (some ⟨g', 0, none⟩) n' cap')) w') :
    wpList Tryf.prog ops Q (o :: rest) a w := by
  obtain ⟨i0, hi, hz0, hz1, hz2⟩ := info_parts info5
  obtain ⟨hown, hn, hB⟩ := hown
  have hsz : str.size = src.length := by rw [← Lib.strCells_length, hsrc, byteVals_length]
  refine Lib.wpList_append_own_string w hgd s x 22 9 ho base 5 i0 Tryf.underlying22 Tryf.underlying9 hi hz0 hz1 hz2 (.slice (some ⟨g, 0, none⟩) n cap) n _ hs hown str hx (by rw [hsz]; unfold maxLen; omega) (by rw [hsz]; omega) hB ?_
  rw [hsz, hsrc]
  intro v' w' hown' hgrow _
  obtain ⟨g', cap', rfl, hb', hlt'⟩ := hown'.form h0
  have hb : Below base w w' := (Below.refl base w).grown hgrow hB (fun i hi => (hown.lt i hi).1)
  refine h g' cap' (n + src.length) (l ++ src) w' rfl (Nat.le_refl _) h0 ⟨?_, by rw [List.length_append, hn], by have := hb.size; omega⟩ hb
  rw [byteVals_append]; exact hown'

/-- The source of an append of one byte. -/
theorem seg_one (w : World) (x : Int) (t : TypeId) (h0 : 0 ≤ x) (h1 : x ≤ 255) : Seg (w.alloc (.cells #[.int .u8 x] t)) (some ⟨w.heap.size, 0, none⟩) 1 [x] := by
  refine ⟨rfl, by simp; omega, .inr ⟨w.heap.size, 0, rfl, by simp, fun i hi => ?_⟩⟩
  have : i = 0 := by omega
  subst this
  simp

theorem Buf.alloc {base : Nat} {w : World} {g n cap : Nat} {l : List Int} (h : Buf base w g n cap l) (o : Obj) : Buf base (w.alloc o) g n cap l := ⟨h.1.alloc o, h.2.1, by simp; have := h.2.2; omega⟩

/-- What a call that appends leaves. -/
def ApdV (base : Nat) (w w' : World) (l src : List Int) (k : Nat) (e : Ending) : Prop :=
  ∃ g' cap' n' L, e = .returned (.slice (some ⟨g', 0, none⟩) n' cap') ∧ Hid (L = l ++ src) ∧ n' ≤ k ∧ 0 < n' ∧ Buf base w' g' n' cap' L ∧ Below base w w'

theorem Apd.v {base : Nat} {w w' : World} {l src : List Int} {k : Nat} {e : Ending} (h : Apd base w w' (l ++ src) e) (hk : (l ++ src).length ≤ k) (h0 : 0 < (l ++ src).length) (hB : base ≤ w.heap.size) : ApdV base w w' l src k e := by
  obtain ⟨g', cap', rfl, ho, hb⟩ := h
  exact ⟨g', cap', _, l ++ src, rfl, rfl, hk, h0, ⟨ho, rfl, by have := hb.size; omega⟩, hb⟩

theorem intT_length (v : Int) (h0 : -9223372036854775808 ≤ v) (h1 : v ≤ 9223372036854775807) : (intT v).length ≤ 23 ∧ 1 ≤ (intT v).length := by
  unfold intT
  split
  · have := nd_le_20 (-v).toNat (by omega)
    simp [dig_length]; omega
  · have := nd_le_20 v.toNat (by omega)
    simp [dig_length]; omega

theorem callInt (base g n cap : Nat) (v : Int) (l : List Int) (w : World) (hv0 : -9223372036854775808 ≤ v) (hv1 : v ≤ 9223372036854775807) (hb : Buf base w g n cap l) (hlim : n ≤ 1900000) :
    Calls Tryf.prog 13 #[.slice (some ⟨g, 0, none⟩) n cap, .int .i64 v] w fun e w' => ApdV base w w' l (intT v) (n + 23) e := by
  have := intT_length v hv0 hv1
  refine (appendInt base g n cap v l w hv0 hv1 hb.1 hb.2.1 hb.2.2 hlim).mono ?_
  intro e w' h
  exact h.v (by rw [List.length_append, hb.2.1]; omega) (by rw [List.length_append]; omega) hb.2.2

theorem callStr (base g n cap : Nat) (a : Option Addr) (m c : Nat) (l s : List Int) (w : World) (ha : a = none → m = 0 ∧ c = 0) (hs : ∀ w', Below base w w' → Seg w' a m s) (hb : Buf base w g n cap l) (hlim : n ≤ 1000) (hm : m ≤ 1048576) :
    Calls Tryf.prog 14 #[.slice (some ⟨g, 0, none⟩) n cap, .slice a m c] w fun e w' => ApdV base w w' l (strT s) (n + 21 + m) e := by
  have hsl := (hs w (Below.refl _ _)).1
  have := nd_le_20 s.length (by omega)
  refine (appendStr base g n cap a m c l s w ha hs hb.1 hb.2.1 hb.2.2 hlim hm).mono ?_
  intro e w' h
  exact h.v (by rw [List.length_append, strT_length, hb.2.1]; omega) (by rw [List.length_append, strT_length]; omega) hb.2.2

/-! The four keys' texts. -/
theorem dig_small {u : Nat} (h : u < 10) : dig u = [48 + (u : Int)] := by
  have hn := nd_small h
  have hd : dg u 0 = u := by unfold dg; rw [hn]; simp; omega
  simp [dig, hn, List.range_succ, hd]
theorem dig_ten : dig 10 = [49, 48] := by
  have hn : nd 10 = 2 := by rw [nd_big (by decide), nd_small (by decide)]
  have h0 : dg 10 0 = 1 := by unfold dg; rw [hn]
  have h1 : dg 10 1 = 0 := by unfold dg; rw [hn]
  simp [dig, hn, List.range_succ, h0, h1]
theorem strT_kT : strT kT = [56, 58, 109, 115, 103, 95, 116, 121, 112, 101] := by unfold strT; rw [show kT.length = 8 from rfl, dig_small (by decide)]; rfl
theorem strT_kP : strT kP = [53, 58, 112, 105, 101, 99, 101] := by unfold strT; rw [show kP.length = 5 from rfl, dig_small (by decide)]; rfl
theorem strT_kS : strT kS = [49, 48, 58, 116, 111, 116, 97, 108, 95, 115, 105, 122, 101] := by unfold strT; rw [show kS.length = 10 from rfl, dig_ten]; rfl
theorem strT_kV : strT kV = [49, 58, 118] := by unfold strT; rw [show kV.length = 1 from rfl, dig_small (by decide)]; rfl

theorem kl_TP : kl kT ≠ kl kP := by simp [kl, strOfNums, kT, kP]
theorem kl_TS : kl kT ≠ kl kS := by simp [kl, strOfNums, kT, kS]
theorem kl_TV : kl kT ≠ kl kV := by simp [kl, strOfNums, kT, kV]
theorem kl_PT : kl kP ≠ kl kT := by simp [kl, strOfNums, kP, kT]
theorem kl_PS : kl kP ≠ kl kS := by simp [kl, strOfNums, kP, kS]
theorem kl_PV : kl kP ≠ kl kV := by simp [kl, strOfNums, kP, kV]
theorem kl_ST : kl kS ≠ kl kT := by simp [kl, strOfNums, kS, kT]
theorem kl_SP : kl kS ≠ kl kP := by simp [kl, strOfNums, kS, kP]
theorem kl_SV : kl kS ≠ kl kV := by simp [kl, strOfNums, kS, kV]
theorem kl_VT : kl kV ≠ kl kT := by simp [kl, strOfNums, kV, kT]
theorem kl_VP : kl kV ≠ kl kP := by simp [kl, strOfNums, kV, kP]
theorem kl_VS : kl kV ≠ kl kS := by simp [kl, strOfNums, kV, kS]

theorem hasInt_here {d : DataW Unit} (hd : Maps.IsMap d) (k : List Int) (a : Int) : HasInt (d.put (kl k) (Ent.int a).datum) k a :=
  ⟨Maps.has_put_same hd (isKey k) _, fun z => Maps.atKey_put_same hd (isKey k) _ z⟩
theorem hasInt_step {d : DataW Unit} {k k' : List Int} {a : Int} (hne : kl k ≠ kl k') (h : HasInt d k a) (x : DataW Unit) : HasInt (d.put (kl k') x) k a :=
  ⟨by rw [Maps.has_put_other hne]; exact h.1, fun z => by rw [Maps.atKey_put_other hne]; exact h.2 z⟩

/-- The entries, in sorted order and reversed. -/
def szE (size : Int) (ws : Bool) : List (List Int × Ent) := if ws then [(kS, .int size)] else []
def esF (t piece size : Int) (ws : Bool) (extra : List Int) : List (List Int × Ent) := (kT, .int t) :: (kP, .int piece) :: (szE size ws ++ [(kV, .str extra)])
def esR (t piece size : Int) (ws : Bool) (extra : List Int) : List (List Int × Ent) := (kV, .str extra) :: (szE size ws ++ [(kP, .int piece), (kT, .int t)])

/-- What parsing needs of a list of entries. -/
structure Fine (es : List (List Int × Ent)) (t piece size : Int) (ws : Bool) : Prop where
  dist : es.Pairwise (fun x y => kl x.1 ≠ kl y.1)
  hT : HasInt (dOf es) kT t
  hP : HasInt (dOf es) kP piece
  hS : (ws = true ∧ HasInt (dOf es) kS size) ∨ (ws = false ∧ Maps.has (dOf es) (kl kS) = false)
  good : AllGood es ↔ t ≠ -9223372036854775808 ∧ piece ≠ -9223372036854775808 ∧ (ws = true → size ≠ -9223372036854775808)
  wf : (-9223372036854775808 ≤ t ∧ t ≤ 9223372036854775807) → (-9223372036854775808 ≤ piece ∧ piece ≤ 9223372036854775807) → (-9223372036854775808 ≤ size ∧ size ≤ 9223372036854775807) → ∀ x ∈ es, x.2.wf

theorem isMap0 : Maps.IsMap (.map [] : DataW Unit) := Maps.isMap_empty

theorem fineF (t piece size : Int) (ws : Bool) (extra : List Int) : Fine (esF t piece size ws extra) t piece size ws := by
  cases ws
  · refine ⟨?_, ?_, ?_, .inr ⟨rfl, ?_⟩, ?_, ?_⟩
    · simp [esF, szE, kl_TP, kl_TV, kl_PV]
    · exact hasInt_step kl_TV (hasInt_step kl_TP (hasInt_here isMap0 kT t) _) _
    · exact hasInt_step kl_PV (hasInt_here (isMap0.put _ _) kP piece) _
    · exact has_dOf_not (by simp [esF, szE, kl_ST, kl_SP, kl_SV])
    · simp [AllGood, esF, szE, Ent.good]
    · intro h1 h2 _ x hx
      simp [esF, szE] at hx
      rcases hx with rfl | rfl | rfl
      · exact h1
      · exact h2
      · exact trivial
  · refine ⟨?_, ?_, ?_, .inl ⟨rfl, ?_⟩, ?_, ?_⟩
    · simp [esF, szE, kl_TP, kl_TV, kl_PV, kl_TS, kl_PS, kl_SV]
    · exact hasInt_step kl_TV (hasInt_step kl_TS (hasInt_step kl_TP (hasInt_here isMap0 kT t) _) _) _
    · exact hasInt_step kl_PV (hasInt_step kl_PS (hasInt_here (isMap0.put _ _) kP piece) _) _
    · exact hasInt_step kl_SV (hasInt_here ((isMap0.put _ _).put _ _) kS size) _
    · simp [AllGood, esF, szE, Ent.good]
    · intro h1 h2 h3 x hx
      simp [esF, szE] at hx
      rcases hx with rfl | rfl | rfl | rfl
      · exact h1
      · exact h2
      · exact h3
      · exact trivial

theorem fineR (t piece size : Int) (ws : Bool) (extra : List Int) : Fine (esR t piece size ws extra) t piece size ws := by
  cases ws
  · refine ⟨?_, ?_, ?_, .inr ⟨rfl, ?_⟩, ?_, ?_⟩
    · simp [esR, szE, kl_VP, kl_VT, kl_PT]
    · exact hasInt_here ((isMap0.put _ _).put _ _) kT t
    · exact hasInt_step kl_PT (hasInt_here (isMap0.put _ _) kP piece) _
    · exact has_dOf_not (by simp [esR, szE, kl_ST, kl_SP, kl_SV])
    · simp [AllGood, esR, szE, Ent.good]; exact and_comm
    · intro h1 h2 _ x hx
      simp [esR, szE] at hx
      rcases hx with rfl | rfl | rfl
      · exact trivial
      · exact h2
      · exact h1
  · refine ⟨?_, ?_, ?_, .inl ⟨rfl, ?_⟩, ?_, ?_⟩
    · simp [esR, szE, kl_VP, kl_VT, kl_PT, kl_VS, kl_SP, kl_ST]
    · exact hasInt_here (((isMap0.put _ _).put _ _).put _ _) kT t
    · exact hasInt_step kl_PT (hasInt_here ((isMap0.put _ _).put _ _) kP piece) _
    · exact hasInt_step kl_ST (hasInt_step kl_SP (hasInt_here (isMap0.put _ _) kS size) _) _
    · simp [AllGood, esR, szE, Ent.good]
      constructor
      · rintro ⟨h1, h2, h3⟩; exact ⟨h3, h2, h1⟩
      · rintro ⟨h1, h2, h3⟩; exact ⟨h3, h2, h1⟩
    · intro h1 h2 h3 x hx
      simp [esR, szE] at hx
      rcases hx with rfl | rfl | rfl | rfl
      · exact trivial
      · exact h3
      · exact h2
      · exact h1

/-- Accepted, as the law says it. -/
def Acc (t piece size : Int) (ws : Bool) : Prop := t ≠ -9223372036854775808 ∧ 0 ≤ piece ∧ piece ≤ 2147483647 ∧ (ws = true → size ≠ -9223372036854775808) ∧ (t ≠ 1 ∨ ws = true)
theorem Fine.acc {es : List (List Int × Ent)} {t piece size : Int} {ws : Bool} (h : Fine es t piece size ws) : Accept es t piece ws ↔ Acc t piece size ws := by
  unfold Accept Acc
  rw [h.good]
  constructor
  · rintro ⟨⟨h1, h2, h3⟩, h4, h5, h6⟩; exact ⟨h1, h4, h5, h3, h6⟩
  · rintro ⟨h1, h4, h5, h3, h6⟩; exact ⟨⟨h1, by omega, h3⟩, h4, h5, h6⟩

/-- The message. -/
def msg (es : List (List Int × Ent)) (data : List Int) : List Int := 100 :: (es.flatMap entT ++ 101 :: data)
theorem msgF_no (t piece size : Int) (extra data : List Int) : [100] ++ strT kT ++ intT t ++ strT kP ++ intT piece ++ strT kV ++ strT extra ++ [101] ++ data = msg (esF t piece size false extra) data := by
  simp [msg, esF, szE, entT, Ent.text]
theorem msgF_size (t piece size : Int) (extra data : List Int) : [100] ++ strT kT ++ intT t ++ strT kP ++ intT piece ++ strT kS ++ intT size ++ strT kV ++ strT extra ++ [101] ++ data = msg (esF t piece size true extra) data := by
  simp [msg, esF, szE, entT, Ent.text]
theorem msgR_no (t piece size : Int) (extra data : List Int) : [100] ++ strT kV ++ strT extra ++ strT kP ++ intT piece ++ strT kT ++ intT t ++ [101] ++ data = msg (esR t piece size false extra) data := by
  simp [msg, esR, szE, entT, Ent.text]
theorem msgR_size (t piece size : Int) (extra data : List Int) : [100] ++ strT kV ++ strT extra ++ strT kS ++ intT size ++ strT kP ++ intT piece ++ strT kT ++ intT t ++ [101] ++ data = msg (esR t piece size true extra) data := by
  simp [msg, esR, szE, entT, Ent.text]
end Go.Proofs.Qxb6615960aFmt
