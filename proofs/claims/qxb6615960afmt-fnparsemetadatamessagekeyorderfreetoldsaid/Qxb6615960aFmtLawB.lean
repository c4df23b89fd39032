/-
  The walk of FnParseMetadataMessageKeyOrderFree (4). Typed by a small script of mine: one block of rows an append.
-/
import Derived.Test.Qxb6615960aFmtLawA
namespace Go.Proofs.Qxb6615960aFmt
open Go.RowKit Go.WideShapes Go.Extern.Stop Go.Stop Go.Extern

set_option maxRecDepth 100000 in
set_option maxHeartbeats 8000000 in
theorem law_size (F : Interp) (t piece size : Int) (a1 a2 : Option Addr) (m1 c1 m2 c2 : Nat) (extra data : List Int) (w : World) (hF : F.answers w.tape) (ht : Rng t) (hp : Rng piece) (hs : Rng size)
    (h1 : Seg w a1 m1 extra) (h2 : Seg w a2 m2 data) (hn1 : a1 = none → m1 = 0 ∧ c1 = 0) (hn2 : a2 = none → m2 = 0 ∧ c2 = 0) (hm1 : m1 ≤ 9223372036854775807) (hm2 : m2 ≤ 9223372036854775807) :
    Calls Tryf.prog 4 #[.int .i64 t, .int .i64 piece, .int .i64 size, .bool true, .slice a1 m1 c1, .slice a2 m2 c2] w fun e w' => LawPost w w' e := by
  obtain ⟨i0, hi, hz0, hz1, hz2⟩ := info_parts info5
  have H1 : Hid (Seg w a1 m1 extra) := h1
  have H2 : Hid (Seg w a2 m2 data) := h2
  have N1 : Hid (a1 = none → m1 = 0 ∧ c1 = 0) := hn1
  have N2 : Hid (a2 = none → m2 = 0 ∧ c2 = 0) := hn2
  have RT : Hid (Rng t) := ht
  have RP : Hid (Rng piece) := hp
  have RS : Hid (Rng size) := hs
  clear h1 h2 hn1 hn2 ht hp hs
  go_enter Tryf.func4, Tryf.ntmps4
  go_wp2_with fail
  refine (bytes_any t piece size true a1 a2 m1 m2 c1 c2 w hm1 hm2).mono ?_
  rintro e w' ⟨rfl, b, rfl⟩
  cases b
  · go_wp2
    go_ret
    exact ⟨rfl, Below.refl _ _⟩
  by_cases hx1 : 524288 < (m1 : Int)
  · have hd1 : decide (524288 < (m1 : Int)) = true := by simp; omega
    go_wp2
    go_ret
    exact ⟨rfl, Below.refl _ _⟩
  have hd1 : decide (524288 < (m1 : Int)) = false := by simp; omega
  have hl1 : m1 ≤ 524288 := by omega
  by_cases hx2 : 524288 < (m2 : Int)
  · have hd2 : decide (524288 < (m2 : Int)) = true := by simp; omega
    clear hx1
    go_wp2
    go_ret
    exact ⟨rfl, Below.refl _ _⟩
  have hd2 : decide (524288 < (m2 : Int)) = false := by simp; omega
  have hl2 : m2 ≤ 524288 := by omega
  have HL3 : Hid (m2 ≤ 1048600) := by show m2 ≤ 1048600; omega
  clear hx1 hx2 hm1 hm2
  have S1 : Hid (∀ w', Below w.heap.size w w' → Seg w' a1 m1 extra) := fun w' hb => H1.out.below hb
  have S2 : Hid (∀ w', Below w.heap.size w w' → Seg w' a2 m2 data) := fun w' hb => H2.out.below hb
  go_wp2_with (at_make; refine wpList_make_own _ rfl _ _ 22 rfl w.heap.size 5 i0 (.int .u8 0) 1 Tryf.underlying22 hi hz0 hz1 _ _ _ (96 + m1 + m2) rfl rfl ?mf1 ?mf2 ?mf3 ?mf4 ?_)
  case mf1 => first | rfl | (push_cast; omega) | omega
  case mf2 => rw [hz2]; omega
  case mf3 => unfold maxLen; omega
  case mf4 => first | exact Nat.le_refl _ | omega
  intro W1 own1 grow1
  have B1 : Hid (Buf w.heap.size W1 w.heap.size 0 (96 + m1 + m2) []) := ⟨own1, rfl, grow1.size⟩
  have D1 : Hid (Below w.heap.size w W1) := (Below.refl _ _).grown grow1 (Nat.le_refl _) (fun j hj => by cases hj)
  clear own1 grow1
  go_wp2_with (at_builtin; refine wpList_append_seg _ rfl _ _ rfl w.heap.size w.heap.size 0 (96 + m1 + m2) [] rfl (B1.out.alloc _) (some ⟨W1.heap.size, 0, none⟩) 1 1 [100] rfl (seg_one _ _ _ (by decide) (by decide)) (fun h => by cases h) ?s21 ?s22 ?_)
  case s21 => omega
  case s22 => omega
  intro g2 kc2 n2 L2 W2 E2 le2 pos2 b2 d2
  have B2 : Hid (Buf w.heap.size W2 g2 n2 kc2 L2) := b2
  have D2 : Hid (Below w.heap.size w W2) := (D1.out.alloc B1.out.2.2 _).trans d2
  clear b2 d2
  go_wp2_with (at_builtin; refine wpList_append_str _ rfl _ _ rfl w.heap.size g2 n2 kc2 L2 rfl B2.out _ (strT kT) rfl (by rw [strT_kT]; rfl) ?s31 ?s32 ?_)
  case s31 => omega
  case s32 => rw [strT_kT]; simp; omega
  intro g3 kc3 n3 L3 W3 E3 le3' pos3 b3 d3
  have le3 : n3 ≤ n2 + 10 := by rw [strT_kT] at le3'; exact le3'
  have B3 : Hid (Buf w.heap.size W3 g3 n3 kc3 L3) := b3
  have D3 : Hid (Below w.heap.size w W3) := D2.out.trans d3
  clear b3 d3 le3'
  clear B2 D2
  go_wp2_with fail
  refine (callInt w.heap.size g3 n3 kc3 t L3 W3 RT.out.1 RT.out.2 B3.out (by omega)).mono ?_
  rintro e W4 ⟨g4, kc4, n4, L4, rfl, E4, le4, pos4, b4, d4⟩
  have B4 : Hid (Buf w.heap.size W4 g4 n4 kc4 L4) := b4
  have D4 : Hid (Below w.heap.size w W4) := D3.out.trans d4
  clear b4 d4
  clear B3 D3
  go_wp2_with (at_builtin; refine wpList_append_str _ rfl _ _ rfl w.heap.size g4 n4 kc4 L4 rfl B4.out _ (strT kP) rfl (by rw [strT_kP]; rfl) ?s51 ?s52 ?_)
  case s51 => omega
  case s52 => rw [strT_kP]; simp; omega
  intro g5 kc5 n5 L5 W5 E5 le5' pos5 b5 d5
  have le5 : n5 ≤ n4 + 7 := by rw [strT_kP] at le5'; exact le5'
  have B5 : Hid (Buf w.heap.size W5 g5 n5 kc5 L5) := b5
  have D5 : Hid (Below w.heap.size w W5) := D4.out.trans d5
  clear b5 d5 le5'
  clear B4 D4
  go_wp2_with fail
  refine (callInt w.heap.size g5 n5 kc5 piece L5 W5 RP.out.1 RP.out.2 B5.out (by omega)).mono ?_
  rintro e W6 ⟨g6, kc6, n6, L6, rfl, E6, le6, pos6, b6, d6⟩
  have B6 : Hid (Buf w.heap.size W6 g6 n6 kc6 L6) := b6
  have D6 : Hid (Below w.heap.size w W6) := D5.out.trans d6
  clear b6 d6
  clear B5 D5
  go_wp2_with (at_builtin; refine wpList_append_str _ rfl _ _ rfl w.heap.size g6 n6 kc6 L6 rfl B6.out _ (strT kS) rfl (by rw [strT_kS]; rfl) ?s71 ?s72 ?_)
  case s71 => omega
  case s72 => rw [strT_kS]; simp; omega
  intro g7 kc7 n7 L7 W7 E7 le7' pos7 b7 d7
  have le7 : n7 ≤ n6 + 13 := by rw [strT_kS] at le7'; exact le7'
  have B7 : Hid (Buf w.heap.size W7 g7 n7 kc7 L7) := b7
  have D7 : Hid (Below w.heap.size w W7) := D6.out.trans d7
  clear b7 d7 le7'
  clear B6 D6
  go_wp2_with fail
  refine (callInt w.heap.size g7 n7 kc7 size L7 W7 RS.out.1 RS.out.2 B7.out (by omega)).mono ?_
  rintro e W8 ⟨g8, kc8, n8, L8, rfl, E8, le8, pos8, b8, d8⟩
  have B8 : Hid (Buf w.heap.size W8 g8 n8 kc8 L8) := b8
  have D8 : Hid (Below w.heap.size w W8) := D7.out.trans d8
  clear b8 d8
  clear B7 D7
  go_wp2_with (at_builtin; refine wpList_append_str _ rfl _ _ rfl w.heap.size g8 n8 kc8 L8 rfl B8.out _ (strT kV) rfl (by rw [strT_kV]; rfl) ?s91 ?s92 ?_)
  case s91 => omega
  case s92 => rw [strT_kV]; simp; omega
  intro g9 kc9 n9 L9 W9 E9 le9' pos9 b9 d9
  have le9 : n9 ≤ n8 + 3 := by rw [strT_kV] at le9'; exact le9'
  have B9 : Hid (Buf w.heap.size W9 g9 n9 kc9 L9) := b9
  have D9 : Hid (Below w.heap.size w W9) := D8.out.trans d9
  clear b9 d9 le9'
  clear B8 D8
  go_wp2_with fail
  refine (callStr w.heap.size g9 n9 kc9 a1 m1 c1 L9 extra W9 N1.out (fun w' hb => S1.out w' (D9.out.trans hb)) B9.out (by omega) (by omega)).mono ?_
  rintro e W10 ⟨g10, kc10, n10, L10, rfl, E10, le10, pos10, b10, d10⟩
  have B10 : Hid (Buf w.heap.size W10 g10 n10 kc10 L10) := b10
  have D10 : Hid (Below w.heap.size w W10) := D9.out.trans d10
  clear b10 d10
  clear B9 D9
  go_wp2_with (at_builtin; refine wpList_append_seg _ rfl _ _ rfl w.heap.size g10 n10 kc10 L10 rfl (B10.out.alloc _) (some ⟨W10.heap.size, 0, none⟩) 1 1 [101] rfl (seg_one _ _ _ (by decide) (by decide)) (fun h => by cases h) ?s111 ?s112 ?_)
  case s111 => omega
  case s112 => omega
  intro g11 kc11 n11 L11 W11 E11 le11 pos11 b11 d11
  have B11 : Hid (Buf w.heap.size W11 g11 n11 kc11 L11) := b11
  have D11 : Hid (Below w.heap.size w W11) := (D10.out.alloc B10.out.2.2 _).trans d11
  clear b11 d11
  clear B10 D10
  have SG12 : Hid (Seg W11 a2 m2 data) := S2.out W11 D11.out
  go_wp2_with (at_builtin; refine wpList_append_seg _ rfl _ _ rfl w.heap.size g11 n11 kc11 L11 rfl B11.out a2 m2 c2 data rfl SG12.out N2.out ?s121 ?s122 ?_)
  case s121 => omega
  case s122 => omega
  intro g12 kc12 n12 L12 W12 E12 le12 pos12 b12 d12
  have B12 : Hid (Buf w.heap.size W12 g12 n12 kc12 L12) := b12
  have D12 : Hid (Below w.heap.size w W12) := D11.out.trans d12
  clear b12 d12
  clear B11 D11
  have AF : Hid (At W12 g12 n12 kc12 (msg (esF t piece size true extra) data)) := by
    show At _ _ _ _ _
    have e : L12 = msg (esF t piece size true extra) data := by rw [E12.out, E11.out, E10.out, E9.out, E8.out, E7.out, E6.out, E5.out, E4.out, E3.out, E2.out, ← msgF_size]
    have hb := B12.out.at (by rw [e]; exact msg_bytes (esF_bytes H1.out.2.1) H2.out.2.1)
    rw [e] at hb; exact hb
  have hbase : w.heap.size ≤ W12.heap.size := B12.out.2.2
  have S3 : Hid (∀ w', Below W12.heap.size W12 w' → Seg w' a1 m1 extra) := fun w' hb => S1.out w' (D12.out.trans (hb.mono hbase))
  have S4 : Hid (∀ w', Below W12.heap.size W12 w' → Seg w' a2 m2 data) := fun w' hb => S2.out w' (D12.out.trans (hb.mono hbase))
  have DF : Hid (Below w.heap.size w W12) := D12.out
  go_wp2_with (at_make; refine wpList_make_own _ rfl _ _ 22 rfl W12.heap.size 5 i0 (.int .u8 0) 1 Tryf.underlying22 hi hz0 hz1 _ _ _ (96 + m1 + m2) rfl rfl ?mr1 ?mr2 ?mr3 ?mr4 ?_)
  case mr1 => first | rfl | (push_cast; omega) | omega
  case mr2 => rw [hz2]; omega
  case mr3 => unfold maxLen; omega
  case mr4 => first | exact Nat.le_refl _ | omega
  intro W13 own13 grow13
  have B13 : Hid (Buf W12.heap.size W13 W12.heap.size 0 (96 + m1 + m2) []) := ⟨own13, rfl, grow13.size⟩
  have D13 : Hid (Below W12.heap.size W12 W13) := (Below.refl _ _).grown grow13 (Nat.le_refl _) (fun j hj => by cases hj)
  clear own13 grow13
  go_wp2_with (at_builtin; refine wpList_append_seg _ rfl _ _ rfl W12.heap.size W12.heap.size 0 (96 + m1 + m2) [] rfl (B13.out.alloc _) (some ⟨W13.heap.size, 0, none⟩) 1 1 [100] rfl (seg_one _ _ _ (by decide) (by decide)) (fun h => by cases h) ?s141 ?s142 ?_)
  case s141 => omega
  case s142 => omega
  intro g14 kc14 n14 L14 W14 E14 le14 pos14 b14 d14
  have B14 : Hid (Buf W12.heap.size W14 g14 n14 kc14 L14) := b14
  have D14 : Hid (Below W12.heap.size W12 W14) := (D13.out.alloc B13.out.2.2 _).trans d14
  clear b14 d14
  go_wp2_with (at_builtin; refine wpList_append_str _ rfl _ _ rfl W12.heap.size g14 n14 kc14 L14 rfl B14.out _ (strT kV) rfl (by rw [strT_kV]; rfl) ?s151 ?s152 ?_)
  case s151 => omega
  case s152 => rw [strT_kV]; simp; omega
  intro g15 kc15 n15 L15 W15 E15 le15' pos15 b15 d15
  have le15 : n15 ≤ n14 + 3 := by rw [strT_kV] at le15'; exact le15'
  have B15 : Hid (Buf W12.heap.size W15 g15 n15 kc15 L15) := b15
  have D15 : Hid (Below W12.heap.size W12 W15) := D14.out.trans d15
  clear b15 d15 le15'
  clear B14 D14
  go_wp2_with fail
  refine (callStr W12.heap.size g15 n15 kc15 a1 m1 c1 L15 extra W15 N1.out (fun w' hb => S3.out w' (D15.out.trans hb)) B15.out (by omega) (by omega)).mono ?_
  rintro e W16 ⟨g16, kc16, n16, L16, rfl, E16, le16, pos16, b16, d16⟩
  have B16 : Hid (Buf W12.heap.size W16 g16 n16 kc16 L16) := b16
  have D16 : Hid (Below W12.heap.size W12 W16) := D15.out.trans d16
  clear b16 d16
  clear B15 D15
  go_wp2_with (at_builtin; refine wpList_append_str _ rfl _ _ rfl W12.heap.size g16 n16 kc16 L16 rfl B16.out _ (strT kS) rfl (by rw [strT_kS]; rfl) ?s171 ?s172 ?_)
  case s171 => omega
  case s172 => rw [strT_kS]; simp; omega
  intro g17 kc17 n17 L17 W17 E17 le17' pos17 b17 d17
  have le17 : n17 ≤ n16 + 13 := by rw [strT_kS] at le17'; exact le17'
  have B17 : Hid (Buf W12.heap.size W17 g17 n17 kc17 L17) := b17
  have D17 : Hid (Below W12.heap.size W12 W17) := D16.out.trans d17
  clear b17 d17 le17'
  clear B16 D16
  go_wp2_with fail
  refine (callInt W12.heap.size g17 n17 kc17 size L17 W17 RS.out.1 RS.out.2 B17.out (by omega)).mono ?_
  rintro e W18 ⟨g18, kc18, n18, L18, rfl, E18, le18, pos18, b18, d18⟩
  have B18 : Hid (Buf W12.heap.size W18 g18 n18 kc18 L18) := b18
  have D18 : Hid (Below W12.heap.size W12 W18) := D17.out.trans d18
  clear b18 d18
  clear B17 D17
  go_wp2_with (at_builtin; refine wpList_append_str _ rfl _ _ rfl W12.heap.size g18 n18 kc18 L18 rfl B18.out _ (strT kP) rfl (by rw [strT_kP]; rfl) ?s191 ?s192 ?_)
  case s191 => omega
  case s192 => rw [strT_kP]; simp; omega
  intro g19 kc19 n19 L19 W19 E19 le19' pos19 b19 d19
  have le19 : n19 ≤ n18 + 7 := by rw [strT_kP] at le19'; exact le19'
  have B19 : Hid (Buf W12.heap.size W19 g19 n19 kc19 L19) := b19
  have D19 : Hid (Below W12.heap.size W12 W19) := D18.out.trans d19
  clear b19 d19 le19'
  clear B18 D18
  go_wp2_with fail
  refine (callInt W12.heap.size g19 n19 kc19 piece L19 W19 RP.out.1 RP.out.2 B19.out (by omega)).mono ?_
  rintro e W20 ⟨g20, kc20, n20, L20, rfl, E20, le20, pos20, b20, d20⟩
  have B20 : Hid (Buf W12.heap.size W20 g20 n20 kc20 L20) := b20
  have D20 : Hid (Below W12.heap.size W12 W20) := D19.out.trans d20
  clear b20 d20
  clear B19 D19
  go_wp2_with (at_builtin; refine wpList_append_str _ rfl _ _ rfl W12.heap.size g20 n20 kc20 L20 rfl B20.out _ (strT kT) rfl (by rw [strT_kT]; rfl) ?s211 ?s212 ?_)
  case s211 => omega
  case s212 => rw [strT_kT]; simp; omega
  intro g21 kc21 n21 L21 W21 E21 le21' pos21 b21 d21
  have le21 : n21 ≤ n20 + 10 := by rw [strT_kT] at le21'; exact le21'
  have B21 : Hid (Buf W12.heap.size W21 g21 n21 kc21 L21) := b21
  have D21 : Hid (Below W12.heap.size W12 W21) := D20.out.trans d21
  clear b21 d21 le21'
  clear B20 D20
  go_wp2_with fail
  refine (callInt W12.heap.size g21 n21 kc21 t L21 W21 RT.out.1 RT.out.2 B21.out (by omega)).mono ?_
  rintro e W22 ⟨g22, kc22, n22, L22, rfl, E22, le22, pos22, b22, d22⟩
  have B22 : Hid (Buf W12.heap.size W22 g22 n22 kc22 L22) := b22
  have D22 : Hid (Below W12.heap.size W12 W22) := D21.out.trans d22
  clear b22 d22
  clear B21 D21
  go_wp2_with (at_builtin; refine wpList_append_seg _ rfl _ _ rfl W12.heap.size g22 n22 kc22 L22 rfl (B22.out.alloc _) (some ⟨W22.heap.size, 0, none⟩) 1 1 [101] rfl (seg_one _ _ _ (by decide) (by decide)) (fun h => by cases h) ?s231 ?s232 ?_)
  case s231 => omega
  case s232 => omega
  intro g23 kc23 n23 L23 W23 E23 le23 pos23 b23 d23
  have B23 : Hid (Buf W12.heap.size W23 g23 n23 kc23 L23) := b23
  have D23 : Hid (Below W12.heap.size W12 W23) := (D22.out.alloc B22.out.2.2 _).trans d23
  clear b23 d23
  clear B22 D22
  have SG24 : Hid (Seg W23 a2 m2 data) := S4.out W23 D23.out
  go_wp2_with (at_builtin; refine wpList_append_seg _ rfl _ _ rfl W12.heap.size g23 n23 kc23 L23 rfl B23.out a2 m2 c2 data rfl SG24.out N2.out ?s241 ?s242 ?_)
  case s241 => omega
  case s242 => omega
  intro g24 kc24 n24 L24 W24 E24 le24 pos24 b24 d24
  have B24 : Hid (Buf W12.heap.size W24 g24 n24 kc24 L24) := b24
  have D24 : Hid (Below W12.heap.size W12 W24) := D23.out.trans d24
  clear b24 d24
  clear B23 D23
  have AR : Hid (At W24 g24 n24 kc24 (msg (esR t piece size true extra) data)) := by
    show At _ _ _ _ _
    have e : L24 = msg (esR t piece size true extra) data := by rw [E24.out, E23.out, E22.out, E21.out, E20.out, E19.out, E18.out, E17.out, E16.out, E15.out, E14.out, ← msgR_size]
    have hb := B24.out.at (by rw [e]; exact msg_bytes (esR_bytes H1.out.2.1) H2.out.2.1)
    rw [e] at hb; exact hb
  have AF2 : Hid (At W24 g12 n12 kc12 (msg (esF t piece size true extra) data)) := AF.out.below D24.out AF.out.lt
  have DR : Hid (Below w.heap.size w W24) := DF.out.trans (D24.out.mono hbase)
  have hFR : Hid (F.answers W24.tape) := by show F.answers _; rw [DR.out.tape]; exact hF
  go_wp2_with fail
  refine (callParse F _ t piece size true data g12 n12 kc12 W24 hFR.out AF2.out (fineF t piece size true extra) RT.out RP.out RS.out (by omega)).mono ?_
  have DD : Hid (∀ w', W24.grownBy w' none → Below w.heap.size w w') := fun w' hg => DR.out.grown hg (by have := DR.out.size; omega) (fun k hk => by cases hk)
  have S5 : Hid (∀ w', W24.grownBy w' none → Seg w' a2 m2 data) := fun w' hg => S2.out w' (DD.out w' hg)
  have ML : Hid (data.length = m2) := H2.out.1
  generalize W24 = V0 at *
  rintro e V1 ⟨hgv1, hv1⟩
  have HG1 : Hid (V0.grownBy V1 none) := hgv1
  clear hgv1
  rcases hv1 with ⟨hacc, sz1, x1, k1, q1, rfl, hc1⟩ | ⟨hacc, ty1, x1, rfl⟩
  · have HAC : Hid (Acc t piece size true) := hacc
    have HC1 : Hid ((t ≠ 1 ∧ sz1 = 0 ∧ x1 = none ∧ k1 = 0 ∧ q1 = 0) ∨ (t = 1 ∧ sz1 = size ∧ k1 = data.length ∧ ∀ w2, V0.grownBy w2 none → Seg w2 x1 k1 data)) := hc1
    clear hacc hc1
    go_wp2_with fail
    have HG2 : Hid (V0.grownBy (V1.alloc (.cells #[.int .i64 t, .int .i64 piece, .int .i64 sz1, .slice x1 k1 q1] 26)) none) := grown_alloc HG1.out _
    have HB2 : Hid ((V1.alloc (.cells #[.int .i64 t, .int .i64 piece, .int .i64 sz1, .slice x1 k1 q1] 26)).heap[V1.heap.size]? = some (.cells #[.int .i64 t, .int .i64 piece, .int .i64 sz1, .slice x1 k1 q1] 26)) := (MapKept.heap_alloc V1 _).1
    generalize V1.alloc (.cells #[.int .i64 t, .int .i64 piece, .int .i64 sz1, .slice x1 k1 q1] 26) = V2 at HG2 HB2 ⊢
    refine (callParse F _ t piece size true data g24 n24 kc24 V2 (answers_grown hFR.out HG2.out) (AR.out.grown HG2.out) (fineR t piece size true extra) RT.out RP.out RS.out (by omega)).mono ?_
    rintro e V3 ⟨hgv3, hv3⟩
    rcases hv3 with ⟨_, sz2, x2, k2, q2, rfl, hc2⟩ | ⟨hno, _⟩
    · have HC2 : Hid ((t ≠ 1 ∧ sz2 = 0 ∧ x2 = none ∧ k2 = 0 ∧ q2 = 0) ∨ (t = 1 ∧ sz2 = size ∧ k2 = data.length ∧ ∀ w2, V2.grownBy w2 none → Seg w2 x2 k2 data)) := hc2
      have HG3 : Hid (V2.grownBy V3 none) := hgv3
      clear hc2 hgv3
      have hb3 := (HG3.out.block _ (lt_of_some HB2.out) (by simp)).trans HB2.out
      obtain ⟨hr0, _⟩ := cell_of_block hb3 0 _ rfl
      obtain ⟨hr1, _⟩ := cell_of_block hb3 1 _ rfl
      obtain ⟨hr2, _⟩ := cell_of_block hb3 2 _ rfl
      obtain ⟨hr3, _⟩ := cell_of_block hb3 3 _ rfl
      have hlt3 := lt_of_some hb3
      have HB3 : Hid (V3.heap[V1.heap.size]? = some (.cells #[.int .i64 t, .int .i64 piece, .int .i64 sz1, .slice x1 k1 q1] 26)) := hb3
      clear hb3
      have hq1 : (t != -9223372036854775808) = true := by simp [HAC.out.1]
      have hq2 : decide (0 ≤ piece) = true := by simp [HAC.out.2.1]
      have hq3 : decide (piece ≤ 2147483647) = true := by simp [HAC.out.2.2.1]
      have hq4 : (size == -9223372036854775808) = false := by simp [HAC.out.2.2.2.1 rfl]
      by_cases ht1 : t = 1
      · have hq5 : (t != 1) = false := by simp [ht1]
        rcases HC1.out with h | ⟨_, hz1, rfl, hs1⟩
        · exact absurd ht1 h.1
        obtain rfl := hz1.symm
        rcases HC2.out with h | ⟨_, hz2, rfl, hs2⟩
        · exact absurd ht1 h.1
        obtain rfl := hz2.symm
        have HS1 : Hid (∀ w2, V0.grownBy w2 none → Seg w2 x1 data.length data) := hs1
        have HS2 : Hid (∀ w2, V2.grownBy w2 none → Seg w2 x2 data.length data) := hs2
        subst ht1
        clear hs1 hs2 HC1 HC2 hq1 hq5
        have hml := ML.out
        subst hml
        go_wp2_with fail
        have HG4 : Hid (V3.grownBy (V3.alloc (.cells #[.int .i64 1, .int .i64 piece, .int .i64 size, .slice x2 data.length q2] 26)) none) := World.grownBy_alloc _ _ _
        have HB4 : Hid ((V3.alloc (.cells #[.int .i64 1, .int .i64 piece, .int .i64 size, .slice x2 data.length q2] 26)).heap[V3.heap.size]? = some (.cells #[.int .i64 1, .int .i64 piece, .int .i64 size, .slice x2 data.length q2] 26)) := (MapKept.heap_alloc V3 _).1
        generalize V3.alloc (.cells #[.int .i64 1, .int .i64 piece, .int .i64 size, .slice x2 data.length q2] 26) = V4 at HG4 HB4 ⊢
        have HV4 : Hid (V0.grownBy V4 none) := (HG2.out.trans HG3.out).trans HG4.out
        clear hr0 hr1 hr2 hr3
        have X1 := msg_data piece size x1 a2 data.length q1 c2 data V4 HL3.out (fun w' hg => HS1.out w' (HV4.out.trans hg)) (fun w' hg => S5.out w' (HV4.out.trans hg))
        refine X1.mono ?_
        clear X1
        rintro e V5 ⟨rfl, hg5⟩
        have hb5 := (hg5.block _ (lt_of_some HB4.out) (by simp)).trans HB4.out
        have HV5 : Hid (V0.grownBy V5 none) := HV4.out.trans hg5
        obtain ⟨hr0, _⟩ := cell_of_block hb5 0 _ rfl
        obtain ⟨hr1, _⟩ := cell_of_block hb5 1 _ rfl
        obtain ⟨hr2, _⟩ := cell_of_block hb5 2 _ rfl
        obtain ⟨hr3, _⟩ := cell_of_block hb5 3 _ rfl
        clear hb5
        go_wp2_with fail
        have X2 := msg_data piece size x2 a2 data.length q2 c2 data V5 HL3.out (fun w' hg => HS2.out w' (((HG3.out.trans HG4.out).trans hg5).trans hg)) (fun w' hg => S5.out w' (HV5.out.trans hg))
        refine X2.mono ?_
        clear X2
        rintro e V6 ⟨rfl, hg6⟩
        have HE : Hid (Below w.heap.size w V6) := DD.out V6 (HV5.out.trans hg6)
        clear hg6 hg5 hr0 hr1 hr2 hr3
        go_wp2
        go_ret
        exact ⟨rfl, HE.out⟩
      · have hq5 : (t != 1) = true := by simp [ht1]
        rcases HC1.out with ⟨_, rfl, rfl, rfl, rfl⟩ | h
        rotate_left
        · exact absurd h.1 ht1
        rcases HC2.out with ⟨_, rfl, rfl, rfl, rfl⟩ | h
        rotate_left
        · exact absurd h.1 ht1
        clear HC1 HC2
        have HT1 : Hid (t ≠ 1) := ht1
        clear ht1
        go_wp2_with fail
        have HG4 : Hid (V3.grownBy (V3.alloc (.cells #[.int .i64 t, .int .i64 piece, .int .i64 0, .slice none 0 0] 26)) none) := World.grownBy_alloc _ _ _
        have HB4 : Hid ((V3.alloc (.cells #[.int .i64 t, .int .i64 piece, .int .i64 0, .slice none 0 0] 26)).heap[V3.heap.size]? = some (.cells #[.int .i64 t, .int .i64 piece, .int .i64 0, .slice none 0 0] 26)) := (MapKept.heap_alloc V3 _).1
        generalize V3.alloc (.cells #[.int .i64 t, .int .i64 piece, .int .i64 0, .slice none 0 0] 26) = V4 at HG4 HB4 ⊢
        have HV4 : Hid (V0.grownBy V4 none) := (HG2.out.trans HG3.out).trans HG4.out
        clear hr0 hr1 hr2 hr3
        refine (msg_other t piece size _ HT1.out V4).mono ?_
        rintro e V5 ⟨rfl, hg5⟩
        have hb5 := (hg5.block _ (lt_of_some HB4.out) (by simp)).trans HB4.out
        have HV5 : Hid (V0.grownBy V5 none) := HV4.out.trans hg5
        obtain ⟨hr0, _⟩ := cell_of_block hb5 0 _ rfl
        obtain ⟨hr1, _⟩ := cell_of_block hb5 1 _ rfl
        obtain ⟨hr2, _⟩ := cell_of_block hb5 2 _ rfl
        obtain ⟨hr3, _⟩ := cell_of_block hb5 3 _ rfl
        clear hb5
        go_wp2_with fail
        refine (msg_other t piece size _ HT1.out V5).mono ?_
        rintro e V6 ⟨rfl, hg6⟩
        have HE : Hid (Below w.heap.size w V6) := DD.out V6 (HV5.out.trans hg6)
        clear hg6 hg5 hr0 hr1 hr2 hr3
        go_wp2
        go_ret
        exact ⟨rfl, HE.out⟩
    · exact absurd HAC.out hno
  · have HNA : Hid (¬ Acc t piece size true) := hacc
    clear hacc
    go_wp2_with fail
    have HG2 : Hid (V0.grownBy (V1.alloc (.cells #[.int .i64 0, .int .i64 0, .int .i64 0, .slice none 0 0] 26)) none) := grown_alloc HG1.out _
    have HB2 : Hid ((V1.alloc (.cells #[.int .i64 0, .int .i64 0, .int .i64 0, .slice none 0 0] 26)).heap[V1.heap.size]? = some (.cells #[.int .i64 0, .int .i64 0, .int .i64 0, .slice none 0 0] 26)) := (MapKept.heap_alloc V1 _).1
    generalize V1.alloc (.cells #[.int .i64 0, .int .i64 0, .int .i64 0, .slice none 0 0] 26) = V2 at HG2 HB2 ⊢
    refine (callParse F _ t piece size true data g24 n24 kc24 V2 (answers_grown hFR.out HG2.out) (AR.out.grown HG2.out) (fineR t piece size true extra) RT.out RP.out RS.out (by omega)).mono ?_
    rintro e V3 ⟨hgv3, hv3⟩
    rcases hv3 with ⟨hacc, _⟩ | ⟨_, ty2, x2, rfl⟩
    · exact absurd hacc HNA.out
    have HG3 : Hid (V2.grownBy V3 none) := hgv3
    clear hgv3
    have hb3 := (HG3.out.block _ (lt_of_some HB2.out) (by simp)).trans HB2.out
    obtain ⟨hr0, _⟩ := cell_of_block hb3 0 _ rfl
    obtain ⟨hr1, _⟩ := cell_of_block hb3 1 _ rfl
    obtain ⟨hr2, _⟩ := cell_of_block hb3 2 _ rfl
    obtain ⟨hr3, _⟩ := cell_of_block hb3 3 _ rfl
    have hlt3 := lt_of_some hb3
    clear hb3
    by_cases f1 : t = -9223372036854775808
    · have hq1 : (t != -9223372036854775808) = false := by simp [f1]
      clear f1
      go_wp2_with fail
      have HG4 : Hid (V3.grownBy (V3.alloc (.cells #[.int .i64 0, .int .i64 0, .int .i64 0, .slice none 0 0] 26)) none) := World.grownBy_alloc _ _ _
      have HB4 : Hid ((V3.alloc (.cells #[.int .i64 0, .int .i64 0, .int .i64 0, .slice none 0 0] 26)).heap[V3.heap.size]? = some (.cells #[.int .i64 0, .int .i64 0, .int .i64 0, .slice none 0 0] 26)) := (MapKept.heap_alloc V3 _).1
      generalize V3.alloc (.cells #[.int .i64 0, .int .i64 0, .int .i64 0, .slice none 0 0] 26) = V4 at HG4 HB4 ⊢
      have HV4 : Hid (V0.grownBy V4 none) := (HG2.out.trans HG3.out).trans HG4.out
      clear hr0 hr1 hr2 hr3
      refine (zero_any V4).mono ?_
      rintro e V5 ⟨rfl, hg5⟩
      have hb5 := (hg5.block _ (lt_of_some HB4.out) (by simp)).trans HB4.out
      have HV5 : Hid (V0.grownBy V5 none) := HV4.out.trans hg5
      obtain ⟨hr0, _⟩ := cell_of_block hb5 0 _ rfl
      obtain ⟨hr1, _⟩ := cell_of_block hb5 1 _ rfl
      obtain ⟨hr2, _⟩ := cell_of_block hb5 2 _ rfl
      obtain ⟨hr3, _⟩ := cell_of_block hb5 3 _ rfl
      clear hb5
      go_wp2_with fail
      refine (zero_any V5).mono ?_
      rintro e V6 ⟨rfl, hg6⟩
      have HE : Hid (Below w.heap.size w V6) := DD.out V6 (HV5.out.trans hg6)
      clear hg6 hg5 hr0 hr1 hr2 hr3
      go_wp2
      go_ret
      exact ⟨rfl, HE.out⟩
    have hq1 : (t != -9223372036854775808) = true := by simp [f1]
    by_cases f2 : 0 ≤ piece
    rotate_left
    · have hq2 : decide (0 ≤ piece) = false := by simp; omega
      clear f1 f2
      go_wp2_with fail
      have HG4 : Hid (V3.grownBy (V3.alloc (.cells #[.int .i64 0, .int .i64 0, .int .i64 0, .slice none 0 0] 26)) none) := World.grownBy_alloc _ _ _
      have HB4 : Hid ((V3.alloc (.cells #[.int .i64 0, .int .i64 0, .int .i64 0, .slice none 0 0] 26)).heap[V3.heap.size]? = some (.cells #[.int .i64 0, .int .i64 0, .int .i64 0, .slice none 0 0] 26)) := (MapKept.heap_alloc V3 _).1
      generalize V3.alloc (.cells #[.int .i64 0, .int .i64 0, .int .i64 0, .slice none 0 0] 26) = V4 at HG4 HB4 ⊢
      have HV4 : Hid (V0.grownBy V4 none) := (HG2.out.trans HG3.out).trans HG4.out
      clear hr0 hr1 hr2 hr3
      refine (zero_any V4).mono ?_
      rintro e V5 ⟨rfl, hg5⟩
      have hb5 := (hg5.block _ (lt_of_some HB4.out) (by simp)).trans HB4.out
      have HV5 : Hid (V0.grownBy V5 none) := HV4.out.trans hg5
      obtain ⟨hr0, _⟩ := cell_of_block hb5 0 _ rfl
      obtain ⟨hr1, _⟩ := cell_of_block hb5 1 _ rfl
      obtain ⟨hr2, _⟩ := cell_of_block hb5 2 _ rfl
      obtain ⟨hr3, _⟩ := cell_of_block hb5 3 _ rfl
      clear hb5
      go_wp2_with fail
      refine (zero_any V5).mono ?_
      rintro e V6 ⟨rfl, hg6⟩
      have HE : Hid (Below w.heap.size w V6) := DD.out V6 (HV5.out.trans hg6)
      clear hg6 hg5 hr0 hr1 hr2 hr3
      go_wp2
      go_ret
      exact ⟨rfl, HE.out⟩
    have hq2 : decide (0 ≤ piece) = true := by simp [f2]
    by_cases f3 : piece ≤ 2147483647
    rotate_left
    · have hq3 : decide (piece ≤ 2147483647) = false := by simp; omega
      clear f1 f2 f3
      go_wp2_with fail
      have HG4 : Hid (V3.grownBy (V3.alloc (.cells #[.int .i64 0, .int .i64 0, .int .i64 0, .slice none 0 0] 26)) none) := World.grownBy_alloc _ _ _
      have HB4 : Hid ((V3.alloc (.cells #[.int .i64 0, .int .i64 0, .int .i64 0, .slice none 0 0] 26)).heap[V3.heap.size]? = some (.cells #[.int .i64 0, .int .i64 0, .int .i64 0, .slice none 0 0] 26)) := (MapKept.heap_alloc V3 _).1
      generalize V3.alloc (.cells #[.int .i64 0, .int .i64 0, .int .i64 0, .slice none 0 0] 26) = V4 at HG4 HB4 ⊢
      have HV4 : Hid (V0.grownBy V4 none) := (HG2.out.trans HG3.out).trans HG4.out
      clear hr0 hr1 hr2 hr3
      refine (zero_any V4).mono ?_
      rintro e V5 ⟨rfl, hg5⟩
      have hb5 := (hg5.block _ (lt_of_some HB4.out) (by simp)).trans HB4.out
      have HV5 : Hid (V0.grownBy V5 none) := HV4.out.trans hg5
      obtain ⟨hr0, _⟩ := cell_of_block hb5 0 _ rfl
      obtain ⟨hr1, _⟩ := cell_of_block hb5 1 _ rfl
      obtain ⟨hr2, _⟩ := cell_of_block hb5 2 _ rfl
      obtain ⟨hr3, _⟩ := cell_of_block hb5 3 _ rfl
      clear hb5
      go_wp2_with fail
      refine (zero_any V5).mono ?_
      rintro e V6 ⟨rfl, hg6⟩
      have HE : Hid (Below w.heap.size w V6) := DD.out V6 (HV5.out.trans hg6)
      clear hg6 hg5 hr0 hr1 hr2 hr3
      go_wp2
      go_ret
      exact ⟨rfl, HE.out⟩
    have hq3 : decide (piece ≤ 2147483647) = true := by simp [f3]
    by_cases f4 : size = -9223372036854775808
    rotate_left
    · exact absurd ⟨f1, f2, f3, fun _ => f4, .inr rfl⟩ HNA.out
    have hq4 : (size == -9223372036854775808) = true := by simp [f4]
    clear f1 f2 f3 f4
    go_wp2_with fail
    have HG4 : Hid (V3.grownBy (V3.alloc (.cells #[.int .i64 0, .int .i64 0, .int .i64 0, .slice none 0 0] 26)) none) := World.grownBy_alloc _ _ _
    have HB4 : Hid ((V3.alloc (.cells #[.int .i64 0, .int .i64 0, .int .i64 0, .slice none 0 0] 26)).heap[V3.heap.size]? = some (.cells #[.int .i64 0, .int .i64 0, .int .i64 0, .slice none 0 0] 26)) := (MapKept.heap_alloc V3 _).1
    generalize V3.alloc (.cells #[.int .i64 0, .int .i64 0, .int .i64 0, .slice none 0 0] 26) = V4 at HG4 HB4 ⊢
    have HV4 : Hid (V0.grownBy V4 none) := (HG2.out.trans HG3.out).trans HG4.out
    clear hr0 hr1 hr2 hr3
    refine (zero_any V4).mono ?_
    rintro e V5 ⟨rfl, hg5⟩
    have hb5 := (hg5.block _ (lt_of_some HB4.out) (by simp)).trans HB4.out
    have HV5 : Hid (V0.grownBy V5 none) := HV4.out.trans hg5
    obtain ⟨hr0, _⟩ := cell_of_block hb5 0 _ rfl
    obtain ⟨hr1, _⟩ := cell_of_block hb5 1 _ rfl
    obtain ⟨hr2, _⟩ := cell_of_block hb5 2 _ rfl
    obtain ⟨hr3, _⟩ := cell_of_block hb5 3 _ rfl
    clear hb5
    go_wp2_with fail
    refine (zero_any V5).mono ?_
    rintro e V6 ⟨rfl, hg6⟩
    have HE : Hid (Below w.heap.size w V6) := DD.out V6 (HV5.out.trans hg6)
    clear hg6 hg5 hr0 hr1 hr2 hr3
    go_wp2
    go_ret
    exact ⟨rfl, HE.out⟩
end Go.Proofs.Qxb6615960aFmt
