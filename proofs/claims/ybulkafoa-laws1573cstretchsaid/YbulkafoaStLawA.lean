import Derived.Test.YbulkafoaStLaw
namespace Go.Proofs.Ybulkafoa
open Go.RowKit Go.Deep

set_option maxHeartbeats 2000000 in
set_option maxRecDepth 100000 in
theorem st_main (a0 : Option Addr) (l0 cp0 n cp1 : Nat) (y : Addr) (F : Nat → Int) (f t size hd : Int) (w : World) (hn1 : 1 ≤ n) (hn2 : n ≤ 300) (hl0 : (l0 : Int) ≤ 9223372036854775807)
    (hg : ∀ i, i < l0 → ∃ x z, a0 = some x ∧ w.cell? (x.add i) = some (.int .u8 z) ∧ 0 ≤ z ∧ z ≤ 255) (hF : ∀ i, i < n → w.cell? (y.add i) = some (.int .i64 (F i)))
    (f0 : 0 ≤ f) (f1 : f ≤ 65535) (t0 : 0 ≤ t) (t1 : t ≤ 65535) (d0 : 0 ≤ hd) (d1 : hd ≤ 65535) :
    Calls Yba.prog 7 #[.slice a0 l0 cp0, .slice (some y) n cp1, .int .u16 f, .int .u16 t, .int .i64 size, .int .u16 hd] w fun e w' => e = .returned (.bool true) ∧ Below w.heap.size w w' := by
  have HG : Hid (∀ i, i < l0 → ∃ x z, a0 = some x ∧ w.cell? (x.add i) = some (.int .u8 z) ∧ 0 ≤ z ∧ z ≤ 255) := hg
  have HF : Hid (∀ i, i < n → w.cell? (y.add i) = some (.int .i64 (F i))) := hF
  have hmk1 := run_make_row' (P := Yba.prog) 48 49 (.int .u64 0) 8 Yba.underlying48 Yba.info49 rfl .i64 .i64 n (by omega) (by omega)
  have hmk2 := run_make_row' (P := Yba.prog) 46 21 (.int .i32 0) 4 Yba.underlying46 Yba.info21 rfl .i64 .i64 n (by omega) (by omega)
  obtain ⟨C0, hC0, hmk3⟩ := make_links n hn2
  have hnz : ((n : Int) == 0) = false := by simp; omega
  have hnb : decide (300 < (n : Int)) = false := by simp; omega
  clear hg hF
  go_enter Yba.func7, Yba.ntmps7
  go_wp2
  go_loopw [15, 16] (fun ta ti wr => ∃ (i : Nat) (L : List Int), ta = .int .u64 (L.getD (i - 1) 0) ∧ ti = .int .i64 i ∧ 1 ≤ i ∧ i ≤ n ∧ L.length = n ∧ Hid (Rising L i) ∧ RowIs wr w.heap.size 49 (u64s L) ∧ Below w.heap.size w wr ∧ wr.heap.size = w.heap.size + 1) (fun _ ti _ => n - (intOf ti).toNat)
  case atStart =>
    have e0 : u64s (List.replicate n 0) = List.replicate n (.int .u64 0) := by simp [u64s]
    refine ⟨1, List.replicate n 0, ?_, rfl, by omega, by omega, by simp, rising_start n, ?_, (Below.refl _ w).alloc (Nat.le_refl _) _, by simp⟩
    · rw [(rising_start n).1]
    · rw [e0]; exact made_row2 w 49 (.int .u64 0) n
  case round =>
    obtain ⟨i, L, rfl, rfl, hi1, hin, hL, HR, hrow, hbel, hsz⟩ := hrel
    have HROW : Hid (RowIs wr w.heap.size 49 (u64s L)) := hrow
    have HD : Hid (Below w.heap.size w wr) := hbel
    have HL : Hid (L.length = n) := hL
    have HSZ : Hid (wr.heap.size = w.heap.size + 1) := hsz
    by_cases hlt : i < n
    · have c1 := u64s_cell hrow (i := i) (by omega)
      have fz : wr.frozen? ⟨w.heap.size, i, none⟩ = false := hrow.frozen _
      obtain ⟨r1, r2⟩ := HR.out.2.2 (i - 1) (by omega)
      obtain ⟨a, hae⟩ : ∃ a, L.getD (i - 1) 0 = a := ⟨_, rfl⟩
      have HAE : Hid (L.getD (i - 1) 0 = a) := hae
      rw [hae] at r1 r2 ⊢
      clear hrow hbel hL hsz hae
      by_cases hz : 0 < l0
      · obtain ⟨q, hq, hql⟩ := rem_nat' ((i : Int) - 1) l0 hz
        obtain ⟨x, z, rfl, hx, z0, z1⟩ := HG.out q hql
        have hx' : wr.cell? (x.add q) = some (.int .u8 z) := (HD.out.cell (p := x.add q) (World.block_lt_of_cell? w _ hx)).trans hx
        go_wp2
        go_roundw
        case rel =>
          refine ⟨i + 1, L.set i (L.getD (i - 1) 0 + (z + 1)), ?_, by go_num, by omega, by omega, by simp [HL.out], rising_next HR.out hi1 (by rw [HL.out]; exact hlt) (by omega) (by omega), ?_, HD.out.setCell (Nat.le_refl _) _, by simp [HSZ.out]⟩
          · have hii : i < L.length := by rw [HL.out]; exact hlt
            simp only [Nat.add_sub_cancel]
            rw [show (L.set i (L.getD (i - 1) 0 + (z + 1))).getD i 0 = L.getD (i - 1) 0 + (z + 1) from by simp [List.getD, hii], HAE.out]
          · rw [← u64s_set, HAE.out]; exact HROW.out.set _ _
        case measure => simp [intOf]; omega
      · go_wp2
        go_roundw
        case rel =>
          refine ⟨i + 1, L.set i (L.getD (i - 1) 0 + 1), ?_, by go_num, by omega, by omega, by simp [HL.out], rising_next HR.out hi1 (by rw [HL.out]; exact hlt) (by omega) (by omega), ?_, HD.out.setCell (Nat.le_refl _) _, by simp [HSZ.out]⟩
          · have hii : i < L.length := by rw [HL.out]; exact hlt
            simp only [Nat.add_sub_cancel]
            rw [show (L.set i (L.getD (i - 1) 0 + 1)).getD i 0 = L.getD (i - 1) 0 + 1 from by simp [List.getD, hii], HAE.out]
          · rw [← u64s_set, HAE.out]; exact HROW.out.set _ _
        case measure => simp [intOf]; omega
    · obtain rfl : i = n := by omega
      clear hrow hbel hL hsz
      rename World => w1
      obtain ⟨A, hA⟩ : ∃ A : Nat → Int, A = fun j => L.getD j 0 := ⟨_, rfl⟩
      have HA : Hid (A = fun j => L.getD j 0) := hA
      clear hA
      have HINC : Hid (Inc i A ∧ A 0 = 0 ∧ ∀ q, q < i → A q ≤ 100000) := by
        rw [HA.out]
        refine ⟨fun a b h1 h2 => HR.out.2.1 a b h1 h2, HR.out.1, fun q hq => ?_⟩
        have := (HR.out.2.2 q hq).2
        show L.getD q 0 ≤ 100000
        omega
      have HATS : Hid (∀ j, j < i → w1.cell? ⟨w.heap.size, j, none⟩ = some (.int .u64 (A j))) := fun j hj => by rw [HA.out]; exact u64s_cell HROW.out (by rw [HL.out]; exact hj)
      go_wp2
      have R1 : Hid (RowIs ((w1.alloc (Obj.cells C0.toArray 75)).alloc (Obj.cells (madeCells #[Value.int IntKind.i32 0] i) 21)) w1.heap.size 75 C0) := (new_row2 w1 75 C0).alloc _
      have R2 : Hid (RowIs ((w1.alloc (Obj.cells C0.toArray 75)).alloc (Obj.cells (madeCells #[Value.int IntKind.i32 0] i) 21)) (w1.heap.size + 1) 21 (List.replicate i (.int .i32 0))) := by
        have q := made_row2 (w1.alloc (Obj.cells C0.toArray 75)) 21 (.int .i32 0) i
        rw [show (w1.alloc (Obj.cells C0.toArray 75)).heap.size = w1.heap.size + 1 from by simp] at q
        exact q
      have G2 : Hid (w1.grownBy ((w1.alloc (Obj.cells C0.toArray 75)).alloc (Obj.cells (madeCells #[Value.int IntKind.i32 0] i) 21)) none) := grownBy_alloc (grownBy_alloc (grownBy_refl _ _) _) _
      have Z2 : Hid (((w1.alloc (Obj.cells C0.toArray 75)).alloc (Obj.cells (madeCells #[Value.int IntKind.i32 0] i) 21)).heap.size = w1.heap.size + 2) := by show _ = _; simp
      generalize ((w1.alloc (Obj.cells C0.toArray 75)).alloc (Obj.cells (madeCells #[Value.int IntKind.i32 0] i) 21)) = w2 at R1 R2 G2 Z2 ⊢
      go_loopw [20] (fun tj wr => ∃ (j : Nat) (C : List Value), tj = .int .i64 j ∧ j ≤ i ∧ C.length = i * 5 ∧ RowIs wr w1.heap.size 75 C ∧ Hid (Lk i A F C j) ∧ w2.grownBy wr (some w1.heap.size) ∧ wr.heap.size = w1.heap.size + 2) (fun tj _ => i - (intOf tj).toNat)
      case atStart => exact ⟨0, C0, rfl, by omega, hC0, R1.out, (fun a ha => by omega), grownBy_refl _ _, Z2.out⟩
      case round =>
        obtain ⟨j, C, rfl, hj, hC, hrow, HK, hgr, hszr⟩ := hrel
        have HRC : Hid (RowIs wr w1.heap.size 75 C) := hrow
        have HCL : Hid (C.length = i * 5) := hC
        have HGR : Hid (w2.grownBy wr (some w1.heap.size)) := hgr
        have HZR : Hid (wr.heap.size = w1.heap.size + 2) := hszr
        have hwlt : w.heap.size < w1.heap.size := by have := HSZ.out; omega
        by_cases hjm : j < i
        · have ca : wr.cell? ⟨w.heap.size, j, none⟩ = some (.int .u64 (A j)) := hgr.cell (G2.out.cell (HATS.out j hjm) (by simp)) (by simp; omega)
          have hyb : (y.add j).block < w.heap.size := World.block_lt_of_cell? w _ (HF.out j hjm)
          have cf : wr.cell? (y.add j) = some (.int .i64 (F j)) := hgr.cell (G2.out.cell ((HD.out.cell (p := y.add j) hyb).trans (HF.out j hjm)) (by simp)) (by simp; omega)
          have cf2 : ((wr.setCell ⟨w1.heap.size, j * 5, none⟩ (.int .u64 0)).setCell ⟨w1.heap.size, j * 5 + 1, none⟩ (.int .u64 (A j))).cell? (y.add j) = some (.int .i64 (F j)) := by
            rw [World.cell?_setCell_far _ _ _ _ (by show w1.heap.size ≠ _; omega), World.cell?_setCell_far _ _ _ _ (by show w1.heap.size ≠ _; omega)]
            exact cf
          obtain ⟨v0, e0⟩ : ∃ v, wr.cell? ⟨w1.heap.size, j * 5, none⟩ = some v := ⟨_, (hrow.cell _).trans (List.getElem?_eq_getElem (by omega))⟩
          obtain ⟨v1, e1⟩ : ∃ v, wr.cell? ⟨w1.heap.size, j * 5 + 1, none⟩ = some v := ⟨_, (hrow.cell _).trans (List.getElem?_eq_getElem (by omega))⟩
          obtain ⟨v2, e2⟩ : ∃ v, wr.cell? ⟨w1.heap.size, j * 5 + 2, none⟩ = some v := ⟨_, (hrow.cell _).trans (List.getElem?_eq_getElem (by omega))⟩
          obtain ⟨v3, e3⟩ : ∃ v, wr.cell? ⟨w1.heap.size, j * 5 + 3, none⟩ = some v := ⟨_, (hrow.cell _).trans (List.getElem?_eq_getElem (by omega))⟩
          obtain ⟨v4, e4⟩ : ∃ v, wr.cell? ⟨w1.heap.size, j * 5 + 4, none⟩ = some v := ⟨_, (hrow.cell _).trans (List.getElem?_eq_getElem (by omega))⟩
          have fzr : ∀ o, wr.frozen? ⟨w1.heap.size, o, none⟩ = false := fun o => hrow.frozen o
          clear hrow hC hgr hszr
          by_cases hj0 : j = 0
          · by_cases hjl : j + 1 = i
            · have HZJ : Hid (j = 0) := hj0
              have HLJ : Hid (j + 1 = i) := hjl
              have hz1 : ((j : Int) == 0) = true := by simp; omega
              have hl1 : ((j : Int) == (i : Int) - 1) = true := by simp; omega
              clear hj0 hjl
              go_wp2
              go_roundw
              case rel =>
                refine ⟨j + 1, five C j (A j) (F j) (-1) (-1), by go_num, by omega, by rw [five_length, HCL.out], row_five HRC.out, lk_next HK.out (by rw [HCL.out]; omega) (by rw [if_pos HLJ.out]), grown_five HGR.out, by simp [HZR.out]⟩
              case measure => simp [intOf]; omega
            · have HZJ : Hid (j = 0) := hj0
              have HLJ : Hid (¬ j + 1 = i) := hjl
              have hz1 : ((j : Int) == 0) = true := by simp; omega
              have hl1 : ((j : Int) == (i : Int) - 1) = false := by simp; omega
              clear hj0 hjl
              go_wp2
              go_roundw
              case rel =>
                refine ⟨j + 1, five C j (A j) (F j) (-1) ((j : Int) + 1), by go_num, by omega, by rw [five_length, HCL.out], row_five HRC.out, lk_next HK.out (by rw [HCL.out]; omega) (by rw [if_neg HLJ.out]), grown_five HGR.out, by simp [HZR.out]⟩
              case measure => simp [intOf]; omega
          · by_cases hjl : j + 1 = i
            · have HZJ : Hid (¬ j = 0) := hj0
              have HLJ : Hid (j + 1 = i) := hjl
              have hz1 : ((j : Int) == 0) = false := by simp; omega
              have hl1 : ((j : Int) == (i : Int) - 1) = true := by simp; omega
              clear hj0 hjl
              go_wp2
              go_roundw
              case rel =>
                refine ⟨j + 1, five C j (A j) (F j) ((j : Int) - 1) (-1), by go_num, by omega, by rw [five_length, HCL.out], row_five HRC.out, lk_next HK.out (by rw [HCL.out]; omega) (by rw [if_pos HLJ.out]), grown_five HGR.out, by simp [HZR.out]⟩
              case measure => simp [intOf]; omega
            · have HZJ : Hid (¬ j = 0) := hj0
              have HLJ : Hid (¬ j + 1 = i) := hjl
              have hz1 : ((j : Int) == 0) = false := by simp; omega
              have hl1 : ((j : Int) == (i : Int) - 1) = false := by simp; omega
              clear hj0 hjl
              go_wp2
              go_roundw
              case rel =>
                refine ⟨j + 1, five C j (A j) (F j) ((j : Int) - 1) ((j : Int) + 1), by go_num, by omega, by rw [five_length, HCL.out], row_five HRC.out, lk_next HK.out (by rw [HCL.out]; omega) (by rw [if_neg HLJ.out]), grown_five HGR.out, by simp [HZR.out]⟩
              case measure => simp [intOf]; omega
        · obtain rfl : j = i := by omega
          clear hrow hC hgr hszr
          obtain ⟨V, hV, hVV⟩ := prof2_value (some ⟨w1.heap.size, 0, none⟩) (some ⟨w1.heap.size + 1, 0, none⟩) (some ⟨wr.heap.size, 0, none⟩) (some ⟨wr.heap.size + 1, 0, none⟩) j
          have HVV : Hid (V[0]? = some (.slice (some ⟨w1.heap.size, 0, none⟩) j j) ∧ V[1]? = some (.slice (some ⟨w1.heap.size + 1, 0, none⟩) j j) ∧ V[1799]? = some (.int .i32 0) ∧ V[1800]? = some (.int .i32 0) ∧ V[1803]? = some (.slice (some ⟨wr.heap.size, 0, none⟩) 1 1) ∧ V[1805]? = some (.slice (some ⟨wr.heap.size + 1, 0, none⟩) 1 1)) := hVV
          clear hVV
          have hwr : w.heap.size + 3 ≤ wr.heap.size := by have := HZR.out; omega
          have B2 : Hid (Below w.heap.size w wr) := ((HD.out.grown G2.out (by omega) (by simp)).grown HGR.out (by have := Z2.out; omega) (by intro k hk; simp at hk; omega))
          have G5 : Hid (Below w.heap.size w (((wr.alloc (Obj.cells #[Value.int IntKind.i32 0, Value.int IntKind.i32 (↑j - 1), Value.int IntKind.i64 ↑j, Value.int IntKind.i64 0, Value.int IntKind.i64 0, Value.int IntKind.i64 0, Value.int IntKind.i64 0, Value.int IntKind.i32 0, Value.int IntKind.u8 0] 64)).alloc (Obj.cells #[Value.int IntKind.i32 0] 21)).alloc (Obj.cells V 61))) := ((B2.out.alloc (by omega) _).alloc (by simp; omega) _).alloc (by simp; omega) _
          have GW : Hid (w1.grownBy (((wr.alloc (Obj.cells #[Value.int IntKind.i32 0, Value.int IntKind.i32 (↑j - 1), Value.int IntKind.i64 ↑j, Value.int IntKind.i64 0, Value.int IntKind.i64 0, Value.int IntKind.i64 0, Value.int IntKind.i64 0, Value.int IntKind.i32 0, Value.int IntKind.u8 0] 64)).alloc (Obj.cells #[Value.int IntKind.i32 0] 21)).alloc (Obj.cells V 61)) (some w1.heap.size)) := grownBy_alloc (grownBy_alloc (grownBy_alloc (grownBy_trans (grownBy_any G2.out _) HGR.out) _) _) _
          have R2r : Hid (RowIs wr (w1.heap.size + 1) 21 (List.replicate j (.int .i32 0))) := R2.out.grown HGR.out (by simp)
          have HPF : Hid (Pf (((wr.alloc (Obj.cells #[Value.int IntKind.i32 0, Value.int IntKind.i32 (↑j - 1), Value.int IntKind.i64 ↑j, Value.int IntKind.i64 0, Value.int IntKind.i64 0, Value.int IntKind.i64 0, Value.int IntKind.i64 0, Value.int IntKind.i32 0, Value.int IntKind.u8 0] 64)).alloc (Obj.cells #[Value.int IntKind.i32 0] 21)).alloc (Obj.cells V 61)) (wr.heap.size + 1 + 1) w1.heap.size (w1.heap.size + 1) wr.heap.size (wr.heap.size + 1) j A F ∧ (((wr.alloc (Obj.cells #[Value.int IntKind.i32 0, Value.int IntKind.i32 (↑j - 1), Value.int IntKind.i64 ↑j, Value.int IntKind.i64 0, Value.int IntKind.i64 0, Value.int IntKind.i64 0, Value.int IntKind.i64 0, Value.int IntKind.i32 0, Value.int IntKind.u8 0] 64)).alloc (Obj.cells #[Value.int IntKind.i32 0] 21)).alloc (Obj.cells V 61)).cell? ⟨wr.heap.size + 1 + 1, 1800, none⟩ = some (.int .i32 0)) := pf_of hn1 hn2 HRC.out HK.out R2r.out HZR.out rfl rfl rfl HVV.out HINC.out.1 HINC.out.2.1 HINC.out.2.2
          by_cases hex : ∃ x, Ans j A F f t size (hd + 1) (some x)
          · obtain ⟨x, hx⟩ := hex
            have HX : Hid (∀ r, Ans j A F f t size (hd + 1) r → r = some x) := fun r hr => Ans.unique hr hx
            have HC := call15_some (t := t) (size := size) (h := hd + 1) x HPF.out f0 f1 (by omega) (by omega) HX.out (by omega) hwlt G5.out GW.out HATS.out HF.out HINC.out hn1 hn2
            have HM := call16_some (g := w.heap.size) (cp := cp1) (y := y) x f0 f1 (by omega) (by omega) HX.out
            have tokb : Hid (0 = 0) := rfl
            clear HPF hx G5 GW HATS HF HINC
            go_wp2_with (first
            | (clear tokb; refine wpList_build rfl 61 #[(0, .tmp 118), (1, .tmp 119), (12, .tmp 125), (14, .tmp 126)] rfl #[(0, .slice (some ⟨w1.heap.size, 0, none⟩) j j), (1, .slice (some ⟨w1.heap.size + 1, 0, none⟩) j j), (12, .slice (some ⟨wr.heap.size, 0, none⟩) 1 1), (14, .slice (some ⟨wr.heap.size + 1, 0, none⟩) 1 1)] ?hv (.agg V) (hV _) ?_)
            | (go_at_call 15; refine HC.out.mono ?_; rintro e w6 ⟨rfl, hB6, hGN⟩; have B6 : Hid (Below w.heap.size w w6) := hB6; have GN : Hid (∀ o, Given (w6.alloc o) w.heap.size j y A F) := hGN; clear hB6 hGN)
            | (go_at_call 16; refine (HM.out _ (GN.out _)).mono ?_; rintro e w8 ⟨rfl, rfl⟩))
            go_ret
            exact ⟨rfl, B6.out.alloc B6.out.size _⟩
          · have HX : Hid (∀ r, Ans j A F f t size (hd + 1) r → r = none) := fun r hr => by cases r with | none => rfl | some x => exact absurd ⟨x, hr⟩ hex
            have HC := call15_none (t := t) (size := size) (h := hd + 1) HPF.out f0 f1 (by omega) (by omega) HX.out (by omega) hwlt G5.out GW.out HATS.out HF.out HINC.out hn1 hn2
            have HM := call16_none (g := w.heap.size) (cp := cp1) (y := y) f0 f1 (by omega) (by omega) HX.out
            have tokb : Hid (0 = 0) := rfl
            clear HPF hex G5 GW HATS HF HINC
            go_wp2_with (first
            | (clear tokb; refine wpList_build rfl 61 #[(0, .tmp 118), (1, .tmp 119), (12, .tmp 125), (14, .tmp 126)] rfl #[(0, .slice (some ⟨w1.heap.size, 0, none⟩) j j), (1, .slice (some ⟨w1.heap.size + 1, 0, none⟩) j j), (12, .slice (some ⟨wr.heap.size, 0, none⟩) 1 1), (14, .slice (some ⟨wr.heap.size + 1, 0, none⟩) 1 1)] ?hv (.agg V) (hV _) ?_)
            | (go_at_call 15; refine HC.out.mono ?_; rintro e w6 ⟨rfl, hB6, hGN⟩; have B6 : Hid (Below w.heap.size w w6) := hB6; have GN : Hid (∀ o, Given (w6.alloc o) w.heap.size j y A F) := hGN; clear hB6 hGN)
            | (go_at_call 16; refine (HM.out _ (GN.out _)).mono ?_; rintro e w8 ⟨rfl, rfl⟩))
            go_ret
            exact ⟨rfl, B6.out.alloc B6.out.size _⟩

end Go.Proofs.Ybulkafoa
