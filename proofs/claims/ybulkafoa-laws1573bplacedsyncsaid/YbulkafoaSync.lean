/-
  (*profile).sync BY ITS CONTRACT: both trees of a placed profile are set.
-/
import Derived.Test.YbulkafoaSet
import Derived.Deep.RegionHeld3
namespace Go.Proofs.Ybulkafoa
open Go.RowKit

/-- What the walks read of a profile. -/
structure Prof (w : World) (p gt gl gb m n : Nat) (lv : Int) : Prop where
  blocks : w.cell? ⟨p, 1803, none⟩ = some (.slice (some ⟨gb, 0, none⟩) m m)
  tops : w.cell? ⟨p, 1806, none⟩ = some (.slice (some ⟨gt, 0, none⟩) n n)
  topsN : w.cell? ⟨p, 1807, none⟩ = some (.int .i64 lv)
  placed : w.cell? ⟨p, 1808, none⟩ = some (.bool true)
  lows : w.cell? ⟨p, 1809, none⟩ = some (.slice (some ⟨gl, 0, none⟩) n n)
  lowsN : w.cell? ⟨p, 1810, none⟩ = some (.int .i64 lv)

set_option maxHeartbeats 1000000 in
theorem placed_any (p gt gl gb m n b k : Nat) (lv pl mn mx : Int) (ts ls : List Int) (w : World) (hp : Prof w p gt gl gb m n lv) (hb : b < m)
    (c3 : w.cell? ⟨gb, b * 9 + 3, none⟩ = some (.int .i64 mn)) (c4 : w.cell? ⟨gb, b * 9 + 4, none⟩ = some (.int .i64 mx)) (c7 : w.cell? ⟨gb, b * 9 + 7, none⟩ = some (.int .i32 pl))
    (ht : RowIs w gt 2 (ints ts)) (hl : RowIs w gl 2 (ints ls)) (zt : ts.length = n) (zl : ls.length = n) (hk : (k : Int) = lv + pl) (hkn : k < n) (hn : n ≤ 32) (hev : n % 2 = 0) (l0 : 0 ≤ lv) (l1 : lv ≤ 16) (p0 : 0 ≤ pl) (p1 : pl ≤ 16)
    (h1 : gt ≠ p) (h2 : gl ≠ p) (h3 : gt ≠ gl) (h4 : gt ≠ gb) (h5 : gl ≠ gb) :
    Calls Yba.prog 17 #[.pointer (some ⟨p, 0, none⟩), .int .i32 b] w fun e w' => e = .returned (.tuple #[]) ∧ RowIs w' gt 2 (ints (setTree ts k mx)) ∧ RowIs w' gl 2 (ints (setTree ls k (IntKind.i64.wrap (-mn)))) ∧ ∃ w1, w.grownBy w1 (some gt) ∧ w1.grownBy w' (some gl) := by
  have HT : Hid (RowIs w gt 2 (ints ts)) := ht
  have HL : Hid (RowIs w gl 2 (ints ls)) := hl
  have HZT : Hid (ts.length = n) := zt
  have HZL : Hid (ls.length = n) := zl
  have HK : Hid ((k : Int) = lv + pl) := hk
  have P0 := hp.blocks
  have HP : Hid (Prof w p gt gl gb m n lv) := hp
  have hw : IntKind.i64.wrap pl = pl := by simp [IntKind.wrap, IntKind.bits, IntKind.signed]; omega
  have HW : Hid ((k : Int) = lv + IntKind.i64.wrap pl ∧ 0 ≤ IntKind.i64.wrap pl ∧ IntKind.i64.wrap pl ≤ 16) := by rw [hw]; exact ⟨hk, p0, p1⟩
  clear ht hl hk hp zt zl hw HK
  go_enter Yba.func17, Yba.ntmps17
  go_wp2
  go_region_held3 (fun w' => w'.cell? ⟨gb, b * 9 + 4, none⟩ = some (.int .i64 mx) ∧ w'.cell? ⟨gb, b * 9 + 7, none⟩ = some (.int .i32 pl)) (go_keep) (first
    | (go_at_call 23; refine (set_any p 1806 gt n k lv (IntKind.i64.wrap pl) mx ts _ ?_ ?_ ?_ HZT.out HW.out.1 hkn hn hev l0 l1 HW.out.2.1 HW.out.2.2 h1).mono ?_; exact HP.out.tops; exact HP.out.topsN; exact HT.out; rintro e w1 ⟨rfl, r1, g1⟩; have k4 := g1.cell c4 (by simpa using Ne.symm h4); have k7 := g1.cell c7 (by simpa using Ne.symm h4)))
  have c3' := g1.cell c3 (by simpa using Ne.symm h4)
  have HP1 : Hid (Prof w1 p gt gl gb m n lv) := ⟨g1.cell HP.out.blocks (by simpa using Ne.symm h1), g1.cell HP.out.tops (by simpa using Ne.symm h1), g1.cell HP.out.topsN (by simpa using Ne.symm h1), g1.cell HP.out.placed (by simpa using Ne.symm h1), g1.cell HP.out.lows (by simpa using Ne.symm h1), g1.cell HP.out.lowsN (by simpa using Ne.symm h1)⟩
  have HL1 : Hid (RowIs w1 gl 2 (ints ls)) := RowIs.grown (w := w.drew) HL.out g1 (by simpa using Ne.symm h3)
  have HR1 : Hid (RowIs w1 gt 2 (ints (setTree ts k mx))) := r1
  have HG1 : Hid (w.grownBy w1 (some gt)) := ⟨g1.os, g1.tape, g1.output, g1.size, g1.block⟩
  clear r1 g1
  go_wp2
  go_region_held3 (fun w' => w'.cell? ⟨gb, b * 9 + 3, none⟩ = some (.int .i64 mn) ∧ w'.cell? ⟨gb, b * 9 + 7, none⟩ = some (.int .i32 pl)) (go_keep) (first
    | (go_at_call 23; refine (set_any p 1809 gl n k lv (IntKind.i64.wrap pl) (IntKind.i64.wrap (-mn)) ls _ ?_ ?_ ?_ HZL.out HW.out.1 hkn hn hev l0 l1 HW.out.2.1 HW.out.2.2 h2).mono ?_; exact HP1.out.lows; exact HP1.out.lowsN; exact HL1.out; rintro e w2 ⟨rfl, r2, g2⟩; have j4 := g2.cell c3' (by simpa using Ne.symm h5); have j7 := g2.cell k7 (by simpa using Ne.symm h5)))
  have HR2 : Hid (RowIs w2 gl 2 (ints (setTree ls k (IntKind.i64.wrap (-mn))))) := r2
  have HG2 : Hid (w1.grownBy w2 (some gl)) := ⟨g2.os, g2.tape, g2.output, g2.size, g2.block⟩
  clear r2 g2
  go_wp2
  go_end0
  exact ⟨rfl, (HR1.out.grown HG2.out (by simpa using h3)), HR2.out, w1, HG1.out, HG2.out⟩

set_option maxHeartbeats 1000000 in
theorem sync_any (p gt gl gb m n b k : Nat) (lv pl mn mx : Int) (ts ls : List Int) (w : World) (hp : Prof w p gt gl gb m n lv) (hb : b < m)
    (c3 : w.cell? ⟨gb, b * 9 + 3, none⟩ = some (.int .i64 mn)) (c4 : w.cell? ⟨gb, b * 9 + 4, none⟩ = some (.int .i64 mx)) (c7 : w.cell? ⟨gb, b * 9 + 7, none⟩ = some (.int .i32 pl))
    (ht : RowIs w gt 2 (ints ts)) (hl : RowIs w gl 2 (ints ls)) (zt : ts.length = n) (zl : ls.length = n) (hk : (k : Int) = lv + pl) (hkn : k < n) (hn : n ≤ 32) (hev : n % 2 = 0) (l0 : 0 ≤ lv) (l1 : lv ≤ 16) (p0 : 0 ≤ pl) (p1 : pl ≤ 16)
    (h1 : gt ≠ p) (h2 : gl ≠ p) (h3 : gt ≠ gl) (h4 : gt ≠ gb) (h5 : gl ≠ gb) :
    Calls Yba.prog 12 #[.pointer (some ⟨p, 0, none⟩), .int .i32 b] w fun e w' => e = .returned (.tuple #[]) ∧ RowIs w' gt 2 (ints (setTree ts k mx)) ∧ RowIs w' gl 2 (ints (setTree ls k (IntKind.i64.wrap (-mn)))) ∧ ∃ w1, w.grownBy w1 (some gt) ∧ w1.grownBy w' (some gl) := by
  have P0 := hp.placed
  have HA := placed_any p gt gl gb m n b k lv pl mn mx ts ls w hp hb c3 c4 c7 ht hl zt zl hk hkn hn hev l0 l1 p0 p1 h1 h2 h3 h4 h5
  have HC : Hid (Calls Yba.prog 17 #[.pointer (some ⟨p, 0, none⟩), .int .i32 b] w fun e w' => e = .returned (.tuple #[]) ∧ RowIs w' gt 2 (ints (setTree ts k mx)) ∧ RowIs w' gl 2 (ints (setTree ls k (IntKind.i64.wrap (-mn)))) ∧ ∃ w1, w.grownBy w1 (some gt) ∧ w1.grownBy w' (some gl)) := HA
  clear HA hp ht hl zt zl hk c3 c4 c7
  go_enter Yba.func12, Yba.ntmps12
  go_wp2_with (go_at_call 17; refine HC.out.mono ?_; rintro e w2 ⟨rfl, k1, k2, k3⟩)
  have K : Hid (RowIs w2 gt 2 (ints (setTree ts k mx)) ∧ RowIs w2 gl 2 (ints (setTree ls k (IntKind.i64.wrap (-mn)))) ∧ ∃ w1, w.grownBy w1 (some gt) ∧ w1.grownBy w2 (some gl)) := ⟨k1, k2, k3⟩
  clear k1 k2 k3
  go_wp2
  go_end0
  exact ⟨rfl, K.out⟩

end Go.Proofs.Ybulkafoa
