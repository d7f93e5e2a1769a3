/-
  slices.Clone at []int64 BY ITS CONTRACT (turned from the shelf's text at []int).
-/
import Derived.Test.YbulkafoaRow
import Derived.Lib.Walk
import Derived.Lib.SliceRun
namespace Go.Proofs.Ybulkafoa
open Go.RowKit Go.Lib

theorem Yba.info2 : (Yba.prog.info? 2).map (fun i => (i.zero, i.size, i.bytes)) = some (some (.int .i64 0), 1, 8) := by kernel_rfl

set_option maxHeartbeats 1000000 in
theorem clone_any (g n : Nat) (zs : List Int) (w : World) (hz : zs.length = n) (hbig : n ≤ 32) (hr : RowIs w g 2 (ints zs)) :
    Calls Yba.prog 11 #[.slice (some ⟨g, 0, none⟩) n n] w fun e w' => ∃ v', e = .returned v' ∧ w'.ownsRow w.heap.size 2 1 v' n (ints zs) ∧ v' ≠ .slice none 0 0 ∧ Below w.heap.size w w' := by
  obtain ⟨i0, hi, hz0, hz1, hz2⟩ := info_parts Yba.info2
  have q22 : ∀ (w : World) (a : Option Addr) (n c n' c' : Nat), (binOp .eql 37 (.slice a n c) (.slice none n' c')).run Yba.prog w = .ok (.bool a.isNone) w := fun w a n c n' c' => Lib.run_eql_slice_nil w _ _ a n c n' c' Yba.underlying37
  have A : Hid (RowIs w g 2 (ints zs)) := hr
  have HL : Hid ((ints zs).length = n) := by simp [Hid, ints, hz]
  clear hr hz
  go_enter Yba.func11, Yba.ntmps11
  go_wp2_with (at_builtin; refine wpList_append_own _ rfl _ _ 37 rfl w.heap.size 2 i0 (.int .i64 0) 1 8 Yba.underlying37 hi hz0 hz1 hz2 rfl (by decide) _ _ _ rfl (World.ownsRow_made w #[] 0 (Nat.le_refl _) (Nat.zero_le _) rfl) ⟨g, 0, none⟩ n n (ints zs) rfl ?qc1 ?qc2 ?qc3 ?qc4 ?qc5 ?qc6 ?_)
  case qc1 => rw [HL.out]; omega
  case qc2 =>
    intro j u hj
    rw [Addr.add_lit, Nat.zero_add]
    refine Lib.cell?_alloc_some _ ?_
    rw [A.out.cell]
    exact hj
  case qc3 => intro u hu; obtain ⟨x, _, rfl⟩ := List.mem_map.1 hu; rfl
  case qc4 => unfold maxLen; omega
  case qc5 => omega
  case qc6 => simp
  intro v' w1 hown hgrow hnil
  go_wp2
  go_ret
  refine ⟨v', rfl, by simpa using hown, ?_, ?_⟩
  · exact hnil
  · exact ((Below.refl _ w).alloc (Nat.le_refl _) _).grown hgrow (by simp) (by intro k hk; simp [Value.ownBlock] at hk; omega)

end Go.Proofs.Ybulkafoa
