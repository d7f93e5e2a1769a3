/-
  bufio's NewWriterSize, Available and Write BY THEIR CONTRACTS.
-/
import Derived.Test.YbulkafmyFmtSink
import Derived.Deep.RegionHeld3
import Derived.Deep.OwnRows
import Derived.Laws.CopyOwn
namespace Go.Proofs.YbulkafmyFmt
open Go.RowKit Go.Deep

theorem Ybaf.notBufio (a : Addr) (w : World) : (Instr.typeAssert (.iface 29 (.pointer (some a))) 52 37 true).run Ybaf.prog w = .ok (.tuple #[.pointer none, .bool false]) w := by kernel_rfl
theorem Ybaf.size5 : (Ybaf.prog.info? 5).map (·.size) = some 1 := by kernel_rfl

set_option maxHeartbeats 400000 in
theorem nws_any (s : Nat) (w : World) :
    Calls Ybaf.prog 11 #[.iface 29 (.pointer (some ⟨s, 0, none⟩)), .int .i64 65536] w fun e w' => ∃ (N : Nat) (C : List Value), C.length = N ∧ 24 ≤ N ∧ N ≤ 65536 ∧ e = .returned (.pointer (some ⟨w.heap.size + 1, 0, none⟩)) ∧
      w' = (w.alloc (.cells C.toArray 5)).alloc (.cells #[.nilIface, .slice (some ⟨w.heap.size, 0, none⟩) N N, .int .i64 0, .iface 29 (.pointer (some ⟨s, 0, none⟩))] 61) := by
  obtain ⟨N, hN⟩ : ∃ N : Nat, (N : Int) = 65536 := ⟨65536, rfl⟩
  have hmk := run_make_row' (P := Ybaf.prog) 30 5 (.int .u8 0) 1 Ybaf.underlying30 Ybaf.info5 rfl .i64 .i64 N (by omega) (by omega)
  rw [hN] at hmk
  have hN1 : 24 ≤ N := by omega
  have hN2 : N ≤ 65536 := by omega
  have hta := Ybaf.notBufio
  clear hN
  go_enter Ybaf.func11, Ybaf.ntmps11
  go_wp2
  go_ret
  exact ⟨N, (madeCells #[.int .u8 0] N).toList, by simp [size_madeCells], hN1, hN2, rfl, rfl⟩

set_option maxHeartbeats 400000 in
theorem avail_any (b N : Nat) (ao : Option Addr) (n : Int) (w : World) (h1 : w.cell? ⟨b, 1, none⟩ = some (.slice ao N N)) (h2 : w.cell? ⟨b, 2, none⟩ = some (.int .i64 n)) (hn0 : 0 ≤ n) (hn1 : n ≤ (N : Int)) (hN : N ≤ 65536) :
    Calls Ybaf.prog 14 #[.pointer (some ⟨b, 0, none⟩)] w fun e w' => e = .returned (.int .i64 ((N : Int) - n)) ∧ w' = w.drew := by
  go_enter Ybaf.func14, Ybaf.ntmps14
  go_wp2
  go_region
  go_wp2
  go_ret
  exact ⟨rfl, rfl⟩

/-- 'copy(dst, src)' as one step of a region that draws its order, the world behind it written out. -/
theorem step_copy_row {P : Program} {ops : Array Oper} {o : Oper} {a : Act} {w : World} {K : Act → World → Prop} {Q : Exit → Act → World → Prop} {E : Prop} (hgd : o.guard = none) (d s : Operand) (dT sT : TypeId)
    (ho : o.op = .call { callee := .builtin .copy, args := #[d, s], argTypes := #[dT, sT] }) (elem : TypeId) (hu : P.underlying dT = some (.slice elem)) (hsz : (P.info? elem).map (·.size) = some 1)
    (g dLen dCap : Nat) (ad : Addr) (sLen sCap : Nat) (hd : a.eval d = .slice (some ⟨g, 0, none⟩) dLen dCap) (hs : a.eval s = .slice (some ad) sLen sCap)
    (cur : List Value) (t : TypeId) (hg : RowIs w g t cur) (cs : List Value) (hn : cs.length = Nat.min sLen dLen)
    (hsrc : ∀ j v, cs[j]? = some v → w.cell? (ad.add j) = some v) (hfit : cs.length ≤ cur.length) (h1 : ∀ v ∈ cs, v.oneCell' = true)
    (h : K (a.put o.dst (goInt cs.length)) (w.setRow g (splice cur 0 cs).toArray)) :
    if Region.wanted o (yielded ops a.tmps) = true then Oper.wp P o a w K Q else E := by
  have hw : Region.wanted o (yielded ops a.tmps) = true := by simp [Region.wanted, hgd]
  rw [if_pos hw]
  have hrun := run_copy_row (P := P) w dT sT o.type elem g 0 dLen dCap ad sLen sCap cur.toArray t cs hu hsz hg hn hsrc (by simpa using hfit) h1
  unfold Oper.wp
  rw [show splice cur 0 cs = cs ++ cur.drop cs.length by simp [splice]] at h
  simp [execOp, ho, resolve, invoke, builtin, hd, hs, hrun, Result.andThen]
  exact h

theorem setRow_row {w : World} {g : Nat} {t : TypeId} {L : List Value} (h : RowIs w g t L) (X : List Value) : RowIs (w.setRow g X.toArray) g t X := setRow_heap w g _ _ t _ h
theorem setRow_cell (w : World) (g b i : Nat) (X : Array Value) (h : b ≠ g) : (w.setRow g X).cell? ⟨b, i, none⟩ = w.cell? ⟨b, i, none⟩ := World.cell?_of_block (setRow_other w g b X h)

set_option maxHeartbeats 1000000 in
theorem bw_write (b g q N s cq : Nat) (L cur : List Value) (w : World) (hb : RowIs w b 61 [.nilIface, .slice (some ⟨g, 0, none⟩) N N, .int .i64 0, .iface 29 (.pointer (some ⟨s, 0, none⟩))]) (hg : RowIs w g 5 cur) (hcur : cur.length = N) (hLN : L.length ≤ N) (hN : N ≤ 65536)
    (hq : ∀ (j : Nat) (u : Value), L[j]? = some u → w.cell? ⟨q, j, none⟩ = some u) (hone : ∀ u ∈ L, u.oneCell' = true) (hbg : b ≠ g) :
    Calls Ybaf.prog 12 #[.pointer (some ⟨b, 0, none⟩), .slice (some ⟨q, 0, none⟩) L.length cq] w fun e w' => e = .returned (.tuple #[.int .i64 L.length, .nilIface]) ∧
      w'.Alike ((w.setRow g (splice cur 0 L).toArray).setCell ⟨b, 2, none⟩ (.int .i64 L.length)) ∧ w'.tape = w.tape := by
  have b0 : w.cell? ⟨b, 0, none⟩ = some .nilIface := by rw [hb.cell]; rfl
  have b1 : w.cell? ⟨b, 1, none⟩ = some (.slice (some ⟨g, 0, none⟩) N N) := by rw [hb.cell]; rfl
  have b2 : w.cell? ⟨b, 2, none⟩ = some (.int .i64 0) := by rw [hb.cell]; rfl
  have HB : Hid (RowIs w b 61 [.nilIface, .slice (some ⟨g, 0, none⟩) N N, .int .i64 0, .iface 29 (.pointer (some ⟨s, 0, none⟩))]) := hb
  have HG : Hid (RowIs w g 5 cur) := hg
  have HQ : Hid (∀ (j : Nat) (u : Value), L[j]? = some u → w.cell? ⟨q, j, none⟩ = some u) := hq
  have HL : Hid (cur.length = N) := hcur
  clear hb hg hq hcur
  have hk : ∀ (W : World) (i : Nat) (X : Array Value), (W.setRow g X).cell? ⟨b, i, none⟩ = W.cell? ⟨b, i, none⟩ := fun W i X => setRow_cell W g b i X hbg
  have hkf : ∀ (W : World) (i : Nat) (X : Array Value), (W.setRow g X).frozen? ⟨b, i, none⟩ = W.frozen? ⟨b, i, none⟩ := fun W i X => World.frozen?_of_block (setRow_other W g b X hbg)
  have bf : w.frozen? ⟨b, 2, none⟩ = false := HB.out.frozen 2
  go_enter Ybaf.func12, Ybaf.ntmps12
  go_wp2
  refine wp_loop_rounds 1 ?_
  rw [rounds_succ]
  go_wp2_with (go_at_call 14; refine (avail_any b N _ 0 _ b1 b2 (by omega) (by omega) hN).mono ?_; rintro e w' ⟨rfl, rfl⟩)
  go_region_held3 (fun w' => w'.cell? ⟨b, 1, none⟩ = some (.slice (some ⟨g, 0, none⟩) N N) ∧ w'.cell? ⟨b, 2, none⟩ = some (.int .i64 0)) (go_keep) (first
    | (refine step_copy_row rfl (.tmp 80) (.tmp 81) 30 30 rfl 5 Ybaf.underlying30 Ybaf.size5 g N N ⟨q, 0, none⟩ L.length cq rfl rfl cur 5 HG.out L ?_ ?_ ?_ hone ?_; exact (Nat.min_eq_left hLN).symm; (intro j u hu; rw [add0]; exact HQ.out j u hu); (rw [HL.out]; exact hLN)))
  go_wp2
  go_ret2
  exact ⟨rfl, ⟨rfl, rfl, rfl⟩, rfl⟩

end Go.Proofs.YbulkafmyFmt
