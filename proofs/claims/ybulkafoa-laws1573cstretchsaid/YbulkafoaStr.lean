/-
  (*profile).stretch BY ITS CONTRACT.
-/
import Derived.Test.YbulkafoaFind
import Derived.Test.YbulkafoaScan
namespace Go.Proofs.Ybulkafoa
open Go.RowKit

/-- The call's own four boxes, and the profile. -/
structure St (w wr : World) (p gl gk gb gs n : Nat) (A F : Nat → Int) (f t v : Int) : Prop where
  pf : Pf wr p gl gk gb gs n A F
  r0 : RowIs wr w.heap.size 51 [.int .u64 0, .int .u64 f]
  r1 : RowIs wr (w.heap.size + 1) 51 [.int .u64 0, .int .u64 t]
  r2 : RowIs wr (w.heap.size + 1 + 1) 51 [.int .u64 0, .int .u64 0]
  r3 : RowIs wr (w.heap.size + 1 + 1 + 1) 51 [.int .u64 0, .int .u64 v]
  g : w.grownBy wr (some p)
  lt : p < w.heap.size ∧ gl < w.heap.size ∧ gk < w.heap.size ∧ gb < w.heap.size ∧ gs < w.heap.size

theorem RowIs.drew' {w : World} {b : Nat} {t : TypeId} {L : List Value} (h : RowIs w b t L) : RowIs w.drew b t L := h

section
variable {w wr wr' : World} {p gl gk gb gs n : Nat} {A F : Nat → Int} {f t v : Int}

theorem St.grown (h : St w wr p gl gk gb gs n A F f t v) (k : wr.grownBy wr' none) : St w wr' p gl gk gb gs n A F f t v :=
  ⟨h.pf.grown k, h.r0.grown k (by simp), h.r1.grown k (by simp), h.r2.grown k (by simp), h.r3.grown k (by simp), grownBy_trans h.g (grownBy_any k _), h.lt⟩

/-- Behind a store into a box of the call's own. -/
theorem Pf.far (h : Pf wr p gl gk gb gs n A F) (b o : Nat) (u : Value) (hb : p ≠ b ∧ gl ≠ b ∧ gk ≠ b ∧ gb ≠ b ∧ gs ≠ b) : Pf (wr.setCell ⟨b, o, none⟩ u) p gl gk gb gs n A F := by
  obtain ⟨h1, h2, h3, h4, h5⟩ := hb
  have c : ∀ (g i : Nat) (x : Value), g ≠ b → wr.cell? ⟨g, i, none⟩ = some x → (wr.setCell ⟨b, o, none⟩ u).cell? ⟨g, i, none⟩ = some x := fun g i x hg e => (World.cell?_setCell_other wr ⟨b, o, none⟩ ⟨g, i, none⟩ u (by intro q; injection q with q1; exact hg q1.symm)).trans e
  exact ⟨c _ _ _ h1 h.links, c _ _ _ h1 h.blockOf, c _ _ _ h1 h.head, c _ _ _ h1 h.blocks, c _ _ _ h1 h.seq, fun i hi => c _ _ _ h2 (h.hi i hi), fun i hi => c _ _ _ h2 (h.lo i hi), fun i hi => c _ _ _ h2 (h.free i hi), fun i hi => c _ _ _ h2 (h.next i hi), fun i hi => c _ _ _ h2 (h.last i hi),
    c _ _ _ h3 h.bo, c _ _ _ h4 h.b0, c _ _ _ h4 h.b1, c _ _ _ h5 h.s0, by rw [World.frozen?_setCell]; exact h.fz, h.inc, h.a0, h.top, h.n1, h.n2, h.ne⟩

theorem St.setx (h : St w wr p gl gk gb gs n A F f t v) (x : Int) : St w ((wr.setCell ⟨w.heap.size + 1 + 1 + 1, 0, none⟩ (.int .u64 0)).setCell ⟨w.heap.size + 1 + 1 + 1, 1, none⟩ (.int .u64 x)) p gl gk gb gs n A F f t x := by
  obtain ⟨h1, h2, h3, h4, h5⟩ := h.lt
  refine ⟨(h.pf.far _ _ _ (by omega)).far _ _ _ (by omega), (h.r0.other _ _ _ (by omega)).other _ _ _ (by omega), (h.r1.other _ _ _ (by omega)).other _ _ _ (by omega), (h.r2.other _ _ _ (by omega)).other _ _ _ (by omega), (h.r3.set 0 _).set 1 _, ?_, h.lt⟩
  have e := h.g
  exact ⟨e.os, e.tape, e.output, by simpa using e.size, fun k hk hr => (Below.heap_setCell _ _ _ _ (by show k ≠ w.heap.size + 1 + 1 + 1; omega)).trans ((Below.heap_setCell _ _ _ _ (by show k ≠ w.heap.size + 1 + 1 + 1; omega)).trans (e.block k hk hr))⟩

/-- The result laid down: what the return reads, what is left. -/
theorem St.result (h : St w wr p gl gk gb gs n A F f t v) (x : Int) : (loadVar 51 ⟨w.heap.size + 1 + 1, 0, none⟩).run Yba.prog ((wr.setCell ⟨w.heap.size + 1 + 1, 0, none⟩ (.int .u64 0)).setCell ⟨w.heap.size + 1 + 1, 1, none⟩ (.int .u64 x)) = .ok (.agg #[.int .u64 0, .int .u64 x]) ((wr.setCell ⟨w.heap.size + 1 + 1, 0, none⟩ (.int .u64 0)).setCell ⟨w.heap.size + 1 + 1, 1, none⟩ (.int .u64 x)) := by
  have r : RowIs _ _ _ _ := (h.r2.set 0 (.int .u64 0)).set 1 (.int .u64 x)
  exact load51 (by rw [r.cell]; rfl) (by rw [r.cell]; rfl)
theorem St.resultD (h : St w wr p gl gk gb gs n A F f t v) (x : Int) : (loadVar 51 ⟨w.heap.size + 1 + 1, 0, none⟩).run Yba.prog ((wr.setCell ⟨w.heap.size + 1 + 1, 0, none⟩ (.int .u64 0)).setCell ⟨w.heap.size + 1 + 1, 1, none⟩ (.int .u64 x)).drew = .ok (.agg #[.int .u64 0, .int .u64 x]) ((wr.setCell ⟨w.heap.size + 1 + 1, 0, none⟩ (.int .u64 0)).setCell ⟨w.heap.size + 1 + 1, 1, none⟩ (.int .u64 x)).drew := by
  have r : RowIs _ _ _ _ := RowIs.drew' ((h.r2.set 0 (.int .u64 0)).set 1 (.int .u64 x))
  exact load51 (by rw [r.cell]; rfl) (by rw [r.cell]; rfl)
theorem St.left (h : St w wr p gl gk gb gs n A F f t v) (u x : Value) : w.grownBy ((wr.setCell ⟨w.heap.size + 1 + 1, 0, none⟩ u).setCell ⟨w.heap.size + 1 + 1, 1, none⟩ x) (some p) := by
  have e := h.g
  exact ⟨e.os, e.tape, e.output, by simpa using e.size, fun k hk hr => (Below.heap_setCell _ _ _ _ (by show k ≠ w.heap.size + 1 + 1; omega)).trans ((Below.heap_setCell _ _ _ _ (by show k ≠ w.heap.size + 1 + 1; omega)).trans (e.block k hk hr))⟩
theorem St.leftD (h : St w wr p gl gk gb gs n A F f t v) (u x : Value) : w.grownBy ((wr.setCell ⟨w.heap.size + 1 + 1, 0, none⟩ u).setCell ⟨w.heap.size + 1 + 1, 1, none⟩ x).drew (some p) := grownBy_drew (h.left u x)
end

theorem RowIs.new (w : World) (t : TypeId) (L : List Value) : RowIs (w.alloc (.cells L.toArray t)) w.heap.size t L := by
  unfold RowIs
  show (w.heap.push _)[w.heap.size]? = _
  simp
theorem St.begin (w : World) (p gl gk gb gs n : Nat) (A F : Nat → Int) (f t : Int) (hp : Pf w p gl gk gb gs n A F) : St w ((((w.alloc (Obj.cells #[Value.int IntKind.u64 0, Value.int IntKind.u64 f] 51)).alloc (Obj.cells #[Value.int IntKind.u64 0, Value.int IntKind.u64 t] 51)).alloc (Obj.cells #[Value.int IntKind.u64 0, Value.int IntKind.u64 0] 51)).alloc (Obj.cells #[Value.int IntKind.u64 0, Value.int IntKind.u64 0] 51)) p gl gk gb gs n A F f t 0 := by
  have g0 : w.grownBy ((((w.alloc (Obj.cells #[Value.int IntKind.u64 0, Value.int IntKind.u64 f] 51)).alloc (Obj.cells #[Value.int IntKind.u64 0, Value.int IntKind.u64 t] 51)).alloc (Obj.cells #[Value.int IntKind.u64 0, Value.int IntKind.u64 0] 51)).alloc (Obj.cells #[Value.int IntKind.u64 0, Value.int IntKind.u64 0] 51)) none := grownBy_alloc (grownBy_alloc (grownBy_alloc (grownBy_alloc (grownBy_refl _ _) _) _) _) _
  have q0 := RowIs.new w 51 [.int .u64 0, .int .u64 f]
  have q1 := RowIs.new (w.alloc (Obj.cells #[Value.int IntKind.u64 0, Value.int IntKind.u64 f] 51)) 51 [.int .u64 0, .int .u64 t]
  have q2 := RowIs.new ((w.alloc (Obj.cells #[Value.int IntKind.u64 0, Value.int IntKind.u64 f] 51)).alloc (Obj.cells #[Value.int IntKind.u64 0, Value.int IntKind.u64 t] 51)) 51 [.int .u64 0, .int .u64 0]
  have q3 := RowIs.new (((w.alloc (Obj.cells #[Value.int IntKind.u64 0, Value.int IntKind.u64 f] 51)).alloc (Obj.cells #[Value.int IntKind.u64 0, Value.int IntKind.u64 t] 51)).alloc (Obj.cells #[Value.int IntKind.u64 0, Value.int IntKind.u64 0] 51)) 51 [.int .u64 0, .int .u64 0]
  simp only [World.size_alloc] at q1 q2 q3
  exact ⟨hp.grown g0, ((q0.alloc _).alloc _).alloc _, (q1.alloc _).alloc _, q2.alloc _, q3, grownBy_any g0 _, cell_block hp.head, cell_block (hp.hi 0 hp.n1), cell_block hp.bo, cell_block hp.b0, cell_block hp.s0⟩
theorem St.find {w wr wr' : World} {p gl gk gb gs n : Nat} {A F : Nat → Int} {f t v : Int} (h : St w wr p gl gk gb gs n A F f t v) (hpf : Pf wr' p gl gk gb gs n A F) (k : wr.grownBy wr' (some p)) : St w wr' p gl gk gb gs n A F f t v := by
  obtain ⟨h1, h2, h3, h4, h5⟩ := h.lt
  exact ⟨hpf, h.r0.grown k (by simp; omega), h.r1.grown k (by simp; omega), h.r2.grown k (by simp; omega), h.r3.grown k (by simp; omega), grownBy_trans h.g k, h.lt⟩

theorem max_is (a b x : Int) (w : World) (h : max a b = x) : Calls Yba.prog 19 #[.agg #[.int .u64 0, .int .u64 a], .agg #[.int .u64 0, .int .u64 b]] w fun e w' => e = .returned (.agg #[.int .u64 0, .int .u64 x]) ∧ w.grownBy w' none := h ▸ max_any a b w

/-- It returns the offset r, or none. -/
def GivesOff (e : Ending) (q : Option Int → Prop) : Prop := ∃ r : Option Int, e = .returned (.tuple #[.agg #[.int .u64 0, .int .u64 (r.getD 0)], .bool r.isSome]) ∧ q r

set_option maxHeartbeats 4000000 in
set_option maxRecDepth 100000 in
theorem stretch_any (p gl gk gb gs n : Nat) (A F : Nat → Int) (f t size h : Int) (w : World) (hp : Pf w p gl gk gb gs n A F) (hh : w.cell? ⟨p, 1800, none⟩ = some (.int .i32 0)) (f0 : 0 ≤ f) (f1 : f ≤ 65535) (h0 : 1 ≤ h) (h1 : h ≤ 65536) :
    Calls Yba.prog 15 #[.pointer (some ⟨p, 0, none⟩), .agg #[.int .u64 0, .int .u64 f], .agg #[.int .u64 0, .int .u64 t], .int .i64 size, .int .i64 h] w fun e w' => GivesOff e (Ans n A F f t size h) ∧ w.grownBy w' (some p) := by
  have hn := hp.n1
  have hn2 := hp.n2
  have LT : Hid (p < w.heap.size ∧ gl < w.heap.size ∧ gk < w.heap.size ∧ gb < w.heap.size ∧ gs < w.heap.size) := ⟨cell_block hp.head, cell_block (hp.hi 0 hn), cell_block hp.bo, cell_block hp.b0, cell_block hp.s0⟩
  have HI : Hid (Inc n A) := hp.inc
  have HP : Hid (Pf w p gl gk gb gs n A F) := hp
  clear hp
  have S0 : Hid (St w ((((w.alloc (Obj.cells #[Value.int IntKind.u64 0, Value.int IntKind.u64 f] 51)).alloc (Obj.cells #[Value.int IntKind.u64 0, Value.int IntKind.u64 t] 51)).alloc (Obj.cells #[Value.int IntKind.u64 0, Value.int IntKind.u64 0] 51)).alloc (Obj.cells #[Value.int IntKind.u64 0, Value.int IntKind.u64 0] 51)) p gl gk gb gs n A F f t 0) := St.begin w p gl gk gb gs n A F f t HP.out
  have hh0 : ((((w.alloc (Obj.cells #[Value.int IntKind.u64 0, Value.int IntKind.u64 f] 51)).alloc (Obj.cells #[Value.int IntKind.u64 0, Value.int IntKind.u64 t] 51)).alloc (Obj.cells #[Value.int IntKind.u64 0, Value.int IntKind.u64 0] 51)).alloc (Obj.cells #[Value.int IntKind.u64 0, Value.int IntKind.u64 0] 51)).cell? ⟨p, 1800, none⟩ = some (.int .i32 0) := (grownBy_alloc (grownBy_alloc (grownBy_alloc (grownBy_alloc (grownBy_refl w none) _) _) _) _).cell hh (by simp)
  have HF : Hid (Calls Yba.prog 18 #[.pointer (some ⟨p, 0, none⟩), .agg #[.int .u64 0, .int .u64 f]] ((((w.alloc (Obj.cells #[Value.int IntKind.u64 0, Value.int IntKind.u64 f] 51)).alloc (Obj.cells #[Value.int IntKind.u64 0, Value.int IntKind.u64 t] 51)).alloc (Obj.cells #[Value.int IntKind.u64 0, Value.int IntKind.u64 0] 51)).alloc (Obj.cells #[Value.int IntKind.u64 0, Value.int IntKind.u64 0] 51)) (Finds ((((w.alloc (Obj.cells #[Value.int IntKind.u64 0, Value.int IntKind.u64 f] 51)).alloc (Obj.cells #[Value.int IntKind.u64 0, Value.int IntKind.u64 t] 51)).alloc (Obj.cells #[Value.int IntKind.u64 0, Value.int IntKind.u64 0] 51)).alloc (Obj.cells #[Value.int IntKind.u64 0, Value.int IntKind.u64 0] 51)) p gl gk gb gs n A F f)) := find_any p gl gk gb gs n A F f _ S0.out.pf hh0 f0
  clear hh0
  go_enter Yba.func15, Yba.ntmps15
  go_wp2_with (go_at_call 18; refine HF.out.mono ?_; rintro e wf ⟨k0, rfl, hk0, hpf, hgf⟩; have SF : Hid (St w wf p gl gk gb gs n A F f t 0) := S0.out.find hpf hgf; have K0 : Hid (Found n A f k0) := hk0; clear hk0 hpf hgf)
  go_loopw [13, 14] (fun a b wr => ∃ (k : Nat) (o : Option Int) (v : Int), a = .bool o.isSome ∧ b = .int .i32 k ∧ Scan n A F f t size h k o ∧ St w wr p gl gk gb gs n A F f t v ∧ (∀ x, o = some x → v = x)) (fun _ b _ => n - (intOf b).toNat)
  case atStart => exact ⟨k0, none, 0, rfl, rfl, scan_start K0.out, SF.out, fun x e => by cases e⟩
  case round =>
    obtain ⟨k, o, v, rfl, rfl, hs, st, hv⟩ := hrel
    have hkn : k < n := by cases o with | none => exact hs.1 | some x => exact hs.1
    have HS : Hid (Scan n A F f t size h k o) := hs
    have ST : Hid (St w wr p gl gk gb gs n A F f t v) := st
    have c1 := st.pf.links
    have c2 := st.pf.free k hkn
    have fz : ∀ i, wr.frozen? ⟨w.heap.size + 1 + 1, i, none⟩ = false := fun i => st.r2.frozen i
    have y1 : wr.cell? ⟨w.heap.size + 1 + 1, 0, none⟩ = some (.int .u64 0) := st.r2.cell 0
    have y2 : wr.cell? ⟨w.heap.size + 1 + 1, 1, none⟩ = some (.int .u64 0) := st.r2.cell 1
    clear hs st hh
    by_cases hf : F k < size
    · clear hv
      by_cases hl : k + 1 < n
      · obtain ⟨k1, hk1⟩ : ∃ k1 : Nat, k1 = k + 1 := ⟨_, rfl⟩
        have e3 := ST.out.pf.next k hl
        have ek : ((k : Int) + 1) = ((k1 : Nat) : Int) := by omega
        rw [ek] at e3
        have hk1n : k1 < n := by omega
        have hk1z : (k1 : Int) < (n : Int) := by omega
        have hk1p : (0 : Int) ≤ (k1 : Int) := by omega
        have HK1 : Hid (k1 = k + 1) := hk1
        have hne : ((k1 : Int) == -1) = false := by simp
        have hne2 : decide ((k1 : Int) = -1) = false := by simp
        clear ek hk1
        by_cases hb : A k1 < t
        · go_wp2
          have u1_w3 := ST.out.pf.links
          have u2_w3 := ST.out.pf.hi k1 hk1n
          have u3_w3 := ST.out.pf.lo k1 hk1n
          have u4_w3 : wr.cell? ⟨w.heap.size + 1, 0, none⟩ = some (.int .u64 0) := ST.out.r1.cell 0
          have u5_w3 : wr.cell? ⟨w.heap.size + 1, 1, none⟩ = some (.int .u64 t) := ST.out.r1.cell 1
          go_region_held3 (fun w' => w'.cell? ⟨p, 0, none⟩ = some (.slice (some ⟨gl, 0, none⟩) n n) ∧ w'.cell? ⟨gl, k1 * 5, none⟩ = some (.int .u64 0) ∧ w'.cell? ⟨gl, k1 * 5 + 1, none⟩ = some (.int .u64 (A k1)) ∧ w'.cell? ⟨w.heap.size + 1, 0, none⟩ = some (.int .u64 0) ∧ w'.cell? ⟨w.heap.size + 1, 1, none⟩ = some (.int .u64 t)) (go_keep) (first
            | (go_at_call 21; refine (before_yes (A k1) t wr.drew (by omega)).mono ?_; rintro e w3 ⟨rfl, g_w3⟩; have a1 := g_w3.cell u1_w3 (by simp); have a2 := g_w3.cell u2_w3 (by simp); have a3 := g_w3.cell u3_w3 (by simp); have a4 := g_w3.cell u4_w3 (by simp); have a5 := g_w3.cell u5_w3 (by simp)))
          have S_w3 : Hid (St w w3 p gl gk gb gs n A F f t v) := ST.out.grown ⟨g_w3.os, g_w3.tape, g_w3.output, g_w3.size, g_w3.block⟩
          have fz_w3 : ∀ i, w3.frozen? ⟨w.heap.size + 1 + 1, i, none⟩ = false := fun i => S_w3.out.r2.frozen i
          have y1_w3 : w3.cell? ⟨w.heap.size + 1 + 1, 0, none⟩ = some (.int .u64 0) := S_w3.out.r2.cell 0
          have y2_w3 : w3.cell? ⟨w.heap.size + 1 + 1, 1, none⟩ = some (.int .u64 0) := S_w3.out.r2.cell 1
          clear g_w3 a1 a2 a3 a4 a5
          go_wp2
          go_roundw
          case rel => exact ⟨k1, none, v, rfl, rfl, by rw [HK1.out]; exact full_next o HS.out h0 hf hl HI.out, S_w3.out, fun x e => by cases e⟩
          case measure => have := HK1.out; simp [intOf]; omega
        · go_wp2
          have u1_w3 := ST.out.pf.links
          have u2_w3 := ST.out.pf.hi k1 hk1n
          have u3_w3 := ST.out.pf.lo k1 hk1n
          have u4_w3 : wr.cell? ⟨w.heap.size + 1, 0, none⟩ = some (.int .u64 0) := ST.out.r1.cell 0
          have u5_w3 : wr.cell? ⟨w.heap.size + 1, 1, none⟩ = some (.int .u64 t) := ST.out.r1.cell 1
          go_region_held3 (fun w' => w'.cell? ⟨p, 0, none⟩ = some (.slice (some ⟨gl, 0, none⟩) n n) ∧ w'.cell? ⟨gl, k1 * 5, none⟩ = some (.int .u64 0) ∧ w'.cell? ⟨gl, k1 * 5 + 1, none⟩ = some (.int .u64 (A k1)) ∧ w'.cell? ⟨w.heap.size + 1, 0, none⟩ = some (.int .u64 0) ∧ w'.cell? ⟨w.heap.size + 1, 1, none⟩ = some (.int .u64 t)) (go_keep) (first
            | (go_at_call 21; refine (before_no (A k1) t wr.drew (by omega)).mono ?_; rintro e w3 ⟨rfl, g_w3⟩; have a1 := g_w3.cell u1_w3 (by simp); have a2 := g_w3.cell u2_w3 (by simp); have a3 := g_w3.cell u3_w3 (by simp); have a4 := g_w3.cell u4_w3 (by simp); have a5 := g_w3.cell u5_w3 (by simp)))
          have S_w3 : Hid (St w w3 p gl gk gb gs n A F f t v) := ST.out.grown ⟨g_w3.os, g_w3.tape, g_w3.output, g_w3.size, g_w3.block⟩
          have fz_w3 : ∀ i, w3.frozen? ⟨w.heap.size + 1 + 1, i, none⟩ = false := fun i => S_w3.out.r2.frozen i
          have y1_w3 : w3.cell? ⟨w.heap.size + 1 + 1, 0, none⟩ = some (.int .u64 0) := S_w3.out.r2.cell 0
          have y2_w3 : w3.cell? ⟨w.heap.size + 1 + 1, 1, none⟩ = some (.int .u64 0) := S_w3.out.r2.cell 1
          clear g_w3 a1 a2 a3 a4 a5
          go_wp2
          refine bodyPost_ret (results_cell2 rfl rfl (S_w3.out.result 0)) rfl ?_
          exact ⟨⟨none, rfl, full_end o HS.out h0 hf (.inr (by rw [← HK1.out]; omega))⟩, S_w3.out.left _ _⟩
      · have e3 := ST.out.pf.last k (by omega)
        go_wp2
        go_region
        go_wp2
        refine bodyPost_ret (results_cell2 rfl rfl (ST.out.resultD 0)) rfl ?_
        exact ⟨⟨none, rfl, full_end o HS.out h0 hf (.inl hl)⟩, ST.out.leftD _ _⟩
    · have HO : Hid (Opened n A F f t size h k (openAt f (A k) o)) := scan_open o HS.out h0 hf HI.out
      have ho0 := HO.out.2.2.1
      have hx1 : openAt f (A k) o ≤ 100000 := by
        rcases ho0 with e | ⟨j, hj, e, _⟩
        · omega
        · have := ST.out.pf.top j hj; omega
      have hx0 : 0 ≤ openAt f (A k) o := by have := HO.out.2.2.2.1; omega
      clear ho0
      cases o with
      | some x =>
        obtain rfl : v = x := hv x rfl
        have HO' : Hid (Opened n A F f t size h k v) := HO.out
        have hx0' : 0 ≤ v := hx0
        have hx1' : v ≤ 100000 := hx1
        clear HO hx0 hx1 hv
        have x1 : wr.cell? ⟨w.heap.size + 1 + 1 + 1, 0, none⟩ = some (.int .u64 0) := ST.out.r3.cell 0
        have x2 : wr.cell? ⟨w.heap.size + 1 + 1 + 1, 1, none⟩ = some (.int .u64 v) := ST.out.r3.cell 1
        have d1 := ST.out.pf.links
        by_cases hlate : t < v + h
        · obtain ⟨nx, e3⟩ : ∃ nx, wr.cell? ⟨gl, k * 5 + 4, none⟩ = some (.int .i32 nx) := by
            by_cases hl : k + 1 < n
            · exact ⟨_, ST.out.pf.next k hl⟩
            · exact ⟨_, ST.out.pf.last k (by omega)⟩
          go_wp2_with (first
            | (go_at_call 20; refine (plus_any v h wr hx0' hx1' h0 h1).mono ?_; rintro e w5 ⟨rfl, g5⟩; have S5 : Hid (St w w5 p gl gk gb gs n A F f t v) := ST.out.grown g5; have z0 : w5.cell? ⟨w.heap.size + 1, 0, none⟩ = some (.int .u64 0) := S5.out.r1.cell 0; have z1 : w5.cell? ⟨w.heap.size + 1, 1, none⟩ = some (.int .u64 t) := S5.out.r1.cell 1; have zl : w.heap.size + 1 < w5.heap.size := S5.out.r1.lt; clear g5)
            | (go_at_call 21; refine (before_yes t (v + h) (w5.alloc (Obj.cells #[Value.int IntKind.u64 0, Value.int IntKind.u64 (v + h)] 51)) (by omega)).mono ?_; rintro e w6 ⟨rfl, g6⟩; have S6 : Hid (St w w6 p gl gk gb gs n A F f t v) := S5.out.grown (grownBy_trans (grownBy_alloc (grownBy_refl _ _) _) g6)
               have E0 : w6.cell? ⟨w5.heap.size, 0, none⟩ = some (.int .u64 0) := g6.cell (by go_simp) (by simp)
               have E1 : w6.cell? ⟨w5.heap.size, 1, none⟩ = some (.int .u64 (v + h)) := g6.cell (by go_simp) (by simp)
               have fz6 : ∀ i, w6.frozen? ⟨w.heap.size + 1 + 1, i, none⟩ = false := fun i => S6.out.r2.frozen i
               have y16 : w6.cell? ⟨w.heap.size + 1 + 1, 0, none⟩ = some (.int .u64 0) := S6.out.r2.cell 0
               have y26 : w6.cell? ⟨w.heap.size + 1 + 1, 1, none⟩ = some (.int .u64 0) := S6.out.r2.cell 1
               have x16 : w6.cell? ⟨w.heap.size + 1 + 1 + 1, 0, none⟩ = some (.int .u64 0) := S6.out.r3.cell 0
               have x26 : w6.cell? ⟨w.heap.size + 1 + 1 + 1, 1, none⟩ = some (.int .u64 v) := S6.out.r3.cell 1
               clear g6))
          refine bodyPost_ret (results_cell2 rfl rfl (S6.out.result 0)) rfl ?_
          exact ⟨⟨none, rfl, open_late HO'.out (by omega)⟩, S6.out.left _ _⟩
        · by_cases hl : k + 1 < n
          · obtain ⟨k1, hk1⟩ : ∃ k1 : Nat, k1 = k + 1 := ⟨_, rfl⟩
            have e3 := ST.out.pf.next k hl
            have ek : ((k : Int) + 1) = ((k1 : Nat) : Int) := by omega
            rw [ek] at e3
            have hk1n : k1 < n := by omega
            have hk1z : (k1 : Int) < (n : Int) := by omega
            have hk1p : (0 : Int) ≤ (k1 : Int) := by omega
            have HK1 : Hid (k1 = k + 1) := hk1
            have hne : ((k1 : Int) == -1) = false := by simp
            have hne2 : decide ((k1 : Int) = -1) = false := by simp
            clear ek hk1
            by_cases hb2 : A k1 < v + h
            · have hb : A k1 < t := by omega
              go_wp2_with (first
                | (go_at_call 20; refine (plus_any v h wr hx0' hx1' h0 h1).mono ?_; rintro e w5 ⟨rfl, g5⟩; have S5 : Hid (St w w5 p gl gk gb gs n A F f t v) := ST.out.grown g5; have z0 : w5.cell? ⟨w.heap.size + 1, 0, none⟩ = some (.int .u64 0) := S5.out.r1.cell 0; have z1 : w5.cell? ⟨w.heap.size + 1, 1, none⟩ = some (.int .u64 t) := S5.out.r1.cell 1; have zl : w.heap.size + 1 < w5.heap.size := S5.out.r1.lt; clear g5)
                | (go_at_call 21; refine (before_no t (v + h) (w5.alloc (Obj.cells #[Value.int IntKind.u64 0, Value.int IntKind.u64 (v + h)] 51)) (by omega)).mono ?_; rintro e w6 ⟨rfl, g6⟩; have S6 : Hid (St w w6 p gl gk gb gs n A F f t v) := S5.out.grown (grownBy_trans (grownBy_alloc (grownBy_refl _ _) _) g6)
                   have E0 : w6.cell? ⟨w5.heap.size, 0, none⟩ = some (.int .u64 0) := g6.cell (by go_simp) (by simp)
                   have E1 : w6.cell? ⟨w5.heap.size, 1, none⟩ = some (.int .u64 (v + h)) := g6.cell (by go_simp) (by simp)
                   have fz6 : ∀ i, w6.frozen? ⟨w.heap.size + 1 + 1, i, none⟩ = false := fun i => S6.out.r2.frozen i
                   have y16 : w6.cell? ⟨w.heap.size + 1 + 1, 0, none⟩ = some (.int .u64 0) := S6.out.r2.cell 0
                   have y26 : w6.cell? ⟨w.heap.size + 1 + 1, 1, none⟩ = some (.int .u64 0) := S6.out.r2.cell 1
                   have x16 : w6.cell? ⟨w.heap.size + 1 + 1 + 1, 0, none⟩ = some (.int .u64 0) := S6.out.r3.cell 0
                   have x26 : w6.cell? ⟨w.heap.size + 1 + 1 + 1, 1, none⟩ = some (.int .u64 v) := S6.out.r3.cell 1
                   clear g6))
              have u1 := S6.out.pf.links
              have u2 := S6.out.pf.hi k1 hk1n
              have u3 := S6.out.pf.lo k1 hk1n
              go_region_held3 (fun w' => w'.cell? ⟨p, 0, none⟩ = some (.slice (some ⟨gl, 0, none⟩) n n) ∧ w'.cell? ⟨gl, k1 * 5, none⟩ = some (.int .u64 0) ∧ w'.cell? ⟨gl, k1 * 5 + 1, none⟩ = some (.int .u64 (A k1)) ∧ w'.cell? ⟨w5.heap.size, 0, none⟩ = some (.int .u64 0) ∧ w'.cell? ⟨w5.heap.size, 1, none⟩ = some (.int .u64 (v + h))) (go_keep) (first
                | (go_at_call 21; refine (before_yes (A k1) (v + h) w6.drew (by omega)).mono ?_; rintro e w7 ⟨rfl, g7⟩; have a1 := g7.cell u1 (by simp); have a2 := g7.cell u2 (by simp); have a3 := g7.cell u3 (by simp); have a4 := g7.cell E0 (by simp); have a5 := g7.cell E1 (by simp)))
              have S_w7 : Hid (St w w7 p gl gk gb gs n A F f t v) := S6.out.grown ⟨g7.os, g7.tape, g7.output, g7.size, g7.block⟩
              have fz7 : ∀ i, w7.frozen? ⟨w.heap.size + 1 + 1, i, none⟩ = false := fun i => S_w7.out.r2.frozen i
              have y17 : w7.cell? ⟨w.heap.size + 1 + 1, 0, none⟩ = some (.int .u64 0) := S_w7.out.r2.cell 0
              have y27 : w7.cell? ⟨w.heap.size + 1 + 1, 1, none⟩ = some (.int .u64 0) := S_w7.out.r2.cell 1
              have x17 : w7.cell? ⟨w.heap.size + 1 + 1 + 1, 0, none⟩ = some (.int .u64 0) := S_w7.out.r3.cell 0
              have x27 : w7.cell? ⟨w.heap.size + 1 + 1 + 1, 1, none⟩ = some (.int .u64 v) := S_w7.out.r3.cell 1
              clear g7 a1 a2 a3 a4 a5 u1 u2 u3
              go_wp2
              have u1_w8 := S_w7.out.pf.links
              have u2_w8 := S_w7.out.pf.hi k1 hk1n
              have u3_w8 := S_w7.out.pf.lo k1 hk1n
              have u4_w8 : w7.cell? ⟨w.heap.size + 1, 0, none⟩ = some (.int .u64 0) := S_w7.out.r1.cell 0
              have u5_w8 : w7.cell? ⟨w.heap.size + 1, 1, none⟩ = some (.int .u64 t) := S_w7.out.r1.cell 1
              go_region_held3 (fun w' => w'.cell? ⟨p, 0, none⟩ = some (.slice (some ⟨gl, 0, none⟩) n n) ∧ w'.cell? ⟨gl, k1 * 5, none⟩ = some (.int .u64 0) ∧ w'.cell? ⟨gl, k1 * 5 + 1, none⟩ = some (.int .u64 (A k1)) ∧ w'.cell? ⟨w.heap.size + 1, 0, none⟩ = some (.int .u64 0) ∧ w'.cell? ⟨w.heap.size + 1, 1, none⟩ = some (.int .u64 t)) (go_keep) (first
                | (go_at_call 21; refine (before_yes (A k1) t w7.drew (by omega)).mono ?_; rintro e w8 ⟨rfl, g_w8⟩; have a1 := g_w8.cell u1_w8 (by simp); have a2 := g_w8.cell u2_w8 (by simp); have a3 := g_w8.cell u3_w8 (by simp); have a4 := g_w8.cell u4_w8 (by simp); have a5 := g_w8.cell u5_w8 (by simp)))
              have S_w8 : Hid (St w w8 p gl gk gb gs n A F f t v) := S_w7.out.grown ⟨g_w8.os, g_w8.tape, g_w8.output, g_w8.size, g_w8.block⟩
              have fz_w8 : ∀ i, w8.frozen? ⟨w.heap.size + 1 + 1, i, none⟩ = false := fun i => S_w8.out.r2.frozen i
              have y1_w8 : w8.cell? ⟨w.heap.size + 1 + 1, 0, none⟩ = some (.int .u64 0) := S_w8.out.r2.cell 0
              have y2_w8 : w8.cell? ⟨w.heap.size + 1 + 1, 1, none⟩ = some (.int .u64 0) := S_w8.out.r2.cell 1
              clear g_w8 a1 a2 a3 a4 a5
              go_wp2
              go_roundw
              case rel => exact ⟨k1, some v, v, rfl, rfl, by rw [HK1.out]; exact open_next HO'.out (by omega) hl (by rw [← HK1.out]; exact hb2) HI.out, S_w8.out, fun x e => by cases e; rfl⟩
              case measure => have := HK1.out; simp [intOf]; omega
            · go_wp2_with (first
                | (go_at_call 20; refine (plus_any v h wr hx0' hx1' h0 h1).mono ?_; rintro e w5 ⟨rfl, g5⟩; have S5 : Hid (St w w5 p gl gk gb gs n A F f t v) := ST.out.grown g5; have z0 : w5.cell? ⟨w.heap.size + 1, 0, none⟩ = some (.int .u64 0) := S5.out.r1.cell 0; have z1 : w5.cell? ⟨w.heap.size + 1, 1, none⟩ = some (.int .u64 t) := S5.out.r1.cell 1; have zl : w.heap.size + 1 < w5.heap.size := S5.out.r1.lt; clear g5)
                | (go_at_call 21; refine (before_no t (v + h) (w5.alloc (Obj.cells #[Value.int IntKind.u64 0, Value.int IntKind.u64 (v + h)] 51)) (by omega)).mono ?_; rintro e w6 ⟨rfl, g6⟩; have S6 : Hid (St w w6 p gl gk gb gs n A F f t v) := S5.out.grown (grownBy_trans (grownBy_alloc (grownBy_refl _ _) _) g6)
                   have E0 : w6.cell? ⟨w5.heap.size, 0, none⟩ = some (.int .u64 0) := g6.cell (by go_simp) (by simp)
                   have E1 : w6.cell? ⟨w5.heap.size, 1, none⟩ = some (.int .u64 (v + h)) := g6.cell (by go_simp) (by simp)
                   have fz6 : ∀ i, w6.frozen? ⟨w.heap.size + 1 + 1, i, none⟩ = false := fun i => S6.out.r2.frozen i
                   have y16 : w6.cell? ⟨w.heap.size + 1 + 1, 0, none⟩ = some (.int .u64 0) := S6.out.r2.cell 0
                   have y26 : w6.cell? ⟨w.heap.size + 1 + 1, 1, none⟩ = some (.int .u64 0) := S6.out.r2.cell 1
                   have x16 : w6.cell? ⟨w.heap.size + 1 + 1 + 1, 0, none⟩ = some (.int .u64 0) := S6.out.r3.cell 0
                   have x26 : w6.cell? ⟨w.heap.size + 1 + 1 + 1, 1, none⟩ = some (.int .u64 v) := S6.out.r3.cell 1
                   clear g6))
              have u1 := S6.out.pf.links
              have u2 := S6.out.pf.hi k1 hk1n
              have u3 := S6.out.pf.lo k1 hk1n
              go_region_held3 (fun w' => w'.cell? ⟨p, 0, none⟩ = some (.slice (some ⟨gl, 0, none⟩) n n) ∧ w'.cell? ⟨gl, k1 * 5, none⟩ = some (.int .u64 0) ∧ w'.cell? ⟨gl, k1 * 5 + 1, none⟩ = some (.int .u64 (A k1)) ∧ w'.cell? ⟨w5.heap.size, 0, none⟩ = some (.int .u64 0) ∧ w'.cell? ⟨w5.heap.size, 1, none⟩ = some (.int .u64 (v + h))) (go_keep) (first
                | (go_at_call 21; refine (before_no (A k1) (v + h) w6.drew (by omega)).mono ?_; rintro e w7 ⟨rfl, g7⟩; have a1 := g7.cell u1 (by simp); have a2 := g7.cell u2 (by simp); have a3 := g7.cell u3 (by simp); have a4 := g7.cell E0 (by simp); have a5 := g7.cell E1 (by simp)))
              have S_w7 : Hid (St w w7 p gl gk gb gs n A F f t v) := S6.out.grown ⟨g7.os, g7.tape, g7.output, g7.size, g7.block⟩
              have fz7 : ∀ i, w7.frozen? ⟨w.heap.size + 1 + 1, i, none⟩ = false := fun i => S_w7.out.r2.frozen i
              have y17 : w7.cell? ⟨w.heap.size + 1 + 1, 0, none⟩ = some (.int .u64 0) := S_w7.out.r2.cell 0
              have y27 : w7.cell? ⟨w.heap.size + 1 + 1, 1, none⟩ = some (.int .u64 0) := S_w7.out.r2.cell 1
              have x17 : w7.cell? ⟨w.heap.size + 1 + 1 + 1, 0, none⟩ = some (.int .u64 0) := S_w7.out.r3.cell 0
              have x27 : w7.cell? ⟨w.heap.size + 1 + 1 + 1, 1, none⟩ = some (.int .u64 v) := S_w7.out.r3.cell 1
              clear g7 a1 a2 a3 a4 a5 u1 u2 u3
              go_wp2
              refine bodyPost_ret (results_cell2 rfl rfl (S_w7.out.result v)) rfl ?_
              exact ⟨⟨some v, rfl, open_fits HO'.out (by omega) (.inr (by rw [← HK1.out]; omega)) HI.out⟩, S_w7.out.left _ _⟩
          · have e3 := ST.out.pf.last k (by omega)
            go_wp2_with (first
              | (go_at_call 20; refine (plus_any v h wr hx0' hx1' h0 h1).mono ?_; rintro e w5 ⟨rfl, g5⟩; have S5 : Hid (St w w5 p gl gk gb gs n A F f t v) := ST.out.grown g5; have z0 : w5.cell? ⟨w.heap.size + 1, 0, none⟩ = some (.int .u64 0) := S5.out.r1.cell 0; have z1 : w5.cell? ⟨w.heap.size + 1, 1, none⟩ = some (.int .u64 t) := S5.out.r1.cell 1; have zl : w.heap.size + 1 < w5.heap.size := S5.out.r1.lt; clear g5)
              | (go_at_call 21; refine (before_no t (v + h) (w5.alloc (Obj.cells #[Value.int IntKind.u64 0, Value.int IntKind.u64 (v + h)] 51)) (by omega)).mono ?_; rintro e w6 ⟨rfl, g6⟩; have S6 : Hid (St w w6 p gl gk gb gs n A F f t v) := S5.out.grown (grownBy_trans (grownBy_alloc (grownBy_refl _ _) _) g6)
                 have E0 : w6.cell? ⟨w5.heap.size, 0, none⟩ = some (.int .u64 0) := g6.cell (by go_simp) (by simp)
                 have E1 : w6.cell? ⟨w5.heap.size, 1, none⟩ = some (.int .u64 (v + h)) := g6.cell (by go_simp) (by simp)
                 have fz6 : ∀ i, w6.frozen? ⟨w.heap.size + 1 + 1, i, none⟩ = false := fun i => S6.out.r2.frozen i
                 have y16 : w6.cell? ⟨w.heap.size + 1 + 1, 0, none⟩ = some (.int .u64 0) := S6.out.r2.cell 0
                 have y26 : w6.cell? ⟨w.heap.size + 1 + 1, 1, none⟩ = some (.int .u64 0) := S6.out.r2.cell 1
                 have x16 : w6.cell? ⟨w.heap.size + 1 + 1 + 1, 0, none⟩ = some (.int .u64 0) := S6.out.r3.cell 0
                 have x26 : w6.cell? ⟨w.heap.size + 1 + 1 + 1, 1, none⟩ = some (.int .u64 v) := S6.out.r3.cell 1
                 clear g6))
            go_region
            go_wp2
            refine bodyPost_ret (results_cell2 rfl rfl (S6.out.resultD v)) rfl ?_
            exact ⟨⟨some v, rfl, open_fits HO'.out (by omega) (.inl hl) HI.out⟩, S6.out.leftD _ _⟩
      | none =>
        obtain ⟨x, hxe⟩ : ∃ x, max (A k) f = x := ⟨_, rfl⟩
        have hxo : openAt f (A k) none = x := hxe
        rw [hxo] at HO hx0 hx1
        have HO' : Hid (Opened n A F f t size h k x) := HO.out
        have hx0' : 0 ≤ x := hx0
        have hx1' : x ≤ 100000 := hx1
        have HX : Hid (max (A k) f = x) := hxe
        clear HO hx0 hx1 hv hxo hxe
        have c3 := ST.out.pf.hi k hkn
        have c4 := ST.out.pf.lo k hkn
        have b0 : wr.cell? ⟨w.heap.size, 0, none⟩ = some (.int .u64 0) := ST.out.r0.cell 0
        have b1 : wr.cell? ⟨w.heap.size, 1, none⟩ = some (.int .u64 f) := ST.out.r0.cell 1
        have hg1 : ¬ (w.heap.size + 1 + 1 + 1 = gl) := by have := LT.out; omega
        have hg2 : ¬ (w.heap.size + 1 + 1 + 1 = w.heap.size) := by omega
        go_wp2
        go_region_held3 (fun w' => w'.cell? ⟨gl, k * 5, none⟩ = some (.int .u64 0) ∧ w'.cell? ⟨gl, k * 5 + 1, none⟩ = some (.int .u64 (A k)) ∧ w'.cell? ⟨w.heap.size, 0, none⟩ = some (.int .u64 0) ∧ w'.cell? ⟨w.heap.size, 1, none⟩ = some (.int .u64 f)) (go_keep) (first
          | (go_at_call 19; refine (max_is (A k) f x wr.drew HX.out).mono ?_; rintro e w4 ⟨rfl, g4⟩; have a1 := g4.cell c3 (by simp); have a2 := g4.cell c4 (by simp); have a3 := g4.cell b0 (by simp); have a4 := g4.cell b1 (by simp); have S4 : Hid (St w w4 p gl gk gb gs n A F f t v) := ST.out.grown ⟨g4.os, g4.tape, g4.output, g4.size, g4.block⟩; have s1 : w4.cell? ⟨w.heap.size + 1 + 1 + 1, 0, none⟩ = some (.int .u64 0) := S4.out.r3.cell 0; have s2 : w4.cell? ⟨w.heap.size + 1 + 1 + 1, 1, none⟩ = some (.int .u64 v) := S4.out.r3.cell 1; have s3 : ∀ i, w4.frozen? ⟨w.heap.size + 1 + 1 + 1, i, none⟩ = false := fun i => S4.out.r3.frozen i; clear g4))
        have SA : Hid (St w ((w4.setCell ⟨w.heap.size + 1 + 1 + 1, 0, none⟩ (.int .u64 0)).setCell ⟨w.heap.size + 1 + 1 + 1, 1, none⟩ (.int .u64 x)) p gl gk gb gs n A F f t x) := S4.out.setx x
        clear s1 s2 s3 a1 a2 a3 a4 S4 c1 c2 c3 c4 b0 b1 fz y1 y2
        generalize ((w4.setCell ⟨w.heap.size + 1 + 1 + 1, 0, none⟩ (.int .u64 0)).setCell ⟨w.heap.size + 1 + 1 + 1, 1, none⟩ (.int .u64 x)) = wa at SA ⊢
        have x1 : wa.cell? ⟨w.heap.size + 1 + 1 + 1, 0, none⟩ = some (.int .u64 0) := SA.out.r3.cell 0
        have x2 : wa.cell? ⟨w.heap.size + 1 + 1 + 1, 1, none⟩ = some (.int .u64 x) := SA.out.r3.cell 1
        have d1 := SA.out.pf.links
        by_cases hlate : t < x + h
        · obtain ⟨nx, e3⟩ : ∃ nx, wa.cell? ⟨gl, k * 5 + 4, none⟩ = some (.int .i32 nx) := by
            by_cases hl : k + 1 < n
            · exact ⟨_, SA.out.pf.next k hl⟩
            · exact ⟨_, SA.out.pf.last k (by omega)⟩
          go_wp2_with (first
            | (go_at_call 20; refine (plus_any x h wa hx0' hx1' h0 h1).mono ?_; rintro e w5 ⟨rfl, g5⟩; have S5 : Hid (St w w5 p gl gk gb gs n A F f t x) := SA.out.grown g5; have z0 : w5.cell? ⟨w.heap.size + 1, 0, none⟩ = some (.int .u64 0) := S5.out.r1.cell 0; have z1 : w5.cell? ⟨w.heap.size + 1, 1, none⟩ = some (.int .u64 t) := S5.out.r1.cell 1; have zl : w.heap.size + 1 < w5.heap.size := S5.out.r1.lt; clear g5)
            | (go_at_call 21; refine (before_yes t (x + h) (w5.alloc (Obj.cells #[Value.int IntKind.u64 0, Value.int IntKind.u64 (x + h)] 51)) (by omega)).mono ?_; rintro e w6 ⟨rfl, g6⟩; have S6 : Hid (St w w6 p gl gk gb gs n A F f t x) := S5.out.grown (grownBy_trans (grownBy_alloc (grownBy_refl _ _) _) g6)
               have E0 : w6.cell? ⟨w5.heap.size, 0, none⟩ = some (.int .u64 0) := g6.cell (by go_simp) (by simp)
               have E1 : w6.cell? ⟨w5.heap.size, 1, none⟩ = some (.int .u64 (x + h)) := g6.cell (by go_simp) (by simp)
               have fz6 : ∀ i, w6.frozen? ⟨w.heap.size + 1 + 1, i, none⟩ = false := fun i => S6.out.r2.frozen i
               have y16 : w6.cell? ⟨w.heap.size + 1 + 1, 0, none⟩ = some (.int .u64 0) := S6.out.r2.cell 0
               have y26 : w6.cell? ⟨w.heap.size + 1 + 1, 1, none⟩ = some (.int .u64 0) := S6.out.r2.cell 1
               have x16 : w6.cell? ⟨w.heap.size + 1 + 1 + 1, 0, none⟩ = some (.int .u64 0) := S6.out.r3.cell 0
               have x26 : w6.cell? ⟨w.heap.size + 1 + 1 + 1, 1, none⟩ = some (.int .u64 x) := S6.out.r3.cell 1
               clear g6))
          refine bodyPost_ret (results_cell2 rfl rfl (S6.out.result 0)) rfl ?_
          exact ⟨⟨none, rfl, open_late HO'.out (by omega)⟩, S6.out.left _ _⟩
        · by_cases hl : k + 1 < n
          · obtain ⟨k1, hk1⟩ : ∃ k1 : Nat, k1 = k + 1 := ⟨_, rfl⟩
            have e3 := SA.out.pf.next k hl
            have ek : ((k : Int) + 1) = ((k1 : Nat) : Int) := by omega
            rw [ek] at e3
            have hk1n : k1 < n := by omega
            have hk1z : (k1 : Int) < (n : Int) := by omega
            have hk1p : (0 : Int) ≤ (k1 : Int) := by omega
            have HK1 : Hid (k1 = k + 1) := hk1
            have hne : ((k1 : Int) == -1) = false := by simp
            have hne2 : decide ((k1 : Int) = -1) = false := by simp
            clear ek hk1
            by_cases hb2 : A k1 < x + h
            · have hb : A k1 < t := by omega
              go_wp2_with (first
                | (go_at_call 20; refine (plus_any x h wa hx0' hx1' h0 h1).mono ?_; rintro e w5 ⟨rfl, g5⟩; have S5 : Hid (St w w5 p gl gk gb gs n A F f t x) := SA.out.grown g5; have z0 : w5.cell? ⟨w.heap.size + 1, 0, none⟩ = some (.int .u64 0) := S5.out.r1.cell 0; have z1 : w5.cell? ⟨w.heap.size + 1, 1, none⟩ = some (.int .u64 t) := S5.out.r1.cell 1; have zl : w.heap.size + 1 < w5.heap.size := S5.out.r1.lt; clear g5)
                | (go_at_call 21; refine (before_no t (x + h) (w5.alloc (Obj.cells #[Value.int IntKind.u64 0, Value.int IntKind.u64 (x + h)] 51)) (by omega)).mono ?_; rintro e w6 ⟨rfl, g6⟩; have S6 : Hid (St w w6 p gl gk gb gs n A F f t x) := S5.out.grown (grownBy_trans (grownBy_alloc (grownBy_refl _ _) _) g6)
                   have E0 : w6.cell? ⟨w5.heap.size, 0, none⟩ = some (.int .u64 0) := g6.cell (by go_simp) (by simp)
                   have E1 : w6.cell? ⟨w5.heap.size, 1, none⟩ = some (.int .u64 (x + h)) := g6.cell (by go_simp) (by simp)
                   have fz6 : ∀ i, w6.frozen? ⟨w.heap.size + 1 + 1, i, none⟩ = false := fun i => S6.out.r2.frozen i
                   have y16 : w6.cell? ⟨w.heap.size + 1 + 1, 0, none⟩ = some (.int .u64 0) := S6.out.r2.cell 0
                   have y26 : w6.cell? ⟨w.heap.size + 1 + 1, 1, none⟩ = some (.int .u64 0) := S6.out.r2.cell 1
                   have x16 : w6.cell? ⟨w.heap.size + 1 + 1 + 1, 0, none⟩ = some (.int .u64 0) := S6.out.r3.cell 0
                   have x26 : w6.cell? ⟨w.heap.size + 1 + 1 + 1, 1, none⟩ = some (.int .u64 x) := S6.out.r3.cell 1
                   clear g6))
              have u1 := S6.out.pf.links
              have u2 := S6.out.pf.hi k1 hk1n
              have u3 := S6.out.pf.lo k1 hk1n
              go_region_held3 (fun w' => w'.cell? ⟨p, 0, none⟩ = some (.slice (some ⟨gl, 0, none⟩) n n) ∧ w'.cell? ⟨gl, k1 * 5, none⟩ = some (.int .u64 0) ∧ w'.cell? ⟨gl, k1 * 5 + 1, none⟩ = some (.int .u64 (A k1)) ∧ w'.cell? ⟨w5.heap.size, 0, none⟩ = some (.int .u64 0) ∧ w'.cell? ⟨w5.heap.size, 1, none⟩ = some (.int .u64 (x + h))) (go_keep) (first
                | (go_at_call 21; refine (before_yes (A k1) (x + h) w6.drew (by omega)).mono ?_; rintro e w7 ⟨rfl, g7⟩; have a1 := g7.cell u1 (by simp); have a2 := g7.cell u2 (by simp); have a3 := g7.cell u3 (by simp); have a4 := g7.cell E0 (by simp); have a5 := g7.cell E1 (by simp)))
              have S_w7 : Hid (St w w7 p gl gk gb gs n A F f t x) := S6.out.grown ⟨g7.os, g7.tape, g7.output, g7.size, g7.block⟩
              have fz7 : ∀ i, w7.frozen? ⟨w.heap.size + 1 + 1, i, none⟩ = false := fun i => S_w7.out.r2.frozen i
              have y17 : w7.cell? ⟨w.heap.size + 1 + 1, 0, none⟩ = some (.int .u64 0) := S_w7.out.r2.cell 0
              have y27 : w7.cell? ⟨w.heap.size + 1 + 1, 1, none⟩ = some (.int .u64 0) := S_w7.out.r2.cell 1
              have x17 : w7.cell? ⟨w.heap.size + 1 + 1 + 1, 0, none⟩ = some (.int .u64 0) := S_w7.out.r3.cell 0
              have x27 : w7.cell? ⟨w.heap.size + 1 + 1 + 1, 1, none⟩ = some (.int .u64 x) := S_w7.out.r3.cell 1
              clear g7 a1 a2 a3 a4 a5 u1 u2 u3
              go_wp2
              have u1_w8 := S_w7.out.pf.links
              have u2_w8 := S_w7.out.pf.hi k1 hk1n
              have u3_w8 := S_w7.out.pf.lo k1 hk1n
              have u4_w8 : w7.cell? ⟨w.heap.size + 1, 0, none⟩ = some (.int .u64 0) := S_w7.out.r1.cell 0
              have u5_w8 : w7.cell? ⟨w.heap.size + 1, 1, none⟩ = some (.int .u64 t) := S_w7.out.r1.cell 1
              go_region_held3 (fun w' => w'.cell? ⟨p, 0, none⟩ = some (.slice (some ⟨gl, 0, none⟩) n n) ∧ w'.cell? ⟨gl, k1 * 5, none⟩ = some (.int .u64 0) ∧ w'.cell? ⟨gl, k1 * 5 + 1, none⟩ = some (.int .u64 (A k1)) ∧ w'.cell? ⟨w.heap.size + 1, 0, none⟩ = some (.int .u64 0) ∧ w'.cell? ⟨w.heap.size + 1, 1, none⟩ = some (.int .u64 t)) (go_keep) (first
                | (go_at_call 21; refine (before_yes (A k1) t w7.drew (by omega)).mono ?_; rintro e w8 ⟨rfl, g_w8⟩; have a1 := g_w8.cell u1_w8 (by simp); have a2 := g_w8.cell u2_w8 (by simp); have a3 := g_w8.cell u3_w8 (by simp); have a4 := g_w8.cell u4_w8 (by simp); have a5 := g_w8.cell u5_w8 (by simp)))
              have S_w8 : Hid (St w w8 p gl gk gb gs n A F f t x) := S_w7.out.grown ⟨g_w8.os, g_w8.tape, g_w8.output, g_w8.size, g_w8.block⟩
              have fz_w8 : ∀ i, w8.frozen? ⟨w.heap.size + 1 + 1, i, none⟩ = false := fun i => S_w8.out.r2.frozen i
              have y1_w8 : w8.cell? ⟨w.heap.size + 1 + 1, 0, none⟩ = some (.int .u64 0) := S_w8.out.r2.cell 0
              have y2_w8 : w8.cell? ⟨w.heap.size + 1 + 1, 1, none⟩ = some (.int .u64 0) := S_w8.out.r2.cell 1
              clear g_w8 a1 a2 a3 a4 a5
              go_wp2
              go_roundw
              case rel => exact ⟨k1, some x, x, rfl, rfl, by rw [HK1.out]; exact open_next HO'.out (by omega) hl (by rw [← HK1.out]; exact hb2) HI.out, S_w8.out, fun x e => by cases e; rfl⟩
              case measure => have := HK1.out; simp [intOf]; omega
            · go_wp2_with (first
                | (go_at_call 20; refine (plus_any x h wa hx0' hx1' h0 h1).mono ?_; rintro e w5 ⟨rfl, g5⟩; have S5 : Hid (St w w5 p gl gk gb gs n A F f t x) := SA.out.grown g5; have z0 : w5.cell? ⟨w.heap.size + 1, 0, none⟩ = some (.int .u64 0) := S5.out.r1.cell 0; have z1 : w5.cell? ⟨w.heap.size + 1, 1, none⟩ = some (.int .u64 t) := S5.out.r1.cell 1; have zl : w.heap.size + 1 < w5.heap.size := S5.out.r1.lt; clear g5)
                | (go_at_call 21; refine (before_no t (x + h) (w5.alloc (Obj.cells #[Value.int IntKind.u64 0, Value.int IntKind.u64 (x + h)] 51)) (by omega)).mono ?_; rintro e w6 ⟨rfl, g6⟩; have S6 : Hid (St w w6 p gl gk gb gs n A F f t x) := S5.out.grown (grownBy_trans (grownBy_alloc (grownBy_refl _ _) _) g6)
                   have E0 : w6.cell? ⟨w5.heap.size, 0, none⟩ = some (.int .u64 0) := g6.cell (by go_simp) (by simp)
                   have E1 : w6.cell? ⟨w5.heap.size, 1, none⟩ = some (.int .u64 (x + h)) := g6.cell (by go_simp) (by simp)
                   have fz6 : ∀ i, w6.frozen? ⟨w.heap.size + 1 + 1, i, none⟩ = false := fun i => S6.out.r2.frozen i
                   have y16 : w6.cell? ⟨w.heap.size + 1 + 1, 0, none⟩ = some (.int .u64 0) := S6.out.r2.cell 0
                   have y26 : w6.cell? ⟨w.heap.size + 1 + 1, 1, none⟩ = some (.int .u64 0) := S6.out.r2.cell 1
                   have x16 : w6.cell? ⟨w.heap.size + 1 + 1 + 1, 0, none⟩ = some (.int .u64 0) := S6.out.r3.cell 0
                   have x26 : w6.cell? ⟨w.heap.size + 1 + 1 + 1, 1, none⟩ = some (.int .u64 x) := S6.out.r3.cell 1
                   clear g6))
              have u1 := S6.out.pf.links
              have u2 := S6.out.pf.hi k1 hk1n
              have u3 := S6.out.pf.lo k1 hk1n
              go_region_held3 (fun w' => w'.cell? ⟨p, 0, none⟩ = some (.slice (some ⟨gl, 0, none⟩) n n) ∧ w'.cell? ⟨gl, k1 * 5, none⟩ = some (.int .u64 0) ∧ w'.cell? ⟨gl, k1 * 5 + 1, none⟩ = some (.int .u64 (A k1)) ∧ w'.cell? ⟨w5.heap.size, 0, none⟩ = some (.int .u64 0) ∧ w'.cell? ⟨w5.heap.size, 1, none⟩ = some (.int .u64 (x + h))) (go_keep) (first
                | (go_at_call 21; refine (before_no (A k1) (x + h) w6.drew (by omega)).mono ?_; rintro e w7 ⟨rfl, g7⟩; have a1 := g7.cell u1 (by simp); have a2 := g7.cell u2 (by simp); have a3 := g7.cell u3 (by simp); have a4 := g7.cell E0 (by simp); have a5 := g7.cell E1 (by simp)))
              have S_w7 : Hid (St w w7 p gl gk gb gs n A F f t x) := S6.out.grown ⟨g7.os, g7.tape, g7.output, g7.size, g7.block⟩
              have fz7 : ∀ i, w7.frozen? ⟨w.heap.size + 1 + 1, i, none⟩ = false := fun i => S_w7.out.r2.frozen i
              have y17 : w7.cell? ⟨w.heap.size + 1 + 1, 0, none⟩ = some (.int .u64 0) := S_w7.out.r2.cell 0
              have y27 : w7.cell? ⟨w.heap.size + 1 + 1, 1, none⟩ = some (.int .u64 0) := S_w7.out.r2.cell 1
              have x17 : w7.cell? ⟨w.heap.size + 1 + 1 + 1, 0, none⟩ = some (.int .u64 0) := S_w7.out.r3.cell 0
              have x27 : w7.cell? ⟨w.heap.size + 1 + 1 + 1, 1, none⟩ = some (.int .u64 x) := S_w7.out.r3.cell 1
              clear g7 a1 a2 a3 a4 a5 u1 u2 u3
              go_wp2
              refine bodyPost_ret (results_cell2 rfl rfl (S_w7.out.result x)) rfl ?_
              exact ⟨⟨some x, rfl, open_fits HO'.out (by omega) (.inr (by rw [← HK1.out]; omega)) HI.out⟩, S_w7.out.left _ _⟩
          · have e3 := SA.out.pf.last k (by omega)
            go_wp2_with (first
              | (go_at_call 20; refine (plus_any x h wa hx0' hx1' h0 h1).mono ?_; rintro e w5 ⟨rfl, g5⟩; have S5 : Hid (St w w5 p gl gk gb gs n A F f t x) := SA.out.grown g5; have z0 : w5.cell? ⟨w.heap.size + 1, 0, none⟩ = some (.int .u64 0) := S5.out.r1.cell 0; have z1 : w5.cell? ⟨w.heap.size + 1, 1, none⟩ = some (.int .u64 t) := S5.out.r1.cell 1; have zl : w.heap.size + 1 < w5.heap.size := S5.out.r1.lt; clear g5)
              | (go_at_call 21; refine (before_no t (x + h) (w5.alloc (Obj.cells #[Value.int IntKind.u64 0, Value.int IntKind.u64 (x + h)] 51)) (by omega)).mono ?_; rintro e w6 ⟨rfl, g6⟩; have S6 : Hid (St w w6 p gl gk gb gs n A F f t x) := S5.out.grown (grownBy_trans (grownBy_alloc (grownBy_refl _ _) _) g6)
                 have E0 : w6.cell? ⟨w5.heap.size, 0, none⟩ = some (.int .u64 0) := g6.cell (by go_simp) (by simp)
                 have E1 : w6.cell? ⟨w5.heap.size, 1, none⟩ = some (.int .u64 (x + h)) := g6.cell (by go_simp) (by simp)
                 have fz6 : ∀ i, w6.frozen? ⟨w.heap.size + 1 + 1, i, none⟩ = false := fun i => S6.out.r2.frozen i
                 have y16 : w6.cell? ⟨w.heap.size + 1 + 1, 0, none⟩ = some (.int .u64 0) := S6.out.r2.cell 0
                 have y26 : w6.cell? ⟨w.heap.size + 1 + 1, 1, none⟩ = some (.int .u64 0) := S6.out.r2.cell 1
                 have x16 : w6.cell? ⟨w.heap.size + 1 + 1 + 1, 0, none⟩ = some (.int .u64 0) := S6.out.r3.cell 0
                 have x26 : w6.cell? ⟨w.heap.size + 1 + 1 + 1, 1, none⟩ = some (.int .u64 x) := S6.out.r3.cell 1
                 clear g6))
            go_region
            go_wp2
            refine bodyPost_ret (results_cell2 rfl rfl (S6.out.resultD x)) rfl ?_
            exact ⟨⟨some x, rfl, open_fits HO'.out (by omega) (.inl hl) HI.out⟩, S6.out.leftD _ _⟩

end Go.Proofs.Ybulkafoa
