import Derived.Test.YbulkafoaSv
import Derived.Test.YbulkafoaStr
namespace Go.Proofs.Ybulkafoa
open Go.RowKit Go.Deep

set_option maxHeartbeats 400000 in
set_option maxRecDepth 100000 in
theorem st_short (a0 a1 : Option Addr) (l0 c0 n c1 : Nat) (f t size h : Int) (w : World) (hn : n = 0 ∨ 300 < n) (hb : (n : Int) ≤ 9223372036854775807) :
    Calls Yba.prog 7 #[.slice a0 l0 c0, .slice a1 n c1, .int .u16 f, .int .u16 t, .int .i64 size, .int .u16 h] w fun e w' => e = .returned (.bool true) ∧ Below w.heap.size w w' := by
  by_cases h0 : n = 0
  · subst h0
    go_enter Yba.func7, Yba.ntmps7
    go_wp2
    go_ret
    exact ⟨rfl, Below.refl _ _⟩
  · go_enter Yba.func7, Yba.ntmps7
    go_wp2
    go_ret
    exact ⟨rfl, Below.refl _ _⟩

theorem rem_nat' (x : Int) (l : Nat) (h1 : 1 ≤ l) : ∃ q : Nat, x % (l : Int) = (q : Int) ∧ q < l := by
  have a := Int.emod_nonneg x (b := (l : Int)) (by omega)
  have b := Int.emod_lt_of_pos x (b := (l : Int)) (by omega)
  exact ⟨(x % (l : Int)).toNat, by omega, by omega⟩

/-- The links so far. -/
def Lk (n : Nat) (A F : Nat → Int) (C : List Value) (j : Nat) : Prop := ∀ a, a < j → C[a * 5]? = some (.int .u64 0) ∧ C[a * 5 + 1]? = some (.int .u64 (A a)) ∧ C[a * 5 + 2]? = some (.int .i64 (F a)) ∧ C[a * 5 + 4]? = some (.int .i32 (if a + 1 = n then -1 else (a : Int) + 1))
theorem lk_next {n : Nat} {A F : Nat → Int} {C : List Value} {j : Nat} {p q : Int} (h : Lk n A F C j) (hl : j * 5 + 5 ≤ C.length) (hq : q = if j + 1 = n then -1 else (j : Int) + 1) : Lk n A F (five C j (A j) (F j) p q) (j + 1) := by
  intro a ha
  by_cases e : a = j
  · subst e
    rw [← hq]
    exact five_self C a _ _ _ _ hl
  · have ha' : a < j := by omega
    obtain ⟨k1, k2, k3, k4⟩ := h a ha'
    exact ⟨(five_other C j a 0 _ _ _ _ ha' (by omega)).trans k1, (five_other C j a 1 _ _ _ _ ha' (by omega)).trans k2, (five_other C j a 2 _ _ _ _ ha' (by omega)).trans k3, (five_other C j a 4 _ _ _ _ ha' (by omega)).trans k4⟩

theorem given_of {w6 : World} {N j : Nat} {y : Addr} {A F : Nat → Int} (h : Inc j A ∧ A 0 = 0 ∧ ∀ q, q < j → A q ≤ 100000) (h1 : 1 ≤ j) (h2 : j ≤ 300) (ha : ∀ q, q < j → w6.cell? ⟨N, q, none⟩ = some (.int .u64 (A q))) (hf : ∀ q, q < j → w6.cell? (y.add q) = some (.int .i64 (F q))) (o : Obj) : Given (w6.alloc o) N j y A F :=
  ⟨fun q hq => (World.cell?_alloc_lt _ _ _ (World.block_lt_of_cell? w6 _ (ha q hq))).trans (ha q hq), fun q hq => (World.cell?_alloc_lt _ _ _ (World.block_lt_of_cell? w6 _ (hf q hq))).trans (hf q hq), h.1, h.2.1, h.2.2, h1, h2⟩

/-- Behind the call of stretch. -/
def Done (w : World) (j : Nat) (y : Addr) (A F : Nat → Int) (x : Ending) (e : Ending) (w6 : World) : Prop := e = x ∧ Below w.heap.size w w6 ∧ ∀ o, Given (w6.alloc o) w.heap.size j y A F
theorem done_of {w w1 w5 : World} {p j : Nat} {y : Addr} {A F : Nat → Int} {args : Array Value} {q : Option Int → Prop} {r0 : Option Int} (hc : Calls Yba.prog 15 args w5 fun e w' => GivesOff e q ∧ w5.grownBy w' (some p)) (hr0 : ∀ r, q r → r = r0) (hp : w.heap.size < p) (hw1 : w.heap.size < w1.heap.size)
    (G5 : Below w.heap.size w w5) (GW : w1.grownBy w5 (some w1.heap.size)) (ha : ∀ q, q < j → w1.cell? ⟨w.heap.size, q, none⟩ = some (.int .u64 (A q))) (hf : ∀ q, q < j → w.cell? (y.add q) = some (.int .i64 (F q))) (hi : Inc j A ∧ A 0 = 0 ∧ ∀ q, q < j → A q ≤ 100000) (h1 : 1 ≤ j) (h2 : j ≤ 300) :
    Calls Yba.prog 15 args w5 (Done w j y A F (.returned (.tuple #[.agg #[.int .u64 0, .int .u64 (r0.getD 0)], .bool r0.isSome]))) := hc.mono fun e w6 ⟨⟨r, he, hr⟩, g6⟩ => by
  have B6 : Below w.heap.size w w6 := G5.grown g6 G5.size (by intro k hk; simp at hk; omega)
  refine ⟨by rw [he, hr0 r hr], B6, given_of hi h1 h2 (fun q hq => g6.cell (GW.cell (ha q hq) (by simp; omega)) (by simp; omega)) (fun q hq => (B6.cell (p := y.add q) (World.block_lt_of_cell? w _ (hf q hq))).trans (hf q hq))⟩

theorem new_row3 (w : World) (t : TypeId) (L : Array Value) : RowIs (w.alloc (.cells L t)) w.heap.size t L.toList := by
  unfold RowIs
  show (w.heap.push _)[w.heap.size]? = _
  simp

theorem pf_of {wr : World} {g i : Nat} {A F : Nat → Int} {C : List Value} {V B S : Array Value} {tb ts : TypeId} (h1 : 1 ≤ i) (h2 : i ≤ 300) (r1 : RowIs wr g 75 C) (lk : Lk i A F C i) (r2 : RowIs wr (g + 1) 21 (List.replicate i (.int .i32 0))) (hsz : wr.heap.size = g + 2)
    (b0 : B[0]? = some (.int .i32 0)) (b1 : B[1]? = some (.int .i32 ((i : Int) - 1))) (s0 : S[0]? = some (.int .i32 0))
    (v : V[0]? = some (.slice (some ⟨g, 0, none⟩) i i) ∧ V[1]? = some (.slice (some ⟨g + 1, 0, none⟩) i i) ∧ V[1799]? = some (.int .i32 0) ∧ V[1800]? = some (.int .i32 0) ∧ V[1803]? = some (.slice (some ⟨wr.heap.size, 0, none⟩) 1 1) ∧ V[1805]? = some (.slice (some ⟨wr.heap.size + 1, 0, none⟩) 1 1))
    (inc : Inc i A) (a0 : A 0 = 0) (top : ∀ j, j < i → A j ≤ 100000) :
    Pf (((wr.alloc (.cells B tb)).alloc (.cells S ts)).alloc (.cells V 61)) (wr.heap.size + 1 + 1) g (g + 1) wr.heap.size (wr.heap.size + 1) i A F ∧ (((wr.alloc (.cells B tb)).alloc (.cells S ts)).alloc (.cells V 61)).cell? ⟨wr.heap.size + 1 + 1, 1800, none⟩ = some (.int .i32 0) := by
  have q1 := ((r1.alloc (.cells B tb)).alloc (.cells S ts)).alloc (.cells V 61)
  have q2 := ((r2.alloc (.cells B tb)).alloc (.cells S ts)).alloc (.cells V 61)
  have q3 := ((new_row3 wr tb B).alloc (.cells S ts)).alloc (.cells V 61)
  have q4 := (new_row3 (wr.alloc (.cells B tb)) ts S).alloc (.cells V 61)
  have q5 := new_row3 ((wr.alloc (.cells B tb)).alloc (.cells S ts)) 61 V
  simp only [World.size_alloc] at q4 q5
  obtain ⟨v0, v1, v2, v3, v4, v5⟩ := v
  have c5 : ∀ o, (((wr.alloc (.cells B tb)).alloc (.cells S ts)).alloc (.cells V 61)).cell? ⟨wr.heap.size + 1 + 1, o, none⟩ = V[o]? := fun o => by rw [q5.cell]; simp
  refine ⟨⟨(c5 _).trans v0, (c5 _).trans v1, (c5 _).trans v2, (c5 _).trans v4, (c5 _).trans v5, fun j hj => (q1.cell _).trans (lk j hj).1, fun j hj => (q1.cell _).trans (lk j hj).2.1, fun j hj => (q1.cell _).trans (lk j hj).2.2.1,
    fun j hj => (q1.cell _).trans ((lk j (by omega)).2.2.2.trans (by rw [if_neg (by omega)])), fun j hj => (q1.cell _).trans ((lk j (by omega)).2.2.2.trans (by rw [if_pos hj])), ?_, ?_, ?_, ?_, q5.frozen _, inc, a0, top, h1, h2, by omega⟩, (c5 _).trans v3⟩
  · rw [q2.cell]
    obtain ⟨m, rfl⟩ : ∃ m, i = m + 1 := ⟨i - 1, by omega⟩
    rfl
  · rw [q3.cell]; simpa using b0
  · rw [q3.cell]; simpa using b1
  · rw [q4.cell]; simpa using s0

/-- The call of stretch, as the law makes it. -/
theorem call15 {w w1 w5 : World} {p gl gk gb gs j : Nat} {y : Addr} {A F : Nat → Int} {f t size h : Int} (r0 : Option Int) (hpf : Pf w5 p gl gk gb gs j A F ∧ w5.cell? ⟨p, 1800, none⟩ = some (.int .i32 0)) (f0 : 0 ≤ f) (f1 : f ≤ 65535) (h0 : 1 ≤ h) (h1 : h ≤ 65536) (hr0 : ∀ r, Ans j A F f t size h r → r = r0) (hp : w.heap.size < p) (hw1 : w.heap.size < w1.heap.size)
    (G5 : Below w.heap.size w w5) (GW : w1.grownBy w5 (some w1.heap.size)) (ha : ∀ q, q < j → w1.cell? ⟨w.heap.size, q, none⟩ = some (.int .u64 (A q))) (hf : ∀ q, q < j → w.cell? (y.add q) = some (.int .i64 (F q))) (hi : Inc j A ∧ A 0 = 0 ∧ ∀ q, q < j → A q ≤ 100000) (j1 : 1 ≤ j) (j2 : j ≤ 300) :
    Calls Yba.prog 15 #[.pointer (some ⟨p, 0, none⟩), .agg #[.int .u64 0, .int .u64 f], .agg #[.int .u64 0, .int .u64 t], .int .i64 size, .int .i64 h] w5 (Done w j y A F (.returned (.tuple #[.agg #[.int .u64 0, .int .u64 (r0.getD 0)], .bool r0.isSome]))) :=
  done_of (w := w) (w1 := w1) (w5 := w5) (p := p) (j := j) (y := y) (A := A) (F := F) (q := Ans j A F f t size h) (r0 := r0) (stretch_any p gl gk gb gs j A F f t size h w5 hpf.1 hpf.2 f0 f1 h0 h1) hr0 hp hw1 G5 GW ha hf hi j1 j2
theorem call15_some {w w1 w5 : World} {p gl gk gb gs j : Nat} {y : Addr} {A F : Nat → Int} {f t size h : Int} (x : Int) (hpf : Pf w5 p gl gk gb gs j A F ∧ w5.cell? ⟨p, 1800, none⟩ = some (.int .i32 0)) (f0 : 0 ≤ f) (f1 : f ≤ 65535) (h0 : 1 ≤ h) (h1 : h ≤ 65536) (hr0 : ∀ r, Ans j A F f t size h r → r = some x) (hp : w.heap.size < p) (hw1 : w.heap.size < w1.heap.size)
    (G5 : Below w.heap.size w w5) (GW : w1.grownBy w5 (some w1.heap.size)) (ha : ∀ q, q < j → w1.cell? ⟨w.heap.size, q, none⟩ = some (.int .u64 (A q))) (hf : ∀ q, q < j → w.cell? (y.add q) = some (.int .i64 (F q))) (hi : Inc j A ∧ A 0 = 0 ∧ ∀ q, q < j → A q ≤ 100000) (j1 : 1 ≤ j) (j2 : j ≤ 300) :
    Hid (Calls Yba.prog 15 #[.pointer (some ⟨p, 0, none⟩), .agg #[.int .u64 0, .int .u64 f], .agg #[.int .u64 0, .int .u64 t], .int .i64 size, .int .i64 h] w5 (Done w j y A F (.returned (.tuple #[.agg #[.int .u64 0, .int .u64 x], .bool true])))) := by
  have c := call15 (some x) hpf f0 f1 h0 h1 hr0 hp hw1 G5 GW ha hf hi j1 j2
  exact c
theorem call15_none {w w1 w5 : World} {p gl gk gb gs j : Nat} {y : Addr} {A F : Nat → Int} {f t size h : Int} (hpf : Pf w5 p gl gk gb gs j A F ∧ w5.cell? ⟨p, 1800, none⟩ = some (.int .i32 0)) (f0 : 0 ≤ f) (f1 : f ≤ 65535) (h0 : 1 ≤ h) (h1 : h ≤ 65536) (hr0 : ∀ r, Ans j A F f t size h r → r = none) (hp : w.heap.size < p) (hw1 : w.heap.size < w1.heap.size)
    (G5 : Below w.heap.size w w5) (GW : w1.grownBy w5 (some w1.heap.size)) (ha : ∀ q, q < j → w1.cell? ⟨w.heap.size, q, none⟩ = some (.int .u64 (A q))) (hf : ∀ q, q < j → w.cell? (y.add q) = some (.int .i64 (F q))) (hi : Inc j A ∧ A 0 = 0 ∧ ∀ q, q < j → A q ≤ 100000) (j1 : 1 ≤ j) (j2 : j ≤ 300) :
    Hid (Calls Yba.prog 15 #[.pointer (some ⟨p, 0, none⟩), .agg #[.int .u64 0, .int .u64 f], .agg #[.int .u64 0, .int .u64 t], .int .i64 size, .int .i64 h] w5 (Done w j y A F (.returned (.tuple #[.agg #[.int .u64 0, .int .u64 0], .bool false])))) := by
  have c := call15 none hpf f0 f1 h0 h1 hr0 hp hw1 G5 GW ha hf hi j1 j2
  exact c

/-- The call of the model, as the law makes it. -/
theorem call16_some {g j cp : Nat} {y : Addr} {A F : Nat → Int} {f t size h : Int} (x : Int) (f0 : 0 ≤ f) (f1 : f ≤ 65535) (h0 : 1 ≤ h) (h1 : h ≤ 65536) (hr0 : ∀ r, Ans j A F f t size h r → r = some x) :
    Hid (∀ w7, Given w7 g j y A F → Calls Yba.prog 16 #[.slice (some ⟨g, 0, none⟩) j j, .slice (some y) j cp, .int .u64 f, .int .u64 t, .int .i64 size, .int .u64 h] w7 fun e w8 => e = .returned (.tuple #[.int .u64 x, .bool true]) ∧ w8 = w7) := by
  intro w7 g7
  refine (model_any g j cp y A F f t size h w7 g7 f0 f1 h0 h1).mono ?_
  rintro e w8 ⟨⟨r, he, hr⟩, hw⟩
  rw [hr0 r hr] at he
  exact ⟨he, hw⟩
theorem call16_none {g j cp : Nat} {y : Addr} {A F : Nat → Int} {f t size h : Int} (f0 : 0 ≤ f) (f1 : f ≤ 65535) (h0 : 1 ≤ h) (h1 : h ≤ 65536) (hr0 : ∀ r, Ans j A F f t size h r → r = none) :
    Hid (∀ w7, Given w7 g j y A F → Calls Yba.prog 16 #[.slice (some ⟨g, 0, none⟩) j j, .slice (some y) j cp, .int .u64 f, .int .u64 t, .int .i64 size, .int .u64 h] w7 fun e w8 => e = .returned (.tuple #[.int .u64 0, .bool false]) ∧ w8 = w7) := by
  intro w7 g7
  refine (model_any g j cp y A F f t size h w7 g7 f0 f1 h0 h1).mono ?_
  rintro e w8 ⟨⟨r, he, hr⟩, hw⟩
  rw [hr0 r hr] at he
  exact ⟨he, hw⟩

end Go.Proofs.Ybulkafoa
