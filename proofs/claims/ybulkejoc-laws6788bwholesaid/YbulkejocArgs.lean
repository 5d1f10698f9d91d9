/- The law's arguments, opened: two slices of structs. No Go text is walked here. -/
import Derived.Test.YbulkejocPre
import Derived.Deep.Slices
import Derived.ChangeSame
import Derived.SizedLaws
import Derived.Deep.SlicePairs
namespace Go.Proofs.Ybulkejoc
open Go.ChangeShapes Go.WideShapes Go.ChangeAt Go.RowKit Go.Deep

theorem cells42 : Yba.prog.cellsOf 42 = 4 := by kernel_rfl
theorem cells51 : Yba.prog.cellsOf 51 = 5 := by kernel_rfl
theorem cells9 : Yba.prog.cellsOf 9 = 1 := by kernel_rfl
theorem cells22 : Yba.prog.cellsOf 22 = 1 := by kernel_rfl
theorem cells5 : Yba.prog.cellsOf 5 = 1 := by kernel_rfl

section
variable {H : Type} {enc : TypeId × Value → H} {w : World} {base : Nat} {spare : Nat → Bool} {held : Bool}

/-- A whole number's bounds, as a Nat. -/
theorem of_u64 {n : Int} (h : (Lit.int .u64 n).wf = true) : ∃ k : Nat, n = (k : Int) ∧ k < 18446744073709551616 := by
  have h0 : IntKind.u64.min ≤ n ∧ n ≤ IntKind.u64.max := by simpa [Lit.wf] using h
  have h1 : (0 : Int) ≤ n ∧ n ≤ 18446744073709551615 := h0
  exact ⟨n.toNat, by omega, by omega⟩
theorem of_u8 {n : Int} (h : (Lit.int .u8 n).wf = true) : ∃ k : Nat, n = (k : Int) ∧ k < 256 := by
  have h0 : IntKind.u8.min ≤ n ∧ n ≤ IntKind.u8.max := by simpa [Lit.wf] using h
  have h1 : (0 : Int) ≤ n ∧ n ≤ 255 := h0
  exact ⟨n.toNat, by omega, by omega⟩

theorem weights_all {P : Program} {e : TypeId} : ∀ {l : List (DataW H)} {d : DataW H}, d ∈ l → ∀ n ∈ d.weights P e, n ∈ DataW.weightsAll P e l
  | d0 :: l, d, hd, n, hn => by
    simp only [DataW.weightsAll, List.mem_append]
    rcases List.mem_cons.1 hd with rfl | hd
    · exact Or.inl hn
    · exact Or.inr (weights_all hd n hn)
  | [], _, hd, _, _ => by simp at hd

theorem spot_none {a : Addr} {n : Nat} {cs : List Value} (hn : 0 < n) (h : w.cells? base (a.add 0) n = some cs) : a.spot = none := by
  obtain ⟨_, hl, hcell⟩ := World.cells?_some h
  have e0 := hcell 0 hn
  rw [add_add, List.getElem?_eq_getElem (by omega)] at e0
  simpa [Addr.add] using World.cell?_spot e0

set_option maxRecDepth 100000 in
theorem open_members {fuel : Nat} {cs : List Value} {x : DataW H × List MemPlace} (h : DataW.trod enc Yba.prog w base spare held fuel 23 cs = some x) (hwt : ∀ n ∈ x.1.weights Yba.prog 23, n ≤ reachBytes) :
    ∃ MA nm mcap ms, cs = [.slice MA nm mcap] ∧ nm ≤ maxLen ∧ InM w MA nm ms := by
  rcases open_slice Yba.underlying23 h with ⟨h0, _⟩ | ⟨a, len, cap, m, n, D, Pl, rfl, hb, hl, hm, hmm, rfl, hx⟩
  · exact ⟨none, 0, 0, fun _ => ⟨ByteArray.empty, 0, 0, 0⟩, h0, Nat.zero_le _, fun i hi => by omega⟩
  have hlm : len ≤ m := by rw [hmm]; split <;> omega
  have hspot : 0 < len → a.spot = none := fun h0 => by
    obtain ⟨cs', h1, _⟩ := hx 0 (by omega)
    rw [cells42] at h1
    exact spot_none (n := 4) (by omega) (by simpa using h1)
  have each : ∀ i, i < len → ∃ q : Mb, ∃ b off, (some a : Option Addr) = some ⟨b, off, none⟩ ∧ b < w.heap.size ∧ q.Ok ∧ w.cell? ⟨b, off + i * 4, none⟩ = some (.string q.addr) ∧ w.cell? ⟨b, off + i * 4 + 1, none⟩ = some (.int .u64 q.tok) ∧ w.cell? ⟨b, off + i * 4 + 1 + 1, none⟩ = some (.int .u8 q.st) ∧ w.cell? ⟨b, off + i * 4 + 1 + 1 + 1, none⟩ = some (.int .u64 q.inc) := by
    intro i hi
    obtain ⟨cs', h1, h2⟩ := hx i (by omega)
    rw [cells42] at h1
    obtain ⟨_, hlen, hcell⟩ := World.cells?_some h1
    obtain ⟨xs, k, hk, hxy, _, hxl, hf⟩ := DataW.trod_struct Yba.underlying42 h2
    match xs, hxl, cs', hlen with
    | [y0, y1, y2, y3], _, [v0, v1, v2, v3], _ =>
      have g0 := hf 0 _ rfl
      have g1 := hf 1 _ rfl
      have g2 := hf 2 _ rfl
      have g3 := hf 3 _ rfl
      simp [cells9, cells22, cells5] at g0 g1 g2 g3
      have e0 := hcell 0 (by omega)
      have e1 := hcell 1 (by omega)
      have e2 := hcell 2 (by omega)
      have e3 := hcell 3 (by omega)
      rw [add_add] at e0 e1 e2 e3
      obtain ⟨sa, c0, rfl, _⟩ := DataW.trod_string Yba.underlying9 g0
      obtain ⟨n1, c1, rfl, w1⟩ := DataW.trod_int Yba.underlying22 g1
      obtain ⟨n2, c2, rfl, w2⟩ := DataW.trod_int Yba.underlying5 g2
      obtain ⟨n3, c3, rfl, w3⟩ := DataW.trod_int Yba.underlying22 g3
      simp only [List.cons.injEq, and_true] at c0 c1 c2 c3
      subst c0 c1 c2 c3
      obtain ⟨k1, rfl, b1⟩   := of_u64 w1
      obtain ⟨k2, rfl, b2⟩ := of_u8 w2
      obtain ⟨k3, rfl, b3⟩   := of_u64 w3
      simp at e0 e1 e2 e3
      have hD : D i = .agg [.lit (.string sa.data.toList), .lit (.int .u64 k1), .lit (.int .u8 k2), .lit (.int .u64 k3)] := by
        have := congrArg Prod.fst hxy
        simpa using this
      have hs : sa.size ≤ reachBytes := by
        refine hwt sa.size ?_
        simp only [DataW.weights, Yba.underlying23]
        refine List.mem_cons_of_mem _ (List.mem_append_left _ (weights_all (d := D i) (List.mem_map.2 ⟨i, List.mem_range.2 hi, rfl⟩) _ ?_))
        rw [hD]
        simp [DataW.weights, DataW.weightsEach, Yba.underlying42]
      have hs' := reachBytes_lt
      obtain ⟨b, off, spot⟩ := a
      have hsp : spot = none := hspot (by omega)
      subst hsp
      rw [add_plain] at e0 e1 e2 e3
      exact ⟨⟨sa, k1, k2, k3⟩, b, off, rfl, World.block_lt_of_cell? w _ e0, ⟨by show sa.size ≤ _; omega, b1, b2, b3⟩, e0, e1, e2, e3⟩
  obtain ⟨ms, hms⟩ : ∃ ms : Nat → Mb, ∀ i, i < len → _ := by
    haveI : Inhabited Mb := ⟨⟨ByteArray.empty, 0, 0, 0⟩⟩
    exact choose_lt each
  exact ⟨some a, len, cap, ms, rfl, Nat.le_trans hl hm, hms⟩

set_option maxRecDepth 100000 in
theorem open_rumours {fuel : Nat} {cs : List Value} {x : DataW H × List MemPlace} (h : DataW.trod enc Yba.prog w base spare held fuel 24 cs = some x) (hwt : ∀ n ∈ x.1.weights Yba.prog 24, n ≤ reachBytes) :
    ∃ MA nm mcap ms ks, cs = [.slice MA nm mcap] ∧ nm ≤ maxLen ∧ InR w MA nm ms ks := by
  rcases open_slice Yba.underlying24 h with ⟨h0, _⟩ | ⟨a, len, cap, m, n, D, Pl, rfl, hb, hl, hm, hmm, rfl, hx⟩
  · exact ⟨none, 0, 0, fun _ => ⟨ByteArray.empty, 0, 0, 0⟩, fun _ => 0, h0, Nat.zero_le _, fun i hi => by omega⟩
  have hlm : len ≤ m := by rw [hmm]; split <;> omega
  have hspot : 0 < len → a.spot = none := fun h0 => by
    obtain ⟨cs', h1, _⟩ := hx 0 (by omega)
    rw [cells51] at h1
    exact spot_none (n := 5) (by omega) (by simpa using h1)
  have each : ∀ i, i < len → ∃ q : Mb × Nat, ∃ b off, (some a : Option Addr) = some ⟨b, off, none⟩ ∧ b < w.heap.size ∧ q.1.Ok ∧ q.2 < 256 ∧ w.cell? ⟨b, off + i * 5, none⟩ = some (.string q.1.addr) ∧ w.cell? ⟨b, off + i * 5 + 1, none⟩ = some (.int .u64 q.1.tok) ∧ w.cell? ⟨b, off + i * 5 + 1 + 1, none⟩ = some (.int .u8 q.1.st) ∧ w.cell? ⟨b, off + i * 5 + 1 + 1 + 1, none⟩ = some (.int .u64 q.1.inc) ∧ w.cell? ⟨b, off + i * 5 + 1 + 1 + 1 + 1, none⟩ = some (.int .u8 q.2) := by
    intro i hi
    obtain ⟨cs', h1, h2⟩ := hx i (by omega)
    rw [cells51] at h1
    obtain ⟨_, hlen, hcell⟩ := World.cells?_some h1
    obtain ⟨xs, k, hk, hxy, _, hxl, hf⟩ := DataW.trod_struct Yba.underlying51 h2
    match xs, hxl, cs', hlen with
    | [y0, y1, y2, y3, y4], _, [v0, v1, v2, v3, v4], _ =>
      have g0 := hf 0 _ rfl
      have g1 := hf 1 _ rfl
      have g2 := hf 2 _ rfl
      have g3 := hf 3 _ rfl
      have g4 := hf 4 _ rfl
      simp [cells9, cells22, cells5] at g0 g1 g2 g3 g4
      have e0 := hcell 0 (by omega)
      have e1 := hcell 1 (by omega)
      have e2 := hcell 2 (by omega)
      have e3 := hcell 3 (by omega)
      have e4 := hcell 4 (by omega)
      rw [add_add] at e0 e1 e2 e3 e4
      obtain ⟨sa, c0, rfl, _⟩ := DataW.trod_string Yba.underlying9 g0
      obtain ⟨n1, c1, rfl, w1⟩ := DataW.trod_int Yba.underlying22 g1
      obtain ⟨n2, c2, rfl, w2⟩ := DataW.trod_int Yba.underlying5 g2
      obtain ⟨n3, c3, rfl, w3⟩ := DataW.trod_int Yba.underlying22 g3
      obtain ⟨n4, c4, rfl, w4⟩ := DataW.trod_int Yba.underlying5 g4
      simp only [List.cons.injEq, and_true] at c0 c1 c2 c3 c4
      subst c0 c1 c2 c3 c4
      obtain ⟨k1, rfl, b1⟩   := of_u64 w1
      obtain ⟨k2, rfl, b2⟩ := of_u8 w2
      obtain ⟨k4, rfl, b4⟩ := of_u8 w4
      obtain ⟨k3, rfl, b3⟩   := of_u64 w3
      simp at e0 e1 e2 e3 e4
      have hD : D i = .agg [.lit (.string sa.data.toList), .lit (.int .u64 k1), .lit (.int .u8 k2), .lit (.int .u64 k3), .lit (.int .u8 k4)] := by
        have := congrArg Prod.fst hxy
        simpa using this
      have hs : sa.size ≤ reachBytes := by
        refine hwt sa.size ?_
        simp only [DataW.weights, Yba.underlying24]
        refine List.mem_cons_of_mem _ (List.mem_append_left _ (weights_all (d := D i) (List.mem_map.2 ⟨i, List.mem_range.2 hi, rfl⟩) _ ?_))
        rw [hD]
        simp [DataW.weights, DataW.weightsEach, Yba.underlying51]
      have hs' := reachBytes_lt
      obtain ⟨b, off, spot⟩ := a
      have hsp : spot = none := hspot (by omega)
      subst hsp
      rw [add_plain] at e0 e1 e2 e3 e4
      exact ⟨(⟨sa, k1, k2, k3⟩, k4), b, off, rfl, World.block_lt_of_cell? w _ e0, ⟨by show sa.size ≤ _; omega, b1, b2, b3⟩, b4, e0, e1, e2, e3, e4⟩
  obtain ⟨ms, hms⟩ : ∃ ms : Nat → Mb × Nat, ∀ i, i < len → _ := by
    haveI : Inhabited Mb := ⟨⟨ByteArray.empty, 0, 0, 0⟩⟩
    exact choose_lt each
  exact ⟨some a, len, cap, fun i => (ms i).1, fun i => (ms i).2, rfl, Nat.le_trans hl hm, hms⟩
end
end Go.Proofs.Ybulkejoc
