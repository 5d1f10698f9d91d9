/- piggyback (21), whether there are rumours or none; what the node holds on the road. -/
import Derived.Test.YbulkejocNil
namespace Go.Proofs.Ybulkejoc
open Go.ChangeShapes Go.WideShapes Go.ChangeAt Go.RowKit

/-- The node's slice of rumours: nil, or a row in block g. -/
def RowIs (W : World) (v : Value) (nb g : Nat) (d : List Nat) : Prop :=
  (v = .slice none 0 0 ∧ d = []) ∨ ∃ (cap : Nat) (rest : List Value), v = .slice (some ⟨g, 0, none⟩) d.length cap ∧ W.heap[g]? = some (.cells ((d.map ptr) ++ rest).toArray 52 (0, 0)) ∧ d.length + rest.length = cap ∧ nb ≠ g ∧ g ∉ d

/-- What the node holds. -/
structure NdIn (w : World) (nb mp : Nat) (es : Array MapEntry) (clock : Nat) (me : Mb) (d : List Nat) (mem : Nat → Mb) (key : Nat → Int) : Prop where
  s0 : w.cell? ⟨nb, 11, none⟩ = some (.string me.addr)
  s1 : w.cell? ⟨nb, 12, none⟩ = some (.int .u64 me.tok)
  s2 : w.cell? ⟨nb, 13, none⟩ = some (.int .u8 me.st)
  s3 : w.cell? ⟨nb, 14, none⟩ = some (.int .u64 me.inc)
  ok : me.Ok
  map : w.cell? ⟨nb, 15, none⟩ = some (.map (some mp))
  obj : w.heap[mp]? = some (.map es clock)
  few : es.size ≤ 100000
  rum : ∀ k ∈ d, RumAt w k (mem k) (key k)
  nodup : d.Nodup
  nd : nb ∉ d
  fn : w.frozen? ⟨nb, 24, none⟩ = false
  fo : w.frozen? ⟨nb, 28, none⟩ = false
  nlt : nb < w.heap.size

theorem cell_not_map {w : World} {mp b o : Nat} {es : Array MapEntry} {clock : Nat} (h : w.heap[mp]? = some (.map es clock)) {v : Value} (hc : w.cell? ⟨b, o, none⟩ = some v) : mp ≠ b := by
  rintro rfl
  simp [World.cell?, h] at hc

variable {w : World} {nb mp : Nat} {es : Array MapEntry} {clock : Nat} {me : Mb} {d : List Nat} {mem : Nat → Mb} {key : Nat → Int}
theorem NdIn.mpn (h : NdIn w nb mp es clock me d mem key) : mp ≠ nb := cell_not_map h.obj h.s0
theorem NdIn.mpd (h : NdIn w nb mp es clock me d mem key) : mp ∉ d := fun hm => cell_not_map h.obj (h.rum mp hm).a rfl

/-- The room of a packet's news. -/
def roomF (me : Mb) : Int := 1400 - (recF me + 8)
def packF (mem : Nat → Mb) (key : Nat → Int) (me : Mb) (nm : Nat) (d : List Nat) : Pk := Pk.run mem key (limF nm) (roomF me) d

structure PigRes (w : World) (nb mb g : Nat) (d : List Nat) (mem : Nat → Mb) (key : Nat → Int) (ns kept : List Nat) (wr : World) : Prop where
  row : ∃ v, wr.cell? ⟨nb, 24, none⟩ = some v ∧ RowIs wr v nb g kept
  news : ∃ v, wr.cell? ⟨mb, 7, none⟩ = some v ∧ wr.ownsRow w.heap.size 29 4 v ns.length (mcells (ns.map mem))
  sent : ∀ k ∈ d, wr.cell? ⟨k, 4, none⟩ = some (.int .i64 (bump key ns k))
  fr : Fr (PigC nb mb g d) w wr

theorem piggy_both (nb mb g : Nat) (pos : Nat → Nat) (h : NdIn w nb mp es clock me d mem key) {rv : Value} (hr : w.cell? ⟨nb, 24, none⟩ = some rv) (hrow : RowIs w rv nb g d) (hbig : d.length ≤ 100000)
    (hnews : w.cell? ⟨mb, 7, none⟩ = some (.slice none 0 0)) (hmf : w.frozen? ⟨mb, 7, none⟩ = false) (hm1 : mb ≠ nb) (hm2 : mb ∉ d) (hm3 : mb ≠ g) (hp : d.Pairwise (fun x y => pos x < pos y)) :
    Calls Yba.prog 21 #[.pointer (some ⟨nb, 0, none⟩), .pointer (some ⟨mb, 0, none⟩), .int .i64 (roomF me)] w fun e w' => e = .returned (.tuple #[]) ∧ ∃ d1, d1.Perm d ∧ d1.Pairwise (Stab.lt key pos) ∧
      PigRes w nb mb g d mem key (packF mem key me es.size d1).ns (packF mem key me es.size d1).kept w' := by
  have hmlt : mb < w.heap.size := World.block_lt_of_cell? w _ hnews
  have hroom : -1125899906843000 ≤ roomF me ∧ roomF me ≤ 1400 := by
    have := recF_bd h.ok
    unfold roomF
    omega
  rcases hrow with ⟨rfl, rfl⟩ | ⟨cap, rest, rfl, hrw, hcap, hng, hgd⟩
  · refine (piggy_nil w nb mb mp es clock (roomF me) h.map h.obj h.few hr h.fn).mono ?_
    rintro e w' ⟨rfl, rfl⟩
    refine ⟨rfl, [], List.Perm.refl _, List.Pairwise.nil, ⟨⟨_, World.cell?_setCell_same _ _ _ hr, Or.inl ⟨rfl, rfl⟩⟩, ⟨.slice none 0 0, ?_, World.ownsRow_nil _ _ _ _⟩, fun k hk => by simp at hk, (Fr.refl _ _).setCell (fun _ => Or.inl ⟨rfl, rfl⟩) _⟩⟩
    rw [World.cell?_of_block (a := ⟨mb, 7, none⟩) (Below.heap_setCell _ _ _ _ hm1)]
    exact hnews
  · have hglt : g < w.heap.size := lt_of_heap hrw
    refine (piggy_any w nb mb g cap mp es clock rest d d.length mem key (roomF me) ⟨h.rum, h.nodup, hgd, h.nd, hm2, hng, hm3, Ne.symm hm1, h.fn, hmf, h.nlt, hmlt, hglt⟩ hrw h.map h.obj h.few ?_ hnews rfl hbig hcap hr hroom pos hp).mono ?_
    · rintro rfl
      rw [h.obj] at hrw
      cases hrw
    · rintro e w' ⟨rfl, d1, hperm, hlt, ho⟩
      refine ⟨rfl, d1, hperm, hlt, ⟨⟨_, ho.slice, Or.inr ?_⟩, ho.news, fun k hk => ho.sent k (hperm.mem_iff.2 hk), ho.fr.mono ?_⟩⟩
      · obtain ⟨rest', h1, h2⟩ := ho.row
        refine ⟨cap, rest', rfl, h1, ?_, hng, fun hm => hgd (hperm.mem_iff.1 ((Pk.run_kept mem key _ _ d1).subset hm))⟩
        have := hperm.length_eq
        show (Pk.run mem key (limF es.size) (roomF me) d1).kept.length + rest'.length = cap
        omega
      · rintro b o (h1 | h1 | h1 | ⟨h1, h2⟩)
        · exact Or.inl h1
        · exact Or.inr (Or.inl h1)
        · exact Or.inr (Or.inr (Or.inl h1))
        · exact Or.inr (Or.inr (Or.inr ⟨hperm.mem_iff.1 h1, h2⟩))
end Go.Proofs.Ybulkejoc
