/-
  THE CONTRACTS of the second law's road: searchInts over the one line's offset, unpack, position, file, the two Positions, (SourceFilePos).IsValid.
-/
import Derived.Test.YoedgwSets
import Derived.Deep.QuietTactic
import Derived.BigQuiet
import Derived.WalkSmall
namespace Go.Proofs.Yoedgw
open Go.RowKit

set_option maxHeartbeats 400000 in
theorem searchInts_one (l : Nat) (x : Int) (w : World) (hc : w.cell? ⟨l, 0, none⟩ = some (.int .i64 0)) (hx : 0 ≤ x) :
    Calls Edgg.prog 18 #[.slice (some ⟨l, 0, none⟩) 1 1, .int .i64 x] w fun e w' => e = .returned (.int .i64 0) ∧ w' = w := by
  go_enter Edgg.func18, Edgg.ntmps18
  go_wp2
  go_loop [5, 6] (fun i j => j = .int .i64 1 ∧ (i = .int .i64 0 ∨ i = .int .i64 1)) (fun i _ => (1 - intOf i).toNat)
  case atStart => exact ⟨rfl, Or.inl rfl⟩
  case round =>
    obtain ⟨rfl, rfl | rfl⟩ := hrel
    · go_wp2
      go_round
      case rel => exact ⟨rfl, Or.inr rfl⟩
      case measure => simp [intOf]
    · go_wp2
      go_ret
      exact ⟨rfl, rfl⟩

set_option maxHeartbeats 400000 in
theorem unpack_one (b l s : Nat) (name : ByteArray) (base size off : Int) (w : World) (hf : FileAt w b l s name base size) (h0 : 0 ≤ off) (h1 : off ≤ 1073741824) :
    Calls Edgg.prog 15 #[.pointer (some ⟨b, 0, none⟩), .int .i64 off] w fun e w' =>
      e = .returned (.tuple #[.string name, .int .i64 1, .int .i64 (off + 1)]) ∧ ∃ n, w' = w.drewN n := by
  have c1 : w.cell? ⟨b, 1, none⟩ = some (.string name) := by simp [World.cell?, hf.1]
  have c4 : w.cell? ⟨b, 4, none⟩ = some (.slice (some ⟨l, 0, none⟩) 1 1) := by simp [World.cell?, hf.1]
  have cl : w.cell? ⟨l, 0, none⟩ = some (.int .i64 0) := by simp [World.cell?, hf.2]
  clear hf
  go_enter Edgg.func15, Edgg.ntmps15
  go_wp2_with (go_at_call 18; refine (searchInts_one l off _ cl h0).mono ?_; rintro e w' ⟨rfl, rfl⟩)
  go_quiet (fail)
  go_wp2
  go_ret3
  exact ⟨rfl, _, rfl⟩

/-- What lies in blocks that were there stays there while only new blocks are written. -/
theorem FileAt.below {w w' : World} {b l s : Nat} {name : ByteArray} {base size : Int} (hf : FileAt w b l s name base size) (hb : Below w.heap.size w w') : FileAt w' b l s name base size :=
  ⟨(hb.block b (lt_of_block hf.1)).trans hf.1, (hb.block l (lt_of_block hf.2)).trans hf.2⟩
theorem SetAt.below {w w' : World} {b : Nat} {base : Int} {v : Value} {last : Option Addr} (hf : SetAt w b base v last) (hb : Below w.heap.size w w') : SetAt w' b base v last :=
  (hb.block b (lt_of_block hf)).trans hf

set_option maxHeartbeats 400000 in
theorem position_one (b l s : Nat) (name : ByteArray) (base size p : Int) (w : World) (hf : FileAt w b l s name base size) (h0 : 0 ≤ base) (h1 : base ≤ p) (h2 : p ≤ 1073741824) :
    Calls Edgg.prog 13 #[.pointer (some ⟨b, 0, none⟩), .int .i64 p] w fun e w' =>
      e = .returned (.agg #[.string name, .int .i64 (p - base), .int .i64 1, .int .i64 (p - base + 1)]) ∧ Below w.heap.size w w' := by
  have c2 : w.cell? ⟨b, 2, none⟩ = some (.int .i64 base) := by simp [World.cell?, hf.1]
  have hbl : b < w.heap.size := lt_of_block hf.1
  have HF : Hid (FileAt w b l s name base size) := hf
  clear hf
  go_enter Edgg.func13, Edgg.ntmps13
  go_wp2_with fail
  refine (unpack_one b l s name base size (p - base) _ (HF.out.below ((Below.refl _ _).alloc (Nat.le_refl _) _)) (by omega) (by omega)).mono ?_
  rintro e w' ⟨rfl, n, rfl⟩
  go_wp2
  refine bodyPost_ret (v := .agg #[.string name, .int .i64 (p - base), .int .i64 1, .int .i64 (p - base + 1)]) (by simp [results, Edgg.results13, go_sem]) rfl ⟨rfl, ?_⟩
  exact ((((below_drewN ((Below.refl _ _).alloc (Nat.le_refl _) _) n).setCell (by simp) _).setCell (by simp) _).setCell (by simp) _)

set_option maxHeartbeats 400000 in
theorem file_last (b l s : Nat) (name : ByteArray) (base size nb p : Int) (v : Value) (w : World) (hs : SetAt w s nb v (some ⟨b, 0, none⟩)) (hf : FileAt w b l s name base size)
    (h0 : 0 ≤ base) (h1 : base ≤ p) (h2 : p ≤ base + size) (h3 : base ≤ 1073741824) (h4 : 0 ≤ size) (h5 : size ≤ 1073741824) :
    Calls Edgg.prog 12 #[.pointer (some ⟨s, 0, none⟩), .int .i64 p] w fun e w' => e = .returned (.pointer (some ⟨b, 0, none⟩)) ∧ ∃ n, w' = w.drewN n := by
  have c2 : w.cell? ⟨b, 2, none⟩ = some (.int .i64 base) := by simp [World.cell?, hf.1]
  have c3 : w.cell? ⟨b, 3, none⟩ = some (.int .i64 size) := by simp [World.cell?, hf.1]
  have s2 : w.cell? ⟨s, 2, none⟩ = some (.pointer (some ⟨b, 0, none⟩)) := by simp [World.cell?, show w.heap[s]? = _ from hs]
  clear hf hs
  go_enter Edgg.func12, Edgg.ntmps12
  go_wp2
  go_quiet (fail)
  go_wp2
  go_ret
  exact ⟨rfl, _, rfl⟩

/-- A named result of type SourceFilePos lies in block k, zero as yet. -/
theorem posCells {w : World} {k : Nat} (h : w.heap[k]? = some (.cells #[.string { data := #[] }, .int .i64 0, .int .i64 0, .int .i64 0] 29)) :
    (w.cell? ⟨k, 0, none⟩ = some (.string { data := #[] }) ∧ w.cell? ⟨k, 1, none⟩ = some (.int .i64 0) ∧ w.cell? ⟨k, 2, none⟩ = some (.int .i64 0) ∧ w.cell? ⟨k, 3, none⟩ = some (.int .i64 0)) ∧
    (w.frozen? ⟨k, 0, none⟩ = false ∧ w.frozen? ⟨k, 1, none⟩ = false ∧ w.frozen? ⟨k, 2, none⟩ = false ∧ w.frozen? ⟨k, 3, none⟩ = false) := by
  simp [World.cell?, World.frozen?, h]

/-- Such a block, just laid; some draws later; behind a call that writes only new blocks. -/
theorem posBlock {w w' : World} {o : Obj} {n : Nat} (hb : Below ((w.alloc o).drewN n).heap.size ((w.alloc o).drewN n) w') : w'.heap[w.heap.size]? = some o :=
  (hb.block w.heap.size (by show w.heap.size < (w.alloc o).heap.size; simp)).trans (heap_alloc_new w o)

set_option maxHeartbeats 800000 in
theorem filePos_one (b l s : Nat) (name : ByteArray) (base size p : Int) (w : World) (hf : FileAt w b l s name base size)
    (h0 : 0 ≤ base) (h1 : base ≤ p) (h2 : p ≤ base + size) (h3 : base ≤ 536870912) (h4 : 0 ≤ size) (h5 : size ≤ 536870912) (h6 : 0 < p) :
    Calls Edgg.prog 10 #[.pointer (some ⟨b, 0, none⟩), .int .i64 p] w fun e w' =>
      e = .returned (.agg #[.string name, .int .i64 (p - base), .int .i64 1, .int .i64 (p - base + 1)]) ∧ Below w.heap.size w w' := by
  have c2 : w.cell? ⟨b, 2, none⟩ = some (.int .i64 base) := by simp [World.cell?, hf.1]
  have c3 : w.cell? ⟨b, 3, none⟩ = some (.int .i64 size) := by simp [World.cell?, hf.1]
  have hbl : b < w.heap.size := lt_of_block hf.1
  have HF : Hid (FileAt w b l s name base size) := hf
  clear hf
  have hd : decide (p < base) = false := by simp; omega
  go_enter Edgg.func10, Edgg.ntmps10
  go_wp2_with fail
  go_quiet (fail)
  go_wp2_with fail
  refine (position_one b l s name base size p _ (HF.out.below (below_drewN ((Below.refl _ _).alloc (Nat.le_refl _) _) _)) h0 h1 (by omega)).mono ?_
  rintro e w' ⟨rfl, hb⟩
  have HB : Hid (Below w.heap.size w w') := (below_drewN ((Below.refl _ _).alloc (Nat.le_refl _) _) _).trans (hb.mono (by simp))
  obtain ⟨⟨k0, k1, k2, k3⟩, e0, e1, e2, e3⟩ := posCells (posBlock hb)
  clear hb
  go_wp2
  refine bodyPost_ret (v := .agg #[.string name, .int .i64 (p - base), .int .i64 1, .int .i64 (p - base + 1)]) (by simp [results, Edgg.results10, go_sem, k0, k1, k2, k3]) rfl ⟨rfl, ?_⟩
  exact (((HB.out.setCell (Nat.le_refl _) _).setCell (Nat.le_refl _) _).setCell (Nat.le_refl _) _).setCell (Nat.le_refl _) _

set_option maxHeartbeats 400000 in
theorem filePos_zero (b : Nat) (w : World) :
    Calls Edgg.prog 10 #[.pointer (some ⟨b, 0, none⟩), .int .i64 0] w fun e w' =>
      e = .returned (.agg #[.string { data := #[] }, .int .i64 0, .int .i64 0, .int .i64 0]) ∧ Below w.heap.size w w' := by
  go_enter Edgg.func10, Edgg.ntmps10
  go_wp2
  exact bodyPost_ret (v := .agg #[.string { data := #[] }, .int .i64 0, .int .i64 0, .int .i64 0]) (by simp [results, Edgg.results10, go_sem]) rfl ⟨rfl, (Below.refl _ _).alloc (Nat.le_refl _) _⟩

set_option maxHeartbeats 400000 in
theorem setPos_zero (s : Nat) (w : World) :
    Calls Edgg.prog 8 #[.pointer (some ⟨s, 0, none⟩), .int .i64 0] w fun e w' =>
      e = .returned (.agg #[.string { data := #[] }, .int .i64 0, .int .i64 0, .int .i64 0]) ∧ Below w.heap.size w w' := by
  go_enter Edgg.func8, Edgg.ntmps8
  go_wp2
  exact bodyPost_ret (v := .agg #[.string { data := #[] }, .int .i64 0, .int .i64 0, .int .i64 0]) (by simp [results, Edgg.results8, go_sem]) rfl ⟨rfl, (Below.refl _ _).alloc (Nat.le_refl _) _⟩

set_option maxHeartbeats 800000 in
theorem setPos_one (b l s : Nat) (name : ByteArray) (base size nb p : Int) (v : Value) (w : World) (hs : SetAt w s nb v (some ⟨b, 0, none⟩)) (hf : FileAt w b l s name base size)
    (h0 : 0 ≤ base) (h1 : base ≤ p) (h2 : p ≤ base + size) (h3 : base ≤ 536870912) (h4 : 0 ≤ size) (h5 : size ≤ 536870912) (h6 : 0 < p) :
    Calls Edgg.prog 8 #[.pointer (some ⟨s, 0, none⟩), .int .i64 p] w fun e w' =>
      e = .returned (.agg #[.string name, .int .i64 (p - base), .int .i64 1, .int .i64 (p - base + 1)]) ∧ Below w.heap.size w w' := by
  have HF : Hid (FileAt w b l s name base size) := hf
  have HS : Hid (SetAt w s nb v (some ⟨b, 0, none⟩)) := hs
  clear hf hs
  go_enter Edgg.func8, Edgg.ntmps8
  go_wp2_with fail
  refine (file_last b l s name base size nb p v _ (HS.out.below ((Below.refl _ _).alloc (Nat.le_refl _) _)) (HF.out.below ((Below.refl _ _).alloc (Nat.le_refl _) _)) h0 h1 h2 (by omega) h4 (by omega)).mono ?_
  rintro e w1 ⟨rfl, n, rfl⟩
  go_wp2_with fail
  refine (position_one b l s name base size p _ (HF.out.below (below_drewN ((Below.refl _ _).alloc (Nat.le_refl _) _) _)) h0 h1 (by omega)).mono ?_
  rintro e w' ⟨rfl, hb⟩
  have HB : Hid (Below w.heap.size w w') := (below_drewN ((Below.refl _ _).alloc (Nat.le_refl _) _) _).trans (hb.mono (by simp))
  obtain ⟨⟨k0, k1, k2, k3⟩, e0, e1, e2, e3⟩ := posCells (posBlock hb)
  clear hb
  go_wp2
  refine bodyPost_ret (v := .agg #[.string name, .int .i64 (p - base), .int .i64 1, .int .i64 (p - base + 1)]) (by simp [results, Edgg.results8, go_sem, k0, k1, k2, k3]) rfl ⟨rfl, ?_⟩
  exact (((HB.out.setCell (Nat.le_refl _) _).setCell (Nat.le_refl _) _).setCell (Nat.le_refl _) _).setCell (Nat.le_refl _) _

set_option maxHeartbeats 400000 in
theorem lineValid_any (x : ByteArray) (o ln c : Int) (w : World) :
    Calls Edgg.prog 9 #[.agg #[.string x, .int .i64 o, .int .i64 ln, .int .i64 c]] w fun e w' => e = .returned (.bool (decide (0 < ln))) ∧ Below w.heap.size w w' := by
  go_enter Edgg.func9, Edgg.ntmps9
  go_wp2
  go_ret
  exact ⟨rfl, (Below.refl _ _).alloc (Nat.le_refl _) _⟩
end Go.Proofs.Yoedgw
