/-
  THE CONTRACTS that both laws of this seat share: parser.NewFileSet, (*SourceFileSet).AddFile, (Pos).IsValid, (*SourceFile).FileSetPos.
-/
import Derived.Test.YoedgwRows
import Derived.WalkKit
import Derived.ProofKit
import Derived.WalkSpells
import Derived.ArgAppend
import Derived.Below
import Derived.OneCell
namespace Go.Proofs.Yoedgw
open Go.RowKit

theorem Edgg.info24 : (Edgg.prog.info? 24).map (fun i => (i.zero, i.size, i.bytes)) = some (some (.pointer none), 1, 8) := by kernel_rfl

/-- A block behind a store into one of its cells. -/
theorem block_setCell {w : World} {b o : Nat} {c : Array Value} {t : TypeId} {f : Nat × Nat} (h : w.heap[b]? = some (.cells c t f)) (u : Value) :
    (w.setCell ⟨b, o, none⟩ u).heap[b]? = some (.cells (c.setIfInBounds o u) t f) := by
  show (w.heap.modify b _)[b]? = _
  rw [Array.getElem?_modify, if_pos rfl, h]
  rfl

/-- A file set lies in block b: its base, its slice of files, its last file. -/
def SetAt (w : World) (b : Nat) (base : Int) (v : Value) (last : Option Addr) : Prop :=
  w.heap[b]? = some (.cells #[.int .i64 base, v, .pointer last] 36)

/-- A file lies in block b: its set, its name, its base, its size; its one line's offset 0 lies in block l. -/
def FileAt (w : World) (b l s : Nat) (name : ByteArray) (base size : Int) : Prop :=
  w.heap[b]? = some (.cells #[.pointer (some ⟨s, 0, none⟩), .string name, .int .i64 base, .int .i64 size, .slice (some ⟨l, 0, none⟩) 1 1] 39) ∧
  w.heap[l]? = some (.cells #[.int .i64 0] 3)

/-- The blocks that are no row of files and not the set's own stay. -/
def OthersStay (w w' : World) (sb : Nat) : Prop :=
  ∀ k c t, t ≠ 24 → k ≠ sb → w.heap[k]? = some (.cells c t) → w'.heap[k]? = some (.cells c t)

/-- The row of files is none of the blocks of another element type. -/
theorem not_row {W : World} {B : Nat} {ao : Option Addr} {m c k : Nat} {ys : List Value} {cs : Array Value} {t : TypeId} {f : Nat × Nat}
    (ho : W.ownsRow B 24 1 (.slice ao m c) m ys) (hk : W.heap[k]? = some (.cells cs t f)) (ht : t ≠ 24) : some k ≠ Value.ownBlock (.slice ao m c) := by
  intro he
  rcases ho.2 with ⟨h, _⟩ | ⟨g, cc, cur, h, _, hg, _⟩
  · cases h; simp [Value.ownBlock] at he
  · cases h
    simp only [Value.ownBlock, Option.some.injEq] at he
    subst he
    rw [hk] at hg
    cases hg
    exact ht rfl

/-- The world ahead of AddFile's append: its blocks. -/
theorem ahead (w : World) (sb : Nat) (x : Value) (c : Array Value) (l f a : Obj) (hset : w.heap[sb]? = some (.cells c 36)) :
    ((((w.setCell ⟨sb, 0, none⟩ x).alloc l).alloc f).alloc a).heap.size = w.heap.size + 3 ∧
    ((((w.setCell ⟨sb, 0, none⟩ x).alloc l).alloc f).alloc a).heap[sb]? = some (.cells (c.setIfInBounds 0 x) 36) ∧
    ((((w.setCell ⟨sb, 0, none⟩ x).alloc l).alloc f).alloc a).heap[w.heap.size]? = some l ∧
    ((((w.setCell ⟨sb, 0, none⟩ x).alloc l).alloc f).alloc a).heap[w.heap.size + 1]? = some f ∧
    (∀ k, k < w.heap.size → k ≠ sb → ((((w.setCell ⟨sb, 0, none⟩ x).alloc l).alloc f).alloc a).heap[k]? = w.heap[k]?) := by
  have hsb := lt_of_block hset
  refine ⟨by simp, ?_, ?_, ?_, ?_⟩
  · rw [Below.heap_alloc _ _ _ (by simp; omega), Below.heap_alloc _ _ _ (by simp; omega), Below.heap_alloc _ _ _ (by simp; omega)]
    exact block_setCell hset x
  · rw [Below.heap_alloc _ _ _ (by simp; omega), Below.heap_alloc _ _ _ (by simp)]
    have := heap_alloc_new (w.setCell ⟨sb, 0, none⟩ x) l
    simpa using this
  · rw [Below.heap_alloc _ _ _ (by simp)]
    have := heap_alloc_new ((w.setCell ⟨sb, 0, none⟩ x).alloc l) f
    simpa using this
  · intro k hk hne
    rw [Below.heap_alloc _ _ _ (by simp; omega), Below.heap_alloc _ _ _ (by simp; omega), Below.heap_alloc _ _ _ (by simp; omega)]
    exact Below.heap_setCell _ _ _ _ hne

/-- WHAT ADDFILE LEAVES: 'w2' is the world ahead of the append, 'w3' the one behind it; then the two stores into the set. -/
theorem behind {B sb : Nat} {name : ByteArray} {base size : Int} {ao : Option Addr} {n cap : Nat} {xs : List Value} {last : Option Addr} {w w3 : World} {g cap' : Nat} {ar : Obj}
    (hset : w.heap[sb]? = some (.cells #[.int .i64 base, .slice ao n cap, .pointer last] 36)) (hown : w.ownsRow B 24 1 (.slice ao n cap) n xs) (hBs : B ≤ sb)
    (hgrow : ((((w.setCell ⟨sb, 0, none⟩ (.int .i64 (base + (size + 1)))).alloc (.cells #[.int .i64 0] 3)).alloc
      (.cells #[.pointer (some ⟨sb, 0, none⟩), .string name, .int .i64 base, .int .i64 size, .slice (some ⟨w.heap.size, 0, none⟩) 1 1] 39)).alloc ar).grownBy w3 (Value.ownBlock (.slice ao n cap)))
    (hown3 : w3.ownsRow B 24 1 (.slice (some ⟨g, 0, none⟩) (n + 1) cap') (n + 1) (xs ++ [.pointer (some ⟨w.heap.size + 1, 0, none⟩)])) :
    w3.heap[sb]? = some (.cells #[.int .i64 (base + (size + 1)), .slice ao n cap, .pointer last] 36) ∧
    FileAt ((w3.setCell ⟨sb, 1, none⟩ (.slice (some ⟨g, 0, none⟩) (n + 1) cap')).setCell ⟨sb, 2, none⟩ (.pointer (some ⟨w.heap.size + 1, 0, none⟩))) (w.heap.size + 1) w.heap.size sb name base size ∧
    SetAt ((w3.setCell ⟨sb, 1, none⟩ (.slice (some ⟨g, 0, none⟩) (n + 1) cap')).setCell ⟨sb, 2, none⟩ (.pointer (some ⟨w.heap.size + 1, 0, none⟩))) sb (base + (size + 1)) (.slice (some ⟨g, 0, none⟩) (n + 1) cap') (some ⟨w.heap.size + 1, 0, none⟩) ∧
    ((w3.setCell ⟨sb, 1, none⟩ (.slice (some ⟨g, 0, none⟩) (n + 1) cap')).setCell ⟨sb, 2, none⟩ (.pointer (some ⟨w.heap.size + 1, 0, none⟩))).ownsRow B 24 1 (.slice (some ⟨g, 0, none⟩) (n + 1) cap') (n + 1) (xs ++ [.pointer (some ⟨w.heap.size + 1, 0, none⟩)]) ∧
    Below B w ((w3.setCell ⟨sb, 1, none⟩ (.slice (some ⟨g, 0, none⟩) (n + 1) cap')).setCell ⟨sb, 2, none⟩ (.pointer (some ⟨w.heap.size + 1, 0, none⟩))) ∧
    OthersStay w ((w3.setCell ⟨sb, 1, none⟩ (.slice (some ⟨g, 0, none⟩) (n + 1) cap')).setCell ⟨sb, 2, none⟩ (.pointer (some ⟨w.heap.size + 1, 0, none⟩))) sb := by
  have hsb := lt_of_block hset
  have hne := not_row hown hset (by decide)
  obtain ⟨p1, p2, p3, p4, p5⟩ := ahead w sb (.int .i64 (base + (size + 1))) _ (.cells #[.int .i64 0] 3) (.cells #[.pointer (some ⟨sb, 0, none⟩), .string name, .int .i64 base, .int .i64 size, .slice (some ⟨w.heap.size, 0, none⟩) 1 1] 39) ar hset
  have hlt : ∀ k, Value.ownBlock (.slice ao n cap) = some k → B ≤ k ∧ k < w.heap.size := hown.lt
  have q2 : w3.heap[sb]? = some (.cells #[.int .i64 (base + (size + 1)), .slice ao n cap, .pointer last] 36) := (hgrow.block sb (by rw [p1]; omega) hne).trans p2
  have q3 := (hgrow.block w.heap.size (by rw [p1]; omega) (fun h => by have := (hlt _ h.symm).2; omega)).trans p3
  have q4 := (hgrow.block (w.heap.size + 1) (by rw [p1]; omega) (fun h => by have := (hlt _ h.symm).2; omega)).trans p4
  have hst : ∀ k, k ≠ sb → ((w3.setCell ⟨sb, 1, none⟩ (.slice (some ⟨g, 0, none⟩) (n + 1) cap')).setCell ⟨sb, 2, none⟩ (.pointer (some ⟨w.heap.size + 1, 0, none⟩))).heap[k]? = w3.heap[k]? := by
    intro k hk
    rw [Below.heap_setCell _ _ _ _ hk, Below.heap_setCell _ _ _ _ hk]
  have hne3 := not_row hown3 q2 (by decide)
  refine ⟨q2, ⟨?_, ?_⟩, ?_, ?_, ?_, ?_⟩
  · rw [hst _ (by omega)]; exact q4
  · rw [hst _ (by omega)]; exact q3
  · exact block_setCell (block_setCell q2 _) _
  · exact ownsRow_setCell_other (ownsRow_setCell_other hown3 (fun h => hne3 h.symm) _) (fun h => hne3 h.symm) _
  · refine ⟨hgrow.os, hgrow.tape, hgrow.output, ?_, ?_⟩
    · have := hgrow.size
      rw [p1] at this
      simp only [World.size_setCell]
      omega
    · intro k hk
      rw [hst k (by omega), hgrow.block k (by rw [p1]; omega) (fun h => by have := (hlt _ h.symm).1; omega), p5 k (by omega) (by omega)]
  · intro k c t ht hk hc
    have hkl := lt_of_block hc
    rw [hst k hk, hgrow.block k (by rw [p1]; omega) (not_row hown hc ht), p5 k hkl hk]
    exact hc

set_option maxHeartbeats 400000 in
theorem newSet_any (w : World) :
    Calls Edgg.prog 5 #[] w fun e w' => e = .returned (.pointer (some ⟨w.heap.size, 0, none⟩)) ∧
      w' = w.alloc (.cells #[.int .i64 1, .slice none 0 0, .pointer none] 36) := by
  go_enter Edgg.func5, Edgg.ntmps5
  go_wp2
  go_ret
  exact ⟨rfl, rfl⟩

set_option maxHeartbeats 400000 in
theorem posValid_any (p : Int) (w : World) :
    Calls Edgg.prog 7 #[.int .i64 p] w fun e w' => e = .returned (.bool (p != 0)) ∧ w' = w := by
  go_enter Edgg.func7, Edgg.ntmps7
  go_wp2
  go_ret
  exact ⟨rfl, rfl⟩

set_option maxHeartbeats 400000 in
theorem fileSetPos_any (b l s : Nat) (name : ByteArray) (base size off : Int) (w : World) (hf : FileAt w b l s name base size)
    (h0 : 0 ≤ base) (h1 : base ≤ 1073741824) (h2 : 0 ≤ off) (h3 : off ≤ size) (h4 : size ≤ 1073741824) :
    Calls Edgg.prog 11 #[.pointer (some ⟨b, 0, none⟩), .int .i64 off] w fun e w' => e = .returned (.int .i64 (base + off)) ∧ w' = w := by
  have c2 : w.cell? ⟨b, 2, none⟩ = some (.int .i64 base) := by simp [World.cell?, hf.1]
  have c3 : w.cell? ⟨b, 3, none⟩ = some (.int .i64 size) := by simp [World.cell?, hf.1]
  clear hf
  go_enter Edgg.func11, Edgg.ntmps11
  go_wp2
  go_ret
  exact ⟨rfl, rfl⟩

set_option maxHeartbeats 800000 in
set_option maxRecDepth 1000000 in
/-- (*SourceFileSet).AddFile with base -1: a new file in the block behind its lines', at the set's base; the set's base goes on; all else that was there, but for the row of files, stays. -/
theorem addFile_any (B sb : Nat) (name : ByteArray) (base size : Int) (ao : Option Addr) (n cap : Nat) (xs : List Value) (last : Option Addr) (w : World)
    (hB1 : 1 ≤ base) (hB2 : base ≤ 1073741824) (hs0 : 0 ≤ size) (hs1 : size ≤ 1073741824) (hn : n ≤ 8)
    (hset : SetAt w sb base (.slice ao n cap) last) (hown : w.ownsRow B 24 1 (.slice ao n cap) n xs) (hBs : B ≤ sb) :
    Calls Edgg.prog 6 #[.pointer (some ⟨sb, 0, none⟩), .string name, .int .i64 (-1), .int .i64 size] w fun e w' =>
      e = .returned (.pointer (some ⟨w.heap.size + 1, 0, none⟩)) ∧ ∃ ao' cap',
        FileAt w' (w.heap.size + 1) w.heap.size sb name base size ∧
        SetAt w' sb (base + (size + 1)) (.slice ao' (n + 1) cap') (some ⟨w.heap.size + 1, 0, none⟩) ∧
        w'.ownsRow B 24 1 (.slice ao' (n + 1) cap') (n + 1) (xs ++ [.pointer (some ⟨w.heap.size + 1, 0, none⟩)]) ∧
        Below B w w' ∧ OthersStay w w' sb := by
  have hset' : w.heap[sb]? = some (.cells #[.int .i64 base, .slice ao n cap, .pointer last] 36) := hset
  have hsb : sb < w.heap.size := lt_of_block hset'
  have hne : some sb ≠ Value.ownBlock (.slice ao n cap) := not_row hown hset' (by decide)
  obtain ⟨i0, hi, hz0, hz1, hz2⟩ := info_parts Edgg.info24
  have h0 : w.cell? ⟨sb, 0, none⟩ = some (.int .i64 base) := by simp [World.cell?, hset']
  have h1 : w.cell? ⟨sb, 1, none⟩ = some (.slice ao n cap) := by simp [World.cell?, hset']
  have f0 : w.frozen? ⟨sb, 0, none⟩ = false := by simp [World.frozen?, hset']
  have HS : Hid (w.heap[sb]? = some (.cells #[.int .i64 base, .slice ao n cap, .pointer last] 36)) := hset'
  have HN : Hid (some sb ≠ Value.ownBlock (.slice ao n cap)) := hne
  have HO : Hid (w.ownsRow B 24 1 (.slice ao n cap) n xs) := hown
  clear hset hset' hne hown
  go_enter Edgg.func6, Edgg.ntmps6
  go_wp2_with (at_builtin; refine wpList_append_own _ rfl (.tmp 49) (.tmp 51) 34 rfl B 24 i0 (.pointer none) 1 8 Edgg.underlying34 hi hz0 hz1 hz2 rfl (by decide) (.slice ao n cap) n xs rfl ?own ⟨w.heap.size + 2, 0, none⟩ 1 1 [.pointer (some ⟨w.heap.size + 1, 0, none⟩)] rfl rfl ?c1 ?c2 ?b1 ?b2 ?b3 ?grow)
  case own => exact (((ownsRow_setCell_other HO.out (fun h => HN.out h.symm) _).alloc _).alloc _).alloc _
  case c1 => simpa using cell_one_new (((w.setCell ⟨sb, 0, none⟩ (.int .i64 (base + (size + 1)))).alloc (.cells #[.int .i64 0] 3)).alloc (.cells #[.pointer (some ⟨sb, 0, none⟩), .string name, .int .i64 base, .int .i64 size, .slice (some ⟨w.heap.size, 0, none⟩) 1 1] 39)) (.pointer (some ⟨w.heap.size + 1, 0, none⟩)) 24
  case c2 => intro u hu; simp at hu; subst hu; rfl
  case b1 => unfold maxLen; omega
  case b2 => omega
  case b3 => simp; omega
  case grow =>
    intro v' w' hown' hgrow _
    obtain ⟨g, cap', rfl⟩ : ∃ g cap', v' = .slice (some ⟨g, 0, none⟩) (n + 1) cap' := by
      rcases hown'.2 with ⟨_, h⟩ | ⟨g, cap', _, h, _⟩
      · omega
      · exact ⟨g, cap', h⟩
    have q := behind HS.out HO.out hBs hgrow hown'
    have k1 : w'.cell? ⟨sb, 1, none⟩ = some (.slice ao n cap) := by simp [World.cell?, q.1]
    have k2 : w'.cell? ⟨sb, 2, none⟩ = some (.pointer last) := by simp [World.cell?, q.1]
    have e1 : w'.frozen? ⟨sb, 1, none⟩ = false := by simp [World.frozen?, q.1]
    have e2 : w'.frozen? ⟨sb, 2, none⟩ = false := by simp [World.frozen?, q.1]
    have Q := show Hid _ from q
    clear q hown' hgrow
    go_wp2
    go_ret
    exact ⟨rfl, some ⟨g, 0, none⟩, cap', Q.out.2⟩
end Go.Proofs.Yoedgw
