import Derived.Test.YbulkbzsuFmtStart
import Derived.Test.YbulkbzsuFmtLaw
import Derived.Deep.AppendLies
namespace Go.Proofs.YbulkbzsuFmt
open Go.RowKit Go.Extern.Stop Go.Stop Go.Extern
set_option linter.unusedVariables false
set_option linter.unusedSimpArgs false

theorem Ybaf.info5 : (Ybaf.prog.info? 5).map (fun i => (i.zero, i.size, i.bytes)) = some (some (.int .u8 0), 1, 1) := by kernel_rfl

/-- A slice of bytes that can be read. -/
def BytesIn (w : World) (v : Value) (l : List UInt8) : Prop :=
  ∃ a c, v = .slice a l.length c ∧ (a = none → l = []) ∧ ∀ x, a = some x → ∀ j u, (Lib.byteCells l)[j]? = some u → w.cell? (x.add j) = some u

theorem cells_len (l : List UInt8) : (Lib.byteCells l).length = l.length := by simp [Lib.byteCells]
theorem cells_one (l : List UInt8) : ∀ u ∈ Lib.byteCells l, u.oneCell' = true := by
  intro u hu
  obtain ⟨_, _, rfl⟩ := List.mem_map.1 hu
  rfl

theorem BytesIn.src {w : World} {v : Value} {l : List UInt8} (h : BytesIn w v l) : Src Ybaf.prog 1 33 v l.length (Lib.byteCells l) w := by
  obtain ⟨a, c, rfl, hn, hs⟩ := h
  cases a with
  | none =>
    have := hn rfl
    subst this
    exact Src.ofNil w Ybaf.underlying33 c
  | some x => exact Src.ofSlice w Ybaf.underlying33 x _ c _ (by simp [cells_len]) (hs x rfl) (cells_one l)

theorem BytesIn.mono {w w' : World} {v : Value} {l : List UInt8} (h : BytesIn w v l) (hb : ∀ b, b < w.heap.size → w'.heap[b]? = w.heap[b]?) : BytesIn w' v l := by
  obtain ⟨a, c, rfl, hn, hs⟩ := h
  refine ⟨a, c, rfl, hn, fun x hx j u hu => ?_⟩
  have h1 := hs x hx j u hu
  rw [World.cell?_of_block (w := w) (hb _ (World.block_lt_of_cell? w _ h1))]
  exact h1

theorem ownsRow_bytesIn {w : World} {base : Nat} {v : Value} {l : List UInt8} (h : w.ownsRow base 5 1 v l.length (Lib.byteCells l)) : BytesIn w v l := by
  rcases h.2 with ⟨rfl, h0⟩ | ⟨g, cap, cur, rfl, hb, hg, hn, hm, hs, ht⟩
  · exact ⟨none, 0, by rw [h0], fun _ => List.eq_nil_of_length_eq_zero h0, fun x hx => by cases hx⟩
  · exact ⟨_, cap, rfl, (fun h => by cases h), fun x hx j u hu => by cases hx; exact h.cells (g := g) rfl j u hu⟩

theorem nums_bytes (l : List UInt8) : Lib.byteCells l = (l.map fun b => (b.toNat : Int)).map (Value.int .u8) := by
  simp [Lib.byteCells]

theorem BytesIn.conv {w : World} {v : Value} {l : List UInt8} (h : BytesIn w v l) : (convert 33 9 v).run Ybaf.prog w = .ok (.string (strOfNums (l.map fun b => (b.toNat : Int)))) w := by
  obtain ⟨a, c, rfl, hn, hs⟩ := h
  cases a with
  | none =>
    have := hn rfl
    subst this
    exact run_convert_bytes_nil w 33 5 Ybaf.underlying33 Ybaf.underlying5 _ c 9 Ybaf.underlying9
  | some x =>
    have hl : (loadCells x l.length).run Ybaf.prog w = .ok ((l.map fun b => (b.toNat : Int)).map (Value.int .u8)).toArray w := by
      have := run_loadCells_list (P := Ybaf.prog) w x ((l.map fun b => (b.toNat : Int)).map (Value.int .u8)) (by rw [← nums_bytes]; exact hs x rfl)
      simpa using this
    rw [run_convert_bytes_string w 33 9 5 _ _ c Ybaf.underlying33 Ybaf.underlying5 Ybaf.underlying9, run_bytesToString w _ _ c (l.map fun b => (b.toNat : Int)) hl, foldl_push_bytes]
    simp [strOfNums, ByteArray.empty, ByteArray.emptyWithCapacity]
    rfl

set_option maxHeartbeats 400000 in
theorem beq_same (v1 v2 : Value) (l : List UInt8) (w : World) (h1 : BytesIn w v1 l) (h2 : BytesIn w v2 l) :
    Calls Ybaf.prog 15 #[v1, v2] w fun e w' => e = .returned (.bool true) ∧ w' = w := by
  have k1 := h1.conv
  have k2 := h2.conv
  obtain ⟨s, hs⟩ : ∃ s, s = strOfNums (l.map fun b => (b.toNat : Int)) := ⟨_, rfl⟩
  rw [← hs] at k1 k2
  clear hs
  have hq : (s.toList == s.toList) = true := by simp
  go_enter Ybaf.func15, Ybaf.ntmps15
  go_wp2
  go_ret
  exact ⟨rfl, rfl⟩

set_option maxHeartbeats 400000 in
theorem clone_walk (v : Value) (l : List UInt8) (w : World) (h : BytesIn w v l) (hl : l.length ≤ 100000) :
    Calls Ybaf.prog 11 #[v] w fun e w' => ∃ v', e = .returned v' ∧ w'.ownsRow w.heap.size 5 1 v' l.length (Lib.byteCells l) ∧ w.grownBy w' none := by
  obtain ⟨i0, hi, hz0, hz1, hz2⟩ := info_parts Ybaf.info5
  have hsrc := fun (o : Obj) => (h.mono (w' := w.alloc o) (fun b hb => Below.heap_alloc _ _ _ hb)).src
  obtain ⟨a, c, rfl, hn, hs⟩ := h
  cases a with
  | none =>
    obtain rfl : l = [] := hn rfl
    have hsn := fun w => Lib.run_eql_slice_nil (P := Ybaf.prog) w 33 5 none 0 c 0 0 Ybaf.underlying33
    clear hn hs hsrc
    go_enter Ybaf.func11, Ybaf.ntmps11
    go_wp2
    go_ret
    exact ⟨_, rfl, World.ownsRow_nil _ _ _ _, World.grownBy.refl _ _⟩
  | some x =>
    have hsn := fun w => Lib.run_eql_slice_nil (P := Ybaf.prog) w 33 5 (some x) l.length c 0 0 Ybaf.underlying33
    have hown : ∀ o, o = Obj.cells #[] 5 (0, 0) → (w.alloc o).ownsRow w.heap.size 5 1 (.slice (some ⟨w.heap.size, 0, none⟩) 0 0) 0 [] := fun o ho => by
      subst ho
      exact ⟨rfl, .inr ⟨w.heap.size, 0, #[], rfl, Nat.le_refl _, heap_alloc_new w _, Nat.le_refl _, by simp [maxLen], rfl, rfl⟩⟩
    go_enter Ybaf.func11, Ybaf.ntmps11
    go_wp2_with (at_builtin; refine wpList_append_src _ rfl _ _ 33 33 rfl w.heap.size 5 i0 (.int .u8 0) 1 1 Ybaf.underlying33 hi hz0 hz1 hz2 rfl _ 0 [] rfl _ l.length (Lib.byteCells l) rfl ?a1 ?a2 ?a3 ?a4 ?a5 ?a6)
    case a1 => exact hown _ rfl
    case a2 => exact hsrc _
    case a3 => unfold maxLen; omega
    case a4 => omega
    case a5 => first | omega | simp
    case a6 =>
      intro v1 w1 ho1 hg1 _ hat1 hfull1
      go_wp2
      go_ret
      refine ⟨v1, rfl, by simpa using ho1, ?_⟩
      have hsz := hg1.size
      refine ⟨hg1.os, hg1.tape, hg1.output, by simp at hsz; omega, fun i hi _ => (hg1.block i (by simp; omega) (by simp [Value.ownBlock]; omega)).trans (Below.heap_alloc _ _ _ hi)⟩
end Go.Proofs.YbulkbzsuFmt
