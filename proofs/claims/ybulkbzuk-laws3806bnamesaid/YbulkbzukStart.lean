import Derived.Test.YbulkbzukLoops
import Derived.WalkSmall
namespace Go.Proofs.Ybulkbzuk
open Go Go.RowKit Go.Maps Go.ChangeMaps
set_option linter.unusedVariables false
set_option linter.unusedSimpArgs false

theorem table_walk (w : World) : Calls Yba.prog 4 #[] w fun e w' => e = .returned (.slice (some ⟨w.heap.size, 0, none⟩) 16 16) ∧ w' = w.alloc (.cells (tbl.map Value.string).toArray 9) := by
  go_enter Yba.func4, Yba.ntmps4
  go_wp2
  go_ret
  exact ⟨rfl, rfl⟩

theorem queue_new (w : World) (m : Nat) (B : Nat) : Calls Yba.prog 6 #[.int .i64 m, passF B] w fun e w' => e = .returned (.pointer (some ⟨w.heap.size + 2, 0, none⟩)) ∧
    w' = (((w.alloc (.map #[] 0)).alloc (.map #[] 0)).alloc (.cells #[.int .i64 m, passF B, .map (some w.heap.size), .slice none 0 0, .map (some (w.heap.size + 1))] 47)) := by
  have hmm := @run_makeMap Yba.prog
  go_enter Yba.func6, Yba.ntmps6
  go_wp2
  go_ret
  exact ⟨rfl, rfl⟩

def obj3 : Obj := .cells #[.slice none 0 0] 24
def obj6 (B m : Nat) : Obj := .cells #[.int .i64 m, passF B, .map (some (B + 4)), .slice none 0 0, .map (some (B + 5))] 47
def obj8 (B : Nat) : Obj := .cells #[.int .i64 0, .int .i64 0, .int .i64 0, .int .i64 0, .int .i64 0, .int .i64 0, .pointer (some ⟨B + 6, 0, none⟩), .int .i64 0, .pointer none, .slice none 0 0, .map (some (B + 7)), .int .i64 0] 37
def obj2 (B : Nat) : Obj := .cells #[.slice (some ⟨B + 1, 0, none⟩) 16 16] 24
def startW (w : World) (ban : Int) (m : Nat) : World :=
  ((((((((w.alloc (.cells #[.int .u16 ban] 23)).alloc (.cells (tbl.map Value.string).toArray 9)).alloc (obj2 w.heap.size)).alloc obj3).alloc (.map #[] 0)).alloc (.map #[] 0)).alloc (obj6 w.heap.size m)).alloc (.map #[] 0)).alloc (obj8 w.heap.size)

theorem start_heap (w : World) (ban : Int) (m : Nat) : (startW w ban m).heap = ((((((((w.heap.push (.cells #[.int .u16 ban] 23)).push (.cells (tbl.map Value.string).toArray 9)).push (obj2 w.heap.size)).push obj3).push (.map #[] 0)).push (.map #[] 0)).push (obj6 w.heap.size m)).push (.map #[] 0)).push (obj8 w.heap.size) := rfl

theorem map_fit (w : World) (b : Nat) (R : Value → Option (DataW Unit × List MemPlace)) (h : w.heap[b]? = some (.map #[] 0)) : w.ownsMap Yba.prog 9 R b 0 (.map []) := by
  obtain ⟨es, cl, hb, F, hs, hD⟩ := World.ownsMap_made w Yba.prog 9 R
  rw [heap_alloc_new] at hb
  cases hb
  exact ⟨_, _, h, F, hs, hD⟩

theorem start_St (w : World) (ban : Int) (m : Nat) : St w (startW w ban m) w.heap.size ban m (.slice none 0 0) (.slice none 0 0) (.slice none 0 0) [] []
    [(.slice none 0 0, []), (.slice none 0 0, []), (.slice none 0 0, []), (.slice none 0 0, []), (.slice none 0 0, []), (.slice none 0 0, [])] := by
  have hh := start_heap w ban m
  have g : ∀ i, (startW w ban m).heap[w.heap.size + i]? = #[.cells #[.int .u16 ban] 23, .cells (tbl.map Value.string).toArray 9, obj2 w.heap.size, obj3, .map #[] 0, .map #[] 0, obj6 w.heap.size m, .map #[] 0, obj8 w.heap.size][i]? := by
    intro i
    have e : (startW w ban m).heap = w.heap ++ #[.cells #[.int .u16 ban] 23, .cells (tbl.map Value.string).toArray 9, obj2 w.heap.size, obj3, .map #[] 0, .map #[] 0, obj6 w.heap.size m, .map #[] 0, obj8 w.heap.size] := by
      rw [hh]; exact Array.toList_inj.1 (by simp)
    rw [e, Array.getElem?_append_right (by omega)]
    congr 1
    omega
  have sz : (startW w ban m).heap.size = w.heap.size + 9 := by rw [hh]; simp
  refine ⟨?_, by omega, ?_, ?_, ?_, g 3, map_fit _ _ _ (g 4), map_fit _ _ _ (g 5), g 6, map_fit _ _ _ (g 7), g 8, ?_, ?_⟩
  · exact ⟨rfl, rfl, rfl, by omega, fun b hb => by rw [hh]; simp [Array.getElem?_push]; repeat rw [if_neg (by omega)]⟩
  · have g0 := g 0
    rw [Nat.add_zero] at g0
    rw [cell_of_row _ _ _ _ _ _ g0]; rfl
  · intro i hi
    rw [cell_of_row _ _ _ _ _ _ (g 1)]
    have hi' : i < tbl.length := hi
    simp [tblAt, List.getElem?_eq_getElem hi']
  · rw [cell_of_row _ _ _ _ _ _ (g 2)]; rfl
  · intro p hp
    have : p = (.slice none 0 0, []) := by simpa using hp
    subst this
    exact World.ownsRow_nil _ _ _ _
  · simp [Off, Value.ownBlock]

theorem bits_and_u16_nat (a b : Nat) (ha : a < 65536) (hb : b < 65536) : bits .and .u16 (a : Int) (b : Int) = ((a &&& b : Nat) : Int) := by
  have hx : a &&& b < 2 ^ 16 := Nat.and_lt_two_pow _ (by omega)
  have h1 : (BitVec.ofInt 16 (a : Int)).toNat = a := by
    rw [BitVec.ofInt_natCast, BitVec.toNat_ofNat]; exact Nat.mod_eq_of_lt (by omega)
  have h2 : (BitVec.ofInt 16 (b : Int)).toNat = b := by
    rw [BitVec.ofInt_natCast, BitVec.toNat_ofNat]; exact Nat.mod_eq_of_lt (by omega)
  show IntKind.u16.wrap ((BitVec.ofInt 16 (a : Int) &&& BitVec.ofInt 16 (b : Int)).toNat : Int) = _
  rw [BitVec.toNat_and, h1, h2]
  simp only [IntKind.wrap, IntKind.bits, IntKind.signed]
  simp
  omega
theorem and_one_u16 (E : Int) (h0 : 0 ≤ E) (h1 : E ≤ 65535) : bits BinOp.and IntKind.u16 E 1 = E % 2 := by
  have h := bits_and_u16_nat E.toNat 1 (by omega) (by omega)
  rw [Nat.and_one_is_mod, Int.toNat_of_nonneg h0] at h
  have h2 : ((E.toNat % 2 : Nat) : Int) = E % 2 := by omega
  exact h.trans h2
theorem bit_cases (ban : Int) (k : Nat) (h0 : 0 ≤ ban) (h1 : ban ≤ 65535) : bits BinOp.and IntKind.u16 (ban / 2 ^ k) 1 = 0 ∨ bits BinOp.and IntKind.u16 (ban / 2 ^ k) 1 = 1 := by
  have hp : (0 : Int) < 2 ^ k := Int.pow_pos (by omega)
  have a : 0 ≤ ban / 2 ^ k := Int.ediv_nonneg h0 (by omega)
  have b : ban / 2 ^ k ≤ 65535 := Int.le_trans (Int.ediv_le_self _ h0) h1
  rw [and_one_u16 _ a b]
  omega
end Go.Proofs.Ybulkbzuk
