import Derived.Test.YbulkbzsgDoorRows
import Derived.Test.YbulkbzsgDoorLaw
import Derived.ProofKit
import Derived.Below
import Derived.Deep.AppendLies
import Derived.Deep.QuietTactic
import Derived.BigQuiet
import Derived.LoopTactic
namespace Go.Proofs.YbulkbzsgDoor
open Go.RowKit
set_option linter.unusedVariables false
set_option linter.unusedSimpArgs false

theorem hid_mk {p : Prop} (h : p) : Hid p := h
theorem ret_bool {a b : Bool} (h : a = b) : Ending.returned (.bool a) = .returned (.bool b) := by rw [h]
theorem Ybad.info5 : (Ybad.prog.info? 5).map (fun i => (i.zero, i.size, i.bytes)) = some (some (.int .u8 0), 1, 1) := by kernel_rfl

theorem own_same {w w' : World} {B : Nat} {e : TypeId} {sz : Nat} {v : Value} {n : Nat} {xs : List Value} (h : w.ownsRow B e sz v n xs) (hs : ∀ g, v.ownBlock = some g → w'.heap[g]? = w.heap[g]?) : w'.ownsRow B e sz v n xs := by
  obtain ⟨h1, h2⟩ := h
  refine ⟨h1, ?_⟩
  rcases h2 with h2 | ⟨g, cap, cur, rfl, b, c, d⟩
  · exact .inl h2
  · exact .inr ⟨g, cap, cur, rfl, b, (hs g rfl).trans c, d⟩

theorem ownsRow_shape {w : World} {B : Nat} {e : TypeId} {sz : Nat} {v : Value} {n : Nat} {xs : List Value} (h : w.ownsRow B e sz v n xs) : ∃ a c, v = .slice a n c := by
  rcases h.2 with ⟨rfl, rfl⟩ | ⟨g, cap, cur, rfl, _⟩
  · exact ⟨_, _, rfl⟩
  · exact ⟨_, _, rfl⟩

/-- A buffer of bytes that the call owns and that grows; what lay there before, but for 'row', is as it was. -/
structure Buf (B : Nat) (w0 : World) (row : Option Nat) (v0 : Value) (n0 : Nat) (v : Value) (xs : List Int) (w : World) : Prop where
  own : w.ownsRow B 5 1 v xs.length (xs.map (Value.int .u8))
  grown : w0.grownBy w row
  loc : (v = v0 ∧ xs.length = n0) ∨ ∀ g, v.ownBlock = some g → some g = row ∨ w0.heap.size ≤ g

/-- What 'row' may be: the buffer's own block; or none, where the buffer is full. -/
def RowOk (row : Option Nat) (v0 : Value) (n0 : Nat) : Prop := row = v0.ownBlock ∨ (row = none ∧ capN v0 ≤ n0)

theorem grown_two {w0 w1 w2 : World} {row r2 : Option Nat} (h : w0.grownBy w1 row) (k : w1.grownBy w2 r2) (hr : ∀ g, r2 = some g → some g = row ∨ w0.heap.size ≤ g) : w0.grownBy w2 row :=
  ⟨k.os.trans h.os, k.tape.trans h.tape, k.output.trans h.output, Nat.le_trans h.size k.size, fun i hi hne =>
    (k.block i (Nat.lt_of_lt_of_le hi h.size) (fun e => by
      rcases hr i e.symm with h' | h'
      · exact hne h'
      · omega)).trans (h.block i hi hne)⟩

theorem Buf.step {B : Nat} {w0 : World} {row : Option Nat} {v0 : Value} {n0 : Nat} {v v' : Value} {xs ys : List Int} {w w1 w2 : World} (h : Buf B w0 row v0 n0 v xs w) (hrow : RowOk row v0 n0) (hy : 0 < ys.length) (hg1 : w.grownBy w1 none)
    (ho : w2.ownsRow B 5 1 v' (xs.length + ys.length) (xs.map (Value.int .u8) ++ ys.map (Value.int .u8))) (hg : w1.grownBy w2 v.ownBlock) (hat : v'.ownBlock = v.ownBlock ∨ v'.ownBlock = some w1.heap.size)
    (hfull : capN v < xs.length + ys.length → w1.grownBy w2 none ∧ v'.ownBlock = some w1.heap.size) : Buf B w0 row v0 n0 v' (xs ++ ys) w2 := by
  have hs := h.grown.size
  have hs1 := hg1.size
  have h01 : w0.grownBy w1 row := grown_two h.grown hg1 (fun g hg => by cases hg)
  refine ⟨by rw [List.length_append, List.map_append]; exact ho, ?_, ?_⟩
  · rcases h.loc with ⟨rfl, hn⟩ | hl
    · rcases hrow with hr | ⟨hr, hc⟩
      · exact grown_two h01 hg (fun g hg' => .inl (by rw [hr, hg']))
      · exact grown_two h01 (hfull (by omega)).1 (fun g hg' => by cases hg')
    · exact grown_two h01 hg hl
  · right
    intro g hg'
    rcases h.loc with ⟨rfl, hn⟩ | hl
    · rcases hrow with hr | ⟨hr, hc⟩
      · rcases hat with h' | h'
        · left; rw [hr, ← h', hg']
        · right; rw [h'] at hg'; cases hg'; omega
      · right
        rw [(hfull (by omega)).2] at hg'; cases hg'; omega
    · rcases hat with h' | h'
      · exact hl g (by rw [← h', hg'])
      · right; rw [h'] at hg'; cases hg'; omega

/-- A string's bytes as numbers. -/
def bytesI (s : ByteArray) : List Int := s.data.toList.map fun b => (b.toNat : Int)
theorem bytesI_len (s : ByteArray) : (bytesI s).length = s.size := by
  unfold bytesI; rw [List.length_map, Array.length_toList]; rfl
theorem byteCells_eq (s : ByteArray) : byteCells s = (bytesI s).map (Value.int .u8) := by
  unfold byteCells bytesI; rw [List.map_map]; rfl
theorem bytesI_range (s : ByteArray) : ∀ x ∈ bytesI s, 0 ≤ x ∧ x ≤ 255 := by
  intro x hx
  obtain ⟨b, _, rfl⟩ := List.mem_map.1 hx
  have := b.toNat_lt
  omega

def nameErr : Nat → List ByteArray → Nat
  | _, [] => 0
  | sz, s :: t => if s.size = 0 then 1 else if 63 < s.size then 2 else if 255 < sz + (1 + s.size) then 3 else nameErr (sz + (1 + s.size)) t

def wireB : List ByteArray → List Int
  | [] => []
  | s :: t => (s.size : Int) :: bytesI s ++ wireB t

theorem wireB_append (a b : List ByteArray) : wireB (a ++ b) = wireB a ++ wireB b := by
  induction a with
  | nil => rfl
  | cons x t ih => simp [wireB, ih]
theorem wireB_succ (ss : List ByteArray) (k : Nat) (s : ByteArray) (h : ss[k]? = some s) : wireB (ss.take (k + 1)) = wireB (ss.take k) ++ ((s.size : Int) :: bytesI s) := by
  rw [List.take_add_one, h, wireB_append]
  simp [wireB]

/-- How long the name is behind k labels. -/
def sizeTo (ss : List ByteArray) (k : Nat) : Nat := 1 + (wireB (ss.take k)).length
theorem sizeTo_succ (ss : List ByteArray) (k : Nat) (s : ByteArray) (h : ss[k]? = some s) : sizeTo ss (k + 1) = sizeTo ss k + (1 + s.size) := by
  unfold sizeTo
  rw [wireB_succ ss k s h, List.length_append, List.length_cons, bytesI_len]
  omega

theorem nameErr_drop (ss : List ByteArray) (k : Nat) (s : ByteArray) (sz : Nat) (h : ss[k]? = some s) :
    nameErr sz (ss.drop k) = if s.size = 0 then 1 else if 63 < s.size then 2 else if 255 < sz + (1 + s.size) then 3 else nameErr (sz + (1 + s.size)) (ss.drop (k + 1)) := by
  have hl : k < ss.length := by
    rcases Nat.lt_or_ge k ss.length with hlt | hge
    · exact hlt
    · rw [List.getElem?_eq_none hge] at h; cases h
  have : ss[k] = s := by rw [List.getElem?_eq_getElem hl] at h; exact Option.some.inj h
  rw [List.drop_eq_getElem_cons hl, this]
  rfl

/-- Strings that can be read, below block B. -/
def StrsIn (B : Nat) (w : World) (a : Option Addr) (ss : List ByteArray) : Prop :=
  ∀ j s, ss[j]? = some s → ∃ b off, a = some ⟨b, off, none⟩ ∧ b < B ∧ w.cell? ⟨b, off + j, none⟩ = some (.string s)

theorem StrsIn.mono {B : Nat} {w w' : World} {a : Option Addr} {ss : List ByteArray} (h : StrsIn B w a ss) (hb : ∀ b, b < B → w'.heap[b]? = w.heap[b]?) : StrsIn B w' a ss := by
  intro j s hj
  obtain ⟨b, off, h1, h2, h3⟩ := h j s hj
  exact ⟨b, off, h1, h2, (World.cell?_of_block (w := w) (a := ⟨b, off + j, none⟩) (hb b h2)).trans h3⟩

/-- The three sentinels. -/
structure Errs (E1 E2 E3 : Value) (w : World) : Prop where
  e1 : w.cell? ⟨1, 0, none⟩ = some E1
  e2 : w.cell? ⟨2, 0, none⟩ = some E2
  e3 : w.cell? ⟨3, 0, none⟩ = some E3

def errV (E1 E2 E3 : Value) : Nat → Value
  | 0 => .nilIface
  | 1 => E1
  | 2 => E2
  | _ => E3

end Go.Proofs.YbulkbzsgDoor
