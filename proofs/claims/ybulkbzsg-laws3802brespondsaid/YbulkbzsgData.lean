import Derived.Test.YbulkbzsgLeaf
import Derived.LoopTactic
namespace Go.Proofs.Ybulkbzsg
open Go.RowKit

/-- A slice of bytes that can be read. -/
def BytesIn (w : World) (v : Value) (bs : List Int) : Prop :=
  ∃ a c, v = .slice a bs.length c ∧ (a = none → bs = []) ∧ ∀ x, a = some x → ∀ j u, (bs.map (Value.int .u8))[j]? = some u → w.cell? (x.add j) = some u

theorem BytesIn.src {w : World} {v : Value} {bs : List Int} (h : BytesIn w v bs) : Src Yba.prog 1 38 v bs.length (bs.map (Value.int .u8)) w := by
  obtain ⟨a, c, rfl, hn, hs⟩ := h
  cases a with
  | none =>
    have := hn rfl
    subst this
    exact Src.ofNil w Yba.underlying38 c
  | some x => exact Src.ofSlice w Yba.underlying38 x _ c _ (by simp) (hs x rfl) (ints_one .u8 bs)

theorem BytesIn.mono {w w' : World} {v : Value} {bs : List Int} (h : BytesIn w v bs) (hb : ∀ b, b < w.heap.size → w'.heap[b]? = w.heap[b]?) : BytesIn w' v bs := by
  obtain ⟨a, c, rfl, hn, hs⟩ := h
  refine ⟨a, c, rfl, hn, fun x hx j u hu => ?_⟩
  have h1 := hs x hx j u hu
  rw [World.cell?_of_block (w := w) (hb _ (World.block_lt_of_cell? w _ h1))]
  exact h1

theorem ownsRow_bytesIn {w : World} {base : Nat} {v : Value} {bs : List Int} (h : w.ownsRow base 5 1 v bs.length (bs.map (Value.int .u8))) : BytesIn w v bs := by
  rcases h.2 with ⟨rfl, h0⟩ | ⟨g, cap, cur, rfl, hb, hg, hn, hm, hs, ht⟩
  · exact ⟨none, 0, by rw [h0], fun _ => List.eq_nil_of_length_eq_zero h0, fun x hx => by cases hx⟩
  · exact ⟨_, cap, rfl, (fun h => by cases h), fun x hx j u hu => by cases hx; exact h.cells (g := g) rfl j u hu⟩

/-- Options: code and data. -/
def OptsIn (w : World) (a : Option Addr) (os : List (Int × List Int)) : Prop :=
  ∀ j o, os[j]? = some o → ∃ b off dv, a = some ⟨b, off, none⟩ ∧ w.cell? ⟨b, off + j * 2, none⟩ = some (.int .u16 o.1) ∧ w.cell? ⟨b, off + j * 2 + 1, none⟩ = some dv ∧ BytesIn w dv o.2

def OptWf (o : Int × List Int) : Prop := 0 ≤ o.1 ∧ o.1 ≤ 65535 ∧ o.2.length ≤ 1024 ∧ ∀ x ∈ o.2, 0 ≤ x ∧ x ≤ 255

theorem OptsIn.mono {w w' : World} {a : Option Addr} {os : List (Int × List Int)} (h : OptsIn w a os) (hb : ∀ b, b < w.heap.size → w'.heap[b]? = w.heap[b]?) : OptsIn w' a os := by
  intro j o hj
  obtain ⟨b, off, dv, h1, h2, h3, h4⟩ := h j o hj
  exact ⟨b, off, dv, h1, (World.cell?_of_block (w := w) (hb _ (World.block_lt_of_cell? w _ h2))).trans h2, (World.cell?_of_block (w := w) (hb _ (World.block_lt_of_cell? w _ h3))).trans h3, h4.mono hb⟩

def encO (o : Int × List Int) : List Int := [o.1 / 256, o.1 % 256, (o.2.length : Int) / 256, (o.2.length : Int) % 256] ++ o.2
def encs : List (Int × List Int) → List Int
  | [] => []
  | o :: t => encO o ++ encs t
theorem encs_append (a b : List (Int × List Int)) : encs (a ++ b) = encs a ++ encs b := by
  induction a with
  | nil => rfl
  | cons x t ih => simp [encs, ih]
theorem encs_succ (os : List (Int × List Int)) (k : Nat) (o : Int × List Int) (h : os[k]? = some o) : encs (os.take (k + 1)) = encs (os.take k) ++ encO o := by
  rw [List.take_add_one, h, encs_append]
  simp [encs]
theorem encO_len (o : Int × List Int) : (encO o).length = 4 + o.2.length := by simp [encO]; omega
theorem encs_len_le (os : List (Int × List Int)) (h : ∀ o ∈ os, OptWf o) : (encs os).length ≤ os.length * 1028 := by
  induction os with
  | nil => simp [encs]
  | cons x t ih =>
    have h1 := (h x (by simp)).2.2.1
    have h2 := ih (fun o ho => h o (by simp [ho]))
    simp only [encs, List.length_append, encO_len, List.length_cons]
    omega

/-- The value of a record of the input. -/
structure Rec where
  sec : Int
  lab : Int
  has : Bool
  udp : Int
  ext : Int
  ver : Int
  dO : Bool
  z : Int
  oa : Option Addr
  oc : Nat
  os : List (Int × List Int)
  mode : Int

def Rec.cells (r : Rec) : Array Value := #[.int .u8 r.sec, .int .u8 r.lab, .bool r.has, .int .u16 r.udp, .int .u8 r.ext, .int .u8 r.ver, .bool r.dO, .int .u16 r.z, .slice r.oa r.os.length r.oc, .int .u8 r.mode]

structure RecWf (r : Rec) : Prop where
  sec : 0 ≤ r.sec ∧ r.sec ≤ 255
  lab : 0 ≤ r.lab ∧ r.lab ≤ 255
  udp : 0 ≤ r.udp ∧ r.udp ≤ 65535
  ext : 0 ≤ r.ext ∧ r.ext ≤ 255
  ver : 0 ≤ r.ver ∧ r.ver ≤ 255
  z : 0 ≤ r.z ∧ r.z ≤ 65535
  mode : 0 ≤ r.mode ∧ r.mode ≤ 255
  len : r.os.length ≤ 1024
  opts : ∀ o ∈ r.os, OptWf o

/-- What zzs3802benc answers. -/
def encOf (r : Rec) : List Int :=
  if r.mode % 3 = 1 then encs r.os ++ [0] else if r.mode % 3 = 2 then (encs r.os).take ((encs r.os).length - 1) else encs r.os

theorem encs_bytes (os : List (Int × List Int)) (h : ∀ o ∈ os, OptWf o) : ∀ x ∈ encs os, 0 ≤ x ∧ x ≤ 255 := by
  induction os with
  | nil => intro x hx; cases hx
  | cons o t ih =>
    intro x hx
    obtain ⟨h1, h2, h3, h4⟩ := h o (by simp)
    simp only [encs, List.mem_append, encO, List.mem_cons, List.not_mem_nil, or_false] at hx
    rcases hx with ((rfl | rfl | rfl | rfl) | hx) | hx
    · omega
    · omega
    · omega
    · omega
    · exact h4 x hx
    · exact ih (fun o ho => h o (by simp [ho])) x hx

theorem encOf_bytes (r : Rec) (h : RecWf r) : ∀ x ∈ encOf r, 0 ≤ x ∧ x ≤ 255 := by
  intro x hx
  have hb := encs_bytes r.os h.opts
  unfold encOf at hx
  split at hx
  · rcases List.mem_append.1 hx with hx | hx
    · exact hb x hx
    · simp at hx; omega
  · split at hx
    · exact hb x (List.mem_of_mem_take hx)
    · exact hb x hx
end Go.Proofs.Ybulkbzsg
