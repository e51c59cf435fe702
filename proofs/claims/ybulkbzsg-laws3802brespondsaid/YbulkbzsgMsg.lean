import Derived.Test.YbulkbzsgRcd
namespace Go.Proofs.Ybulkbzsg
open Go.RowKit
set_option linter.unusedVariables false
set_option linter.unusedSimpArgs false

/-- The OPT fields that were built, at block p. -/
def OptOut (lo : Nat) (w : World) (p : Nat) (r : Rec) : Prop :=
  ∃ og oc, lo ≤ og ∧ w.heap[p]? = some (.cells #[.int .u16 r.udp, .int .u8 r.ext, .int .u8 r.ver, .bool r.dO, .int .u16 r.z, .slice (some ⟨og, 0, none⟩) r.os.length oc] 37 (0, 0)) ∧
    ∀ j o, r.os[j]? = some o → ∃ dv, w.cell? ⟨og, j * 2, none⟩ = some (.int .u16 o.1) ∧ w.cell? ⟨og, j * 2 + 1, none⟩ = some dv ∧ w.ownsRow lo 5 1 dv o.2.length (o.2.map (Value.int .u8))

def RecCells (lo : Nat) (w : World) (r : Rec) (cs : List Value) : Prop :=
  ∃ nv raw ty cl ttl dv rd ov, cs = [.int .u8 (r.sec % 3), nv, raw, ty, cl, ttl, dv, rd, ov] ∧ (∃ a c, nv = .slice a (r.lab % 3).toNat c) ∧ (r.has = false → ov = .pointer none) ∧
    (r.has = true → w.ownsRow lo 5 1 dv (encOf r).length ((encOf r).map (Value.int .u8)) ∧ ∃ p, lo ≤ p ∧ ov = .pointer (some ⟨p, 0, none⟩) ∧ OptOut lo w p r)

/-- From block lo on, what was there is as it was. -/
def Mid (lo : Nat) (w w' : World) : Prop := ∀ b, lo ≤ b → b < w.heap.size → w'.heap[b]? = w.heap[b]?

theorem heap_lt {w : World} {b : Nat} {o : Obj} (h : w.heap[b]? = some o) : b < w.heap.size := by
  rcases Nat.lt_or_ge b w.heap.size with hlt | hge
  · exact hlt
  · rw [Array.getElem?_eq_none hge] at h; cases h

theorem Mid.own {lo : Nat} {w w' : World} (h : Mid lo w w') {e : TypeId} {sz : Nat} {v : Value} {n : Nat} {xs : List Value} (ho : w.ownsRow lo e sz v n xs) : w'.ownsRow lo e sz v n xs := by
  obtain ⟨h1, h2⟩ := ho
  refine ⟨h1, ?_⟩
  rcases h2 with h2 | ⟨g, cap, cur, a, b, c, d⟩
  · exact .inl h2
  · exact .inr ⟨g, cap, cur, a, b, (h g b (heap_lt c)).trans c, d⟩

theorem Mid.cell {lo : Nat} {w w' : World} (h : Mid lo w w') {b o : Nat} {v : Value} (hb : lo ≤ b) (hc : w.cell? ⟨b, o, none⟩ = some v) : w'.cell? ⟨b, o, none⟩ = some v :=
  (World.cell?_of_block (w := w) (h b hb (World.block_lt_of_cell? w _ hc))).trans hc

theorem Mid.opt {lo : Nat} {w w' : World} (h : Mid lo w w') {p : Nat} {r : Rec} (hp : lo ≤ p) (ho : OptOut lo w p r) : OptOut lo w' p r := by
  obtain ⟨og, oc, h1, h2, h3⟩ := ho
  refine ⟨og, oc, h1, (h p hp (heap_lt h2)).trans h2, fun j o hj => ?_⟩
  obtain ⟨dv, a, b, c⟩ := h3 j o hj
  exact ⟨dv, h.cell h1 a, h.cell h1 b, h.own c⟩

theorem Mid.cells {lo : Nat} {w w' : World} (h : Mid lo w w') {r : Rec} {cs : List Value} (hr : RecCells lo w r cs) : RecCells lo w' r cs := by
  obtain ⟨nv, raw, ty, cl, ttl, dv, rd, ov, h1, h2, h3, h4⟩ := hr
  refine ⟨nv, raw, ty, cl, ttl, dv, rd, ov, h1, h2, h3, fun hh => ?_⟩
  obtain ⟨a, p, b, c, d⟩ := h4 hh
  exact ⟨h.own a, p, b, c, h.opt b d⟩

theorem OptOut.optsIn {lo : Nat} {w : World} {p : Nat} {r : Rec} {og : Nat} (h3 : ∀ j o, r.os[j]? = some o → ∃ dv, w.cell? ⟨og, j * 2, none⟩ = some (.int .u16 o.1) ∧ w.cell? ⟨og, j * 2 + 1, none⟩ = some dv ∧ w.ownsRow lo 5 1 dv o.2.length (o.2.map (Value.int .u8))) :
    OptsIn w (some ⟨og, 0, none⟩) r.os := by
  intro j o hj
  obtain ⟨dv, a, b, c⟩ := h3 j o hj
  exact ⟨og, 0, dv, rfl, by simpa using a, by simpa using b, ownsRow_bytesIn c⟩

/-- The message that was built: its records lie at block G. -/
def RecsIn (lo : Nat) (w : World) (G : Nat) (rs : List Rec) : Prop :=
  ∀ i r, rs[i]? = some r → ∃ cs, RecCells lo w r cs ∧ ∀ j u, cs[j]? = some u → w.cell? ⟨G, i * 9 + j, none⟩ = some u

def faultOf (rs : List Rec) : Int :=
  match rs.filter (·.has) with
  | [] => 1
  | [r] => if r.sec % 3 ≠ 2 then 3 else if r.lab % 3 ≠ 0 then 4 else if encs r.os ≠ encOf r then 5 else 0
  | _ => 2

end Go.Proofs.Ybulkbzsg
