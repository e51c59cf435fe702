import Derived.Test.YbulkbzukLaw
import Derived.Test.YbulkbzukRows
import Derived.Maps.OwnSet
import Derived.Below
import Derived.BigQuiet
import Derived.Deep.RegionWith
namespace Go.Proofs.Ybulkbzuk
open Go Go.RowKit Go.Maps Go.ChangeMaps
set_option linter.unusedVariables false
set_option linter.unusedSimpArgs false

theorem hid_mk {p : Prop} (h : p) : Hid p := h

/-- The table of addresses. -/
def tbl : List ByteArray := [⟨#[104, 48, 58, 49]⟩, ⟨#[104, 49, 58, 50]⟩, ⟨#[104, 50, 58, 51]⟩, ⟨#[104, 51, 58, 52]⟩, ⟨#[104, 52, 58, 53]⟩, ⟨#[104, 53, 58, 54]⟩, ⟨#[104, 54, 58, 55]⟩, ⟨#[104, 55, 58, 56]⟩, ⟨#[104, 56, 58, 57]⟩, ⟨#[104, 57, 58, 49, 48]⟩, ⟨#[104, 97, 58, 49, 49]⟩, ⟨#[104, 98, 58, 49, 50]⟩, ⟨#[104, 99, 58, 49, 51]⟩, ⟨#[104, 100, 58, 49, 52]⟩, ⟨#[104, 101, 58, 49, 53]⟩, ⟨#[104, 102, 58, 49, 54]⟩]
theorem tbl_len : tbl.length = 16 := rfl
def tblAt (k : Nat) : ByteArray := tbl.getD k ByteArray.empty
theorem tbl_inj : ∀ i, i < 16 → ∀ j, j < 16 → tblAt i = tblAt j → i = j := by decide +kernel
theorem tbl_small : ∀ i, i < 16 → (tblAt i).size ≤ 5 := by decide +kernel

def Rw (w : World) (base : Nat) (v : Value) (l : List ByteArray) : Prop := w.ownsRow base 9 1 v l.length (l.map Value.string)
def Off (u v : Value) : Prop := ∀ g, u.ownBlock = some g → v.ownBlock ≠ some g
theorem Off.symm {u v : Value} (h : Off u v) : Off v u := fun g hv hu => h g hu hv
abbrev Rws := List (Value × List ByteArray)
structure AllR (w : World) (base : Nat) (vs : Rws) : Prop where
  own : ∀ p ∈ vs, Rw w base p.1 p.2
  off : vs.Pairwise (fun p q => Off p.1 q.1)

theorem Rw.kept {w w' : World} {base : Nat} {v : Value} {l : List ByteArray} {row : Option Nat} (h : Rw w base v l) (hg : w.grownBy w' row) (hne : v.ownBlock = none ∨ v.ownBlock ≠ row) : Rw w' base v l := World.ownsRow.kept h hg hne
theorem Rw.lt {w : World} {base : Nat} {v : Value} {l : List ByteArray} (h : Rw w base v l) : ∀ k, v.ownBlock = some k → base ≤ k ∧ k < w.heap.size := World.ownsRow.lt h

theorem AllR.kept {w w' : World} {base : Nat} {vs : Rws} {row : Option Nat} (h : AllR w base vs) (hg : w.grownBy w' row) (hr : ∀ b, row = some b → b < base) : AllR w' base vs :=
  ⟨fun p hp => (h.own p hp).kept hg (by
    cases e : p.1.ownBlock with
    | none => exact .inl rfl
    | some g => exact .inr (fun e' => by have := (h.own p hp).lt g e; have := hr g e'.symm; omega)), h.off⟩

theorem AllR.step {w w' : World} {base : Nat} {pre post : Rws} {v v' : Value} {l l' : List ByteArray} (h : AllR w base (pre ++ (v, l) :: post)) (hg : w.grownBy w' v.ownBlock) (hn : Rw w' base v' l') (hloc : v'.ownBlock = v.ownBlock ∨ ∃ g, w.heap.size ≤ g ∧ v'.ownBlock = some g) :
    AllR w' base (pre ++ (v', l') :: post) := by
  obtain ⟨ho, hp⟩ := h
  rw [List.pairwise_append, List.pairwise_cons] at hp
  obtain ⟨p1, ⟨p2, p3⟩, p4⟩ := hp
  have offv : ∀ p, p ∈ pre ∨ p ∈ post → Off p.1 v := by
    rintro p (hp | hp)
    · exact p4 p hp (v, l) (by simp)
    · exact (p2 p hp).symm
  have mem : ∀ p, p ∈ pre ∨ p ∈ post → p ∈ pre ++ (v, l) :: post := by
    rintro p (hp | hp) <;> simp [hp]
  have offv' : ∀ p, p ∈ pre ∨ p ∈ post → Off p.1 v' := by
    intro p hp g hg1 hg2
    rcases hloc with e | ⟨g', hg', e⟩
    · exact offv p hp g hg1 (e ▸ hg2)
    · rw [e] at hg2; cases hg2
      have := (ho p (mem p hp)).lt g hg1
      omega
  refine ⟨?_, ?_⟩
  · intro p hp
    have hk : ∀ p, p ∈ pre ∨ p ∈ post → Rw w' base p.1 p.2 := fun p hp => (ho p (mem p hp)).kept hg (by
      cases e : p.1.ownBlock with
      | none => exact .inl rfl
      | some g => exact .inr (fun e' => offv p hp g e e'.symm))
    rcases List.mem_append.1 hp with hp | hp
    · exact hk p (.inl hp)
    · rcases List.mem_cons.1 hp with rfl | hp
      · exact hn
      · exact hk p (.inr hp)
  · rw [List.pairwise_append, List.pairwise_cons]
    refine ⟨p1, ⟨fun q hq => (offv' q (.inr hq)).symm, p3⟩, fun p hp q hq => ?_⟩
    rcases List.mem_cons.1 hq with rfl | hq
    · exact offv' p (.inl hp)
    · exact p4 p hp q (by simp [hq])

/-- How the elements read: what is stored is always the one value. -/
def boolE : Value → Option (DataW Unit × List MemPlace)
  | .bool x => some (.lit (.bool x), [])
  | _ => none
def nilE : Value → Option (DataW Unit × List MemPlace)
  | .nilIface => some (.nil, [])
  | _ => none
theorem boolE_inv {v : Value} {z : DataW Unit × List MemPlace} (h : boolE v = some z) : ∃ x, v = .bool x ∧ z = (.lit (.bool x), []) := by
  unfold boolE at h
  split at h
  · cases h; exact ⟨_, rfl, rfl⟩
  · cases h
theorem nilE_inv {v : Value} {z : DataW Unit × List MemPlace} (h : nilE v = some z) : v = .nilIface ∧ z = (.nil, []) := by
  unfold nilE at h
  split at h
  · cases h; exact ⟨rfl, rfl⟩
  · cases h

abbrev key (s : ByteArray) : Lit := .string s.data.toList
abbrev tru : DataW Unit := .lit (.bool true)
theorem law9 : Keyed Yba.prog 9 := string_keyed Yba.underlying9

abbrev passF (B : Nat) : Value := .func (.func 5) #[] #[.pointer (some ⟨B + 3, 0, none⟩), .pointer (some ⟨B + 2, 0, none⟩), .pointer (some ⟨B, 0, none⟩)]

structure St (w0 w : World) (B : Nat) (ban : Int) (most : Nat) (lv qv rv : Value) (Qm Rm : List ByteArray) (rws : Rws) : Prop where
  bel : Below B w0 w
  size : B + 9 ≤ w.heap.size
  bb : w.cell? ⟨B, 0, none⟩ = some (.int .u16 ban)
  tb : ∀ i, i < 16 → w.cell? ⟨B + 1, i, none⟩ = some (.string (tblAt i))
  tc : w.cell? ⟨B + 2, 0, none⟩ = some (.slice (some ⟨B + 1, 0, none⟩) 16 16)
  lc : w.heap[B + 3]? = some (.cells #[lv] 24 (0, 0))
  m1 : w.ownsMap Yba.prog 9 boolE (B + 4) 0 (.map [])
  m2 : w.ownsMap Yba.prog 9 boolE (B + 5) Qm.length (setOf tru (Qm.map key))
  qb : w.heap[B + 6]? = some (.cells #[.int .i64 most, passF B, .map (some (B + 4)), qv, .map (some (B + 5))] 47 (0, 0))
  m3 : w.ownsMap Yba.prog 9 nilE (B + 7) Rm.length (setOf .nil (Rm.map key))
  pb : w.heap[B + 8]? = some (.cells #[.int .i64 0, .int .i64 0, .int .i64 0, .int .i64 0, .int .i64 0, .int .i64 0, .pointer (some ⟨B + 6, 0, none⟩), .int .i64 0, .pointer none, rv, .map (some (B + 7)), .int .i64 0] 37 (0, 0))
  rows : AllR w (B + 9) rws

theorem ne_row {b : Nat} {row : Option Nat} (hr : ∀ c, row = some c → b < c) : some b ≠ row := fun e => by have := hr b e.symm; omega

theorem St.grow {w0 w w' : World} {B : Nat} {ban : Int} {most : Nat} {lv qv rv : Value} {Qm Rm : List ByteArray} {rws rws' : Rws} {row : Option Nat} (h : St w0 w B ban most lv qv rv Qm Rm rws) (hg : w.grownBy w' row) (hr : ∀ c, row = some c → B + 9 ≤ c) (hn : AllR w' (B + 9) rws') : St w0 w' B ban most lv qv rv Qm Rm rws' := by
  have hs := h.size
  have lt : ∀ {a : Addr} {v : Value}, w.cell? a = some v → a.block < B + 9 → w'.cell? a = some v := fun {a v} hv ha => hg.cell hv (ne_row (fun c hc => by have := hr c hc; omega))
  have bl : ∀ b, b < B + 9 → w'.heap[b]? = w.heap[b]? := fun b hb => hg.block b (by omega) (ne_row (fun c hc => by have := hr c hc; omega))
  have mk : ∀ b, b < B + 9 → some b ≠ row := fun b hb => ne_row (fun c hc => by have := hr c hc; omega)
  exact ⟨h.bel.grown hg (by omega) (fun k hk => by have := hr k hk; omega), Nat.le_trans hs hg.size, lt h.bb (by simp), fun i hi => lt (h.tb i hi) (by simp), lt h.tc (by simp), (bl _ (by omega)).trans h.lc,
    h.m1.kept hg (mk _ (by omega)), h.m2.kept hg (mk _ (by omega)), (bl _ (by omega)).trans h.qb, h.m3.kept hg (mk _ (by omega)), (bl _ (by omega)).trans h.pb, hn⟩

theorem grown_set (w : World) (a : Addr) (v : Value) : w.grownBy (w.setCell a v) (some a.block) :=
  ⟨rfl, rfl, rfl, by simp [World.setCell], fun i _ hne => Below.heap_setCell w a v i (fun e => hne (by rw [e]))⟩

section
variable {w0 w : World} {B : Nat} {ban : Int} {most : Nat} {lv qv rv : Value} {Qm Rm : List ByteArray} {rws : Rws}

theorem St.alloc (h : St w0 w B ban most lv qv rv Qm Rm rws) (o : Obj) : St w0 (w.alloc o) B ban most lv qv rv Qm Rm rws :=
  h.grow (World.grownBy_alloc w o none) (fun c hc => by cases hc) (h.rows.kept (World.grownBy_alloc w o none) (fun c hc => by cases hc))

theorem St.drew (h : St w0 w B ban most lv qv rv Qm Rm rws) : St w0 w.drew B ban most lv qv rv Qm Rm rws :=
  h.grow (w' := w.drew) (row := none) ⟨rfl, rfl, rfl, Nat.le_refl _, fun _ _ _ => rfl⟩ (fun c hc => by cases hc) (h.rows.kept (row := none) ⟨rfl, rfl, rfl, Nat.le_refl _, fun _ _ _ => rfl⟩ (fun c hc => by cases hc))

theorem St.turnL (h : St w0 w B ban most lv qv rv Qm Rm rws) {w' : World} {v : Value} (hg : w.grownBy w' (some (B + 3))) (hn : w'.heap[B + 3]? = some (.cells #[v] 24 (0, 0))) : St w0 w' B ban most v qv rv Qm Rm rws := by
  have hs := h.size
  have bl : ∀ c, c < B + 9 → c ≠ B + 3 → w'.heap[c]? = w.heap[c]? := fun c hc hne => hg.block c (by omega) (fun e => hne (by cases e; rfl))
  have cl : ∀ (a : Addr) (v : Value), w.cell? a = some v → a.block < B + 9 → a.block ≠ B + 3 → w'.cell? a = some v := fun a v hv ha hne => (World.cell?_of_block (w := w) (a := a) (bl _ ha hne)).trans hv
  exact ⟨h.bel.grown hg (by omega) (fun k hk => by cases hk; omega), Nat.le_trans hs hg.size, cl _ _ h.bb (by simp) (by simp), fun i hi => cl _ _ (h.tb i hi) (by simp) (by simp), cl _ _ h.tc (by simp) (by simp), hn,
    h.m1.kept hg (by simp), h.m2.kept hg (by simp), (bl _ (by omega) (by omega)).trans h.qb, h.m3.kept hg (by simp), (bl _ (by omega) (by omega)).trans h.pb, h.rows.kept hg (fun c hc => by cases hc; omega)⟩

theorem St.turnQ (h : St w0 w B ban most lv qv rv Qm Rm rws) {w' : World} {v : Value} (hg : w.grownBy w' (some (B + 6))) (hn : w'.heap[B + 6]? = some (.cells #[.int .i64 most, passF B, .map (some (B + 4)), v, .map (some (B + 5))] 47 (0, 0))) : St w0 w' B ban most lv v rv Qm Rm rws := by
  have hs := h.size
  have bl : ∀ c, c < B + 9 → c ≠ B + 6 → w'.heap[c]? = w.heap[c]? := fun c hc hne => hg.block c (by omega) (fun e => hne (by cases e; rfl))
  have cl : ∀ (a : Addr) (v : Value), w.cell? a = some v → a.block < B + 9 → a.block ≠ B + 6 → w'.cell? a = some v := fun a v hv ha hne => (World.cell?_of_block (w := w) (a := a) (bl _ ha hne)).trans hv
  exact ⟨h.bel.grown hg (by omega) (fun k hk => by cases hk; omega), Nat.le_trans hs hg.size, cl _ _ h.bb (by simp) (by simp), fun i hi => cl _ _ (h.tb i hi) (by simp) (by simp), cl _ _ h.tc (by simp) (by simp), (bl _ (by omega) (by omega)).trans h.lc,
    h.m1.kept hg (by simp), h.m2.kept hg (by simp), hn, h.m3.kept hg (by simp), (bl _ (by omega) (by omega)).trans h.pb, h.rows.kept hg (fun c hc => by cases hc; omega)⟩

theorem St.turnR (h : St w0 w B ban most lv qv rv Qm Rm rws) {w' : World} {v : Value} (hg : w.grownBy w' (some (B + 8))) (hn : w'.heap[B + 8]? = some (.cells #[.int .i64 0, .int .i64 0, .int .i64 0, .int .i64 0, .int .i64 0, .int .i64 0, .pointer (some ⟨B + 6, 0, none⟩), .int .i64 0, .pointer none, v, .map (some (B + 7)), .int .i64 0] 37 (0, 0))) : St w0 w' B ban most lv qv v Qm Rm rws := by
  have hs := h.size
  have bl : ∀ c, c < B + 9 → c ≠ B + 8 → w'.heap[c]? = w.heap[c]? := fun c hc hne => hg.block c (by omega) (fun e => hne (by cases e; rfl))
  have cl : ∀ (a : Addr) (v : Value), w.cell? a = some v → a.block < B + 9 → a.block ≠ B + 8 → w'.cell? a = some v := fun a v hv ha hne => (World.cell?_of_block (w := w) (a := a) (bl _ ha hne)).trans hv
  exact ⟨h.bel.grown hg (by omega) (fun k hk => by cases hk; omega), Nat.le_trans hs hg.size, cl _ _ h.bb (by simp) (by simp), fun i hi => cl _ _ (h.tb i hi) (by simp) (by simp), cl _ _ h.tc (by simp) (by simp), (bl _ (by omega) (by omega)).trans h.lc,
    h.m1.kept hg (by simp), h.m2.kept hg (by simp), (bl _ (by omega) (by omega)).trans h.qb, h.m3.kept hg (by simp), hn, h.rows.kept hg (fun c hc => by cases hc; omega)⟩

theorem St.put2 (h : St w0 w B ban most lv qv rv Qm Rm rws) {w' : World} (a : ByteArray) (hg : w.grownBy w' (some (B + 5))) (hn : w'.ownsMap Yba.prog 9 boolE (B + 5) (Qm.length + 1) ((setOf tru (Qm.map key)).put (key a) tru)) : St w0 w' B ban most lv qv rv (Qm ++ [a]) Rm rws := by
  have hs := h.size
  have bl : ∀ c, c < B + 9 → c ≠ B + 5 → w'.heap[c]? = w.heap[c]? := fun c hc hne => hg.block c (by omega) (fun e => hne (by cases e; rfl))
  have cl : ∀ (a : Addr) (v : Value), w.cell? a = some v → a.block < B + 9 → a.block ≠ B + 5 → w'.cell? a = some v := fun a v hv ha hne => (World.cell?_of_block (w := w) (a := a) (bl _ ha hne)).trans hv
  exact ⟨h.bel.grown hg (by omega) (fun k hk => by cases hk; omega), Nat.le_trans hs hg.size, cl _ _ h.bb (by simp) (by simp), fun i hi => cl _ _ (h.tb i hi) (by simp) (by simp), cl _ _ h.tc (by simp) (by simp), (bl _ (by omega) (by omega)).trans h.lc,
    h.m1.kept hg (by simp), (by rw [List.map_append, List.length_append]; exact (setOf_snoc tru (Qm.map key) (key a)).symm ▸ hn), (bl _ (by omega) (by omega)).trans h.qb, h.m3.kept hg (by simp), (bl _ (by omega) (by omega)).trans h.pb, h.rows.kept hg (fun c hc => by cases hc; omega)⟩

theorem St.put3 (h : St w0 w B ban most lv qv rv Qm Rm rws) {w' : World} (a : ByteArray) (hg : w.grownBy w' (some (B + 7))) (hn : w'.ownsMap Yba.prog 9 nilE (B + 7) (Rm.length + 1) ((setOf .nil (Rm.map key)).put (key a) .nil)) : St w0 w' B ban most lv qv rv Qm (Rm ++ [a]) rws := by
  have hs := h.size
  have bl : ∀ c, c < B + 9 → c ≠ B + 7 → w'.heap[c]? = w.heap[c]? := fun c hc hne => hg.block c (by omega) (fun e => hne (by cases e; rfl))
  have cl : ∀ (a : Addr) (v : Value), w.cell? a = some v → a.block < B + 9 → a.block ≠ B + 7 → w'.cell? a = some v := fun a v hv ha hne => (World.cell?_of_block (w := w) (a := a) (bl _ ha hne)).trans hv
  exact ⟨h.bel.grown hg (by omega) (fun k hk => by cases hk; omega), Nat.le_trans hs hg.size, cl _ _ h.bb (by simp) (by simp), fun i hi => cl _ _ (h.tb i hi) (by simp) (by simp), cl _ _ h.tc (by simp) (by simp), (bl _ (by omega) (by omega)).trans h.lc,
    h.m1.kept hg (by simp), h.m2.kept hg (by simp), (bl _ (by omega) (by omega)).trans h.qb, (by rw [List.map_append, List.length_append]; exact (setOf_snoc .nil (Rm.map key) (key a)).symm ▸ hn), (bl _ (by omega) (by omega)).trans h.pb, h.rows.kept hg (fun c hc => by cases hc; omega)⟩

theorem St.setL (h : St w0 w B ban most lv qv rv Qm Rm rws) (v : Value) : St w0 (w.setCell ⟨B + 3, 0, none⟩ v) B ban most v qv rv Qm Rm rws :=
  h.turnL (grown_set w _ v) (heap_setCell_same w (B + 3) 0 _ _ v h.lc)
theorem St.setQ (h : St w0 w B ban most lv qv rv Qm Rm rws) (v : Value) : St w0 (w.setCell ⟨B + 6, 3, none⟩ v) B ban most lv v rv Qm Rm rws :=
  h.turnQ (grown_set w _ v) (heap_setCell_same w (B + 6) 3 _ _ v h.qb)
theorem St.setR (h : St w0 w B ban most lv qv rv Qm Rm rws) (v : Value) : St w0 (w.setCell ⟨B + 8, 9, none⟩ v) B ban most lv qv v Qm Rm rws :=
  h.turnR (grown_set w _ v) (heap_setCell_same w (B + 8) 9 _ _ v h.pb)
theorem St.cellQ (h : St w0 w B ban most lv qv rv Qm Rm rws) (i : Nat) : w.cell? ⟨B + 6, i, none⟩ = (#[.int .i64 most, passF B, .map (some (B + 4)), qv, .map (some (B + 5))] : Array Value)[i]? := by
  rw [cell_of_row w _ _ _ _ _ h.qb]
theorem St.cellR (h : St w0 w B ban most lv qv rv Qm Rm rws) (i : Nat) : w.cell? ⟨B + 8, i, none⟩ = (#[.int .i64 0, .int .i64 0, .int .i64 0, .int .i64 0, .int .i64 0, .int .i64 0, .pointer (some ⟨B + 6, 0, none⟩), .int .i64 0, .pointer none, rv, .map (some (B + 7)), .int .i64 0] : Array Value)[i]? := by
  rw [cell_of_row w _ _ _ _ _ h.pb]
theorem St.cellL (h : St w0 w B ban most lv qv rv Qm Rm rws) : w.cell? ⟨B + 3, 0, none⟩ = some lv := by
  rw [cell_of_row w _ _ _ _ _ h.lc]; rfl
end
end Go.Proofs.Ybulkbzuk
