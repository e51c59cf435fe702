import Derived.Test.YbulkbzsgResp
namespace Go.Proofs.Ybulkbzsg
open Go.RowKit
set_option linter.unusedVariables false
set_option linter.unusedSimpArgs false

theorem step_append_fits {P : Program} {ops : Array Oper} {o : Oper} {a : Act} {w : World} {K : Act → World → Prop} {Q : Exit → Act → World → Prop} {E : Prop}
    (hg : o.guard = none) (s x : Operand) (t : TypeId) (hop : o.op = Op.call { callee := Callee.builtin Builtin.append, args := #[s, x], argTypes := #[t, t] })
    (base : Nat) (e : TypeId) (i : TypeInfo) (size : Nat) (h1 : P.underlying t = some (.slice e)) (h2 : P.info? e = some i) (h4 : i.size = size)
    (g k cap : Nat) (xs : List Value) (hs : a.eval s = .slice (some ⟨g, 0, none⟩) k cap) (hown : w.ownsRow base e size (.slice (some ⟨g, 0, none⟩) k cap) k xs) (ad : Addr) (m c : Nat) (news : List Value) (hx : a.eval x = .slice (some ad) m c) (hn : news.length = m * size)
    (hc : ∀ j u, news[j]? = some u → w.cell? (ad.add j) = some u) (h1c : ∀ u ∈ news, u.oneCell' = true) (b1 : k + m ≤ cap)
    (hK : ∀ w', w'.ownsRow base e size (.slice (some ⟨g, 0, none⟩) (k + m) cap) (k + m) (xs ++ news) → w.grownBy w' (some g) → K (a.put o.dst (.slice (some ⟨g, 0, none⟩) (k + m) cap)) w') :
    if Region.wanted o (yielded ops a.tmps) = true then Oper.wp P o a w K Q else E := by
  have hw : Region.wanted o (yielded ops a.tmps) = true := by simp [Region.wanted, hg]
  rw [if_pos hw]
  obtain ⟨w', hrun, r1, r2⟩ := run_append_fits (P := P) w base t o.type e i size h1 h2 h4 g k cap xs hown ad m c news hn hc h1c b1
  unfold Oper.wp
  simp [execOp, hop, resolve, invoke, builtin, hs, hx, hrun, Result.andThen]
  exact hK w' r1 r2

/-- The records that came in. -/
def RecsArg (w : World) (a : Option Addr) (rs : List Rec) : Prop :=
  ∀ i r, rs[i]? = some r → ∃ b off, a = some ⟨b, off, none⟩ ∧ (∀ j u, r.cells[j]? = some u → w.cell? ⟨b, off + i * 10 + j, none⟩ = some u) ∧ OptsIn w r.oa r.os

theorem RecsArg.mono {w w' : World} {a : Option Addr} {rs : List Rec} (h : RecsArg w a rs) (hb : ∀ b, b < w.heap.size → w'.heap[b]? = w.heap[b]?) : RecsArg w' a rs := by
  intro i r hi
  obtain ⟨b, off, h1, h2, h3⟩ := h i r hi
  exact ⟨b, off, h1, fun j u hj => (World.cell?_of_block (w := w) (hb _ (World.block_lt_of_cell? w _ (h2 j u hj)))).trans (h2 j u hj), h3.mono hb⟩

theorem Yba.info57 : (Yba.prog.info? 57).map (fun i => (i.zero, i.size, i.bytes)) = some (some (.agg #[.int .u8 0, .slice none 0 0, .slice none 0 0, .int .u16 0, .int .u16 0, .int .u32 0, .slice none 0 0, .nilIface, .pointer none]), 9, 112) := by kernel_rfl
theorem Yba.info9 : (Yba.prog.info? 9).map (fun i => (i.zero, i.size, i.bytes)) = some (some (.string ByteArray.empty), 1, 16) := by kernel_rfl
theorem Yba.info59 : (Yba.prog.info? 59).map (fun i => (i.zero, i.size, i.bytes)) = some (some (.agg #[.int .u16 0, .slice none 0 0]), 2, 32) := by kernel_rfl

theorem own_same {w w' : World} {B : Nat} {e : TypeId} {sz : Nat} {v : Value} {n : Nat} {xs : List Value} (h : w.ownsRow B e sz v n xs) (hs : ∀ g, v.ownBlock = some g → w'.heap[g]? = w.heap[g]?) : w'.ownsRow B e sz v n xs := by
  obtain ⟨h1, h2⟩ := h
  refine ⟨h1, ?_⟩
  rcases h2 with h2 | ⟨g, cap, cur, rfl, b, c, d⟩
  · exact .inl h2
  · exact .inr ⟨g, cap, cur, rfl, b, (hs g rfl).trans c, d⟩

theorem one_nine {a b c d e f g h i : Value} (h1 : a.oneCell' = true) (h2 : b.oneCell' = true) (h3 : c.oneCell' = true) (h4 : d.oneCell' = true) (h5 : e.oneCell' = true) (h6 : f.oneCell' = true) (h7 : g.oneCell' = true) (h8 : h.oneCell' = true) (h9 : i.oneCell' = true) :
    ∀ u ∈ [a, b, c, d, e, f, g, h, i], u.oneCell' = true := by
  intro u hu
  simp only [List.mem_cons, List.not_mem_nil, or_false] at hu
  rcases hu with rfl | rfl | rfl | rfl | rfl | rfl | rfl | rfl | rfl <;> assumption

theorem heap_two_old (w : World) (o1 o2 : Obj) (b : Nat) (h : b < w.heap.size) : ((w.alloc o1).alloc o2).heap[b]? = w.heap[b]? :=
  (Below.heap_alloc _ _ _ (by simp; omega)).trans (Below.heap_alloc _ _ _ h)

theorem tail_facts {wr w7 : World} {o1 o2 : Obj} {M G : Nat} (hg : (((wr.alloc o1).alloc o2).drew).grownBy w7 (some G)) (hM : M < wr.heap.size) (hne : G < M) {v : Value} (hc : wr.cell? ⟨M, 16, none⟩ = some v) (hf : wr.frozen? ⟨M, 16, none⟩ = false) :
    w7.cell? ⟨M, 16, none⟩ = some v ∧ w7.frozen? ⟨M, 16, none⟩ = false := by
  have hb : w7.heap[M]? = wr.heap[M]? := (hg.block M (by simp; omega) (by simp; omega)).trans (heap_two_old wr o1 o2 M hM)
  exact ⟨(World.cell?_of_block (w := wr) (a := ⟨M, 16, none⟩) hb).trans hc, (World.frozen?_of_block (w := wr) (a := ⟨M, 16, none⟩) hb).trans hf⟩

theorem tail_grown {wr w7 : World} {o1 o2 : Obj} {G : Nat} (hg : (((wr.alloc o1).alloc o2).drew).grownBy w7 (some G)) : (wr.alloc o1).grownBy w7 (some G) :=
  World.grownBy.trans (b := ((wr.alloc o1).alloc o2).drew) ⟨rfl, rfl, rfl, by simp, fun k hk _ => Below.heap_alloc _ _ _ hk⟩ hg

/-- The options that were copied so far. -/
structure OptRel (O : Nat) (wa : World) (os : List (Int × List Int)) (q : Nat) (cells : List Value) (wq : World) : Prop where
  own : wq.ownsRow O 59 2 (.slice (some ⟨O, 0, none⟩) q os.length) q cells
  each : ∀ (j : Nat) (o : Int × List Int), os[j]? = some o → j < q → ∃ dv, cells[j * 2]? = some (.int .u16 o.1) ∧ cells[j * 2 + 1]? = some dv ∧ wq.ownsRow (O + 1) 5 1 dv o.2.length (o.2.map (Value.int .u8))
  below : Below O wa wq

theorem opts_step {O q : Nat} {wa wq w2 w3 : World} {os : List (Int × List Int)} {cells : List Value} {code : Int} {d : List Int} {dv : Value} {blk : Obj} (h : OptRel O wa os q cells wq) (hd : os[q]? = some (code, d))
    (hg2 : wq.grownBy w2 none) (hdv : w2.ownsRow (O + 1) 5 1 dv d.length (d.map (Value.int .u8))) (hg3 : (w2.alloc blk).grownBy w3 (some O))
    (ho3 : w3.ownsRow O 59 2 (.slice (some ⟨O, 0, none⟩) (q + 1) os.length) (q + 1) (cells ++ [.int .u16 code, dv])) : OptRel O wa os (q + 1) (cells ++ [.int .u16 code, dv]) w3 := by
  have hOq : O < wq.heap.size := (h.own.lt O rfl).2
  have hs2 := hg2.size
  have hs3 := hg3.size
  simp at hs3
  have hk : ∀ b, b < w2.heap.size → b ≠ O → w3.heap[b]? = w2.heap[b]? := fun b hb hne => (hg3.block b (by simp; omega) (by simp; exact hne)).trans (Below.heap_alloc _ _ _ hb)
  refine ⟨ho3, fun j o hj hlt => ?_, ?_⟩
  · have hcl : cells.length = q * 2 := h.own.1
    rcases Nat.lt_or_ge j q with hjq | hjq
    · obtain ⟨dv', a, b, c⟩ := h.each j o hj hjq
      refine ⟨dv', by rw [List.getElem?_append_left (by omega)]; exact a, by rw [List.getElem?_append_left (by omega)]; exact b, ?_⟩
      refine own_same c (fun g hg => ?_)
      have := c.lt g hg
      rw [hk g (by omega) (by omega)]
      exact hg2.block g this.2 (by simp)
    · obtain rfl : j = q := by omega
      rw [hd] at hj
      cases hj
      refine ⟨dv, by rw [List.getElem?_append_right (by omega)]; simp [hcl], by rw [List.getElem?_append_right (by omega)]; simp [hcl], ?_⟩
      refine own_same hdv (fun g hg => ?_)
      have := hdv.lt g hg
      exact hk g this.2 (by omega)
  · exact ((h.below.grown hg2 (by omega) (fun g hg => by cases hg)).alloc (by omega) _).grown hg3 (by simp; omega) (fun g hg => by cases hg; exact Nat.le_refl _)

theorem OptRel.cell {O q : Nat} {wa wq : World} {os : List (Int × List Int)} {cells : List Value} (h : OptRel O wa os q cells wq) (i : Nat) (u : Value) (hi : cells[i]? = some u) : wq.cell? ⟨O, i, none⟩ = some u := by
  have := h.own.cells (g := O) rfl i u hi
  have hadd : (⟨O, 0, none⟩ : Addr).add i = ⟨O, i, none⟩ := by unfold Addr.add; split <;> simp_all
  rw [hadd] at this
  exact this

def msgCells (G k n : Nat) : Array Value := #[.int .u16 0, .bool false, .int .u8 0, .bool false, .bool false, .bool false, .bool false, .bool false, .bool false, .bool false, .int .u8 0, .int .u16 0, .int .u16 0, .int .u16 0, .int .u16 0, .slice none 0 0, .slice (some ⟨G, 0, none⟩) k n]

structure BuildRel (G M : Nat) (w : World) (rs : List Rec) (k : Nat) (css : List (List Value)) (wr : World) : Prop where
  len : css.length = k
  msg : wr.heap[M]? = some (.cells (msgCells G k rs.length) 47 (0, 0))
  own : wr.ownsRow G 57 9 (.slice (some ⟨G, 0, none⟩) k rs.length) k css.flatten
  recs : ∀ (i : Nat) (r : Rec) (cs : List Value), rs[i]? = some r → css[i]? = some cs → RecCells (M + 1) wr r cs
  below : Below G w wr
  lt : G < M
  size : G = w.heap.size

theorem OptOut.lower {lo lo' : Nat} {w : World} {p : Nat} {r : Rec} (h : OptOut lo w p r) (hl : lo' ≤ lo) : OptOut lo' w p r := by
  obtain ⟨og, oc, h1, h2, h3⟩ := h
  refine ⟨og, oc, by omega, h2, fun j o hj => ?_⟩
  obtain ⟨dv, a, b, c⟩ := h3 j o hj
  exact ⟨dv, a, b, ownsRow_lower c hl⟩

theorem RecCells.lower {lo lo' : Nat} {w : World} {r : Rec} {cs : List Value} (h : RecCells lo w r cs) (hl : lo' ≤ lo) : RecCells lo' w r cs := by
  obtain ⟨nv, raw, ty, cl, ttl, dv, rd, ov, h1, h2, h3, h4⟩ := h
  refine ⟨nv, raw, ty, cl, ttl, dv, rd, ov, h1, h2, h3, fun hh => ?_⟩
  obtain ⟨a, p, b, c, d⟩ := h4 hh
  exact ⟨ownsRow_lower a hl, p, by omega, c, d.lower hl⟩

theorem RecCells.length {lo : Nat} {w : World} {r : Rec} {cs : List Value} (h : RecCells lo w r cs) : cs.length = 9 := by
  obtain ⟨nv, raw, ty, cl, ttl, dv, rd, ov, h1, _⟩ := h
  rw [h1]; rfl

theorem flatten_get (css : List (List Value)) (h : ∀ (i : Nat) (cs : List Value), css[i]? = some cs → cs.length = 9) (i j : Nat) (cs : List Value) (u : Value) (hi : css[i]? = some cs) (hj : cs[j]? = some u) : css.flatten[i * 9 + j]? = some u := by
  induction css generalizing i with
  | nil => simp at hi
  | cons c t ih =>
    have hc : c.length = 9 := h 0 c rfl
    have hjl : j < cs.length := by
      rcases Nat.lt_or_ge j cs.length with hlt | hge
      · exact hlt
      · rw [List.getElem?_eq_none hge] at hj; cases hj
    cases i with
    | zero =>
      simp at hi
      subst hi
      simp only [List.flatten_cons, Nat.zero_mul, Nat.zero_add]
      rw [List.getElem?_append_left hjl]
      exact hj
    | succ i =>
      simp at hi
      simp only [List.flatten_cons]
      rw [List.getElem?_append_right (by omega), show (i + 1) * 9 + j - c.length = i * 9 + j by omega]
      exact ih (fun i' cs' h' => h (i' + 1) cs' (by simpa using h')) i hi

theorem BuildRel.out {G M : Nat} {w wr : World} {rs : List Rec} {css : List (List Value)} (h : BuildRel G M w rs rs.length css wr) :
    wr.cell? ⟨M, 16, none⟩ = some (.slice (some ⟨G, 0, none⟩) rs.length rs.length) ∧ RecsIn w.heap.size wr G rs := by
  refine ⟨by rw [cell_of_row wr _ _ _ _ _ h.msg]; rfl, fun i r hi => ?_⟩
  have hil : i < rs.length := by
    rcases Nat.lt_or_ge i rs.length with hlt | hge
    · exact hlt
    · rw [List.getElem?_eq_none hge] at hi; cases hi
  obtain ⟨cs, hcs⟩ : ∃ cs, css[i]? = some cs := ⟨css[i]'(by rw [h.len]; exact hil), by simp [h.len, hil]⟩
  have hrc := h.recs i r cs hi hcs
  refine ⟨cs, hrc.lower (by have := h.lt; have := h.size; omega), fun j u hj => ?_⟩
  have hfl := flatten_get css (fun i' cs' h' => by
    have hl' : i' < rs.length := by
      rcases Nat.lt_or_ge i' css.length with hlt | hge
      · rw [h.len] at hlt; exact hlt
      · rw [List.getElem?_eq_none hge] at h'; cases h'
    exact (h.recs i' rs[i'] cs' (by simp [hl']) h').length) i j cs u hcs hj
  have := h.own.cells (g := G) rfl (i * 9 + j) u hfl
  have hadd : (⟨G, 0, none⟩ : Addr).add (i * 9 + j) = ⟨G, i * 9 + j, none⟩ := by unfold Addr.add; split <;> simp_all
  rw [hadd] at this
  exact this

theorem build_tail {G M k : Nat} {w wr w6 w7 : World} {rs : List Rec} {css : List (List Value)} {r : Rec} {cs : List Value} (h : BuildRel G M w rs k css wr) (hb : Below wr.heap.size wr w6) (hr : rs[k]? = some r) (hc : RecCells (M + 1) w6 r cs)
    (hg : w6.grownBy w7 (some G)) (ho : w7.ownsRow G 57 9 (.slice (some ⟨G, 0, none⟩) (k + 1) rs.length) (k + 1) (css.flatten ++ cs)) :
    BuildRel G M w rs (k + 1) (css ++ [cs]) (w7.setCell ⟨M, 16, none⟩ (.slice (some ⟨G, 0, none⟩) (k + 1) rs.length)) := by
  have hlt := h.lt
  have hMw := heap_lt h.msg
  have hs6 := hb.size
  have hs7 := hg.size
  have hM7 : w7.heap[M]? = some (.cells (msgCells G k rs.length) 47 (0, 0)) := (hg.block M (by omega) (fun e => by cases e; omega)).trans ((hb.block M hMw).trans h.msg)
  have hm : Mid (M + 1) w6 (w7.setCell ⟨M, 16, none⟩ (.slice (some ⟨G, 0, none⟩) (k + 1) rs.length)) := fun b hb1 hb2 => by
    rw [Below.heap_setCell _ _ _ _ (by simp; omega)]
    exact hg.block b hb2 (fun e => by cases e; omega)
  have hm0 : Mid (M + 1) wr (w7.setCell ⟨M, 16, none⟩ (.slice (some ⟨G, 0, none⟩) (k + 1) rs.length)) := fun b hb1 hb2 => by
    rw [hm b hb1 (by omega)]
    exact hb.block b hb2
  refine ⟨by simp [h.len], ?_, ?_, ?_, ?_, h.lt, h.size⟩
  · simp only [World.setCell, Array.getElem?_modify, if_pos, hM7]
    rfl
  · obtain ⟨h1, h2⟩ := ho
    refine ⟨by simpa using h1, ?_⟩
    rcases h2 with ⟨h2, _⟩ | ⟨g, cap, cur, hv, x1, x2, x3, x4, x5, x6⟩
    · cases h2
    · cases hv
      refine .inr ⟨G, rs.length, cur, rfl, x1, ?_, x3, x4, x5, by simpa using x6⟩
      rw [Below.heap_setCell _ _ _ _ (by simp; omega)]
      exact x2
  · intro i r' cs' hi hcs'
    rcases Nat.lt_or_ge i css.length with hlt' | hge
    · rw [List.getElem?_append_left hlt'] at hcs'
      exact hm0.cells (h.recs i r' cs' hi hcs')
    · have hik : i = k := by
        rcases Nat.lt_or_ge k i with h' | h'
        · rw [List.getElem?_eq_none (by simp [h.len]; omega)] at hcs'; cases hcs'
        · have := h.len; omega
      subst hik
      rw [List.getElem?_append_right hge] at hcs'
      simp [h.len] at hcs'
      subst hcs'
      rw [hr] at hi
      cases hi
      exact hm.cells hc
  · refine Below.setCell ?_ (by simp; omega) _
    exact (h.below.trans (hb.mono (by omega))).grown hg (by omega) (fun g hg' => by cases hg'; exact Nat.le_refl _)

theorem build_has {R M : Nat} {wa wr W w5 W6a : World} (r : Rec) {cells : List Value} {E : List Int} {ve : Value} {na : Option Addr} {nc : Nat} (hh : r.has = true) (hM : M < R) (hO : OptRel (R + 1) wa r.os r.os.length cells wr)
    (hW : ∀ b, b ≠ R → W.heap[b]? = wr.heap[b]?) (hWs : W.heap.size = wr.heap.size) (hb5 : Below W.heap.size W w5) (ho5 : w5.ownsRow W.heap.size 5 1 ve E.length (E.map (Value.int .u8))) (hE : E = encOf r)
    (hW6 : ∀ b, b ≠ R → W6a.heap[b]? = w5.heap[b]?) (hW6s : W6a.heap.size = w5.heap.size) :
    RecCells (M + 1) (W6a.alloc (.cells #[.int .u16 r.udp, .int .u8 r.ext, .int .u8 r.ver, .bool r.dO, .int .u16 r.z, .slice (some ⟨R + 1, 0, none⟩) r.os.length r.os.length] 37)) r
      [.int .u8 (r.sec % 3), .slice na (r.lab % 3).toNat nc, .slice none 0 0, .int .u16 41, .int .u16 r.udp, .int .u32 0, ve, .nilIface, .pointer (some ⟨w5.heap.size, 0, none⟩)] := by
  subst hE
  have hRs : R + 1 < wr.heap.size := (hO.own.lt _ rfl).2
  have hs5 := hb5.size
  have k5 : ∀ b, b < w5.heap.size → b ≠ R → (W6a.alloc (.cells #[.int .u16 r.udp, .int .u8 r.ext, .int .u8 r.ver, .bool r.dO, .int .u16 r.z, .slice (some ⟨R + 1, 0, none⟩) r.os.length r.os.length] 37)).heap[b]? = w5.heap[b]? :=
    fun b hb hne => (Below.heap_alloc _ _ _ (by omega)).trans (hW6 b hne)
  have kr : ∀ b, b < wr.heap.size → b ≠ R → (W6a.alloc (.cells #[.int .u16 r.udp, .int .u8 r.ext, .int .u8 r.ver, .bool r.dO, .int .u16 r.z, .slice (some ⟨R + 1, 0, none⟩) r.os.length r.os.length] 37)).heap[b]? = wr.heap[b]? :=
    fun b hb hne => (k5 b (by omega) hne).trans ((hb5.block b (by omega)).trans (hW b hne))
  refine ⟨_, _, _, _, _, _, _, _, rfl, ⟨na, nc, rfl⟩, fun h => ?_, fun _ => ⟨?_, w5.heap.size, by omega, rfl, R + 1, r.os.length, by omega, heap_new _ _ _ hW6s, fun j o hj => ?_⟩⟩
  · rw [hh] at h; cases h
  · refine ownsRow_lower (own_same ho5 (fun g hg => ?_)) (by omega)
    have := ho5.lt g hg
    exact k5 g this.2 (by omega)
  · have hjl : j < r.os.length := by
      rcases Nat.lt_or_ge j r.os.length with hlt | hge
      · exact hlt
      · rw [List.getElem?_eq_none hge] at hj; cases hj
    obtain ⟨dv, a, b, c⟩ := hO.each j o hj hjl
    have cO : ∀ i u, cells[i]? = some u → (W6a.alloc (.cells #[.int .u16 r.udp, .int .u8 r.ext, .int .u8 r.ver, .bool r.dO, .int .u16 r.z, .slice (some ⟨R + 1, 0, none⟩) r.os.length r.os.length] 37)).cell? ⟨R + 1, i, none⟩ = some u :=
      fun i u hi => (World.cell?_of_block (w := wr) (a := ⟨R + 1, i, none⟩) (kr (R + 1) hRs (by omega))).trans (hO.cell i u hi)
    refine ⟨dv, cO _ _ a, cO _ _ b, ownsRow_lower (own_same c (fun g hg => ?_)) (by omega)⟩
    have := c.lt g hg
    exact kr g this.2 (by omega)

end Go.Proofs.Ybulkbzsg
