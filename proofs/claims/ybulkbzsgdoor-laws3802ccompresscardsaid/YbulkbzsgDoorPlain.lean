import Derived.Test.YbulkbzsgDoorSoa
import Derived.Laws.CopyOwn
import Derived.LaidEql
import Derived.Lib.SliceRun
namespace Go.Proofs.YbulkbzsgDoor
open Go.RowKit
set_option linter.unusedVariables false
set_option linter.unusedSimpArgs false

/-- A slice of bytes that can be read. -/
def BytesIn (w : World) (v : Value) (bs : List Int) : Prop :=
  ∃ a c, v = .slice a bs.length c ∧ (a = none → bs = []) ∧ ∀ x, a = some x → ∀ j u, (bs.map (Value.int .u8))[j]? = some u → w.cell? (x.add j) = some u

theorem BytesIn.src {w : World} {v : Value} {bs : List Int} (h : BytesIn w v bs) : Src Ybad.prog 1 22 v bs.length (bs.map (Value.int .u8)) w := by
  obtain ⟨a, c, rfl, hn, hs⟩ := h
  cases a with
  | none =>
    have := hn rfl
    subst this
    exact Src.ofNil w Ybad.underlying22 c
  | some x => exact Src.ofSlice w Ybad.underlying22 x _ c _ (by simp) (hs x rfl) (ints_one .u8 bs)

theorem BytesIn.mono {w w' : World} {v : Value} {bs : List Int} (h : BytesIn w v bs) (hb : ∀ b, b < w.heap.size → w'.heap[b]? = w.heap[b]?) : BytesIn w' v bs := by
  obtain ⟨a, c, rfl, hn, hs⟩ := h
  refine ⟨a, c, rfl, hn, fun x hx j u hu => ?_⟩
  have h1 := hs x hx j u hu
  rw [World.cell?_of_block (w := w) (hb _ (World.block_lt_of_cell? w _ h1))]
  exact h1

theorem ownsRow_bytesIn {w : World} {base : Nat} {v : Value} {bs : List Int} (h : w.ownsRow base 5 1 v bs.length (bs.map (Value.int .u8))) : BytesIn w v bs := by
  rcases h.2 with ⟨rfl, h0⟩ | ⟨g, cap, cur, rfl, hb, hg, hn, hm, hs, ht⟩
  · exact ⟨none, 0, by rw [h0], fun _ => List.eq_nil_of_length_eq_zero h0, fun x hx => by cases hx⟩
  · exact ⟨_, cap, rfl, (fun h => by cases h), fun x hx j u hu => by cases hx; exact h.cells (g := g) rfl j u hu⟩

theorem BytesIn.conv {w : World} {v : Value} {bs : List Int} (h : BytesIn w v bs) : (convert 22 9 v).run Ybad.prog w = .ok (.string (strOfNums bs)) w := by
  obtain ⟨a, c, rfl, hn, hs⟩ := h
  cases a with
  | none =>
    have := hn rfl
    subst this
    exact run_convert_bytes_nil w 22 5 Ybad.underlying22 Ybad.underlying5 _ c 9 Ybad.underlying9
  | some x =>
    have hl : (loadCells x bs.length).run Ybad.prog w = .ok (bs.map (Value.int .u8)).toArray w := by
      simpa using run_loadCells_list (P := Ybad.prog) w x (bs.map (Value.int .u8)) (hs x rfl)
    rw [run_convert_bytes_string w 22 9 5 _ _ c Ybad.underlying22 Ybad.underlying5 Ybad.underlying9, run_bytesToString w _ _ c bs hl, foldl_push_bytes]
    simp [strOfNums, ByteArray.empty, ByteArray.emptyWithCapacity]
    rfl

set_option maxHeartbeats 400000 in
theorem beq_same (v1 v2 : Value) (b1 : List Int) (w : World) (h1 : BytesIn w v1 b1) (h2 : BytesIn w v2 b1) :
    Calls Ybad.prog 6 #[v1, v2] w fun e w' => e = .returned (.bool true) ∧ w' = w := by
  have k1 := h1.conv
  have k2 := h2.conv
  have hq : ((strOfNums b1).toList == (strOfNums b1).toList) = true := by simp
  go_enter Ybad.func6, Ybad.ntmps6
  go_wp2
  go_ret
  exact ⟨rfl, rfl⟩

theorem Ybad.size5 : (Ybad.prog.info? 5).map (·.size) = some 1 := by kernel_rfl

theorem Ybad.comp51 : (Ybad.prog.info? 51).map (·.comparable) = some true := by kernel_rfl
theorem Ybad.size70 : (Ybad.prog.info? 70).map (·.size) = some 1 := by kernel_rfl

theorem eql_same (w : World) (a : Addr) : (binOp .eql 29 (.iface 51 (.pointer (some a))) (.iface 51 (.pointer (some a)))).run Ybad.prog w = .ok (.bool true) w := by
  obtain ⟨i, hi, hc⟩ := Option.map_eq_some_iff.1 Ybad.comp51
  obtain ⟨j, hj, _⟩ := Option.map_eq_some_iff.1 Ybad.size70
  exact run_eql_iface_ptr_same w a Ybad.underlying29 Ybad.underlying51 hi hc hj

/-- copy(b, src): b a whole row of the call's own, as long as src. -/
theorem copy_run (w : World) (B g : Nat) (bs : List Int) (sv : Value) (zs : List Value) (ty : TypeId) (hown : w.ownsRow B 5 1 (.slice (some ⟨g, 0, none⟩) bs.length bs.length) bs.length zs) (hsrc : BytesIn w sv bs) :
    ∃ w2, (Builtin.copy_ #[22, 22] ty #[.slice (some ⟨g, 0, none⟩) bs.length bs.length, sv]).run Ybad.prog w = .ok (goInt bs.length) w2 ∧
      w2.ownsRow B 5 1 (.slice (some ⟨g, 0, none⟩) bs.length bs.length) bs.length (bs.map (Value.int .u8)) ∧ w.grownBy w2 (some g) := by
  obtain ⟨cur, hBg, hcur, hcl⟩ : ∃ cur : Array Value, B ≤ g ∧ w.heap[g]? = some (.cells cur 5 (0, 0)) ∧ cur.size = bs.length := by
    rcases hown.2 with ⟨h, _⟩ | ⟨g', cap, cur, hv, hb, hh, _, _, hcs, _⟩
    · cases h
    · cases hv; exact ⟨cur, hb, hh, by simpa using hcs⟩
  have hmax : bs.length ≤ maxLen := by
    rcases hown.2 with ⟨h, _⟩ | ⟨g', cap, cur, hv, hb, hh, _, hm, hcs, _⟩
    · cases h
    · cases hv; exact hm
  obtain ⟨a, c, rfl, hnn, hss⟩ := hsrc
  cases a with
  | none =>
    have h0 := hnn rfl
    subst h0
    refine ⟨w, run_copy_none w 22 22 ty 5 _ _ 0 0 0 c Ybad.underlying22 Ybad.size5 rfl, ?_, World.grownBy.refl _ _⟩
    exact ⟨rfl, .inr ⟨g, 0, cur, rfl, hBg, hcur, Nat.le_refl _, by simp [maxLen], by simpa using hcl, rfl⟩⟩
  | some x =>
    have hr := run_copy_row (P := Ybad.prog) w 22 22 ty 5 g 0 bs.length bs.length x bs.length c cur 5 (bs.map (Value.int .u8)) Ybad.underlying22 Ybad.size5 hcur (by simp) (hss x rfl) (by simp [hcl]) (ints_one .u8 bs)
    refine ⟨_, by simpa using hr, ?_, ?_⟩
    · refine ⟨by simp, .inr ⟨g, bs.length, _, rfl, hBg, setRow_heap w g _ _ 5 _ hcur, Nat.le_refl _, hmax, ?_, ?_⟩⟩
      · simp [hcl]
      · have hd : cur.toList.drop bs.length = [] := List.drop_of_length_le (by simp [hcl])
        simp [hd]
        exact List.take_of_length_le (by simp)
    · exact ⟨rfl, rfl, rfl, by simp, fun k _ hk => setRow_other w g k _ (fun e => hk (by simp [e]))⟩

set_option maxHeartbeats 1000000 in
set_option maxRecDepth 100000 in
theorem plain_walk (pa ma ra : Option Addr) (pc mc rc : Nat) (bs : List Int) (ms rs : List ByteArray) (n1 n2 n3 n4 n5 : Int) (E1 E2 E3 : Value) (w : World) (hE : Errs E1 E2 E3 w) (hB : 4 ≤ w.heap.size)
    (hbs : BytesIn w (.slice pa bs.length pc) bs) (hms : StrsIn w.heap.size w ma ms) (hrs : StrsIn w.heap.size w ra rs)
    (h1 : 0 ≤ n1 ∧ n1 ≤ 4294967295) (h2 : 0 ≤ n2 ∧ n2 ≤ 4294967295) (h3 : 0 ≤ n3 ∧ n3 ≤ 4294967295) (h4 : 0 ≤ n4 ∧ n4 ≤ 4294967295) (h5 : 0 ≤ n5 ∧ n5 ≤ 4294967295)
    (hn : ∀ k, 0 < k → ∃ a, errV E1 E2 E3 k = .iface 51 (.pointer (some a))) :
    Calls Ybad.prog 3 #[.slice pa bs.length pc, .slice ma ms.length mc, .slice ra rs.length rc, .int .u32 n1, .int .u32 n2, .int .u32 n3, .int .u32 n4, .int .u32 n5] w fun e w' => e = .returned (.bool true) ∧ Below w.heap.size w w' := by
  obtain ⟨i0, hi, hz0, hz1, hz2⟩ := info_parts Ybad.info5
  by_cases hpl : bs.length ≤ 1024
  · by_cases hml : ms.length ≤ 1024
    · by_cases hrl : rs.length ≤ 1024
      · have q1 : ¬ (1024 : Int) < bs.length := by omega
        have q2 : ¬ (1024 : Int) < ms.length := by omega
        have q3 : ¬ (1024 : Int) < rs.length := by omega
        go_enter Ybad.func3, Ybad.ntmps3
        go_wp2_with (at_make; refine wpList_make_full _ rfl _ _ 22 rfl w.heap.size 5 i0 (.int .u8 0) 1 Ybad.underlying22 hi hz0 hz1 _ _ _ _ bs.length rfl rfl (by omega) (by omega) ?b2 ?b3 (Nat.le_refl _) ?_)
        case b2 => omega
        case b3 => unfold maxLen; omega
        intro w1 ho1 hg1
        have hwb : ∀ b, b < w.heap.size → w1.heap[b]? = w.heap[b]? := fun b hb => hg1.block b hb (by simp)
        have hbs1 := hbs.mono hwb
        obtain ⟨w2, hcp, ho2, hg2⟩ := copy_run w1 w.heap.size w.heap.size bs _ _ 3 ho1 hbs1
        have hw2b : ∀ b, b < w.heap.size → w2.heap[b]? = w.heap[b]? := fun b hb => (hg2.block b (by have := hg1.size; omega) (by simp; omega)).trans (hwb b hb)
        have hs2 : w.heap.size < w2.heap.size := (ho2.lt _ rfl).2
        have hbs2 := hbs.mono hw2b
        have hE2 := hE.mono hB hw2b
        have hms2 := hms.mono hw2b
        have hrs2 := hrs.mono hw2b
        have hbel2 : Below w.heap.size w w2 := ((Below.refl _ _).grown hg1 (Nat.le_refl _) (fun k hk => by cases hk)).grown hg2 hg1.size (fun k hk => by cases hk; exact Nat.le_refl _)
        have hnt : ∀ k, 0 < k → ∃ t x, errV E1 E2 E3 k = .iface t x := fun k hk => by obtain ⟨a, h⟩ := hn k hk; exact ⟨_, _, h⟩
        have hal : ∀ o : Obj, ∀ b, b < w.heap.size → (w2.alloc o).heap[b]? = w2.heap[b]? := fun o b hb => Below.heap_alloc _ _ _ (by omega)
        clear hbs1 ho1 hg1 hg2 hwb
        go_wp2_with fail
        refine (soa_nil w.heap.size _ bs none ma ra mc rc ms rs n1 n2 n3 n4 n5 E1 E2 E3 _ (hE2.mono hB (hal _)) hB (by simp; omega) (hms2.mono (hal _)) (hrs2.mono (hal _)) hml hrl (by omega) (ho2.alloc _) (.inr ⟨rfl, Nat.le_refl _⟩) h1 h2 h3 h4 h5 hnt).mono ?_
        rintro e w3 ⟨v3, rfl, hg3, hv3, hbuf3⟩
        have hs3 := hg3.size
        simp at hs3
        have h23 : ∀ b, b < w2.heap.size → w3.heap[b]? = w2.heap[b]? := fun b hb => (hg3.block b (by simp; omega) (by simp)).trans (Below.heap_alloc _ _ _ hb)
        have hbs3 := hbs2.mono h23
        have hob3 := own_same ho2 (fun g hg => h23 g (ho2.lt g hg).2)
        have hE3 := hE2.mono hB (fun b hb => h23 b (by omega))
        have hms3 := hms2.mono (fun b hb => h23 b (by omega))
        have hrs3 := hrs2.mono (fun b hb => h23 b (by omega))
        have hbel3 : Below w.heap.size w w3 := (hbel2.alloc (by omega) _).grown hg3 (by simp; omega) (fun k hk => by cases hk)
        clear hbs2 hE2 hms2 hrs2 hal hcp
        go_wp2_with fail
        refine (beq_same _ _ bs w3 (ownsRow_bytesIn hob3) hbs3).mono ?_
        rintro e w' ⟨rfl, rfl⟩
        go_wp2_with fail
        refine (wire_walk w.heap.size ma mc ms E1 E2 E3 w' hE3 hB (by omega) hms3 hml).mono ?_
        rintro e w4 ⟨v4, rfl, hg4, hv4⟩
        have hbel4 : Below w.heap.size w w4 := hbel3.grown hg4 (by omega) (fun k hk => by cases hk)
        have hs4 := hg4.size
        obtain ⟨km, hkm⟩ : ∃ k, Hid (k = nameErr 1 ms) := ⟨_, rfl⟩
        rw [← hkm.out] at hv4 ⊢
        cases km with
        | succ k =>
          have hse : soaErr ms rs = k + 1 := by unfold soaErr; rw [← hkm.out, if_neg (by omega)]
          obtain ⟨a, ha⟩ := hn (k + 1) (by omega)
          obtain rfl := hv3 (by rw [hse]; omega)
          rw [hse, ha]
          have he := fun w => eql_same w a
          have hsn := fun w => Lib.run_eql_slice_nil (P := Ybad.prog) w 22 5 none 0 0 0 0 Ybad.underlying22
          clear ha hse hv4 hv3 hbuf3 hn hnt
          go_wp2
          go_ret
          exact ⟨rfl, hbel4⟩
        | zero =>
          have hv4' := hv4 rfl
          have hse : soaErr ms rs = nameErr 1 rs := by unfold soaErr; rw [← hkm.out, if_pos rfl]
          have h0 : errV E1 E2 E3 0 = .nilIface := rfl
          rw [hse, h0]
          rw [hse] at hv3 hbuf3
          have h34 : ∀ b, b < w'.heap.size → w4.heap[b]? = w'.heap[b]? := fun b hb => hg4.block b hb (by simp)
          have hE4 := hE3.mono hB (fun b hb => h34 b (by omega))
          have hrs4 := hrs3.mono (fun b hb => h34 b (by omega))
          clear hse h0 hv4
          go_wp2_with fail
          refine (wire_walk w.heap.size ra rc rs E1 E2 E3 w4 hE4 hB (by omega) hrs4 hrl).mono ?_
          rintro e w5 ⟨v5, rfl, hg5, hv5⟩
          have hbel5 : Below w.heap.size w w5 := hbel4.grown hg5 (by omega) (fun k hk => by cases hk)
          have hs5 := hg5.size
          obtain ⟨kr, hkr⟩ : ∃ k, Hid (k = nameErr 1 rs) := ⟨_, rfl⟩
          rw [← hkr.out] at hv5 hv3 hbuf3 ⊢
          cases kr with
          | succ k =>
            obtain ⟨a, ha⟩ := hn (k + 1) (by omega)
            obtain rfl := hv3 (by omega)
            rw [ha]
            have he := fun w => eql_same w a
            have hsn := fun w => Lib.run_eql_slice_nil (P := Ybad.prog) w 22 5 none 0 0 0 0 Ybad.underlying22
            clear ha hv5 hv3 hbuf3 hn hnt
            go_wp2
            go_ret
            exact ⟨rfl, hbel5⟩
          | zero =>
            have hv5' := hv5 rfl
            have hb3 := (hbuf3 rfl).own
            have h0 : errV E1 E2 E3 0 = .nilIface := rfl
            rw [h0]
            have h45 : ∀ b, b < w4.heap.size → w5.heap[b]? = w4.heap[b]? := fun b hb => hg5.block b hb (by simp)
            have hwm := wire_len ms hkm.out.symm
            have hwr := wire_len rs hkr.out.symm
            obtain ⟨MB, hMB⟩ : ∃ X, Hid (X = wireB ms ++ [0]) := ⟨_, hid_mk rfl⟩
            obtain ⟨RB, hRB⟩ : ∃ X, Hid (X = wireB rs ++ [0]) := ⟨_, hid_mk rfl⟩
            have hMBl : MB.length ≤ 255 := by rw [hMB.out]; simp; omega
            have hRBl : RB.length ≤ 255 := by rw [hRB.out]; simp; omega
            rw [← hMB.out] at hv4'
            rw [← hRB.out] at hv5'
            rw [← hMB.out, ← hRB.out] at hb3
            have hm5 := own_same hv4' (fun g hg => h45 g (hv4'.lt g hg).2)
            have hgot := own_same hb3 (fun g hg => (h45 g (by have := (hb3.lt g hg).2; omega)).trans (h34 g (hb3.lt g hg).2))
            have hbs5 := (hbs3.mono h34).mono h45
            obtain ⟨v4a, v4c, rfl⟩ := ownsRow_shape hv4'
            obtain ⟨v5a, v5c, rfl⟩ := ownsRow_shape hv5'
            clear h0 hv5 hv3 hbuf3 hv4' hb3
            go_wp2_with (at_make; refine wpList_make_own _ rfl _ _ 22 rfl w5.heap.size 5 i0 (.int .u8 0) 1 Ybad.underlying22 hi hz0 hz1 _ _ _ (bs.length + MB.length + RB.length + 20) rfl rfl (by omega) ?m2 ?m3 (Nat.le_refl _) ?_)
            case m2 => rw [hz2]; omega
            case m3 => unfold maxLen; omega
            intro w6 ho6 hg6
            obtain ⟨K, hK⟩ : ∃ K, Hid (K = w5.heap.size) := ⟨_, hid_mk rfl⟩
            have hK6 : ∀ b, b < K → w6.heap[b]? = w5.heap[b]? := fun b hb => hg6.block b (by have := hK.out; omega) (by simp)
            have hs6 : K ≤ w6.heap.size := by have := hK.out; have := hg6.size; omega
            rw [← hK.out] at ho6
            have hbel6 : Below w.heap.size w w6 := hbel5.grown hg6 (by omega) (fun k hk => by cases hk)
            have hwK : w.heap.size ≤ K := by have := hK.out; omega
            have hlt5 : ∀ b, b < w5.heap.size → b < K := fun b hb => by have := hK.out; omega
            have hbs6 := hbs5.mono (fun b hb => hK6 b (hlt5 b hb))
            have hm6 := own_same hm5 (fun g hg => hK6 g (hlt5 g (hm5.lt g hg).2))
            have hr6 := own_same hv5' (fun g hg => hK6 g (hlt5 g (hv5'.lt g hg).2))
            have hgot6 := own_same hgot (fun g hg => hK6 g (hlt5 g (hgot.lt g hg).2))
            have hmK : ∀ g, (Value.slice v4a MB.length v4c).ownBlock = some g → g < K := fun g hg => hlt5 g (hm5.lt g hg).2
            have hrK : ∀ g, (Value.slice v5a RB.length v5c).ownBlock = some g → g < K := fun g hg => hlt5 g (hv5'.lt g hg).2
            have hgK : ∀ g, v3.ownBlock = some g → g < K := fun g hg => hlt5 g (hgot.lt g hg).2
            obtain ⟨xp, hxp⟩ : ∃ x, Hid (x = bs.map (Value.int .u8)) := ⟨_, hid_mk rfl⟩
            have hbsrc := hbs6.src
            rw [← hxp.out] at hbsrc
            have HK0 : Hid (w5.heap.size = K) := hid_mk hK.out.symm
            clear hg6 hK6 hlt5
            go_wp2_with (at_builtin; refine wpList_append_src _ rfl _ _ 22 22 rfl K 5 i0 (.int .u8 0) 1 1 Ybad.underlying22 hi hz0 hz1 hz2 rfl _ 0 [] rfl _ bs.length xp rfl (by rw [HK0.out]; exact ho6) hbsrc ?e3 ?e4 ?e5 ?e6)
            case e3 => unfold maxLen; omega
            case e4 => omega
            case e5 => omega
            case e6 =>
              intro v7 w7 ho7 hg7 _ _ _
              have hs7 := hg7.size
              have h67 : ∀ b, b < K → w7.heap[b]? = w6.heap[b]? := fun b hb => hg7.block b (by omega) (by rw [HK0.out]; simp [Value.ownBlock]; omega)
              have hm7 := own_same hm6 (fun g hg => h67 g (hmK g hg))
              have hbel7 : Below w.heap.size w w7 := hbel6.grown hg7 (by omega) (fun k hk => by rw [HK0.out] at hk; cases hk; exact hwK)
              obtain ⟨xm, hxm⟩ : ∃ x, Hid (x = MB.map (Value.int .u8)) := ⟨_, hid_mk rfl⟩
              have hmsrc := (ownsRow_bytesIn hm7).src
              rw [← hxm.out] at hmsrc
              clear hg7 hbsrc ho6
              go_wp2_with (at_builtin; refine wpList_append_src _ rfl _ _ 22 22 rfl K 5 i0 (.int .u8 0) 1 1 Ybad.underlying22 hi hz0 hz1 hz2 rfl _ bs.length xp rfl _ MB.length xm rfl ho7 hmsrc ?f3 ?f4 ?f5 ?f6)
              case f3 => unfold maxLen; omega
              case f4 => omega
              case f5 => omega
              case f6 =>
                intro v8 w8 ho8 hg8 _ _ _
                have hs8 := hg8.size
                have h78 : ∀ b, b < K → w8.heap[b]? = w7.heap[b]? := fun b hb => hg8.block b (by omega) (fun e => by have := (ho7.lt b e.symm).1; omega)
                have hr8 := own_same hr6 (fun g hg => (h78 g (hrK g hg)).trans (h67 g (hrK g hg)))
                have hbel8 : Below w.heap.size w w8 := hbel7.grown hg8 (by omega) (fun k hk => by have := (ho7.lt k hk).1; omega)
                obtain ⟨xr, hxr⟩ : ∃ x, Hid (x = RB.map (Value.int .u8)) := ⟨_, hid_mk rfl⟩
                have hrsrc := (ownsRow_bytesIn hr8).src
                rw [← hxr.out] at hrsrc
                obtain ⟨x8, hx8⟩ : ∃ x, Hid (x = xp ++ xm) := ⟨_, hid_mk rfl⟩
                rw [← hx8.out] at ho8
                clear hg8 hmsrc ho7
                go_wp2_with (at_builtin; refine wpList_append_src _ rfl _ _ 22 22 rfl K 5 i0 (.int .u8 0) 1 1 Ybad.underlying22 hi hz0 hz1 hz2 rfl _ (bs.length + MB.length) x8 rfl _ RB.length xr rfl ho8 hrsrc ?g3 ?g4 ?g5 ?g6)
                case g3 => unfold maxLen; omega
                case g4 => omega
                case g5 => omega
                case g6 =>
                  intro v9 w9 ho9 hg9 _ _ _
                  have hs9 := hg9.size
                  have h89 : ∀ b, b < K → w9.heap[b]? = w8.heap[b]? := fun b hb => hg9.block b (by omega) (fun e => by have := (ho8.lt b e.symm).1; omega)
                  have hbel9 : Below w.heap.size w w9 := hbel8.grown hg9 (by omega) (fun k hk => by have := (ho8.lt k hk).1; omega)
                  obtain ⟨X, hX⟩ : ∃ x, Hid (x = bs ++ MB ++ RB) := ⟨_, hid_mk rfl⟩
                  have hXl : X.length = bs.length + MB.length + RB.length := by rw [hX.out]; simp; omega
                  have ho9' : w9.ownsRow K 5 1 v9 X.length (X.map (Value.int .u8)) := by
                    rw [hXl, hX.out, List.map_append, List.map_append, ← hxp.out, ← hxm.out, ← hxr.out, ← hx8.out]
                    exact ho9
                  have hgot9 := own_same hgot6 (fun g hg => (h89 g (hgK g hg)).trans ((h78 g (hgK g hg)).trans (h67 g (hgK g hg))))
                  have hbf : Buf K w9 v9.ownBlock v9 X.length v9 X w9 := ⟨ho9', World.grownBy.refl _ _, .inl ⟨rfl, rfl⟩⟩
                  have hXb : X.length ≤ 1500000 := by omega
                  clear hg9 hrsrc ho8 ho9 hXl
                  go_wp2_with fail
                  refine (tail_walk K w9 v9.ownBlock v9 X.length v9 X n1 n2 n3 n4 n5 w9 hbf (.inl rfl) h1 h2 h3 h4 h5 hXb (by omega)).mono ?_
                  rintro e w10 ⟨v10, rfl, hb10⟩
                  have h910 : ∀ b, b < K → w10.heap[b]? = w9.heap[b]? := fun b hb => hb10.grown.block b (by omega) (fun e => by have := (ho9'.lt b e.symm).1; omega)
                  have hgot10 := own_same hgot9 (fun g hg => h910 g (hgK g hg))
                  have hbel10 : Below w.heap.size w w10 := hbel9.grown hb10.grown (by omega) (fun k hk => by have := (ho9'.lt k hk).1; omega)
                  have hexp := hb10.own
                  rw [← hX.out] at hgot10
                  go_wp2_with fail
                  refine (beq_same _ _ (X ++ tailB n1 n2 n3 n4 n5) w10 (ownsRow_bytesIn hgot10) (ownsRow_bytesIn hexp)).mono ?_
                  rintro e w11 ⟨rfl, rfl⟩
                  go_wp2
                  go_ret
                  exact ⟨rfl, hbel10⟩
      · have q1 : ¬ (1024 : Int) < bs.length := by omega
        have q2 : ¬ (1024 : Int) < ms.length := by omega
        have q3 : (1024 : Int) < rs.length := by omega
        go_enter Ybad.func3, Ybad.ntmps3
        go_wp2
        go_ret
        exact ⟨rfl, Below.refl _ _⟩
    · have q1 : ¬ (1024 : Int) < bs.length := by omega
      have q2 : (1024 : Int) < ms.length := by omega
      go_enter Ybad.func3, Ybad.ntmps3
      go_wp2
      go_ret
      exact ⟨rfl, Below.refl _ _⟩
  · have q1 : (1024 : Int) < bs.length := by omega
    go_enter Ybad.func3, Ybad.ntmps3
    go_wp2
    go_ret
    exact ⟨rfl, Below.refl _ _⟩
end Go.Proofs.YbulkbzsgDoor
