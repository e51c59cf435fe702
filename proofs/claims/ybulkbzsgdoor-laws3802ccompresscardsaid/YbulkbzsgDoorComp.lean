import Derived.Test.YbulkbzsgDoorPlain
import Derived.Maps.OwnSet
import Derived.Maps.OwnOps
namespace Go.Proofs.YbulkbzsgDoor
open Go.RowKit
open Go.Maps (Keyed string_keyed)
set_option linter.unusedVariables false
set_option linter.unusedSimpArgs false

abbrev Tab := List UInt8 → Option Int
def keyB (xs : List Int) : List UInt8 := xs.map fun n => UInt8.ofNat n.toNat
def nameK (ss : List ByteArray) : List UInt8 := keyB (wireB ss ++ [0])
def put (f : Tab) (k : List UInt8) (c : Int) : Tab := fun s => if s = k then some c else f s
def ptrB (c : Int) : List Int := [192 + c / 256, c % 256]

def comp (f : Tab) : List ByteArray → Nat → List Int × Tab × Nat
  | [], _ => ([0], f, 0)
  | s :: t, off => match f (nameK (s :: t)) with
    | some c => (ptrB c, f, 0)
    | none => let r := comp (put f (nameK (s :: t)) off) t (off + (1 + s.size)); (((s.size : Int) :: bytesI s) ++ r.1, r.2.1, r.2.2 + 1)

def tab (f : Tab) : List ByteArray → Nat → Tab
  | [], _ => f
  | s :: t, off => tab (put f (nameK (s :: t)) off) t (off + (1 + s.size))

theorem wireB_len_cons (s : ByteArray) (t : List ByteArray) : (wireB (s :: t)).length = 1 + s.size + (wireB t).length := by
  simp only [wireB, List.length_append, List.length_cons, bytesI_len]; omega

theorem nameK_len (ss : List ByteArray) : (nameK ss).length = (wireB ss).length + 1 := by simp [nameK, keyB]

theorem wire_drop_le (ss : List ByteArray) (i : Nat) : (wireB (ss.drop i)).length ≤ (wireB ss).length := by
  have h := congrArg (fun l => (wireB l).length) (List.take_append_drop i ss)
  simp only [wireB_append, List.length_append] at h
  omega

theorem nameK_ne (s : ByteArray) (t : List ByteArray) (i : Nat) : nameK (t.drop i) ≠ nameK (s :: t) := by
  intro h
  have h1 := congrArg List.length h
  rw [nameK_len, nameK_len, wireB_len_cons] at h1
  have := wire_drop_le t i
  omega

theorem put_ne {f : Tab} {k s : List UInt8} {c : Int} (h : s ≠ k) : put f k c s = f s := by simp [put, h]

theorem comp_fresh (ss : List ByteArray) : ∀ (f : Tab) (off : Nat), (∀ i, i < ss.length → f (nameK (ss.drop i)) = none) → comp f ss off = (wireB ss ++ [0], tab f ss off, ss.length) := by
  induction ss with
  | nil => intro f off _; rfl
  | cons s t ih =>
    intro f off h
    have h0 := h 0 (by simp)
    rw [List.drop_zero] at h0
    have hr := ih (put f (nameK (s :: t)) off) (off + (1 + s.size)) (fun i hi => by
      rw [put_ne (nameK_ne s t i)]
      exact h (i + 1) (by simp; omega))
    simp only [comp, h0, hr, tab, wireB, List.length_cons, List.cons_append, List.append_assoc]

theorem comp_found (ss : List ByteArray) : ∀ (f : Tab) (off j : Nat) (c : Int), j < ss.length → (∀ i, i < j → f (nameK (ss.drop i)) = none) → f (nameK (ss.drop j)) = some c →
    (comp f ss off).1 = wireB (ss.take j) ++ ptrB c ∧ (comp f ss off).2.2 = j := by
  induction ss with
  | nil => intro f off j c hj; simp at hj
  | cons s t ih =>
    intro f off j c hj hno hc
    cases j with
    | zero =>
      rw [List.drop_zero] at hc
      simp [comp, hc, wireB]
    | succ j =>
      have h0 := hno 0 (by omega)
      rw [List.drop_zero] at h0
      have hr := ih (put f (nameK (s :: t)) off) (off + (1 + s.size)) j c (by simp at hj; omega) (fun i hi => by
        rw [put_ne (nameK_ne s t i)]
        exact hno (i + 1) (by omega)) (by rw [put_ne (nameK_ne s t j)]; exact hc)
      simp only [comp, h0, List.take_succ_cons, wireB]
      refine ⟨?_, by rw [hr.2]⟩
      rw [hr.1]
      simp

theorem tab_miss (ss : List ByteArray) : ∀ (f : Tab) (off : Nat) (k : List UInt8), (∀ i, i < ss.length → k ≠ nameK (ss.drop i)) → tab f ss off k = f k := by
  induction ss with
  | nil => intro f off k _; rfl
  | cons s t ih =>
    intro f off k h
    rw [tab, ih _ _ _ (fun i hi => h (i + 1) (by simp; omega)), put_ne (show k ≠ nameK (s :: t) from h 0 (by simp))]

theorem tab_hit (ss : List ByteArray) : ∀ (f : Tab) (off i : Nat), i < ss.length → tab f ss off (nameK (ss.drop i)) = some ((off + (wireB (ss.take i)).length : Nat) : Int) := by
  induction ss with
  | nil => intro f off i h; simp at h
  | cons s t ih =>
    intro f off i h
    cases i with
    | zero =>
      rw [tab, tab_miss _ _ _ _ (fun i hi => by rw [List.drop_zero]; exact (nameK_ne s t i).symm)]
      simp [put, wireB]
    | succ i =>
      rw [tab, List.drop_succ_cons, ih _ _ i (by simp at h; omega), List.take_succ_cons, wireB_len_cons]
      congr 1
      omega

def okName (ss : List ByteArray) : Prop := ∀ s ∈ ss, 0 < s.size ∧ s.size ≤ 63

theorem ok_of_err (ss : List ByteArray) : ∀ sz, nameErr sz ss = 0 → okName ss := by
  induction ss with
  | nil => intro sz _ s hs; cases hs
  | cons s t ih =>
    intro sz he x hx
    unfold nameErr at he
    split at he
    · cases he
    · split at he
      · cases he
      · split at he
        · cases he
        · rcases List.mem_cons.1 hx with rfl | h
          · omega
          · exact ih _ he x h

theorem wire_range (ss : List ByteArray) (h : okName ss) : ∀ x ∈ wireB ss ++ [0], 0 ≤ x ∧ x ≤ 255 := by
  induction ss with
  | nil => intro x hx; simp [wireB] at hx; omega
  | cons s t ih =>
    intro x hx
    have hs := h s (by simp)
    simp only [wireB, List.cons_append, List.mem_cons, List.append_assoc, List.mem_append] at hx
    rcases hx with rfl | hx | hx
    · omega
    · exact bytesI_range s x hx
    · exact ih (fun s hs => h s (by simp [hs])) x (by simpa using hx)

theorem keyB_inj {a b : List Int} (ha : ∀ x ∈ a, 0 ≤ x ∧ x ≤ 255) (hb : ∀ x ∈ b, 0 ≤ x ∧ x ≤ 255) (h : keyB a = keyB b) : a = b := by
  induction a generalizing b with
  | nil => cases b with
    | nil => rfl
    | cons y b => simp [keyB] at h
  | cons x a ih => cases b with
    | nil => simp [keyB] at h
    | cons y b =>
      simp only [keyB, List.map_cons, List.cons.injEq] at h
      have hx := ha x (by simp)
      have hy := hb y (by simp)
      have e := congrArg UInt8.toNat h.1
      simp only [UInt8.toNat_ofNat'] at e
      have e2 : x = y := by omega
      rw [e2, ih (fun z hz => ha z (by simp [hz])) (fun z hz => hb z (by simp [hz])) h.2]

theorem bytesI_inj {a b : ByteArray} (h : bytesI a = bytesI b) : a = b := by
  have : a.data.toList = b.data.toList := by
    unfold bytesI at h
    exact List.map_inj_right (f := fun c : UInt8 => (c.toNat : Int)) (fun x y hxy => UInt8.toNat_inj.1 (Int.ofNat.inj hxy)) |>.1 h
  cases a; cases b
  simp at this
  rw [this]

theorem wire_inj (a : List ByteArray) : ∀ b, okName a → okName b → wireB a ++ [0] = wireB b ++ [0] → a = b := by
  induction a with
  | nil =>
    intro b _ hb h
    cases b with
    | nil => rfl
    | cons s t =>
      have := hb s (by simp)
      simp [wireB] at h
  | cons s t ih =>
    intro b ha hb h
    have hs := ha s (by simp)
    cases b with
    | nil => simp [wireB] at h
    | cons s' t' =>
      have hs' := hb s' (by simp)
      simp only [wireB, List.cons_append, List.append_assoc, List.cons.injEq] at h
      have hsz : s.size = s'.size := by omega
      obtain ⟨e1, e2⟩ := List.append_inj h.2 (by rw [bytesI_len, bytesI_len, hsz])
      rw [bytesI_inj e1, ih t' (fun x hx => ha x (by simp [hx])) (fun x hx => hb x (by simp [hx])) e2]

theorem nameK_inj {a b : List ByteArray} (ha : okName a) (hb : okName b) (h : nameK a = nameK b) : a = b :=
  wire_inj a b ha hb (keyB_inj (wire_range a ha) (wire_range b hb) h)

theorem okName.drop {a : List ByteArray} (h : okName a) (i : Nat) : okName (a.drop i) := fun s hs => h s (List.mem_of_mem_drop hs)

/-- The map after the first name, at an end of the second. -/
theorem tab_match {ms rs : List ByteArray} (hm : okName ms) (hr : okName rs) (off i : Nat) (hi : i < rs.length) :
    tab (fun _ => none) ms off (nameK (rs.drop i)) =
      if rs.length - i ≤ ms.length ∧ rs.drop i = ms.drop (ms.length - (rs.length - i)) then some ((off + (wireB (ms.take (ms.length - (rs.length - i)))).length : Nat) : Int) else none := by
  split
  · rename_i h
    rw [h.2]
    exact tab_hit ms _ off _ (by omega)
  · rename_i h
    refine tab_miss ms _ off _ (fun j hj he => h ?_)
    have e := nameK_inj (hr.drop i) (hm.drop j) he
    have hl := congrArg List.length e
    simp only [List.length_drop] at hl
    refine ⟨by omega, ?_⟩
    rw [e]
    congr 1
    omega

/-- The call's own map as a table. -/
def MapIs (w : World) (bm : Nat) (f : Tab) (n : Nat) : Prop :=
  ∃ D : DataW Unit, w.ownsMap Ybad.prog 9 (plainElem Ybad.prog 3) bm n D ∧ Maps.size D = n ∧ ∀ s, Maps.has D (.string s) = (f s).isSome ∧ ∀ c, f s = some c → D.atKey (.string s) (.lit (.int .i64 0)) = .lit (.int .i64 c)

theorem klaw : Keyed Ybad.prog 9 := string_keyed Ybad.underlying9
theorem zero3 (w : World) : (zeroValue 3).run Ybad.prog w = .ok (.int .i64 0) w := by kernel_rfl

theorem MapIs.made (w : World) : MapIs (w.alloc (.map #[] 0)) w.heap.size (fun _ => none) 0 :=
  ⟨_, World.ownsMap_made _ _ _ _, rfl, fun s => ⟨rfl, fun c h => by cases h⟩⟩

theorem MapIs.kept {w w' : World} {bm n : Nat} {f : Tab} (h : MapIs w bm f n) (hb : w'.heap[bm]? = w.heap[bm]?) : MapIs w' bm f n := by
  obtain ⟨D, ⟨es, clock, h1, h2⟩, h3⟩ := h
  exact ⟨D, ⟨es, clock, hb.trans h1, h2⟩, h3⟩

theorem MapIs.put {w : World} {bm n : Nat} {f : Tab} {D : DataW Unit} {k : List UInt8} {c : Int} (hD : Go.Maps.Tidy D) (hs : Maps.size D = n) (hh : ∀ s, Maps.has D (.string s) = (f s).isSome ∧ ∀ c, f s = some c → D.atKey (.string s) (.lit (.int .i64 0)) = .lit (.int .i64 c))
    (hno : f k = none) (hown : w.ownsMap Ybad.prog 9 (plainElem Ybad.prog 3) bm (n + 1) (D.put (.string k) (.lit (.int .i64 c)))) : MapIs w bm (put f k c) (n + 1) := by
  have hk : WideAt.IsKeyLit (.string k) := trivial
  refine ⟨_, hown, ?_, fun s => ?_⟩
  · rw [Maps.size_put hD, (hh k).1, hno, hs]; rfl
  · by_cases e : s = k
    · subst e
      refine ⟨by rw [Maps.has_put_same hD.isMap hk]; simp [Go.Proofs.YbulkbzsgDoor.put], fun c' h' => ?_⟩
      simp [Go.Proofs.YbulkbzsgDoor.put] at h'
      rw [Maps.atKey_put_same hD.isMap hk, h']
    · have hne : Lit.string s ≠ .string k := fun h => e (by injection h)
      rw [Maps.has_put_other hne, Maps.atKey_put_other hne, put_ne e]
      exact hh s
end Go.Proofs.YbulkbzsgDoor
