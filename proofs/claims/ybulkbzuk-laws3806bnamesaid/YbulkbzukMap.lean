import Derived.Test.YbulkbzukPass
namespace Go.Proofs.Ybulkbzuk
open Go Go.RowKit Go.Maps Go.ChangeMaps Go.WideMaps
set_option linter.unusedVariables false
set_option linter.unusedSimpArgs false

noncomputable instance memDec (a : ByteArray) (l : List ByteArray) : Decidable (a ∈ l) := Classical.propDecidable _

theorem isMap_put {m : DataW Unit} (h : IsMap m) (k : Lit) (u : DataW Unit) : IsMap (m.put k u) := by
  obtain ⟨es, rfl⟩ := h
  exact ⟨_, rfl⟩

theorem key_lit (a : ByteArray) : WideAt.IsKeyLit (key a) := by simp [key, WideAt.IsKeyLit]
theorem key_inj {a b : ByteArray} (h : key a = key b) : a = b := by
  cases a; cases b
  simp only [key, Lit.string.injEq] at h
  congr 1
  exact Array.toList_inj.1 h
theorem key_ne {a b : ByteArray} (h : a ≠ b) : key a ≠ key b := fun e => h (key_inj e)
theorem keys_lit (l : List ByteArray) : ∀ x ∈ l.map key, WideAt.IsKeyLit x := by
  intro x hx
  obtain ⟨_, _, rfl⟩ := List.mem_map.1 hx
  exact key_lit _

theorem at_fold (u z : DataW Unit) (a : ByteArray) : ∀ (l : List ByteArray) (m : DataW Unit), IsMap m → ((l.map key).foldl (fun m x => m.put x u) m).atKey (key a) z = if a ∈ l then u else m.atKey (key a) z
  | [], m, _ => by simp
  | x :: r, m, hm => by
    rw [List.map_cons, List.foldl_cons, at_fold u z a r (m.put (key x) u) (isMap_put hm _ _)]
    by_cases e : a = x
    · subst e
      rw [atKey_put_same hm (key_lit a)]
      simp
    · rw [atKey_put_other (key_ne e)]
      simp [e]
theorem at_setOf (u z : DataW Unit) (a : ByteArray) (l : List ByteArray) : (setOf u (l.map key)).atKey (key a) z = if a ∈ l then u else z := by
  unfold setOf
  rw [at_fold u z a l _ isMap_empty]
  rfl
theorem has_hold (u : DataW Unit) (a : ByteArray) : ∀ (l : List ByteArray) (m : DataW Unit), IsMap m → has ((l.map key).foldl (fun m x => m.put x u) m) (key a) = (decide (a ∈ l) || has m (key a))
  | [], m, _ => by simp
  | x :: r, m, hm => by
    rw [List.map_cons, List.foldl_cons, has_hold u a r (m.put (key x) u) (isMap_put hm _ _)]
    by_cases e : a = x
    · subst e
      rw [has_put_same hm (key_lit a)]
      simp
    · rw [has_put_other (key_ne e)]
      simp [e]
theorem has_keys (u : DataW Unit) (a : ByteArray) (l : List ByteArray) : has (setOf u (l.map key)) (key a) = decide (a ∈ l) := by
  unfold setOf
  rw [has_hold u a l _ isMap_empty]
  simp [has]
theorem size_hold (u : DataW Unit) : ∀ (l : List ByteArray) (m : DataW Unit), Tidy m → l.Nodup → (∀ x ∈ l, has m (key x) = false) → size ((l.map key).foldl (fun m x => m.put x u) m) = size m + l.length
  | [], m, _, _, _ => by simp
  | x :: r, m, hm, hn, hh => by
    rw [List.nodup_cons] at hn
    rw [List.map_cons, List.foldl_cons, size_hold u r (m.put (key x) u) (hm.put (key_lit x) u) hn.2 (fun y hy => by
      rw [has_put_other (key_ne (fun e => hn.1 (by rw [← e]; exact hy)))]; exact hh y (by simp [hy])), size_put hm, hh x (by simp)]
    simp
    omega
theorem size_keys (u : DataW Unit) (l : List ByteArray) (hl : l.Nodup) : size (setOf u (l.map key)) = l.length := by
  unfold setOf
  rw [size_hold u l _ tidy_empty hl (fun _ _ => rfl)]
  simp [size]

theorem zero4 (w : World) : (zeroValue 4).run Yba.prog w = .ok (.bool false) w := by kernel_rfl
theorem zero42 (w : World) : (zeroValue 42).run Yba.prog w = .ok .nilIface w := by kernel_rfl

section
variable {w0 w : World} {B : Nat} {ban : Int} {most : Nat} {lv qv rv : Value} {Qm Rm : List ByteArray} {rws : Rws}
theorem St.look1 (h : St w0 w B ban most lv qv rv Qm Rm rws) {a : ByteArray} (ha : a.size ≤ 5) : (Instr.lookup 45 (.map (some (B + 4))) (.string a) false).run Yba.prog w = .ok (.bool false) w := by
  obtain ⟨v, ps, hr, hv⟩ := h.m1.lookup law9 Yba.underlying45 (zero4 w) (zd := .lit (.bool false)) (zp := []) rfl (keyOf_string_mk Yba.underlying9 (s := a) (by unfold maxLen; omega))
  obtain ⟨x, rfl, hx⟩ := boolE_inv hv
  rw [hr]
  have : (DataW.map [] : DataW Unit).atKey (Lit.string a.data.toList) (.lit (.bool false)) = .lit (.bool false) := rfl
  rw [this] at hx
  simp at hx
  rw [hx.1]
theorem St.look2 (h : St w0 w B ban most lv qv rv Qm Rm rws) {a : ByteArray} (ha : a.size ≤ 5) : (Instr.lookup 45 (.map (some (B + 5))) (.string a) false).run Yba.prog w = .ok (.bool (decide (a ∈ Qm))) w := by
  obtain ⟨v, ps, hr, hv⟩ := h.m2.lookup law9 Yba.underlying45 (zero4 w) (zd := .lit (.bool false)) (zp := []) rfl (keyOf_string_mk Yba.underlying9 (s := a) (by unfold maxLen; omega))
  obtain ⟨x, rfl, hx⟩ := boolE_inv hv
  rw [hr]
  rw [at_setOf] at hx
  by_cases e : a ∈ Qm
  · rw [if_pos e] at hx; simp at hx; simp [e, hx.1]
  · rw [if_neg e] at hx; simp at hx; simp [e, hx.1]
theorem St.look3 (h : St w0 w B ban most lv qv rv Qm Rm rws) {a : ByteArray} (ha : a.size ≤ 5) : (Instr.lookup 31 (.map (some (B + 7))) (.string a) true).run Yba.prog w = .ok (.tuple #[.nilIface, .bool (decide (a ∈ Rm))]) w := by
  obtain ⟨v, ps, hr, hv⟩ := h.m3.look_ok law9 Yba.underlying31 (zero42 w) (zd := .nil) (zp := []) rfl (keyOf_string_mk Yba.underlying9 (s := a) (by unfold maxLen; omega))
  obtain ⟨rfl, hx⟩ := nilE_inv hv
  rw [hr, has_keys]
theorem St.len3 (h : St w0 w B ban most lv qv rv Qm Rm rws) (hn : Rm.Nodup) (ty : TypeId) : (Builtin.len_ #[31] ty #[.map (some (B + 7))]).run Yba.prog w = .ok (.int .i64 Rm.length) w := by
  rw [h.m3.len Yba.underlying31 ty, size_keys _ _ hn]
end
end Go.Proofs.Ybulkbzuk
