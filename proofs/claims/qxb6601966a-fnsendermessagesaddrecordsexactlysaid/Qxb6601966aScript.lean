/-
  FnSenderMessagesAddScriptFromEmpty: its walk.
-/
import Derived.Test.Qxb6601966aAdd
import Derived.OpenShut
namespace Go.Proofs.Qxb6601966a
open Go Go.RowKit Go.Maps

theorem run_makeMap_hint {P : Program} {t k e : TypeId} (h : P.underlying t = some (.map k e)) (q : IntKind) (n : Int) (w : World) : (Instr.makeMap t (some (.int q n))).run P w = .ok (.map (some w.heap.size)) (w.alloc (.map #[] 0)) := by
  simp [Instr.makeMap, run_underlying h, asInt, asIntOf, Result.andThen]

theorem atKey_setOf (u z : DataW Unit) (k : Lit) (acc : List Lit) (h : ∀ x ∈ acc, WideAt.IsKeyLit x) : (setOf u acc).atKey k z = if acc.any (fun x => x.sameKey k) then u else z := by
  have aux : ∀ (l : List Lit) (m : DataW Unit), IsMap m → (∀ x ∈ l, WideAt.IsKeyLit x) → (l.foldl (fun m x => m.put x u) m).atKey k z = if l.any (fun x => x.sameKey k) then u else m.atKey k z := by
    intro l
    induction l with
    | nil => intro m _ _; simp
    | cons x r ih =>
      intro m hm hk
      rw [List.foldl_cons, ih _ (hm.put x u) (fun y hy => hk y (by simp [hy]))]
      by_cases e : k = x
      · subst e
        rw [atKey_put_same hm (hk k (by simp))]
        simp [WideAt.sameKey_self (hk k (by simp))]
      · rw [atKey_put_other e]
        simp [sameKey_ne (fun e' => e e'.symm)]
  unfold setOf
  rw [aux acc _ isMap_empty h]
  rfl

theorem plainElem_bool_inv {P : Program} {e : TypeId} (he : P.underlying e = some .bool) {v : Value} {z : DataW Unit × List MemPlace} (h : plainElem P e v = some z) : ∃ x, v = .bool x ∧ z = (.lit (.bool x), []) := by
  unfold plainElem at h
  rw [he] at h
  cases v <;> simp at h
  subst h
  exact ⟨_, rfl, rfl⟩

theorem zero4 (w : World) : (zeroValue 4).run Try.prog w = .ok (.bool false) w := by kernel_rfl

/-- The set of the numbers seen. -/
def seenD (acc : List Int) : DataW Unit := setOf (.lit (.bool true)) (acc.map Tab.kk)
theorem seenD_keys (acc : List Int) : ∀ x ∈ acc.map Tab.kk, WideAt.IsKeyLit x := by
  intro x hx
  obtain ⟨n, _, rfl⟩ := List.mem_map.1 hx
  exact Tab.isKey n
theorem any_kk (acc : List Int) (x : Int) : (acc.map Tab.kk).any (fun y => y.sameKey (Tab.kk x)) = acc.contains x := by
  induction acc with
  | nil => rfl
  | cons y r ih =>
    rw [List.map_cons, List.any_cons, ih, List.contains_cons]
    congr 1
    by_cases e : y = x
    · subst e
      rw [WideAt.sameKey_self (Tab.isKey y)]
      simp
    · rw [sameKey_ne (Tab.kk_ne e)]
      have : x ≠ y := fun h => e h.symm
      simp [this]
theorem seenD_snoc (acc : List Int) (x : Int) : (seenD acc).put (Tab.kk x) (.lit (.bool true)) = seenD (acc ++ [x]) := by
  unfold seenD
  rw [List.map_append, List.map_singleton, setOf_snoc]

/-- 'seen[x]'. -/
theorem seen_look {w : World} {b n : Nat} {acc : List Int} (h : w.ownsMap Try.prog 24 (plainElem Try.prog 4) b n (seenD acc)) {x : Int} (h0 : 0 ≤ x) (h1 : x < 18446744073709551616) :
    (Instr.lookup 33 (.map (some b)) (.int .u64 x) false).run Try.prog w = .ok (.bool (acc.contains x)) w := by
  obtain ⟨v, ps, hrun, hv⟩ := h.lookup law24 Try.underlying33 (zero4 w) (plainElem_bool Try.underlying4 false) (key24 h0 h1)
  obtain ⟨y, rfl, hy⟩ := plainElem_bool_inv Try.underlying4 hv
  rw [hrun]
  have e : (seenD acc).atKey (Tab.kk x) (.lit (.bool false)) = .lit (.bool y) := congrArg Prod.fst hy
  unfold seenD at e
  rw [atKey_setOf _ _ _ _ (seenD_keys acc), any_kk] at e
  cases hc : acc.contains x <;> rw [hc] at e <;> simp at e <;> rw [e]

/-- It answers a bool. -/
def SomeBool (e : Ending) : Prop := ∃ b, e = .returned (.bool b)

theorem bytes_script (a0 a1 : Option Addr) (l0 c0 l1 c1 : Nat) (w : World) (h0 : l0 ≤ maxLen) (h1 : l1 ≤ maxLen) :
    Calls Try.prog 13 #[.slice a0 l0 c0, .slice a1 l1 c1] w fun e w' => SomeBool e ∧ w' = w := by
  unfold maxLen at h0 h1
  by_cases k0 : (l0 : Int) ≤ 1048576
  · by_cases k1 : (l1 : Int) ≤ 1048576
    · by_cases k2 : (l0 : Int) + l1 ≤ 1048576
      · go_enter Try.func13, Try.ntmps13
        go_wp2
        go_ret
        exact ⟨⟨_, rfl⟩, rfl⟩
      · go_enter Try.func13, Try.ntmps13
        go_wp2
        go_ret
        exact ⟨⟨_, rfl⟩, rfl⟩
    · go_enter Try.func13, Try.ntmps13
      go_wp2
      go_ret
      exact ⟨⟨_, rfl⟩, rfl⟩
  · go_enter Try.func13, Try.ntmps13
    go_wp2
    go_ret
    exact ⟨⟨_, rfl⟩, rfl⟩

end Go.Proofs.Qxb6601966a
