/-
  FnSkipSpaceSpec: the law's own walk.
-/
import Derived.Test.Qxb6603065aSkip
import Derived.Deep.DeepCutAuto
namespace Go.Proofs.Qxb6603065a
open Go Go.RowKit

/-- The world stands (a name that the walk does not open). -/
def Same (w w' : World) : Prop := w = w'

theorem hide {p : Prop} (h : p) : Hid p := h

theorem zzskip_past (a : Option Addr) (l c : Nat) (i : Int) (w : World) (h : (l : Int) ≤ i) : Calls Try.prog 11 #[.slice a l c, .int .i64 i] w fun e w' => e = .returned (.int .i64 i) ∧ w = w' := by
  have H : Hid (Calls Try.prog 25 #[.slice a l c, .int .i64 i] w fun e w' => e = .returned (.int .i64 i) ∧ w = w') := skip_past a l c i w h
  go_enter Try.func11, Try.ntmps11
  go_wp2_with (go_at_call 25; go_must (refine H.out.mono ?_); rintro e w1 ⟨rfl, rfl⟩)
  go_ret
  exact ⟨rfl, rfl⟩

theorem zzskip_in (b off l c k0 : Nat) (zs : List Int) (w : World) (hl : l = zs.length) (hmax : l ≤ 1048576) (hk0 : k0 < l) (hc : ∀ i, i < zs.length → w.cell? ⟨b, off + i, none⟩ = some (.int .u8 (zs.getD i 0))) :
    Calls Try.prog 11 #[.slice (some ⟨b, off, none⟩) l c, .int .i64 (k0 : Int)] w fun e w' => ∃ r : Nat, e = .returned (.int .i64 (r : Int)) ∧ Skips zs k0 r ∧ w = w' := by
  have H : Hid (Calls Try.prog 25 #[.slice (some ⟨b, off, none⟩) l c, .int .i64 (k0 : Int)] w fun e w' => ∃ r : Nat, e = .returned (.int .i64 (r : Int)) ∧ Skips zs k0 r ∧ w = w') := skip_in b off l c k0 zs w hl hmax hk0 hc
  clear hl hc
  go_enter Try.func11, Try.ntmps11
  go_wp2_with (go_at_call 25; go_must (refine H.out.mono ?_); rintro e w1 ⟨r, rfl, hr, rfl⟩)
  go_ret
  exact ⟨r, rfl, hr, rfl⟩

/-- Too long, or a place below 0. -/
theorem law_short (a : Option Addr) (l c : Nat) (i : Int) (w : World) (h0 : l ≤ maxLen) (h : 1048576 < l ∨ i < 0) :
    Calls Try.prog 3 #[.slice a l c, .int .i64 i] w fun e w' => e = .returned (.bool true) ∧ Below w.heap.size w w' := by
  have hby := bytes_skip a l c i w h0
  unfold maxLen at h0
  by_cases k0 : (l : Int) ≤ 1048576
  · have hd : decide ((l : Int) ≤ 1048576) = true := by simpa using k0
    rw [hd] at hby
    have k1 : i < 0 := by omega
    clear h
    go_enter Try.func3, Try.ntmps3
    go_wp2_with (go_at_call 10; go_must (refine hby.mono ?_); rintro e w1 ⟨rfl, rfl⟩)
    go_ret
    exact ⟨rfl, Below.refl _ _⟩
  · have hd : decide ((l : Int) ≤ 1048576) = false := by simpa using k0
    rw [hd] at hby
    clear h
    go_enter Try.func3, Try.ntmps3
    go_wp2_with (go_at_call 10; go_must (refine hby.mono ?_); rintro e w1 ⟨rfl, rfl⟩)
    go_ret
    exact ⟨rfl, Below.refl _ _⟩

theorem law_nil (c : Nat) (i : Int) (w : World) (hi : 0 ≤ i) :
    Calls Try.prog 3 #[.slice none 0 c, .int .i64 i] w fun e w' => e = .returned (.bool true) ∧ Below w.heap.size w w' := by
  have hby := bytes_skip none 0 c i w (by decide)
  have hz := zzskip_past none 0 c i w (by omega)
  have q22 : ∀ (w : World) (a : Option Addr) (n c n' c' : Nat), (binOp .neq 22 (.slice a n c) (.slice none n' c')).run Try.prog w = .ok (.bool (!a.isNone)) w := fun w a n c n' c' => run_neq_slice_nil_any w _ _ a n c n' c' Try.underlying22
  have H1 := hide (hby)
  have H2 := hide (hz)
  clear hby hz
  go_enter Try.func3, Try.ntmps3
  go_wp2_with (first | (go_at_call 10; go_must (refine H1.out.mono ?_); rintro e w1 ⟨rfl, rfl⟩) | (go_at_call 11; go_must (refine H2.out.mono ?_); rintro e w1 ⟨rfl, rfl⟩))
  go_ret
  exact ⟨rfl, Below.refl _ _⟩

set_option maxHeartbeats 1000000 in
theorem law_some (x : Addr) (l c : Nat) (zs : List Int) (i : Int) (w : World) (hl : l = zs.length) (hmax : l ≤ 1048576) (hi : 0 ≤ i) (hi2 : i ≤ 9223372036854775807)
    (hc : 0 < zs.length → ∃ b off, some x = some ⟨b, off, none⟩ ∧ ∀ j v, (zs.map (Value.int .u8))[j]? = some v → w.cell? ⟨b, off + j, none⟩ = some v) :
    Calls Try.prog 3 #[.slice (some x) l c, .int .i64 i] w fun e w' => e = .returned (.bool true) ∧ Below w.heap.size w w' := by
  have hby := bytes_skip (some x) l c i w (by unfold maxLen; omega)
  have hd : decide ((l : Int) ≤ 1048576) = true := by simp; omega
  rw [hd] at hby
  have H1 := hide (hby)
  have q22 : ∀ (w : World) (a : Option Addr) (n c n' c' : Nat), (binOp .neq 22 (.slice a n c) (.slice none n' c')).run Try.prog w = .ok (.bool (!a.isNone)) w := fun w a n c n' c' => run_neq_slice_nil_any w _ _ a n c n' c' Try.underlying22
  obtain ⟨W1, W2, hmk, hcp, hown, hgr⟩ := make_copy (P := Try.prog) (z := .int .u8 0) (bytes := 1) Try.underlying22 (by kernel_rfl) w (some x) l c w.heap.size (zs.map (Value.int .u8)) (by simp [hl]) (by omega) (by unfold maxLen; omega) (Nat.le_refl _) (ints_oneCell .u8 zs) (by rw [hl]; exact hc)
  have hbel : Below w.heap.size w W2 := (Below.refl _ _).grown hgr (Nat.le_refl _) (fun k e => by cases e)
  have hcell : ∀ j, j < zs.length → W2.cell? ⟨w.heap.size, 0 + j, none⟩ = some (.int .u8 (zs.getD j 0)) := by
    intro j hj
    rw [Nat.zero_add, hown.cellAt j (by omega)]
    simp [hj]
  have HB : Hid (Below w.heap.size w W2) := hbel
  have HL : Hid (l = zs.length) := hl
  by_cases hp : (l : Int) ≤ i
  · have H2 := hide (zzskip_past (some ⟨w.heap.size, 0, none⟩) l l i W2 hp)
    clear hby hd hcell hown hgr hbel hl hc
    go_enter Try.func3, Try.ntmps3
    go_wp2_with (first | (go_at_call 10; go_must (refine H1.out.mono ?_); rintro e w1 ⟨rfl, rfl⟩) | (go_at_call 11; go_must (refine H2.out.mono ?_); rintro e w1 ⟨rfl, rfl⟩))
    go_ret
    exact ⟨rfl, HB.out⟩
  · obtain ⟨k0, rfl⟩ := Int.eq_ofNat_of_zero_le hi
    have H2 := hide (zzskip_in w.heap.size 0 l l k0 zs W2 hl hmax (by omega) hcell)
    have HC : Hid (∀ j, j < zs.length → W2.cell? ⟨w.heap.size, 0 + j, none⟩ = some (.int .u8 (zs.getD j 0))) := hcell
    clear hby hd hcell hown hgr hbel hl hc hi hi2
    go_enter Try.func3, Try.ntmps3
    go_upto_if 44 with (first | (go_at_call 10; go_must (refine H1.out.mono ?_); rintro e w1 ⟨rfl, rfl⟩) | (go_at_call 11; go_must (refine H2.out.mono ?_); rintro e w1 ⟨r, rfl, hr, rfl⟩; have hr1 := hr.1; have hr2 : r ≤ l := (by rw [HL.out]; exact hr.2.1); have HR := hide hr; clear hr))
    go_cut [6] (fun v wc => v = .int .i64 (r : Int) ∧ Same W2 wc)
    case first =>
      go_wp2
      go_meet
      exact ⟨rfl, rfl⟩
    case rest =>
    obtain ⟨rfl, ew⟩ := hcut
    have ew' : wc = W2 := ew.symm
    rw [ew']
    clear ew ew'
    go_wp2_with fail
    clear H1 H2 hmk hcp
    go_loop [7] (fun k => ∃ t : Nat, k0 ≤ t ∧ t ≤ r ∧ k = .int .i64 t) (fun k => r - (intOf k).toNat)
    case atStart => exact ⟨k0, Nat.le_refl _, hr1, rfl⟩
    case round =>
      obtain ⟨t, ht0, ht1, rfl⟩ := hrel
      by_cases hlt : t < r
      · obtain ⟨y, hy⟩ : ∃ y, y = zs.getD t 0 := ⟨_, rfl⟩
        have hcx : W2.cell? ⟨w.heap.size, t, none⟩ = some (.int .u8 y) := by rw [hy]; have h := HC.out t (by have := HL.out; omega); rw [Nat.zero_add] at h; exact h
        have hcall := isws_calls y W2
        rw [show ws y = true by rw [hy]; exact HR.out.2.2.1 t ht0 hlt] at hcall
        have H3 := hide hcall
        clear hy hcall
        go_wp2_with (go_at_call 12; go_must (refine H3.out.mono ?_); rintro e w1 ⟨rfl, hw1⟩; rw [hw1]; clear hw1)
        go_round
        case rel => exact ⟨t + 1, by omega, by omega, by go_num⟩
        case measure => simp [intOf]; omega
      · by_cases he : r = l
        · subst he
          go_wp2
          go_ret
          exact ⟨rfl, HB.out⟩
        · obtain ⟨y, hy⟩ : ∃ y, y = zs.getD r 0 := ⟨_, rfl⟩
          have hlr : r < l := by omega
          have hcx : W2.cell? ⟨w.heap.size, r, none⟩ = some (.int .u8 y) := by rw [hy]; have h := HC.out r (by have := HL.out; omega); rw [Nat.zero_add] at h; exact h
          have hcall := isws_calls y W2
          rw [show ws y = false by rw [hy]; exact HR.out.2.2.2 (by have := HL.out; omega)] at hcall
          have H3 := hide hcall
          have hne : ((r : Int) == (l : Int)) = false := by rw [beq_eq_false_iff_ne]; omega
          clear hy hcall he
          go_wp2_with (go_at_call 12; go_must (refine H3.out.mono ?_); rintro e w1 ⟨rfl, hw1⟩; rw [hw1]; clear hw1)
          go_ret
          exact ⟨rfl, HB.out⟩

end Go.Proofs.Qxb6603065a
