/-
  'c := make([]T, len(s)); copy(c, s)': the two runs' equations, and what is owned behind them. It speaks of no program.
-/
import Derived.Maps.AppendAt
import Derived.WalkKit
import Derived.Laws.IdiomCopy
namespace Go.Proofs.Qxb6603065a
open Go Go.RowKit

theorem make_copy {P : Program} {t e : TypeId} {z : Value} {bytes : Nat} (ht : P.underlying t = some (.slice e)) (hi : (P.info? e).map (fun i => (i.zero, i.size, i.bytes)) = some (some z, 1, bytes))
    (w : World) (a : Option Addr) (l c base : Nat) (cs : List Value) (hl : cs.length = l) (hb : bytes * l ≤ 281474976710656) (h63 : l ≤ maxLen) (hbase : base ≤ w.heap.size) (h1 : ∀ v ∈ cs, v.oneCell' = true)
    (hc : 0 < l → ∃ b off, a = some ⟨b, off, none⟩ ∧ ∀ i v, cs[i]? = some v → w.cell? ⟨b, off + i, none⟩ = some v) :
    ∃ W1 W2, (Instr.makeSlice t (.int .i64 (l : Int)) (.int .i64 (l : Int))).run P w = .ok (.slice (some ⟨w.heap.size, 0, none⟩) l l) W1 ∧
      (∀ ty, (Builtin.copy_ #[t, t] ty #[.slice (some ⟨w.heap.size, 0, none⟩) l l, .slice a l c]).run P W1 = .ok (.int .i64 (l : Int)) W2) ∧
      W2.ownsRow base e 1 (.slice (some ⟨w.heap.size, 0, none⟩) l l) l cs ∧ w.grownBy W2 none := by
  obtain ⟨i, hi0, hz0, hz1, hz2⟩ := info_parts hi
  have hsz : (P.info? e).map (·.size) = some 1 := by rw [hi0]; simp [hz1]
  obtain ⟨W1, hrun, hown, hgr⟩ := run_make_full (P := P) w base t e i z 1 ht hi0 hz0 hz1 .i64 .i64 l (by rw [hz2]; exact hb) h63 hbase
  rcases hown.2 with ⟨h', _⟩ | ⟨g, cap, cur, h', hbg, hg, hnc, hcm, hcs, htake⟩
  · simp at h'
  · simp only [Value.slice.injEq, Option.some.injEq, Addr.mk.injEq, and_true, true_and] at h'
    obtain ⟨rfl, rfl⟩ := h'
    by_cases h0 : l = 0
    · subst h0
      obtain rfl : cs = [] := List.eq_nil_of_length_eq_zero hl
      refine ⟨W1, W1, hrun, fun ty => ?_, ?_, hgr⟩
      · have := run_copy_none (P := P) W1 t t ty e (some ⟨w.heap.size, 0, none⟩) a 0 0 0 c ht hsz (by simp)
        rw [this]
        rfl
      · simpa [madeCells] using hown
    · obtain ⟨b, off, rfl, hcell⟩ := hc (by omega)
      have hsrc : ∀ j v, cs[j]? = some v → W1.cell? ((⟨b, off, none⟩ : Addr).add j) = some v := by
        intro j v hv
        rw [Addr.add_lit]
        have h2 := hcell j v hv
        exact hgr.cell h2 (by simp)
      have hcp := fun ty => run_copy_row (P := P) W1 t t ty e w.heap.size 0 l l ⟨b, off, none⟩ l c cur e cs ht hsz hg (by simp [hl]) hsrc (by omega) h1
      refine ⟨W1, W1.setRow w.heap.size (cur.toList.take 0 ++ cs ++ cur.toList.drop (0 + cs.length)).toArray, hrun, fun ty => ?_, ?_, ?_⟩
      · rw [hcp ty, hl]
        rfl
      · refine ⟨by simp [hl], .inr ⟨w.heap.size, l, _, rfl, hbg, setRow_heap W1 _ _ _ e _ hg, Nat.le_refl _, h63, ?_, ?_⟩⟩
        · simp [hl, hcs]
        · simp [← hl]
      · refine ⟨hgr.os, hgr.tape, hgr.output, ?_, fun k hk _ => ?_⟩
        · simpa using hgr.size
        · rw [setRow_other _ _ _ _ (by omega)]
          exact hgr.block k hk (by simp)

end Go.Proofs.Qxb6603065a
