/-
  'copy(placed[1:], placed[:n])' as one step of a region that draws: the row moves up by one.
-/
import Derived.Test.Qxb6601966aDpMem
import Derived.Laws.IdiomCopy
import Derived.Deep.RegionLaw
namespace Go.Proofs.Qxb6601966a
open Go Go.RowKit

theorem Keeps.setCells {S : List Nat} {b : Nat} (hb : b ∈ S) : ∀ (vs : List Value) (o : Nat) (a w : World), Keeps S a w → Keeps S a (w.setCells b o vs)
  | [], _, _, _, h => h
  | v :: r, o, a, w, h => by
    rw [World.setCells]
    exact Keeps.setCells hb r (o + 1) a _ (h.setCell (p := ⟨b, o, none⟩) hb v)

theorem step_shift {P : Program} {ops : Array Oper} {o : Oper} {a : Act} {w : World} {K : Act → World → Prop} {Q : Exit → Act → World → Prop} {E : Prop} (hgd : o.guard = none) (d s : Operand) (dT : TypeId)
    (ho : o.op = .call { callee := .builtin .copy, args := #[d, s], argTypes := #[dT, dT] }) (elem : TypeId) (hu : P.underlying dT = some (.slice elem)) (hsz : (P.info? elem).map (·.size) = some 1)
    (dp sp : Option Addr) (n dCap sCap : Nat) (hd : a.eval d = .slice dp n dCap) (hs : a.eval s = .slice sp n sCap)
    (g : Nat) (G : Nat → Int) (hg : RowAt w g (n + 1) G)
    (hpos : 0 < n → dp = some ⟨g, 1, none⟩ ∧ sp = some ⟨g, 0, none⟩)
    (h : ∀ w', RowAt w' g (n + 1) (fun x => if x = 0 then G 0 else G (x - 1)) → Keeps [g] w w' → K (a.put o.dst (goInt n)) w') :
    if Region.wanted o (yielded ops a.tmps) = true then Oper.wp P o a w K Q else E := by
  have hw : Region.wanted o (yielded ops a.tmps) = true := by simp [Region.wanted, hgd]
  rw [if_pos hw]
  by_cases h0 : n = 0
  · subst h0
    have hrun := run_copy_none (P := P) w dT dT o.type elem dp sp 0 dCap 0 sCap hu hsz (by simp)
    unfold Oper.wp
    simp [execOp, ho, resolve, invoke, builtin, hd, hs, hrun, Result.andThen]
    refine h w (hg.congr (fun x hx => ?_)) (Keeps.refl _ _)
    rw [if_pos (by omega), show x = 0 by omega]
  · obtain ⟨rfl, rfl⟩ := hpos (by omega)
    obtain ⟨cs, hcs⟩ : ∃ cs : List Value, cs = (List.range n).map (fun j => Value.int .i64 (G j)) := ⟨_, rfl⟩
    have hl : cs.length = n := by simp [hcs]
    have hat : ∀ j v, cs[j]? = some v → j < n ∧ v = .int .i64 (G j) := by
      intro j v hv
      rw [hcs] at hv
      by_cases hj : j < n
      · simp [hj] at hv
        exact ⟨hj, hv.symm⟩
      · simp [hj] at hv
    have hrun := run_copy_cells (P := P) w dT dT o.type elem g 1 n dCap ⟨g, 0, none⟩ n sCap cs hu hsz (by simp [hl])
      (fun j v hv => by
        obtain ⟨h1, rfl⟩ := hat j v hv
        rw [Addr.add_lit, Nat.zero_add]
        exact (hg j (by omega)).1)
      (fun j hj => by rw [(hg (1 + j) (by omega)).1]; rfl) (fun j hj => (hg (1 + j) (by omega)).2)
      (fun v hv => by
        rw [hcs] at hv
        obtain ⟨j, _, rfl⟩ := List.mem_map.1 hv
        rfl)
    have hK := h (w.setCells g 1 cs) (fun x hx => by
        obtain ⟨g1, g2⟩ := hg x hx
        refine ⟨?_, by rw [World.frozen?_setCells]; exact g2⟩
        by_cases e : x = 0
        · subst e
          rw [World.cell?_setCells_out g cs 1 w _ (fun _ _ => Or.inl (by simp))]
          exact g1
        · have := World.cell?_setCells_in g cs 1 w (fun j hj => by rw [(hg (1 + j) (by omega)).1]; rfl) (x - 1) (by omega)
          rw [show 1 + (x - 1) = x by omega] at this
          rw [this]
          simp [hcs, e]) (Keeps.setCells (by simp) cs 1 w w (Keeps.refl _ _))
    rw [hl] at hrun
    unfold Oper.wp
    simp [execOp, ho, resolve, invoke, builtin, hd, hs, hrun, Result.andThen]
    exact hK

end Go.Proofs.Qxb6601966a
