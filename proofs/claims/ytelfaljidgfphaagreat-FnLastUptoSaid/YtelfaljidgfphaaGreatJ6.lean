/-
  The walk of package impl's Graph.
-/
import Derived.Test.YtelfaljidgfphaaGreatJ5
namespace Go.Proofs.YtelfaljidgfphaaGreat
open Go.RowKit

set_option maxRecDepth 100000 in
theorem implGraph_any (w : World) (ok : Nat → Prop) (A : Option Addr) (c : Nat) (p : List It) (hp : Its w ok (.slice A p.length c) p) (hk : KOk p) (hr : ROk p) (hl : p.length ≤ 2097152) (hw : wt p ≤ 4194304) :
    Calls Tryz.prog 39 #[.slice A p.length c] w (PGraphL w p) := by
  go_enter Tryz.func39, Tryz.ntmps39
  go_wp2_with (first
    | (go_at_call 53; refine (Graph_any w1 (fun _ => True) A1 c1 p hn1 hk hr hl hw).mono ?_; rintro e w2 ⟨v2, lg, fs, ks, rfl, hg2, h2⟩)
    | (go_at_call 54; refine (nodes_any w ok A c p hp hk hl).mono ?_; rintro e w1 ⟨v1, rfl, hn1, hg1⟩; replace hn1 := hn1.nds; obtain ⟨A1, c1, hv⟩ := hn1.val; rw [nodesOf_length] at hv; subst hv))
  go_ret
  exact ⟨_, lg, fs, ks, rfl, hg1.trans hg2, h2⟩
end Go.Proofs.YtelfaljidgfphaaGreat
