/- A region's walk may go over to a stronger condition on its way. -/
import Derived.Test.YtokbkbchblfcoaaBase
import Derived.Deep.RegionHeld3
namespace Go.Proofs.Ytokbkbchblfcoaa
open Go.RowKit

theorem wpAnyH_mono {P : Program} {md : Region.Mode} {ops : Array Oper} {Q : Exit → Act → World → Prop} {S S' : World → Prop} (h : ∀ w, S' w → S w) : ∀ (fuel : Nat) (listed : Array Bool) (a : Act) (w : World),
    wpAnyH P md ops Q S' fuel listed a w → wpAnyH P md ops Q S fuel listed a w
  | 0, _, _, _, hh => hh
  | fuel + 1, _, _, _, hh => ⟨hh.1, fun i hi => wpOp_mono (fun a' w' h' => ⟨h _ h'.1, wpAnyH_mono h fuel _ a' w' h'.2⟩) (hh.2 i hi)⟩
end Go.Proofs.Ytokbkbchblfcoaa
