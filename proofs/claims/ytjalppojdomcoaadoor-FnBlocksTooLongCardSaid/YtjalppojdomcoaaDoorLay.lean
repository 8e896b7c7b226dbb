/- A world in which the errors are as start-up lays them: a witness for the rows. No condition. -/
import Derived.Test.YtjalppojdomcoaaDoorCards
import Derived.Test.YtjalppojdomcoaaDoorTie
import Derived.WalkKit
import Derived.ProofKit
import Derived.OpenShut
import Derived.Deep.DeepHandedRow
import Derived.Deep.DeepWitnessRowRef
import Derived.Lib.LaidIn
import Derived.Lib.LaidTab
set_option maxRecDepth 100000
namespace Go.HE
open Go.RowKit Go.Proofs Go.Proofs.YtjalppojdomcoaaDoor

theorem own' : ownKnob Tryd.prog.godebug = none := by kernel_rfl

noncomputable def laidWorld (os : Os) : World :=
  let N := (World.settled Tryd.prog os).heap.size
  let w0 := World.holding Tryd.prog os ⟨#[.cells #[.string ⟨#[69, 79, 70]⟩] 117, .cells #[.string ⟨#[109, 117, 108, 116, 105, 112, 108, 101, 32, 82, 101, 97, 100, 32, 99, 97, 108, 108, 115, 32, 114, 101, 116, 117, 114, 110, 32, 110, 111, 32, 100, 97, 116, 97, 32, 111, 114, 32, 101, 114, 114, 111, 114]⟩] 117, .cells #[.string ⟨#[98, 117, 102, 105, 111, 46, 83, 99, 97, 110, 110, 101, 114, 58, 32, 116, 111, 107, 101, 110, 32, 116, 111, 111, 32, 108, 111, 110, 103]⟩] 117, .cells #[.string ⟨#[98, 117, 102, 105, 111, 46, 83, 99, 97, 110, 110, 101, 114, 58, 32, 83, 112, 108, 105, 116, 70, 117, 110, 99, 32, 114, 101, 116, 117, 114, 110, 115, 32, 110, 101, 103, 97, 116, 105, 118, 101, 32, 97, 100, 118, 97, 110, 99, 101, 32, 99, 111, 117, 110, 116]⟩] 117, .cells #[.string ⟨#[98, 117, 102, 105, 111, 46, 83, 99, 97, 110, 110, 101, 114, 58, 32, 83, 112, 108, 105, 116, 70, 117, 110, 99, 32, 114, 101, 116, 117, 114, 110, 115, 32, 97, 100, 118, 97, 110, 99, 101, 32, 99, 111, 117, 110, 116, 32, 98, 101, 121, 111, 110, 100, 32, 105, 110, 112, 117, 116]⟩] 117, .cells #[.string ⟨#[98, 117, 102, 105, 111, 46, 83, 99, 97, 110, 110, 101, 114, 58, 32, 82, 101, 97, 100, 32, 114, 101, 116, 117, 114, 110, 101, 100, 32, 105, 109, 112, 111, 115, 115, 105, 98, 108, 101, 32, 99, 111, 117, 110, 116]⟩] 117, .cells #[.string ⟨#[102, 105, 110, 97, 108, 32, 116, 111, 107, 101, 110]⟩] 117, .cells #[.string ⟨#[115, 112, 108, 105, 116]⟩] 117, .cells #[.string ⟨#[114, 101, 97, 100]⟩] 117], #[], []⟩
  let put (h : Array Obj) (g : Nat) (k : Nat) : Array Obj := h.modify g fun
    | .cells _ t frozen => .cells #[.iface 92 (.pointer (some ⟨N + k, 0, none⟩))] t frozen
    | o => o
  let h0 := put w0.heap 8 0
  let h1 := put h0 7 1
  let h2 := put h1 0 2
  let h3 := put h2 1 3
  let h4 := put h3 2 4
  let h5 := put h4 6 5
  let h6 := put h5 5 6
  let h7 := put h6 3 7
  let h8 := put h7 4 8
  { w0 with heap := h8 }
end Go.HE
