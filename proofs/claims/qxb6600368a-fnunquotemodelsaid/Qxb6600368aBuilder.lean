import Derived.Test.Qxb6600368aShelf
import Derived.Test.Qxb6600368aPlain
import Derived.WalkKit
import Derived.WalkSpells
namespace Go.Proofs.Qxb6600368a
open Go.RowKit

theorem hide {p : Prop} (h : p) : Hid p := h
theorem unhide {p : Prop} (h : Hid p) : p := h

theorem Try.info5 : (Try.prog.info? 5).map (fun i => (i.zero, i.size, i.bytes)) = some (some (.int .u8 0), 1, 1) := by kernel_rfl

theorem writeByte_any (B b : Nat) (bs : List Value) (c : Int) (w : World) (h : Lib.IsBuilder 35 5 B b bs w) (hlen : bs.length + 1 ≤ 140737488355328) (hBw : B ≤ w.heap.size) :
    Calls Try.prog 29 #[.pointer (some ⟨b, 0, none⟩), .int .u8 c] w fun e w' => e = .returned .nilIface ∧ (Lib.BuilderAt 35 5 B b (.pointer (some ⟨b, 0, none⟩)) (bs ++ [.int .u8 c]) w' ∧ Below B w w') :=
  Try.Builder_WriteByte B b bs c w h hlen hBw
end Go.Proofs.Qxb6600368a
