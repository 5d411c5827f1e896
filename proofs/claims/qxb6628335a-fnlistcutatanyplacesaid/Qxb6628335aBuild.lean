/-
  strings.Builder at this program: WriteString's contract under a short name.
-/
import Derived.Test.Qxb6628335aShelf
import Derived.Lib.Builder
import Derived.Lib.AppendStr
import Derived.WalkKit
import Derived.WalkSpells
import Derived.WalkLawsBesides
namespace Go.Proofs.Qxb6628335a
open Go.RowKit

theorem Try.info5 : (Try.prog.info? 5).map (fun i => (i.zero, i.size, i.bytes)) = some (some (.int .u8 0), 1, 1) := by kernel_rfl

theorem write_any (B b : Nat) (bs : List Value) (s : ByteArray) (w : World) (h : Lib.IsBuilder 28 5 B b bs w) (hlen : bs.length + s.size ≤ 140737488355328) (hBw : B ≤ w.heap.size) :
    Calls Try.prog 6 #[.pointer (some ⟨b, 0, none⟩), .string s] w fun e w' => e = .returned (.tuple #[.int .i64 s.size, .nilIface]) ∧ (Lib.BuilderAt 28 5 B b (.pointer (some ⟨b, 0, none⟩)) (bs ++ Lib.strCells s) w' ∧ Below B w w') :=
  Try.Builder_WriteString B b bs s w h hlen hBw

end Go.Proofs.Qxb6628335a
