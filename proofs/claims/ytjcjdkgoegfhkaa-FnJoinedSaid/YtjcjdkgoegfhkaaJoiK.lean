/- The walk of FnJoined, whole: it returns true and leaves all that lay in memory as it was. Conditions: the arguments fit into memory. -/
import Derived.Test.YtjcjdkgoegfhkaaJoiJ
import Derived.Test.YtjcjdkgoegfhkaaKnoA
namespace Go.Proofs.Ytjcjdkgoegfhkaa.Joi
open Go.RowKit Seg

theorem joined_whole (w : World) (a : Option Addr) (c : Nat) (ms : List ByteArray) (s : ByteArray) (hA : Par.SArg w a ms) (hr : ms.length ≤ 8796093022207) (hs : s.size ≤ 140737488351232) :
    Calls Try.prog 6 #[.slice a ms.length c, .string s] w fun e w' => e = .returned (.bool true) ∧ Below w.heap.size w w' :=
  joined_law w a c ms s hA hr hs (fun x w h => known_any x w h)

end Go.Proofs.Ytjcjdkgoegfhkaa.Joi
