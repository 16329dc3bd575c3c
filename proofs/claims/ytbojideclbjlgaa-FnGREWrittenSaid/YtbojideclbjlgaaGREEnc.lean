/-
  A header of routing encapsulation as bytes.
-/
import Derived.Test.YtbojideclbjlgaaLib3
import Derived.Test.YtbojideclbjlgaaLib2
import Derived.Test.YtbojideclbjlgaaBase
import Derived.Deep.RegionHeld3
import Derived.Deep.RegionWith
namespace Go.Proofs.Ytbojideclbjlgaa
open Go.RowKit

/-- more bytes, if they are there -/
def ap (f : Bool) (l m : List Int) : List Int := match f with | true => l ++ m | false => l
def gsum (f : Bool) (l : List Int) (x : Int) : List Int := match f with | true => [l, sh x, sh 0].flatten | false => l
def gre (ve pr : Int) (s k q a : Bool) (su ky sq ak : Int) : List Int := ap a (ap q (ap k (gsum s [sh (bi s * 32768 + bi k * 8192 + bi q * 4096 + bi a * 128 + ve), sh pr].flatten su) (lo ky)) (lo sq)) (lo ak)

end Go.Proofs.Ytbojideclbjlgaa
