/- FnListStyleTypeInternsNames: the cases joined. -/
import Derived.Test.YtdlaponmnepciaaDoorLf
import Derived.Test.YtdlaponmnepciaaDoorLg
namespace Go.Proofs.YtdlaponmnepciaaDoor.WA
open Go Go.RowKit Go.Lib
theorem law4 (a b : ByteArray) (ml : Bool) (w : World) (ha : a.size ≤ maxLen) (hb : b.size ≤ maxLen) (hT : Tabs w) :
    Calls Tryd.prog 4 #[.string a, .string b, .bool ml] w (Yes w) :=
  law4_of a b ml w ha hb hT (Lib.hid fun h1 h2 h3 hca hcb => by
    have H5 := Lib.hid (bytes14 a b ml w ha hb)
    by_cases hab : a = b
    · exact law4_eq a b ml w (Lib.hid hT) H5 h1 h2 h3 hca hcb hab
    · exact law4_ne a b ml w (Lib.hid hT) H5 h1 h2 h3 hca hcb hab)
end Go.Proofs.YtdlaponmnepciaaDoor.WA
