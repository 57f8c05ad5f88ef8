/-
  The reference's op as the function spOp: the parts joined. Conditions: those of sop_of. Printed by gen_sop.py.
  The premise on the reference's op, paid. No condition.
-/
import Derived.Test.YtjbmphfgckhaeaaDoorGc
import Derived.Test.YtjbmphfgckhaeaaDoorXf5
import Derived.Test.YtjbmphfgckhaeaaDoorXf6
import Derived.Test.YtjbmphfgckhaeaaDoorXf9
import Derived.Test.YtjbmphfgckhaeaaDoorXfa
import Derived.Test.YtjbmphfgckhaeaaDoorGe
namespace Go.Proofs.YtjbmphfgckhaeaaDoor
theorem sop_any (g : Nat) (t : ByteArray) (st : Nat) (nx first : Int) (w : World) (hb : Blk w g 60 (rCells t st nx first)) (hs : t.size ≤ 4096) (hst : st < t.size) (hn0 : 0 ≤ nx) (hn1 : nx ≤ 100000000) (hf0 : 0 ≤ first) (hf1 : first ≤ 1000000) (hG : G w) (hg4 : 4 ≤ g) :
    Calls Tryd.prog 20 #[.pointer (some ⟨g, 0, none⟩)] w (SpP g t first (spOp t.data.toList first st nx) w) :=
  sop_of (sop41 (sop42 (sop5 (sop6 (sop7 (sop8 (sop9 sop10))))))) g t st nx first w hb hs hst hn0 hn1 hf0 hf1 hG hg4
end Go.Proofs.YtjbmphfgckhaeaaDoor
namespace Go.Proofs.YtjbmphfgckhaeaaDoor
theorem sop_premise : SopAny := fun g t st nx first w h1 h2 h3 h4 h5 h6 h7 h8 h9 => sop_any g t st nx first w h1 h2 h3 h4 h5 h6 h7 h8 h9
end Go.Proofs.YtjbmphfgckhaeaaDoor
