/-
  The entry Slice at bytes, its address named. No condition but those in each statement.
-/
import Derived.Test.YtjdnfgpnfmgcmaaFmtSl
namespace Go.Proofs.YtjdnfgpnfmgcmaaFmt
open Go.RowKit

theorem sl_byts_at (ad a : Addr) (i j : Int) (b o n c : Nat) (w : World) (had : Hid (ad = Addr.add ⟨b, o, none⟩ (if 0 < c - i.toNat then i.toNat else 0))) (h : w.cell? a = some (.slice (some ⟨b, o, none⟩) n c)) (h1 : 0 ≤ i) (h2 : i ≤ j) (h3 : j ≤ c) :
    (callFunc 20 #[rv 35 a 151, .int .i64 i, .int .i64 j]).run Tryf.prog w = .ok (.value (rv 35 ⟨w.heap.size, 0, none⟩ 151)) (w.alloc (.cells #[.slice (some ad) (j - i).toNat (c - i.toNat)] 35)) := by
  rw [had.out]
  exact sl_byts a i j b o n c w h h1 h2 h3

end Go.Proofs.YtjdnfgpnfmgcmaaFmt
