/-
  The contract of base32's Encode, all lengths joined: what lies at the beginning of dst behind the call is the text of src; nothing else has turned. Conditions: dst is long enough, and lies apart from src.
-/
import Derived.Test.YtidpibcopldfpaaE32r0
import Derived.Test.YtidpibcopldfpaaE32r1
import Derived.Test.YtidpibcopldfpaaE32r2
import Derived.Test.YtidpibcopldfpaaE32r3
import Derived.Test.YtidpibcopldfpaaE32r4
namespace Go.Proofs.Ytidpibcopldfpaa
open Go.RowKit

theorem encode32_any (ge g o m mc c : Nat) (t : TypeId) (a : List UInt8) (p : Int) (D A : Option Addr) (l : List UInt8) (cur : List Value) (w : World)
    (he : Blk w ge 51 (encTo a 32 [.int .i32 p])) (hz : a.length = 32) (hp1 : -1 ≤ p) (hp2 : p ≤ 255) (hne : ge ≠ g)
    (hb : Blk w g t cur) (hD : 0 < m → D = some ⟨g, o, none⟩) (hfit : o + m ≤ cur.length) (hroom : lenN 5 p l.length ≤ m) (hmc : m ≤ mc) (hmx : mc ≤ maxLen)
    (hs : Rd w g A l) (hc : l.length ≤ c) (hcx : c ≤ maxLen) :
    Calls Try.prog 28 #[.pointer (some ⟨ge, 0, none⟩), .slice D m mc, .slice A l.length c] w fun e w' => e = .returned (.tuple #[]) ∧ Blk w' g t (splice cur o (Lib.byteCells (textOf 5 a p l))) ∧ w.grownBy w' (some g) := by
  rcases (by omega : l.length % 5 = 0 ∨ l.length % 5 = 1 ∨ l.length % 5 = 2 ∨ l.length % 5 = 3 ∨ l.length % 5 = 4) with h | h | h | h | h
  · exact encode32_r0 ge g o m mc c t a p D A l cur w he hz hp1 hp2 hne hb hD hfit hroom hmc hmx hs hc hcx h
  · exact encode32_r1 ge g o m mc c t a p D A l cur w he hz hp1 hp2 hne hb hD hfit hroom hmc hmx hs hc hcx h
  · exact encode32_r2 ge g o m mc c t a p D A l cur w he hz hp1 hp2 hne hb hD hfit hroom hmc hmx hs hc hcx h
  · exact encode32_r3 ge g o m mc c t a p D A l cur w he hz hp1 hp2 hne hb hD hfit hroom hmc hmx hs hc hcx h
  · exact encode32_r4 ge g o m mc c t a p D A l cur w he hz hp1 hp2 hne hb hD hfit hroom hmc hmx hs hc hcx h

end Go.Proofs.Ytidpibcopldfpaa
