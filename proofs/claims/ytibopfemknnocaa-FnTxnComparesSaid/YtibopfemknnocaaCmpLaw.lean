import Derived.Test.YtibopfemknnocaaCmpKv
import Derived.RegionTactic
import Derived.Deep.CutBlock
namespace Go.Proofs.Ytibopfemknnocaa.CmpLaw
open Go.RowKit Go.Lib Go.Proofs.Ytibopfemknnocaa.Open Go.Proofs.Ytibopfemknnocaa.Kept Go.Proofs.Ytibopfemknnocaa.Cmp Go.Proofs.Ytibopfemknnocaa.CmpIn Go.Proofs.Ytibopfemknnocaa.CmpKv

def cells7 (t r : Int) (k e : ByteArray) (n : Int) (x : ByteArray) : Array Value := #[.int .i64 t, .int .i64 r, .string k, .string e, .int .i64 n, .string x, .bool false]
def cells6 (key val : ByteArray) (cr md ver ls : Int) : Array Value := #[.string key, .string val, .int .i64 cr, .int .i64 md, .int .i64 ver, .int .i64 ls]
/-- what holds of the answers behind k rounds -/
def arr (A : Int → Bool) (k : Nat) : Array Value := #[.bool (decide (0 < k) && A 0), .bool (decide (1 < k) && A 1), .bool (decide (2 < k) && A 2), .bool (decide (3 < k) && A 3)]
def b2i (b : Bool) : Int := if b then 1 else 0
def cnt (A : Int → Bool) (k : Nat) : Int := (if 0 < k then b2i (A 0) else 0) + (if 1 < k then b2i (A 1) else 0) + (if 2 < k then b2i (A 2) else 0)

/-- what the round starts from -/
structure Inv (w : World) (ab : Nat) (A : Int → Bool) (t r : Int) (k e : ByteArray) (n : Int) (x key val : ByteArray) (cr md ver ls : Int) (i : Nat) (wr : World) : Prop where
  below : Below w.heap.size w wr
  c : ∃ r', wr.heap[w.heap.size]? = some (.cells (cells7 t r' k e n x) 38 (0, 0))
  kv : wr.heap[w.heap.size + 1]? = some (.cells (cells6 key val cr md ver ls) 34 (0, 0))
  is : wr.heap[ab]? = some (.cells (arr A i) 41 (0, 0))

set_option maxRecDepth 100000 in
set_option maxHeartbeats 4000000 in
theorem loop_part (w w1 : World) (t r n : Int) (k e x key val : ByteArray) (cr md ver ls : Int) (A : Int → Bool) : True := trivial

end Go.Proofs.Ytibopfemknnocaa.CmpLaw
