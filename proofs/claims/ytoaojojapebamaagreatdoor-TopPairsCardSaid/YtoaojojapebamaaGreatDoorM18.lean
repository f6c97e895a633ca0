/- PLAIN: wansung: which syllables are in the rows: digits, masks, counts; walks of wansung: mask; the index of a constant text; walks of wansung and math/bits: OnesCount32, TrailingZeros32, before, nth -/
import Derived.Lib.TrailingZeros
import Derived.Test.YtoaojojapebamaaGreatDoorM16
import Derived.Test.YtoaojojapebamaaGreatDoorM17
import Derived.Shelf.Spec.TrailingZeros
namespace Go.Proofs.Dia

def mem : List UInt8 := [101, 102, 102, 48, 55, 57, 51, 48, 51, 98, 48, 49, 49, 51, 48, 50, 56, 48, 49, 49, 51, 48, 48, 48, 48, 49, 49, 49, 101, 55, 98, 48, 53, 57, 51, 48, 51, 98, 48, 49, 49, 49, 50, 51, 98, 48, 49, 57, 55, 48, 48, 97, 48, 49, 49, 49, 48, 54, 98, 57, 53, 57, 51, 48, 50, 98, 48, 53, 49, 51, 48, 51, 50, 48, 49, 49, 49, 48, 50, 98, 48, 49, 49, 51, 48, 48, 97, 48, 49, 49, 49, 48, 54, 98, 56, 55, 57, 51, 48, 51, 48, 48, 49, 49, 51, 48, 48, 56, 48, 48, 48, 49, 48, 48, 98, 48, 49, 49, 51, 48, 48, 48, 48, 49, 49, 49, 48, 50, 98, 48, 51, 57, 51, 48, 48, 48, 48, 48, 48, 49, 52, 54, 98, 48, 53, 57, 51, 50, 51, 98, 48, 53, 49, 55, 48, 51, 98, 48, 49, 49, 51, 48, 48, 48, 48, 49, 48, 51, 48, 48, 48, 48, 48, 48, 48, 48, 51, 98, 48, 49, 49, 55, 48, 50, 57, 48, 48, 49, 51, 50, 49, 56, 48, 49, 49, 49, 48, 48, 48, 48, 48, 48, 49, 48, 101, 98, 48, 49, 53, 51, 48, 51, 48, 48, 49, 48, 51, 48, 50, 48, 48, 48, 48, 51, 48, 50, 51, 48, 49, 49, 49, 48, 48, 48, 48, 48, 48, 49, 48, 54, 98, 56, 49, 49, 51, 48, 51, 48, 48, 49, 48, 49, 48, 49, 51, 48, 49, 49, 51, 48, 48, 51, 48, 49, 49, 49, 48, 48, 48, 48, 48, 48, 49, 50, 50, 98, 56, 53, 53, 51, 48, 48, 48, 48, 48, 48, 48, 48, 50, 98, 48, 49, 49, 51, 97, 102, 98, 48, 55, 57, 55, 48, 51, 98, 48, 49, 49, 51, 48, 50, 49, 48, 49, 49, 51, 48, 48, 48, 48, 48, 48, 48, 56, 51, 98, 48, 100, 49, 98, 48, 51, 98, 48, 49, 49, 51, 49, 51, 51, 48, 49, 49, 51, 48, 48, 48, 48, 48, 49, 49, 99, 50, 98, 48, 53, 49, 51, 48, 49, 48, 48, 49, 49, 49, 48, 48, 48, 48, 48, 48, 48, 48, 48, 98, 48, 49, 49, 49, 48, 50, 97, 48, 49, 49, 51, 48, 50, 98, 48, 49, 57, 51, 48, 49, 48, 48, 48, 48, 49, 48, 48, 48, 48, 48, 48, 49, 48, 48, 51, 48, 49, 49, 49, 48, 50, 51, 48, 49, 48, 51, 52, 54, 98, 48, 55, 49, 51, 48, 48, 48, 48, 49, 49, 49, 52, 50, 98, 48, 53, 49, 51, 56, 102, 98, 56, 102, 57, 55, 48, 51, 98, 48, 49, 49, 51, 48, 48, 48, 48, 48, 48, 49, 48, 48, 48, 48, 48, 48, 48, 52, 97, 98, 48, 100, 57, 55, 48, 51, 98, 48, 49, 49, 51, 48, 51, 48, 48, 49, 49, 49, 48, 48, 48, 48, 48, 49, 49, 50, 97, 98, 49, 53, 57, 51, 48, 48, 48, 48, 49, 49, 49, 48, 49, 48, 48, 48, 48, 49, 48, 48, 98, 48, 49, 49, 49, 48, 48, 48, 48, 48, 48, 49, 48, 50, 98, 48, 49, 49, 51, 48, 49, 48, 48, 48, 48, 49, 48, 50, 48, 48, 48, 48, 49, 48, 50, 97, 48, 49, 49, 49, 48, 50, 49, 48, 49, 49, 49, 48, 50, 98, 48, 53, 57, 51, 48, 48, 48, 48, 48, 48, 49, 48, 55, 98, 48, 49, 57, 51, 56, 51, 98, 48, 49, 49, 51, 48, 51, 98, 48, 49, 49, 51, 48, 48, 48, 48, 48, 48, 48, 48, 48, 48, 48, 48, 48, 48, 56, 51, 98, 48, 100, 49, 51, 48, 51, 98, 48, 49, 49, 51, 48, 49, 48, 48, 48, 48, 49, 48, 48, 48, 48, 48, 48, 48, 48, 50, 48, 48, 49, 49, 51, 48, 48, 48, 48, 49, 48, 49, 48, 48, 48, 48, 48, 48, 49, 48, 48, 48, 48, 48, 49, 49, 48, 48, 48, 48, 48, 48, 48, 48, 50, 49, 56, 49, 49, 51, 48, 48, 48, 48, 48, 48, 48, 48, 48, 48, 48, 48, 48, 49, 48, 50, 51, 48, 49, 49, 49, 48, 48, 48, 48, 48, 48, 48, 48, 48, 98, 48, 49, 57, 51, 48, 48, 51, 48, 49, 49, 49, 48, 50, 98, 48, 49, 49, 49, 99, 55, 98, 48, 49, 49, 51, 48, 51, 98, 48, 49, 49, 51, 48, 50, 56, 48, 48, 49, 51, 48, 48, 48, 48, 48, 48, 48, 56, 51, 98, 48, 49, 49, 51, 48, 50, 98, 48, 49, 49, 51, 48, 51, 98, 48, 49, 49, 51, 48, 48, 97, 48, 48, 49, 49, 48, 50, 98, 48, 49, 49, 51, 48, 50, 48, 48, 48, 49, 49, 48, 49, 48, 48, 48, 48, 48, 48, 50, 98, 48, 49, 49, 49, 48, 50, 97, 48, 49, 49, 49, 48, 50, 98, 48, 49, 49, 51, 48, 49, 48, 48, 48, 48, 49, 48, 48, 48, 48, 48, 48, 49, 48, 50, 57, 48, 49, 49, 51, 48, 50, 98, 48, 49, 49, 51, 54, 54, 98, 48, 49, 49, 51, 48, 48, 48, 48, 48, 48, 48, 48, 50, 98, 48, 49, 49, 51, 97, 54, 98, 48, 55, 100, 51, 48, 55, 98, 48, 49, 49, 51, 48, 50, 48, 48, 49, 48, 51, 48, 48, 48, 48, 48, 48, 48, 56, 54, 98, 48, 53, 49, 51, 48, 51, 98, 48, 49, 49, 51, 48, 98, 56, 48, 49, 49, 51, 48, 48, 48, 48, 48, 48, 49, 48, 50, 98, 48, 53, 49, 98, 48, 51, 48, 48, 48, 49, 49, 48, 48, 48, 48, 48, 48, 48, 48, 50, 97, 48, 49, 49, 49, 48, 48, 97, 48, 49, 49, 49, 97, 50, 98, 48, 55, 57, 55, 48, 48, 97, 48, 49, 49, 49, 48, 48, 48, 48, 48, 48, 49, 48, 48, 48, 48, 49, 49, 49, 48, 48, 57, 48, 49, 49, 49, 48, 48, 57, 48, 49, 49, 49, 48, 48, 48, 48, 48, 48, 48, 50, 98, 98, 48, 53, 57, 51, 50, 50, 98, 48, 102, 57, 102, 50, 51, 98, 48, 49, 49, 51, 48, 48, 50, 48, 48, 49, 51, 48, 48, 48, 48, 48, 48, 48, 48, 54, 98, 48, 53, 57, 51, 48, 51, 98, 48, 49, 57, 51, 50, 51, 97, 48, 49, 49, 51, 48, 48, 48, 48, 48, 49, 49, 48, 50, 98, 48, 49, 49, 55, 48, 49, 48, 48, 48, 49, 49, 48, 49, 48, 48, 48, 48, 49, 48, 48, 51, 48, 49, 49, 51, 48, 48, 48, 48, 48, 49, 49, 54, 50, 98, 48, 55, 57, 51, 48, 49, 48, 48, 49, 48, 49, 48, 48, 48, 48, 48, 48, 49, 48, 50, 48, 48, 49, 49, 51, 48, 50, 57, 48, 49, 49, 49, 48, 48, 98, 48, 49, 49, 51, 48, 48, 48, 48, 48, 48, 48, 48, 101, 98, 48, 53, 49, 51, 56, 51, 98, 48, 53, 49, 51, 48, 51, 98, 48, 49, 49, 51, 48, 48, 49, 48, 48, 48, 51, 48, 48, 48, 48, 48, 48, 48, 48, 51, 57, 48, 49, 57, 51, 48, 50, 48, 48, 48, 48, 49, 48, 51, 98, 48, 48, 48, 51, 48, 48, 48, 48, 48, 48, 48, 48, 50, 51, 48, 49, 49, 51, 48, 48, 48, 48, 48, 48, 48, 48, 48, 48, 48, 48, 48, 48, 48, 48, 48, 48, 48, 48, 49, 48, 50, 48, 48, 48, 48, 49, 48, 50, 57, 48, 49, 49, 51, 48, 48, 48, 48, 48, 48, 48, 48, 48, 48, 48, 48, 48, 48, 48, 48, 48, 48, 48, 48, 48, 48, 50, 48, 48, 48, 48, 49, 48, 48, 51, 48, 49, 49, 49, 48, 48, 48, 48, 48, 48, 48, 48, 50, 98, 48, 49, 49, 51, 50, 51, 98, 48, 55, 57, 98, 48, 51, 98, 48, 49, 49, 51, 48, 50, 98, 48, 49, 49, 51, 48, 50, 49, 48, 49, 49, 49, 52, 51, 98, 48, 100, 57, 102, 48, 51, 98, 48, 49, 49, 51, 48, 51, 98, 48, 49, 49, 51, 48, 50, 48, 48, 49, 49, 49, 50, 50, 98, 48, 53, 49, 55, 48, 50, 48, 48, 49, 49, 51, 48, 49, 57, 48, 49, 49, 49, 48, 48, 98, 48, 49, 49, 49, 48, 50, 98, 48, 49, 49, 51, 54, 97, 98, 48, 49, 57, 51, 48, 49, 48, 48, 48, 48, 49, 48, 50, 49, 48, 49, 49, 51, 48, 50, 98, 48, 49, 49, 51, 48, 50, 57, 48, 49, 48, 51, 48, 50, 98, 48, 51, 49, 51, 48, 48, 48, 48, 48, 48, 48, 52, 50, 98, 56, 49, 57, 51, 56, 51, 51, 48, 49, 49, 98, 48, 51, 51, 48, 49, 49, 51, 48, 50, 48, 48, 48, 48, 48, 48, 48, 48, 48, 48, 48, 48, 48, 51, 51, 48, 53, 49, 51, 48, 48, 48, 48, 49, 49, 49, 48, 48, 48, 48, 48, 48, 48, 48, 48, 48, 48, 48, 49, 48, 48, 50, 51, 48, 53, 57, 51, 48, 49, 48, 48, 48, 49, 51, 48, 49, 48, 48, 48, 48, 49, 48, 48, 51, 48, 49, 49, 49, 48, 48, 48, 48, 48, 48, 49, 48, 50, 51, 48, 49, 49, 51, 48, 49, 48, 48, 48, 48, 49, 48, 48, 48, 48, 48, 48, 49, 48, 48, 48, 48, 48, 49, 49, 48, 50, 48, 48, 48, 48, 48, 48, 48, 51, 56, 53, 49, 51, 48, 48, 49, 48, 49, 49, 49, 48, 50, 98, 48, 49, 49, 51, 54, 51, 98, 56, 55, 55, 51, 48, 51, 98, 48, 49, 49, 51, 97, 50, 98, 48, 57, 49, 51, 48, 48, 50, 48, 49, 49, 49, 53, 55, 102, 48, 55, 98, 51, 48, 50, 98, 48, 49, 49, 51, 101, 51, 102, 48, 100, 49, 55, 48, 49, 98, 48, 49, 49, 49, 48, 97, 98, 57, 55, 49, 51, 48, 51, 98, 48, 49, 49, 51, 48, 50, 57, 48, 48, 49, 51, 48, 50, 98, 48, 49, 49, 51, 48, 50, 98, 48, 49, 49, 51, 48, 50, 98, 48, 55, 49, 51, 48, 51, 51, 48, 49, 49, 51, 48, 50, 51, 48, 49, 49, 51, 48, 50, 98, 48, 49, 49, 51, 48, 97, 98, 48, 49, 49, 51, 102, 101, 98, 52, 49, 49, 51, 48, 48, 57, 48, 49, 49, 49, 52, 55, 98, 56, 55, 49, 51, 48, 55, 98, 48, 53, 100, 51, 48, 51, 98, 48, 49, 49, 51, 48, 50, 49, 48, 49, 53, 51, 48, 48, 48, 48, 49, 49, 49, 48, 54, 98, 48, 53, 49, 51, 48, 50, 98, 48, 49, 49, 51, 48, 51, 51, 48, 49, 49, 49, 48, 48, 48, 48, 48, 48, 49, 56, 101, 98, 48, 53, 49, 51, 48, 50, 97, 48, 49, 48, 51, 48, 51, 48, 48, 48, 48, 49, 48, 50, 98, 48, 49, 49, 49, 48, 50, 48, 48, 48, 49, 51, 48, 50, 98, 48, 55, 49, 51, 48, 49, 48, 48, 48, 48, 49, 48, 48, 48, 48, 48, 48, 49, 48, 48, 98, 48, 49, 49, 51, 48, 48, 49, 48, 49, 49, 49, 48, 50, 98, 48, 49, 49, 51, 48, 48, 48, 48, 48, 48, 48, 54, 54, 98, 48, 53, 57, 51, 48, 51, 98, 48, 57, 53, 51, 48, 51, 98, 48, 49, 49, 51, 48, 50, 48, 48, 48, 49, 49, 48, 48, 48, 48, 48, 48, 48, 48, 51, 98, 48, 49, 49, 51, 48, 50, 48, 48, 48, 48, 49, 48, 49, 48, 48, 48, 48, 49, 48, 48, 48, 48, 48, 48, 48, 48, 97, 98, 48, 49, 49, 51, 48, 49, 48, 48, 49, 48, 51, 48, 49, 48, 48, 48, 48, 49, 48, 48, 51, 48, 49, 49, 49, 48, 50, 48, 48, 48, 48, 48, 48, 50, 51, 48, 49, 49, 51, 48, 51, 48, 48, 48, 48, 49, 48, 48, 48, 48, 48, 48, 48, 48, 48, 48, 48, 48, 48, 49, 48, 48, 48, 48, 48, 48, 49, 48, 50, 57, 48, 48, 48, 49, 48, 48, 48, 48, 48, 48, 48, 56, 54, 51, 48, 49, 49, 51, 48, 55, 98, 48, 49, 53, 51, 48, 51, 98, 48, 49, 49, 51, 48, 50, 49, 48, 49, 53, 49, 48, 48, 48, 48, 48, 48, 48, 48, 51, 98, 48, 49, 49, 51, 48, 50, 98, 48, 49, 49, 51, 48, 49, 48, 48, 48, 49, 49, 48, 50, 48, 48, 48, 49, 49, 48, 50, 98, 48, 49, 49, 51, 48, 50, 48, 48, 49, 49, 49, 48, 48, 48, 48, 48, 48, 48, 48, 50, 98, 48, 49, 49, 49, 48, 48, 49, 48, 48, 48, 49, 48, 50, 98, 48, 49, 49, 51, 48, 49, 48, 48, 48, 48, 49, 48, 48, 48, 48, 48, 49, 49, 48, 50, 98, 48, 49, 49, 49, 48, 50, 49, 48, 49, 49, 49, 48, 50, 98, 48, 49, 49, 51, 48, 48, 48, 48, 48, 48, 48, 48, 50, 98, 48, 51, 57, 51, 48, 50, 98, 48, 49, 49, 51, 48, 51, 98, 48, 49, 49, 51, 48, 50, 48, 48, 48, 48, 51, 48, 48, 48, 48, 48, 48, 48, 48, 51, 98, 48, 49, 57, 51, 48, 50, 98, 48, 49, 49, 51, 48, 51, 98, 48, 49, 49, 49, 48, 48, 48, 48, 48, 48, 49, 48, 50, 98, 48, 49, 49, 51, 48, 50, 49, 48, 49, 49, 51, 48, 50, 48, 48, 48, 48, 49, 48, 48, 48, 48, 49, 48, 49, 48, 48, 48, 48, 48, 48, 49, 48, 50, 98, 48, 49, 49, 51, 48, 50, 48, 48, 49, 49, 49, 48, 50, 48, 48, 48, 48, 49, 48, 50, 98, 48, 49, 49, 51, 48, 48, 49, 48, 49, 49, 49, 48, 50, 51, 48, 49, 49, 51, 48, 48, 48, 48, 48, 48, 48, 48, 50, 98, 48, 49, 49, 51, 48, 51, 98, 48, 51, 49, 51, 48, 51, 98, 48, 49, 49, 51, 48, 50, 48, 48, 48, 48, 49, 48, 48, 48, 48, 48, 48, 48, 48, 51, 98, 48, 53, 49, 51, 48, 50, 98, 48, 49, 49, 51, 48, 49, 48, 48, 48, 49, 49, 48, 48, 48, 48, 48, 49, 49, 52, 50, 98, 48, 49, 49, 51, 48, 48, 48, 48, 48, 49, 49, 48, 48, 48, 48, 48, 48, 49, 48, 50, 56, 48, 48, 49, 49, 48, 48, 48, 48, 48, 48, 49, 48, 50, 98, 48, 49, 49, 51, 48, 49, 48, 48, 48, 48, 49, 48, 48, 48, 48, 48, 48, 49, 48, 50, 51, 48, 49, 49, 51, 48, 50, 49, 48, 49, 49, 49, 48, 48, 98, 48, 53, 57, 51, 48, 48, 51, 48, 49, 49, 49, 48, 50, 98, 48, 49, 49, 51, 50, 51, 98, 48, 53, 49, 55, 48, 51, 98, 48, 49, 49, 51, 48, 48, 48, 48, 48, 48, 51, 48, 48, 48, 48, 48, 48, 48, 48, 51, 98, 48, 49, 49, 51, 48, 50, 98, 48, 49, 49, 51, 48, 51, 51, 48, 49, 49, 49, 48, 48, 97, 48, 49, 48, 49, 48, 50, 98, 48, 49, 49, 51, 48, 50, 48, 48, 48, 48, 49, 48, 48, 48, 48, 48, 48, 48, 48, 48, 48, 48, 48, 49, 49, 48, 48, 97, 48, 49, 49, 49, 48, 50, 98, 48, 53, 57, 51, 48, 50, 48, 48, 48, 48, 49, 48, 48, 48, 48, 48, 48, 48, 48, 48, 57, 48, 49, 49, 49, 48, 50, 57, 48, 49, 49, 49, 48, 48, 98, 48, 49, 49, 49, 48, 48, 48, 48, 48, 48, 48, 48, 50, 98, 48, 49, 49, 51, 48, 50, 98, 50, 49, 49, 51, 48, 51, 98, 48, 49, 49, 51, 48, 50, 48, 48, 48, 48, 49, 48, 48, 48, 48, 48, 48, 48, 48, 50, 98, 48, 53, 49, 51, 48, 50, 98, 48, 49, 49, 51, 48, 51, 98, 48, 49, 49, 51, 48, 48, 50, 48, 49, 49, 49, 50, 50, 98, 50, 49, 49, 51, 48, 50, 56, 48, 49, 49, 51, 48, 50, 56, 48, 48, 49, 51, 48, 50, 97, 48, 49, 49, 51, 48, 48, 97, 48, 49, 49, 49, 48, 50, 57, 50, 49, 49, 51, 48, 50, 49, 48, 49, 49, 49, 48, 50, 48, 48, 49, 49, 51, 48, 50, 98, 48, 49, 49, 51, 48, 50, 57, 48, 49, 49, 51, 50, 50, 98, 48, 51, 100, 51, 48, 50, 51, 48, 49, 49, 49, 48, 50, 98, 48, 49, 49, 51]
set_option maxRecDepth 100000 in
theorem mem_len : mem.length = 2793 := by decide +kernel
set_option maxRecDepth 100000 in
theorem mem_hex : ∀ c ∈ mem, (48 ≤ c.toNat ∧ c.toNat ≤ 57) ∨ (97 ≤ c.toNat ∧ c.toNat ≤ 102) := by decide +kernel
def dig (c : UInt8) : Nat := if 97 ≤ c.toNat then c.toNat - 87 else c.toNat - 48
/-- a group's digits -/
def dg (g i : Nat) : Nat := dig (mem.getD (7 * g + i) 0)
theorem mem_at (k : Nat) (h : k < 2793) : mem.getD k 0 ∈ mem := by
  rw [List.getD_eq_getElem?_getD, List.getElem?_eq_getElem (by rw [mem_len]; exact h)]
  exact List.getElem_mem _
theorem dig_lt {c : UInt8} (h : (48 ≤ c.toNat ∧ c.toNat ≤ 57) ∨ (97 ≤ c.toNat ∧ c.toNat ≤ 102)) : dig c < 16 := by unfold dig; split <;> omega
theorem dg_lt (g i : Nat) (h : 7 * g + i < 2793) : dg g i < 16 := dig_lt (mem_hex _ (mem_at _ h))
/-- the first digits of a group, as a number -/
def maskK (g : Nat) : Nat → Nat
  | 0 => 0
  | k + 1 => maskK g k * 16 + dg g k
def maskN (g : Nat) : Nat := maskK g 7
theorem maskK_lt (g : Nat) : ∀ k, 7 * g + k ≤ 2793 → maskK g k < 16 ^ k
  | 0, _ => by simp [maskK]
  | k + 1, h => by
    have ih := maskK_lt g k (by omega)
    have hd := dg_lt g k (by omega)
    have e : 16 ^ (k + 1) = 16 ^ k * 16 := Nat.pow_succ ..
    unfold maskK
    omega
theorem maskN_lt (g : Nat) (h : g < 399) : maskN g < 2 ^ 28 := maskK_lt g 7 (by omega)
theorem maskK_bit (g : Nat) : ∀ k b, 7 * g + k ≤ 2793 → b < 4 * k → maskK g k / 2 ^ b % 2 = dg g (k - 1 - b / 4) / 2 ^ (b % 4) % 2
  | 0, b, _, h => by omega
  | k + 1, b, hk, h => by
    have hd := dg_lt g k (by omega)
    unfold maskK
    by_cases h4 : b < 4
    · have e1 : k + 1 - 1 - b / 4 = k := by omega
      have e2 : b % 4 = b := by omega
      rw [e1, e2]
      have hb : b = 0 ∨ b = 1 ∨ b = 2 ∨ b = 3 := by omega
      rcases hb with rfl | rfl | rfl | rfl <;> simp only [Nat.reducePow] <;> omega
    · obtain ⟨c, rfl⟩ : ∃ c, b = 4 + c := ⟨b - 4, by omega⟩
      have ih := maskK_bit g k c (by omega) (by omega)
      have e1 : k + 1 - 1 - (4 + c) / 4 = k - 1 - c / 4 := by omega
      have e2 : (4 + c) % 4 = c % 4 := by omega
      rw [e1, e2, ← ih, Nat.pow_add, ← Nat.div_div_eq_div_mul]
      have e3 : (maskK g k * 16 + dg g k) / 2 ^ 4 = maskK g k := by
        simp only [Nat.reducePow]; omega
      rw [e3]
/-- is the n-th syllable in the rows? -/
def inB (n : Nat) : Bool := decide (maskN (n / 28) / 2 ^ (n % 28) % 2 = 1)
theorem inB_digit (n : Nat) (h : n < 11172) : inB n = decide (dg (n / 28) (6 - n % 28 / 4) / 2 ^ (n % 28 % 4) % 2 = 1) := by
  unfold inB maskN
  rw [maskK_bit (n / 28) 7 (n % 28) (by omega) (by omega)]

/-- how many of the lowest bits are set -/
def cnt (m : Nat) : Nat → Nat
  | 0 => 0
  | j + 1 => cnt m j + m / 2 ^ j % 2
theorem cnt_add (m a : Nat) : ∀ b, cnt m (a + b) = cnt m a + cnt (m / 2 ^ a) b
  | 0 => rfl
  | b + 1 => by
    show cnt m (a + b) + m / 2 ^ (a + b) % 2 = cnt m a + (cnt (m / 2 ^ a) b + m / 2 ^ a / 2 ^ b % 2)
    rw [cnt_add m a b, Nat.pow_add, Nat.div_div_eq_div_mul, Nat.add_assoc]
theorem bit_mod (m a i : Nat) (h : i < a) : m % 2 ^ a / 2 ^ i % 2 = m / 2 ^ i % 2 := by
  obtain ⟨d, rfl⟩ : ∃ d, a = i + (d + 1) := ⟨a - i - 1, by omega⟩
  rw [Nat.pow_add, Nat.mod_mul_right_div_self]
  exact Nat.mod_mod_of_dvd _ (by rw [Nat.pow_succ]; exact Nat.dvd_mul_left ..)
theorem cnt_mod (m a : Nat) : ∀ j, j ≤ a → cnt (m % 2 ^ a) j = cnt m j
  | 0, _ => rfl
  | j + 1, h => by
    unfold cnt
    rw [cnt_mod m a j (by omega), bit_mod m a j (by omega)]
theorem cnt_nil : ∀ j, cnt 0 j = 0
  | 0 => rfl
  | j + 1 => by unfold cnt; rw [cnt_nil j]; simp
theorem cnt_le (m : Nat) : ∀ j, cnt m j ≤ j
  | 0 => Nat.le_refl _
  | j + 1 => by
    have := cnt_le m j
    unfold cnt
    have : m / 2 ^ j % 2 < 2 := Nat.mod_lt _ (by decide)
    omega
theorem cnt_mono (m : Nat) {i j : Nat} (h : i ≤ j) : cnt m i ≤ cnt m j := by
  obtain ⟨d, rfl⟩ := Nat.exists_eq_add_of_le h
  rw [cnt_add]; omega
theorem cnt_all (m a j : Nat) (h : m < 2 ^ a) (hj : a ≤ j) : cnt m j = cnt m a := by
  obtain ⟨d, rfl⟩ := Nat.exists_eq_add_of_le hj
  rw [cnt_add, Nat.div_eq_of_lt h, cnt_nil, Nat.add_zero]
/-- the bits below a place -/
theorem cnt_below (m j : Nat) (h : j ≤ 32) : cnt (m % 2 ^ j) 32 = cnt m j := by
  rw [cnt_all _ j 32 (Nat.mod_lt _ (Nat.two_pow_pos _)) h, cnt_mod m j j (Nat.le_refl _)]
/-- the bits of a number of 32, byte for byte -/
theorem cnt_bytes (x : Nat) : cnt x 32 = cnt (x / 2 ^ 24 % 2 ^ 8) 8 + cnt (x / 2 ^ 16 % 2 ^ 8) 8 + cnt (x / 2 ^ 8 % 2 ^ 8) 8 + cnt (x % 2 ^ 8) 8 := by
  rw [cnt_mod _ 8 8 (Nat.le_refl _), cnt_mod _ 8 8 (Nat.le_refl _), cnt_mod _ 8 8 (Nat.le_refl _), cnt_mod _ 8 8 (Nat.le_refl _)]
  have e1 := cnt_add x 8 24
  have e2 := cnt_add (x / 2 ^ 8) 8 16
  have e3 := cnt_add (x / 2 ^ 8 / 2 ^ 8) 8 8
  rw [Nat.div_div_eq_div_mul] at e2 e3
  rw [Nat.div_div_eq_div_mul] at e3
  simp only [Nat.reduceMul, Nat.reducePow, Nat.reduceAdd] at *
  omega

/-- a number whose lowest set bit is taken away -/
def clr (m : Nat) : Nat := m &&& (m - 1)
def clrK : Nat → Nat → Nat
  | m, 0 => m
  | m, k + 1 => clrK (clr m) k
theorem clrK_succ : ∀ (k m : Nat), clrK m (k + 1) = clr (clrK m k)
  | 0, _ => rfl
  | k + 1, m => clrK_succ k (clr m)
theorem clr_low (t a : Nat) : clr (2 ^ t * (2 * a + 1)) = 2 ^ t * (2 * a) := by
  have hp : 0 < 2 ^ t := Nat.two_pow_pos _
  have e : 2 ^ t * (2 * a + 1) - 1 = 2 ^ t * (2 * a) + (2 ^ t - 1) := by
    rw [Nat.mul_add, Nat.mul_one]; omega
  unfold clr
  rw [e]
  apply Nat.eq_of_testBit_eq
  intro i
  rw [Nat.testBit_and, Nat.testBit_two_pow_mul_add _ (by omega)]
  rw [Nat.mul_comm (2 ^ t), Nat.mul_comm (2 ^ t), Nat.testBit_mul_two_pow, Nat.testBit_mul_two_pow]
  by_cases h : i < t
  · have : ¬ t ≤ i := by omega
    simp [h, this]
  · have h2 : t ≤ i := by omega
    simp only [h2, decide_true, Bool.true_and, h, if_false]
    by_cases h0 : i - t = 0
    · rw [h0]; simp [Nat.testBit_zero]
    · obtain ⟨j, hj⟩ : ∃ j, i - t = j + 1 := ⟨i - t - 1, by omega⟩
      rw [hj, Nat.testBit_succ, Nat.testBit_succ]
      have d1 : (2 * a + 1) / 2 = a := by omega
      have d2 : (2 * a) / 2 = a := by omega
      rw [d1, d2, Bool.and_self]
theorem bit_low (t x i : Nat) : 2 ^ t * x / 2 ^ i % 2 = if i < t then 0 else x / 2 ^ (i - t) % 2 := by
  split
  · rename_i h
    obtain ⟨d, rfl⟩ : ∃ d, t = i + (d + 1) := ⟨t - i - 1, by omega⟩
    rw [Nat.pow_add, Nat.mul_assoc, Nat.mul_div_cancel_left _ (Nat.two_pow_pos _), Nat.pow_succ, Nat.mul_right_comm]
    omega
  · rename_i h
    obtain ⟨d, rfl⟩ : ∃ d, i = t + d := ⟨i - t, by omega⟩
    have e : t + d - t = d := by omega
    rw [e, Nat.pow_add, ← Nat.div_div_eq_div_mul, Nat.mul_div_cancel_left _ (Nat.two_pow_pos _)]
theorem cnt_low (t x : Nat) : ∀ j, cnt (2 ^ t * x) j = cnt x (j - t)
  | 0 => by simp [cnt]
  | j + 1 => by
    have ih := cnt_low t x j
    unfold cnt
    rw [ih, bit_low]
    split
    · rename_i h
      have e1 : j - t = 0 := by omega
      have e2 : j + 1 - t = 0 := by omega
      rw [e1, e2]; rfl
    · rename_i h
      have e : j + 1 - t = j - t + 1 := by omega
      rw [e]
theorem cnt_odd (a : Nat) : ∀ j, cnt (2 * a + 1) (j + 1) = cnt (2 * a) (j + 1) + 1
  | 0 => by unfold cnt cnt; simp
  | j + 1 => by
    have ih := cnt_odd a j
    have e1 : cnt (2 * a + 1) (j + 1 + 1) = cnt (2 * a + 1) (j + 1) + (2 * a + 1) / 2 ^ (j + 1) % 2 := rfl
    have e2 : cnt (2 * a) (j + 1 + 1) = cnt (2 * a) (j + 1) + (2 * a) / 2 ^ (j + 1) % 2 := rfl
    have e3 : (2 * a + 1) / 2 ^ (j + 1) = (2 * a) / 2 ^ (j + 1) := by
      rw [Nat.pow_succ', ← Nat.div_div_eq_div_mul, ← Nat.div_div_eq_div_mul]
      congr 1; omega
    rw [e1, e2, ih, e3]; omega
/-- THE SET BIT OF A NUMBER -/
theorem nth_bit : ∀ (n m : Nat), m < 2 ^ 28 → n < cnt m 28 →
    0 < clrK m n ∧ clrK m n < 2 ^ 28 ∧ Lib.ctz 32 (clrK m n) < 28 ∧ m / 2 ^ Lib.ctz 32 (clrK m n) % 2 = 1 ∧ cnt m (Lib.ctz 32 (clrK m n)) = n
  | n, m, hm, hn => by
    have h0 : 0 < m := by
      rcases Nat.eq_zero_or_pos m with h | h
      · subst h; rw [cnt_nil] at hn; omega
      · exact h
    obtain ⟨a, ha, ht⟩ := Lib.ctzFrom_spec 32 m h0 (by omega)
    have hct : Lib.ctz 32 m = Lib.ctzFrom 32 m := by unfold Lib.ctz; rw [if_neg (by omega)]
    rw [← hct] at ha ht
    generalize hT : Lib.ctz 32 m = t at *
    have ht28 : t < 28 := by
      have h1 : 2 ^ t ≤ m := by rw [ha]; exact Nat.le_mul_of_pos_right _ (by omega)
      exact (Nat.pow_lt_pow_iff_right (by decide : 1 < 2)).1 (Nat.lt_of_le_of_lt h1 hm)
    have hbt : m / 2 ^ t % 2 = 1 := by
      rw [ha, bit_low, if_neg (by omega), Nat.sub_self]; simp
    have hct0 : cnt m t = 0 := by rw [ha, cnt_low, Nat.sub_self]; rfl
    cases n with
    | zero =>
      show 0 < m ∧ m < 2 ^ 28 ∧ Lib.ctz 32 m < 28 ∧ m / 2 ^ Lib.ctz 32 m % 2 = 1 ∧ cnt m (Lib.ctz 32 m) = 0
      rw [hT]
      exact ⟨h0, hm, ht28, hbt, hct0⟩
    | succ n =>
      have hc : clr m = 2 ^ t * (2 * a) := by rw [ha]; exact clr_low t a
      have hcl : clr m ≤ m := Nat.and_le_left
      have hcnt : ∀ j, t < j → cnt m j = cnt (clr m) j + 1 := fun j hj => by
        rw [hc, ha, cnt_low, cnt_low]
        obtain ⟨d, hd⟩ : ∃ d, j - t = d + 1 := ⟨j - t - 1, by omega⟩
        rw [hd, cnt_odd]
      have hbit : ∀ i, i ≠ t → m / 2 ^ i % 2 = clr m / 2 ^ i % 2 := fun i hi => by
        rw [hc, ha, bit_low, bit_low]
        split
        · rfl
        · obtain ⟨d, hd⟩ : ∃ d, i - t = d + 1 := ⟨i - t - 1, by omega⟩
          rw [hd]
          congr 1
          rw [Nat.pow_succ', ← Nat.div_div_eq_div_mul, ← Nat.div_div_eq_div_mul]
          congr 1
          have e1 : (2 * a + 1) / 2 = a := by omega
          have e2 : (2 * a) / 2 = a := by omega
          rw [e1, e2]
      have h28 := hcnt 28 ht28
      obtain ⟨g0, g1, g2, g3, g4⟩ := nth_bit n (clr m) (by omega) (by omega)
      show 0 < clrK (clr m) n ∧ clrK (clr m) n < 2 ^ 28 ∧ Lib.ctz 32 (clrK (clr m) n) < 28 ∧ m / 2 ^ Lib.ctz 32 (clrK (clr m) n) % 2 = 1 ∧ cnt m (Lib.ctz 32 (clrK (clr m) n)) = n + 1
      generalize Lib.ctz 32 (clrK (clr m) n) = p at *
      have hpt : t < p := by
        rw [hc, bit_low] at g3
        by_cases h : p < t
        · rw [if_pos h] at g3; omega
        · rw [if_neg h] at g3
          by_cases h' : p = t
          · subst h'; rw [Nat.sub_self] at g3; simp at g3
          · omega
      refine ⟨g0, g1, g2, ?_, ?_⟩
      · rw [hbit p (by omega)]; exact g3
      · rw [hcnt p hpt, g4]
/-- the other bits -/
def compl (m : Nat) : Nat := 2 ^ 28 - 1 - m
theorem compl_bit (m i : Nat) (hm : m < 2 ^ 28) (hi : i < 28) : compl m / 2 ^ i % 2 = 1 - m / 2 ^ i % 2 := by
  have h := Nat.testBit_two_pow_sub_succ hm i
  have e : 2 ^ 28 - (m + 1) = compl m := by unfold compl; omega
  rw [e, Nat.testBit_eq_decide_div_mod_eq, Nat.testBit_eq_decide_div_mod_eq] at h
  simp only [hi, decide_true, Bool.true_and] at h
  have h2 : m / 2 ^ i % 2 = 0 ∨ m / 2 ^ i % 2 = 1 := by omega
  have h3 : compl m / 2 ^ i % 2 = 0 ∨ compl m / 2 ^ i % 2 = 1 := by omega
  rcases h2 with h2 | h2 <;> rcases h3 with h3 | h3 <;> simp [h2, h3] at h ⊢
theorem compl_lt (m : Nat) : compl m < 2 ^ 28 := by unfold compl; omega
theorem compl_cnt (m : Nat) (hm : m < 2 ^ 28) : ∀ j, j ≤ 28 → cnt (compl m) j = j - cnt m j
  | 0, _ => rfl
  | j + 1, h => by
    have ih := compl_cnt m hm j (by omega)
    have hb := compl_bit m j hm (by omega)
    have hl := cnt_le m j
    have : m / 2 ^ j % 2 < 2 := Nat.mod_lt _ (by decide)
    unfold cnt
    rw [ih, hb]
    omega
end Go.Proofs.Dia
namespace Go.Proofs
open Go.RowKit

namespace Aid
/-- 's[i:j]' of a text whose bytes are told elsewhere -/
theorem wpList_slice_str {P : Program} (w : World) {ops : Array Oper} {rest : List Oper} {o : Oper} {a : Act} {Q : Exit → Act → World → Prop}
    (hg : o.guard = none) (t : TypeId) (x lo hi : Operand) (hop : o.op = Op.slice t x (some lo) (some hi) none) (ht : P.underlying t = some .string)
    (s : ByteArray) (S : List UInt8) (hx : a.eval x = .string s) (hS : s = ⟨S.toArray⟩) (i j : Int) (hi' : a.eval lo = .int .i64 i) (hj' : a.eval hi = .int .i64 j)
    (h0 : 0 ≤ i) (h1 : i ≤ j) (h2 : j ≤ S.length) (l : List UInt8) (hl : (S.drop i.toNat).take (j.toNat - i.toNat) = l) (hK : wpList P ops Q rest (a.put o.dst (.string ⟨l.toArray⟩)) w) :
    wpList P ops Q (o :: rest) a w := by
  refine wpList_plain hg fun K hK' => ?_
  subst hS
  have hrun := run_slice_string (P := P) w t ⟨S.toArray⟩ .i64 .i64 i j ht h0 h1 (by simpa [ByteArray.size] using h2)
  rw [ByteArray.extract_mk, hl] at hrun
  unfold Oper.wp
  simp [execOp, hop, hx, hi', hj', run_sliceAt_string _ _ _ _ _ _ ht, hrun, Result.andThen]
  exact hK' _ _ hK
/-- 's[i]' of such a text -/
theorem wpList_index_str {P : Program} (w : World) {ops : Array Oper} {rest : List Oper} {o : Oper} {a : Act} {Q : Exit → Act → World → Prop}
    (hg : o.guard = none) (t : TypeId) (x i : Operand) (hop : o.op = Op.index t x i) (ht : P.underlying t = some .string)
    (s : ByteArray) (S : List UInt8) (hx : a.eval x = .string s) (hS : s = ⟨S.toArray⟩) (k : IntKind) (n : Int) (hi' : a.eval i = .int k n) (v : Nat) (hv : (S.getD n.toNat 0).toNat = v)
    (h0 : 0 ≤ n) (h1 : n < S.length) (hK : wpList P ops Q rest (a.put o.dst (.int .u8 v)) w) :
    wpList P ops Q (o :: rest) a w := by
  refine wpList_plain hg fun K hK' => ?_
  subst hS
  have hs : ((ByteArray.mk S.toArray).size : Int) = S.length := by simp [ByteArray.size]
  have h1' : n.toNat < S.length := by omega
  have e : (ByteArray.mk S.toArray)[n.toNat]'(by simpa [ByteArray.size] using h1') = S.getD n.toNat 0 := by
    rw [List.getD_eq_getElem?_getD, List.getElem?_eq_getElem h1']
    rfl
  have hrun := run_index_string (P := P) w t ⟨S.toArray⟩ k n ht
  rw [dif_pos ⟨by omega, by rw [hs]; omega⟩, e, hv] at hrun
  unfold Oper.wp
  simp [execOp, hop, hx, hi', hrun, Result.andThen]
  exact hK' _ _ hK
/-- '[]byte(s)' -/
theorem wpList_conv_bytes {P : Program} (w : World) {ops : Array Oper} {rest : List Oper} {o : Oper} {a : Act} {Q : Exit → Act → World → Prop}
    (hg : o.guard = none) (x : Operand) (src dst e : TypeId) (hop : o.op = Op.convert src dst x)
    (hs : P.underlying src = some .string) (hd : P.underlying dst = some (.slice e)) (he : P.underlying e = some (.int .u8))
    (l : List UInt8) (n : Nat) (hn : l.length = n) (hx : a.eval x = .string ⟨l.toArray⟩)
    (h : ∀ w' cap, Aid.RowAt w' (some ⟨w.heap.size, 0, none⟩) (l.map Dia.bv) → Below w.heap.size w w' → wpList P ops Q rest (a.put o.dst (.slice (some ⟨w.heap.size, 0, none⟩) n cap)) w') :
    wpList P ops Q (o :: rest) a w := by
  refine wpList_plain hg fun K hK' => ?_
  have hrun := run_bytes_of_string (P := P) w src dst e ⟨l.toArray⟩ hs hd he
  have hsz : (ByteArray.mk l.toArray).size = n := by simp [ByteArray.size, hn]
  have hcell : ∀ cap fr, Aid.RowAt (w.drew.alloc (.cells (bytesRow ⟨l.toArray⟩ cap) e fr)) (some ⟨w.heap.size, 0, none⟩) (l.map Dia.bv) := fun cap fr => .inr ⟨_, _, rfl, fun j u hj => by
    have h1 := World.cell?_alloc_mark w.drew (bytesRow ⟨l.toArray⟩ cap) e fr (0 + j)
    have h2 : (bytesRow ⟨l.toArray⟩ cap)[0 + j]? = some u := by
      obtain ⟨hj1, hj2⟩ := List.getElem?_eq_some_iff.1 hj
      have hj3 : j < l.length := by simpa using hj1
      rw [Nat.zero_add, bytesRow_at _ _ _ (by simpa using hj3), ← hj2]
      simp [Dia.bv]
    rw [h2] at h1
    exact h1⟩
  have hbel : ∀ C : Obj, Below w.heap.size w (w.drew.alloc C) := fun C => ((Below.refl _ _).drew).alloc (Nat.le_refl _) _
  rw [hsz] at hrun
  unfold Oper.wp
  simp [execOp, hop, hx, hrun, Result.andThen]
  exact hK' _ _ (h _ _ (hcell _ _) (hbel _))
end Aid
/-- a group's seven digits -/
def Dia.chunk (g : Nat) : List UInt8 := (Dia.mem.drop (7 * g)).take 7
theorem Dia.chunk_len (g : Nat) (h : g < 399) : (Dia.chunk g).length = 7 := by
  unfold Dia.chunk
  rw [List.length_take, List.length_drop, Dia.mem_len]
  omega
theorem Dia.chunk_of (g : Nat) (i j : Int) (hi : i = 7 * (g : Int)) (hj : j = 7 * (g : Int) + 7) : (Dia.mem.drop i.toNat).take (j.toNat - i.toNat) = Dia.chunk g := by
  have a1 : i.toNat = 7 * g := by omega
  have a2 : j.toNat - i.toNat = 7 := by omega
  rw [a2, a1]; rfl
theorem Dia.chunk_get (g i : Nat) (h : g < 399) (hi : i < 7) : (Dia.chunk g)[i]? = some (Dia.mem.getD (7 * g + i) 0) := by
  unfold Dia.chunk
  rw [List.getElem?_take, if_pos hi, List.getElem?_drop, List.getD_eq_getElem?_getD, List.getElem?_eq_getElem (by rw [Dia.mem_len]; omega)]
  rfl
theorem Dia.or16 (a c : Int) (h0 : 0 ≤ a) (h1 : a < 16777216) (c0 : 0 ≤ c) (c1 : c < 16) : bits .or .u32 (a * 16) c = a * 16 + c := by
  obtain ⟨n, rfl⟩ := Int.eq_ofNat_of_zero_le h0
  obtain ⟨m, rfl⟩ := Int.eq_ofNat_of_zero_le c0
  show IntKind.u32.wrap ((BitVec.ofInt 32 ((n : Int) * 16) ||| BitVec.ofInt 32 (m : Int)).toNat : Int) = _
  have hm : m < 2 ^ 4 := by omega
  have e1 : ((n : Int) * 16) = ((16 * n : Nat) : Int) := by omega
  have e2 : (2 ^ 4 * n ||| m) = 2 ^ 4 * n + m := (Nat.two_pow_add_eq_or_of_lt hm n).symm
  rw [e1, BitVec.ofInt_natCast, BitVec.ofInt_natCast, BitVec.toNat_or, BitVec.toNat_ofNat, BitVec.toNat_ofNat, Nat.mod_eq_of_lt (by omega), Nat.mod_eq_of_lt (by omega)]
  rw [show 16 * n = 2 ^ 4 * n from rfl, e2, wrap_u32']
  omega
set_option maxRecDepth 100000 in
set_option maxHeartbeats 1000000 in
theorem Tryz.c_mask (g : Nat) (w : World) (hg : g < 399) :
    Calls Tryz.prog 102 #[.int .i64 g] w fun e w' => e = .returned (.int .u32 (Dia.maskN g)) ∧ Below w.heap.size w w' := by
  have e1 : IntKind.i64.wrap (7 * (g : Int)) = 7 * (g : Int) := IntWalk.i64_in _ (by omega)
  have e2 : IntKind.i64.wrap (7 * (g : Int) + 7) = 7 * (g : Int) + 7 := IntWalk.i64_in _ (by omega)
  go_enter Tryz.func102, Tryz.ntmps102
  go_wp2_with (first
    | (refine Aid.wpList_slice_str _ rfl _ _ _ _ rfl Tryz.underlying9 _ Dia.mem rfl (by kernel_rfl) _ _ rfl rfl (by omega) (by omega) (by rw [Dia.mem_len]; omega) (Dia.chunk g) (Dia.chunk_of g _ _ rfl rfl) ?_)
    | (refine Aid.wpList_conv_bytes _ rfl _ _ _ _ rfl Tryz.underlying9 Tryz.underlying35 Tryz.underlying5 (Dia.chunk g) 7 (Dia.chunk_len g hg) rfl ?_))
  intro w1 cap hr hb1
  go_wp2_with fail
  go_loopw [3, 5, 6, 15] (fun n _ _ i wr => ∃ k : Nat, k ≤ 7 ∧ i = .int .i64 k ∧ n = .int .u32 (Dia.maskK g k) ∧ Below w1.heap.size w1 wr)
    (fun _ _ _ i _ => 7 - (intOf i).toNat)
  case atStart => exact ⟨0, by omega, rfl, rfl, Below.refl _ _⟩
  case round =>
    obtain ⟨k, hk, rfl, rfl, hb⟩ := hrel
    by_cases hlt : k < 7
    · have hm := Dia.maskK_lt g k (by omega)
      have h16 : 16 ^ k ≤ 16 ^ 6 := Nat.pow_le_pow_right (by decide) (by omega)
      have HS : Aid.Hid2 (Dia.maskK g (k + 1) = Dia.maskK g k * 16 + Dia.dg g k) := ⟨rfl⟩
      have hx := Dia.mem_hex _ (Dia.mem_at (7 * g + k) (by omega))
      have HG : Aid.Hid2 (Dia.dg g k = Dia.dig (Dia.mem.getD (7 * g + k) 0)) := ⟨rfl⟩
      have hcell : wr.cell? ⟨w.heap.size, k, none⟩ = some (.int .u8 (Dia.mem.getD (7 * g + k) 0).toNat) := by
        have h1 := (hr.below hb)
        rcases h1 with h1 | ⟨b, o, e, h1⟩
        · have := congrArg List.length h1
          rw [List.length_map, Dia.chunk_len g hg] at this
          cases this
        · cases e
          have := h1 k (Dia.bv (Dia.mem.getD (7 * g + k) 0)) (by rw [List.getElem?_map, Dia.chunk_get g k hg hlt]; rfl)
          rw [Nat.zero_add] at this
          exact this
      generalize Dia.mem.getD (7 * g + k) 0 = c at *
      generalize Dia.maskK g k = m at *
      have hm' : m < 16777216 := by omega
      rcases hx with ⟨x0, x1⟩ | ⟨x0, x1⟩
      · have ho := Dia.or16 m ((c.toNat : Int) - 48) (by omega) (by omega) (by omega) (by omega)
        have HV : Aid.Hid2 ((m : Int) * 16 + ((c.toNat : Int) - 48) = (Dia.maskK g (k + 1) : Nat)) := ⟨by
          rw [HS.out, HG.out]
          unfold Dia.dig
          rw [if_neg (by omega)]
          omega⟩
        clear hm h16 HS HG
        generalize c.toNat = x at *
        have e3 : IntKind.u8.wrap ((x : Int) - 48) = (x : Int) - 48 := by rw [IntKind.wrap_u8]; omega
        go_wp2
        go_roundw
        case rel => exact ⟨k + 1, by omega, by go_num, by rw [← HV.out], hb⟩
        case measure => simp [intOf]; omega
      · have ho := Dia.or16 m ((c.toNat : Int) - 97 + 10) (by omega) (by omega) (by omega) (by omega)
        have HV : Aid.Hid2 ((m : Int) * 16 + ((c.toNat : Int) - 97 + 10) = (Dia.maskK g (k + 1) : Nat)) := ⟨by
          rw [HS.out, HG.out]
          unfold Dia.dig
          rw [if_pos (by omega)]
          omega⟩
        clear hm h16 HS HG
        generalize c.toNat = x at *
        have e3 : IntKind.u8.wrap ((x : Int) - 48) = (x : Int) - 48 := by rw [IntKind.wrap_u8]; omega
        have e4 : IntKind.u8.wrap ((x : Int) - 97) = (x : Int) - 97 := by rw [IntKind.wrap_u8]; omega
        go_wp2
        go_roundw
        case rel => exact ⟨k + 1, by omega, by go_num, by rw [← HV.out], hb⟩
        case measure => simp [intOf]; omega
    · obtain rfl : k = 7 := by omega
      go_wp2
      go_ret
      exact ⟨rfl, Aid.bt hb1 hb⟩
end Go.Proofs
namespace Go.Proofs
open Go.RowKit

namespace Aid
/-- 's[i]' of a constant text, in a region that draws and only reads -/
theorem quiet_index_str {P : Program} {ops : Array Oper} {C : World → Prop} {Q : Act → Prop} {o : Oper} {rest : List Oper} {a : Act}
    (hg : o.guard = none) (t : TypeId) (x i : Operand) (hop : o.op = Op.index t x i) (ht : P.underlying t = some .string)
    (s : ByteArray) (S : List UInt8) (hx : a.eval x = .string s) (hS : s = ⟨S.toArray⟩) (k : IntKind) (n : Int) (hi' : a.eval i = .int k n) (v : Nat) (hv : (S.getD n.toNat 0).toNat = v)
    (h0 : 0 ≤ n) (h1 : n < S.length) (hK : wpQuiet P ops C Q rest (a.put o.dst (.int .u8 v))) : wpQuiet P ops C Q (o :: rest) a := by
  subst hS
  have hw : Region.wanted o (yielded ops a.tmps) = true := by simp [Region.wanted, hg]
  have hs : ((ByteArray.mk S.toArray).size : Int) = S.length := by simp [ByteArray.size]
  have h1' : n.toNat < S.length := by omega
  have e : (ByteArray.mk S.toArray)[n.toNat]'(by simpa [ByteArray.size] using h1') = S.getD n.toNat 0 := by
    rw [List.getD_eq_getElem?_getD, List.getElem?_eq_getElem h1']
    rfl
  have hrun : ∀ w : World, (Instr.index t (.string ⟨S.toArray⟩) (.int k n)).run P w = .ok (.int .u8 v) w := fun w => by
    have hr := run_index_string (P := P) w t ⟨S.toArray⟩ k n ht
    rw [dif_pos ⟨by omega, by rw [hs]; omega⟩, e, hv] at hr
    exact hr
  unfold wpQuiet
  rw [if_pos hw]
  refine ⟨.int .u8 v, fun w _ => ?_, hK⟩
  unfold Oper.quietAt
  simp [execOp, hop, hx, hi', hrun, Result.andThen, Oper.quietUpon]
end Aid
def Dia.popT : List UInt8 := (List.range 256).map fun x => (Dia.cnt x 8).toUInt8
theorem Dia.popT_len : Dia.popT.length = 256 := by simp [Dia.popT]
theorem Dia.popT_at (x : Nat) (h : x < 256) : (Dia.popT.getD x 0).toNat = Dia.cnt x 8 := by
  unfold Dia.popT
  have := Dia.cnt_le x 8
  rw [List.getD_eq_getElem?_getD, List.getElem?_map, List.getElem?_range h]
  simp
  omega
theorem Dia.and255 (y : Nat) (h : y < 4294967296) : bits .and .u32 (y : Int) 255 = ((y % 2 ^ 8 : Nat) : Int) := by
  have := bits_and_u32_nat y 255 h (by decide)
  rw [show (255 : Nat) = 2 ^ 8 - 1 from rfl, Nat.and_two_pow_sub_one_eq_mod] at this
  exact this
set_option maxRecDepth 100000 in
set_option maxHeartbeats 1000000 in
theorem Tryz.c_Ones (x : Nat) (w : World) (hx : x < 4294967296) :
    Calls Tryz.prog 104 #[.int .u32 x] w fun e w' => e = .returned (.int .i64 (Dia.cnt x 32)) ∧ Below w.heap.size w w' := by
  have hb := Dia.cnt_bytes x
  have l1 := Dia.cnt_le (x / 2 ^ 24 % 2 ^ 8) 8
  have l2 := Dia.cnt_le (x / 2 ^ 16 % 2 ^ 8) 8
  have l3 := Dia.cnt_le (x / 2 ^ 8 % 2 ^ 8) 8
  have l4 := Dia.cnt_le (x % 2 ^ 8) 8
  have i1 : ((x : Int) / 16777216).toNat = x / 2 ^ 24 % 2 ^ 8 := by simp only [Nat.reducePow]; omega
  have b2 : bits .and .u32 ((x : Int) / 65536) 255 = ((x / 2 ^ 16 % 2 ^ 8 : Nat) : Int) := by
    rw [show (x : Int) / 65536 = ((x / 2 ^ 16 : Nat) : Int) by simp only [Nat.reducePow]; omega]
    exact Dia.and255 _ (by simp only [Nat.reducePow]; omega)
  have b3 : bits .and .u32 ((x : Int) / 256) 255 = ((x / 2 ^ 8 % 2 ^ 8 : Nat) : Int) := by
    rw [show (x : Int) / 256 = ((x / 2 ^ 8 : Nat) : Int) by simp only [Nat.reducePow]; omega]
    exact Dia.and255 _ (by simp only [Nat.reducePow]; omega)
  have b4 : bits .and .u32 (x : Int) 255 = ((x % 2 ^ 8 : Nat) : Int) := Dia.and255 _ hx
  have H : ∀ y : Nat, y % 2 ^ 8 < 256 := fun y => Nat.mod_lt _ (by decide)
  have HV1 : Aid.Hid2 ((Dia.popT.getD ((x : Int) / 16777216).toNat 0).toNat = Dia.cnt (x / 2 ^ 24 % 2 ^ 8) 8) := ⟨by rw [i1, Dia.popT_at _ (H _)]⟩
  have HV2 : Aid.Hid2 ((Dia.popT.getD (bits .and .u32 ((x : Int) / 65536) 255).toNat 0).toNat = Dia.cnt (x / 2 ^ 16 % 2 ^ 8) 8) := ⟨by rw [b2, Int.toNat_natCast, Dia.popT_at _ (H _)]⟩
  have HV3 : Aid.Hid2 ((Dia.popT.getD (bits .and .u32 ((x : Int) / 256) 255).toNat 0).toNat = Dia.cnt (x / 2 ^ 8 % 2 ^ 8) 8) := ⟨by rw [b3, Int.toNat_natCast, Dia.popT_at _ (H _)]⟩
  have HV4 : Aid.Hid2 ((Dia.popT.getD (bits .and .u32 (x : Int) 255).toNat 0).toNat = Dia.cnt (x % 2 ^ 8) 8) := ⟨by rw [b4, Int.toNat_natCast, Dia.popT_at _ (H _)]⟩
  have L2 : Aid.Hid2 (0 ≤ bits .and .u32 ((x : Int) / 65536) 255 ∧ bits .and .u32 ((x : Int) / 65536) 255 < Dia.popT.length) := ⟨by rw [b2, Dia.popT_len]; have := H (x / 2 ^ 16); omega⟩
  have L3 : Aid.Hid2 (0 ≤ bits .and .u32 ((x : Int) / 256) 255 ∧ bits .and .u32 ((x : Int) / 256) 255 < Dia.popT.length) := ⟨by rw [b3, Dia.popT_len]; have := H (x / 2 ^ 8); omega⟩
  have L4 : Aid.Hid2 (0 ≤ bits .and .u32 (x : Int) 255 ∧ bits .and .u32 (x : Int) 255 < Dia.popT.length) := ⟨by rw [b4, Dia.popT_len]; have := H x; omega⟩
  have HB := Aid.Hid2.mk hb
  clear hb i1 b2 b3 b4 H
  generalize Dia.cnt (x / 2 ^ 24 % 2 ^ 8) 8 = p1 at *
  generalize Dia.cnt (x / 2 ^ 16 % 2 ^ 8) 8 = p2 at *
  generalize Dia.cnt (x / 2 ^ 8 % 2 ^ 8) 8 = p3 at *
  generalize Dia.cnt (x % 2 ^ 8) 8 = p4 at *
  generalize Dia.cnt x 32 = p at *
  have HW : Aid.Hid2 (IntKind.i64.wrap (IntKind.u8.wrap (IntKind.u8.wrap (IntKind.u8.wrap ((p1 : Int) + p2) + p3) + p4)) = p) := ⟨by
    have e1 : IntKind.u8.wrap ((p1 : Int) + p2) = p1 + p2 := by rw [IntKind.wrap_u8]; omega
    have e2 : IntKind.u8.wrap ((p1 : Int) + p2 + p3) = p1 + p2 + p3 := by rw [IntKind.wrap_u8]; omega
    have e3 : IntKind.u8.wrap ((p1 : Int) + p2 + p3 + p4) = p1 + p2 + p3 + p4 := by rw [IntKind.wrap_u8]; omega
    rw [e1, e2, e3, IntWalk.i64_in _ (by omega), HB.out]
    omega⟩
  go_enter Tryz.func104, Tryz.ntmps104
  go_wp2_with fail
  refine wp_region_quiet_lit (by kernel_rfl) (by kernel_rfl) ?_
  quiet_step (fail)
  quiet_step (fail)
  refine Aid.quiet_index_str rfl _ _ _ rfl Tryz.underlying9 _ Dia.popT rfl (by kernel_rfl) _ _ rfl p1 HV1.out (by omega) (by rw [Dia.popT_len]; omega) ?_
  quiet_step (fail)
  quiet_step (fail)
  quiet_step (fail)
  refine Aid.quiet_index_str rfl _ _ _ rfl Tryz.underlying9 _ Dia.popT rfl (by kernel_rfl) _ _ rfl p2 HV2.out L2.out.1 L2.out.2 ?_
  quiet_step (fail)
  quiet_step (fail)
  quiet_step (fail)
  quiet_step (fail)
  refine Aid.quiet_index_str rfl _ _ _ rfl Tryz.underlying9 _ Dia.popT rfl (by kernel_rfl) _ _ rfl p3 HV3.out L3.out.1 L3.out.2 ?_
  quiet_step (fail)
  quiet_step (fail)
  quiet_step (fail)
  refine Aid.quiet_index_str rfl _ _ _ rfl Tryz.underlying9 _ Dia.popT rfl (by kernel_rfl) _ _ rfl p4 HV4.out L4.out.1 L4.out.2 ?_
  quiet_step (fail)
  quiet_step (fail)
  quiet_step (fail)
  refine wpQuiet_nil ?_
  intro _ hw'
  obtain ⟨nq, hw''⟩ := hw'
  subst hw''
  go_wp2
  go_ret
  exact ⟨congrArg (fun n => Ending.returned (.int .i64 n)) HW.out, below_drewN (Below.refl _ _) _⟩
/-- the library's table of places, as its text lays it -/
def Tryz.Tab32 (w : World) : Prop := TabAt 4 Lib.deBruijn32tab w
theorem Tryz.Tab32.below {w w' : World} (hT : Tryz.Tab32 w) (hb : Below w.heap.size w w') : Tryz.Tab32 w' :=
  fun j hj => Aid.cell_ext hb (hT j hj)
set_option maxRecDepth 100000 in
set_option maxHeartbeats 1000000 in
theorem Tryz.c_Trail_core (x k idx : Nat) (w : World) (hx0 : ((x : Int) == 0) = false)
    (key : bits BinOp.and IntKind.u32 (x : Int) (-(x : Int) % 4294967296) * 125613361 % 4294967296 / 134217728 = (idx : Int))
    (hi : idx < 32) (hk : k < 32) (hcell : w.cell? ⟨4, idx, none⟩ = some (.int .u8 k)) :
    Calls Tryz.prog 131 #[.int .u32 x] w fun e w' => e = .returned (.int .i64 k) ∧ w = w' := by
  go_enter Tryz.func131, Tryz.ntmps131
  go_wp2_with (simp only [key])
  go_ret
  exact ⟨rfl, rfl⟩
theorem Tryz.c_Trail (x : Nat) (w : World) (h0 : 0 < x) (hx : x < 4294967296) (hT : Tryz.Tab32 w) :
    Calls Tryz.prog 131 #[.int .u32 x] w fun e w' => e = .returned (.int .i64 (Lib.ctz 32 x)) ∧ w = w' := by
  obtain ⟨hlow, hk⟩ := Lib.lowest_bit 32 x (by omega) hx
  obtain ⟨hi, htab⟩ := Lib.deBruijn32_at _ hk
  have hcell := hT _ hi
  rw [htab] at hcell
  exact Tryz.c_Trail_core x _ _ w (by simp; omega) (tz32_key x _ hx (by omega) hlow) hi hk hcell
theorem Dia.clrK_bd : ∀ (k m : Nat), m < 2 ^ 28 → Dia.clrK m k < 2 ^ 28
  | 0, _, h => h
  | k + 1, _, h => Dia.clrK_bd k _ (Nat.lt_of_le_of_lt Nat.and_le_left h)
set_option maxRecDepth 100000 in
set_option maxHeartbeats 1000000 in
theorem Tryz.c_wnth (m n : Nat) (w : World) (hm : m < 2 ^ 28) (hn : n < Dia.cnt m 28) (hT : Tryz.Tab32 w) :
    Calls Tryz.prog 122 #[.int .u32 m, .int .i64 n] w fun e w' => e = .returned (.int .i64 (Lib.ctz 32 (Dia.clrK m n))) ∧ w = w' := by
  have h28 := Dia.cnt_le m 28
  have HN : Aid.Hid2 (∀ k, k ≤ n → 0 < Dia.clrK m k) := ⟨fun k hk => (Dia.nth_bit k m hm (by omega)).1⟩
  have hn28 : n ≤ 28 := by omega
  clear hn
  go_enter Tryz.func122, Tryz.ntmps122
  go_wp2_with fail
  go_loop [0, 6] (fun v i => ∃ k : Nat, k ≤ n ∧ i = .int .i64 k ∧ v = .int .u32 (Dia.clrK m k)) (fun _ i => n - (intOf i).toNat)
  case atStart => exact ⟨0, Nat.zero_le _, rfl, rfl⟩
  case round =>
    obtain ⟨k, hk, rfl, rfl⟩ := hrel
    have hp := HN.out k hk
    have hb := Dia.clrK_bd k m hm
    by_cases hlt : k < n
    · have HS : Aid.Hid2 (Dia.clrK m (k + 1) = Dia.clr (Dia.clrK m k)) := ⟨Dia.clrK_succ k m⟩
      generalize Dia.clrK m k = x at *
      have e1 : IntKind.u32.wrap ((x : Int) - 1) = ((x - 1 : Nat) : Int) := by rw [wrap_u32']; omega
      have e2 : bits .and .u32 (x : Int) ((x - 1 : Nat) : Int) = ((Dia.clr x : Nat) : Int) := bits_and_u32_nat x (x - 1) (by omega) (by omega)
      go_wp2
      go_round
      case rel => exact ⟨k + 1, by omega, by go_num, by rw [HS.out]⟩
      case measure => simp [intOf]; omega
    · obtain rfl : k = n := by omega
      have hb' : Dia.clrK m k < 4294967296 := by omega
      have HT := Aid.Hid2.mk (Tryz.c_Trail (Dia.clrK m k) w hp hb' hT)
      go_wp2_with fail
      refine HT.out.mono ?_
      rintro e w1 ⟨rfl, rfl⟩
      go_wp2
      go_ret
      exact ⟨rfl, rfl⟩
end Go.Proofs
