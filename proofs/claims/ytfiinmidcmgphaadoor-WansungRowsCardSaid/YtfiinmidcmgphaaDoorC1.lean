/- PLAIN: wansung: which syllables are in the rows: digits, masks, counts -/
import Derived.Lib.TrailingZeros
namespace Go.Proofs.Dia

def mem : List UInt8 := [101, 102, 102, 48, 55, 57, 51, 48, 51, 98, 48, 49, 49, 51, 48, 50, 56, 48, 49, 49, 51, 48, 48, 48, 48, 49, 49, 49, 101, 55, 98, 48, 53, 57, 51, 48, 51, 98, 48, 49, 49, 49, 50, 51, 98, 48, 49, 57, 55, 48, 48, 97, 48, 49, 49, 49, 48, 54, 98, 57, 53, 57, 51, 48, 50, 98, 48, 53, 49, 51, 48, 51, 50, 48, 49, 49, 49, 48, 50, 98, 48, 49, 49, 51, 48, 48, 97, 48, 49, 49, 49, 48, 54, 98, 56, 55, 57, 51, 48, 51, 48, 48, 49, 49, 51, 48, 48, 56, 48, 48, 48, 49, 48, 48, 98, 48, 49, 49, 51, 48, 48, 48, 48, 49, 49, 49, 48, 50, 98, 48, 51, 57, 51, 48, 48, 48, 48, 48, 48, 49, 52, 54, 98, 48, 53, 57, 51, 50, 51, 98, 48, 53, 49, 55, 48, 51, 98, 48, 49, 49, 51, 48, 48, 48, 48, 49, 48, 51, 48, 48, 48, 48, 48, 48, 48, 48, 51, 98, 48, 49, 49, 55, 48, 50, 57, 48, 48, 49, 51, 50, 49, 56, 48, 49, 49, 49, 48, 48, 48, 48, 48, 48, 49, 48, 101, 98, 48, 49, 53, 51, 48, 51, 48, 48, 49, 48, 51, 48, 50, 48, 48, 48, 48, 51, 48, 50, 51, 48, 49, 49, 49, 48, 48, 48, 48, 48, 48, 49, 48, 54, 98, 56, 49, 49, 51, 48, 51, 48, 48, 49, 48, 49, 48, 49, 51, 48, 49, 49, 51, 48, 48, 51, 48, 49, 49, 49, 48, 48, 48, 48, 48, 48, 49, 50, 50, 98, 56, 53, 53, 51, 48, 48, 48, 48, 48, 48, 48, 48, 50, 98, 48, 49, 49, 51, 97, 102, 98, 48, 55, 57, 55, 48, 51, 98, 48, 49, 49, 51, 48, 50, 49, 48, 49, 49, 51, 48, 48, 48, 48, 48, 48, 48, 56, 51, 98, 48, 100, 49, 98, 48, 51, 98, 48, 49, 49, 51, 49, 51, 51, 48, 49, 49, 51, 48, 48, 48, 48, 48, 49, 49, 99, 50, 98, 48, 53, 49, 51, 48, 49, 48, 48, 49, 49, 49, 48, 48, 48, 48, 48, 48, 48, 48, 48, 98, 48, 49, 49, 49, 48, 50, 97, 48, 49, 49, 51, 48, 50, 98, 48, 49, 57, 51, 48, 49, 48, 48, 48, 48, 49, 48, 48, 48, 48, 48, 48, 49, 48, 48, 51, 48, 49, 49, 49, 48, 50, 51, 48, 49, 48, 51, 52, 54, 98, 48, 55, 49, 51, 48, 48, 48, 48, 49, 49, 49, 52, 50, 98, 48, 53, 49, 51, 56, 102, 98, 56, 102, 57, 55, 48, 51, 98, 48, 49, 49, 51, 48, 48, 48, 48, 48, 48, 49, 48, 48, 48, 48, 48, 48, 48, 52, 97, 98, 48, 100, 57, 55, 48, 51, 98, 48, 49, 49, 51, 48, 51, 48, 48, 49, 49, 49, 48, 48, 48, 48, 48, 49, 49, 50, 97, 98, 49, 53, 57, 51, 48, 48, 48, 48, 49, 49, 49, 48, 49, 48, 48, 48, 48, 49, 48, 48, 98, 48, 49, 49, 49, 48, 48, 48, 48, 48, 48, 49, 48, 50, 98, 48, 49, 49, 51, 48, 49, 48, 48, 48, 48, 49, 48, 50, 48, 48, 48, 48, 49, 48, 50, 97, 48, 49, 49, 49, 48, 50, 49, 48, 49, 49, 49, 48, 50, 98, 48, 53, 57, 51, 48, 48, 48, 48, 48, 48, 49, 48, 55, 98, 48, 49, 57, 51, 56, 51, 98, 48, 49, 49, 51, 48, 51, 98, 48, 49, 49, 51, 48, 48, 48, 48, 48, 48, 48, 48, 48, 48, 48, 48, 48, 48, 56, 51, 98, 48, 100, 49, 51, 48, 51, 98, 48, 49, 49, 51, 48, 49, 48, 48, 48, 48, 49, 48, 48, 48, 48, 48, 48, 48, 48, 50, 48, 48, 49, 49, 51, 48, 48, 48, 48, 49, 48, 49, 48, 48, 48, 48, 48, 48, 49, 48, 48, 48, 48, 48, 49, 49, 48, 48, 48, 48, 48, 48, 48, 48, 50, 49, 56, 49, 49, 51, 48, 48, 48, 48, 48, 48, 48, 48, 48, 48, 48, 48, 48, 49, 48, 50, 51, 48, 49, 49, 49, 48, 48, 48, 48, 48, 48, 48, 48, 48, 98, 48, 49, 57, 51, 48, 48, 51, 48, 49, 49, 49, 48, 50, 98, 48, 49, 49, 49, 99, 55, 98, 48, 49, 49, 51, 48, 51, 98, 48, 49, 49, 51, 48, 50, 56, 48, 48, 49, 51, 48, 48, 48, 48, 48, 48, 48, 56, 51, 98, 48, 49, 49, 51, 48, 50, 98, 48, 49, 49, 51, 48, 51, 98, 48, 49, 49, 51, 48, 48, 97, 48, 48, 49, 49, 48, 50, 98, 48, 49, 49, 51, 48, 50, 48, 48, 48, 49, 49, 48, 49, 48, 48, 48, 48, 48, 48, 50, 98, 48, 49, 49, 49, 48, 50, 97, 48, 49, 49, 49, 48, 50, 98, 48, 49, 49, 51, 48, 49, 48, 48, 48, 48, 49, 48, 48, 48, 48, 48, 48, 49, 48, 50, 57, 48, 49, 49, 51, 48, 50, 98, 48, 49, 49, 51, 54, 54, 98, 48, 49, 49, 51, 48, 48, 48, 48, 48, 48, 48, 48, 50, 98, 48, 49, 49, 51, 97, 54, 98, 48, 55, 100, 51, 48, 55, 98, 48, 49, 49, 51, 48, 50, 48, 48, 49, 48, 51, 48, 48, 48, 48, 48, 48, 48, 56, 54, 98, 48, 53, 49, 51, 48, 51, 98, 48, 49, 49, 51, 48, 98, 56, 48, 49, 49, 51, 48, 48, 48, 48, 48, 48, 49, 48, 50, 98, 48, 53, 49, 98, 48, 51, 48, 48, 48, 49, 49, 48, 48, 48, 48, 48, 48, 48, 48, 50, 97, 48, 49, 49, 49, 48, 48, 97, 48, 49, 49, 49, 97, 50, 98, 48, 55, 57, 55, 48, 48, 97, 48, 49, 49, 49, 48, 48, 48, 48, 48, 48, 49, 48, 48, 48, 48, 49, 49, 49, 48, 48, 57, 48, 49, 49, 49, 48, 48, 57, 48, 49, 49, 49, 48, 48, 48, 48, 48, 48, 48, 50, 98, 98, 48, 53, 57, 51, 50, 50, 98, 48, 102, 57, 102, 50, 51, 98, 48, 49, 49, 51, 48, 48, 50, 48, 48, 49, 51, 48, 48, 48, 48, 48, 48, 48, 48, 54, 98, 48, 53, 57, 51, 48, 51, 98, 48, 49, 57, 51, 50, 51, 97, 48, 49, 49, 51, 48, 48, 48, 48, 48, 49, 49, 48, 50, 98, 48, 49, 49, 55, 48, 49, 48, 48, 48, 49, 49, 48, 49, 48, 48, 48, 48, 49, 48, 48, 51, 48, 49, 49, 51, 48, 48, 48, 48, 48, 49, 49, 54, 50, 98, 48, 55, 57, 51, 48, 49, 48, 48, 49, 48, 49, 48, 48, 48, 48, 48, 48, 49, 48, 50, 48, 48, 49, 49, 51, 48, 50, 57, 48, 49, 49, 49, 48, 48, 98, 48, 49, 49, 51, 48, 48, 48, 48, 48, 48, 48, 48, 101, 98, 48, 53, 49, 51, 56, 51, 98, 48, 53, 49, 51, 48, 51, 98, 48, 49, 49, 51, 48, 48, 49, 48, 48, 48, 51, 48, 48, 48, 48, 48, 48, 48, 48, 51, 57, 48, 49, 57, 51, 48, 50, 48, 48, 48, 48, 49, 48, 51, 98, 48, 48, 48, 51, 48, 48, 48, 48, 48, 48, 48, 48, 50, 51, 48, 49, 49, 51, 48, 48, 48, 48, 48, 48, 48, 48, 48, 48, 48, 48, 48, 48, 48, 48, 48, 48, 48, 48, 49, 48, 50, 48, 48, 48, 48, 49, 48, 50, 57, 48, 49, 49, 51, 48, 48, 48, 48, 48, 48, 48, 48, 48, 48, 48, 48, 48, 48, 48, 48, 48, 48, 48, 48, 48, 48, 50, 48, 48, 48, 48, 49, 48, 48, 51, 48, 49, 49, 49, 48, 48, 48, 48, 48, 48, 48, 48, 50, 98, 48, 49, 49, 51, 50, 51, 98, 48, 55, 57, 98, 48, 51, 98, 48, 49, 49, 51, 48, 50, 98, 48, 49, 49, 51, 48, 50, 49, 48, 49, 49, 49, 52, 51, 98, 48, 100, 57, 102, 48, 51, 98, 48, 49, 49, 51, 48, 51, 98, 48, 49, 49, 51, 48, 50, 48, 48, 49, 49, 49, 50, 50, 98, 48, 53, 49, 55, 48, 50, 48, 48, 49, 49, 51, 48, 49, 57, 48, 49, 49, 49, 48, 48, 98, 48, 49, 49, 49, 48, 50, 98, 48, 49, 49, 51, 54, 97, 98, 48, 49, 57, 51, 48, 49, 48, 48, 48, 48, 49, 48, 50, 49, 48, 49, 49, 51, 48, 50, 98, 48, 49, 49, 51, 48, 50, 57, 48, 49, 48, 51, 48, 50, 98, 48, 51, 49, 51, 48, 48, 48, 48, 48, 48, 48, 52, 50, 98, 56, 49, 57, 51, 56, 51, 51, 48, 49, 49, 98, 48, 51, 51, 48, 49, 49, 51, 48, 50, 48, 48, 48, 48, 48, 48, 48, 48, 48, 48, 48, 48, 48, 51, 51, 48, 53, 49, 51, 48, 48, 48, 48, 49, 49, 49, 48, 48, 48, 48, 48, 48, 48, 48, 48, 48, 48, 48, 49, 48, 48, 50, 51, 48, 53, 57, 51, 48, 49, 48, 48, 48, 49, 51, 48, 49, 48, 48, 48, 48, 49, 48, 48, 51, 48, 49, 49, 49, 48, 48, 48, 48, 48, 48, 49, 48, 50, 51, 48, 49, 49, 51, 48, 49, 48, 48, 48, 48, 49, 48, 48, 48, 48, 48, 48, 49, 48, 48, 48, 48, 48, 49, 49, 48, 50, 48, 48, 48, 48, 48, 48, 48, 51, 56, 53, 49, 51, 48, 48, 49, 48, 49, 49, 49, 48, 50, 98, 48, 49, 49, 51, 54, 51, 98, 56, 55, 55, 51, 48, 51, 98, 48, 49, 49, 51, 97, 50, 98, 48, 57, 49, 51, 48, 48, 50, 48, 49, 49, 49, 53, 55, 102, 48, 55, 98, 51, 48, 50, 98, 48, 49, 49, 51, 101, 51, 102, 48, 100, 49, 55, 48, 49, 98, 48, 49, 49, 49, 48, 97, 98, 57, 55, 49, 51, 48, 51, 98, 48, 49, 49, 51, 48, 50, 57, 48, 48, 49, 51, 48, 50, 98, 48, 49, 49, 51, 48, 50, 98, 48, 49, 49, 51, 48, 50, 98, 48, 55, 49, 51, 48, 51, 51, 48, 49, 49, 51, 48, 50, 51, 48, 49, 49, 51, 48, 50, 98, 48, 49, 49, 51, 48, 97, 98, 48, 49, 49, 51, 102, 101, 98, 52, 49, 49, 51, 48, 48, 57, 48, 49, 49, 49, 52, 55, 98, 56, 55, 49, 51, 48, 55, 98, 48, 53, 100, 51, 48, 51, 98, 48, 49, 49, 51, 48, 50, 49, 48, 49, 53, 51, 48, 48, 48, 48, 49, 49, 49, 48, 54, 98, 48, 53, 49, 51, 48, 50, 98, 48, 49, 49, 51, 48, 51, 51, 48, 49, 49, 49, 48, 48, 48, 48, 48, 48, 49, 56, 101, 98, 48, 53, 49, 51, 48, 50, 97, 48, 49, 48, 51, 48, 51, 48, 48, 48, 48, 49, 48, 50, 98, 48, 49, 49, 49, 48, 50, 48, 48, 48, 49, 51, 48, 50, 98, 48, 55, 49, 51, 48, 49, 48, 48, 48, 48, 49, 48, 48, 48, 48, 48, 48, 49, 48, 48, 98, 48, 49, 49, 51, 48, 48, 49, 48, 49, 49, 49, 48, 50, 98, 48, 49, 49, 51, 48, 48, 48, 48, 48, 48, 48, 54, 54, 98, 48, 53, 57, 51, 48, 51, 98, 48, 57, 53, 51, 48, 51, 98, 48, 49, 49, 51, 48, 50, 48, 48, 48, 49, 49, 48, 48, 48, 48, 48, 48, 48, 48, 51, 98, 48, 49, 49, 51, 48, 50, 48, 48, 48, 48, 49, 48, 49, 48, 48, 48, 48, 49, 48, 48, 48, 48, 48, 48, 48, 48, 97, 98, 48, 49, 49, 51, 48, 49, 48, 48, 49, 48, 51, 48, 49, 48, 48, 48, 48, 49, 48, 48, 51, 48, 49, 49, 49, 48, 50, 48, 48, 48, 48, 48, 48, 50, 51, 48, 49, 49, 51, 48, 51, 48, 48, 48, 48, 49, 48, 48, 48, 48, 48, 48, 48, 48, 48, 48, 48, 48, 48, 49, 48, 48, 48, 48, 48, 48, 49, 48, 50, 57, 48, 48, 48, 49, 48, 48, 48, 48, 48, 48, 48, 56, 54, 51, 48, 49, 49, 51, 48, 55, 98, 48, 49, 53, 51, 48, 51, 98, 48, 49, 49, 51, 48, 50, 49, 48, 49, 53, 49, 48, 48, 48, 48, 48, 48, 48, 48, 51, 98, 48, 49, 49, 51, 48, 50, 98, 48, 49, 49, 51, 48, 49, 48, 48, 48, 49, 49, 48, 50, 48, 48, 48, 49, 49, 48, 50, 98, 48, 49, 49, 51, 48, 50, 48, 48, 49, 49, 49, 48, 48, 48, 48, 48, 48, 48, 48, 50, 98, 48, 49, 49, 49, 48, 48, 49, 48, 48, 48, 49, 48, 50, 98, 48, 49, 49, 51, 48, 49, 48, 48, 48, 48, 49, 48, 48, 48, 48, 48, 49, 49, 48, 50, 98, 48, 49, 49, 49, 48, 50, 49, 48, 49, 49, 49, 48, 50, 98, 48, 49, 49, 51, 48, 48, 48, 48, 48, 48, 48, 48, 50, 98, 48, 51, 57, 51, 48, 50, 98, 48, 49, 49, 51, 48, 51, 98, 48, 49, 49, 51, 48, 50, 48, 48, 48, 48, 51, 48, 48, 48, 48, 48, 48, 48, 48, 51, 98, 48, 49, 57, 51, 48, 50, 98, 48, 49, 49, 51, 48, 51, 98, 48, 49, 49, 49, 48, 48, 48, 48, 48, 48, 49, 48, 50, 98, 48, 49, 49, 51, 48, 50, 49, 48, 49, 49, 51, 48, 50, 48, 48, 48, 48, 49, 48, 48, 48, 48, 49, 48, 49, 48, 48, 48, 48, 48, 48, 49, 48, 50, 98, 48, 49, 49, 51, 48, 50, 48, 48, 49, 49, 49, 48, 50, 48, 48, 48, 48, 49, 48, 50, 98, 48, 49, 49, 51, 48, 48, 49, 48, 49, 49, 49, 48, 50, 51, 48, 49, 49, 51, 48, 48, 48, 48, 48, 48, 48, 48, 50, 98, 48, 49, 49, 51, 48, 51, 98, 48, 51, 49, 51, 48, 51, 98, 48, 49, 49, 51, 48, 50, 48, 48, 48, 48, 49, 48, 48, 48, 48, 48, 48, 48, 48, 51, 98, 48, 53, 49, 51, 48, 50, 98, 48, 49, 49, 51, 48, 49, 48, 48, 48, 49, 49, 48, 48, 48, 48, 48, 49, 49, 52, 50, 98, 48, 49, 49, 51, 48, 48, 48, 48, 48, 49, 49, 48, 48, 48, 48, 48, 48, 49, 48, 50, 56, 48, 48, 49, 49, 48, 48, 48, 48, 48, 48, 49, 48, 50, 98, 48, 49, 49, 51, 48, 49, 48, 48, 48, 48, 49, 48, 48, 48, 48, 48, 48, 49, 48, 50, 51, 48, 49, 49, 51, 48, 50, 49, 48, 49, 49, 49, 48, 48, 98, 48, 53, 57, 51, 48, 48, 51, 48, 49, 49, 49, 48, 50, 98, 48, 49, 49, 51, 50, 51, 98, 48, 53, 49, 55, 48, 51, 98, 48, 49, 49, 51, 48, 48, 48, 48, 48, 48, 51, 48, 48, 48, 48, 48, 48, 48, 48, 51, 98, 48, 49, 49, 51, 48, 50, 98, 48, 49, 49, 51, 48, 51, 51, 48, 49, 49, 49, 48, 48, 97, 48, 49, 48, 49, 48, 50, 98, 48, 49, 49, 51, 48, 50, 48, 48, 48, 48, 49, 48, 48, 48, 48, 48, 48, 48, 48, 48, 48, 48, 48, 49, 49, 48, 48, 97, 48, 49, 49, 49, 48, 50, 98, 48, 53, 57, 51, 48, 50, 48, 48, 48, 48, 49, 48, 48, 48, 48, 48, 48, 48, 48, 48, 57, 48, 49, 49, 49, 48, 50, 57, 48, 49, 49, 49, 48, 48, 98, 48, 49, 49, 49, 48, 48, 48, 48, 48, 48, 48, 48, 50, 98, 48, 49, 49, 51, 48, 50, 98, 50, 49, 49, 51, 48, 51, 98, 48, 49, 49, 51, 48, 50, 48, 48, 48, 48, 49, 48, 48, 48, 48, 48, 48, 48, 48, 50, 98, 48, 53, 49, 51, 48, 50, 98, 48, 49, 49, 51, 48, 51, 98, 48, 49, 49, 51, 48, 48, 50, 48, 49, 49, 49, 50, 50, 98, 50, 49, 49, 51, 48, 50, 56, 48, 49, 49, 51, 48, 50, 56, 48, 48, 49, 51, 48, 50, 97, 48, 49, 49, 51, 48, 48, 97, 48, 49, 49, 49, 48, 50, 57, 50, 49, 49, 51, 48, 50, 49, 48, 49, 49, 49, 48, 50, 48, 48, 49, 49, 51, 48, 50, 98, 48, 49, 49, 51, 48, 50, 57, 48, 49, 49, 51, 50, 50, 98, 48, 51, 100, 51, 48, 50, 51, 48, 49, 49, 49, 48, 50, 98, 48, 49, 49, 51]
set_option maxRecDepth 100000 in
theorem mem_len : mem.length = 2793 := by decide +kernel
set_option maxRecDepth 100000 in
theorem mem_hex : ∀ c ∈ mem, (48 ≤ c.toNat ∧ c.toNat ≤ 57) ∨ (97 ≤ c.toNat ∧ c.toNat ≤ 102) := by decide +kernel
def dig (c : UInt8) : Nat := if 97 ≤ c.toNat then c.toNat - 87 else c.toNat - 48
/-- a group's digits -/
def dg (g i : Nat) : Nat := dig (mem.getD (7 * g + i) 0)
theorem mem_at (k : Nat) (h : k < 2793) : mem.getD k 0 ∈ mem := by
  rw [List.getD_eq_getElem?_getD, List.getElem?_eq_getElem (by rw [mem_len]; exact h)]
  exact List.getElem_mem _
theorem dig_lt {c : UInt8} (h : (48 ≤ c.toNat ∧ c.toNat ≤ 57) ∨ (97 ≤ c.toNat ∧ c.toNat ≤ 102)) : dig c < 16 := by unfold dig; split <;> omega
theorem dg_lt (g i : Nat) (h : 7 * g + i < 2793) : dg g i < 16 := dig_lt (mem_hex _ (mem_at _ h))
/-- the first digits of a group, as a number -/
def maskK (g : Nat) : Nat → Nat
  | 0 => 0
  | k + 1 => maskK g k * 16 + dg g k
def maskN (g : Nat) : Nat := maskK g 7
theorem maskK_lt (g : Nat) : ∀ k, 7 * g + k ≤ 2793 → maskK g k < 16 ^ k
  | 0, _ => by simp [maskK]
  | k + 1, h => by
    have ih := maskK_lt g k (by omega)
    have hd := dg_lt g k (by omega)
    have e : 16 ^ (k + 1) = 16 ^ k * 16 := Nat.pow_succ ..
    unfold maskK
    omega
theorem maskN_lt (g : Nat) (h : g < 399) : maskN g < 2 ^ 28 := maskK_lt g 7 (by omega)
theorem maskK_bit (g : Nat) : ∀ k b, 7 * g + k ≤ 2793 → b < 4 * k → maskK g k / 2 ^ b % 2 = dg g (k - 1 - b / 4) / 2 ^ (b % 4) % 2
  | 0, b, _, h => by omega
  | k + 1, b, hk, h => by
    have hd := dg_lt g k (by omega)
    unfold maskK
    by_cases h4 : b < 4
    · have e1 : k + 1 - 1 - b / 4 = k := by omega
      have e2 : b % 4 = b := by omega
      rw [e1, e2]
      have hb : b = 0 ∨ b = 1 ∨ b = 2 ∨ b = 3 := by omega
      rcases hb with rfl | rfl | rfl | rfl <;> simp only [Nat.reducePow] <;> omega
    · obtain ⟨c, rfl⟩ : ∃ c, b = 4 + c := ⟨b - 4, by omega⟩
      have ih := maskK_bit g k c (by omega) (by omega)
      have e1 : k + 1 - 1 - (4 + c) / 4 = k - 1 - c / 4 := by omega
      have e2 : (4 + c) % 4 = c % 4 := by omega
      rw [e1, e2, ← ih, Nat.pow_add, ← Nat.div_div_eq_div_mul]
      have e3 : (maskK g k * 16 + dg g k) / 2 ^ 4 = maskK g k := by
        simp only [Nat.reducePow]; omega
      rw [e3]
/-- is the n-th syllable in the rows? -/
def inB (n : Nat) : Bool := decide (maskN (n / 28) / 2 ^ (n % 28) % 2 = 1)
theorem inB_digit (n : Nat) (h : n < 11172) : inB n = decide (dg (n / 28) (6 - n % 28 / 4) / 2 ^ (n % 28 % 4) % 2 = 1) := by
  unfold inB maskN
  rw [maskK_bit (n / 28) 7 (n % 28) (by omega) (by omega)]

/-- how many of the lowest bits are set -/
def cnt (m : Nat) : Nat → Nat
  | 0 => 0
  | j + 1 => cnt m j + m / 2 ^ j % 2
theorem cnt_add (m a : Nat) : ∀ b, cnt m (a + b) = cnt m a + cnt (m / 2 ^ a) b
  | 0 => rfl
  | b + 1 => by
    show cnt m (a + b) + m / 2 ^ (a + b) % 2 = cnt m a + (cnt (m / 2 ^ a) b + m / 2 ^ a / 2 ^ b % 2)
    rw [cnt_add m a b, Nat.pow_add, Nat.div_div_eq_div_mul, Nat.add_assoc]
theorem bit_mod (m a i : Nat) (h : i < a) : m % 2 ^ a / 2 ^ i % 2 = m / 2 ^ i % 2 := by
  obtain ⟨d, rfl⟩ : ∃ d, a = i + (d + 1) := ⟨a - i - 1, by omega⟩
  rw [Nat.pow_add, Nat.mod_mul_right_div_self]
  exact Nat.mod_mod_of_dvd _ (by rw [Nat.pow_succ]; exact Nat.dvd_mul_left ..)
theorem cnt_mod (m a : Nat) : ∀ j, j ≤ a → cnt (m % 2 ^ a) j = cnt m j
  | 0, _ => rfl
  | j + 1, h => by
    unfold cnt
    rw [cnt_mod m a j (by omega), bit_mod m a j (by omega)]
theorem cnt_nil : ∀ j, cnt 0 j = 0
  | 0 => rfl
  | j + 1 => by unfold cnt; rw [cnt_nil j]; simp
theorem cnt_le (m : Nat) : ∀ j, cnt m j ≤ j
  | 0 => Nat.le_refl _
  | j + 1 => by
    have := cnt_le m j
    unfold cnt
    have : m / 2 ^ j % 2 < 2 := Nat.mod_lt _ (by decide)
    omega
theorem cnt_mono (m : Nat) {i j : Nat} (h : i ≤ j) : cnt m i ≤ cnt m j := by
  obtain ⟨d, rfl⟩ := Nat.exists_eq_add_of_le h
  rw [cnt_add]; omega
theorem cnt_all (m a j : Nat) (h : m < 2 ^ a) (hj : a ≤ j) : cnt m j = cnt m a := by
  obtain ⟨d, rfl⟩ := Nat.exists_eq_add_of_le hj
  rw [cnt_add, Nat.div_eq_of_lt h, cnt_nil, Nat.add_zero]
/-- the bits below a place -/
theorem cnt_below (m j : Nat) (h : j ≤ 32) : cnt (m % 2 ^ j) 32 = cnt m j := by
  rw [cnt_all _ j 32 (Nat.mod_lt _ (Nat.two_pow_pos _)) h, cnt_mod m j j (Nat.le_refl _)]
/-- the bits of a number of 32, byte for byte -/
theorem cnt_bytes (x : Nat) : cnt x 32 = cnt (x / 2 ^ 24 % 2 ^ 8) 8 + cnt (x / 2 ^ 16 % 2 ^ 8) 8 + cnt (x / 2 ^ 8 % 2 ^ 8) 8 + cnt (x % 2 ^ 8) 8 := by
  rw [cnt_mod _ 8 8 (Nat.le_refl _), cnt_mod _ 8 8 (Nat.le_refl _), cnt_mod _ 8 8 (Nat.le_refl _), cnt_mod _ 8 8 (Nat.le_refl _)]
  have e1 := cnt_add x 8 24
  have e2 := cnt_add (x / 2 ^ 8) 8 16
  have e3 := cnt_add (x / 2 ^ 8 / 2 ^ 8) 8 8
  rw [Nat.div_div_eq_div_mul] at e2 e3
  rw [Nat.div_div_eq_div_mul] at e3
  simp only [Nat.reduceMul, Nat.reducePow, Nat.reduceAdd] at *
  omega

/-- a number whose lowest set bit is taken away -/
def clr (m : Nat) : Nat := m &&& (m - 1)
def clrK : Nat → Nat → Nat
  | m, 0 => m
  | m, k + 1 => clrK (clr m) k
theorem clrK_succ : ∀ (k m : Nat), clrK m (k + 1) = clr (clrK m k)
  | 0, _ => rfl
  | k + 1, m => clrK_succ k (clr m)
theorem clr_low (t a : Nat) : clr (2 ^ t * (2 * a + 1)) = 2 ^ t * (2 * a) := by
  have hp : 0 < 2 ^ t := Nat.two_pow_pos _
  have e : 2 ^ t * (2 * a + 1) - 1 = 2 ^ t * (2 * a) + (2 ^ t - 1) := by
    rw [Nat.mul_add, Nat.mul_one]; omega
  unfold clr
  rw [e]
  apply Nat.eq_of_testBit_eq
  intro i
  rw [Nat.testBit_and, Nat.testBit_two_pow_mul_add _ (by omega)]
  rw [Nat.mul_comm (2 ^ t), Nat.mul_comm (2 ^ t), Nat.testBit_mul_two_pow, Nat.testBit_mul_two_pow]
  by_cases h : i < t
  · have : ¬ t ≤ i := by omega
    simp [h, this]
  · have h2 : t ≤ i := by omega
    simp only [h2, decide_true, Bool.true_and, h, if_false]
    by_cases h0 : i - t = 0
    · rw [h0]; simp [Nat.testBit_zero]
    · obtain ⟨j, hj⟩ : ∃ j, i - t = j + 1 := ⟨i - t - 1, by omega⟩
      rw [hj, Nat.testBit_succ, Nat.testBit_succ]
      have d1 : (2 * a + 1) / 2 = a := by omega
      have d2 : (2 * a) / 2 = a := by omega
      rw [d1, d2, Bool.and_self]
theorem bit_low (t x i : Nat) : 2 ^ t * x / 2 ^ i % 2 = if i < t then 0 else x / 2 ^ (i - t) % 2 := by
  split
  · rename_i h
    obtain ⟨d, rfl⟩ : ∃ d, t = i + (d + 1) := ⟨t - i - 1, by omega⟩
    rw [Nat.pow_add, Nat.mul_assoc, Nat.mul_div_cancel_left _ (Nat.two_pow_pos _), Nat.pow_succ, Nat.mul_right_comm]
    omega
  · rename_i h
    obtain ⟨d, rfl⟩ : ∃ d, i = t + d := ⟨i - t, by omega⟩
    have e : t + d - t = d := by omega
    rw [e, Nat.pow_add, ← Nat.div_div_eq_div_mul, Nat.mul_div_cancel_left _ (Nat.two_pow_pos _)]
theorem cnt_low (t x : Nat) : ∀ j, cnt (2 ^ t * x) j = cnt x (j - t)
  | 0 => by simp [cnt]
  | j + 1 => by
    have ih := cnt_low t x j
    unfold cnt
    rw [ih, bit_low]
    split
    · rename_i h
      have e1 : j - t = 0 := by omega
      have e2 : j + 1 - t = 0 := by omega
      rw [e1, e2]; rfl
    · rename_i h
      have e : j + 1 - t = j - t + 1 := by omega
      rw [e]
theorem cnt_odd (a : Nat) : ∀ j, cnt (2 * a + 1) (j + 1) = cnt (2 * a) (j + 1) + 1
  | 0 => by unfold cnt cnt; simp
  | j + 1 => by
    have ih := cnt_odd a j
    have e1 : cnt (2 * a + 1) (j + 1 + 1) = cnt (2 * a + 1) (j + 1) + (2 * a + 1) / 2 ^ (j + 1) % 2 := rfl
    have e2 : cnt (2 * a) (j + 1 + 1) = cnt (2 * a) (j + 1) + (2 * a) / 2 ^ (j + 1) % 2 := rfl
    have e3 : (2 * a + 1) / 2 ^ (j + 1) = (2 * a) / 2 ^ (j + 1) := by
      rw [Nat.pow_succ', ← Nat.div_div_eq_div_mul, ← Nat.div_div_eq_div_mul]
      congr 1; omega
    rw [e1, e2, ih, e3]; omega
/-- THE SET BIT OF A NUMBER -/
theorem nth_bit : ∀ (n m : Nat), m < 2 ^ 28 → n < cnt m 28 →
    0 < clrK m n ∧ clrK m n < 2 ^ 28 ∧ Lib.ctz 32 (clrK m n) < 28 ∧ m / 2 ^ Lib.ctz 32 (clrK m n) % 2 = 1 ∧ cnt m (Lib.ctz 32 (clrK m n)) = n
  | n, m, hm, hn => by
    have h0 : 0 < m := by
      rcases Nat.eq_zero_or_pos m with h | h
      · subst h; rw [cnt_nil] at hn; omega
      · exact h
    obtain ⟨a, ha, ht⟩ := Lib.ctzFrom_spec 32 m h0 (by omega)
    have hct : Lib.ctz 32 m = Lib.ctzFrom 32 m := by unfold Lib.ctz; rw [if_neg (by omega)]
    rw [← hct] at ha ht
    generalize hT : Lib.ctz 32 m = t at *
    have ht28 : t < 28 := by
      have h1 : 2 ^ t ≤ m := by rw [ha]; exact Nat.le_mul_of_pos_right _ (by omega)
      exact (Nat.pow_lt_pow_iff_right (by decide : 1 < 2)).1 (Nat.lt_of_le_of_lt h1 hm)
    have hbt : m / 2 ^ t % 2 = 1 := by
      rw [ha, bit_low, if_neg (by omega), Nat.sub_self]; simp
    have hct0 : cnt m t = 0 := by rw [ha, cnt_low, Nat.sub_self]; rfl
    cases n with
    | zero =>
      show 0 < m ∧ m < 2 ^ 28 ∧ Lib.ctz 32 m < 28 ∧ m / 2 ^ Lib.ctz 32 m % 2 = 1 ∧ cnt m (Lib.ctz 32 m) = 0
      rw [hT]
      exact ⟨h0, hm, ht28, hbt, hct0⟩
    | succ n =>
      have hc : clr m = 2 ^ t * (2 * a) := by rw [ha]; exact clr_low t a
      have hcl : clr m ≤ m := Nat.and_le_left
      have hcnt : ∀ j, t < j → cnt m j = cnt (clr m) j + 1 := fun j hj => by
        rw [hc, ha, cnt_low, cnt_low]
        obtain ⟨d, hd⟩ : ∃ d, j - t = d + 1 := ⟨j - t - 1, by omega⟩
        rw [hd, cnt_odd]
      have hbit : ∀ i, i ≠ t → m / 2 ^ i % 2 = clr m / 2 ^ i % 2 := fun i hi => by
        rw [hc, ha, bit_low, bit_low]
        split
        · rfl
        · obtain ⟨d, hd⟩ : ∃ d, i - t = d + 1 := ⟨i - t - 1, by omega⟩
          rw [hd]
          congr 1
          rw [Nat.pow_succ', ← Nat.div_div_eq_div_mul, ← Nat.div_div_eq_div_mul]
          congr 1
          have e1 : (2 * a + 1) / 2 = a := by omega
          have e2 : (2 * a) / 2 = a := by omega
          rw [e1, e2]
      have h28 := hcnt 28 ht28
      obtain ⟨g0, g1, g2, g3, g4⟩ := nth_bit n (clr m) (by omega) (by omega)
      show 0 < clrK (clr m) n ∧ clrK (clr m) n < 2 ^ 28 ∧ Lib.ctz 32 (clrK (clr m) n) < 28 ∧ m / 2 ^ Lib.ctz 32 (clrK (clr m) n) % 2 = 1 ∧ cnt m (Lib.ctz 32 (clrK (clr m) n)) = n + 1
      generalize Lib.ctz 32 (clrK (clr m) n) = p at *
      have hpt : t < p := by
        rw [hc, bit_low] at g3
        by_cases h : p < t
        · rw [if_pos h] at g3; omega
        · rw [if_neg h] at g3
          by_cases h' : p = t
          · subst h'; rw [Nat.sub_self] at g3; simp at g3
          · omega
      refine ⟨g0, g1, g2, ?_, ?_⟩
      · rw [hbit p (by omega)]; exact g3
      · rw [hcnt p hpt, g4]
/-- the other bits -/
def compl (m : Nat) : Nat := 2 ^ 28 - 1 - m
theorem compl_bit (m i : Nat) (hm : m < 2 ^ 28) (hi : i < 28) : compl m / 2 ^ i % 2 = 1 - m / 2 ^ i % 2 := by
  have h := Nat.testBit_two_pow_sub_succ hm i
  have e : 2 ^ 28 - (m + 1) = compl m := by unfold compl; omega
  rw [e, Nat.testBit_eq_decide_div_mod_eq, Nat.testBit_eq_decide_div_mod_eq] at h
  simp only [hi, decide_true, Bool.true_and] at h
  have h2 : m / 2 ^ i % 2 = 0 ∨ m / 2 ^ i % 2 = 1 := by omega
  have h3 : compl m / 2 ^ i % 2 = 0 ∨ compl m / 2 ^ i % 2 = 1 := by omega
  rcases h2 with h2 | h2 <;> rcases h3 with h3 | h3 <;> simp [h2, h3] at h ⊢
theorem compl_lt (m : Nat) : compl m < 2 ^ 28 := by unfold compl; omega
theorem compl_cnt (m : Nat) (hm : m < 2 ^ 28) : ∀ j, j ≤ 28 → cnt (compl m) j = j - cnt m j
  | 0, _ => rfl
  | j + 1, h => by
    have ih := compl_cnt m hm j (by omega)
    have hb := compl_bit m j hm (by omega)
    have hl := cnt_le m j
    have : m / 2 ^ j % 2 < 2 := Nat.mod_lt _ (by decide)
    unfold cnt
    rw [ih, hb]
    omega
end Go.Proofs.Dia
