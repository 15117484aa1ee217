/-
  SMALL LAWS: a slice of bytes that the call owns, made into a string; the loop that writes an address escaped.
-/
import Derived.Test.Qxb6600360aState
import Derived.Test.Qxb6600360aEsc
import Derived.WalkKit
namespace Go.Proofs.Qxb6600360a
open Go.RowKit

theorem foldl_push : ∀ (l : List UInt8) (acc : ByteArray), (l.map fun b => (b.toNat : Int)).foldl (fun r n => r.push (UInt8.ofNat n.toNat)) acc = ⟨acc.data ++ l.toArray⟩
  | [], acc => by simp
  | b :: l, acc => by
    rw [List.map_cons, List.foldl_cons, foldl_push l]
    simp [ByteArray.push]

theorem run_str {w : World} {base g n cap : Nat} {l : List UInt8} (h : w.ownsRow base 5 1 (.slice (some ⟨g, 0, none⟩) n cap) n (l.map vB)) (hn : l.length = n) :
    (convert 26 9 (.slice (some ⟨g, 0, none⟩) n cap)).run Try.prog w = .ok (.string ⟨l.toArray⟩) w := by
  rw [run_convert_bytes_string w 26 9 5 _ _ _ Try.underlying26 Try.underlying5 Try.underlying9]
  have hl : l.map vB = (l.map fun b => (b.toNat : Int)).map (Value.int .u8) := by simp [vB]
  have h1 := run_loadCells_list (P := Try.prog) w ⟨g, 0, none⟩ (l.map vB) (h.cells (g := g) rfl)
  rw [List.length_map, hn, hl] at h1
  rw [run_bytesToString w ⟨g, 0, none⟩ n cap _ h1, foldl_push]
  simp

end Go.Proofs.Qxb6600360a
