/- What the call itself has gathered: bytes and rows in memory of its own; how it stays. -/
import Derived.Test.YtdciccgeabdmcaaMem
import Derived.Deep.Draws
namespace Go.Proofs.Ytdciccgeabdmcaa
open Go.RowKit

/-- Bytes as cells. -/
def cells (l : List UInt8) : List Value := l.map fun b => Value.int .u8 b.toNat
theorem cells_length (l : List UInt8) : (cells l).length = l.length := by simp [cells]
theorem cells_append (l r : List UInt8) : cells (l ++ r) = cells l ++ cells r := by simp [cells]
theorem cells_string (s : ByteArray) : Lib.strCells s = cells s.data.toList := rfl

section
variable {w w' : World} {base : Nat} {e : TypeId} {size n : Nat} {v : Value} {xs : List Value}
theorem own_below (h : w.ownsRow base e size v n xs) (hb : Below w.heap.size w w') : w'.ownsRow base e size v n xs :=
  h.kept (row := none) ⟨hb.os, hb.tape, hb.output, hb.size, fun i hi _ => hb.block i hi⟩ (by cases hv : v.ownBlock <;> simp)
theorem own_heap (h : w.ownsRow base e size v n xs) (hh : w'.heap = w.heap) : w'.ownsRow base e size v n xs := by
  unfold World.ownsRow at h ⊢
  rw [hh]; exact h
theorem below_grown {B : Nat} {a : World} (h : Below B a w) (ho : w.ownsRow B e size v n xs) (hg : w.grownBy w' v.ownBlock) (hB : B ≤ w.heap.size) : Below B a w' :=
  h.grown hg hB (fun k hk => (ho.lt k hk).1)
theorem below_more {B : Nat} {a : World} (h : Below B a w) (hb : Below w.heap.size w w') (hB : B ≤ w.heap.size) : Below B a w' := h.trans (hb.mono hB)
end

theorem own_str {w : World} {B : Nat} {v : Value} {out : List UInt8} {s : ByteArray} {o2 : List UInt8} (h : w.ownsRow B 5 1 v (out.length + s.size) (cells out ++ Lib.strCells s)) (ho : o2 = out ++ s.data.toList) : w.ownsRow B 5 1 v o2.length (cells o2) := by
  subst ho
  rw [cells_append, List.length_append, size_data]
  exact h
theorem own_byte {w : World} {B : Nat} {v : Value} {out : List UInt8} {b : UInt8} {o2 : List UInt8} {c : Int} (h : w.ownsRow B 5 1 v (out.length + 1) (cells out ++ [.int .u8 c])) (hc : c = b.toNat) (ho : o2 = out ++ [b]) : w.ownsRow B 5 1 v o2.length (cells o2) := by
  subst ho hc
  rw [cells_append, List.length_append]
  exact h
theorem byte_info : (Try.prog.info? 5).map (fun i => (i.zero, i.size, i.bytes)) = some (some (.int .u8 0), 1, 1) := by kernel_rfl
theorem str_info : (Try.prog.info? 9).map (fun i => (i.zero, i.size, i.bytes)) = some (some (.string ⟨#[]⟩), 1, 16) := by kernel_rfl
theorem row_info : (Try.prog.info? 27).map (fun i => (i.zero, i.size, i.bytes)) = some (some (.agg #[.string ⟨#[]⟩, .string ⟨#[]⟩]), 2, 32) := by kernel_rfl

theorem own_conv {W W' : World} {B g cap : Nat} {out : List UInt8} (h : W.ownsRow B 5 1 (.slice (some ⟨g, 0, none⟩) out.length cap) out.length (cells out)) (hh : W'.heap = W.heap) :
    (convert 38 9 (.slice (some ⟨g, 0, none⟩) out.length cap)).run Try.prog W' = .ok (.string ⟨out.toArray⟩) W' := by
  refine run_convert_bytes_back W' 38 9 5 ⟨g, 0, none⟩ cap out Try.underlying38 Try.underlying5 Try.underlying9 (fun j hj => ?_)
  refine (own_heap h hh).cells (g := g) rfl j _ ?_
  simp [cells, List.getElem?_eq_getElem hj]
theorem conv_nil (W : World) : (convert 38 9 (.slice none 0 0)).run Try.prog W = .ok (.string ⟨#[]⟩) W := by kernel_rfl
end Go.Proofs.Ytdciccgeabdmcaa
