/- the arguments, opened: slices of strings and of floats -/
import Derived.Test.Qxb6002652aBase
import Derived.ProofKit
import Derived.OpenShut
import Derived.ShutString
import Derived.ChangeOld
import Derived.Below
import Derived.Deep.Slices
namespace Go.Proofs.Qxb6002652a.Wt
open Go.ChangeShapes Go.WideShapes Go.ChangeAt Go.RowKit

theorem trod_float {H : Type} {enc : TypeId × Value → H} {P : Program} {w : World} {base : Nat} {spare : Nat → Bool} {held : Bool} {fuel : Nat} {t : TypeId} {cs : List Value} {x : DataW H × List MemPlace} {k : FloatKind}
    (ht : P.underlying t = some (.float k)) (h : DataW.trod enc P w base spare held fuel t cs = some x) : ∃ n, cs = [.float k n] := by
  cases fuel with
  | zero => simp [DataW.trod] at h
  | succ n =>
    unfold DataW.trod at h
    rw [ht] at h
    split at h <;> simp_all

/-- out of cells by 'Addr.add' to cells by block and offset -/
theorem row_of {f : Nat → Value} {w : World} {a : Addr} {len m : Nat} (hl : len ≤ maxLen) (hm : len ≤ m) (h : ∀ i, i < m → w.cell? (a.add i) = some (f i)) : Row f w (some a) len := by
  refine ⟨by unfold maxLen at hl; omega, fun hn => ?_⟩
  obtain ⟨b, off, spot⟩ := a
  have hspot : spot = none := by simpa [Addr.add] using World.cell?_spot (h 0 (by omega))
  subst hspot
  exact ⟨b, off, rfl, fun j hj => by rw [← Go.WideShapes.add_plain]; exact h j (by omega)⟩

theorem row_nil (f : Nat → Value) (w : World) (ao : Option Addr) : Row f w ao 0 := ⟨by omega, fun h => by omega⟩

theorem open_S {H : Type} {enc : TypeId × Value → H} {W : World} {a : Option Addr} {len cap : Nat} {d : DataW H} {p : List MemPlace}
    (h : DataW.Trod enc Try.prog W 0 (fun _ => true) true 22 (.slice a len cap) d p) : ∃ T, Row (S T) W a len := by
  obtain ⟨fuel, hf⟩ := h
  rcases Go.Deep.open_slice1 Try.underlying22 (by kernel_rfl) hf with ⟨hcs, _⟩ | ⟨x, l, c, m, n, V, D, Pl, hcs, _, hl, hm, hmm, _, hx⟩
  · simp [Value.cells] at hcs
    obtain ⟨rfl, rfl, rfl⟩ := hcs
    exact ⟨fun _ => ByteArray.empty, row_nil _ _ _⟩
  · simp [Value.cells] at hcs
    obtain ⟨rfl, rfl, rfl⟩ := hcs
    simp only [if_true] at hmm
    obtain ⟨T, hT⟩ := Go.Deep.choose_lt (α := ByteArray) (n := m) (p := fun i s => V i = .string s) (fun i hi => by
      obtain ⟨s, hs, _⟩ := DataW.trod_string Try.underlying9 (hx i hi).2
      exact ⟨s, by simpa using hs⟩)
    exact ⟨T, row_of (m := m) (Nat.le_trans hl hm) (by omega) (fun i hi => by rw [(hx i hi).1, hT i hi]; rfl)⟩

theorem open_F {H : Type} {enc : TypeId × Value → H} {W : World} {a : Option Addr} {len cap : Nat} {d : DataW H} {p : List MemPlace}
    (h : DataW.Trod enc Try.prog W 0 (fun _ => true) true 23 (.slice a len cap) d p) : ∃ Q, Row (F Q) W a len := by
  obtain ⟨fuel, hf⟩ := h
  rcases Go.Deep.open_slice1 Try.underlying23 (by kernel_rfl) hf with ⟨hcs, _⟩ | ⟨x, l, c, m, n, V, D, Pl, hcs, _, hl, hm, hmm, _, hx⟩
  · simp [Value.cells] at hcs
    obtain ⟨rfl, rfl, rfl⟩ := hcs
    exact ⟨fun _ => 0, row_nil _ _ _⟩
  · simp [Value.cells] at hcs
    obtain ⟨rfl, rfl, rfl⟩ := hcs
    simp only [if_true] at hmm
    obtain ⟨Q, hQ⟩ := Go.Deep.choose_lt (α := Nat) (n := m) (p := fun i s => V i = .float .f64 s) (fun i hi => by
      obtain ⟨s, hs⟩ := trod_float Try.underlying24 (hx i hi).2
      exact ⟨s, by simpa using hs⟩)
    exact ⟨Q, row_of (m := m) (Nat.le_trans hl hm) (by omega) (fun i hi => by rw [(hx i hi).1, hQ i hi]; rfl)⟩

end Go.Proofs.Qxb6002652a.Wt
