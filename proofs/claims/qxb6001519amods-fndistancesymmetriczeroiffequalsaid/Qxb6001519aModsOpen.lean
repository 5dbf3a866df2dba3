import Derived.Test.Qxb6001519aModsDist
import Derived.ProofKit
import Derived.OpenShut
namespace Go.Proofs.Qxb6001519aMods
open Go.ChangeShapes Go.WideShapes Go.ChangeAt Go.RowKit

theorem cells22 : Trym.prog.cellsOf 22 = 20 := by kernel_rfl
theorem cells5 : Trym.prog.cellsOf 5 = 1 := by kernel_rfl

/-- An argument of type [20]byte: twenty bytes. -/
theorem open_bytes20 {H : Type} {enc : TypeId × Value → H} {W : World} {r : Reach} {b0 base : Nat} {spare : Nat → Bool} {held : Bool} {v : Value} {d : DataW H} {ps : List MemPlace}
    (hv : Value.okWide Trym.prog W r b0 22 v) (h : DataW.Trod enc Trym.prog W base spare held 22 v d ps) : ∃ xs : List UInt8, v = .agg (ar xs) ∧ xs.length = 20 := by
  have hk : ∃ cs : Array Value, v = .agg cs ∧ cs.size = 20 := by
    simp only [Value.okWide, Trym.underlying22] at hv
    obtain ⟨cs, h1, h2, _⟩ := hv
    exact ⟨cs, h1, by rw [h2, cells22]⟩
  obtain ⟨cs, rfl, hs⟩ := hk
  obtain ⟨fuel, hf⟩ := h
  obtain ⟨xs, m, _, _, _, hl, hel⟩ := DataW.trod_array Trym.underlying22 hf
  have key : ∀ i, i < 20 → ∃ n : Int, cs[i]? = some (.int .u8 n) ∧ 0 ≤ n ∧ n ≤ 255 := by
    intro i hi
    have h1 := hel i hi
    rw [List.getElem?_eq_getElem (by omega)] at h1
    obtain ⟨n, h2, _, h3⟩ := DataW.trod_int Trym.underlying5 h1
    have h4 := bounds_u8 h3
    refine ⟨n, ?_, h4⟩
    rw [cells5, Nat.mul_one] at h2
    have h5 : ((Value.agg cs).cells.toList.drop i)[0]? = some (.int .u8 n) := by
      have := congrArg (fun l => l[0]?) h2
      simpa [List.getElem?_take] using this
    simpa [Value.cells] using h5
  refine ⟨cs.toList.map fun v => UInt8.ofNat (intOf v).toNat, ?_, by simp [hs]⟩
  congr 1
  apply Array.ext_getElem?
  intro i
  by_cases hi : i < 20
  · obtain ⟨n, h1, h2, h3⟩ := key i hi
    rw [get_ar _ _ (by simp [hs, hi]), h1]
    have h1' : cs.toList[i]? = some (.int .u8 n) := by simpa using h1
    rw [List.getD_eq_getElem?_getD, List.getElem?_map, h1']
    simp only [Option.map_some, Option.getD_some, intOf]
    congr 2
    rw [UInt8.toNat_ofNat']
    omega
  · rw [Array.getElem?_eq_none (by omega), Array.getElem?_eq_none (by rw [size_ar]; simp [hs]; omega)]
end Go.Proofs.Qxb6001519aMods
