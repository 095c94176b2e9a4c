/-
  A map of the program as the package hands it back: the walk.
  Conditions: the values are right.
-/
import Derived.Test.YtehfmaiogbehgaaDoorFrom5
import Derived.WideAt
import Derived.Deep.RegionLaw
import Derived.Deep.DeepCutAuto
namespace Go.Proofs.YtehfmaiogbehgaaDoor
open Go.RowKit Go.Maps Go.Sort

theorem at_mapD {ks : List ByteArray} {xs : List Value} (h : Rising ks) (hl : ks.length = xs.length) (k : Nat) (hk : k < ks.length) (z : DataW Value) : (mapD ks xs).atKey (.string (kth ks k).data.toList) z = .held (xs.getD k .nilIface) := by
  unfold mapD
  have hk2 : k < xs.length := by omega
  have hmem : entry (kth ks k) (xs.getD k .nilIface) ∈ List.zipWith entry ks xs := by
    rw [List.mem_iff_getElem?]
    exact ⟨k, by rw [List.getElem?_zipWith, List.getElem?_eq_getElem hk, List.getElem?_eq_getElem hk2]; simp [kth, hk, hk2]⟩
  refine Go.WideAt.atKey_mem (d := .held (xs.getD k .nilIface)) z trivial ?_ hmem
  refine List.pairwise_iff_getElem.2 fun i j hi hj hij => ?_
  simp only [List.length_zipWith] at hi hj
  simp only [List.getElem_zipWith, entry]
  intro e
  injection e with e
  have := (List.pairwise_iff_getElem.1 h) i j (by omega) (by omega) hij
  rw [e, keyLt_irrefl] at this
  cases this
/-- The key's element. -/
theorem look_up {w : World} {b : Nat} {ks : List ByteArray} {xs : List Value} (hm : MapV w b ks xs) (h : Rising ks) (hl : ks.length = xs.length) (hsz : ∀ s ∈ ks, s.size ≤ 9223372036854775807) (k : Nat) (hk : k < ks.length) :
    (Instr.lookup 70 (.map (some b)) (.string (kth ks k)) false).run Tryd.prog w = .ok (xs.getD k .nilIface) w := by
  obtain ⟨n, hown, _⟩ := hm
  obtain ⟨v, ps, hrun, hv⟩ := hown.lookup (Maps.string_keyed Tryd.underlying9) Tryd.underlying70 (z := .nilIface) (by kernel_rfl) (zd := .held .nilIface) (zp := []) rfl (WideMaps.keyOf_string_mk Tryd.underlying9 (by have := hsz _ (kth_mem ks k hk); unfold maxLen; omega))
  rw [at_mapD h hl k hk] at hv
  simp only [held, Option.some.injEq, Prod.mk.injEq, DataW.held.injEq] at hv
  rw [hrun, hv.1]
end Go.Proofs.YtehfmaiogbehgaaDoor
