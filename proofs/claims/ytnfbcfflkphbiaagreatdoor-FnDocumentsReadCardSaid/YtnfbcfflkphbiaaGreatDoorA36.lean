/-
  Texts of the proof, joined: J2. No Go text.
-/
import Derived.Test.YtnfbcfflkphbiaaGreatDoorA35
import Derived.Test.YtnfbcfflkphbiaaGreatDoorRows
import Derived.LaidEql
import Derived.MakeChecks
namespace Go.Proofs.YtnfbcfflkphbiaaGreatDoor
open Go Go.Proofs Tryz
set_option linter.all false
set_option maxRecDepth 100000
set_option maxHeartbeats 8000000
section
open Go Go.Proofs Go.ChangeShapes Tryz
theorem gEOF : prog.globalNamed "io.EOF" = some 0 := by kernel_rfl
theorem tEOF : (prog.globals[0]?).map (·.type) = some 141 := by kernel_rfl
theorem star_es : "*" ++ "errors.errorString" = "*errors.errorString" := by decide
theorem row_es (u : TypeId) (h : prog.typeName? 3 u = some "*errors.errorString") : u = 235 :=
 typeName_ptr_named (nm := "errors.errorString") (by rw [star_es]; kernel_rfl) (by kernel_rfl) (by decide) u (by rw [star_es]; exact h)
theorem eof_of {W : World} (h : laidMetH prog Rows.fnDocumentsReadRow.laid W) : ∃ ev t fr, W.heap[0]? = some (.cells #[ev] t fr) ∧ EOo (.cells #[ev] t fr) ev ∧ EB 0 W ev := by
 rw [MakeChecks.laidMetH_plain _ _ _ (by kernel_rfl)] at h
 obtain ⟨ps, ⟨g0, t0, cs0, f0, p0, q0, hg0, ht0, hv0, hd0, ⟨g1, t1, cs1, f1, p1, q1, hg1, ht1, hv1, hd1, _, e1⟩, e0⟩, hnd, hrows⟩ := h
 obtain rfl := Option.some.inj (gEOF.symm.trans hg1)
 obtain rfl := Option.some.inj (tEOF.symm.trans ht1)
 obtain ⟨l1⟩ := cs1
 have ok1 : ∀ u v, l1 = [.iface u v] → Value.okWide prog W .any 0 u v := fun u v e => by
  subst e
  exact (hrows 0 0 (by rw [e0, e1]; simp [MemPlace.row])).2 u v (by simpa using World.var?_cell hg1 hv1 0)
 obtain ⟨a0, s0, rfl, hc0, hs0, hz0, rfl⟩ := errorString_of_trod underlying141 row_es underlying235 underlying258 rfl rfl underlying9 (by kernel_rfl) (by kernel_rfl) hd1 ok1
 have hb : ∃ t fr, W.heap[0]? = some (.cells #[.iface 235 (.pointer (some a0))] t fr) := by
  simp only [World.var?, gEOF, Option.bind_some] at hv1
  split at hv1
  · rename_i c t fr hc
    refine ⟨t, fr, ?_⟩
    rw [hc]
    simpa using hv1
  · cases hv1
 obtain ⟨t, fr, hb⟩ := hb
 refine ⟨_, t, fr, hb, ⟨rfl, ⟨_, _, rfl⟩, fun w => ?_⟩, t, fr, hb⟩
 have k1 : (prog.info? 235).map (·.comparable) = some true := by kernel_rfl
 have k2 : (prog.info? 258).isSome = true := by kernel_rfl
 obtain ⟨i, hi, hcomp⟩ := Option.map_eq_some_iff.1 k1
 obtain ⟨j, hj⟩ := Option.isSome_iff_exists.1 k2
 exact run_eql_iface_ptr_same w a0 underlying141 underlying235 hi hcomp hj
end
end Go.Proofs.YtnfbcfflkphbiaaGreatDoor
