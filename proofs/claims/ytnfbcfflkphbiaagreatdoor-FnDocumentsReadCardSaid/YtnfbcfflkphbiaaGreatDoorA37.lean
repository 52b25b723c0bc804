/-
  Texts of the proof, joined: J3. No Go text.
-/
import Derived.Test.YtnfbcfflkphbiaaGreatDoorA36
import Derived.Test.YtnfbcfflkphbiaaGreatDoorCards
import Derived.Test.YtnfbcfflkphbiaaGreatDoorTie
import Derived.WalkKit
import Derived.ProofKit
import Derived.OpenShut
import Derived.LaidMore
import Derived.Lay
import Derived.SevenTiedAt
import Derived.Stop.Joined
namespace Go.Proofs.YtnfbcfflkphbiaaGreatDoor
open Go Go.Proofs Tryz
set_option linter.all false
set_option maxRecDepth 100000
set_option maxHeartbeats 8000000
section
open Go Go.Proofs Go.ChangeShapes Go.WideShapes Go.ChangeAt Go.RowKit Tryz
theorem own : ownKnob prog.godebug = none := by kernel_rfl
theorem same_of {H : zl} {W W' : World} (hraw : ∀ b k, (b, k) ∈ H → ∃ o, k = .raw o) (h0 : HOK H W) (h : WOK false W (H.map (·.1)) H W') : Same W W' := by
 intro i hi
 by_cases hm : i ∈ H.map (·.1)
 · obtain ⟨⟨b, k⟩, hbk, rfl⟩ := List.mem_map.1 hm
   obtain ⟨o, rfl⟩ := hraw b k hbk
   obtain ⟨o1, e1, k1⟩ := h0.ok b _ hbk
   obtain ⟨o2, e2, k2⟩ := h.hok.ok b _ hbk
   have k1' : o1 = o := k1
   have k2' : o2 = o := k2
   show W'.heap[b]? = W.heap[b]?
   rw [e1, e2, k1', k2']
 · exact h.kept.block i hi hm
theorem kept_of {W W' : World} {D : Nat → Prop} {may : MemPlace → Prop} (hk : Kept D W W') (hs : Same W W') : W.keptBut W' may := by
 refine ⟨hk.os, hk.output, fun i hi => ?_⟩
 rw [hs i hi]
 cases W.heap[i]? with
 | none => rfl
 | some o =>
  cases o with
  | cells c t fr => exact ⟨rfl, rfl, rfl, fun _ _ => rfl⟩
  | map es clock => exact .inr ⟨rfl, rfl⟩
  | _ => rfl
theorem contract (H : Type) (enc : TypeId × Value → H) (W : World) (base : Nat) (args : Array Value) (ds gs : List (DataW H)) (before : List MemPlace)
  (hval : ∀ (j : Nat) t v, Tryz.f3.params[j]? = some t → args[j]? = some v → Value.okWide prog W .any base t v)
  (hW : DataW.Whole enc prog Tryz.f3.params.toList Rows.fnDocumentsReadSpec.vars false W args.toList ds gs before) (hL : laidMetH prog Rows.fnDocumentsReadRow.laid W) :
  Calls prog 3 args W fun e W' => ∃ v, e = .returned v ∧ Rows.fnDocumentsReadSpec.post enc prog Tryz.f3 false true false false W args v W' := by
 have hW' := hW
 obtain ⟨p, q, hA0, hV, rfl, hfz, hnd⟩ := hW
 have hA : DataW.TrodAll enc prog W 0 (fun _ => true) true Tryz.f3.params.toList args.toList ds p := hA0
 rw [Tryz.params3] at hA hval
 have hA1 := hA
 obtain ⟨v0, vs0, d0, ds0, p0, q0, hargs, rfl, rfl, ⟨n0, h0⟩, r0⟩ := trodAll_cons hA
 obtain ⟨v1, vs1, d1, ds1, p1, q1, rfl, rfl, rfl, ⟨n1, h1⟩, r1⟩ := trodAll_cons r0
 obtain ⟨rfl, rfl, rfl⟩ := trodAll_nil r1
 obtain rfl : args = #[v0, v1] := by cases args; simp_all
 obtain ⟨rfl, rfl⟩ := trodVars_none hV
 obtain ⟨ev, t, fr, hb, hE, hEB⟩ := eof_of hL
 obtain ⟨a0, l0, c0, rfl⟩ := okWide_slice underlying22 (hval 0 _ v0 rfl rfl)
 obtain ⟨a1, l1, c1, rfl⟩ := okWide_slice underlying23 (hval 1 _ v1 rfl rfl)
 have h0' : DataW.trod enc prog W 0 (fun _ => true) true n0 22 [.slice a0 l0 c0] = some (d0, p0) := h0
 have h1' : DataW.trod enc prog W 0 (fun _ => true) true n1 23 [.slice a1 l1 c1] = some (d1, p1) := h1
 obtain ⟨s0, e0, hd⟩ := rdoc_of hEB hE.if_ h0'
 obtain ⟨s1, e1, hs⟩ := pks_of hEB hE.if_ h1'
 have k0 : s0 = ⟨a0, l0, c0⟩ := by cases s0; cases e0; rfl
 have k1 : s1 = ⟨a1, l1, c1⟩ := by cases s1; cases e1; rfl
 subst k0 k1
 have hok := vw_hok (x := 0) hb
 have hfn := fnDocumentsRead_ok (VW 0 W) ⟨_, _, _⟩ ⟨_, _, _⟩ hd hs _ ev hE hok.nodup
 refine (hfn W hok).mono fun e W' => ?_
 rintro ⟨v, H', rfl, hw, rfl, rfl⟩
 have hsame : Same W W' := same_of (fun b k hm => by
  rcases List.mem_cons.1 hm with hm | hm
  · cases hm; exact ⟨_, rfl⟩
  · have hm' : (b, k) ∈ VW 0 W := by simpa [XH, VH, JH] using hm
    obtain ⟨b', _, e⟩ := List.mem_map.1 hm'
    cases e; exact ⟨_, rfl⟩) hok hw
 have hlt : ∀ p ∈ p0 ++ (p1 ++ []) ++ [], p.block < W.heap.size := fun p hp => hW'.lt p hp
 have hres : DataW.TrodAll enc prog W' W.heap.size (fun _ => false) false [4] [.bool true] [.lit (.bool true)] [] := trodAll_cons_mk (shut_bool underlying4 _) trodAll_mk0
 have hargs2 : DataW.TrodAll enc prog W' 0 (fun b => decide (b < W.heap.size)) true [22, 23] [.slice a0 l0 c0, .slice a1 l1 c1] [d0, d1] (p0 ++ (p1 ++ [])) :=
  carryAll closed hsame (by decide) hA1 (fun p hp => by simpa using hlt p (by simpa using hp))
 exact ⟨_, rfl, _, _, _, [], _, [], hW', hres, hargs2, rfl, kept_of hw.kept hsame, fun h => by cases h⟩
end
end Go.Proofs.YtnfbcfflkphbiaaGreatDoor
