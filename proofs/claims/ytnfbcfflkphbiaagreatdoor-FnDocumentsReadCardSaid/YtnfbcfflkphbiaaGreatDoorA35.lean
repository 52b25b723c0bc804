/-
  Texts of the proof, joined: J0 J1. No Go text.
-/
import Derived.Test.YtnfbcfflkphbiaaGreatDoorA01
import Derived.ProofKit
import Derived.OpenShut
import Derived.DataShut
import Derived.Deep.Slices
import Derived.LaidLaws
import Derived.Test.YtnfbcfflkphbiaaGreatDoorA34
namespace Go.Proofs.YtnfbcfflkphbiaaGreatDoor
open Go Go.Proofs Tryz
set_option linter.all false
set_option maxRecDepth 100000
set_option maxHeartbeats 8000000
section
open Go Go.ChangeShapes Tryz
def ClosedT (P : Program) (S : List TypeId) : Prop := ∀ t ∈ S, match P.underlying t with
 | some .bool => True
 | some (.int _) => True
 | some .string => True
 | some (.slice e) => e ∈ S ∧ 0 < P.cellsOf e
 | some (.struct fs) => ∀ f ∈ fs.toList, f.type ∈ S
 | _ => False
def Same (W W' : World) : Prop := ∀ i : Nat, i < W.heap.size → W'.heap[i]? = W.heap[i]?
section
variable {H : Type} {enc : TypeId × Value → H} {P : Program} {W W' : World}
theorem Same.cell {a : Addr} {v : Value} (hs : Same W W') (h : W.cell? a = some v) : W'.cell? a = some v := by
 unfold World.cell? at h ⊢
 have hlt : a.block < W.heap.size := by
  rcases Nat.lt_or_ge a.block W.heap.size with h1 | h1
  · exact h1
  · rw [Array.getElem?_eq_none h1] at h; cases h
 rw [hs _ hlt]
 exact h
theorem Same.cells {base n : Nat} {a : Addr} {cs : List Value} (hs : Same W W') (h : W.cells? base a n = some cs) : W'.cells? base a n = some cs := by
 unfold World.cells? at h ⊢
 split at h
 · rename_i hb
   rw [if_pos hb]
   have hl := mapM_some_length h
   refine mapM_some_of_get _ _ hl fun i x hx => ?_
   have h1 := mapM_some_get h i x hx
   have hi : i < cs.length := by rw [hl]; exact (List.getElem?_eq_some_iff.1 hx).1
   rw [List.getElem?_eq_getElem hi] at h1 ⊢
   exact hs.cell h1
 · cases h
theorem row_mem {a : Addr} {m : Nat} (h : 0 < m) : MemPlace.cell a.block a.off ∈ MemPlace.row a m := List.mem_map.2 ⟨0, List.mem_range.2 h, by simp⟩
theorem carry {S : List TypeId} (hS : ClosedT P S) (hs : Same W W') {sp' : Nat → Bool} : ∀ (n : Nat) (t : TypeId) (cs : List Value) (x : DataW H × List MemPlace), t ∈ S →
  DataW.trod enc P W 0 (fun _ => true) true n t cs = some x → (∀ p ∈ x.2, sp' p.block = true) → DataW.trod enc P W' 0 sp' true n t cs = some x := by
 intro n
 induction n with
 | zero => intro t cs x _ h; simp [DataW.trod] at h
 | succ n ih =>
  intro t cs x ht h hp
  have hk := hS t ht
  cases hu : P.underlying t with
  | none => rw [hu] at hk; exact hk.elim
  | some d =>
   rw [hu] at hk
   cases d with
   | bool =>
    obtain ⟨b, rfl, rfl⟩ := DataW.trod_bool hu h
    unfold DataW.trod; rw [hu]
   | int k =>
    obtain ⟨m, rfl, rfl, hw⟩ := DataW.trod_int hu h
    unfold DataW.trod; rw [hu]; simp [hw]
   | string =>
    obtain ⟨m, rfl, rfl, hw⟩ := DataW.trod_string hu h
    unfold DataW.trod; rw [hu]; simp [hw]
   | slice e =>
    obtain ⟨he, hpos⟩ := hk
    rcases DataW.trod_slice hu h with ⟨rfl, rfl⟩ | ⟨a, len, cap, elems, rest, n', hn, rfl, rfl, hb, hl, hm, hlen, hel, hsp, _⟩
    · unfold DataW.trod; rw [hu]; rfl
    · obtain rfl : n = n' := by omega
      obtain ⟨hrl, hrest⟩ := hsp rfl
      have hpe : ∀ y ∈ elems ++ rest, ∀ p ∈ y.2, sp' p.block = true := fun y hy p hpy => hp p (List.mem_append_right _ (List.mem_flatMap.2 ⟨y, hy, hpy⟩))
      have one : ∀ i y, (elems ++ rest)[i]? = some y → (W.cells? 0 (a.add (i * P.cellsOf e)) (P.cellsOf e)).bind (DataW.trod enc P W 0 (fun _ => true) true n e) = some y → (W'.cells? 0 (a.add (i * P.cellsOf e)) (P.cellsOf e)).bind (DataW.trod enc P W' 0 sp' true n e) = some y := fun i y hy h => by
        obtain ⟨cs', h1, h2⟩ := Option.bind_eq_some_iff.1 h
        rw [hs.cells h1]
        exact ih e cs' y he h2 (hpe y (List.mem_of_getElem? hy))
      unfold DataW.trod
      simp only [hu]
      rw [if_pos ⟨hb, hl, hm⟩]
      have h1 : (List.range len).mapM (fun i => (W'.cells? 0 (a.add (i * P.cellsOf e)) (P.cellsOf e)).bind (DataW.trod enc P W' 0 sp' true n e)) = some elems := by
        refine mapM_some_of_get _ _ (by simp [hlen]) fun i y hy => ?_
        obtain ⟨hi, rfl⟩ := List.getElem?_eq_some_iff.1 hy
        rw [List.length_range] at hi
        rw [List.getElem_range]
        have hi' : i < elems.length := by omega
        have := hel i hi
        rw [List.getElem?_eq_getElem hi'] at this ⊢
        exact one i _ (by rw [List.getElem?_append_left hi', List.getElem?_eq_getElem hi']) this
      rw [h1]
      by_cases h0 : cap - len = 0
      · have hr0 : rest = [] := List.eq_nil_of_length_eq_zero omT
        subst hr0
        simp [h0]
      · have hspa : sp' a.block = true := hp (.cell a.block a.off) (List.mem_append_left _ (row_mem (Nat.mul_pos omT hpos)))
        have h2 : (List.range (cap - len)).mapM (fun j => (W'.cells? 0 (a.add ((len + j) * P.cellsOf e)) (P.cellsOf e)).bind (DataW.trod enc P W' 0 sp' true n e)) = some rest := by
         refine mapM_some_of_get _ _ (by simp [hrl]) fun i y hy => ?_
         obtain ⟨hi, rfl⟩ := List.getElem?_eq_some_iff.1 hy
         rw [List.length_range] at hi
         rw [List.getElem_range]
         have hi' : i < rest.length := by omega
         have := hrest i hi
         rw [List.getElem?_eq_getElem hi'] at this ⊢
         exact one (len + i) _ (by rw [List.getElem?_append_right omT, show len + i - elems.length = i by omega, List.getElem?_eq_getElem hi']) this
        simp [hspa, h2]
   | struct fs =>
    obtain ⟨xs, n', hn, rfl, hl, hxl, hf⟩ := DataW.trod_struct hu h
    obtain rfl : n = n' := by omega
    refine trod_struct_mk hu hl ?_
    refine mapM_some_of_get _ _ (by simpa using hxl) fun i f hfi => ?_
    have hfi' : fs[i]? = some f := by simpa using hfi
    have h1 := hf i f hfi'
    have hi : i < xs.length := by rw [hxl]; exact (Array.getElem?_eq_some_iff.1 hfi').1
    rw [List.getElem?_eq_getElem hi] at h1 ⊢
    exact ih f.type _ _ (hk f (List.mem_of_getElem? hfi)) h1 (fun p hpy => hp p (List.mem_flatMap.2 ⟨_, List.getElem_mem hi, hpy⟩))
   | _ => exact hk.elim
theorem carryAll {S : List TypeId} (hS : ClosedT P S) (hs : Same W W') {sp' : Nat → Bool} : ∀ {ts : List TypeId} {vs : List Value} {ds : List (DataW H)} {ps : List MemPlace}, (∀ t ∈ ts, t ∈ S) →
  DataW.TrodAll enc P W 0 (fun _ => true) true ts vs ds ps → (∀ p ∈ ps, sp' p.block = true) → DataW.TrodAll enc P W' 0 sp' true ts vs ds ps
 | [], [], [], _, _, h, _ => h
 | t :: ts, v :: vs, d :: ds, ps, ht, h, hp => by
  obtain ⟨p, q, ⟨n, h1⟩, h2, rfl⟩ := h
  exact ⟨p, q, ⟨n, carry hS hs n t _ _ (ht t (by simp)) h1 (fun y hy => hp y (List.mem_append_left _ hy))⟩, carryAll hS hs (fun t' h' => ht t' (by simp [h'])) h2 (fun y hy => hp y (List.mem_append_right _ hy)), rfl⟩
 | [], _ :: _, _, _, _, h, _ => by simp [DataW.TrodAll] at h
 | [], [], _ :: _, _, _, h, _ => by simp [DataW.TrodAll] at h
 | _ :: _, [], _, _, _, h, _ => by simp [DataW.TrodAll] at h
 | _ :: _, _ :: _, [], _, _, h, _ => by simp [DataW.TrodAll] at h
end
end
section
open Go Go.Proofs Go.ChangeShapes Go.Deep Tryz
abbrev plainTs : List TypeId := [22, 23, 24, 26, 27, 29, 3, 4, 5, 9]
theorem closed : ClosedT prog plainTs := by
 have key : (plainTs.all fun t => match prog.underlying t with
  | some .bool => true
  | some (.int _) => true
  | some .string => true
  | some (.slice e) => plainTs.contains e && decide (0 < prog.cellsOf e)
  | some (.struct fs) => fs.toList.all fun f => plainTs.contains f.type
  | _ => false) = true := by kernel_rfl
 intro t ht
 have h := List.all_eq_true.1 key t ht
 cases hu : prog.underlying t with
 | none => rw [hu] at h; cases h
 | some d =>
  rw [hu] at h
  cases d with
  | bool => trivial
  | int _ => trivial
  | string => trivial
  | slice e =>
   simp only [Bool.and_eq_true, List.contains_iff_mem, decide_eq_true_eq] at h
   exact h
  | struct fs =>
   intro f hf
   have := List.all_eq_true.1 h f hf
   simpa only [List.contains_iff_mem] using this
  | _ => cases h
def VW (x : Nat) (W : World) : VL := ((List.range W.heap.size).filter (· ≠ x)).map fun b => (b, .raw (W.heap[b]?.getD (.cells #[] 0 (0, 0))))
theorem vw_mem {x b : Nat} {o : Obj} {W : World} (hb : b ≠ x) (h : W.heap[b]? = some o) : (b, .raw o) ∈ VW x W := by
 refine List.mem_map.2 ⟨b, List.mem_filter.2 ⟨List.mem_range.2 ?_, by simpa using hb⟩, by rw [h]; rfl⟩
 rcases Nat.lt_or_ge b W.heap.size with h1 | h1
 · exact h1
 · rw [Array.getElem?_eq_none h1] at h; cases h
theorem vw_fst (x : Nat) (W : World) : (VW x W).map (·.1) = (List.range W.heap.size).filter (· ≠ x) := by
 unfold VW
 rw [List.map_map]
 exact (List.map_congr_left (fun _ _ => rfl)).trans (List.map_id _)
theorem vw_hok {x : Nat} {W : World} {o : Obj} (h : W.heap[x]? = some o) : HOK ((x, .raw o) :: XH (VW x W) []) W := by
 have e : XH (VW x W) [] = VW x W := by simp [XH, VH, JH]
 rw [e]
 refine ⟨?_, fun b k hm => ?_⟩
 · rw [List.map_cons, vw_fst]
   refine List.nodup_cons.2 ⟨fun hm => ?_, List.Pairwise.filter _ List.nodup_range⟩
   have := (List.mem_filter.1 hm).2
   simp at this
 · rcases List.mem_cons.1 hm with hm | hm
   · cases hm; exact ⟨o, h, rfl⟩
   · obtain ⟨b', hb', e⟩ := List.mem_map.1 hm
     cases e
     have hlt := List.mem_range.1 (List.mem_filter.1 hb').1
     rw [Array.getElem?_eq_getElem hlt]
     exact ⟨_, rfl, rfl⟩
theorem spot_none {W : World} {a : Addr} {v : Value} (h : W.cell? (a.add 0) = some v) : a = ⟨a.block, a.off, none⟩ := by
 obtain ⟨b, off, sp⟩ := a
 cases sp with
 | none => rfl
 | some s =>
  exfalso
  simp [World.cell?, Addr.add] at h
  split at h <;> simp at h
theorem cell_obj {W : World} {b k : Nat} {v : Value} (h : W.cell? ⟨b, k, none⟩ = some v) : ∃ o, W.heap[b]? = some o ∧ qz o k = some v := by
 simp only [World.cell?] at h
 split at h
 · rename_i c t fr hc
   exact ⟨_, hc, by simpa [qz] using h⟩
 · cases h
def EB (x : Nat) (W : World) (ev : Value) : Prop := ∃ t fr, W.heap[x]? = some (.cells #[ev] t fr)
theorem cell_in {W : World} {x : Nat} {ev : Value} (hE : EB x W ev) (hi : ∃ et u, ev = .iface et u) {b k : Nat} {v : Value} (hv : ∀ et u, v ≠ .iface et u) (h : W.cell? ⟨b, k, none⟩ = some v) :
  ∃ o, (b, .raw o) ∈ VW x W ∧ qz o k = some v := by
 obtain ⟨o, h2, h3⟩ := cell_obj h
 refine ⟨o, vw_mem (fun e => ?_) h2, h3⟩
 obtain ⟨t, fr, hx⟩ := hE
 rw [← e, h2] at hx
 cases hx
 obtain ⟨et, u, rfl⟩ := hi
 simp only [qz] at h3
 have hlt := (Array.getElem?_eq_some_iff.1 h3).1
 have h0 : k = 0 := by simpa using hlt
 rw [h0] at h3
 simp at h3
 exact hv _ _ h3.symm
section
variable {H : Type} {enc : TypeId × Value → H} {W : World} {x : Nat} {ev : Value}
theorem rstr_of (hE : EB x W ev) (hi : ∃ et u, ev = .iface et u) {n : Nat} {v : Value} {y : DataW H × List MemPlace} (h : DataW.trod enc prog W 0 (fun _ => true) true n 27 [v] = some y) : ∃ s : Sl, v = s.v ∧ RStr (VW x W) s := by
 rcases open_strings underlying27 underlying9 kR h with ⟨e, _⟩ | ⟨a, len, cap, ss, e, _, h1, h2, h3, _, h5, h6⟩
 · cases e
   exact ⟨Sl.nil, rfl, by simp [Sl.nil], fun i hi => by simp [Sl.nil] at hi⟩
 · cases e
   simp only [if_true] at h3
   refine ⟨⟨some a, len, cap⟩, rfl, by simp only; have : maxLen = 9223372036854775807 := rfl; omega, fun i hi' => ?_⟩
   simp only at hi'
   have hc := h5 i omT
   have hs := h6 (ss.getD i ByteArray.empty) (by rw [List.getD_eq_getElem?_getD, List.getElem?_eq_getElem (by omega : i < ss.length)]; exact List.getElem_mem _)
   have g1 := spot_none (h5 0 omT)
   rw [g1, kN] at hc
   obtain ⟨o, g2, g3⟩ := cell_in hE hi (by intro _ _ e; cases e) hc
   refine ⟨a.block, a.off, o, sbl (ss.getD i ByteArray.empty), by rw [← g1], g2, by rw [sb_sbl]; exact g3, sbl_lt _, ?_⟩
   rw [sbl_length]
   exact hs
theorem pks_of (hE : EB x W ev) (hi : ∃ et u, ev = .iface et u) {n : Nat} {v : Value} {y : DataW H × List MemPlace} (h : DataW.trod enc prog W 0 (fun _ => true) true n 23 [v] = some y) : ∃ s : Sl, v = s.v ∧ (s.n ≤ 2147483647 → PKS s (VW x W)) := by
 rcases open_slice1 underlying23 kR h with ⟨e, _⟩ | ⟨a, len, cap, m, n', V, D, Pl, e, _, h1, h2, h3, _, h5⟩
 · cases e
   exact ⟨Sl.nil, rfl, fun _ => ⟨by simp [Sl.nil], fun i hi => by simp [Sl.nil] at hi⟩⟩
 · cases e
   simp only [if_true] at h3
   refine ⟨⟨some a, len, cap⟩, rfl, fun hle => ⟨hle, fun i hi' => ?_⟩⟩
   simp only at hi'
   obtain ⟨hc, ht⟩ := h5 i omT
   obtain ⟨z, e, _, hw⟩ := DataW.trod_int underlying5 ht
   have hz : 0 ≤ z ∧ z < 256 := by
    simp only [Lit.wf, Bool.and_eq_true, decide_eq_true_eq] at hw
    have e1 : IntKind.u8.min = 0 := by decide
    have e2 : IntKind.u8.max = 255 := by decide
    omega
   have e' : V i = .int .u8 z := by simpa using e
   rw [e'] at hc
   have g1 := spot_none (h5 0 omT).1
   rw [g1, kN] at hc
   obtain ⟨o, g2, g3⟩ := cell_in hE hi (by intro _ _ e; cases e) hc
   exact ⟨a.block, a.off, o, z.toNat, by rw [← g1], g2, by omega, by rw [Int.toNat_of_nonneg hz.1]; exact g3⟩
theorem fld1 {n t : Nat} {c : Value} {xs : List (DataW H × List MemPlace)} {i : Nat} (hl : i < xs.length) (h : DataW.trod enc prog W 0 (fun _ => true) true n t [c] = xs[i]?) : ∃ y, DataW.trod enc prog W 0 (fun _ => true) true n t [c] = some y :=
 ⟨xs[i], by rw [h, List.getElem?_eq_getElem hl]⟩
theorem fld_int {n t : Nat} {c : Value} {y : DataW H × List MemPlace} (ht : prog.underlying t = some (.int .i64)) (h : DataW.trod enc prog W 0 (fun _ => true) true n t [c] = some y) : ∃ z, c = .int .i64 z := by
 obtain ⟨z, e, _⟩ := DataW.trod_int ht h
 exact ⟨z, by simpa using e⟩
theorem fld_str {n t : Nat} {c : Value} {y : DataW H × List MemPlace} (ht : prog.underlying t = some .string) (h : DataW.trod enc prog W 0 (fun _ => true) true n t [c] = some y) : ∃ X, c = .string (sb X) ∧ (∀ b ∈ X, b < 256) ∧ X.length ≤ 9223372036854775807 := by
 obtain ⟨z, e, _, hs⟩ := DataW.trod_string ht h
 exact ⟨sbl z, by rw [sb_sbl]; simpa using e, sbl_lt _, by rw [sbl_length]; exact hs⟩
theorem fld_bool {n t : Nat} {c : Value} {y : DataW H × List MemPlace} (ht : prog.underlying t = some .bool) (h : DataW.trod enc prog W 0 (fun _ => true) true n t [c] = some y) : ∃ z, c = .bool z := by
 obtain ⟨z, e, _⟩ := DataW.trod_bool ht h
 exact ⟨z, by simpa using e⟩
theorem fld_slice {n t e : Nat} {c : Value} {y : DataW H × List MemPlace} (ht : prog.underlying t = some (.slice e)) (h : DataW.trod enc prog W 0 (fun _ => true) true n t [c] = some y) : ∃ s : Sl, c = s.v := by
 rcases DataW.trod_slice ht h with ⟨e, _⟩ | ⟨a, len, cap, _, _, _, _, e, _⟩
 · exact ⟨Sl.nil, by simpa using e⟩
 · exact ⟨⟨some a, len, cap⟩, by simpa using e⟩
theorem doc_of (hE : EB x W ev) (hi : ∃ et u, ev = .iface et u) {n : Nat} {cs : List Value} {y : DataW H × List MemPlace} (hl : cs.length = 13) (h : DataW.trod enc prog W 0 (fun _ => true) true n 29 cs = some y) :
  ∃ d : DR, cs = drC d ∧ (∀ c ∈ d.va, c < 256) ∧ d.va.length ≤ 9223372036854775807 ∧ RStr (VW x W) d.hs ∧ RStr (VW x W) d.ps := by
 match cs, hl with
 | [c0, c1, c2, c3, c4, c5, c6, c7, c8, c9, c10, c11, c12], _ =>
  obtain ⟨xs, n', _, _, _, hxl, hf⟩ := DataW.trod_struct underlying29 h
  have hxl' : xs.length = 8 := hxl
  have h0 := hf 0 _ rfl
  obtain ⟨y6, h6⟩ := fld1 (i := 1) (c := c6) omT (hf 1 _ rfl)
  obtain ⟨y7, h7⟩ := fld1 (i := 2) (c := c7) omT (hf 2 _ rfl)
  obtain ⟨y8, h8⟩ := fld1 (i := 3) (c := c8) omT (hf 3 _ rfl)
  obtain ⟨y9, h9⟩ := fld1 (i := 4) (c := c9) omT (hf 4 _ rfl)
  obtain ⟨y10, h10⟩ := fld1 (i := 5) (c := c10) omT (hf 5 _ rfl)
  obtain ⟨y11, h11⟩ := fld1 (i := 6) (c := c11) omT (hf 6 _ rfl)
  obtain ⟨y12, h12⟩ := fld1 (i := 7) (c := c12) omT (hf 7 _ rfl)
  rw [List.getElem?_eq_getElem (by omega : 0 < xs.length)] at h0
  have h0' : DataW.trod enc prog W 0 (fun _ => true) true n' 26 [c0, c1, c2, c3, c4, c5] = some xs[0] := h0
  obtain ⟨zs, n2, _, _, _, hzl, hg⟩ := DataW.trod_struct underlying26 h0'
  have hzl' : zs.length = 6 := hzl
  obtain ⟨z0, g0⟩ := fld1 (i := 0) (c := c0) omT (hg 0 _ rfl)
  obtain ⟨z1, g1⟩ := fld1 (i := 1) (c := c1) omT (hg 1 _ rfl)
  obtain ⟨z2, g2⟩ := fld1 (i := 2) (c := c2) omT (hg 2 _ rfl)
  obtain ⟨z3, g3⟩ := fld1 (i := 3) (c := c3) omT (hg 3 _ rfl)
  obtain ⟨z4, g4⟩ := fld1 (i := 4) (c := c4) omT (hg 4 _ rfl)
  obtain ⟨z5, g5⟩ := fld1 (i := 5) (c := c5) omT (hg 5 _ rfl)
  obtain ⟨k, rfl⟩ := fld_int underlying3 g0
  obtain ⟨va, rfl, hva, hval⟩ := fld_str underlying9 g1
  obtain ⟨an, rfl, _, _⟩ := fld_str underlying9 g2
  obtain ⟨tg, rfl, _, _⟩ := fld_str underlying9 g3
  obtain ⟨sty, rfl⟩ := fld_int underlying3 g4
  obtain ⟨kids, rfl⟩ := fld_slice underlying24 g5
  obtain ⟨ex, rfl⟩ := fld_bool underlying4 h6
  obtain ⟨en, rfl⟩ := fld_bool underlying4 h7
  obtain ⟨ver, rfl⟩ := fld_bool underlying4 h8
  obtain ⟨maj, rfl⟩ := fld_int underlying3 h9
  obtain ⟨min, rfl⟩ := fld_int underlying3 h10
  obtain ⟨hs, rfl, hhs⟩ := rstr_of hE hi h11
  obtain ⟨ps, rfl, hps⟩ := rstr_of hE hi h12
  exact ⟨⟨k, va, an, tg, sty, kids, ex, en, ver, maj, min, hs, ps⟩, rfl, hva, hval, hhs, hps⟩
theorem rdoc_of (hE : EB x W ev) (hi : ∃ et u, ev = .iface et u) {n : Nat} {v : Value} {y : DataW H × List MemPlace} (h : DataW.trod enc prog W 0 (fun _ => true) true n 22 [v] = some y) : ∃ s : Sl, v = s.v ∧ RDoc (VW x W) s := by
 have hc13 : prog.cellsOf 29 = 13 := by kernel_rfl
 rcases open_slice underlying22 h with ⟨e, _⟩ | ⟨a, len, cap, m, n', D, Pl, e, _, h1, h2, h3, _, h5⟩
 · cases e
   exact ⟨Sl.nil, rfl, by simp [Sl.nil], fun i hi => by simp [Sl.nil] at hi⟩
 · cases e
   simp only [if_true] at h3
   rw [hc13] at h5
   refine ⟨⟨some a, len, cap⟩, rfl, by simp only; have : maxLen = 9223372036854775807 := rfl; omega, fun i hi' => ?_⟩
   simp only at hi'
   have hg : a = ⟨a.block, a.off, none⟩ := by
    obtain ⟨cs, k1, _⟩ := h5 0 omT
    obtain ⟨_, k2, k3⟩ := World.cells?_some k1
    have k4 := k3 0 omT
    rw [List.getElem?_eq_getElem omT] at k4
    have : (a.add (0 * 13)).add 0 = a.add 0 := by simp [Addr.add]
    rw [this] at k4
    exact spot_none k4
   obtain ⟨cs, k1, k2⟩ := h5 i omT
   obtain ⟨_, k3, k4⟩ := World.cells?_some k1
   obtain ⟨d, rfl, hva, hval, hhs, hps⟩ := doc_of hE hi k3 k2
   have key : ∀ j, j < 13 → ∃ o, (a.block, .raw o) ∈ VW x W ∧ W.heap[a.block]? = some o ∧ qz o (a.off + i * 13 + j) = (drC d)[j]? := fun j hj => by
    have k5 := k4 j hj
    rw [hg, kN, kN] at k5
    have hjl : j < (drC d).length := by rw [wx]; exact hj
    rw [List.getElem?_eq_getElem hjl] at k5 ⊢
    obtain ⟨o, q1, q2⟩ := cell_in hE hi (by
     intro et u e
     have := drC_one d _ (List.getElem_mem hjl)
     have hm : (drC d)[j] ∈ drC d := List.getElem_mem hjl
     rw [e] at hm
     simp [drC] at hm) k5
    obtain ⟨o', q3, q4⟩ := cell_obj k5
    refine ⟨o', vw_mem (fun e => ?_) q3, q3, q4⟩
    obtain ⟨b', hb', e'⟩ := List.mem_map.1 q1
    have hne := (List.mem_filter.1 hb').2
    cases e'
    simp [e] at hne
   obtain ⟨o, q1, q2, _⟩ := key 0 omT
   refine ⟨a.block, a.off, o, d, by simp only; rw [← hg], q1, fun j hj => ?_, hva, hval, hhs, hps⟩
   obtain ⟨o', _, q4, q5⟩ := key j hj
   rw [q2] at q4
   cases q4
   exact q5
end
end
end Go.Proofs.YtnfbcfflkphbiaaGreatDoor
