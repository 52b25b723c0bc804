/-
  Texts of the proof, joined: D3. No Go text.
-/
import Derived.Test.YtnfbcfflkphbiaaGreatDoorA01
import Derived.Test.YtnfbcfflkphbiaaGreatDoorA08
import Derived.Test.YtnfbcfflkphbiaaGreatDoorA09
import Derived.Test.YtnfbcfflkphbiaaGreatDoorA14
namespace Go.Proofs.YtnfbcfflkphbiaaGreatDoor
open Go Go.Proofs Tryz
set_option linter.all false
set_option maxRecDepth 100000
set_option maxHeartbeats 8000000
def uriB (c : Nat) : Bool := decide (zC c = true ∨ c = 58 ∨ c = 44 ∨ c = 46 ∨ c = 33)
theorem wA {c : Nat} (h : uriB c = true) : (zC c = true ∨ c = 58 ∨ c = 44 ∨ c = 46 ∨ c = 33) ∧ c ≠ 10 ∧ c ≠ 0 ∧ c ≠ 37 := by
 have := of_decide_eq_true h
 refine ⟨this, ?_⟩
 rcases this with h | h
 · simp [zC] at h; omega
 · omega
theorem blankz_ne {c : Nat} (h : zK c = true) : c = 32 ∨ c = 9 ∨ c = 13 ∨ c = 10 ∨ c = 0 := by simpa [zK] using h
theorem turi_ok (L : Lay) (T : List Nat) (s : PS) (nb qe : Nat) (c0 : Nat) (m1 m2 m3 : Value) (he : Eof L) (hn : Inv L T s) (hqe : s.q < qe) (huri : ∀ i, s.q ≤ i → i < qe → uriB (at_ T i) = true) (hz : zK (at_ T qe) = true) :
  Fn prog 189 [pV L.p, .bool true, .slice none 0 c0, .agg #[m1, m2, m3], pV nb] [PB L T s, BB L T s, RB L T s, IB L T, GE L, (nb, .cs 23 [zS] [])]
   (fun v H' => v = .bool true ∧ ∃ r nl b cap, Inv L T { s with r := r, nl := nl, q := qe } ∧ Rdy T { s with r := r, nl := nl, q := qe } 1 ∧ qe - s.q ≤ cap ∧ cap ≤ 9223372036854775807 ∧
    H' = [PB L T { s with r := r, nl := nl, q := qe }, BB L T { s with r := r, nl := nl, q := qe }, RB L T { s with r := r, nl := nl, q := qe }, IB L T, GE L, (nb, .cs 23 [.slice (some ⟨b, 0, none⟩) (qe - s.q) cap] []), (b, .buf 5 cap (bytes (kA T s.q qe)))]) := by
 have hzc := blankz_ne hz
 refine zo func189 rfl rfl rfl ?_
 intro w
 refine zd (zi (ku rfl rfl rfl clT ?_))
 intro mb
 refine gg 5 ?_
 refine zk rfl rfl clT ?_
 intro tb
 refine gg 21 ?_
 refine zR { s with r := s.r, nl := s.nl, q := s.q } 1 hn (fun hlt => ?_) (fun hlt => ?_) (fun r1 hn1 hb1 => ?_)
 ·
  refine gg 16 ?_
  exact zq hn hlt exT
 ·
  refine gg 9 ?_
  refine za rfl rfl rfl (kc L T { s with r := s.r, nl := s.nl, q := s.q } 1 he (.inl hn) hlt omT) ?_
  rintro _ _ ⟨rfl, r1, h1, h2, h3, rfl⟩
  refine lS ?_
  refine gg 6 ?_
  exact zr h1 h2 h3 exT
 ·
  replace hn1 : Inv L T { s with r := r1, nl := s.nl, q := s.q } := hn1
  replace hb1 : Rdy T { s with r := r1, nl := s.nl, q := s.q } 1 := hb1
  refine zt (RH L T { s with r := r1, nl := s.nl, q := s.q } _) _ rfl rfl ?_
  have hl1 : r1.pos + 1 ≤ r1.blen := hb1.len
  have hpq1 : r1.pos ≤ s.q := hn1.pq
  have hbl1 : r1.blen ≤ 1536 := hn1.bl
  refine zd (kf ?_)
  refine zw (σ := RS × Nat × Nat × Option (Nat × Nat)) (fun x => [(0, pV L.p), (1, .bool true), (4, pV nb), (11, pV tb), (12, .bool x.2.2.2.isSome)]) (fun x => RH L T { s with r := x.1, nl := x.2.1, q := x.2.2.1 } ((tb, .cs 23 [TXV s.q x.2.2.1 x.2.2.2] []) :: TXH T s.q x.2.2.1 x.2.2.2 ++ [(nb, .cs 23 [zS] [])])) (fun x => Inv L T { s with r := x.1, nl := x.2.1, q := x.2.2.1 } ∧ Rdy T { s with r := x.1, nl := x.2.1, q := x.2.2.1 } 1 ∧ s.q ≤ x.2.2.1 ∧ x.2.2.1 ≤ qe ∧ TXP s.q x.2.2.1 x.2.2.2) (fun x => T.length - x.2.2.1) (r1, s.nl, s.q, none) ⟨hn1, hb1, Nat.le_refl _, omT, rfl⟩ suT (Wk.to [L.p, L.bb, L.rb, L.ib, 0, tb, nb] (by exact ⟨rfl, .inl rfl, rfl, .inl rfl, rfl, .inl rfl, rfl, .inl rfl, rfl, .inl rfl, rfl, .inl rfl, rfl, .inl rfl, trivial⟩)) ?_
  rintro ⟨r0, nl0, q0, o⟩ ⟨hn0, hb0, hq1, hq2, hp⟩
  dsimp only at hn0 hb0 hq1 hq2 hp
  rcases o with _ | ⟨b0, cap0⟩
  ·
   obtain rfl : q0 = s.q := hp
   refine zt (RH L T { s with r := r0, nl := nl0, q := s.q } [(tb, .cs 23 [zS] []), (nb, .cs 23 [zS] [])]) [(0, pV L.p), (1, .bool true), (4, pV nb), (11, pV tb), (12, .bool false)] rfl rfl ?_
   have hl := hb0.len
   have hpq := hn0.pq
   have hbl := hn0.bl
   dsimp only at hl hpq hbl
   obtain ⟨hcl, hlf, hl0⟩ := wA (huri s.q omT omT)
   refine zd ?_
   refine qm 301 (fun b => b = decide (s.q < qe)) ?_ ?_
   ·
    refine kM zF kR ?_
    dsimp only [List.append]
    refine gg 8 ?_
    rcases hcl with hcl | hcl | hcl | hcl | hcl
    · as_aux_lemma =>
       refine dca (qy (b := true) hn0 (hb0.lt omT) hcl) ?_
       refine gg 26 ?_
       refine kH [(67, _), (0, _), (1, _), (4, _), (11, _), (12, _)] ⟨rfl, rfl, rfl, rfl, rfl, rfl, trivial⟩ ?_
       refine gg 26 ?_
       refine kH [(93, _), (0, _), (1, _), (4, _), (11, _), (12, _)] ⟨rfl, rfl, rfl, rfl, rfl, rfl, trivial⟩ ?_
       refine gg 26 ?_
       refine kH [(119, _), (0, _), (1, _), (4, _), (11, _), (12, _)] ⟨rfl, rfl, rfl, rfl, rfl, rfl, trivial⟩ ?_
       refine gg 26 ?_
       refine kH [(145, _), (0, _), (1, _), (4, _), (11, _), (12, _)] ⟨rfl, rfl, rfl, rfl, rfl, rfl, trivial⟩ ?_
       refine gg 26 ?_
       refine kH [(171, _), (0, _), (1, _), (4, _), (11, _), (12, _)] ⟨rfl, rfl, rfl, rfl, rfl, rfl, trivial⟩ ?_
       refine gg 26 ?_
       refine kH [(197, _), (0, _), (1, _), (4, _), (11, _), (12, _)] ⟨rfl, rfl, rfl, rfl, rfl, rfl, trivial⟩ ?_
       refine gg 26 ?_
       refine kH [(223, _), (0, _), (1, _), (4, _), (11, _), (12, _)] ⟨rfl, rfl, rfl, rfl, rfl, rfl, trivial⟩ ?_
       refine gg 26 ?_
       refine kH [(249, _), (0, _), (1, _), (4, _), (11, _), (12, _)] ⟨rfl, rfl, rfl, rfl, rfl, rfl, trivial⟩ ?_
       refine gg 26 ?_
       refine kH [(275, _), (0, _), (1, _), (4, _), (11, _), (12, _)] ⟨rfl, rfl, rfl, rfl, rfl, rfl, trivial⟩ ?_
       refine gg 27 ?_
       exact zE (b := true) rfl exT (decide_eq_true omT).symm
    · as_aux_lemma =>
       refine dca (qy (b := false) hn0 (hb0.lt omT) (by rw [hcl]; try rfl)) ?_
       refine gg 10 ?_
       refine zn (bp0 omT) rfl ?_
       refine gg 12 ?_
       refine zn (bp0 omT) rfl ?_
       refine gg 12 ?_
       refine zn (bp0 omT) rfl ?_
       refine gg 12 ?_
       refine zn (bp0 omT) rfl ?_
       refine gg 211 ?_
       exact zE (b := true) rfl exT (decide_eq_true omT).symm
    · as_aux_lemma =>
       refine dca (qy (b := false) hn0 (hb0.lt omT) (by rw [hcl]; try rfl)) ?_
       refine gg 10 ?_
       refine zn (bp0 omT) rfl ?_
       refine gg 12 ?_
       refine zn (bp0 omT) rfl ?_
       refine gg 12 ?_
       refine zn (bp0 omT) rfl ?_
       refine gg 12 ?_
       refine zn (bp0 omT) rfl ?_
       refine gg 12 ?_
       refine zn (bp0 omT) rfl ?_
       refine gg 12 ?_
       refine zn (bp0 omT) rfl ?_
       refine gg 12 ?_
       refine zn (bp0 omT) rfl ?_
       refine gg 12 ?_
       refine zn (bp0 omT) rfl ?_
       refine gg 12 ?_
       refine zn (bp0 omT) rfl ?_
       refine gg 12 ?_
       refine zn (bp0 omT) rfl ?_
       refine gg 133 ?_
       exact zE (b := true) rfl exT (decide_eq_true omT).symm
    · as_aux_lemma =>
       refine dca (qy (b := false) hn0 (hb0.lt omT) (by rw [hcl]; try rfl)) ?_
       refine gg 10 ?_
       refine zn (bp0 omT) rfl ?_
       refine gg 12 ?_
       refine zn (bp0 omT) rfl ?_
       refine gg 12 ?_
       refine zn (bp0 omT) rfl ?_
       refine gg 12 ?_
       refine zn (bp0 omT) rfl ?_
       refine gg 12 ?_
       refine zn (bp0 omT) rfl ?_
       refine gg 12 ?_
       refine zn (bp0 omT) rfl ?_
       refine gg 12 ?_
       refine zn (bp0 omT) rfl ?_
       refine gg 12 ?_
       refine zn (bp0 omT) rfl ?_
       refine gg 12 ?_
       refine zn (bp0 omT) rfl ?_
       refine gg 12 ?_
       refine zn (bp0 omT) rfl ?_
       refine gg 12 ?_
       refine zn (bp0 omT) rfl ?_
       refine gg 120 ?_
       exact zE (b := true) rfl exT (decide_eq_true omT).symm
    · as_aux_lemma =>
       refine dca (qy (b := false) hn0 (hb0.lt omT) (by rw [hcl]; try rfl)) ?_
       refine gg 10 ?_
       refine zn (bp0 omT) rfl ?_
       refine gg 12 ?_
       refine zn (bp0 omT) rfl ?_
       refine gg 12 ?_
       refine zn (bp0 omT) rfl ?_
       refine gg 12 ?_
       refine zn (bp0 omT) rfl ?_
       refine gg 12 ?_
       refine zn (bp0 omT) rfl ?_
       refine gg 12 ?_
       refine zn (bp0 omT) rfl ?_
       refine gg 12 ?_
       refine zn (bp0 omT) rfl ?_
       refine gg 12 ?_
       refine zn (bp0 omT) rfl ?_
       refine gg 12 ?_
       refine zn (bp0 omT) rfl ?_
       refine gg 12 ?_
       refine zn (bp0 omT) rfl ?_
       refine gg 12 ?_
       refine zn (bp0 omT) rfl ?_
       refine gg 12 ?_
       refine zn (bp0 omT) rfl ?_
       refine gg 107 ?_
       exact zE (b := true) rfl exT (decide_eq_true omT).symm
   ·
    intro b301 hb301
    refine ev_cond1b rfl (by rw [hb301]; exact decide_eq_true omT) ?_
    have hl1 := kS hl0.1
    refine gg 15 ?_
    refine zn (bp0 omT) rfl ?_
    refine gg 7 ?_
    refine za rfl rfl rfl (read_cut0 L T { s with r := r0, nl := nl0, q := s.q } 1 _ _ hn0 hb0 omT (kS hl0.1) hlf) ?_
    rintro _ _ ⟨r2, nl2, b1, hn2, hb2, rfl, rfl⟩
    replace hn2 : Inv L T { s with r := r2, nl := nl2, q := (s.q + 1) } := hn2
    replace hb2 : Rdy T { s with r := r2, nl := nl2, q := (s.q + 1) } 0 := hb2
    refine lS ?_
    have hl2 : r2.pos + 0 ≤ r2.blen := hb2.len
    have hpq2 : r2.pos ≤ (s.q + 1) := hn2.pq
    have hbl2 : r2.blen ≤ 1536 := hn2.bl
    refine gg 3 ?_
    refine zD L T { s with r := r2, nl := nl2, q := (s.q + 1) } ?_
    refine zR { s with r := r2, nl := nl2, q := (s.q + 1) } 1 hn2 (fun hlt => ?_) (fun hlt => ?_) (fun r3 hn3 hb3 => ?_)
    ·
      refine gg 16 ?_
      exact zq hn2 hlt exT
    ·
      refine gg 9 ?_
      refine za rfl rfl rfl (kc L T { s with r := r2, nl := nl2, q := (s.q + 1) } 1 he (.inl hn2) hlt omT) ?_
      rintro _ _ ⟨rfl, r3, h1, h2, h3, rfl⟩
      refine lS ?_
      refine gg 6 ?_
      exact zr h1 h2 h3 exT
    ·
      replace hn3 : Inv L T { s with r := r3, nl := nl2, q := (s.q + 1) } := hn3
      replace hb3 : Rdy T { s with r := r3, nl := nl2, q := (s.q + 1) } 1 := hb3
      refine zt (RH L T { s with r := r3, nl := nl2, q := (s.q + 1) } _) _ rfl rfl ?_
      have hl3 : r3.pos + 1 ≤ r3.blen := hb3.len
      have hpq3 : r3.pos ≤ (s.q + 1) := hn3.pq
      have hbl3 : r3.blen ≤ 1536 := hn3.bl
      refine gg 4 ?_
      exact zh (r3, nl2, s.q + 1, some (b1, 32)) ⟨hn3, hb3, omT, omT, omT, omT, omT⟩ omT suT (Wk.to [L.p, L.bb, L.rb, L.ib, 0, tb, b1, nb] (by exact ⟨rfl, .inl rfl, rfl, .inl rfl, rfl, .inl rfl, rfl, .inl rfl, rfl, .inl rfl, rfl, .inr (Blk.like_rec kR), rfl, .inl rfl, rfl, .inl rfl, trivial⟩))
  ·
   obtain ⟨hp1, hp2, hp3⟩ := hp
   refine zt (RH L T { s with r := r0, nl := nl0, q := q0 } [(tb, .cs 23 [.slice (some ⟨b0, 0, none⟩) (q0 - s.q) cap0] []), (b0, .buf 5 cap0 (bytes (kA T s.q q0))), (nb, .cs 23 [zS] [])]) [(0, pV L.p), (1, .bool true), (4, pV nb), (11, pV tb), (12, .bool true)] rfl rfl ?_
   have hl := hb0.len
   have hpq := hn0.pq
   have hbl := hn0.bl
   dsimp only at hl hpq hbl
   refine zd ?_
   refine qm 301 (fun b => b = decide (q0 < qe)) ?_ ?_
   ·
    refine kM zF kR ?_
    dsimp only [List.append]
    refine gg 8 ?_
    by_cases hq : q0 < qe
    · as_aux_lemma =>
       obtain ⟨hcl, hlf, hl0⟩ := wA (huri q0 omT hq)
       rcases hcl with hcl | hcl | hcl | hcl | hcl
       · as_aux_lemma =>
          refine dca (qy (b := true) hn0 (hb0.lt omT) hcl) ?_
          refine gg 26 ?_
          refine kH [(67, _), (0, _), (1, _), (4, _), (11, _), (12, _)] ⟨rfl, rfl, rfl, rfl, rfl, rfl, trivial⟩ ?_
          refine gg 26 ?_
          refine kH [(93, _), (0, _), (1, _), (4, _), (11, _), (12, _)] ⟨rfl, rfl, rfl, rfl, rfl, rfl, trivial⟩ ?_
          refine gg 26 ?_
          refine kH [(119, _), (0, _), (1, _), (4, _), (11, _), (12, _)] ⟨rfl, rfl, rfl, rfl, rfl, rfl, trivial⟩ ?_
          refine gg 26 ?_
          refine kH [(145, _), (0, _), (1, _), (4, _), (11, _), (12, _)] ⟨rfl, rfl, rfl, rfl, rfl, rfl, trivial⟩ ?_
          refine gg 26 ?_
          refine kH [(171, _), (0, _), (1, _), (4, _), (11, _), (12, _)] ⟨rfl, rfl, rfl, rfl, rfl, rfl, trivial⟩ ?_
          refine gg 26 ?_
          refine kH [(197, _), (0, _), (1, _), (4, _), (11, _), (12, _)] ⟨rfl, rfl, rfl, rfl, rfl, rfl, trivial⟩ ?_
          refine gg 26 ?_
          refine kH [(223, _), (0, _), (1, _), (4, _), (11, _), (12, _)] ⟨rfl, rfl, rfl, rfl, rfl, rfl, trivial⟩ ?_
          refine gg 26 ?_
          refine kH [(249, _), (0, _), (1, _), (4, _), (11, _), (12, _)] ⟨rfl, rfl, rfl, rfl, rfl, rfl, trivial⟩ ?_
          refine gg 26 ?_
          refine kH [(275, _), (0, _), (1, _), (4, _), (11, _), (12, _)] ⟨rfl, rfl, rfl, rfl, rfl, rfl, trivial⟩ ?_
          refine gg 27 ?_
          exact zE (b := true) rfl exT (decide_eq_true hq).symm
       · as_aux_lemma =>
          refine dca (qy (b := false) hn0 (hb0.lt omT) (by rw [hcl]; try rfl)) ?_
          refine gg 10 ?_
          refine zn (bp0 omT) rfl ?_
          refine gg 12 ?_
          refine zn (bp0 omT) rfl ?_
          refine gg 12 ?_
          refine zn (bp0 omT) rfl ?_
          refine gg 12 ?_
          refine zn (bp0 omT) rfl ?_
          refine gg 211 ?_
          exact zE (b := true) rfl exT (decide_eq_true hq).symm
       · as_aux_lemma =>
          refine dca (qy (b := false) hn0 (hb0.lt omT) (by rw [hcl]; try rfl)) ?_
          refine gg 10 ?_
          refine zn (bp0 omT) rfl ?_
          refine gg 12 ?_
          refine zn (bp0 omT) rfl ?_
          refine gg 12 ?_
          refine zn (bp0 omT) rfl ?_
          refine gg 12 ?_
          refine zn (bp0 omT) rfl ?_
          refine gg 12 ?_
          refine zn (bp0 omT) rfl ?_
          refine gg 12 ?_
          refine zn (bp0 omT) rfl ?_
          refine gg 12 ?_
          refine zn (bp0 omT) rfl ?_
          refine gg 12 ?_
          refine zn (bp0 omT) rfl ?_
          refine gg 12 ?_
          refine zn (bp0 omT) rfl ?_
          refine gg 12 ?_
          refine zn (bp0 omT) rfl ?_
          refine gg 133 ?_
          exact zE (b := true) rfl exT (decide_eq_true hq).symm
       · as_aux_lemma =>
          refine dca (qy (b := false) hn0 (hb0.lt omT) (by rw [hcl]; try rfl)) ?_
          refine gg 10 ?_
          refine zn (bp0 omT) rfl ?_
          refine gg 12 ?_
          refine zn (bp0 omT) rfl ?_
          refine gg 12 ?_
          refine zn (bp0 omT) rfl ?_
          refine gg 12 ?_
          refine zn (bp0 omT) rfl ?_
          refine gg 12 ?_
          refine zn (bp0 omT) rfl ?_
          refine gg 12 ?_
          refine zn (bp0 omT) rfl ?_
          refine gg 12 ?_
          refine zn (bp0 omT) rfl ?_
          refine gg 12 ?_
          refine zn (bp0 omT) rfl ?_
          refine gg 12 ?_
          refine zn (bp0 omT) rfl ?_
          refine gg 12 ?_
          refine zn (bp0 omT) rfl ?_
          refine gg 12 ?_
          refine zn (bp0 omT) rfl ?_
          refine gg 120 ?_
          exact zE (b := true) rfl exT (decide_eq_true hq).symm
       · as_aux_lemma =>
          refine dca (qy (b := false) hn0 (hb0.lt omT) (by rw [hcl]; try rfl)) ?_
          refine gg 10 ?_
          refine zn (bp0 omT) rfl ?_
          refine gg 12 ?_
          refine zn (bp0 omT) rfl ?_
          refine gg 12 ?_
          refine zn (bp0 omT) rfl ?_
          refine gg 12 ?_
          refine zn (bp0 omT) rfl ?_
          refine gg 12 ?_
          refine zn (bp0 omT) rfl ?_
          refine gg 12 ?_
          refine zn (bp0 omT) rfl ?_
          refine gg 12 ?_
          refine zn (bp0 omT) rfl ?_
          refine gg 12 ?_
          refine zn (bp0 omT) rfl ?_
          refine gg 12 ?_
          refine zn (bp0 omT) rfl ?_
          refine gg 12 ?_
          refine zn (bp0 omT) rfl ?_
          refine gg 12 ?_
          refine zn (bp0 omT) rfl ?_
          refine gg 12 ?_
          refine zn (bp0 omT) rfl ?_
          refine gg 107 ?_
          exact zE (b := true) rfl exT (decide_eq_true hq).symm
    · as_aux_lemma =>
       obtain rfl : q0 = qe := by omega
       refine dca (qy (b := false) hn0 (hb0.lt omT) (blankz_alpha hz)) ?_
       refine gg 10 ?_
       refine zn (bp0 omT) rfl ?_
       refine gg 12 ?_
       refine zn (bp0 omT) rfl ?_
       refine gg 12 ?_
       refine zn (bp0 omT) rfl ?_
       refine gg 12 ?_
       refine zn (bp0 omT) rfl ?_
       refine gg 12 ?_
       refine zn (bp0 omT) rfl ?_
       refine gg 12 ?_
       refine zn (bp0 omT) rfl ?_
       refine gg 12 ?_
       refine zn (bp0 omT) rfl ?_
       refine gg 12 ?_
       refine zn (bp0 omT) rfl ?_
       refine gg 12 ?_
       refine zn (bp0 omT) rfl ?_
       refine gg 12 ?_
       refine zn (bp0 omT) rfl ?_
       refine gg 12 ?_
       refine zn (bp0 omT) rfl ?_
       refine gg 12 ?_
       refine zn (bp0 omT) rfl ?_
       refine gg 12 ?_
       refine zn (bp0 omT) rfl ?_
       refine gg 12 ?_
       refine zn (bp0 omT) rfl ?_
       refine gg 12 ?_
       refine zn (bp0 omT) rfl ?_
       refine gg 12 ?_
       refine zn (bp0 omT) rfl ?_
       refine gg 12 ?_
       refine zn (bp0 omT) rfl ?_
       refine gg 12 ?_
       refine zn (bp0 omT) rfl ?_
       refine gg 12 ?_
       refine zn (bp0 omT) rfl ?_
       refine gg 12 ?_
       refine zn (bp0 omT) rfl ?_
       refine gg 3 ?_
       exact zE (b := false) rfl exT (decide_eq_false (Nat.lt_irrefl _)).symm
   ·
    intro b301 hb301
    refine kg rfl (fun hc => ?_) (fun hc => ?_)
    ·
      have hq : q0 < qe := of_decide_eq_true (hb301.symm.trans hc)
      obtain ⟨_, hlf, hl0⟩ := wA (huri q0 omT hq)
      have hl1 := kS hl0.1
      refine gg 15 ?_
      refine zn (bp0 omT) rfl ?_
      refine gg 7 ?_
      refine za rfl rfl rfl (read_cut L T { s with r := r0, nl := nl0, q := q0 } 1 s.q b0 cap0 hp1 hp2 hp3 hn0 hb0 omT (kS hl0.1) hlf) ?_
      rintro _ _ ⟨r4, nl4, b1, c1, hn4, hb4, hc1, hc2, rfl, rfl⟩
      replace hn4 : Inv L T { s with r := r4, nl := nl4, q := (q0 + 1) } := hn4
      replace hb4 : Rdy T { s with r := r4, nl := nl4, q := (q0 + 1) } 0 := hb4
      refine lS ?_
      have hl4 : r4.pos + 0 ≤ r4.blen := hb4.len
      have hpq4 : r4.pos ≤ (q0 + 1) := hn4.pq
      have hbl4 : r4.blen ≤ 1536 := hn4.bl
      refine gg 3 ?_
      refine zD L T { s with r := r4, nl := nl4, q := (q0 + 1) } ?_
      refine zR { s with r := r4, nl := nl4, q := (q0 + 1) } 1 hn4 (fun hlt => ?_) (fun hlt => ?_) (fun r5 hn5 hb5 => ?_)
      ·
       refine gg 16 ?_
       exact zq hn4 hlt exT
      ·
       refine gg 9 ?_
       refine za rfl rfl rfl (kc L T { s with r := r4, nl := nl4, q := (q0 + 1) } 1 he (.inl hn4) hlt omT) ?_
       rintro _ _ ⟨rfl, r5, h1, h2, h3, rfl⟩
       refine lS ?_
       refine gg 6 ?_
       exact zr h1 h2 h3 exT
      ·
       replace hn5 : Inv L T { s with r := r5, nl := nl4, q := (q0 + 1) } := hn5
       replace hb5 : Rdy T { s with r := r5, nl := nl4, q := (q0 + 1) } 1 := hb5
       refine zt (RH L T { s with r := r5, nl := nl4, q := (q0 + 1) } _) _ rfl rfl ?_
       have hl5 : r5.pos + 1 ≤ r5.blen := hb5.len
       have hpq5 : r5.pos ≤ (q0 + 1) := hn5.pq
       have hbl5 : r5.blen ≤ 1536 := hn5.bl
       refine gg 4 ?_
       exact zh (r5, nl4, (q0 + 1), some (b1, c1)) ⟨hn5, hb5, omT, omT, omT, hc1, hc2⟩ omT suT (Wk.to [L.p, L.bb, L.rb, L.ib, 0, tb, b1, nb] (by exact ⟨rfl, .inl rfl, rfl, .inl rfl, rfl, .inl rfl, rfl, .inl rfl, rfl, .inl rfl, rfl, .inr (Blk.like_rec kR), rfl, .inl rfl, rfl, .inl rfl, trivial⟩))
    ·
      obtain rfl : q0 = qe := by have := of_decide_eq_false (hb301.symm.trans hc); omega
      refine gg 29 ?_
      exact zm rfl rfl (Wk.to [L.p, L.bb, L.rb, L.ib, 0, nb, b0] (by exact ⟨rfl, .inl rfl, rfl, .inl rfl, rfl, .inl rfl, rfl, .inl rfl, rfl, .inl rfl, rfl, .inr (Blk.like_rec kR), rfl, .inl rfl, trivial⟩)) ⟨rfl, _, _, _, _, hn0, hb0, hp2, hp3, rfl⟩
end Go.Proofs.YtnfbcfflkphbiaaGreatDoor
