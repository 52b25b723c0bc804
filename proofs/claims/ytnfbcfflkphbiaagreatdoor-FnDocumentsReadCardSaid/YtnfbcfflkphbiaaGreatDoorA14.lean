/-
  Texts of the proof, joined: D1 D2. No Go text.
-/
import Derived.Test.YtnfbcfflkphbiaaGreatDoorA01
import Derived.Test.YtnfbcfflkphbiaaGreatDoorA08
import Derived.Test.YtnfbcfflkphbiaaGreatDoorA09
namespace Go.Proofs.YtnfbcfflkphbiaaGreatDoor
open Go Go.Proofs Tryz
set_option linter.all false
set_option maxRecDepth 100000
set_option maxHeartbeats 8000000
theorem vnum_ok (L : Lay) (T : List Nat) (s : PS) (nb : Nat) (mv : Value) (he : Eof L) (hn : Inv L T s) (hc : at_ T s.q = 49) (hd : digitB (at_ T (s.q + 1)) = false) :
  Fn prog 198 [pV L.p, mv, pV nb] [PB L T s, BB L T s, RB L T s, IB L T, GE L, (nb, .cs 81 [.int .i8 0] [])]
    (fun v H' => v = .bool true ∧ ∃ r nl, Inv L T { s with r := r, nl := nl, q := s.q + 1 } ∧ Rdy T { s with r := r, nl := nl, q := s.q + 1 } 1 ∧
     H' = [PB L T { s with r := r, nl := nl, q := s.q + 1 }, BB L T { s with r := r, nl := nl, q := s.q + 1 }, RB L T { s with r := r, nl := nl, q := s.q + 1 }, IB L T, GE L, (nb, .cs 81 [.int .i8 1] [])]) := by
 have hlt : s.q < T.length := by
  by_cases h : s.q < T.length
  · exact h
  · rw [qS omT] at hc; cases hc
 refine zo func198 rfl rfl rfl ?_
 intro w
 refine zd (zi (ku rfl rfl rfl clT ?_))
 intro mb
 refine gg 3 ?_
 refine zR { s with r := s.r, nl := s.nl, q := s.q } 1 hn (fun hlt => ?_) (fun hlt => ?_) (fun r1 hn1 hb1 => ?_)
 ·
  refine gg 16 ?_
  exact zq hn hlt exT
 ·
  refine gg 9 ?_
  refine za rfl rfl rfl (kc L T { s with r := s.r, nl := s.nl, q := s.q } 1 he (.inl hn) hlt omT) ?_
  rintro _ _ ⟨rfl, r1, h1, h2, h3, rfl⟩
  refine lS ?_
  refine gg 6 ?_
  exact zr h1 h2 h3 exT
 ·
  replace hn1 : Inv L T { s with r := r1, nl := s.nl, q := s.q } := hn1
  replace hb1 : Rdy T { s with r := r1, nl := s.nl, q := s.q } 1 := hb1
  refine zt (RH L T { s with r := r1, nl := s.nl, q := s.q } _) _ rfl rfl ?_
  have hl1 : r1.pos + 1 ≤ r1.blen := hb1.len
  have hpq1 : r1.pos ≤ s.q := hn1.pq
  have hbl1 : r1.blen ≤ 1536 := hn1.bl
  refine gg 8 ?_
  refine qg (2) (kn (gg 11 ?_))
  refine dca (b_digit (b := true) hn1 (hb1.lt omT) (by dsimp only; rw [hc]; try rfl)) ?_
  refine gg 9 ?_
  refine sqz (qto (q_add rfl rfl) (vi (by decide : _ = (1 : Int)))) ?_
  refine gg 16 ?_
  refine dqz (qto (q_mul rfl rfl) (vi (by decide : _ = (0 : Int)))) ?_
  refine gg 8 ?_
  refine dca (b_as_digit hn1 (hb1.lt omT) (by dsimp only; omega)) ?_
  refine dqz (qto (q_conv ⟨_, underlying3⟩ underlying81 rfl) (vi (by rw [hc]; decide : _ = (1 : Int)))) ?_
  refine dqz (qto (q_add rfl rfl) (vi (by decide : _ = (1 : Int)))) ?_
  refine gg 6 ?_
  refine za rfl rfl rfl (kG L T { s with r := r1, nl := s.nl, q := s.q } 1 hn1 hb1 omT omT omT) ?_
  rintro _ _ ⟨rfl, r2, nl2, hn2, hb2, rfl⟩
  replace hn2 : Inv L T { s with r := r2, nl := nl2, q := (s.q + 1) } := hn2
  replace hb2 : Rdy T { s with r := r2, nl := nl2, q := (s.q + 1) } 0 := hb2
  refine lS ?_
  have hl2 : r2.pos + 0 ≤ r2.blen := hb2.len
  have hpq2 : r2.pos ≤ (s.q + 1) := hn2.pq
  have hbl2 : r2.blen ≤ 1536 := hn2.bl
  refine ze ?_
  refine zf (zD L T { s with r := r2, nl := nl2, q := (s.q + 1) } ?_)
  refine ki { s with r := r2, nl := nl2, q := (s.q + 1) } 1 hn2 (fun hlt => ?_) (fun hlt => ?_) (fun r3 hn3 hb3 => ?_)
  ·
    refine gg 16 ?_
    exact zq hn2 hlt exT
  ·
    refine gg 9 ?_
    refine za rfl rfl rfl (kc L T { s with r := r2, nl := nl2, q := (s.q + 1) } 1 he (.inl hn2) hlt omT) ?_
    rintro _ _ ⟨rfl, r3, h1, h2, h3, rfl⟩
    refine lS ?_
    refine gg 6 ?_
    exact zr h1 h2 h3 exT
  ·
    replace hn3 : Inv L T { s with r := r3, nl := nl2, q := (s.q + 1) } := hn3
    replace hb3 : Rdy T { s with r := r3, nl := nl2, q := (s.q + 1) } 1 := hb3
    refine qH (RH L T { s with r := r3, nl := nl2, q := (s.q + 1) } _) _ rfl rfl ?_
    have hl3 : r3.pos + 1 ≤ r3.blen := hb3.len
    have hpq3 : r3.pos ≤ (s.q + 1) := hn3.pq
    have hbl3 : r3.blen ≤ 1536 := hn3.bl
    refine kJ (kX (kn (gg 11 ?_)))
    refine dca (b_digit (b := false) hn3 (hb3.lt omT) hd) ?_
    refine gg 32 ?_
    exact zm rfl rfl (Wk.to [L.p, L.bb, L.rb, L.ib, 0, nb] (by exact ⟨rfl, .inl rfl, rfl, .inl rfl, rfl, .inl rfl, rfl, .inl rfl, rfl, .inl rfl, rfl, .inr (Blk.like_rec kR), trivial⟩)) ⟨rfl, _, _, hn3, hb3, rfl⟩
theorem vval_ok (L : Lay) (T : List Nat) (s : PS) (a b qe : Nat) (m1 m2 m3 : Value) (he : Eof L) (hn : Inv L T s) (hqe : s.q ≤ qe) (hbl : ∀ i, s.q ≤ i → i < qe → at_ T i = 32)
  (h1 : at_ T qe = 49) (h2 : at_ T (qe + 1) = 46) (h3 : at_ T (qe + 2) = 49) (h4 : digitB (at_ T (qe + 3)) = false) :
  Fn prog 186 [pV L.p, .agg #[m1, m2, m3], pV a, pV b] [PB L T s, BB L T s, RB L T s, IB L T, GE L, (a, .cs 81 [.int .i8 0] []), (b, .cs 81 [.int .i8 0] [])]
   (fun v H' => v = .bool true ∧ ∃ r nl, Inv L T { s with r := r, nl := nl, q := qe + 3 } ∧ Rdy T { s with r := r, nl := nl, q := qe + 3 } 1 ∧
    H' = [PB L T { s with r := r, nl := nl, q := qe + 3 }, BB L T { s with r := r, nl := nl, q := qe + 3 }, RB L T { s with r := r, nl := nl, q := qe + 3 }, IB L T, GE L, (a, .cs 81 [.int .i8 1] []), (b, .cs 81 [.int .i8 1] [])]) := by
 have l2 : qe + 2 < T.length := kS omT
 refine zo func186 rfl rfl rfl ?_
 intro w
 refine zd (zi (ku rfl rfl rfl clT ?_))
 intro mb
 refine gg 3 ?_
 refine zR { s with r := s.r, nl := s.nl, q := s.q } 1 hn (fun hlt => ?_) (fun hlt => ?_) (fun r1 hn1 hb1 => ?_)
 ·
  refine gg 16 ?_
  exact zq hn hlt exT
 ·
  refine gg 9 ?_
  refine za rfl rfl rfl (kc L T { s with r := s.r, nl := s.nl, q := s.q } 1 he (.inl hn) hlt omT) ?_
  rintro _ _ ⟨rfl, r1, h1, h2, h3, rfl⟩
  refine lS ?_
  refine gg 6 ?_
  exact zr h1 h2 h3 exT
 ·
  replace hn1 : Inv L T { s with r := r1, nl := s.nl, q := s.q } := hn1
  replace hb1 : Rdy T { s with r := r1, nl := s.nl, q := s.q } 1 := hb1
  refine zt (RH L T { s with r := r1, nl := s.nl, q := s.q } _) _ rfl rfl ?_
  have hl1 : r1.pos + 1 ≤ r1.blen := hb1.len
  have hpq1 : r1.pos ≤ s.q := hn1.pq
  have hbl1 : r1.blen ≤ 1536 := hn1.bl
  refine zd (kf ?_)
  refine zw (σ := RS × Nat × Nat) (fun _ => [(0, pV L.p), (2, pV a), (3, pV b), (5, pV mb)]) (fun x => RH L T { s with r := x.1, nl := x.2.1, q := x.2.2 } _) (fun x => Inv L T { s with r := x.1, nl := x.2.1, q := x.2.2 } ∧ Rdy T { s with r := x.1, nl := x.2.1, q := x.2.2 } 1 ∧ (fun q => s.q ≤ q ∧ q ≤ qe) x.2.2) (fun x => T.length - x.2.2) (r1, s.nl, s.q) ⟨hn1, hb1, ⟨Nat.le_refl _, hqe⟩⟩ suT (Wk.refl _) ?_
  rintro ⟨r2, nl2, q2⟩ ⟨hn2, hb2, hp2⟩
  replace hn2 : Inv L T { s with r := r2, nl := nl2, q := q2 } := hn2
  replace hb2 : Rdy T { s with r := r2, nl := nl2, q := q2 } 1 := hb2
  dsimp only at hp2
  refine zt (RH L T { s with r := r2, nl := nl2, q := q2 } _) _ rfl rfl ?_
  have hl2 : r2.pos + 1 ≤ r2.blen := hb2.len
  have hpq2 : r2.pos ≤ q2 := hn2.pq
  have hbl2 : r2.blen ≤ 1536 := hn2.bl
  refine zd ?_
  by_cases hq : q2 < qe
  ·
   have hb32 := hbl q2 omT hq
   refine gg 10 ?_
   refine dca (ks (b := true) hn2 (hb2.lt omT) (by dsimp only; rw [hb32]; try rfl)) ?_
   refine gg 9 ?_
   refine za rfl rfl rfl (kG L T { s with r := r2, nl := nl2, q := q2 } 1 hn2 hb2 omT omT omT) ?_
   rintro _ _ ⟨rfl, r3, nl3, hn3, hb3, rfl⟩
   replace hn3 : Inv L T { s with r := r3, nl := nl3, q := (q2 + 1) } := hn3
   replace hb3 : Rdy T { s with r := r3, nl := nl3, q := (q2 + 1) } 0 := hb3
   refine lS ?_
   have hl3 : r3.pos + 0 ≤ r3.blen := hb3.len
   have hpq3 : r3.pos ≤ (q2 + 1) := hn3.pq
   have hbl3 : r3.blen ≤ 1536 := hn3.bl
   refine ze ?_
   refine zf (zD L T { s with r := r3, nl := nl3, q := (q2 + 1) } ?_)
   refine ki { s with r := r3, nl := nl3, q := (q2 + 1) } 1 hn3 (fun hlt => ?_) (fun hlt => ?_) (fun r4 hn4 hb4 => ?_)
   ·
    refine gg 16 ?_
    exact zq hn3 hlt exT
   ·
    refine gg 9 ?_
    refine za rfl rfl rfl (kc L T { s with r := r3, nl := nl3, q := (q2 + 1) } 1 he (.inl hn3) hlt omT) ?_
    rintro _ _ ⟨rfl, r4, h1, h2, h3, rfl⟩
    refine lS ?_
    refine gg 6 ?_
    exact zr h1 h2 h3 exT
   ·
    replace hn4 : Inv L T { s with r := r4, nl := nl3, q := (q2 + 1) } := hn4
    replace hb4 : Rdy T { s with r := r4, nl := nl3, q := (q2 + 1) } 1 := hb4
    refine qH (RH L T { s with r := r4, nl := nl3, q := (q2 + 1) } _) _ rfl rfl ?_
    have hl4 : r4.pos + 1 ≤ r4.blen := hb4.len
    have hpq4 : r4.pos ≤ (q2 + 1) := hn4.pq
    have hbl4 : r4.blen ≤ 1536 := hn4.bl
    refine kJ ?_
    exact zh (r4, nl3, (q2 + 1)) ⟨hn4, hb4, omT⟩ omT suT (Wk.refl _)
  ·
   obtain rfl : q2 = qe := by omega
   refine gg 10 ?_
   refine dca (ks (b := false) hn2 (hb2.lt omT) (by dsimp only; rw [h1]; try rfl)) ?_
   refine gg 14 ?_
   refine za rfl rfl rfl (vnum_ok L T { s with r := r2, nl := nl2, q := q2 } a _ he hn2 h1 (by dsimp only; rw [h2]; rfl)) ?_
   rintro _ _ ⟨rfl, r5, nl5, hn5, hb5, rfl⟩
   replace hn5 : Inv L T { s with r := r5, nl := nl5, q := (q2 + 1) } := hn5
   replace hb5 : Rdy T { s with r := r5, nl := nl5, q := (q2 + 1) } 1 := hb5
   refine lS ?_
   have hl5 : r5.pos + 1 ≤ r5.blen := hb5.len
   have hpq5 : r5.pos ≤ (q2 + 1) := hn5.pq
   have hbl5 : r5.blen ≤ 1536 := hn5.bl
   refine gg 3 ?_
   refine zD L T { s with r := r5, nl := nl5, q := (q2 + 1) } (gg 15 ?_)
   refine zn (bp0 omT) rfl ?_
   refine gg 9 ?_
   refine za rfl rfl rfl (kG L T { s with r := r5, nl := nl5, q := (q2 + 1) } 1 hn5 hb5 omT omT omT) ?_
   rintro _ _ ⟨rfl, r6, nl6, hn6, hb6, rfl⟩
   replace hn6 : Inv L T { s with r := r6, nl := nl6, q := ((q2 + 1) + 1) } := hn6
   replace hb6 : Rdy T { s with r := r6, nl := nl6, q := ((q2 + 1) + 1) } 0 := hb6
   refine lS ?_
   have hl6 : r6.pos + 0 ≤ r6.blen := hb6.len
   have hpq6 : r6.pos ≤ ((q2 + 1) + 1) := hn6.pq
   have hbl6 : r6.blen ≤ 1536 := hn6.bl
   refine ze ?_
   refine zf (zD L T { s with r := r6, nl := nl6, q := ((q2 + 1) + 1) } (gg 6 ?_))
   refine za rfl rfl rfl (vnum_ok L T { s with r := r6, nl := nl6, q := ((q2 + 1) + 1) } b _ he hn6 h3 h4) ?_
   rintro _ _ ⟨rfl, r7, nl7, hn7, hb7, rfl⟩
   replace hn7 : Inv L T { s with r := r7, nl := nl7, q := (((q2 + 1) + 1) + 1) } := hn7
   replace hb7 : Rdy T { s with r := r7, nl := nl7, q := (((q2 + 1) + 1) + 1) } 1 := hb7
   refine lS ?_
   have hl7 : r7.pos + 1 ≤ r7.blen := hb7.len
   have hpq7 : r7.pos ≤ (((q2 + 1) + 1) + 1) := hn7.pq
   have hbl7 : r7.blen ≤ 1536 := hn7.bl
   refine gg 3 ?_
   refine zD L T { s with r := r7, nl := nl7, q := (((q2 + 1) + 1) + 1) } (gg 9 ?_)
   exact zm rfl rfl (Wk.to [L.p, L.bb, L.rb, L.ib, 0, a, b] (by exact ⟨rfl, .inl rfl, rfl, .inl rfl, rfl, .inl rfl, rfl, .inl rfl, rfl, .inl rfl, rfl, .inl rfl, rfl, .inl rfl, trivial⟩)) ⟨rfl, _, _, hn7, hb7, rfl⟩
theorem dname_ok (L : Lay) (T : List Nat) (s : PS) (nb qe : Nat) (m1 m2 m3 : Value) (he : Eof L) (hn : Inv L T s) (hqe : s.q < qe) (hal : ∀ i, s.q ≤ i → i < qe → zC (at_ T i) = true) (hz : zK (at_ T qe) = true) :
  Fn prog 185 [pV L.p, .agg #[m1, m2, m3], pV nb] [PB L T s, BB L T s, RB L T s, IB L T, GE L, (nb, .cs 23 [zS] [])]
   (fun v H' => v = .bool true ∧ ∃ r nl b cap, Inv L T { s with r := r, nl := nl, q := qe } ∧ Rdy T { s with r := r, nl := nl, q := qe } 1 ∧ qe - s.q ≤ cap ∧ cap ≤ 9223372036854775807 ∧
    H' = [PB L T { s with r := r, nl := nl, q := qe }, BB L T { s with r := r, nl := nl, q := qe }, RB L T { s with r := r, nl := nl, q := qe }, IB L T, GE L, (nb, .cs 23 [.slice (some ⟨b, 0, none⟩) (qe - s.q) cap] []), (b, .buf 5 cap (bytes (kA T s.q qe)))]) := by
 refine zo func185 rfl rfl rfl ?_
 intro w
 refine zd (zi (ku rfl rfl rfl clT ?_))
 intro mb
 refine gg 3 ?_
 refine zR { s with r := s.r, nl := s.nl, q := s.q } 1 hn (fun hlt => ?_) (fun hlt => ?_) (fun r1 hn1 hb1 => ?_)
 ·
  refine gg 16 ?_
  exact zq hn hlt exT
 ·
  refine gg 9 ?_
  refine za rfl rfl rfl (kc L T { s with r := s.r, nl := s.nl, q := s.q } 1 he (.inl hn) hlt omT) ?_
  rintro _ _ ⟨rfl, r1, h1, h2, h3, rfl⟩
  refine lS ?_
  refine gg 6 ?_
  exact zr h1 h2 h3 exT
 ·
  replace hn1 : Inv L T { s with r := r1, nl := s.nl, q := s.q } := hn1
  replace hb1 : Rdy T { s with r := r1, nl := s.nl, q := s.q } 1 := hb1
  refine zt (RH L T { s with r := r1, nl := s.nl, q := s.q } _) _ rfl rfl ?_
  have hl1 : r1.pos + 1 ≤ r1.blen := hb1.len
  have hpq1 : r1.pos ≤ s.q := hn1.pq
  have hbl1 : r1.blen ≤ 1536 := hn1.bl
  refine gg 7 ?_
  refine zw (σ := RS × Nat × Nat × Option (Nat × Nat)) (fun x => [(0, pV L.p), (2, pV nb), (7, TXV s.q x.2.2.1 x.2.2.2)]) (fun x => RH L T { s with r := x.1, nl := x.2.1, q := x.2.2.1 } (TXH T s.q x.2.2.1 x.2.2.2 ++ [(nb, .cs 23 [zS] [])])) (fun x => Inv L T { s with r := x.1, nl := x.2.1, q := x.2.2.1 } ∧ Rdy T { s with r := x.1, nl := x.2.1, q := x.2.2.1 } 1 ∧ s.q ≤ x.2.2.1 ∧ x.2.2.1 ≤ qe ∧ TXP s.q x.2.2.1 x.2.2.2) (fun x => T.length - x.2.2.1) (r1, s.nl, s.q, none) ⟨hn1, hb1, Nat.le_refl _, omT, rfl⟩ suT (Wk.to [L.p, L.bb, L.rb, L.ib, 0, nb] (by exact ⟨rfl, .inl rfl, rfl, .inl rfl, rfl, .inl rfl, rfl, .inl rfl, rfl, .inl rfl, rfl, .inl rfl, trivial⟩)) ?_
  rintro ⟨r0, nl0, q0, o⟩ ⟨hn0, hb0, hq1, hq2, hp⟩
  dsimp only at hn0 hb0 hq1 hq2 hp
  refine zd ?_
  rcases o with _ | ⟨b0, cap0⟩
  ·
   obtain rfl : q0 = s.q := hp
   have hal0 := hal _ (Nat.le_refl _) hqe
   have hl0 := kS (wv hal0).1
   have hlf := (wv hal0).2
   refine zt (RH L T { s with r := r0, nl := nl0, q := s.q } [(nb, .cs 23 [zS] [])]) [(0, pV L.p), (2, pV nb), (7, zS)] rfl rfl ?_
   have hl := hb0.len
   have hpq := hn0.pq
   dsimp only at hl hpq
   refine gg 10 ?_
   refine dca (qy (b := true) hn0 (hb0.lt omT) hal0) ?_
   refine gg 10 ?_
   refine za rfl rfl rfl (read_cut0 L T { s with r := r0, nl := nl0, q := s.q } 1 _ _ hn0 hb0 omT hl0 hlf) ?_
   rintro _ _ ⟨r2, nl2, b1, hn2, hb2, rfl, rfl⟩
   replace hn2 : Inv L T { s with r := r2, nl := nl2, q := (s.q + 1) } := hn2
   replace hb2 : Rdy T { s with r := r2, nl := nl2, q := (s.q + 1) } 0 := hb2
   refine lS ?_
   have hl2 : r2.pos + 0 ≤ r2.blen := hb2.len
   have hpq2 : r2.pos ≤ (s.q + 1) := hn2.pq
   have hbl2 : r2.blen ≤ 1536 := hn2.bl
   refine gg 3 ?_
   refine zD L T { s with r := r2, nl := nl2, q := (s.q + 1) } ?_
   refine ki { s with r := r2, nl := nl2, q := (s.q + 1) } 1 hn2 (fun hlt => ?_) (fun hlt => ?_) (fun r3 hn3 hb3 => ?_)
   ·
    refine gg 16 ?_
    exact zq hn2 hlt exT
   ·
    refine gg 9 ?_
    refine za rfl rfl rfl (kc L T { s with r := r2, nl := nl2, q := (s.q + 1) } 1 he (.inl hn2) hlt omT) ?_
    rintro _ _ ⟨rfl, r3, h1, h2, h3, rfl⟩
    refine lS ?_
    refine gg 6 ?_
    exact zr h1 h2 h3 exT
   ·
    replace hn3 : Inv L T { s with r := r3, nl := nl2, q := (s.q + 1) } := hn3
    replace hb3 : Rdy T { s with r := r3, nl := nl2, q := (s.q + 1) } 1 := hb3
    refine qH (RH L T { s with r := r3, nl := nl2, q := (s.q + 1) } _) _ rfl rfl ?_
    have hl3 : r3.pos + 1 ≤ r3.blen := hb3.len
    have hpq3 : r3.pos ≤ (s.q + 1) := hn3.pq
    have hbl3 : r3.blen ≤ 1536 := hn3.bl
    refine kJ ?_
    exact zh (r3, nl2, s.q + 1, some (b1, 32)) ⟨hn3, hb3, omT, omT, omT, omT, omT⟩ omT suT (Wk.to [L.p, L.bb, L.rb, L.ib, 0, b1, nb] (by exact ⟨rfl, .inl rfl, rfl, .inl rfl, rfl, .inl rfl, rfl, .inl rfl, rfl, .inl rfl, rfl, .inl rfl, rfl, .inl rfl, trivial⟩))
  ·
   obtain ⟨hp1, hp2, hp3⟩ := hp
   refine zt (RH L T { s with r := r0, nl := nl0, q := q0 } [(b0, .buf 5 cap0 (bytes (kA T s.q q0))), (nb, .cs 23 [zS] [])]) [(0, pV L.p), (2, pV nb), (7, .slice (some ⟨b0, 0, none⟩) (q0 - s.q) cap0)] rfl rfl ?_
   have hl := hb0.len
   have hpq := hn0.pq
   dsimp only at hl hpq
   by_cases hq : q0 < qe
   ·
    have hal0 := hal _ hq1 hq
    have hl0 := kS (wv hal0).1
    have hlf := (wv hal0).2
    refine gg 10 ?_
    refine dca (qy (b := true) hn0 (hb0.lt omT) hal0) ?_
    refine gg 10 ?_
    refine za rfl rfl rfl (read_cut L T { s with r := r0, nl := nl0, q := q0 } 1 s.q b0 cap0 hp1 hp2 hp3 hn0 hb0 omT hl0 hlf) ?_
    rintro _ _ ⟨r4, nl4, b1, c1, hn4, hb4, hc1, hc2, rfl, rfl⟩
    replace hn4 : Inv L T { s with r := r4, nl := nl4, q := (q0 + 1) } := hn4
    replace hb4 : Rdy T { s with r := r4, nl := nl4, q := (q0 + 1) } 0 := hb4
    refine lS ?_
    have hl4 : r4.pos + 0 ≤ r4.blen := hb4.len
    have hpq4 : r4.pos ≤ (q0 + 1) := hn4.pq
    have hbl4 : r4.blen ≤ 1536 := hn4.bl
    refine gg 3 ?_
    refine zD L T { s with r := r4, nl := nl4, q := (q0 + 1) } ?_
    refine ki { s with r := r4, nl := nl4, q := (q0 + 1) } 1 hn4 (fun hlt => ?_) (fun hlt => ?_) (fun r5 hn5 hb5 => ?_)
    ·
     refine gg 16 ?_
     exact zq hn4 hlt exT
    ·
     refine gg 9 ?_
     refine za rfl rfl rfl (kc L T { s with r := r4, nl := nl4, q := (q0 + 1) } 1 he (.inl hn4) hlt omT) ?_
     rintro _ _ ⟨rfl, r5, h1, h2, h3, rfl⟩
     refine lS ?_
     refine gg 6 ?_
     exact zr h1 h2 h3 exT
    ·
     replace hn5 : Inv L T { s with r := r5, nl := nl4, q := (q0 + 1) } := hn5
     replace hb5 : Rdy T { s with r := r5, nl := nl4, q := (q0 + 1) } 1 := hb5
     refine qH (RH L T { s with r := r5, nl := nl4, q := (q0 + 1) } _) _ rfl rfl ?_
     have hl5 : r5.pos + 1 ≤ r5.blen := hb5.len
     have hpq5 : r5.pos ≤ (q0 + 1) := hn5.pq
     have hbl5 : r5.blen ≤ 1536 := hn5.bl
     refine kJ ?_
     exact zh (r5, nl4, q0 + 1, some (b1, c1)) ⟨hn5, hb5, omT, omT, omT, hc1, hc2⟩ omT suT (Wk.to [L.p, L.bb, L.rb, L.ib, 0, b1, nb] (by exact ⟨rfl, .inl rfl, rfl, .inl rfl, rfl, .inl rfl, rfl, .inl rfl, rfl, .inl rfl, rfl, .inl rfl, rfl, .inl rfl, trivial⟩))
   ·
    obtain rfl : q0 = qe := by omega
    refine gg 10 ?_
    refine dca (qy (b := false) hn0 (hb0.lt omT) (blankz_alpha hz)) ?_
    refine gg 30 ?_
    refine dca (qZ (b := true) hn0 (hb0.lt omT) hz) ?_
    refine gg 20 ?_
    exact zm rfl rfl (Wk.to [L.p, L.bb, L.rb, L.ib, 0, nb, b0] (by exact ⟨rfl, .inl rfl, rfl, .inl rfl, rfl, .inl rfl, rfl, .inl rfl, rfl, .inl rfl, rfl, .inr (Blk.like_rec kR), rfl, .inl rfl, trivial⟩)) ⟨rfl, _, _, _, _, hn0, hb0, hp2, hp3, rfl⟩
theorem thandle_ok (L : Lay) (T : List Nat) (s : PS) (nb qa qe : Nat) (m1 m2 m3 : Value) (he : Eof L) (hn : Inv L T s) (h0 : at_ T s.q = 33) (hqa : s.q < qa) (hal : ∀ i, s.q < i → i < qa → zC (at_ T i) = true)
  (hz : (at_ T qa = 33 ∧ qe = qa + 1) ∨ (at_ T qa = 32 ∧ qa = s.q + 1 ∧ qe = qa)) :
  Fn prog 190 [pV L.p, .bool true, .agg #[m1, m2, m3], pV nb] [PB L T s, BB L T s, RB L T s, IB L T, GE L, (nb, .cs 23 [zS] [])]
   (fun v H' => v = .bool true ∧ ∃ r nl b cap, Inv L T { s with r := r, nl := nl, q := qe } ∧ Rdy T { s with r := r, nl := nl, q := qe } 0 ∧ qe - s.q ≤ cap ∧ cap ≤ 9223372036854775807 ∧
    H' = [PB L T { s with r := r, nl := nl, q := qe }, BB L T { s with r := r, nl := nl, q := qe }, RB L T { s with r := r, nl := nl, q := qe }, IB L T, GE L, (nb, .cs 23 [.slice (some ⟨b, 0, none⟩) (qe - s.q) cap] []), (b, .buf 5 cap (bytes (kA T s.q qe)))]) := by
 have hl0 : s.q < T.length := kS omT
 have hqf : zC (at_ T qa) = false := by
  rcases hz with h | h <;> rw [h.1] <;> rfl
 refine zo func190 rfl rfl rfl ?_
 intro w
 refine zd (zi (ku rfl rfl rfl clT ?_))
 intro mb
 refine gg 3 ?_
 refine zR { s with r := s.r, nl := s.nl, q := s.q } 1 hn (fun hlt => ?_) (fun hlt => ?_) (fun r1 hn1 hb1 => ?_)
 ·
  refine gg 16 ?_
  exact zq hn hlt exT
 ·
  refine gg 9 ?_
  refine za rfl rfl rfl (kc L T { s with r := s.r, nl := s.nl, q := s.q } 1 he (.inl hn) hlt omT) ?_
  rintro _ _ ⟨rfl, r1, h1, h2, h3, rfl⟩
  refine lS ?_
  refine gg 6 ?_
  exact zr h1 h2 h3 exT
 ·
  replace hn1 : Inv L T { s with r := r1, nl := s.nl, q := s.q } := hn1
  replace hb1 : Rdy T { s with r := r1, nl := s.nl, q := s.q } 1 := hb1
  refine zt (RH L T { s with r := r1, nl := s.nl, q := s.q } _) _ rfl rfl ?_
  have hl1 : r1.pos + 1 ≤ r1.blen := hb1.len
  have hpq1 : r1.pos ≤ s.q := hn1.pq
  have hbl1 : r1.blen ≤ 1536 := hn1.bl
  refine gg 12 ?_
  refine zn (bp0 omT) rfl ?_
  refine gg 15 ?_
  refine za rfl rfl rfl (read_cut0 L T { s with r := r1, nl := s.nl, q := s.q } 1 _ _ hn1 hb1 omT hl0 omT) ?_
  rintro _ _ ⟨r2, nl2, b1, hn2, hb2, rfl, rfl⟩
  replace hn2 : Inv L T { s with r := r2, nl := nl2, q := (s.q + 1) } := hn2
  replace hb2 : Rdy T { s with r := r2, nl := nl2, q := (s.q + 1) } 0 := hb2
  refine lS ?_
  have hl2 : r2.pos + 0 ≤ r2.blen := hb2.len
  have hpq2 : r2.pos ≤ (s.q + 1) := hn2.pq
  have hbl2 : r2.blen ≤ 1536 := hn2.bl
  refine gg 3 ?_
  refine zD L T { s with r := r2, nl := nl2, q := (s.q + 1) } ?_
  refine zR { s with r := r2, nl := nl2, q := (s.q + 1) } 1 hn2 (fun hlt => ?_) (fun hlt => ?_) (fun r3 hn3 hb3 => ?_)
  ·
   refine gg 16 ?_
   exact zq hn2 hlt exT
  ·
   refine gg 9 ?_
   refine za rfl rfl rfl (kc L T { s with r := r2, nl := nl2, q := (s.q + 1) } 1 he (.inl hn2) hlt omT) ?_
   rintro _ _ ⟨rfl, r3, h1, h2, h3, rfl⟩
   refine lS ?_
   refine gg 6 ?_
   exact zr h1 h2 h3 exT
  ·
   replace hn3 : Inv L T { s with r := r3, nl := nl2, q := (s.q + 1) } := hn3
   replace hb3 : Rdy T { s with r := r3, nl := nl2, q := (s.q + 1) } 1 := hb3
   refine zt (RH L T { s with r := r3, nl := nl2, q := (s.q + 1) } _) _ rfl rfl ?_
   have hl3 : r3.pos + 1 ≤ r3.blen := hb3.len
   have hpq3 : r3.pos ≤ (s.q + 1) := hn3.pq
   have hbl3 : r3.blen ≤ 1536 := hn3.bl
   refine zd (kf ?_)
   refine zw (σ := RS × Nat × Nat × Nat × Nat) (fun x => [(9, .slice (some ⟨x.2.2.2.1, 0, none⟩) (x.2.2.1 - s.q) x.2.2.2.2), (0, pV L.p), (1, .bool true), (3, pV nb)]) (fun x => RH L T { s with r := x.1, nl := x.2.1, q := x.2.2.1 } [(x.2.2.2.1, .buf 5 x.2.2.2.2 (bytes (kA T s.q x.2.2.1))), (nb, .cs 23 [zS] [])]) (fun x => Inv L T { s with r := x.1, nl := x.2.1, q := x.2.2.1 } ∧ Rdy T { s with r := x.1, nl := x.2.1, q := x.2.2.1 } 1 ∧ (x.2.2.1 - s.q ≤ x.2.2.2.2 ∧ x.2.2.2.2 ≤ 9223372036854775807) ∧ (fun q => s.q < q ∧ q ≤ qa) x.2.2.1) (fun x => T.length - x.2.2.1) (r3, nl2, (s.q + 1), b1, 32) ⟨hn3, hb3, ⟨omT, omT⟩, ⟨omT, omT⟩⟩ suT (Wk.to [L.p, L.bb, L.rb, L.ib, 0, b1, nb] (by exact ⟨rfl, .inl rfl, rfl, .inl rfl, rfl, .inl rfl, rfl, .inl rfl, rfl, .inl rfl, rfl, .inl rfl, rfl, .inl rfl, trivial⟩)) ?_
   rintro ⟨r4, nl4, q4, b4, c4⟩ ⟨hn4, hb4, ⟨hc4, hd4⟩, hp4⟩
   replace hn4 : Inv L T { s with r := r4, nl := nl4, q := q4 } := hn4
   replace hb4 : Rdy T { s with r := r4, nl := nl4, q := q4 } 1 := hb4
   dsimp only at hp4 hc4 hd4
   refine zt (RH L T { s with r := r4, nl := nl4, q := q4 } [(b4, .buf 5 c4 (bytes (kA T s.q q4))), (nb, .cs 23 [zS] [])]) [(9, .slice (some ⟨b4, 0, none⟩) (q4 - s.q) c4), (0, pV L.p), (1, .bool true), (3, pV nb)] rfl rfl ?_
   have hl4 : r4.pos + 1 ≤ r4.blen := hb4.len
   have hpq4 : r4.pos ≤ q4 := hn4.pq
   have hbl4 : r4.blen ≤ 1536 := hn4.bl
   refine zd ?_
   by_cases hq : q4 < qa
   ·
    have hal0 := hal q4 omT hq
    have hl1 := kS (wv hal0).1
    have hlf := (wv hal0).2
    refine gg 10 ?_
    refine dca (qy (b := true) hn4 (hb4.lt omT) hal0) ?_
    refine gg 10 ?_
    refine za rfl rfl rfl (read_cut L T { s with r := r4, nl := nl4, q := q4 } 1 s.q b4 c4 omT hc4 hd4 hn4 hb4 omT hl1 hlf) ?_
    rintro _ _ ⟨r5, nl5, b2, c2, hn5, hb5, hc1, hc2, rfl, rfl⟩
    replace hn5 : Inv L T { s with r := r5, nl := nl5, q := (q4 + 1) } := hn5
    replace hb5 : Rdy T { s with r := r5, nl := nl5, q := (q4 + 1) } 0 := hb5
    refine lS ?_
    have hl5 : r5.pos + 0 ≤ r5.blen := hb5.len
    have hpq5 : r5.pos ≤ (q4 + 1) := hn5.pq
    have hbl5 : r5.blen ≤ 1536 := hn5.bl
    refine gg 3 ?_
    refine zD L T { s with r := r5, nl := nl5, q := (q4 + 1) } ?_
    refine ki { s with r := r5, nl := nl5, q := (q4 + 1) } 1 hn5 (fun hlt => ?_) (fun hlt => ?_) (fun r6 hn6 hb6 => ?_)
    ·
     refine gg 16 ?_
     exact zq hn5 hlt exT
    ·
     refine gg 9 ?_
     refine za rfl rfl rfl (kc L T { s with r := r5, nl := nl5, q := (q4 + 1) } 1 he (.inl hn5) hlt omT) ?_
     rintro _ _ ⟨rfl, r6, h1, h2, h3, rfl⟩
     refine lS ?_
     refine gg 6 ?_
     exact zr h1 h2 h3 exT
    ·
     replace hn6 : Inv L T { s with r := r6, nl := nl5, q := (q4 + 1) } := hn6
     replace hb6 : Rdy T { s with r := r6, nl := nl5, q := (q4 + 1) } 1 := hb6
     refine qH (RH L T { s with r := r6, nl := nl5, q := (q4 + 1) } _) _ rfl rfl ?_
     have hl6 : r6.pos + 1 ≤ r6.blen := hb6.len
     have hpq6 : r6.pos ≤ (q4 + 1) := hn6.pq
     have hbl6 : r6.blen ≤ 1536 := hn6.bl
     refine kJ ?_
     exact zh (r6, nl5, (q4 + 1), b2, c2) ⟨hn6, hb6, ⟨omT, omT⟩, omT⟩ omT suT (Wk.to [L.p, L.bb, L.rb, L.ib, 0, b2, nb] (by exact ⟨rfl, .inl rfl, rfl, .inl rfl, rfl, .inl rfl, rfl, .inl rfl, rfl, .inl rfl, rfl, .inl rfl, rfl, .inl rfl, trivial⟩))
   ·
    obtain rfl : q4 = qa := by omega
    refine gg 10 ?_
    refine dca (qy (b := false) hn4 (hb4.lt omT) hqf) ?_
    refine gg 9 ?_
    rcases hz with ⟨hz1, rfl⟩ | ⟨hz1, hz2, hz3⟩
    ·
     refine gg 11 ?_
     refine zn (bp0 omT) rfl ?_
     refine gg 7 ?_
     refine za rfl rfl rfl (read_cut L T { s with r := r4, nl := nl4, q := q4 } 1 s.q b4 c4 omT hc4 hd4 hn4 hb4 omT (kS omT) omT) ?_
     rintro _ _ ⟨r7, nl7, b2, c2, hn7, hb7, hc1, hc2, rfl, rfl⟩
     replace hn7 : Inv L T { s with r := r7, nl := nl7, q := (q4 + 1) } := hn7
     replace hb7 : Rdy T { s with r := r7, nl := nl7, q := (q4 + 1) } 0 := hb7
     refine lS ?_
     have hl7 : r7.pos + 0 ≤ r7.blen := hb7.len
     have hpq7 : r7.pos ≤ (q4 + 1) := hn7.pq
     have hbl7 : r7.blen ≤ 1536 := hn7.bl
     refine gg 3 ?_
     refine zD L T { s with r := r7, nl := nl7, q := (q4 + 1) } (gg 14 ?_)
     exact zm rfl rfl (Wk.to [L.p, L.bb, L.rb, L.ib, 0, nb, b2] (by exact ⟨rfl, .inl rfl, rfl, .inl rfl, rfl, .inl rfl, rfl, .inl rfl, rfl, .inl rfl, rfl, .inr (Blk.like_rec kR), rfl, .inl rfl, trivial⟩)) ⟨rfl, _, _, _, _, hn7, hb7, hc1, hc2, rfl⟩
    ·
     obtain rfl := hz3.symm
     refine gg 11 ?_
     refine zn (bp0 omT) rfl ?_
     refine gg 9 ?_
     refine sqz (q_bstr (X := kA T s.q q4) underlying5 underlying9 rfl (cutT_length _ _ _) (cutT_lt hn4.lt128) src_buf) ?_
     refine sqz (q_sne (r := false) rfl rfl (by rw [hz2, cutT_one, h0]; decide)) ?_
     refine gg 20 ?_
     exact zm rfl rfl (Wk.to [L.p, L.bb, L.rb, L.ib, 0, nb, b4] (by exact ⟨rfl, .inl rfl, rfl, .inl rfl, rfl, .inl rfl, rfl, .inl rfl, rfl, .inl rfl, rfl, .inr (Blk.like_rec kR), rfl, .inl rfl, trivial⟩)) ⟨rfl, _, _, _, _, hn4, Rdy.zero hn4, hc4, hd4, rfl⟩
end Go.Proofs.YtnfbcfflkphbiaaGreatDoor
