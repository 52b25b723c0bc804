/-
  Texts of the proof, joined: D4 D5 D6 F8. No Go text.
-/
import Derived.Test.YtnfbcfflkphbiaaGreatDoorA01
import Derived.Test.YtnfbcfflkphbiaaGreatDoorA08
import Derived.Test.YtnfbcfflkphbiaaGreatDoorA09
import Derived.Test.YtnfbcfflkphbiaaGreatDoorA15
import Derived.Test.YtnfbcfflkphbiaaGreatDoorA10
import Derived.Test.YtnfbcfflkphbiaaGreatDoorA13
namespace Go.Proofs.YtnfbcfflkphbiaaGreatDoor
open Go Go.Proofs Tryz
set_option linter.all false
set_option maxRecDepth 100000
set_option maxHeartbeats 8000000
theorem tdval_ok (L : Lay) (T : List Nat) (s : PS) (a b q1 qa qh q3 qe : Nat) (m1 m2 m3 : Value) (he : Eof L) (hn : Inv L T s) (hq1 : s.q ≤ q1) (hbl : ∀ i, s.q ≤ i → i < q1 → at_ T i = 32) (h0 : at_ T q1 = 33) (hqa : q1 < qa) (hal : ∀ i, q1 < i → i < qa → zC (at_ T i) = true)
  (hz : (at_ T qa = 33 ∧ qh = qa + 1) ∨ (at_ T qa = 32 ∧ qa = q1 + 1 ∧ qh = qa)) (hq3 : qh < q3) (hbl3 : ∀ i, qh ≤ i → i < q3 → at_ T i = 32) (hqe : q3 < qe) (huri : ∀ i, q3 ≤ i → i < qe → uriB (at_ T i) = true) (hze : zK (at_ T qe) = true) :
  Fn prog 187 [pV L.p, .agg #[m1, m2, m3], pV a, pV b] [PB L T s, BB L T s, RB L T s, IB L T, GE L, (a, .cs 23 [zS] []), (b, .cs 23 [zS] [])]
    (fun v H' => v = .bool true ∧ ∃ r nl b1 c1 b2 c2, Inv L T { s with r := r, nl := nl, q := qe } ∧ Rdy T { s with r := r, nl := nl, q := qe } 1 ∧ qh - q1 ≤ c1 ∧ c1 ≤ 9223372036854775807 ∧ qe - q3 ≤ c2 ∧ c2 ≤ 9223372036854775807 ∧
     H' = [PB L T { s with r := r, nl := nl, q := qe }, BB L T { s with r := r, nl := nl, q := qe }, RB L T { s with r := r, nl := nl, q := qe }, IB L T, GE L, (a, .cs 23 [.slice (some ⟨b1, 0, none⟩) (qh - q1) c1] []), (b, .cs 23 [.slice (some ⟨b2, 0, none⟩) (qe - q3) c2] []),
      (b1, .buf 5 c1 (bytes (kA T q1 qh))), (b2, .buf 5 c2 (bytes (kA T q3 qe)))]) := by
 have hu0 := huri q3 (Nat.le_refl _) hqe
 obtain ⟨hu1, hu2, hu3, _⟩ := wA hu0
 have l3 : q3 < T.length := kS hu3
 have hub : kj (at_ T q3) = false := by
  unfold kj
  refine decide_eq_false ?_
  rcases hu1 with h | h
  · simp [zC] at h; omega
  · omega
 refine zo func187 rfl rfl rfl ?_
 intro w
 refine zd (zi (ku rfl rfl rfl clT ?_))
 intro mb
 refine gg 5 ?_
 refine zk rfl rfl clT ?_
 intro ha
 refine zk rfl rfl clT ?_
 intro pa
 refine ze ?_
 refine zf ?_
 refine zR { s with r := s.r, nl := s.nl, q := s.q } 1 hn (fun hlt => ?_) (fun hlt => ?_) (fun r1 hn1 hb1 => ?_)
 ·
  refine gg 16 ?_
  exact zq hn hlt exT
 ·
  refine gg 9 ?_
  refine za rfl rfl rfl (kc L T { s with r := s.r, nl := s.nl, q := s.q } 1 he (.inl hn) hlt omT) ?_
  rintro _ _ ⟨rfl, r1, h1, h2, h3, rfl⟩
  refine lS ?_
  refine gg 6 ?_
  exact zr h1 h2 h3 exT
 ·
  replace hn1 : Inv L T { s with r := r1, nl := s.nl, q := s.q } := hn1
  replace hb1 : Rdy T { s with r := r1, nl := s.nl, q := s.q } 1 := hb1
  refine zt (RH L T { s with r := r1, nl := s.nl, q := s.q } _) _ rfl rfl ?_
  have hl1 : r1.pos + 1 ≤ r1.blen := hb1.len
  have hpq1 : r1.pos ≤ s.q := hn1.pq
  have hbl1 : r1.blen ≤ 1536 := hn1.bl
  refine zd (kf ?_)
  refine zw (σ := RS × Nat × Nat) (fun _ => [(0, pV L.p), (2, pV a), (3, pV b), (5, pV mb), (9, pV ha), (10, pV pa)]) (fun x => RH L T { s with r := x.1, nl := x.2.1, q := x.2.2 } _) (fun x => Inv L T { s with r := x.1, nl := x.2.1, q := x.2.2 } ∧ Rdy T { s with r := x.1, nl := x.2.1, q := x.2.2 } 1 ∧ (fun q => s.q ≤ q ∧ q ≤ q1) x.2.2) (fun x => T.length - x.2.2) (r1, s.nl, s.q) ⟨hn1, hb1, ⟨Nat.le_refl _, hq1⟩⟩ suT (Wk.refl _) ?_
  rintro ⟨r2, nl2, q2⟩ ⟨hn2, hb2, hp2⟩
  replace hn2 : Inv L T { s with r := r2, nl := nl2, q := q2 } := hn2
  replace hb2 : Rdy T { s with r := r2, nl := nl2, q := q2 } 1 := hb2
  dsimp only at hp2
  refine zt (RH L T { s with r := r2, nl := nl2, q := q2 } _) _ rfl rfl ?_
  have hl2 : r2.pos + 1 ≤ r2.blen := hb2.len
  have hpq2 : r2.pos ≤ q2 := hn2.pq
  have hbl2 : r2.blen ≤ 1536 := hn2.bl
  refine zd ?_
  by_cases hq : q2 < q1
  ·
    have hb32 := hbl q2 omT hq
    refine gg 10 ?_
    refine dca (ks (b := true) hn2 (hb2.lt omT) (by first | assumption | (unfold kj; first | exact decide_eq_true omT | exact decide_eq_false omT))) ?_
    refine gg 9 ?_
    refine za rfl rfl rfl (kG L T { s with r := r2, nl := nl2, q := q2 } 1 hn2 hb2 omT omT omT) ?_
    rintro _ _ ⟨rfl, r3, nl3, hn3, hb3, rfl⟩
    replace hn3 : Inv L T { s with r := r3, nl := nl3, q := (q2 + 1) } := hn3
    replace hb3 : Rdy T { s with r := r3, nl := nl3, q := (q2 + 1) } 0 := hb3
    refine lS ?_
    have hl3 : r3.pos + 0 ≤ r3.blen := hb3.len
    have hpq3 : r3.pos ≤ (q2 + 1) := hn3.pq
    have hbl3 : r3.blen ≤ 1536 := hn3.bl
    refine ze ?_
    refine zf (zD L T { s with r := r3, nl := nl3, q := (q2 + 1) } ?_)
    refine ki { s with r := r3, nl := nl3, q := (q2 + 1) } 1 hn3 (fun hlt => ?_) (fun hlt => ?_) (fun r4 hn4 hb4 => ?_)
    ·
     refine gg 16 ?_
     exact zq hn3 hlt exT
    ·
     refine gg 9 ?_
     refine za rfl rfl rfl (kc L T { s with r := r3, nl := nl3, q := (q2 + 1) } 1 he (.inl hn3) hlt omT) ?_
     rintro _ _ ⟨rfl, r4, h1, h2, h3, rfl⟩
     refine lS ?_
     refine gg 6 ?_
     exact zr h1 h2 h3 exT
    ·
     replace hn4 : Inv L T { s with r := r4, nl := nl3, q := (q2 + 1) } := hn4
     replace hb4 : Rdy T { s with r := r4, nl := nl3, q := (q2 + 1) } 1 := hb4
     refine qH (RH L T { s with r := r4, nl := nl3, q := (q2 + 1) } _) _ rfl rfl ?_
     have hl4 : r4.pos + 1 ≤ r4.blen := hb4.len
     have hpq4 : r4.pos ≤ (q2 + 1) := hn4.pq
     have hbl4 : r4.blen ≤ 1536 := hn4.bl
     refine kJ ?_
     exact zh (r4, nl3, (q2 + 1)) ⟨hn4, hb4, omT⟩ omT suT (Wk.refl _)
  ·
    obtain rfl : q2 = q1 := by omega
    refine gg 10 ?_
    refine dca (ks (b := false) hn2 (hb2.lt omT) (by first | assumption | (unfold kj; first | exact decide_eq_true omT | exact decide_eq_false omT))) ?_
    refine gg 13 ?_
    refine za rfl rfl rfl (thandle_ok L T { s with r := r2, nl := nl2, q := q2 } ha qa qh _ _ _ he hn2 h0 hqa hal hz) ?_
    rintro _ _ ⟨rfl, r5, nl5, b1, c1, hn5, hb5, hc1, hc2, rfl⟩
    replace hn5 : Inv L T { s with r := r5, nl := nl5, q := qh } := hn5
    replace hb5 : Rdy T { s with r := r5, nl := nl5, q := qh } 0 := hb5
    refine lS ?_
    have hl5 : r5.pos + 0 ≤ r5.blen := hb5.len
    have hpq5 : r5.pos ≤ qh := hn5.pq
    have hbl5 : r5.blen ≤ 1536 := hn5.bl
    refine gg 3 ?_
    have h32 := hbl3 qh (Nat.le_refl _) hq3
    refine zD L T { s with r := r5, nl := nl5, q := qh } (gg 3 ?_)
    refine zR { s with r := r5, nl := nl5, q := qh } 1 hn5 (fun hlt => ?_) (fun hlt => ?_) (fun r6 hn6 hb6 => ?_)
    ·
     refine gg 16 ?_
     exact zq hn5 hlt exT
    ·
     refine gg 9 ?_
     refine za rfl rfl rfl (kc L T { s with r := r5, nl := nl5, q := qh } 1 he (.inl hn5) hlt omT) ?_
     rintro _ _ ⟨rfl, r6, h1, h2, h3, rfl⟩
     refine lS ?_
     refine gg 6 ?_
     exact zr h1 h2 h3 exT
    ·
     replace hn6 : Inv L T { s with r := r6, nl := nl5, q := qh } := hn6
     replace hb6 : Rdy T { s with r := r6, nl := nl5, q := qh } 1 := hb6
     refine zt (RH L T { s with r := r6, nl := nl5, q := qh } _) _ rfl rfl ?_
     have hl6 : r6.pos + 1 ≤ r6.blen := hb6.len
     have hpq6 : r6.pos ≤ qh := hn6.pq
     have hbl6 : r6.blen ≤ 1536 := hn6.bl
     refine gg 11 ?_
     refine dca (ks (b := true) hn6 (hb6.lt omT) (by first | assumption | (unfold kj; first | exact decide_eq_true omT | exact decide_eq_false omT))) ?_
     refine gg 8 ?_
     refine zw (σ := RS × Nat × Nat) (fun _ => [(0, pV L.p), (2, pV a), (3, pV b), (5, pV mb), (9, pV ha), (10, pV pa)]) (fun x => RH L T { s with r := x.1, nl := x.2.1, q := x.2.2 } _) (fun x => Inv L T { s with r := x.1, nl := x.2.1, q := x.2.2 } ∧ Rdy T { s with r := x.1, nl := x.2.1, q := x.2.2 } 1 ∧ (fun q => qh ≤ q ∧ q ≤ q3) x.2.2) (fun x => T.length - x.2.2) (r6, nl5, qh) ⟨hn6, hb6, ⟨Nat.le_refl _, omT⟩⟩ suT (Wk.refl _) ?_
     rintro ⟨r7, nl7, q7⟩ ⟨hn7, hb7, hp7⟩
     replace hn7 : Inv L T { s with r := r7, nl := nl7, q := q7 } := hn7
     replace hb7 : Rdy T { s with r := r7, nl := nl7, q := q7 } 1 := hb7
     dsimp only at hp7
     refine zt (RH L T { s with r := r7, nl := nl7, q := q7 } _) _ rfl rfl ?_
     have hl7 : r7.pos + 1 ≤ r7.blen := hb7.len
     have hpq7 : r7.pos ≤ q7 := hn7.pq
     have hbl7 : r7.blen ≤ 1536 := hn7.bl
     refine zd ?_
     by_cases hq' : q7 < q3
     ·
      have hb32 := hbl3 q7 omT hq'
      refine gg 10 ?_
      refine dca (ks (b := true) hn7 (hb7.lt omT) (by first | assumption | (unfold kj; first | exact decide_eq_true omT | exact decide_eq_false omT))) ?_
      refine gg 9 ?_
      refine za rfl rfl rfl (kG L T { s with r := r7, nl := nl7, q := q7 } 1 hn7 hb7 omT omT omT) ?_
      rintro _ _ ⟨rfl, r8, nl8, hn8, hb8, rfl⟩
      replace hn8 : Inv L T { s with r := r8, nl := nl8, q := (q7 + 1) } := hn8
      replace hb8 : Rdy T { s with r := r8, nl := nl8, q := (q7 + 1) } 0 := hb8
      refine lS ?_
      have hl8 : r8.pos + 0 ≤ r8.blen := hb8.len
      have hpq8 : r8.pos ≤ (q7 + 1) := hn8.pq
      have hbl8 : r8.blen ≤ 1536 := hn8.bl
      refine ze ?_
      refine zf (zD L T { s with r := r8, nl := nl8, q := (q7 + 1) } ?_)
      refine ki { s with r := r8, nl := nl8, q := (q7 + 1) } 1 hn8 (fun hlt => ?_) (fun hlt => ?_) (fun r9 hn9 hb9 => ?_)
      ·
       refine gg 16 ?_
       exact zq hn8 hlt exT
      ·
       refine gg 9 ?_
       refine za rfl rfl rfl (kc L T { s with r := r8, nl := nl8, q := (q7 + 1) } 1 he (.inl hn8) hlt omT) ?_
       rintro _ _ ⟨rfl, r9, h1, h2, h3, rfl⟩
       refine lS ?_
       refine gg 6 ?_
       exact zr h1 h2 h3 exT
      ·
       replace hn9 : Inv L T { s with r := r9, nl := nl8, q := (q7 + 1) } := hn9
       replace hb9 : Rdy T { s with r := r9, nl := nl8, q := (q7 + 1) } 1 := hb9
       refine qH (RH L T { s with r := r9, nl := nl8, q := (q7 + 1) } _) _ rfl rfl ?_
       have hl9 : r9.pos + 1 ≤ r9.blen := hb9.len
       have hpq9 : r9.pos ≤ (q7 + 1) := hn9.pq
       have hbl9 : r9.blen ≤ 1536 := hn9.bl
       refine kJ ?_
       exact zh (r9, nl8, (q7 + 1)) ⟨hn9, hb9, omT⟩ omT suT (Wk.refl _)
     ·
      obtain rfl : q7 = q3 := by omega
      refine gg 10 ?_
      refine dca (ks (b := false) hn7 (hb7.lt omT) (hub)) ?_
      refine gg 13 ?_
      refine za rfl rfl rfl (turi_ok L T { s with r := r7, nl := nl7, q := q7 } pa qe 0 _ _ _ he hn7 hqe huri hze) ?_
      rintro _ _ ⟨rfl, r10, nl10, b2, c2, hn10, hb10, hc3, hc4, rfl⟩
      replace hn10 : Inv L T { s with r := r10, nl := nl10, q := qe } := hn10
      replace hb10 : Rdy T { s with r := r10, nl := nl10, q := qe } 1 := hb10
      refine lS ?_
      have hl10 : r10.pos + 1 ≤ r10.blen := hb10.len
      have hpq10 : r10.pos ≤ qe := hn10.pq
      have hbl10 : r10.blen ≤ 1536 := hn10.bl
      refine gg 3 ?_
      refine zD L T { s with r := r10, nl := nl10, q := qe } (gg 3 ?_)
      refine zR { s with r := r10, nl := nl10, q := qe } 1 hn10 (fun hlt => ?_) (fun hlt => ?_) (fun r11 hn11 hb11 => ?_)
      ·
       refine gg 16 ?_
       exact zq hn10 hlt exT
      ·
       refine gg 9 ?_
       refine za rfl rfl rfl (kc L T { s with r := r10, nl := nl10, q := qe } 1 he (.inl hn10) hlt omT) ?_
       rintro _ _ ⟨rfl, r11, h1, h2, h3, rfl⟩
       refine lS ?_
       refine gg 6 ?_
       exact zr h1 h2 h3 exT
      ·
       replace hn11 : Inv L T { s with r := r11, nl := nl10, q := qe } := hn11
       replace hb11 : Rdy T { s with r := r11, nl := nl10, q := qe } 1 := hb11
       refine zt (RH L T { s with r := r11, nl := nl10, q := qe } _) _ rfl rfl ?_
       have hl11 : r11.pos + 1 ≤ r11.blen := hb11.len
       have hpq11 : r11.pos ≤ qe := hn11.pq
       have hbl11 : r11.blen ≤ 1536 := hn11.bl
       refine gg 11 ?_
       refine dca (qZ (b := true) hn11 (hb11.lt omT) (hze)) ?_
       refine gg 28 ?_
       exact zm rfl rfl (Wk.to [L.p, L.bb, L.rb, L.ib, 0, a, b, b1, b2] wlT) ⟨rfl, _, _, _, _, _, _, hn11, hb11, hc1, hc2, hc3, hc4, rfl⟩
theorem beq_ok {H : zl} {v1 v2 : Value} {X Y : List Nat} {r : Bool} (h1 : BSrc H v1 X) (h2 : BSrc H v2 Y) (hr : decide (X = Y) = r) : PF prog 113 [v1, v2] H (.bool r) := by
 have b1 : ∀ c ∈ X, c < 256 := by rcases h1 with ⟨c, _, rfl⟩ | ⟨b, o, c, _, h, _⟩ <;> simp_all
 have b2 : ∀ c ∈ Y, c < 256 := by rcases h2 with ⟨c, _, rfl⟩ | ⟨b, o, c, _, h, _⟩ <;> simp_all
 refine zW func113 rfl rfl rfl ?_
 intro w
 refine gg 8 ?_
 refine sqz (qw underlying23 underlying5 underlying9 rfl h1) (smv ?_)
 refine sqz (qw underlying23 underlying5 underlying9 rfl h2) ?_
 refine sqz (q_seq (r := r) rfl rfl (by rw [← hr]; exact decide_eq_decide.2 ⟨fun h => sb_inj b1 b2 h, fun h => h ▸ rfl⟩)) ?_
 refine gg 4 ?_
 exact zV rfl rfl
theorem wm {H : zl} {b cap : Nat} {e : TypeId} {X : List Nat} [hh : Has H b (.buf e cap (bytes X))] {c n : Nat} (hn : X.length = n) (hX : ∀ x ∈ X, x < 256) : BSrc H (.slice (some ⟨b, 0, none⟩) n c) X := by
 subst hn
 exact .inr ⟨b, 0, c, rfl, hX, src_buf (hh := hh)⟩
theorem bsrc_row {H : zl} {b m : Nat} {e : TypeId} {fr : Nat × Nat} {f : Nat → Value} {X : List Nat} [hh : Has H b (.row e fr m f)] {c n : Nat} (hn : X.length = n) (hm : n ≤ m) (hX : ∀ x ∈ X, x < 256) (hf : ∀ j u, (bytes X)[j]? = some u → f j = u) : BSrc H (.slice (some ⟨b, 0, none⟩) n c) X := by
 subst hn
 exact .inr ⟨b, 0, c, rfl, hX, src_row (hh := hh) (by simpa using hm) hf⟩
theorem getD_of {l : List Value} : ∀ j u, l[j]? = some u → l.getD j undef = u := fun j u h => by rw [List.getD_eq_getElem?_getD, h]; rfl
theorem cutT_4 (T : List Nat) (a : Nat) : kA T a (a + 4) = [at_ T a, at_ T (a + 1), at_ T (a + 2), at_ T (a + 3)] := by
 simp [kA, show a + 4 - a = 4 by omega, List.range']
theorem cutT_3 (T : List Nat) (a : Nat) : kA T a (a + 3) = [at_ T a, at_ T (a + 1), at_ T (a + 2)] := by
 simp [kA, show a + 3 - a = 3 by omega, List.range']
structure DirEnd (T : List Nat) (qe qb ql : Nat) : Prop where
 eb : qe ≤ qb
 bl : qb ≤ ql
 sp : ∀ i, qe ≤ i → i < qb → at_ T i = 32
 com : qb = ql ∨ at_ T qb = 35
 txt : ∀ i, qb ≤ i → i < ql → at_ T i ≠ 10 ∧ i < T.length
 nl : at_ T ql = 10
theorem sdir_yaml (L : Lay) (T : List Nat) (s : PS) (tkb qv qb ql : Nat) (he : Eof L) (hn : Inv L T s) (hr : Rdy T s 4) (h0 : at_ T s.q = 37)
  (y1 : at_ T (s.q + 1) = 89) (y2 : at_ T (s.q + 1 + 1) = 65) (y3 : at_ T (s.q + 1 + 2) = 77) (y4 : at_ T (s.q + 1 + 3) = 76) (hv : s.q + 1 + 4 < qv) (hbl : ∀ i, s.q + 1 + 4 ≤ i → i < qv → at_ T i = 32)
  (v1 : at_ T qv = 49) (v2 : at_ T (qv + 1) = 46) (v3 : at_ T (qv + 2) = 49) (hd : DirEnd T (qv + 3) qb ql) :
  Fn prog 171 [pV L.p, pV tkb] (RH L T s [(tkb, .cs 163 qx [])])
    (fun v H' => v = .bool true ∧ ∃ r nl, Inv L T { s with r := r, nl := nl, q := ql + 1 } ∧ Rdy T { s with r := r, nl := nl, q := ql + 1 } 0 ∧
      H' = RH L T { s with r := r, nl := nl, q := ql + 1 } [(tkb, .cs 163 (tokC T 3 s.q (qv + 3) 0 (zS) (zS) 0 1 1) [])]) := by
 have lv : qv + 2 < T.length := kS omT
 have ll : ql < T.length := kS (by have := hd.nl; omega)
 have hsp : at_ T (s.q + 1 + 4) = 32 := hbl _ (Nat.le_refl _) hv
 have hdig : digitB (at_ T (qv + 3)) = false := by
  unfold digitB
  refine decide_eq_false ?_
  by_cases h : qv + 3 < qb
  · have := hd.sp _ (Nat.le_refl _) h; omega
  · have e : qv + 3 = qb := by have := hd.eb; omega
    rw [e]
    rcases hd.com with h | h
    · rw [h, hd.nl]; omega
    · omega
 have heb := hd.eb
 have hbl' := hd.bl
 have hbb : kj (at_ T qb) = false := by
  unfold kj
  refine decide_eq_false ?_
  rcases hd.com with h | h
  · rw [h, hd.nl]; omega
  · omega
 refine zo func171 rfl rfl rfl ?_
 intro w
 have hl := hr.len
 have hpq := hn.pq
 have hbl0 := hn.bl
 refine gg 11 ?_
 refine zk rfl rfl clT ?_
 intro mb
 first | refine stw rfl rfl ?_ | refine sts rfl rfl ?_
 refine gg 5 ?_
 refine za rfl rfl rfl (kG L T { s with r := s.r, nl := s.nl, q := s.q } 4 hn hr omT omT omT) ?_
 rintro _ _ ⟨rfl, r1, nl1, hn1, hb1, rfl⟩
 replace hn1 : Inv L T { s with r := r1, nl := nl1, q := (s.q + 1) } := hn1
 replace hb1 : Rdy T { s with r := r1, nl := nl1, q := (s.q + 1) } 3 := hb1
 refine lS ?_
 have hl1 : r1.pos + 3 ≤ r1.blen := hb1.len
 have hpq1 : r1.pos ≤ (s.q + 1) := hn1.pq
 have hbl1 : r1.blen ≤ 1536 := hn1.bl
 refine ze ?_
 refine zf (zD L T { s with r := r1, nl := nl1, q := (s.q + 1) } (zd (zi (zk rfl rfl clT ?_))))
 intro nb
 refine gg 7 ?_
 refine za rfl rfl rfl (dname_ok L T { s with r := r1, nl := nl1, q := (s.q + 1) } nb (s.q + 1 + 4) _ _ _ he hn1 omT (by dsimp only; intro i h1 h2; rcases (show i = s.q + 1 ∨ i = s.q + 1 + 1 ∨ i = s.q + 1 + 2 ∨ i = s.q + 1 + 3 by omega) with h | h | h | h <;> subst h <;> simp [zC, y1, y2, y3, y4]) (by simp [zK, hsp])) ?_
 rintro _ _ ⟨rfl, r2, nl2, b1, c1, hn2, hb2, hc1, hc2, rfl⟩
 replace hn2 : Inv L T { s with r := r2, nl := nl2, q := (s.q + 1 + 4) } := hn2
 replace hb2 : Rdy T { s with r := r2, nl := nl2, q := (s.q + 1 + 4) } 1 := hb2
 refine lS ?_
 have hl2 : r2.pos + 1 ≤ r2.blen := hb2.len
 have hpq2 : r2.pos ≤ (s.q + 1 + 4) := hn2.pq
 have hbl2 : r2.blen ≤ 1536 := hn2.bl
 refine gg 3 ?_
 refine zD L T { s with r := r2, nl := nl2, q := (s.q + 1 + 4) } (gg 7 ?_)
 refine kV (l := [_, _, _, _]) (zs := [.int .u8 0, .int .u8 0, .int .u8 0, .int .u8 0]) [0, 1, 2, 3] rfl rfl rfl rfl kR rfl rfl ?_
 intro yb
 refine s_cvs underlying23 underlying5 rfl rfl rfl ?_
 refine sca (beq_ok (H := [(b1, .buf 5 c1 (bytes (kA T (s.q + 1) (s.q + 1 + 4)))), (yb, .row 5 (4, 5) 4 (fun k => [Value.int .u8 89, .int .u8 65, .int .u8 77, .int .u8 76].getD k undef))]) (wm (b := b1) (cap := c1) (c := c1) (n := s.q + 1 + 4 - (s.q + 1)) (X := kA T (s.q + 1) (s.q + 1 + 4)) (by simp) (cutT_lt hn.lt128)) (bsrc_row (b := yb) (n := 4) (m := 4) (c := 4) (X := [89, 65, 77, 76]) rfl (by decide) (by decide) getD_of) (by rw [cutT_4, y1, y2, y3, y4])) ?_
 refine gg 5 ?_
 refine zk rfl rfl clT ?_
 intro jb
 refine zk rfl rfl clT ?_
 intro ib
 refine gg 7 ?_
 refine za rfl rfl rfl (vval_ok L T { s with r := r2, nl := nl2, q := (s.q + 1 + 4) } jb ib qv _ _ _ he hn2 omT hbl v1 v2 v3 hdig) ?_
 rintro _ _ ⟨rfl, r3, nl3, hn3, hb3, rfl⟩
 replace hn3 : Inv L T { s with r := r3, nl := nl3, q := (qv + 3) } := hn3
 replace hb3 : Rdy T { s with r := r3, nl := nl3, q := (qv + 3) } 1 := hb3
 refine lS ?_
 have hl3 : r3.pos + 1 ≤ r3.blen := hb3.len
 have hpq3 : r3.pos ≤ (qv + 3) := hn3.pq
 have hbl3 : r3.blen ≤ 1536 := hn3.bl
 refine gg 3 ?_
 refine zD L T { s with r := r3, nl := nl3, q := (qv + 3) } (gg 9 ?_)
 refine zk rfl rfl clT ?_
 intro eb
 first | refine stw rfl rfl ?_ | refine sts rfl rfl ?_
 refine gg 8 ?_
 refine sqz (zu (l := [_, _, _, _, _, _, _, _, _, _, _, _, _, _]) (zs := [zI, zI, zI, zI, zI, zI, zI, zI, zS, zS, zS, .int .i8 0, .int .i8 0, .int .i8 0]) [0, 1, 4, 7, 8, 9, 10, 11, 12, 13] rfl rfl kR) ?_
 refine snc ?_
 first | refine stw rfl rfl ?_ | refine sts rfl rfl ?_
 refine ze ?_
 refine zf ?_
 refine zR { s with r := r3, nl := nl3, q := (qv + 3) } 1 hn3 (fun hlt => ?_) (fun hlt => ?_) (fun r4 hn4 hb4 => ?_)
 ·
  refine gg 16 ?_
  exact zq hn3 hlt exT
 ·
  refine gg 9 ?_
  refine za rfl rfl rfl (kc L T { s with r := r3, nl := nl3, q := (qv + 3) } 1 he (.inl hn3) hlt omT) ?_
  rintro _ _ ⟨rfl, r4, h1, h2, h3, rfl⟩
  refine lS ?_
  refine gg 6 ?_
  exact zr h1 h2 h3 exT
 ·
  replace hn4 : Inv L T { s with r := r4, nl := nl3, q := (qv + 3) } := hn4
  replace hb4 : Rdy T { s with r := r4, nl := nl3, q := (qv + 3) } 1 := hb4
  refine zt (RH L T { s with r := r4, nl := nl3, q := (qv + 3) } _) _ rfl rfl ?_
  have hl4 : r4.pos + 1 ≤ r4.blen := hb4.len
  have hpq4 : r4.pos ≤ (qv + 3) := hn4.pq
  have hbl4 : r4.blen ≤ 1536 := hn4.bl
  refine zd (kf ?_)
  refine zw (σ := RS × Nat × Nat) (fun _ => [(0, pV L.p), (1, pV tkb), (5, pV mb)]) (fun x => RH L T { s with r := x.1, nl := x.2.1, q := x.2.2 } _) (fun x => Inv L T { s with r := x.1, nl := x.2.1, q := x.2.2 } ∧ Rdy T { s with r := x.1, nl := x.2.1, q := x.2.2 } 1 ∧ (fun q => qv + 3 ≤ q ∧ q ≤ qb) x.2.2) (fun x => T.length - x.2.2) (r4, nl3, (qv + 3)) ⟨hn4, hb4, ⟨Nat.le_refl _, heb⟩⟩ suT (Wk.refl _) ?_
  rintro ⟨r5, nl5, q5⟩ ⟨hn5, hb5, hp5⟩
  replace hn5 : Inv L T { s with r := r5, nl := nl5, q := q5 } := hn5
  replace hb5 : Rdy T { s with r := r5, nl := nl5, q := q5 } 1 := hb5
  dsimp only at hp5
  refine zt (RH L T { s with r := r5, nl := nl5, q := q5 } _) _ rfl rfl ?_
  have hl5 : r5.pos + 1 ≤ r5.blen := hb5.len
  have hpq5 : r5.pos ≤ q5 := hn5.pq
  have hbl5 : r5.blen ≤ 1536 := hn5.bl
  refine zd ?_
  by_cases hq : q5 < qb
  ·
    have hb32 := hd.sp q5 omT hq
    refine gg 10 ?_
    refine dca (ks (b := true) hn5 (hb5.lt omT) (by first | assumption | (unfold kj; first | exact decide_eq_true omT | exact decide_eq_false omT))) ?_
    refine gg 9 ?_
    refine za rfl rfl rfl (kG L T { s with r := r5, nl := nl5, q := q5 } 1 hn5 hb5 omT omT omT) ?_
    rintro _ _ ⟨rfl, r6, nl6, hn6, hb6, rfl⟩
    replace hn6 : Inv L T { s with r := r6, nl := nl6, q := (q5 + 1) } := hn6
    replace hb6 : Rdy T { s with r := r6, nl := nl6, q := (q5 + 1) } 0 := hb6
    refine lS ?_
    have hl6 : r6.pos + 0 ≤ r6.blen := hb6.len
    have hpq6 : r6.pos ≤ (q5 + 1) := hn6.pq
    have hbl6 : r6.blen ≤ 1536 := hn6.bl
    refine ze ?_
    refine zf (zD L T { s with r := r6, nl := nl6, q := (q5 + 1) } ?_)
    refine ki { s with r := r6, nl := nl6, q := (q5 + 1) } 1 hn6 (fun hlt => ?_) (fun hlt => ?_) (fun r7 hn7 hb7 => ?_)
    ·
      refine gg 16 ?_
      exact zq hn6 hlt exT
    ·
      refine gg 9 ?_
      refine za rfl rfl rfl (kc L T { s with r := r6, nl := nl6, q := (q5 + 1) } 1 he (.inl hn6) hlt omT) ?_
      rintro _ _ ⟨rfl, r7, h1, h2, h3, rfl⟩
      refine lS ?_
      refine gg 6 ?_
      exact zr h1 h2 h3 exT
    ·
      replace hn7 : Inv L T { s with r := r7, nl := nl6, q := (q5 + 1) } := hn7
      replace hb7 : Rdy T { s with r := r7, nl := nl6, q := (q5 + 1) } 1 := hb7
      refine qH (RH L T { s with r := r7, nl := nl6, q := (q5 + 1) } _) _ rfl rfl ?_
      have hl7 : r7.pos + 1 ≤ r7.blen := hb7.len
      have hpq7 : r7.pos ≤ (q5 + 1) := hn7.pq
      have hbl7 : r7.blen ≤ 1536 := hn7.bl
      refine kJ ?_
      exact zh (r7, nl6, (q5 + 1)) ⟨hn7, hb7, omT⟩ omT suT (Wk.refl _)
  ·
    obtain rfl : q5 = qb := by omega
    refine gg 10 ?_
    refine dca (ks (b := false) hn5 (hb5.lt omT) (hbb)) ?_
    refine gg 9 ?_
    rcases hd.com with hcm | hcm
    ·
      obtain rfl := hcm
      have hnl := hd.nl
      refine gg 11 ?_
      refine zn (bp0 omT) rfl ?_
      refine gg 17 ?_
      refine dca (qd (b := true) hn5 (hb5.lt omT) (by first | assumption | (unfold kE; first | exact decide_eq_true omT | exact decide_eq_false omT))) ?_
      refine gg 17 ?_
      refine dca (qN (b := true) hn5 (hb5.lt omT) (by first | assumption | (unfold qo; first | exact decide_eq_true omT | exact decide_eq_false omT))) ?_
      refine gg 3 ?_
      refine zR { s with r := r5, nl := nl5, q := q5 } 2 hn5 (fun hlt => ?_) (fun hlt => ?_) (fun r8 hn8 hb8 => ?_)
      ·
       refine gg 16 ?_
       exact zq hn5 hlt exT
      ·
       refine gg 9 ?_
       refine za rfl rfl rfl (kc L T { s with r := r5, nl := nl5, q := q5 } 2 he (.inl hn5) hlt omT) ?_
       rintro _ _ ⟨rfl, r8, h1, h2, h3, rfl⟩
       refine lS ?_
       refine gg 6 ?_
       exact zr h1 h2 h3 exT
      ·
       replace hn8 : Inv L T { s with r := r8, nl := nl5, q := q5 } := hn8
       replace hb8 : Rdy T { s with r := r8, nl := nl5, q := q5 } 2 := hb8
       refine zt (RH L T { s with r := r8, nl := nl5, q := q5 } _) _ rfl rfl ?_
       have hl8 : r8.pos + 2 ≤ r8.blen := hb8.len
       have hpq8 : r8.pos ≤ q5 := hn8.pq
       have hbl8 : r8.blen ≤ 1536 := hn8.bl
       refine zi (smv ?_)
       refine za rfl rfl rfl (qG L T { s with r := r8, nl := nl5, q := q5 } 2 hn8 hb8 omT omT omT) ?_
       rintro _ _ ⟨rfl, r9, nl9, hn9, hb9, rfl⟩
       replace hn9 : Inv L T { s with r := r9, nl := nl9, q := (q5 + 1) } := hn9
       replace hb9 : Rdy T { s with r := r9, nl := nl9, q := (q5 + 1) } 1 := hb9
       refine lS ?_
       have hl9 : r9.pos + 1 ≤ r9.blen := hb9.len
       have hpq9 : r9.pos ≤ (q5 + 1) := hn9.pq
       have hbl9 : r9.blen ≤ 1536 := hn9.bl
       refine ze ?_
       refine zf (zD L T { s with r := r9, nl := nl9, q := (q5 + 1) } (gg 6 ?_))
       exact zm rfl rfl (Wk.to [L.p, L.bb, L.rb, L.ib, 0, tkb] wlT) ⟨rfl, _, _, hn9, Rdy.zero hn9, rfl⟩
    ·
      refine gg 11 ?_
      refine zn (bp0 omT) rfl ?_
      refine gg 5 ?_
      refine zw (σ := RS × Nat × Nat) (fun _ => [(0, pV L.p), (1, pV tkb), (5, pV mb)]) (fun x => RH L T { s with r := x.1, nl := x.2.1, q := x.2.2 } _) (fun x => Inv L T { s with r := x.1, nl := x.2.1, q := x.2.2 } ∧ Rdy T { s with r := x.1, nl := x.2.1, q := x.2.2 } 1 ∧ (fun q => q5 ≤ q ∧ q ≤ ql) x.2.2) (fun x => T.length - x.2.2) (r5, nl5, q5) ⟨hn5, hb5, ⟨Nat.le_refl _, hd.bl⟩⟩ suT (Wk.refl _) ?_
      rintro ⟨r10, nl10, q10⟩ ⟨hn10, hb10, hp10⟩
      replace hn10 : Inv L T { s with r := r10, nl := nl10, q := q10 } := hn10
      replace hb10 : Rdy T { s with r := r10, nl := nl10, q := q10 } 1 := hb10
      dsimp only at hp10
      refine zt (RH L T { s with r := r10, nl := nl10, q := q10 } _) _ rfl rfl ?_
      have hl10 : r10.pos + 1 ≤ r10.blen := hb10.len
      have hpq10 : r10.pos ≤ q10 := hn10.pq
      have hbl10 : r10.blen ≤ 1536 := hn10.bl
      refine zd ?_
      by_cases hq : q10 < ql
      ·
       obtain ⟨ht1, ht2⟩ := hd.txt q10 omT hq
       have ht3 := hn.asc _ (at_mem ht2)
       refine gg 10 ?_
       refine dca (qd (b := false) hn10 (hb10.lt omT) (by first | assumption | (unfold kE; first | exact decide_eq_true omT | exact decide_eq_false omT))) ?_
       refine gg 10 ?_
       refine za rfl rfl rfl (kG L T { s with r := r10, nl := nl10, q := q10 } 1 hn10 hb10 omT omT omT) ?_
       rintro _ _ ⟨rfl, r11, nl11, hn11, hb11, rfl⟩
       replace hn11 : Inv L T { s with r := r11, nl := nl11, q := (q10 + 1) } := hn11
       replace hb11 : Rdy T { s with r := r11, nl := nl11, q := (q10 + 1) } 0 := hb11
       refine lS ?_
       have hl11 : r11.pos + 0 ≤ r11.blen := hb11.len
       have hpq11 : r11.pos ≤ (q10 + 1) := hn11.pq
       have hbl11 : r11.blen ≤ 1536 := hn11.bl
       refine ze ?_
       refine zf (zD L T { s with r := r11, nl := nl11, q := (q10 + 1) } ?_)
       refine ki { s with r := r11, nl := nl11, q := (q10 + 1) } 1 hn11 (fun hlt => ?_) (fun hlt => ?_) (fun r12 hn12 hb12 => ?_)
       ·
        refine gg 16 ?_
        exact zq hn11 hlt exT
       ·
        refine gg 9 ?_
        refine za rfl rfl rfl (kc L T { s with r := r11, nl := nl11, q := (q10 + 1) } 1 he (.inl hn11) hlt omT) ?_
        rintro _ _ ⟨rfl, r12, h1, h2, h3, rfl⟩
        refine lS ?_
        refine gg 6 ?_
        exact zr h1 h2 h3 exT
       ·
        replace hn12 : Inv L T { s with r := r12, nl := nl11, q := (q10 + 1) } := hn12
        replace hb12 : Rdy T { s with r := r12, nl := nl11, q := (q10 + 1) } 1 := hb12
        refine qH (RH L T { s with r := r12, nl := nl11, q := (q10 + 1) } _) _ rfl rfl ?_
        have hl12 : r12.pos + 1 ≤ r12.blen := hb12.len
        have hpq12 : r12.pos ≤ (q10 + 1) := hn12.pq
        have hbl12 : r12.blen ≤ 1536 := hn12.bl
        refine kJ ?_
        exact zh (r12, nl11, (q10 + 1)) ⟨hn12, hb12, omT⟩ omT suT (Wk.refl _)
      ·
       obtain rfl : q10 = ql := by omega
       have hnl := hd.nl
       refine gg 10 ?_
       refine dca (qd (b := true) hn10 (hb10.lt omT) (by first | assumption | (unfold kE; first | exact decide_eq_true omT | exact decide_eq_false omT))) ?_
       refine gg 20 ?_
       refine dca (qd (b := true) hn10 (hb10.lt omT) (by first | assumption | (unfold kE; first | exact decide_eq_true omT | exact decide_eq_false omT))) ?_
       refine gg 17 ?_
       refine dca (qN (b := true) hn10 (hb10.lt omT) (by first | assumption | (unfold qo; first | exact decide_eq_true omT | exact decide_eq_false omT))) ?_
       refine gg 3 ?_
       refine zR { s with r := r10, nl := nl10, q := q10 } 2 hn10 (fun hlt => ?_) (fun hlt => ?_) (fun r13 hn13 hb13 => ?_)
       ·
        refine gg 16 ?_
        exact zq hn10 hlt exT
       ·
        refine gg 9 ?_
        refine za rfl rfl rfl (kc L T { s with r := r10, nl := nl10, q := q10 } 2 he (.inl hn10) hlt omT) ?_
        rintro _ _ ⟨rfl, r13, h1, h2, h3, rfl⟩
        refine lS ?_
        refine gg 6 ?_
        exact zr h1 h2 h3 exT
       ·
        replace hn13 : Inv L T { s with r := r13, nl := nl10, q := q10 } := hn13
        replace hb13 : Rdy T { s with r := r13, nl := nl10, q := q10 } 2 := hb13
        refine zt (RH L T { s with r := r13, nl := nl10, q := q10 } _) _ rfl rfl ?_
        have hl13 : r13.pos + 2 ≤ r13.blen := hb13.len
        have hpq13 : r13.pos ≤ q10 := hn13.pq
        have hbl13 : r13.blen ≤ 1536 := hn13.bl
        refine zi (smv ?_)
        refine za rfl rfl rfl (qG L T { s with r := r13, nl := nl10, q := q10 } 2 hn13 hb13 omT omT omT) ?_
        rintro _ _ ⟨rfl, r14, nl14, hn14, hb14, rfl⟩
        replace hn14 : Inv L T { s with r := r14, nl := nl14, q := (q10 + 1) } := hn14
        replace hb14 : Rdy T { s with r := r14, nl := nl14, q := (q10 + 1) } 1 := hb14
        refine lS ?_
        have hl14 : r14.pos + 1 ≤ r14.blen := hb14.len
        have hpq14 : r14.pos ≤ (q10 + 1) := hn14.pq
        have hbl14 : r14.blen ≤ 1536 := hn14.bl
        refine ze ?_
        refine zf (zD L T { s with r := r14, nl := nl14, q := (q10 + 1) } (gg 6 ?_))
        exact zm rfl rfl (Wk.to [L.p, L.bb, L.rb, L.ib, 0, tkb] wlT) ⟨rfl, _, _, hn14, Rdy.zero hn14, rfl⟩
theorem sdir_tag (L : Lay) (T : List Nat) (s : PS) (tkb qv qa qh q3 qe qb ql : Nat) (he : Eof L) (hn : Inv L T s) (hr : Rdy T s 4) (h0 : at_ T s.q = 37)
  (y1 : at_ T (s.q + 1) = 84) (y2 : at_ T (s.q + 1 + 1) = 65) (y3 : at_ T (s.q + 1 + 2) = 71) (hv : s.q + 1 + 3 < qv) (hbl : ∀ i, s.q + 1 + 3 ≤ i → i < qv → at_ T i = 32)
  (h33 : at_ T qv = 33) (hqa : qv < qa) (hal : ∀ i, qv < i → i < qa → zC (at_ T i) = true)
  (hz : (at_ T qa = 33 ∧ qh = qa + 1) ∨ (at_ T qa = 32 ∧ qa = qv + 1 ∧ qh = qa)) (hq3 : qh < q3) (hbl3 : ∀ i, qh ≤ i → i < q3 → at_ T i = 32) (hqe : q3 < qe) (huri : ∀ i, q3 ≤ i → i < qe → uriB (at_ T i) = true) (hd : DirEnd T qe qb ql) (hsc : qe = qb → at_ T qb = 10) :
  Fn prog 171 [pV L.p, pV tkb] (RH L T s [(tkb, .cs 163 qx [])])
    (fun v H' => v = .bool true ∧ ∃ r nl b1 c1 b2 c2, Inv L T { s with r := r, nl := nl, q := ql + 1 } ∧ Rdy T { s with r := r, nl := nl, q := ql + 1 } 0 ∧ qh - qv ≤ c1 ∧ c1 ≤ 9223372036854775807 ∧ qe - q3 ≤ c2 ∧ c2 ≤ 9223372036854775807 ∧
     H' = RH L T { s with r := r, nl := nl, q := ql + 1 } [(tkb, .cs 163 (tokC T 4 s.q qe 0 (.slice (some ⟨b1, 0, none⟩) (qh - qv) c1) (.slice (some ⟨b2, 0, none⟩) (qe - q3) c2) 0 0 0) []), (b1, .buf 5 c1 (bytes (kA T qv qh))), (b2, .buf 5 c2 (bytes (kA T q3 qe)))]) := by
 have ll : ql < T.length := kS (by have := hd.nl; omega)
 have hsp : at_ T (s.q + 1 + 3) = 32 := hbl _ (Nat.le_refl _) hv
 have hze : zK (at_ T qe) = true := by
  unfold zK
  refine decide_eq_true ?_
  by_cases h : qe < qb
  · have := hd.sp _ (Nat.le_refl _) h; omega
  · have e : qe = qb := by have := hd.eb; omega
    rw [e]
    have := hsc e
    omega
 have heb := hd.eb
 have hbl' := hd.bl
 have hbb : kj (at_ T qb) = false := by
  unfold kj
  refine decide_eq_false ?_
  rcases hd.com with h | h
  · rw [h, hd.nl]; omega
  · omega
 refine zo func171 rfl rfl rfl ?_
 intro w
 have hl := hr.len
 have hpq := hn.pq
 have hbl0 := hn.bl
 refine gg 11 ?_
 refine zk rfl rfl clT ?_
 intro mb
 first | refine stw rfl rfl ?_ | refine sts rfl rfl ?_
 refine gg 5 ?_
 refine za rfl rfl rfl (kG L T { s with r := s.r, nl := s.nl, q := s.q } 4 hn hr omT omT omT) ?_
 rintro _ _ ⟨rfl, r1, nl1, hn1, hb1, rfl⟩
 replace hn1 : Inv L T { s with r := r1, nl := nl1, q := (s.q + 1) } := hn1
 replace hb1 : Rdy T { s with r := r1, nl := nl1, q := (s.q + 1) } 3 := hb1
 refine lS ?_
 have hl1 : r1.pos + 3 ≤ r1.blen := hb1.len
 have hpq1 : r1.pos ≤ (s.q + 1) := hn1.pq
 have hbl1 : r1.blen ≤ 1536 := hn1.bl
 refine ze ?_
 refine zf (zD L T { s with r := r1, nl := nl1, q := (s.q + 1) } (zd (zi (zk rfl rfl clT ?_))))
 intro nb
 refine gg 7 ?_
 refine za rfl rfl rfl (dname_ok L T { s with r := r1, nl := nl1, q := (s.q + 1) } nb (s.q + 1 + 3) _ _ _ he hn1 omT (by dsimp only; intro i h1 h2; rcases (show i = s.q + 1 ∨ i = s.q + 1 + 1 ∨ i = s.q + 1 + 2 by omega) with h | h | h <;> subst h <;> simp [zC, y1, y2, y3]) (by simp [zK, hsp])) ?_
 rintro _ _ ⟨rfl, r2, nl2, b1, c1, hn2, hb2, hc1, hc2, rfl⟩
 replace hn2 : Inv L T { s with r := r2, nl := nl2, q := (s.q + 1 + 3) } := hn2
 replace hb2 : Rdy T { s with r := r2, nl := nl2, q := (s.q + 1 + 3) } 1 := hb2
 refine lS ?_
 have hl2 : r2.pos + 1 ≤ r2.blen := hb2.len
 have hpq2 : r2.pos ≤ (s.q + 1 + 3) := hn2.pq
 have hbl2 : r2.blen ≤ 1536 := hn2.bl
 refine gg 3 ?_
 refine zD L T { s with r := r2, nl := nl2, q := (s.q + 1 + 3) } (gg 7 ?_)
 refine kV (l := [_, _, _, _]) (zs := [.int .u8 0, .int .u8 0, .int .u8 0, .int .u8 0]) [0, 1, 2, 3] rfl rfl rfl rfl kR rfl rfl ?_
 intro yb
 refine s_cvs underlying23 underlying5 rfl rfl rfl ?_
 refine sca (beq_ok (H := [(b1, .buf 5 c1 (bytes (kA T (s.q + 1) (s.q + 1 + 3)))), (yb, .row 5 (4, 5) 4 (fun k => [Value.int .u8 89, .int .u8 65, .int .u8 77, .int .u8 76].getD k undef))]) (wm (b := b1) (cap := c1) (c := c1) (n := s.q + 1 + 3 - (s.q + 1)) (X := kA T (s.q + 1) (s.q + 1 + 3)) (by simp) (cutT_lt hn.lt128)) (bsrc_row (b := yb) (n := 4) (m := 4) (c := 4) (X := [89, 65, 77, 76]) rfl (by decide) (by decide) getD_of) (by rw [cutT_3, y1, y2, y3])) ?_
 refine gg 6 ?_
 refine kV (l := [_, _, _]) (zs := [.int .u8 0, .int .u8 0, .int .u8 0]) [0, 1, 2] rfl rfl rfl rfl kR rfl rfl ?_
 intro zb
 refine s_cvs underlying23 underlying5 rfl rfl rfl ?_
 refine sca (beq_ok (H := [(b1, .buf 5 c1 (bytes (kA T (s.q + 1) (s.q + 1 + 3)))), (zb, .row 5 (3, 4) 3 (fun k => [Value.int .u8 84, .int .u8 65, .int .u8 71].getD k undef))]) (wm (b := b1) (cap := c1) (c := c1) (n := s.q + 1 + 3 - (s.q + 1)) (X := kA T (s.q + 1) (s.q + 1 + 3)) (by simp) (cutT_lt hn.lt128)) (bsrc_row (b := zb) (n := 3) (m := 3) (c := 3) (X := [84, 65, 71]) rfl (by decide) (by decide) getD_of) (by rw [cutT_3, y1, y2, y3])) ?_
 refine gg 5 ?_
 refine zk rfl rfl clT ?_
 intro jb
 refine zk rfl rfl clT ?_
 intro ib
 refine gg 7 ?_
 refine za rfl rfl rfl (tdval_ok L T { s with r := r2, nl := nl2, q := (s.q + 1 + 3) } jb ib qv qa qh q3 qe _ _ _ he hn2 omT hbl h33 hqa hal hz hq3 hbl3 hqe huri hze) ?_
 rintro _ _ ⟨rfl, r3, nl3, b2, c2, b3, c3, hn3, hb3, hh1, hh2, hh3, hh4, rfl⟩
 replace hn3 : Inv L T { s with r := r3, nl := nl3, q := qe } := hn3
 replace hb3 : Rdy T { s with r := r3, nl := nl3, q := qe } 1 := hb3
 refine lS ?_
 have hl3 : r3.pos + 1 ≤ r3.blen := hb3.len
 have hpq3 : r3.pos ≤ qe := hn3.pq
 have hbl3 : r3.blen ≤ 1536 := hn3.bl
 refine gg 3 ?_
 refine zD L T { s with r := r3, nl := nl3, q := qe } (gg 9 ?_)
 refine zk rfl rfl clT ?_
 intro eb
 first | refine stw rfl rfl ?_ | refine sts rfl rfl ?_
 refine gg 8 ?_
 refine sqz (zu (l := [_, _, _, _, _, _, _, _, _, _, _, _, _, _]) (zs := [zI, zI, zI, zI, zI, zI, zI, zI, zS, zS, zS, .int .i8 0, .int .i8 0, .int .i8 0]) [0, 1, 4, 7, 8, 9, 10, 11, 12, 13] rfl rfl kR) ?_
 refine snc ?_
 first | refine stw rfl rfl ?_ | refine sts rfl rfl ?_
 refine ze ?_
 refine zf ?_
 refine zR { s with r := r3, nl := nl3, q := qe } 1 hn3 (fun hlt => ?_) (fun hlt => ?_) (fun r4 hn4 hb4 => ?_)
 ·
  refine gg 16 ?_
  exact zq hn3 hlt exT
 ·
  refine gg 9 ?_
  refine za rfl rfl rfl (kc L T { s with r := r3, nl := nl3, q := qe } 1 he (.inl hn3) hlt omT) ?_
  rintro _ _ ⟨rfl, r4, h1, h2, h3, rfl⟩
  refine lS ?_
  refine gg 6 ?_
  exact zr h1 h2 h3 exT
 ·
  replace hn4 : Inv L T { s with r := r4, nl := nl3, q := qe } := hn4
  replace hb4 : Rdy T { s with r := r4, nl := nl3, q := qe } 1 := hb4
  refine zt (RH L T { s with r := r4, nl := nl3, q := qe } _) _ rfl rfl ?_
  have hl4 : r4.pos + 1 ≤ r4.blen := hb4.len
  have hpq4 : r4.pos ≤ qe := hn4.pq
  have hbl4 : r4.blen ≤ 1536 := hn4.bl
  refine zd (kf ?_)
  refine zw (σ := RS × Nat × Nat) (fun _ => [(0, pV L.p), (1, pV tkb), (5, pV mb)]) (fun x => RH L T { s with r := x.1, nl := x.2.1, q := x.2.2 } _) (fun x => Inv L T { s with r := x.1, nl := x.2.1, q := x.2.2 } ∧ Rdy T { s with r := x.1, nl := x.2.1, q := x.2.2 } 1 ∧ (fun q => qe ≤ q ∧ q ≤ qb) x.2.2) (fun x => T.length - x.2.2) (r4, nl3, qe) ⟨hn4, hb4, ⟨Nat.le_refl _, heb⟩⟩ suT (Wk.refl _) ?_
  rintro ⟨r5, nl5, q5⟩ ⟨hn5, hb5, hp5⟩
  replace hn5 : Inv L T { s with r := r5, nl := nl5, q := q5 } := hn5
  replace hb5 : Rdy T { s with r := r5, nl := nl5, q := q5 } 1 := hb5
  dsimp only at hp5
  refine zt (RH L T { s with r := r5, nl := nl5, q := q5 } _) _ rfl rfl ?_
  have hl5 : r5.pos + 1 ≤ r5.blen := hb5.len
  have hpq5 : r5.pos ≤ q5 := hn5.pq
  have hbl5 : r5.blen ≤ 1536 := hn5.bl
  refine zd ?_
  by_cases hq : q5 < qb
  ·
    have hb32 := hd.sp q5 omT hq
    refine gg 10 ?_
    refine dca (ks (b := true) hn5 (hb5.lt omT) (by first | assumption | (unfold kj; first | exact decide_eq_true omT | exact decide_eq_false omT))) ?_
    refine gg 9 ?_
    refine za rfl rfl rfl (kG L T { s with r := r5, nl := nl5, q := q5 } 1 hn5 hb5 omT omT omT) ?_
    rintro _ _ ⟨rfl, r6, nl6, hn6, hb6, rfl⟩
    replace hn6 : Inv L T { s with r := r6, nl := nl6, q := (q5 + 1) } := hn6
    replace hb6 : Rdy T { s with r := r6, nl := nl6, q := (q5 + 1) } 0 := hb6
    refine lS ?_
    have hl6 : r6.pos + 0 ≤ r6.blen := hb6.len
    have hpq6 : r6.pos ≤ (q5 + 1) := hn6.pq
    have hbl6 : r6.blen ≤ 1536 := hn6.bl
    refine ze ?_
    refine zf (zD L T { s with r := r6, nl := nl6, q := (q5 + 1) } ?_)
    refine ki { s with r := r6, nl := nl6, q := (q5 + 1) } 1 hn6 (fun hlt => ?_) (fun hlt => ?_) (fun r7 hn7 hb7 => ?_)
    ·
     refine gg 16 ?_
     exact zq hn6 hlt exT
    ·
     refine gg 9 ?_
     refine za rfl rfl rfl (kc L T { s with r := r6, nl := nl6, q := (q5 + 1) } 1 he (.inl hn6) hlt omT) ?_
     rintro _ _ ⟨rfl, r7, h1, h2, h3, rfl⟩
     refine lS ?_
     refine gg 6 ?_
     exact zr h1 h2 h3 exT
    ·
     replace hn7 : Inv L T { s with r := r7, nl := nl6, q := (q5 + 1) } := hn7
     replace hb7 : Rdy T { s with r := r7, nl := nl6, q := (q5 + 1) } 1 := hb7
     refine qH (RH L T { s with r := r7, nl := nl6, q := (q5 + 1) } _) _ rfl rfl ?_
     have hl7 : r7.pos + 1 ≤ r7.blen := hb7.len
     have hpq7 : r7.pos ≤ (q5 + 1) := hn7.pq
     have hbl7 : r7.blen ≤ 1536 := hn7.bl
     refine kJ ?_
     exact zh (r7, nl6, (q5 + 1)) ⟨hn7, hb7, omT⟩ omT suT (Wk.refl _)
  ·
    obtain rfl : q5 = qb := by omega
    refine gg 10 ?_
    refine dca (ks (b := false) hn5 (hb5.lt omT) (hbb)) ?_
    refine gg 9 ?_
    rcases hd.com with hcm | hcm
    ·
     obtain rfl := hcm
     have hnl := hd.nl
     refine gg 11 ?_
     refine zn (bp0 omT) rfl ?_
     refine gg 17 ?_
     refine dca (qd (b := true) hn5 (hb5.lt omT) (by first | assumption | (unfold kE; first | exact decide_eq_true omT | exact decide_eq_false omT))) ?_
     refine gg 17 ?_
     refine dca (qN (b := true) hn5 (hb5.lt omT) (by first | assumption | (unfold qo; first | exact decide_eq_true omT | exact decide_eq_false omT))) ?_
     refine gg 3 ?_
     refine zR { s with r := r5, nl := nl5, q := q5 } 2 hn5 (fun hlt => ?_) (fun hlt => ?_) (fun r8 hn8 hb8 => ?_)
     ·
      refine gg 16 ?_
      exact zq hn5 hlt exT
     ·
      refine gg 9 ?_
      refine za rfl rfl rfl (kc L T { s with r := r5, nl := nl5, q := q5 } 2 he (.inl hn5) hlt omT) ?_
      rintro _ _ ⟨rfl, r8, h1, h2, h3, rfl⟩
      refine lS ?_
      refine gg 6 ?_
      exact zr h1 h2 h3 exT
     ·
      replace hn8 : Inv L T { s with r := r8, nl := nl5, q := q5 } := hn8
      replace hb8 : Rdy T { s with r := r8, nl := nl5, q := q5 } 2 := hb8
      refine zt (RH L T { s with r := r8, nl := nl5, q := q5 } _) _ rfl rfl ?_
      have hl8 : r8.pos + 2 ≤ r8.blen := hb8.len
      have hpq8 : r8.pos ≤ q5 := hn8.pq
      have hbl8 : r8.blen ≤ 1536 := hn8.bl
      refine zi (smv ?_)
      refine za rfl rfl rfl (qG L T { s with r := r8, nl := nl5, q := q5 } 2 hn8 hb8 omT omT omT) ?_
      rintro _ _ ⟨rfl, r9, nl9, hn9, hb9, rfl⟩
      replace hn9 : Inv L T { s with r := r9, nl := nl9, q := (q5 + 1) } := hn9
      replace hb9 : Rdy T { s with r := r9, nl := nl9, q := (q5 + 1) } 1 := hb9
      refine lS ?_
      have hl9 : r9.pos + 1 ≤ r9.blen := hb9.len
      have hpq9 : r9.pos ≤ (q5 + 1) := hn9.pq
      have hbl9 : r9.blen ≤ 1536 := hn9.bl
      refine ze ?_
      refine zf (zD L T { s with r := r9, nl := nl9, q := (q5 + 1) } (gg 6 ?_))
      exact zm rfl rfl (Wk.to [L.p, L.bb, L.rb, L.ib, 0, tkb, b2, b3] wlT) ⟨rfl, _, _, _, _, _, _, hn9, Rdy.zero hn9, hh1, hh2, hh3, hh4, rfl⟩
    ·
     refine gg 11 ?_
     refine zn (bp0 omT) rfl ?_
     refine gg 5 ?_
     refine zw (σ := RS × Nat × Nat) (fun _ => [(0, pV L.p), (1, pV tkb), (5, pV mb)]) (fun x => RH L T { s with r := x.1, nl := x.2.1, q := x.2.2 } _) (fun x => Inv L T { s with r := x.1, nl := x.2.1, q := x.2.2 } ∧ Rdy T { s with r := x.1, nl := x.2.1, q := x.2.2 } 1 ∧ (fun q => q5 ≤ q ∧ q ≤ ql) x.2.2) (fun x => T.length - x.2.2) (r5, nl5, q5) ⟨hn5, hb5, ⟨Nat.le_refl _, hd.bl⟩⟩ suT (Wk.refl _) ?_
     rintro ⟨r10, nl10, q10⟩ ⟨hn10, hb10, hp10⟩
     replace hn10 : Inv L T { s with r := r10, nl := nl10, q := q10 } := hn10
     replace hb10 : Rdy T { s with r := r10, nl := nl10, q := q10 } 1 := hb10
     dsimp only at hp10
     refine zt (RH L T { s with r := r10, nl := nl10, q := q10 } _) _ rfl rfl ?_
     have hl10 : r10.pos + 1 ≤ r10.blen := hb10.len
     have hpq10 : r10.pos ≤ q10 := hn10.pq
     have hbl10 : r10.blen ≤ 1536 := hn10.bl
     refine zd ?_
     by_cases hq : q10 < ql
     ·
      obtain ⟨ht1, ht2⟩ := hd.txt q10 omT hq
      have ht3 := hn.asc _ (at_mem ht2)
      refine gg 10 ?_
      refine dca (qd (b := false) hn10 (hb10.lt omT) (by first | assumption | (unfold kE; first | exact decide_eq_true omT | exact decide_eq_false omT))) ?_
      refine gg 10 ?_
      refine za rfl rfl rfl (kG L T { s with r := r10, nl := nl10, q := q10 } 1 hn10 hb10 omT omT omT) ?_
      rintro _ _ ⟨rfl, r11, nl11, hn11, hb11, rfl⟩
      replace hn11 : Inv L T { s with r := r11, nl := nl11, q := (q10 + 1) } := hn11
      replace hb11 : Rdy T { s with r := r11, nl := nl11, q := (q10 + 1) } 0 := hb11
      refine lS ?_
      have hl11 : r11.pos + 0 ≤ r11.blen := hb11.len
      have hpq11 : r11.pos ≤ (q10 + 1) := hn11.pq
      have hbl11 : r11.blen ≤ 1536 := hn11.bl
      refine ze ?_
      refine zf (zD L T { s with r := r11, nl := nl11, q := (q10 + 1) } ?_)
      refine ki { s with r := r11, nl := nl11, q := (q10 + 1) } 1 hn11 (fun hlt => ?_) (fun hlt => ?_) (fun r12 hn12 hb12 => ?_)
      ·
       refine gg 16 ?_
       exact zq hn11 hlt exT
      ·
       refine gg 9 ?_
       refine za rfl rfl rfl (kc L T { s with r := r11, nl := nl11, q := (q10 + 1) } 1 he (.inl hn11) hlt omT) ?_
       rintro _ _ ⟨rfl, r12, h1, h2, h3, rfl⟩
       refine lS ?_
       refine gg 6 ?_
       exact zr h1 h2 h3 exT
      ·
       replace hn12 : Inv L T { s with r := r12, nl := nl11, q := (q10 + 1) } := hn12
       replace hb12 : Rdy T { s with r := r12, nl := nl11, q := (q10 + 1) } 1 := hb12
       refine qH (RH L T { s with r := r12, nl := nl11, q := (q10 + 1) } _) _ rfl rfl ?_
       have hl12 : r12.pos + 1 ≤ r12.blen := hb12.len
       have hpq12 : r12.pos ≤ (q10 + 1) := hn12.pq
       have hbl12 : r12.blen ≤ 1536 := hn12.bl
       refine kJ ?_
       exact zh (r12, nl11, (q10 + 1)) ⟨hn12, hb12, omT⟩ omT suT (Wk.refl _)
     ·
      obtain rfl : q10 = ql := by omega
      have hnl := hd.nl
      refine gg 10 ?_
      refine dca (qd (b := true) hn10 (hb10.lt omT) (by first | assumption | (unfold kE; first | exact decide_eq_true omT | exact decide_eq_false omT))) ?_
      refine gg 20 ?_
      refine dca (qd (b := true) hn10 (hb10.lt omT) (by first | assumption | (unfold kE; first | exact decide_eq_true omT | exact decide_eq_false omT))) ?_
      refine gg 17 ?_
      refine dca (qN (b := true) hn10 (hb10.lt omT) (by first | assumption | (unfold qo; first | exact decide_eq_true omT | exact decide_eq_false omT))) ?_
      refine gg 3 ?_
      refine zR { s with r := r10, nl := nl10, q := q10 } 2 hn10 (fun hlt => ?_) (fun hlt => ?_) (fun r13 hn13 hb13 => ?_)
      ·
       refine gg 16 ?_
       exact zq hn10 hlt exT
      ·
       refine gg 9 ?_
       refine za rfl rfl rfl (kc L T { s with r := r10, nl := nl10, q := q10 } 2 he (.inl hn10) hlt omT) ?_
       rintro _ _ ⟨rfl, r13, h1, h2, h3, rfl⟩
       refine lS ?_
       refine gg 6 ?_
       exact zr h1 h2 h3 exT
      ·
       replace hn13 : Inv L T { s with r := r13, nl := nl10, q := q10 } := hn13
       replace hb13 : Rdy T { s with r := r13, nl := nl10, q := q10 } 2 := hb13
       refine zt (RH L T { s with r := r13, nl := nl10, q := q10 } _) _ rfl rfl ?_
       have hl13 : r13.pos + 2 ≤ r13.blen := hb13.len
       have hpq13 : r13.pos ≤ q10 := hn13.pq
       have hbl13 : r13.blen ≤ 1536 := hn13.bl
       refine zi (smv ?_)
       refine za rfl rfl rfl (qG L T { s with r := r13, nl := nl10, q := q10 } 2 hn13 hb13 omT omT omT) ?_
       rintro _ _ ⟨rfl, r14, nl14, hn14, hb14, rfl⟩
       replace hn14 : Inv L T { s with r := r14, nl := nl14, q := (q10 + 1) } := hn14
       replace hb14 : Rdy T { s with r := r14, nl := nl14, q := (q10 + 1) } 1 := hb14
       refine lS ?_
       have hl14 : r14.pos + 1 ≤ r14.blen := hb14.len
       have hpq14 : r14.pos ≤ (q10 + 1) := hn14.pq
       have hbl14 : r14.blen ≤ 1536 := hn14.bl
       refine ze ?_
       refine zf (zD L T { s with r := r14, nl := nl14, q := (q10 + 1) } (gg 6 ?_))
       exact zm rfl rfl (Wk.to [L.p, L.bb, L.rb, L.ib, 0, tkb, b2, b3] wlT) ⟨rfl, _, _, _, _, _, _, hn14, Rdy.zero hn14, hh1, hh2, hh3, hh4, rfl⟩
structure Fet (L : Lay) (T : List Nat) (X X' : SS) (tv : TV) : Prop where
 si : SI L T X'
 dr : X'.tl.drop X'.th = X.tl.drop X.th ++ [tv]
 th : X'.th ≤ X.th
 pre : ∃ pre, X'.tl = pre ++ [tv]
 mem : ∀ t ∈ X'.tl, t ∈ X.tl ∨ t = tv
 j : JLe X.J X'.J
 v : ∀ x ∈ X.V, x ∈ X'.V
 tp : X'.tp = X.tp
 ta : X'.ta = X.ta
 sep : X'.sep = X.sep
 comh : X'.comh = X.comh
 head : X'.head = X.head
 line : X'.line = X.line
 foot : X'.foot = X.foot
 st : X'.st = X.st
 stv : X'.stv = X.stv
 tdv : X'.tdv = X.tdv
theorem Inv.flag {L : Lay} {T : List Nat} {X : SS} {a b : Bool} (h : Inv L T (zc X)) : Inv L T (zc { X with ska := a, pf := b }) := by
 obtain ⟨small, asc, icap, qlen, nlq, pq, pbl, slack, bl, unl, rp, rl, offl, ip, ipl, eofi, enc, e_⟩ := h
 exact ⟨small, asc, icap, qlen, nlq, pq, pbl, slack, bl, unl, rp, rl, offl, ip, ipl, eofi, enc, e_⟩
theorem SI.flag {L : Lay} {T : List Nat} {X : SS} {a b : Bool} (h : SI L T X) : SI L T { X with ska := a, pf := b } :=
 ⟨h.inv.flag, h.sml, h.tlc, h.tkc, h.thl, h.tpl, h.skc, h.cnq, h.cmh, h.com, h.jh, h.jl, h.jf⟩
theorem Inv.ins {L : Lay} {T : List Nat} {X : SS} {tkb tkc th : Nat} {tl : List TV} (h : Inv L T (zc X)) : Inv L T (zc { X with tkb := tkb, tkc := tkc, tl := tl, th := th }) := by
 obtain ⟨small, asc, icap, qlen, nlq, pq, pbl, slack, bl, unl, rp, rl, offl, ip, ipl, eofi, enc, e_⟩ := h
 exact ⟨small, asc, icap, qlen, nlq, pq, pbl, slack, bl, unl, rp, rl, offl, ip, ipl, eofi, enc, e_⟩
theorem SI.ins {L : Lay} {T : List Nat} {X : SS} {tkb tkc th : Nat} {tl : List TV} (h : SI L T X) (h1 : th ≤ X.th) (h2 : th ≤ tl.length) (h3 : tl.length ≤ tkc) (h4 : tkc ≤ 9223372036854775807) : SI L T { X with tkb := tkb, tkc := tkc, tl := tl, th := th } :=
 ⟨h.inv.ins, h.sml, h3, h4, h2, ⟨h.tpl.1, by have := h.tpl.2; dsimp only; omega⟩, h.skc, h.cnq, h.cmh, h.com, h.jh, h.jl, h.jf⟩
theorem SI.vs {L : Lay} {T : List Nat} {X : SS} {V : VL} (h : SI L T X) : SI L T { X with V := V } := ⟨h.inv, h.sml, h.tlc, h.tkc, h.thl, h.tpl, h.skc, h.cnq, h.cmh, h.com, h.jh, h.jl, h.jf⟩
def tvEnd (q : Nat) : TV := ⟨2, q, q, 0, Sl.nil, Sl.nil, 0, 0, 0⟩
def tvDoc (k : Int) (q : Nat) : TV := ⟨k, q, q + 1 + 1 + 1, 0, Sl.nil, Sl.nil, 0, 0, 0⟩
theorem fse_ok (L : Lay) (T : List Nat) (X : SS) (hi : SI L T X) (h0 : zH T X.q = 0) (hln : X.tl.length < 1000000) :
  Fn prog 143 [pV L.p] (SH L T X)
   (fun v H' => v = .bool true ∧ ∃ X', H' = SH L T X' ∧ Fet L T X X' (tvEnd X.q) ∧ X'.q = X.q ∧ X'.pf = true) := by
 have htlc := hi.tlc
 refine zo func143 rfl rfl rfl ?_
 intro w
 refine gg 27 ?_
 refine za rfl rfl rfl (unr_ok L T X (-1) _ _ _ (by decide)) ?_
 rintro _ _ ⟨rfl, rfl⟩
 refine lS ?_
 refine gg 10 ?_
 refine za rfl rfl rfl (rsk_ok L T X hi.skc.1) ?_
 rintro _ _ ⟨rfl, rfl⟩
 refine lS ?_
 refine gg 15 ?_
 refine zA L.p (.cs 75 (qp L T (zc { X with ska := false, pf := true })) []) (Blk.like_rec kR) ?_
 refine ke (fun i => i == 9 || i == 10) (fun i => i == 10) ([PB L T (zc { X with ska := false, pf := true })]) zF ?_
 refine mqh 0 rfl kR rfl rfl (fun _ => zj rfl) ?_
 refine mqh 1 rfl kR rfl rfl (fun _ => zJ rfl) ?_
 refine mqh 2 rfl kR rfl rfl (fun _ => zM rfl) ?_
 refine mqh 3 rfl kR rfl rfl (fun _ => zG rfl rfl rfl rfl) ?_
 refine mqh 4 rfl kR rfl rfl (fun _ => zj rfl) ?_
 refine mqh 5 rfl kR rfl rfl (fun _ => zJ rfl) ?_
 refine mqh 6 rfl kR rfl rfl (fun _ => zM rfl) ?_
 refine mqh 7 rfl kR rfl rfl (fun _ => zG rfl rfl rfl rfl) ?_
 refine mqh 8 rfl kR rfl rfl (fun _ => zu (l := [_, _, _, _, _, _, _, _, _, _, _, _, _, _]) (zs := [zI, zI, zI, zI, zI, zI, zI, zI, zS, zS, zS, .int .i8 0, .int .i8 0, .int .i8 0]) [0, 1, 4, 7, 8, 9, 10, 11, 12, 13] rfl rfl kR) ?_
 refine mql 9 rfl kR (fun hcl => ?_)
 refine zk rfl rfl clT ?_
 intro kb
 refine mqn 9 hcl ?_
 refine mql 10 rfl kR (fun hcl => ?_)
 first | refine stw rfl rfl ?_ | refine sts rfl rfl ?_
 refine zO 10 rfl kR (zf (zd (zA kb (.cs 163 (tvC T (tvEnd X.q)) []) (Blk.like_rec kR) (zi (smv ?_)))))
 refine za rfl rfl rfl (ins_ok L T { X with ska := false, pf := true } kb (tvEnd X.q) hi.tlc hi.tkc hi.thl hln) ?_
 rintro _ _ ⟨rfl, tkb2, tkc2, tl2, th2, g1, g2, g3, g4, g5, g6, g7, g8, rfl⟩
 refine lS ?_
 refine gg 8 ?_
 exact zm rfl rfl (Wk.toT (CH T X.J X.C ++ XH X.V X.J) [L.p, L.bb, L.rb, L.ib, 0, tkb2, X.skb, X.mpb] wlT) ⟨rfl, { X with ska := false, pf := true, tkb := tkb2, tkc := tkc2, tl := tl2, th := th2 }, rfl, ⟨(hi.flag (a := false) (b := true)).ins g2 g3 g4 g5, g1, g2, g7, g8, JLe.refl _, fun _ h => h, rfl, rfl, rfl, rfl, rfl, rfl, rfl, rfl, rfl, rfl⟩, rfl, rfl⟩
theorem fdi_ok (L : Lay) (T : List Nat) (X : SS) (k c : Nat) (hi : SI L T X) (hr : Rdy T (zc X) 4) (h1 : at_ T X.q = c) (h2 : at_ T (X.q + 1) = c) (h3 : at_ T (X.q + 1 + 1) = c) (hc : c ≠ 10 ∧ c ≠ 0) (hln : X.tl.length < 1000000) :
  Fn prog 146 [pV L.p, .int .i64 k] (SH L T X)
   (fun v H' => v = .bool true ∧ ∃ X', H' = SH L T X' ∧ Fet L T X X' (tvDoc k X.q) ∧ X'.q = X.q + 1 + 1 + 1) := by
 have htlc := hi.tlc
 have hl1 := kS (T := T) (i := X.q) omT
 have hl2 := kS (T := T) (i := X.q + 1) omT
 have hl3 := kS (T := T) (i := X.q + 1 + 1) omT
 refine zo func146 rfl rfl rfl ?_
 intro w
 have hl := hr.len
 have hpq := hi.inv.pq
 dsimp only at hl hpq
 refine gg 13 ?_
 refine za rfl rfl rfl (unr_ok L T X (-1) _ _ _ (by decide)) ?_
 rintro _ _ ⟨rfl, rfl⟩
 refine lS ?_
 refine gg 10 ?_
 refine za rfl rfl rfl (rsk_ok L T X hi.skc.1) ?_
 rintro _ _ ⟨rfl, rfl⟩
 refine lS ?_
 refine gg 15 ?_
 refine zA L.p (.cs 75 (qp L T (zc { X with ska := false, pf := true })) []) (Blk.like_rec kR) ?_
 have hi2 : SI L T { X with ska := false, pf := true } := hi.flag
 have hr2 : Rdy T (zc { X with ska := false, pf := true }) 4 := ⟨hr.len, hr.un⟩
 refine gg 5 ?_
 refine zk rfl rfl clT ?_
 intro ab
 first | refine stw rfl rfl ?_ | refine sts rfl rfl ?_
 refine gg 5 ?_
 refine za rfl rfl rfl (kG L T { zc { X with ska := false, pf := true } with r := X.r, nl := X.nl, q := X.q } 4 hi2.inv hr2 omT omT omT) ?_
 rintro _ _ ⟨rfl, r1, nl1, hn1, hb1, rfl⟩
 replace hn1 : Inv L T { zc { X with ska := false, pf := true } with r := r1, nl := nl1, q := (X.q + 1) } := hn1
 replace hb1 : Rdy T { zc { X with ska := false, pf := true } with r := r1, nl := nl1, q := (X.q + 1) } 3 := hb1
 refine lS ?_
 have hl1 : r1.pos + 3 ≤ r1.blen := hb1.len
 have hpq1 : r1.pos ≤ (X.q + 1) := hn1.pq
 have hbl1 : r1.blen ≤ 1536 := hn1.bl
 refine ze ?_
 refine zf (zD L T { zc { X with ska := false, pf := true } with r := r1, nl := nl1, q := (X.q + 1) } (gg 3 ?_))
 refine za rfl rfl rfl (kG L T { zc { X with ska := false, pf := true } with r := r1, nl := nl1, q := (X.q + 1) } 3 hn1 hb1 omT omT omT) ?_
 rintro _ _ ⟨rfl, r2, nl2, hn2, hb2, rfl⟩
 replace hn2 : Inv L T { zc { X with ska := false, pf := true } with r := r2, nl := nl2, q := ((X.q + 1) + 1) } := hn2
 replace hb2 : Rdy T { zc { X with ska := false, pf := true } with r := r2, nl := nl2, q := ((X.q + 1) + 1) } 2 := hb2
 refine lS ?_
 have hl2 : r2.pos + 2 ≤ r2.blen := hb2.len
 have hpq2 : r2.pos ≤ ((X.q + 1) + 1) := hn2.pq
 have hbl2 : r2.blen ≤ 1536 := hn2.bl
 refine ze ?_
 refine zf (zD L T { zc { X with ska := false, pf := true } with r := r2, nl := nl2, q := ((X.q + 1) + 1) } (gg 3 ?_))
 refine za rfl rfl rfl (kG L T { zc { X with ska := false, pf := true } with r := r2, nl := nl2, q := ((X.q + 1) + 1) } 2 hn2 hb2 omT omT omT) ?_
 rintro _ _ ⟨rfl, r3, nl3, hn3, hb3, rfl⟩
 replace hn3 : Inv L T { zc { X with ska := false, pf := true } with r := r3, nl := nl3, q := (((X.q + 1) + 1) + 1) } := hn3
 replace hb3 : Rdy T { zc { X with ska := false, pf := true } with r := r3, nl := nl3, q := (((X.q + 1) + 1) + 1) } 1 := hb3
 refine lS ?_
 have hl3 : r3.pos + 1 ≤ r3.blen := hb3.len
 have hpq3 : r3.pos ≤ (((X.q + 1) + 1) + 1) := hn3.pq
 have hbl3 : r3.blen ≤ 1536 := hn3.bl
 refine ze ?_
 refine zf (zD L T { zc { X with ska := false, pf := true } with r := r3, nl := nl3, q := (((X.q + 1) + 1) + 1) } (gg 6 ?_))
 refine zk rfl rfl clT ?_
 intro bb
 first | refine stw rfl rfl ?_ | refine sts rfl rfl ?_
 refine gg 7 ?_
 refine sqz (zu (l := [_, _, _, _, _, _, _, _, _, _, _, _, _, _]) (zs := [zI, zI, zI, zI, zI, zI, zI, zI, zS, zS, zS, .int .i8 0, .int .i8 0, .int .i8 0]) [0, 1, 4, 7, 8, 9, 10, 11, 12, 13] rfl rfl kR) ?_
 refine zk rfl rfl clT ?_
 intro kb
 first | refine stw rfl rfl ?_ | refine sts rfl rfl ?_
 refine gg 3 ?_
 refine zA kb (.cs 163 (tvC T (tvDoc k X.q)) []) (Blk.like_rec kR) ?_
 have hi3 : SI L T { X with r := r3, nl := nl3, q := (((X.q + 1) + 1) + 1), ska := false, pf := true } := hi2.move hn3 omT
 refine zA L.p (.cs 75 (qp L T (zc { X with r := r3, nl := nl3, q := (((X.q + 1) + 1) + 1), ska := false, pf := true })) []) (fun o h => h) ?_
 refine zi (smv ?_)
 refine za rfl rfl rfl (ins_ok L T { X with r := r3, nl := nl3, q := (((X.q + 1) + 1) + 1), ska := false, pf := true } kb (tvDoc k X.q) hi.tlc hi.tkc hi.thl hln) ?_
 rintro _ _ ⟨rfl, tkb2, tkc2, tl2, th2, g1, g2, g3, g4, g5, g6, g7, g8, rfl⟩
 refine lS ?_
 refine gg 8 ?_
 exact zm rfl rfl (Wk.toT (CH T X.J X.C ++ XH X.V X.J) [L.p, L.bb, L.rb, L.ib, 0, tkb2, X.skb, X.mpb] wlT) ⟨rfl, { X with r := r3, nl := nl3, q := (((X.q + 1) + 1) + 1), ska := false, pf := true, tkb := tkb2, tkc := tkc2, tl := tl2, th := th2 }, rfl, ⟨hi3.ins g2 g3 g4 g5, g1, g2, g7, g8, JLe.refl _, fun _ h => h, rfl, rfl, rfl, rfl, rfl, rfl, rfl, rfl, rfl, rfl⟩, rfl⟩
end Go.Proofs.YtnfbcfflkphbiaaGreatDoor
