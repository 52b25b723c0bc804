/-
  Texts of the proof, joined: F7. No Go text.
-/
import Derived.Test.YtnfbcfflkphbiaaGreatDoorA01
import Derived.Test.YtnfbcfflkphbiaaGreatDoorA08
import Derived.Test.YtnfbcfflkphbiaaGreatDoorA09
import Derived.Test.YtnfbcfflkphbiaaGreatDoorA12
namespace Go.Proofs.YtnfbcfflkphbiaaGreatDoor
open Go Go.Proofs Tryz
set_option linter.all false
set_option maxRecDepth 100000
set_option maxHeartbeats 8000000
def DI (T : List Nat) (q : Nat) : Prop := zH T q = 0 ∧ ((at_ T q = 45 ∧ at_ T (q + 1) = 45 ∧ at_ T (q + 2) = 45) ∨ (at_ T q = 46 ∧ at_ T (q + 1) = 46 ∧ at_ T (q + 2) = 46)) ∧ zK (at_ T (q + 3)) = true
theorem blankz_ne2 {c : Nat} (h : zK c = true) : c = 32 ∨ c = 9 ∨ c = 13 ∨ c = 10 ∨ c = 0 := by simpa [zK] using h
theorem spl_ok (L : Lay) (T : List Nat) (X : SS) (tkb e q' : Nat) (he : Eof L) (hi : SI L T X) (hqe : X.q < e) (hal : ∀ i, X.q ≤ i → i < e → zC (at_ T i) = true) (hz : zK (at_ T e) = true)
  (hdi : ¬ (zH T X.q = 0 ∧ at_ T X.q = 45 ∧ at_ T (X.q + 1) = 45 ∧ at_ T (X.q + 2) = 45 ∧ zK (at_ T (X.q + 3)) = true))
  (hq' : e ≤ q') (hgap : ∀ i, e ≤ i → i < q' → at_ T i = 32 ∨ at_ T i = 10) (hstop : at_ T q' = 0 ∨ at_ T q' = 35 ∨ DI T q') :
  Fn prog 182 [pV L.p, pV tkb] (RH L T (zc X) [(tkb, .cs 163 qx [])])
    (fun v H' => v = .bool true ∧ ∃ r nl ska b cap, Inv L T { zc X with r := r, nl := nl, q := q' } ∧ e - X.q ≤ cap ∧ cap ≤ 9223372036854775807 ∧
     H' = RH L T { zc { X with ska := ska } with r := r, nl := nl, q := q' } [(tkb, .cs 163 (tokC T 21 X.q e 0 (.slice (some ⟨b, 0, none⟩) (e - X.q) cap) (zS) 2 0 0) []), (b, .buf 5 cap (bytes (kA T X.q e)))]) := by
 have hsml := hi.sml
 have ha0 := hal X.q (Nat.le_refl _) hqe
 have hca : ∀ c, zC c = true → c ≠ 35 ∧ c ≠ 58 ∧ c ≠ 46 ∧ c ≠ 32 ∧ c ≠ 10 ∧ c ≠ 0 ∧ c ≠ 9 ∧ c ≠ 13 := by
  intro c h
  simp [zC] at h
  omega
 have hze : at_ T e = 32 ∨ at_ T e = 10 ∨ at_ T e = 0 := by
  have h1 := blankz_ne2 hz
  by_cases hlt : e < T.length
  · have := hi.inv.asc _ (at_mem hlt); omega
  · rw [qS omT]; omega
 have hnb : at_ T q' ≠ 32 ∧ at_ T q' ≠ 10 ∧ at_ T q' ≠ 9 ∧ at_ T q' ≠ 13 := by
  rcases hstop with h | h | h
  · omega
  · omega
  · rcases h.2.1 with h | h <;> omega
 have hel : e ≤ T.length := by
  have := kS (hca _ (hal (e - 1) omT omT)).2.2.2.2.2.1
  omega
 have hql : q' ≤ T.length := by
  by_cases h : e = q'
  · omega
  · have := hgap (q' - 1) omT omT
    have := kS (T := T) (i := q' - 1) omT
    omega
 refine zo func182 rfl rfl rfl ?_
 intro w
 refine gg 24 ?_
 refine sqz (qto (q_addi rfl rfl omT omT) (vi (by rfl : _ = (0 : Int)))) ?_
 refine gg 9 ?_
 refine zk rfl rfl clT ?_
 intro b11
 first | refine stw rfl rfl ?_ | refine sts rfl rfl ?_
 refine gg 8 ?_
 refine zk rfl rfl clT ?_
 intro b12
 first | refine stw rfl rfl ?_ | refine sts rfl rfl ?_
 refine ze ?_
 refine zf ?_
 have hq0 : at_ T (X.q + 0) = at_ T X.q := rfl
 refine zL (σ := RS × Nat × Bool × Nat × Nat) (fun x => [(0, pV L.p), (1, pV tkb), (5, .slice (some ⟨x.2.2.2.1, 0, none⟩) (e - X.q) x.2.2.2.2), (9, .bool x.2.2.1), (11, pV b11), (12, pV b12)]) (fun x => (RH L T { zc X with r := x.1, nl := x.2.1, q := q' } ((x.2.2.2.1, .buf 5 x.2.2.2.2 (bytes (kA T X.q e))) :: (b11, .cs 57 [.int .i64 (X.q : Nat), .int .i64 (lnT T X.q : Nat), .int .i64 (zH T X.q : Nat)] []) :: (b12, .cs 57 [.int .i64 (e : Nat), .int .i64 (lnT T e : Nat), .int .i64 (zH T e : Nat)] []) :: [(tkb, .cs 163 qx [])]))) (fun x => Inv L T { zc X with r := x.1, nl := x.2.1, q := q' } ∧ e - X.q ≤ x.2.2.2.2 ∧ x.2.2.2.2 ≤ 9223372036854775807) ?_ ?_
 ·
  refine kf (qg (2) (kn (kf ?_)))
  refine zR { zc X with r := X.r, nl := X.nl, q := X.q } 4 hi.inv (fun hlt => ?_) (fun hlt => ?_) (fun r1 hn1 hb1 => ?_)
  ·
    refine gg 16 ?_
    exact zq hi.inv hlt exT
  ·
    refine gg 9 ?_
    refine za rfl rfl rfl (kc L T { zc X with r := X.r, nl := X.nl, q := X.q } 4 he (.inl hi.inv) hlt omT) ?_
    rintro _ _ ⟨rfl, r1, h1, h2, h3, rfl⟩
    refine lS ?_
    refine gg 6 ?_
    exact zr h1 h2 h3 exT
  ·
    replace hn1 : Inv L T { zc X with r := r1, nl := X.nl, q := X.q } := hn1
    replace hb1 : Rdy T { zc X with r := r1, nl := X.nl, q := X.q } 4 := hb1
    refine zt (RH L T { zc X with r := r1, nl := X.nl, q := X.q } _) _ rfl rfl ?_
    have hl1 : r1.pos + 4 ≤ r1.blen := hb1.len
    have hpq1 : r1.pos ≤ X.q := hn1.pq
    have hbl1 : r1.blen ≤ 1536 := hn1.bl
    refine zd ?_
    refine qm 137 (fun b => b = false) ?_ ?_
    ·
     by_cases hc0 : zH T X.q = 0
     ·
      refine kM zF kR ?_
      dsimp only [List.append]
      refine gg 7 ?_
      by_cases h1 : at_ T X.q = 45
      ·
       refine gg 8 ?_
       refine dadc 0 ?_
       refine dix ?_
       refine zn (bpk omT) rfl ?_
       refine deq1 ?_
       refine dmv ?_
       by_cases h2 : at_ T (X.q + 1) = 45
       ·
        refine gg 10 ?_
        refine zn (bpk omT) rfl ?_
        refine gg 3 ?_
        by_cases h3 : at_ T (X.q + 2) = 45
        ·
         refine gg 8 ?_
         refine dadc 2 ?_
         refine dix ?_
         refine zn (bpk omT) rfl ?_
         refine gg 54 ?_
         refine dadc 3 ?_
         refine dca (wb (j := 3) (b := false) hn1 (by have := hb1.len; exact omT) (by
  cases hb : zK (at_ T (X.q + 3))
  · rfl
  · exact absurd ⟨hc0, h1, h2, h3, hb⟩ hdi)) ?_
         refine dpt ?_
         refine wg ?_
         exact zE (b := false) rfl exT rfl
        ·
         refine gg 8 ?_
         refine dadc 2 ?_
         refine dix ?_
         refine zn (bpk omT) rfl ?_
         refine gg 11 ?_
         refine dadc 0 ?_
         refine dix ?_
         refine zn (bpk omT) rfl ?_
         refine gg 44 ?_
         exact zE (b := false) rfl exT rfl
       ·
        refine gg 10 ?_
        refine zn (bpk omT) rfl ?_
        refine gg 25 ?_
        refine dadc 0 ?_
        refine dix ?_
        refine zn (bpk omT) rfl ?_
        refine gg 44 ?_
        exact zE (b := false) rfl exT rfl
      ·
       have hc46 := hca _ ha0
       refine gg 8 ?_
       refine dadc 0 ?_
       refine dix ?_
       refine zn (bpk omT) rfl ?_
       refine gg 38 ?_
       refine dadc 0 ?_
       refine dix ?_
       refine zn (bpk omT) rfl ?_
       refine gg 44 ?_
       exact zE (b := false) rfl exT rfl
     ·
      refine kM zF kR ?_
      dsimp only [List.append]
      refine gg 103 ?_
      exact zE (b := false) rfl exT rfl
    ·
     rintro b137 hb137
     refine qr rfl (hb137) ?_
     have hc46 := hca _ ha0
     refine gg 14 ?_
     refine zn (bp0 omT) rfl ?_
     refine gg 8 ?_
     refine zw (σ := RS × Nat × Nat × Option (Nat × Nat)) (fun x => [(0, pV L.p), (1, pV tkb), (5, TXV X.q x.2.2.1 x.2.2.2), (6, zS), (7, zS), (8, zS), (9, .bool false), (10, zI), (11, pV b11), (12, pV b12)]) (fun x => (RH L T { zc X with r := x.1, nl := x.2.1, q := x.2.2.1 } (TXH T X.q x.2.2.1 x.2.2.2 ++ ((b11, .cs 57 [.int .i64 (X.q : Nat), .int .i64 (lnT T X.q : Nat), .int .i64 (zH T X.q : Nat)] []) :: (b12, .cs 57 [.int .i64 (x.2.2.1 : Nat), .int .i64 (lnT T x.2.2.1 : Nat), .int .i64 (zH T x.2.2.1 : Nat)] []) :: [(tkb, .cs 163 qx [])])))) (fun x => Inv L T { zc X with r := x.1, nl := x.2.1, q := x.2.2.1 } ∧ Rdy T { zc X with r := x.1, nl := x.2.1, q := x.2.2.1 } 1 ∧ X.q ≤ x.2.2.1 ∧ x.2.2.1 ≤ e ∧ TXP X.q x.2.2.1 x.2.2.2) (fun x => T.length - x.2.2.1) (r1, X.nl, X.q, none) ⟨hn1, hb1.le (by decide), Nat.le_refl _, omT, rfl⟩ suT (Wk.to [L.p, L.bb, L.rb, L.ib, 0, b11, b12, tkb] wlT) ?_
     rintro ⟨r5, nl5, q5, o5⟩ ⟨hn5, hb5, hq5, hq5e, hp5⟩
     dsimp only at hq5 hq5e hp5
     replace hn5 : Inv L T { zc X with r := r5, nl := nl5, q := q5 } := hn5
     replace hb5 : Rdy T { zc X with r := r5, nl := nl5, q := q5 } 1 := hb5
     have hl5 := hb5.len
     have hpq5 := hn5.pq
     dsimp only at hl5 hpq5
     rcases o5 with _ | ⟨sb, sc⟩
     ·
      obtain rfl : q5 = X.q := hp5
      refine zt (RH L T { zc X with r := r5, nl := nl5, q := X.q } ((b11, .cs 57 [.int .i64 (X.q : Nat), .int .i64 (lnT T X.q : Nat), .int .i64 (zH T X.q : Nat)] []) :: (b12, .cs 57 [.int .i64 (X.q : Nat), .int .i64 (lnT T X.q : Nat), .int .i64 (zH T X.q : Nat)] []) :: [(tkb, .cs 163 qx [])])) [(0, pV L.p), (1, pV tkb), (5, zS), (6, zS), (7, zS), (8, zS), (9, .bool false), (10, zI), (11, pV b11), (12, pV b12)] rfl rfl ?_
      have hc46 := hca _ ha0
      refine gg 11 ?_
      refine dca (qZ (b := false) hn5 (hb5.lt omT) (by first | assumption | (unfold zK; first | exact decide_eq_true omT | exact decide_eq_false omT))) ?_
      refine gg 9 ?_
      refine kM zF kR ?_
      dsimp only [List.append]
      refine gg 9 ?_
      refine zn (bp0 omT) rfl ?_
      refine gg 121 ?_
      refine za rfl rfl rfl (read_cut0 L T { zc X with r := r5, nl := nl5, q := X.q } 1 _ _ hn5 hb5 omT (kS omT) omT) ?_
      rintro _ _ ⟨r2, nl2, b1, hn2, hb2, rfl, rfl⟩
      replace hn2 : Inv L T { zc X with r := r2, nl := nl2, q := (X.q + 1) } := hn2
      replace hb2 : Rdy T { zc X with r := r2, nl := nl2, q := (X.q + 1) } 0 := hb2
      refine lS ?_
      have hl2 : r2.pos + 0 ≤ r2.blen := hb2.len
      have hpq2 : r2.pos ≤ (X.q + 1) := hn2.pq
      have hbl2 : r2.blen ≤ 1536 := hn2.bl
      refine gg 3 ?_
      refine zD L T { zc X with r := r2, nl := nl2, q := (X.q + 1) } (gg 6 ?_)
      first | refine stw rfl rfl ?_ | refine sts rfl rfl ?_
      refine ze ?_
      refine zf ?_
      refine ki { zc X with r := r2, nl := nl2, q := (X.q + 1) } 2 hn2 (fun hlt => ?_) (fun hlt => ?_) (fun r3 hn3 hb3 => ?_)
      ·
       refine gg 16 ?_
       exact zq hn2 hlt exT
      ·
       refine gg 9 ?_
       refine za rfl rfl rfl (kc L T { zc X with r := r2, nl := nl2, q := (X.q + 1) } 2 he (.inl hn2) hlt omT) ?_
       rintro _ _ ⟨rfl, r3, h1, h2, h3, rfl⟩
       refine lS ?_
       refine gg 6 ?_
       exact zr h1 h2 h3 exT
      ·
       replace hn3 : Inv L T { zc X with r := r3, nl := nl2, q := (X.q + 1) } := hn3
       replace hb3 : Rdy T { zc X with r := r3, nl := nl2, q := (X.q + 1) } 2 := hb3
       refine qH (RH L T { zc X with r := r3, nl := nl2, q := (X.q + 1) } _) _ rfl rfl ?_
       have hl3 : r3.pos + 2 ≤ r3.blen := hb3.len
       have hpq3 : r3.pos ≤ (X.q + 1) := hn3.pq
       have hbl3 : r3.blen ≤ 1536 := hn3.bl
       refine kJ ?_
       exact zh (r3, nl2, X.q + 1, some (b1, 32)) ⟨hn3, hb3.le (by decide), omT, omT, omT, omT, omT⟩ omT suT (Wk.to [L.p, L.bb, L.rb, L.ib, 0, b1, b11, b12, tkb] wlT)
     ·
      obtain ⟨hp1, hp2, hp3⟩ := hp5
      refine zt (RH L T { zc X with r := r5, nl := nl5, q := q5 } ((sb, .buf 5 sc (bytes (kA T X.q q5))) :: (b11, .cs 57 [.int .i64 (X.q : Nat), .int .i64 (lnT T X.q : Nat), .int .i64 (zH T X.q : Nat)] []) :: (b12, .cs 57 [.int .i64 (q5 : Nat), .int .i64 (lnT T q5 : Nat), .int .i64 (zH T q5 : Nat)] []) :: [(tkb, .cs 163 qx [])])) [(0, pV L.p), (1, pV tkb), (5, .slice (some ⟨sb, 0, none⟩) (q5 - X.q) sc), (6, zS), (7, zS), (8, zS), (9, .bool false), (10, zI), (11, pV b11), (12, pV b12)] rfl rfl ?_
      refine zd ?_
      by_cases hq : q5 < e
      ·
       have ha5 := hal q5 omT hq
       have hc5 := hca _ ha5
       refine gg 10 ?_
       refine dca (qZ (b := false) hn5 (hb5.lt omT) (by first | assumption | (unfold zK; first | exact decide_eq_true omT | exact decide_eq_false omT))) ?_
       refine gg 9 ?_
       refine kM zF kR ?_
       dsimp only [List.append]
       refine gg 9 ?_
       refine zn (bp0 omT) rfl ?_
       refine gg 121 ?_
       refine za rfl rfl rfl (read_cut L T { zc X with r := r5, nl := nl5, q := q5 } 1 X.q sb sc hp1 hp2 hp3 hn5 hb5 omT (kS omT) omT) ?_
       rintro _ _ ⟨r4, nl4, b1, c1, hn4, hb4, hc1, hc2, rfl, rfl⟩
       replace hn4 : Inv L T { zc X with r := r4, nl := nl4, q := (q5 + 1) } := hn4
       replace hb4 : Rdy T { zc X with r := r4, nl := nl4, q := (q5 + 1) } 0 := hb4
       refine lS ?_
       have hl4 : r4.pos + 0 ≤ r4.blen := hb4.len
       have hpq4 : r4.pos ≤ (q5 + 1) := hn4.pq
       have hbl4 : r4.blen ≤ 1536 := hn4.bl
       refine gg 3 ?_
       refine zD L T { zc X with r := r4, nl := nl4, q := (q5 + 1) } (gg 6 ?_)
       first | refine stw rfl rfl ?_ | refine sts rfl rfl ?_
       refine ze ?_
       refine zf ?_
       refine ki { zc X with r := r4, nl := nl4, q := (q5 + 1) } 2 hn4 (fun hlt => ?_) (fun hlt => ?_) (fun r5 hn5 hb5 => ?_)
       ·
        refine gg 16 ?_
        exact zq hn4 hlt exT
       ·
        refine gg 9 ?_
        refine za rfl rfl rfl (kc L T { zc X with r := r4, nl := nl4, q := (q5 + 1) } 2 he (.inl hn4) hlt omT) ?_
        rintro _ _ ⟨rfl, r5, h1, h2, h3, rfl⟩
        refine lS ?_
        refine gg 6 ?_
        exact zr h1 h2 h3 exT
       ·
        replace hn5 : Inv L T { zc X with r := r5, nl := nl4, q := (q5 + 1) } := hn5
        replace hb5 : Rdy T { zc X with r := r5, nl := nl4, q := (q5 + 1) } 2 := hb5
        refine qH (RH L T { zc X with r := r5, nl := nl4, q := (q5 + 1) } _) _ rfl rfl ?_
        have hl5 : r5.pos + 2 ≤ r5.blen := hb5.len
        have hpq5 : r5.pos ≤ (q5 + 1) := hn5.pq
        have hbl5 : r5.blen ≤ 1536 := hn5.bl
        refine kJ ?_
        exact zh (r5, nl4, q5 + 1, some (b1, c1)) ⟨hn5, hb5.le (by decide), omT, omT, omT, hc1, hc2⟩ omT suT (Wk.to [L.p, L.bb, L.rb, L.ib, 0, b1, b11, b12, tkb] wlT)
      ·
       obtain rfl : q5 = e := by omega
       refine gg 10 ?_
       refine dca (qZ (b := true) hn5 (hb5.lt omT) (hz)) ?_
       refine gg 10 ?_
       refine qm 339 (fun b => b = decide (at_ T q5 = 0)) ?_ ?_
       ·
        rcases hze with hze | hze | hze
        ·
         refine gg 9 ?_
         refine dca (ks (b := true) hn5 (hb5.lt omT) (by first | assumption | (unfold kj; first | exact decide_eq_true omT | exact decide_eq_false omT))) ?_
         refine gg 13 ?_
         exact zE (b := false) rfl exT (decide_eq_false omT).symm
        ·
         refine gg 9 ?_
         refine dca (ks (b := false) hn5 (hb5.lt omT) (by first | assumption | (unfold kj; first | exact decide_eq_true omT | exact decide_eq_false omT))) ?_
         refine gg 9 ?_
         refine dca (qN (b := true) hn5 (hb5.lt omT) (by first | assumption | (unfold qo; first | exact decide_eq_true omT | exact decide_eq_false omT))) ?_
         refine gg 3 ?_
         exact zE (b := false) rfl exT (decide_eq_false omT).symm
        ·
         refine gg 9 ?_
         refine dca (ks (b := false) hn5 (hb5.lt omT) (by first | assumption | (unfold kj; first | exact decide_eq_true omT | exact decide_eq_false omT))) ?_
         refine gg 9 ?_
         refine dca (qN (b := false) hn5 (hb5.lt omT) (by first | assumption | (unfold qo; first | exact decide_eq_true omT | exact decide_eq_false omT))) ?_
         refine gg 3 ?_
         exact zE (b := true) rfl exT (decide_eq_true omT).symm
       ·
        rintro b339 hb339
        refine kg rfl (fun hc => ?_) (fun hc => ?_)
        ·
         refine gg 5 ?_
         have hz0 : at_ T q5 = 0 := of_decide_eq_true (hb339.symm.trans hc)
         have hqq : q' = q5 := by
          rcases Nat.lt_or_ge q5 q' with h | h
          · have := hgap q5 (Nat.le_refl _) h; omega
          · omega
         subst hqq
         exact zg (r5, nl5, false, sb, sc) ⟨hn5, hp2, hp3⟩ suT (Wk.to [L.p, L.bb, L.rb, L.ib, 0, sb, b11, b12, tkb] wlT)
        ·
         have hz0 : at_ T q5 ≠ 0 := of_decide_eq_false (hb339.symm.trans hc)
         refine kQ (zf ?_)
         refine zR { zc X with r := r5, nl := nl5, q := q5 } 1 hn5 (fun hlt => ?_) (fun hlt => ?_) (fun r6 hn6 hb6 => ?_)
         ·
          refine gg 16 ?_
          exact zq hn5 hlt exT
         ·
          refine gg 9 ?_
          refine za rfl rfl rfl (kc L T { zc X with r := r5, nl := nl5, q := q5 } 1 he (.inl hn5) hlt omT) ?_
          rintro _ _ ⟨rfl, r6, h1, h2, h3, rfl⟩
          refine lS ?_
          refine gg 6 ?_
          exact zr h1 h2 h3 exT
         ·
          replace hn6 : Inv L T { zc X with r := r6, nl := nl5, q := q5 } := hn6
          replace hb6 : Rdy T { zc X with r := r6, nl := nl5, q := q5 } 1 := hb6
          refine zt (RH L T { zc X with r := r6, nl := nl5, q := q5 } _) _ rfl rfl ?_
          have hl6 : r6.pos + 1 ≤ r6.blen := hb6.len
          have hpq6 : r6.pos ≤ q5 := hn6.pq
          have hbl6 : r6.blen ≤ 1536 := hn6.bl
          refine zd (kf ?_)
          refine zw (σ := RS × Nat × Nat × Bool × Option (Nat × Nat × List Nat) × Sl × Sl) (fun x => [(0, pV L.p), (1, pV tkb), (5, .slice (some ⟨sb, 0, none⟩) (q5 - X.q) sc), (6, (if x.2.2.2.1 then x.2.2.2.2.2.2.v else zS)), (7, (if x.2.2.2.1 then TO x.2.2.2.2.1 else zS)), (8, (if x.2.2.2.1 then x.2.2.2.2.2.1.v else TO x.2.2.2.2.1)), (9, .bool x.2.2.2.1), (10, zI), (11, pV b11), (12, pV b12)]) (fun x => (RH L T { zc X with r := x.1, nl := x.2.1, q := x.2.2.1 } (TOH x.2.2.2.2.1 ++ ((sb, .buf 5 sc (bytes (kA T X.q q5))) :: (b11, .cs 57 [.int .i64 (X.q : Nat), .int .i64 (lnT T X.q : Nat), .int .i64 (zH T X.q : Nat)] []) :: (b12, .cs 57 [.int .i64 (q5 : Nat), .int .i64 (lnT T q5 : Nat), .int .i64 (zH T q5 : Nat)] []) :: [(tkb, .cs 163 qx [])])))) (fun x => Inv L T { zc X with r := x.1, nl := x.2.1, q := x.2.2.1 } ∧ Rdy T { zc X with r := x.1, nl := x.2.1, q := x.2.2.1 } 1 ∧ q5 ≤ x.2.2.1 ∧ x.2.2.1 ≤ q' ∧ ∀ b k Y, x.2.2.2.2.1 = some (b, k, Y) → 0 < Y.length ∧ Y.length ≤ k ∧ k ≤ 9223372036854775807 ∧ Y.length ≤ x.2.2.1) (fun x => T.length - x.2.2.1) (r6, nl5, q5, false, none, Sl.nil, Sl.nil) ⟨hn6, hb6, Nat.le_refl _, hq', fun b k Y h => (by cases h)⟩ suT (Wk.to [L.p, L.bb, L.rb, L.ib, 0, sb, b11, b12, tkb] wlT) ?_
          rintro ⟨r7, nl7, q7, ld, o7, ws, lb⟩ ⟨hn7, hb7, hq7, hq7e, ht7⟩
          dsimp only at hq7 hq7e ht7
          replace hn7 : Inv L T { zc X with r := r7, nl := nl7, q := q7 } := hn7
          replace hb7 : Rdy T { zc X with r := r7, nl := nl7, q := q7 } 1 := hb7
          have hl7 := hb7.len
          have hpq7 := hn7.pq
          dsimp only at hl7 hpq7
          refine zt (RH L T { zc X with r := r7, nl := nl7, q := q7 } (TOH o7 ++ ((sb, .buf 5 sc (bytes (kA T X.q q5))) :: (b11, .cs 57 [.int .i64 (X.q : Nat), .int .i64 (lnT T X.q : Nat), .int .i64 (zH T X.q : Nat)] []) :: (b12, .cs 57 [.int .i64 (q5 : Nat), .int .i64 (lnT T q5 : Nat), .int .i64 (zH T q5 : Nat)] []) :: [(tkb, .cs 163 qx [])]))) [(0, pV L.p), (1, pV tkb), (5, .slice (some ⟨sb, 0, none⟩) (q5 - X.q) sc), (6, (if ld then lb.v else zS)), (7, (if ld then TO o7 else zS)), (8, (if ld then ws.v else TO o7)), (9, .bool ld), (10, zI), (11, pV b11), (12, pV b12)] rfl rfl ?_
          refine zd ?_
          by_cases h7 : q7 < q'
          ·
            have hg7 := hgap q7 hq7 h7
            have hl7t : q7 < T.length := by omega
            rcases hg7 with hg7 | hg7
            ·
             refine gg 10 ?_
             refine dca (ks (b := true) hn7 (hb7.lt omT) (by first | assumption | (unfold kj; first | exact decide_eq_true omT | exact decide_eq_false omT))) ?_
             refine gg 28 ?_
             refine dca (ks (b := true) hn7 (hb7.lt omT) (by first | assumption | (unfold kj; first | exact decide_eq_true omT | exact decide_eq_false omT))) ?_
             refine gg 4 ?_
             cases ld
             ·
              rcases o7 with _ | ⟨ob, oc, oY⟩
              ·
               refine kq (E' := [(0, pV L.p), (1, pV tkb), (5, .slice (some ⟨sb, 0, none⟩) (q5 - X.q) sc), (6, zS), (7, zS), (8, zS), (9, .bool false), (10, zI), (11, pV b11), (12, pV b12)]) (H' := (RH L T { zc X with r := r7, nl := nl7, q := q7 } ((sb, .buf 5 sc (bytes (kA T X.q q5))) :: (b11, .cs 57 [.int .i64 (X.q : Nat), .int .i64 (lnT T X.q : Nat), .int .i64 (zH T X.q : Nat)] []) :: (b12, .cs 57 [.int .i64 (q5 : Nat), .int .i64 (lnT T q5 : Nat), .int .i64 (zH T q5 : Nat)] []) :: [(tkb, .cs 163 qx [])]))) suT (Wk.refl _) ?_
               refine gg 38 ?_
               refine za rfl rfl rfl (read_go0 L T { zc X with r := r7, nl := nl7, q := q7 } 1 none 0 hn7 hb7 omT hl7t omT) ?_
               rintro _ _ ⟨r7, nl7, nb, hn7, hb7, rfl, rfl⟩
               replace hn7 : Inv L T { zc X with r := r7, nl := nl7, q := (q7 + 1) } := hn7
               replace hb7 : Rdy T { zc X with r := r7, nl := nl7, q := (q7 + 1) } 0 := hb7
               refine lS ?_
               have hl7 : r7.pos + 0 ≤ r7.blen := hb7.len
               have hpq7 : r7.pos ≤ (q7 + 1) := hn7.pq
               have hbl7 : r7.blen ≤ 1536 := hn7.bl
               refine gg 3 ?_
               refine zD L T { zc X with r := r7, nl := nl7, q := (q7 + 1) } ?_
               refine ki { zc X with r := r7, nl := nl7, q := (q7 + 1) } 1 hn7 (fun hlt => ?_) (fun hlt => ?_) (fun r8 hn8 hb8 => ?_)
               ·
                refine gg 16 ?_
                exact zq hn7 hlt exT
               ·
                refine gg 9 ?_
                refine za rfl rfl rfl (kc L T { zc X with r := r7, nl := nl7, q := (q7 + 1) } 1 he (.inl hn7) hlt omT) ?_
                rintro _ _ ⟨rfl, r8, h1, h2, h3, rfl⟩
                refine lS ?_
                refine gg 6 ?_
                exact zr h1 h2 h3 exT
               ·
                replace hn8 : Inv L T { zc X with r := r8, nl := nl7, q := (q7 + 1) } := hn8
                replace hb8 : Rdy T { zc X with r := r8, nl := nl7, q := (q7 + 1) } 1 := hb8
                refine qH (RH L T { zc X with r := r8, nl := nl7, q := (q7 + 1) } _) _ rfl rfl ?_
                have hl8 : r8.pos + 1 ≤ r8.blen := hb8.len
                have hpq8 : r8.pos ≤ (q7 + 1) := hn8.pq
                have hbl8 : r8.blen ≤ 1536 := hn8.bl
                refine kJ ?_
                exact zh (r8, nl7, (q7 + 1), false, some (nb, 32, [at_ T q7]), Sl.nil, Sl.nil) ⟨hn8, hb8, omT, omT, fun b k Y h => (by cases h; exact ⟨by simp, by simp, by decide, by simp⟩)⟩ omT suT (Wk.to [L.p, L.bb, L.rb, L.ib, 0, nb, sb, b11, b12, tkb] wlT)
              ·
               refine kq (E' := [(0, pV L.p), (1, pV tkb), (5, .slice (some ⟨sb, 0, none⟩) (q5 - X.q) sc), (6, zS), (7, zS), (8, .slice (some ⟨ob, 0, none⟩) oY.length oc), (9, .bool false), (10, zI), (11, pV b11), (12, pV b12)]) (H' := (RH L T { zc X with r := r7, nl := nl7, q := q7 } ((ob, .buf 5 oc (bytes oY)) :: (sb, .buf 5 sc (bytes (kA T X.q q5))) :: (b11, .cs 57 [.int .i64 (X.q : Nat), .int .i64 (lnT T X.q : Nat), .int .i64 (zH T X.q : Nat)] []) :: (b12, .cs 57 [.int .i64 (q5 : Nat), .int .i64 (lnT T q5 : Nat), .int .i64 (zH T q5 : Nat)] []) :: [(tkb, .cs 163 qx [])]))) suT (Wk.refl _) ?_
               obtain ⟨g1, g2, g3, g4⟩ := ht7 ob oc oY rfl
               refine gg 38 ?_
               refine za rfl rfl rfl (read_go L T { zc X with r := r7, nl := nl7, q := q7 } 1 oY ob oc g1 g2 g3 omT hn7 hb7 omT hl7t omT) ?_
               rintro _ _ ⟨r9, nl9, nb, nc, hn9, hb9, hc1, hc2, rfl, rfl⟩
               replace hn9 : Inv L T { zc X with r := r9, nl := nl9, q := (q7 + 1) } := hn9
               replace hb9 : Rdy T { zc X with r := r9, nl := nl9, q := (q7 + 1) } 0 := hb9
               refine lS ?_
               have hl9 : r9.pos + 0 ≤ r9.blen := hb9.len
               have hpq9 : r9.pos ≤ (q7 + 1) := hn9.pq
               have hbl9 : r9.blen ≤ 1536 := hn9.bl
               refine gg 3 ?_
               have hL : oY.length + 1 = (oY ++ [at_ T q7]).length := by simp
               rw [hL] at *
               refine zD L T { zc X with r := r9, nl := nl9, q := (q7 + 1) } ?_
               refine ki { zc X with r := r9, nl := nl9, q := (q7 + 1) } 1 hn9 (fun hlt => ?_) (fun hlt => ?_) (fun r10 hn10 hb10 => ?_)
               ·
                refine gg 16 ?_
                exact zq hn9 hlt exT
               ·
                refine gg 9 ?_
                refine za rfl rfl rfl (kc L T { zc X with r := r9, nl := nl9, q := (q7 + 1) } 1 he (.inl hn9) hlt omT) ?_
                rintro _ _ ⟨rfl, r10, h1, h2, h3, rfl⟩
                refine lS ?_
                refine gg 6 ?_
                exact zr h1 h2 h3 exT
               ·
                replace hn10 : Inv L T { zc X with r := r10, nl := nl9, q := (q7 + 1) } := hn10
                replace hb10 : Rdy T { zc X with r := r10, nl := nl9, q := (q7 + 1) } 1 := hb10
                refine qH (RH L T { zc X with r := r10, nl := nl9, q := (q7 + 1) } _) _ rfl rfl ?_
                have hl10 : r10.pos + 1 ≤ r10.blen := hb10.len
                have hpq10 : r10.pos ≤ (q7 + 1) := hn10.pq
                have hbl10 : r10.blen ≤ 1536 := hn10.bl
                refine kJ ?_
                exact zh (r10, nl9, (q7 + 1), false, some (nb, nc, oY ++ [at_ T q7]), Sl.nil, Sl.nil) ⟨hn10, hb10, omT, omT, fun b k Y h => (by cases h; exact ⟨by simp, by simpa using hc1, hc2, by simp; omega⟩)⟩ omT suT (Wk.to [L.p, L.bb, L.rb, L.ib, 0, nb, sb, b11, b12, tkb] wlT)
             ·
              refine kq (E' := [(0, pV L.p), (1, pV tkb), (5, .slice (some ⟨sb, 0, none⟩) (q5 - X.q) sc), (6, lb.v), (7, TO o7), (8, ws.v), (9, .bool true), (10, zI), (11, pV b11), (12, pV b12)]) (H' := (RH L T { zc X with r := r7, nl := nl7, q := q7 } (TOH o7 ++ ((sb, .buf 5 sc (bytes (kA T X.q q5))) :: (b11, .cs 57 [.int .i64 (X.q : Nat), .int .i64 (lnT T X.q : Nat), .int .i64 (zH T X.q : Nat)] []) :: (b12, .cs 57 [.int .i64 (q5 : Nat), .int .i64 (lnT T q5 : Nat), .int .i64 (zH T q5 : Nat)] []) :: [(tkb, .cs 163 qx [])])))) suT (Wk.refl _) ?_
              refine gg 37 ?_
              refine za rfl rfl rfl (kG L T { zc X with r := r7, nl := nl7, q := q7 } 1 hn7 hb7 omT omT omT) ?_
              rintro _ _ ⟨rfl, r11, nl11, hn11, hb11, rfl⟩
              replace hn11 : Inv L T { zc X with r := r11, nl := nl11, q := (q7 + 1) } := hn11
              replace hb11 : Rdy T { zc X with r := r11, nl := nl11, q := (q7 + 1) } 0 := hb11
              refine lS ?_
              have hl11 : r11.pos + 0 ≤ r11.blen := hb11.len
              have hpq11 : r11.pos ≤ (q7 + 1) := hn11.pq
              have hbl11 : r11.blen ≤ 1536 := hn11.bl
              refine ze ?_
              refine zf (zD L T { zc X with r := r11, nl := nl11, q := (q7 + 1) } ?_)
              refine ki { zc X with r := r11, nl := nl11, q := (q7 + 1) } 1 hn11 (fun hlt => ?_) (fun hlt => ?_) (fun r12 hn12 hb12 => ?_)
              ·
               refine gg 16 ?_
               exact zq hn11 hlt exT
              ·
               refine gg 9 ?_
               refine za rfl rfl rfl (kc L T { zc X with r := r11, nl := nl11, q := (q7 + 1) } 1 he (.inl hn11) hlt omT) ?_
               rintro _ _ ⟨rfl, r12, h1, h2, h3, rfl⟩
               refine lS ?_
               refine gg 6 ?_
               exact zr h1 h2 h3 exT
              ·
               replace hn12 : Inv L T { zc X with r := r12, nl := nl11, q := (q7 + 1) } := hn12
               replace hb12 : Rdy T { zc X with r := r12, nl := nl11, q := (q7 + 1) } 1 := hb12
               refine qH (RH L T { zc X with r := r12, nl := nl11, q := (q7 + 1) } _) _ rfl rfl ?_
               have hl12 : r12.pos + 1 ≤ r12.blen := hb12.len
               have hpq12 : r12.pos ≤ (q7 + 1) := hn12.pq
               have hbl12 : r12.blen ≤ 1536 := hn12.bl
               refine kJ ?_
               exact zh (r12, nl11, (q7 + 1), true, o7, ws, lb) ⟨hn12, hb12, omT, omT, fun b k Y h => (by obtain ⟨g1, g2, g3, g4⟩ := ht7 b k Y h; exact ⟨g1, g2, g3, by dsimp only; omega⟩)⟩ omT suT (Wk.toT (TOH o7 ++ ((sb, .buf 5 sc (bytes (kA T X.q q5))) :: (b11, .cs 57 [.int .i64 (X.q : Nat), .int .i64 (lnT T X.q : Nat), .int .i64 (zH T X.q : Nat)] []) :: (b12, .cs 57 [.int .i64 (q5 : Nat), .int .i64 (lnT T q5 : Nat), .int .i64 (zH T q5 : Nat)] []) :: [(tkb, .cs 163 qx [])])) [L.p, L.bb, L.rb, L.ib, 0] wlT)
            ·
             refine gg 10 ?_
             refine dca (ks (b := false) hn7 (hb7.lt omT) (by first | assumption | (unfold kj; first | exact decide_eq_true omT | exact decide_eq_false omT))) ?_
             refine gg 9 ?_
             refine dca (qN (b := true) hn7 (hb7.lt omT) (by first | assumption | (unfold qo; first | exact decide_eq_true omT | exact decide_eq_false omT))) ?_
             refine gg 18 ?_
             refine dca (ks (b := false) hn7 (hb7.lt omT) (by first | assumption | (unfold kj; first | exact decide_eq_true omT | exact decide_eq_false omT))) ?_
             refine gg 3 ?_
             refine zR { zc X with r := r7, nl := nl7, q := q7 } 2 hn7 (fun hlt => ?_) (fun hlt => ?_) (fun r13 hn13 hb13 => ?_)
             ·
              refine gg 16 ?_
              exact zq hn7 hlt exT
             ·
              refine gg 9 ?_
              refine za rfl rfl rfl (kc L T { zc X with r := r7, nl := nl7, q := q7 } 2 he (.inl hn7) hlt omT) ?_
              rintro _ _ ⟨rfl, r13, h1, h2, h3, rfl⟩
              refine lS ?_
              refine gg 6 ?_
              exact zr h1 h2 h3 exT
             ·
              replace hn13 : Inv L T { zc X with r := r13, nl := nl7, q := q7 } := hn13
              replace hb13 : Rdy T { zc X with r := r13, nl := nl7, q := q7 } 2 := hb13
              refine zt (RH L T { zc X with r := r13, nl := nl7, q := q7 } _) _ rfl rfl ?_
              have hl13 : r13.pos + 2 ≤ r13.blen := hb13.len
              have hpq13 : r13.pos ≤ q7 := hn13.pq
              have hbl13 : r13.blen ≤ 1536 := hn13.bl
              cases ld
              ·
               rcases o7 with _ | ⟨ob, oc, oY⟩
               ·
                refine kq (E' := [(0, pV L.p), (1, pV tkb), (5, .slice (some ⟨sb, 0, none⟩) (q5 - X.q) sc), (6, zS), (7, zS), (8, zS), (9, .bool false), (10, zI), (11, pV b11), (12, pV b12)]) (H' := (RH L T { zc X with r := r13, nl := nl7, q := q7 } ((sb, .buf 5 sc (bytes (kA T X.q q5))) :: (b11, .cs 57 [.int .i64 (X.q : Nat), .int .i64 (lnT T X.q : Nat), .int .i64 (zH T X.q : Nat)] []) :: (b12, .cs 57 [.int .i64 (q5 : Nat), .int .i64 (lnT T q5 : Nat), .int .i64 (zH T q5 : Nat)] []) :: [(tkb, .cs 163 qx [])]))) suT (Wk.refl _) ?_
                refine gg 10 ?_
                refine sqz (qc (c0 := 0) rfl rfl (by decide)) ?_
                refine gg 7 ?_
                refine za rfl rfl rfl (rdl_ok0 L T { zc X with r := r13, nl := nl7, q := q7 } 2 hn13 hb13 omT hl7t hg7) ?_
                rintro _ _ ⟨r14, nl14, nb, nc, hn14, hb14, hc1, hc2, rfl, rfl⟩
                replace hn14 : Inv L T { zc X with r := r14, nl := nl14, q := (q7 + 1) } := hn14
                replace hb14 : Rdy T { zc X with r := r14, nl := nl14, q := (q7 + 1) } 1 := hb14
                refine lS ?_
                have hl14 : r14.pos + 1 ≤ r14.blen := hb14.len
                have hpq14 : r14.pos ≤ (q7 + 1) := hn14.pq
                have hbl14 : r14.blen ≤ 1536 := hn14.bl
                refine gg 3 ?_
                refine zD L T { zc X with r := r14, nl := nl14, q := (q7 + 1) } (gg 4 ?_)
                refine ki { zc X with r := r14, nl := nl14, q := (q7 + 1) } 1 hn14 (fun hlt => ?_) (fun hlt => ?_) (fun r15 hn15 hb15 => ?_)
                ·
                  refine gg 16 ?_
                  exact zq hn14 hlt exT
                ·
                  refine gg 9 ?_
                  refine za rfl rfl rfl (kc L T { zc X with r := r14, nl := nl14, q := (q7 + 1) } 1 he (.inl hn14) hlt omT) ?_
                  rintro _ _ ⟨rfl, r15, h1, h2, h3, rfl⟩
                  refine lS ?_
                  refine gg 6 ?_
                  exact zr h1 h2 h3 exT
                ·
                  replace hn15 : Inv L T { zc X with r := r15, nl := nl14, q := (q7 + 1) } := hn15
                  replace hb15 : Rdy T { zc X with r := r15, nl := nl14, q := (q7 + 1) } 1 := hb15
                  refine qH (RH L T { zc X with r := r15, nl := nl14, q := (q7 + 1) } _) _ rfl rfl ?_
                  have hl15 : r15.pos + 1 ≤ r15.blen := hb15.len
                  have hpq15 : r15.pos ≤ (q7 + 1) := hn15.pq
                  have hbl15 : r15.blen ≤ 1536 := hn15.bl
                  refine kJ ?_
                  exact zh (r15, nl14, (q7 + 1), true, none, Sl.nil, ⟨some ⟨nb, 0, none⟩, 1, nc⟩) ⟨hn15, hb15, omT, omT, fun b k Y h => (by cases h)⟩ omT suT (Wk.to [L.p, L.bb, L.rb, L.ib, 0, sb, b11, b12, tkb] wlT)
               ·
                refine kq (E' := [(0, pV L.p), (1, pV tkb), (5, .slice (some ⟨sb, 0, none⟩) (q5 - X.q) sc), (6, zS), (7, zS), (8, .slice (some ⟨ob, 0, none⟩) oY.length oc), (9, .bool false), (10, zI), (11, pV b11), (12, pV b12)]) (H' := (RH L T { zc X with r := r13, nl := nl7, q := q7 } ((ob, .buf 5 oc (bytes oY)) :: (sb, .buf 5 sc (bytes (kA T X.q q5))) :: (b11, .cs 57 [.int .i64 (X.q : Nat), .int .i64 (lnT T X.q : Nat), .int .i64 (zH T X.q : Nat)] []) :: (b12, .cs 57 [.int .i64 (q5 : Nat), .int .i64 (lnT T q5 : Nat), .int .i64 (zH T q5 : Nat)] []) :: [(tkb, .cs 163 qx [])]))) suT (Wk.refl _) ?_
                obtain ⟨g1, g2, g3, g4⟩ := ht7 ob oc oY rfl
                refine gg 10 ?_
                refine sqz (qc (c0 := 0) rfl rfl omT) (gg 7 ?_)
                refine za rfl rfl rfl (rdl_ok0 L T { zc X with r := r13, nl := nl7, q := q7 } 2 hn13 hb13 omT hl7t hg7) ?_
                rintro _ _ ⟨r16, nl16, nb, nc, hn16, hb16, hc1, hc2, rfl, rfl⟩
                replace hn16 : Inv L T { zc X with r := r16, nl := nl16, q := (q7 + 1) } := hn16
                replace hb16 : Rdy T { zc X with r := r16, nl := nl16, q := (q7 + 1) } 1 := hb16
                refine lS ?_
                have hl16 : r16.pos + 1 ≤ r16.blen := hb16.len
                have hpq16 : r16.pos ≤ (q7 + 1) := hn16.pq
                have hbl16 : r16.blen ≤ 1536 := hn16.bl
                refine gg 3 ?_
                refine zD L T { zc X with r := r16, nl := nl16, q := (q7 + 1) } (gg 4 ?_)
                refine ki { zc X with r := r16, nl := nl16, q := (q7 + 1) } 1 hn16 (fun hlt => ?_) (fun hlt => ?_) (fun r17 hn17 hb17 => ?_)
                ·
                  refine gg 16 ?_
                  exact zq hn16 hlt exT
                ·
                  refine gg 9 ?_
                  refine za rfl rfl rfl (kc L T { zc X with r := r16, nl := nl16, q := (q7 + 1) } 1 he (.inl hn16) hlt omT) ?_
                  rintro _ _ ⟨rfl, r17, h1, h2, h3, rfl⟩
                  refine lS ?_
                  refine gg 6 ?_
                  exact zr h1 h2 h3 exT
                ·
                  replace hn17 : Inv L T { zc X with r := r17, nl := nl16, q := (q7 + 1) } := hn17
                  replace hb17 : Rdy T { zc X with r := r17, nl := nl16, q := (q7 + 1) } 1 := hb17
                  refine qH (RH L T { zc X with r := r17, nl := nl16, q := (q7 + 1) } _) _ rfl rfl ?_
                  have hl17 : r17.pos + 1 ≤ r17.blen := hb17.len
                  have hpq17 : r17.pos ≤ (q7 + 1) := hn17.pq
                  have hbl17 : r17.blen ≤ 1536 := hn17.bl
                  refine kJ ?_
                  exact zh (r17, nl16, (q7 + 1), true, none, ⟨some ⟨ob, 0, none⟩, 0, oc⟩, ⟨some ⟨nb, 0, none⟩, 1, nc⟩) ⟨hn17, hb17, omT, omT, fun b k Y h => (by cases h)⟩ omT suT (Wk.to [L.p, L.bb, L.rb, L.ib, 0, sb, b11, b12, tkb] wlT)
              ·
               rcases o7 with _ | ⟨ob, oc, oY⟩
               ·
                refine kq (E' := [(0, pV L.p), (1, pV tkb), (5, .slice (some ⟨sb, 0, none⟩) (q5 - X.q) sc), (6, lb.v), (7, zS), (8, ws.v), (9, .bool true), (10, zI), (11, pV b11), (12, pV b12)]) (H' := (RH L T { zc X with r := r13, nl := nl7, q := q7 } ((sb, .buf 5 sc (bytes (kA T X.q q5))) :: (b11, .cs 57 [.int .i64 (X.q : Nat), .int .i64 (lnT T X.q : Nat), .int .i64 (zH T X.q : Nat)] []) :: (b12, .cs 57 [.int .i64 (q5 : Nat), .int .i64 (lnT T q5 : Nat), .int .i64 (zH T q5 : Nat)] []) :: [(tkb, .cs 163 qx [])]))) suT (Wk.refl _) ?_
                refine gg 10 ?_
                refine za rfl rfl rfl (rdl_ok0 L T { zc X with r := r13, nl := nl7, q := q7 } 2 hn13 hb13 omT hl7t hg7) ?_
                rintro _ _ ⟨r18, nl18, nb, nc, hn18, hb18, hc1, hc2, rfl, rfl⟩
                replace hn18 : Inv L T { zc X with r := r18, nl := nl18, q := (q7 + 1) } := hn18
                replace hb18 : Rdy T { zc X with r := r18, nl := nl18, q := (q7 + 1) } 1 := hb18
                refine lS ?_
                have hl18 : r18.pos + 1 ≤ r18.blen := hb18.len
                have hpq18 : r18.pos ≤ (q7 + 1) := hn18.pq
                have hbl18 : r18.blen ≤ 1536 := hn18.bl
                refine gg 3 ?_
                refine zD L T { zc X with r := r18, nl := nl18, q := (q7 + 1) } ?_
                refine ki { zc X with r := r18, nl := nl18, q := (q7 + 1) } 1 hn18 (fun hlt => ?_) (fun hlt => ?_) (fun r19 hn19 hb19 => ?_)
                ·
                  refine gg 16 ?_
                  exact zq hn18 hlt exT
                ·
                  refine gg 9 ?_
                  refine za rfl rfl rfl (kc L T { zc X with r := r18, nl := nl18, q := (q7 + 1) } 1 he (.inl hn18) hlt omT) ?_
                  rintro _ _ ⟨rfl, r19, h1, h2, h3, rfl⟩
                  refine lS ?_
                  refine gg 6 ?_
                  exact zr h1 h2 h3 exT
                ·
                  replace hn19 : Inv L T { zc X with r := r19, nl := nl18, q := (q7 + 1) } := hn19
                  replace hb19 : Rdy T { zc X with r := r19, nl := nl18, q := (q7 + 1) } 1 := hb19
                  refine qH (RH L T { zc X with r := r19, nl := nl18, q := (q7 + 1) } _) _ rfl rfl ?_
                  have hl19 : r19.pos + 1 ≤ r19.blen := hb19.len
                  have hpq19 : r19.pos ≤ (q7 + 1) := hn19.pq
                  have hbl19 : r19.blen ≤ 1536 := hn19.bl
                  refine kJ ?_
                  exact zh (r19, nl18, (q7 + 1), true, some (nb, nc, [10]), ws, lb) ⟨hn19, hb19, omT, omT, fun b k Y h => (by cases h; exact ⟨by simp, hc1, hc2, by simp⟩)⟩ omT suT (Wk.to [L.p, L.bb, L.rb, L.ib, 0, nb, sb, b11, b12, tkb] wlT)
               ·
                refine kq (E' := [(0, pV L.p), (1, pV tkb), (5, .slice (some ⟨sb, 0, none⟩) (q5 - X.q) sc), (6, lb.v), (7, .slice (some ⟨ob, 0, none⟩) oY.length oc), (8, ws.v), (9, .bool true), (10, zI), (11, pV b11), (12, pV b12)]) (H' := (RH L T { zc X with r := r13, nl := nl7, q := q7 } ((ob, .buf 5 oc (bytes oY)) :: (sb, .buf 5 sc (bytes (kA T X.q q5))) :: (b11, .cs 57 [.int .i64 (X.q : Nat), .int .i64 (lnT T X.q : Nat), .int .i64 (zH T X.q : Nat)] []) :: (b12, .cs 57 [.int .i64 (q5 : Nat), .int .i64 (lnT T q5 : Nat), .int .i64 (zH T q5 : Nat)] []) :: [(tkb, .cs 163 qx [])]))) suT (Wk.refl _) ?_
                obtain ⟨g1, g2, g3, g4⟩ := ht7 ob oc oY rfl
                refine gg 10 ?_
                refine za rfl rfl rfl (rdl_ok L T { zc X with r := r13, nl := nl7, q := q7 } 2 oY ob oc omT g2 g3 hn13 hb13 omT hl7t hg7) ?_
                rintro _ _ ⟨r20, nl20, nb, nc, hn20, hb20, hc1, hc2, rfl, rfl⟩
                replace hn20 : Inv L T { zc X with r := r20, nl := nl20, q := (q7 + 1) } := hn20
                replace hb20 : Rdy T { zc X with r := r20, nl := nl20, q := (q7 + 1) } 1 := hb20
                refine lS ?_
                have hl20 : r20.pos + 1 ≤ r20.blen := hb20.len
                have hpq20 : r20.pos ≤ (q7 + 1) := hn20.pq
                have hbl20 : r20.blen ≤ 1536 := hn20.bl
                refine gg 3 ?_
                have hL : oY.length + 1 = (oY ++ [10]).length := by simp
                rw [hL]
                refine zD L T { zc X with r := r20, nl := nl20, q := (q7 + 1) } ?_
                refine ki { zc X with r := r20, nl := nl20, q := (q7 + 1) } 1 hn20 (fun hlt => ?_) (fun hlt => ?_) (fun r21 hn21 hb21 => ?_)
                ·
                  refine gg 16 ?_
                  exact zq hn20 hlt exT
                ·
                  refine gg 9 ?_
                  refine za rfl rfl rfl (kc L T { zc X with r := r20, nl := nl20, q := (q7 + 1) } 1 he (.inl hn20) hlt omT) ?_
                  rintro _ _ ⟨rfl, r21, h1, h2, h3, rfl⟩
                  refine lS ?_
                  refine gg 6 ?_
                  exact zr h1 h2 h3 exT
                ·
                  replace hn21 : Inv L T { zc X with r := r21, nl := nl20, q := (q7 + 1) } := hn21
                  replace hb21 : Rdy T { zc X with r := r21, nl := nl20, q := (q7 + 1) } 1 := hb21
                  refine qH (RH L T { zc X with r := r21, nl := nl20, q := (q7 + 1) } _) _ rfl rfl ?_
                  have hl21 : r21.pos + 1 ≤ r21.blen := hb21.len
                  have hpq21 : r21.pos ≤ (q7 + 1) := hn21.pq
                  have hbl21 : r21.blen ≤ 1536 := hn21.bl
                  refine kJ ?_
                  exact zh (r21, nl20, (q7 + 1), true, some (nb, nc, oY ++ [10]), ws, lb) ⟨hn21, hb21, omT, omT, fun b k Y h => (by cases h; exact ⟨by simp, by simpa using hc1, hc2, by simp; omega⟩)⟩ omT suT (Wk.to [L.p, L.bb, L.rb, L.ib, 0, nb, sb, b11, b12, tkb] wlT)
          ·
            obtain rfl : q7 = q' := by omega
            refine gg 10 ?_
            refine dca (ks (b := false) hn7 (hb7.lt omT) (by first | assumption | (unfold kj; first | exact decide_eq_true omT | exact decide_eq_false omT))) ?_
            refine gg 9 ?_
            refine dca (qN (b := false) hn7 (hb7.lt omT) (by first | assumption | (unfold qo; first | exact decide_eq_true omT | exact decide_eq_false omT))) ?_
            refine gg 30 ?_
            refine kX (kn ?_)
            have hq0 : at_ T (q7 + 0) = at_ T q7 := rfl
            refine kf ?_
            refine zR { zc X with r := r7, nl := nl7, q := q7 } 4 hn7 (fun hlt => ?_) (fun hlt => ?_) (fun r22 hn22 hb22 => ?_)
            ·
             refine gg 16 ?_
             exact zq hn7 hlt exT
            ·
             refine gg 9 ?_
             refine za rfl rfl rfl (kc L T { zc X with r := r7, nl := nl7, q := q7 } 4 he (.inl hn7) hlt omT) ?_
             rintro _ _ ⟨rfl, r22, h1, h2, h3, rfl⟩
             refine lS ?_
             refine gg 6 ?_
             exact zr h1 h2 h3 exT
            ·
             replace hn22 : Inv L T { zc X with r := r22, nl := nl7, q := q7 } := hn22
             replace hb22 : Rdy T { zc X with r := r22, nl := nl7, q := q7 } 4 := hb22
             refine zt (RH L T { zc X with r := r22, nl := nl7, q := q7 } _) _ rfl rfl ?_
             have hl22 : r22.pos + 4 ≤ r22.blen := hb22.len
             have hpq22 : r22.pos ≤ q7 := hn22.pq
             have hbl22 : r22.blen ≤ 1536 := hn22.bl
             refine zd ?_
             refine qm 137 (fun b => b = true ↔ DI T q7) ?_ ?_
             ·
              by_cases hc0 : zH T q7 = 0
              ·
               refine kM zF kR ?_
               dsimp only [List.append]
               refine gg 7 ?_
               by_cases h1 : at_ T q7 = 45
               ·
                refine gg 8 ?_
                refine dadc 0 ?_
                refine dix ?_
                refine zn (bpk omT) rfl ?_
                refine deq1 ?_
                refine dmv ?_
                by_cases h2 : at_ T (q7 + 1) = 45
                ·
                  refine gg 10 ?_
                  refine zn (bpk omT) rfl ?_
                  refine gg 3 ?_
                  by_cases h3 : at_ T (q7 + 2) = 45
                  ·
                   refine gg 8 ?_
                   refine dadc 2 ?_
                   refine dix ?_
                   refine zn (bpk omT) rfl ?_
                   refine gg 45 ?_
                   cases hb : zK (at_ T (q7 + 3))
                   ·
                    refine gg 9 ?_
                    refine dadc 3 ?_
                    refine dca (wb (j := 3) (b := false) hn22 (by have := hb22.len; exact omT) (hb)) ?_
                    refine dpt ?_
                    refine wg ?_
                    exact zE (b := false) rfl exT ⟨fun h => (by cases h), fun h => (by have := h.2.2; rw [hb] at this; cases this)⟩
                   ·
                    refine gg 9 ?_
                    refine dadc 3 ?_
                    refine dca (wb (j := 3) (b := true) hn22 (by have := hb22.len; exact omT) (hb)) ?_
                    refine dpt ?_
                    refine wg ?_
                    exact zE (b := true) rfl exT ⟨fun _ => ⟨hc0, .inl ⟨h1, h2, h3⟩, hb⟩, fun _ => rfl⟩
                  ·
                   refine gg 8 ?_
                   refine dadc 2 ?_
                   refine dix ?_
                   refine zn (bpk omT) rfl ?_
                   refine gg 11 ?_
                   refine dadc 0 ?_
                   refine dix ?_
                   refine zn (bpk omT) rfl ?_
                   refine gg 44 ?_
                   exact zE (b := false) rfl exT ⟨fun h => (by cases h), fun h => (by have := h.2.1; omega)⟩
                ·
                  refine gg 10 ?_
                  refine zn (bpk omT) rfl ?_
                  refine gg 25 ?_
                  refine dadc 0 ?_
                  refine dix ?_
                  refine zn (bpk omT) rfl ?_
                  refine gg 44 ?_
                  exact zE (b := false) rfl exT ⟨fun h => (by cases h), fun h => (by have := h.2.1; omega)⟩
               ·
                refine gg 8 ?_
                refine dadc 0 ?_
                refine dix ?_
                refine zn (bpk omT) rfl ?_
                refine gg 30 ?_
                by_cases h4 : at_ T q7 = 46
                ·
                  refine gg 8 ?_
                  refine dadc 0 ?_
                  refine dix ?_
                  refine zn (bpk omT) rfl ?_
                  refine deq1 ?_
                  refine dmv ?_
                  by_cases h5 : at_ T (q7 + 1) = 46
                  ·
                   refine gg 10 ?_
                   refine zn (bpk omT) rfl ?_
                   refine gg 3 ?_
                   by_cases h6 : at_ T (q7 + 2) = 46
                   ·
                    refine gg 8 ?_
                    refine dadc 2 ?_
                    refine dix ?_
                    refine zn (bpk omT) rfl ?_
                    refine gg 4 ?_
                    cases hb : zK (at_ T (q7 + 3))
                    ·
                     refine gg 9 ?_
                     refine dadc 3 ?_
                     refine dca (wb (j := 3) (b := false) hn22 (by have := hb22.len; exact omT) (hb)) ?_
                     refine dpt ?_
                     refine wg ?_
                     exact zE (b := false) rfl exT ⟨fun h => (by cases h), fun h => (by have := h.2.2; rw [hb] at this; cases this)⟩
                    ·
                     refine gg 9 ?_
                     refine dadc 3 ?_
                     refine dca (wb (j := 3) (b := true) hn22 (by have := hb22.len; exact omT) (hb)) ?_
                     refine dpt ?_
                     refine wg ?_
                     exact zE (b := true) rfl exT ⟨fun _ => ⟨hc0, .inr ⟨h4, h5, h6⟩, hb⟩, fun _ => rfl⟩
                   ·
                    refine gg 8 ?_
                    refine dadc 2 ?_
                    refine dix ?_
                    refine zn (bpk omT) rfl ?_
                    refine gg 17 ?_
                    exact zE (b := false) rfl exT ⟨fun h => (by cases h), fun h => (by have := h.2.1; omega)⟩
                  ·
                   refine gg 10 ?_
                   refine zn (bpk omT) rfl ?_
                   refine gg 31 ?_
                   exact zE (b := false) rfl exT ⟨fun h => (by cases h), fun h => (by have := h.2.1; omega)⟩
                ·
                  refine gg 8 ?_
                  refine dadc 0 ?_
                  refine dix ?_
                  refine zn (bpk omT) rfl ?_
                  refine gg 44 ?_
                  exact zE (b := false) rfl exT ⟨fun h => (by cases h), fun h => (by have := h.2.1; omega)⟩
              ·
               refine kM zF kR ?_
               dsimp only [List.append]
               refine gg 103 ?_
               exact zE (b := false) rfl exT ⟨fun h => (by cases h), fun h => absurd h.1 hc0⟩
             ·
              rintro b137 hb137
              refine kg rfl (fun hc => ?_) (fun hc => ?_)
              ·
               refine gg 5 ?_
               exact zg (r22, nl7, ld, sb, sc) ⟨hn22, hp2, hp3⟩ suT (Wk.to [L.p, L.bb, L.rb, L.ib, 0, sb, b11, b12, tkb] wlT)
              ·
               have hst2 : at_ T q7 = 0 ∨ at_ T q7 = 35 := by
                rcases hstop with h | h | h
                · exact .inl h
                · exact .inr h
                · have := hb137.2 h; rw [hc] at this; cases this
               refine gg 3 ?_
               by_cases h35 : at_ T q7 = 35
               ·
                refine gg 11 ?_
                refine zn (bp0 omT) rfl ?_
                refine gg 9 ?_
                exact zg (r22, nl7, ld, sb, sc) ⟨hn22, hp2, hp3⟩ suT (Wk.to [L.p, L.bb, L.rb, L.ib, 0, sb, b11, b12, tkb] wlT)
               ·
                refine gg 11 ?_
                refine zn (bp0 omT) rfl ?_
                refine gg 8 ?_
                refine qg (1) (kn (gg 11 ?_))
                refine dca (qZ (b := true) hn22 (hb22.lt omT) (by first | assumption | (unfold zK; first | exact decide_eq_true omT | exact decide_eq_false omT))) ?_
                refine gg 20 ?_
                refine dca (ks (b := false) hn22 (hb22.lt omT) (by first | assumption | (unfold kj; first | exact decide_eq_true omT | exact decide_eq_false omT))) ?_
                refine gg 9 ?_
                refine dca (qN (b := false) hn22 (hb22.lt omT) (by first | assumption | (unfold qo; first | exact decide_eq_true omT | exact decide_eq_false omT))) ?_
                refine gg 10 ?_
                exact zg (r22, nl7, ld, sb, sc) ⟨hn22, hp2, hp3⟩ suT (Wk.to [L.p, L.bb, L.rb, L.ib, 0, sb, b11, b12, tkb] wlT)
 ·
  rintro ⟨r, nl, ld, sb, sc⟩ ⟨hinv, hc1, hc2⟩
  dsimp only at hc1 hc2
  replace hinv : Inv L T { zc X with r := r, nl := nl, q := q' } := hinv
  refine zt (RH L T { zc X with r := r, nl := nl, q := q' } ((sb, .buf 5 sc (bytes (kA T X.q e))) :: (b11, .cs 57 [.int .i64 (X.q : Nat), .int .i64 (lnT T X.q : Nat), .int .i64 (zH T X.q : Nat)] []) :: (b12, .cs 57 [.int .i64 (e : Nat), .int .i64 (lnT T e : Nat), .int .i64 (zH T e : Nat)] []) :: [(tkb, .cs 163 qx [])])) [(0, pV L.p), (1, pV tkb), (5, .slice (some ⟨sb, 0, none⟩) (e - X.q) sc), (9, .bool ld), (11, pV b11), (12, pV b12)] rfl rfl ?_
  refine gg 6 ?_
  refine sqz (zu (l := [_, _, _, _, _, _, _, _, _, _, _, _, _, _]) (zs := [zI, zI, zI, zI, zI, zI, zI, zI, zS, zS, zS, .int .i8 0, .int .i8 0, .int .i8 0]) [0, 1, 4, 7, 8, 9, 10, 11, 12, 13] rfl rfl kR) ?_
  refine snc ?_
  first | refine stw rfl rfl ?_ | refine sts rfl rfl ?_
  refine gg 8 ?_
  refine kg rfl (fun hc => ?_) (fun hc => ?_)
  ·
    refine gg 13 ?_
    exact zm rfl rfl (Wk.to [L.p, L.bb, L.rb, L.ib, 0, tkb, sb] wlT) ⟨rfl, r, nl, true, sb, sc, hinv, hc1, hc2, rfl⟩
  ·
    refine gg 8 ?_
    exact zm rfl rfl (Wk.to [L.p, L.bb, L.rb, L.ib, 0, tkb, sb] wlT) ⟨rfl, r, nl, X.ska, sb, sc, hinv, hc1, hc2, rfl⟩
end Go.Proofs.YtnfbcfflkphbiaaGreatDoor
