/-
  Texts of the proof, joined: F11. No Go text.
-/
import Derived.Test.YtnfbcfflkphbiaaGreatDoorA01
import Derived.Test.YtnfbcfflkphbiaaGreatDoorA08
import Derived.Test.YtnfbcfflkphbiaaGreatDoorA09
import Derived.Test.YtnfbcfflkphbiaaGreatDoorA17
import Derived.Test.YtnfbcfflkphbiaaGreatDoorA19
namespace Go.Proofs.YtnfbcfflkphbiaaGreatDoor
open Go Go.Proofs Tryz
set_option linter.all false
set_option maxRecDepth 100000
set_option maxHeartbeats 8000000
inductive Tk
 | ss
 | se
 | ver
 | tag (h p : List Nat)
 | ds
 | de
 | sc (sty : Int) (v : List Nat)
def InV (V : VL) (s : Sl) (x : List Nat) : Prop := ∃ b c, s = ⟨some ⟨b, 0, none⟩, x.length, c⟩ ∧ VE b c x ∈ V ∧ x.length ≤ c ∧ c ≤ 9223372036854775807
theorem InV.mono {V V' : VL} {s : Sl} {x : List Nat} (hv : ∀ y ∈ V, y ∈ V') (h : InV V s x) : InV V' s x := by
 obtain ⟨b, c, h1, h2, h3⟩ := h
 exact ⟨b, c, h1, hv _ h2, h3⟩
def TVok (V : VL) (tv : TV) : Tk → Prop
 | .ss => tv.typ = 1
 | .se => tv.typ = 2
 | .ver => tv.typ = 3 ∧ tv.maj = 1 ∧ tv.min = 1
 | .tag h p => tv.typ = 4 ∧ InV V tv.val h ∧ InV V tv.pre p
 | .ds => tv.typ = 5
 | .de => tv.typ = 6
 | .sc s v => tv.typ = 21 ∧ tv.sty = s ∧ InV V tv.val v
theorem TVok.mono {V V' : VL} {tv : TV} {tk : Tk} (hv : ∀ y ∈ V, y ∈ V') (h : TVok V tv tk) : TVok V' tv tk := by
 cases tk <;> simp only [TVok] at * <;> try exact h
 · exact ⟨h.1, h.2.1.mono hv, h.2.2.mono hv⟩
 · exact ⟨h.1, h.2.1, h.2.2.mono hv⟩
theorem TVok.typ {V : VL} {tv : TV} {tk : Tk} (h : TVok V tv tk) : tv.typ ≠ 7 ∧ tv.typ ≠ 14 ∧ tv.typ ≠ 15 ∧ tv.typ ≠ 17 := by
 cases tk <;> simp only [TVok] at h <;> omega
inductive NxAt (T : List Nat) (a : Nat) : Tk → Nat → Prop
 | se (h0 : zH T a = 0) (h1 : T.length ≤ a) : NxAt T a .se a
 | yaml (qv qb ql : Nat) (h0 : zH T a = 0) (h1 : at_ T a = 37) (y1 : at_ T (a + 1) = 89) (y2 : at_ T (a + 1 + 1) = 65) (y3 : at_ T (a + 1 + 2) = 77) (y4 : at_ T (a + 1 + 3) = 76) (hv : a + 1 + 4 < qv) (hbl : ∀ i, a + 1 + 4 ≤ i → i < qv → at_ T i = 32)
  (v1 : at_ T qv = 49) (v2 : at_ T (qv + 1) = 46) (v3 : at_ T (qv + 2) = 49) (hd : DirEnd T (qv + 3) qb ql) : NxAt T a .ver (sk T (ql + 1))
 | tag (qv qa qh q3 qe qb ql : Nat) (h0 : zH T a = 0) (h1 : at_ T a = 37) (y1 : at_ T (a + 1) = 84) (y2 : at_ T (a + 1 + 1) = 65) (y3 : at_ T (a + 1 + 2) = 71) (hv : a + 1 + 3 < qv) (hbl : ∀ i, a + 1 + 3 ≤ i → i < qv → at_ T i = 32)
  (h33 : at_ T qv = 33) (hqa : qv < qa) (hal : ∀ i, qv < i → i < qa → zC (at_ T i) = true)
  (hz : (at_ T qa = 33 ∧ qh = qa + 1) ∨ (at_ T qa = 32 ∧ qa = qv + 1 ∧ qh = qa)) (hq3 : qh < q3) (hbl3 : ∀ i, qh ≤ i → i < q3 → at_ T i = 32) (hqe : q3 < qe) (huri : ∀ i, q3 ≤ i → i < qe → uriB (at_ T i) = true) (hd : DirEnd T qe qb ql) (hsc : qe = qb → at_ T qb = 10) :
  NxAt T a (.tag (kA T qv qh) (kA T q3 qe)) (sk T (ql + 1))
 | ds (h0 : zH T a = 0) (h1 : at_ T a = 45) (h2 : at_ T (a + 1) = 45) (h3 : at_ T (a + 1 + 1) = 45) (hb : zK (at_ T (a + 3)) = true) : NxAt T a .ds (sk T (a + 1 + 1 + 1))
 | de (h0 : zH T a = 0) (h1 : at_ T a = 46) (h2 : at_ T (a + 1) = 46) (h3 : at_ T (a + 1 + 1) = 46) (hb : zK (at_ T (a + 3)) = true) : NxAt T a .de (sk T (a + 1 + 1 + 1))
 | pl (e q' : Nat) (hqe : a < e) (hal : ∀ i, a ≤ i → i < e → zC (at_ T i) = true) (hz : zK (at_ T e) = true)
  (hdi : ¬ (zH T a = 0 ∧ at_ T a = 45 ∧ at_ T (a + 1) = 45 ∧ at_ T (a + 2) = 45 ∧ zK (at_ T (a + 3)) = true)) (h45 : at_ T a = 45 → zK (at_ T (a + 1)) = false)
  (hq' : e ≤ q') (hgap : ∀ i, e ≤ i → i < q' → at_ T i = 32 ∨ at_ T i = 10) (hstop : at_ T q' = 0 ∨ at_ T q' = 35 ∨ DI T q') : NxAt T a (.sc 2 (kA T a e)) (sk T q')
 | dq (e : Nat) (v : List Nat) (h34 : at_ T a = 34) (hv0 : v ≠ []) (hvl : v.length ≤ 1000) (hd : DQT T (a + 1) v e) : NxAt T a (.sc 8 v) (sk T (e + 1))
theorem Fet.pre' {L : Lay} {T : List Nat} {X X1 X2 : SS} {tv : TV} {r : RS} {nl q cn : Nat} {s : Bool} {C : Option (Nat × Nat)} {J : JL} (h : Fet L T X1 X2 tv) (hX : X1 = { X with r := r, nl := nl, q := q, ska := s, C := C, cn := cn, J := J }) (hj : JLe X.J J) : Fet L T X X2 tv := by
 subst hX
 obtain ⟨a1, a2, a3, a4, a5, a6, a7, a8, a9, a10, a11, a12, a13, a14, a15, a16, a17⟩ := h
 exact ⟨a1, a2, a3, a4, a5, hj.trans a6, a7, a8, a9, a10, a11, a12, a13, a14, a15, a16, a17⟩
theorem Fet.post {L : Lay} {T : List Nat} {X X2 : SS} {tv : TV} {r : RS} {nl q cn : Nat} {C : Option (Nat × Nat)} {J : JL} (h : Fet L T X X2 tv) (hs : SI L T { X2 with r := r, nl := nl, q := q, C := C, cn := cn, J := J }) (hj : JLe X2.J J) : Fet L T X { X2 with r := r, nl := nl, q := q, C := C, cn := cn, J := J } tv := by
 obtain ⟨a1, a2, a3, a4, a5, a6, a7, a8, a9, a10, a11, a12, a13, a14, a15, a16, a17⟩ := h
 exact ⟨hs, a2, a3, a4, a5, a6.trans hj, a7, a8, a9, a10, a11, a12, a13, a14, a15, a16, a17⟩
theorem alpha_ne {c : Nat} (h : zC c = true) : c ≠ 0 ∧ c ≠ 10 ∧ c ≠ 32 ∧ c ≠ 9 ∧ c ≠ 13 ∧ c ≠ 37 ∧ c ≠ 46 ∧ c ≠ 91 ∧ c ≠ 93 ∧ c ≠ 123 ∧ c ≠ 125 ∧ c ≠ 44 ∧ c ≠ 63 ∧ c ≠ 58 ∧ c ≠ 42 ∧ c ≠ 38 ∧ c ≠ 33 ∧ c ≠ 124 ∧ c ≠ 62 ∧ c ≠ 39 ∧ c ≠ 34 ∧ c ≠ 64 ∧ c ≠ 96 ∧ c ≠ 35 := by
 simp [zC] at h
 omega
theorem blank_of_z {c : Nat} (h : zK c = false) : kj c = false := by
 simp [zK] at h
 simp [kj]
 omega
theorem sk_sk (T : List Nat) (q : Nat) : sk T (sk T q) = sk T q := by
 have := sk_at (T := T) (q := q)
 exact sk_stop this.1 this.2.1 this.2.2
theorem fnt_ok (L : Lay) (T : List Nat) (X : SS) (tk : Tk) (n : Nat) (he : Eof L) (hi : SI L T X) (h1 : 1 ≤ X.tl.length) (hln : X.tl.length < 1000000) (htl : ∀ t ∈ X.tl, t.typ ≠ 7 ∧ t.typ ≠ 14 ∧ t.typ ≠ 15 ∧ t.typ ≠ 17) (hx : NxAt T (sk T X.q) tk n) :
   Fn prog 136 [pV L.p] (SH L T X)
     (fun v H' => v = .bool true ∧ ∃ X' tv, H' = SH L T X' ∧ Fet L T X X' tv ∧ TVok X'.V tv tk ∧ sk T X'.q = n ∧ (tk = .se → X'.pf = true)) := by
 have hsml := hi.sml
 refine fn_ofD func136 rfl rfl rfl ?_
 intro w
 refine zd (zi (ku rfl rfl rfl clT ?_))
 intro pb
 refine zk rfl rfl clT ?_
 intro tb
 refine ze ?_
 refine zf ?_
 refine zR { zc X with r := X.r, nl := X.nl, q := X.q } 1 hi.inv (fun hlt => ?_) (fun hlt => ?_) (fun r1 hn1 hb1 => ?_)
 · as_aux_lemma =>
   refine gg 16 ?_
   exact zq hi.inv hlt exT
 · as_aux_lemma =>
   refine gg 9 ?_
   refine za rfl rfl rfl (kc L T { zc X with r := X.r, nl := X.nl, q := X.q } 1 he (.inl hi.inv) hlt omT) ?_
   rintro _ _ ⟨rfl, r1, h1, h2, h3, rfl⟩
   refine lS ?_
   refine gg 6 ?_
   exact zr h1 h2 h3 exT
 · as_aux_lemma =>
   replace hn1 : Inv L T { zc X with r := r1, nl := X.nl, q := X.q } := hn1
   replace hb1 : Rdy T { zc X with r := r1, nl := X.nl, q := X.q } 1 := hb1
   refine zt (RH L T { zc X with r := r1, nl := X.nl, q := X.q } _) _ rfl rfl ?_
   have hl1 : r1.pos + 1 ≤ r1.blen := hb1.len
   have hpq1 : r1.pos ≤ X.q := hn1.pq
   have hbl1 : r1.blen ≤ 1536 := hn1.bl
   refine zd (zd ?_)
   have hi0 : SI L T { X with r := r1, nl := X.nl, q := X.q } := hi.move hn1 (Nat.le_refl _)
   refine gg 17 ?_
   refine zk rfl rfl clT ?_
   intro m3
   first | refine stw rfl rfl ?_ | refine sts rfl rfl ?_
   refine gg 6 ?_
   refine za rfl rfl rfl (stn_ok L T { X with r := r1, nl := X.nl, q := X.q } he hi0 h1 (fun t ht => ⟨(htl t ht).1, (htl t ht).2.2⟩)) ?_
   rintro _ _ ⟨rfl, r1, nl1, ska1, C1, cn1, J1, rfl, hi1, hj1⟩
   generalize hX1 : ({ ({ X with r := r1, nl := X.nl, q := X.q } : SS) with r := r1, nl := nl1, q := sk T X.q, ska := ska1, C := C1, cn := cn1, J := J1 } : SS) = X1 at hi1
   have hX1' := hX1.symm
   have hq1 : X1.q = sk T X.q := by rw [hX1']
   have htl1 : X1.tl = X.tl := by rw [hX1']
   have hth1 : X1.th = X.th := by rw [hX1']
   have hlen1 : 1 ≤ X1.tl.length := by rw [htl1]; exact h1
   have hlnn1 : X1.tl.length < 1000000 := by rw [htl1]; exact hln
   rw [← hq1] at hx
   refine lS ?_
   refine gg 8 ?_
   refine qF (H' := RH L T (zc X1) ((m3, .cs 57 [.int .i64 X.q, .int .i64 (lnT T X.q), .int .i64 (zH T X.q)] []) :: (pb, .cs 53 [pV L.p] []) :: (tb, .cs 4 [.bool false] []) :: TKB T X1 :: SKB X1 :: MPB X1 :: (CH T X1.J X1.C ++ XH X1.V X1.J))) (by subst hX1; exact (Wk.toT (CH T J1 C1 ++ XH X.V J1) [L.p, L.bb, L.rb, L.ib, 0, m3, pb, tb, X.tkb, X.skb, X.mpb] wlT)) ?_
   have hlen1' := hi1.tlc
   have htkc1 := hi1.tkc
   refine zU 7 zF kR (gg 8 ?_)
   refine za rfl rfl rfl (unr_ok L T X1 _ _ _ _ omT) ?_
   rintro _ _ ⟨rfl, rfl⟩
   refine lS ?_
   refine gg 6 ?_
   refine zR { zc X1 with r := X1.r, nl := X1.nl, q := X1.q } 4 hi1.inv (fun hlt => ?_) (fun hlt => ?_) (fun r2 hn2 hb2 => ?_)
   · as_aux_lemma =>
     refine gg 16 ?_
     exact zq hi1.inv hlt exT
   · as_aux_lemma =>
     refine gg 9 ?_
     refine za rfl rfl rfl (kc L T { zc X1 with r := X1.r, nl := X1.nl, q := X1.q } 4 he (.inl hi1.inv) hlt omT) ?_
     rintro _ _ ⟨rfl, r2, h1, h2, h3, rfl⟩
     refine lS ?_
     refine gg 6 ?_
     exact zr h1 h2 h3 exT
   · as_aux_lemma =>
     replace hn2 : Inv L T { zc X1 with r := r2, nl := X1.nl, q := X1.q } := hn2
     replace hb2 : Rdy T { zc X1 with r := r2, nl := X1.nl, q := X1.q } 4 := hb2
     refine zt (RH L T { zc X1 with r := r2, nl := X1.nl, q := X1.q } _) _ rfl rfl ?_
     have hl2 : r2.pos + 4 ≤ r2.blen := hb2.len
     have hpq2 : r2.pos ≤ X1.q := hn2.pq
     have hbl2 : r2.blen ≤ 1536 := hn2.bl
     refine zd ?_
     have hir : SI L T { X1 with r := r2, nl := X1.nl, q := X1.q } := hi1.move hn2 (Nat.le_refl _)
     have hX2 : ({ X1 with r := r2, nl := X1.nl, q := X1.q } : SS) = { X with r := r2, nl := X1.nl, q := X1.q, ska := ska1, C := C1, cn := cn1, J := J1 } := by rw [hX1']
     have hjr : JLe X.J J1 := hj1
     rcases hx with ⟨x1, x2⟩ | ⟨qv, qb, ql, x1, x2, y1, y2, y3, y4, hv, hbl, v1, v2, v3, hd⟩ | ⟨qv, qa, qh, q3, qe, qb, ql, x1, x2, y1, y2, y3, hv, hbl, h33, hqa, hal, hz, hq3, hbl3, hqe, huri, hd, hsc⟩ | ⟨x1, x2, x3, x4, hb⟩ | ⟨x1, x2, x3, x4, hb⟩ | ⟨e, q', hqe, hal, hz, hdi, h45, hq', hgap, hstop⟩ | ⟨e, vv, h34, hv0, hvl, hdq⟩
     · as_aux_lemma =>
       have x3 := qS (T := T) (i := X1.q) x2
       refine gg 10 ?_
       refine dca (b_z (b := true) hn2 (hb2.lt omT) (by first | assumption | (unfold zB; first | exact decide_eq_true omT | exact decide_eq_false omT))) ?_
       refine gg 6 ?_
       refine za rfl rfl rfl (fse_ok L T { X1 with r := r2, nl := X1.nl, q := X1.q } hir x1 hlnn1) ?_
       rintro _ _ ⟨rfl, X2, rfl, k1, k2, k3⟩
       refine lS ?_
       refine gg 5 ?_
       exact endcDw rfl rfl rfl rfl rfl (Wk.toT (CH T X2.J X2.C ++ XH X2.V X2.J) [L.p, L.bb, L.rb, L.ib, 0, X2.tkb, X2.skb, X2.mpb] wlT) ⟨rfl, X2, _, rfl, k1.pre' hX2 hjr, rfl, by rw [k2]; dsimp only; rw [hq1, sk_sk], fun _ => k3⟩
     · as_aux_lemma =>
       refine gg 10 ?_
       refine dca (b_z (b := false) hn2 (hb2.lt omT) (by first | assumption | (unfold zB; first | exact decide_eq_true omT | exact decide_eq_false omT))) ?_
       refine gg 24 ?_
       refine zn (bp0 omT) rfl ?_
       refine gg 8 ?_
       refine za rfl rfl rfl (fdy_ok L T { X1 with r := r2, nl := X1.nl, q := X1.q } qv qb ql he hir hb2 x2 y1 y2 y3 y4 hv hbl v1 v2 v3 hd hlnn1) ?_
       rintro _ _ ⟨rfl, X2, rfl, k1, k2⟩
       refine lS ?_
       refine gg 5 ?_
       exact endcDw rfl rfl rfl rfl rfl (Wk.toT (CH T X2.J X2.C ++ XH X2.V X2.J) [L.p, L.bb, L.rb, L.ib, 0, X2.tkb, X2.skb, X2.mpb] wlT) ⟨rfl, X2, _, rfl, k1.pre' hX2 hjr, ⟨rfl, rfl, rfl⟩, by rw [k2], fun h => by cases h⟩
     · as_aux_lemma =>
       refine gg 10 ?_
       refine dca (b_z (b := false) hn2 (hb2.lt omT) (by first | assumption | (unfold zB; first | exact decide_eq_true omT | exact decide_eq_false omT))) ?_
       refine gg 24 ?_
       refine zn (bp0 omT) rfl ?_
       refine gg 8 ?_
       refine za rfl rfl rfl (fdt_ok L T { X1 with r := r2, nl := X1.nl, q := X1.q } qv qa qh q3 qe qb ql he hir hb2 x2 y1 y2 y3 hv hbl h33 hqa hal hz hq3 hbl3 hqe huri hd hsc hlnn1) ?_
       rintro _ _ ⟨rfl, X2, b1, c1, b2, c2, rfl, k1, k2, k3, k4, k5, k6, k7, k8⟩
       refine lS ?_
       refine gg 5 ?_
       exact endcDw rfl rfl rfl rfl rfl (Wk.toT (CH T X2.J X2.C ++ XH X2.V X2.J) [L.p, L.bb, L.rb, L.ib, 0, X2.tkb, X2.skb, X2.mpb] wlT) ⟨rfl, X2, _, rfl, k1.pre' hX2 hjr, ⟨rfl, ⟨b1, c1, by simp [tvTag], k3, by simpa using k5, k6⟩, ⟨b2, c2, by simp [tvTag], k4, by simpa using k7, k8⟩⟩, by rw [k2], fun h => by cases h⟩
     · as_aux_lemma =>
       have x4' := x4; rw [show X1.q + 1 + 1 = X1.q + 2 by omega] at x4'
       refine gg 10 ?_
       refine dca (b_z (b := false) hn2 (hb2.lt omT) (by first | assumption | (unfold zB; first | exact decide_eq_true omT | exact decide_eq_false omT))) ?_
       refine gg 24 ?_
       refine zn (bp0 omT) rfl ?_
       refine gg 38 ?_
       refine zx (bp0 omT) rfl ?_
       refine gg 7 ?_
       refine zx (bpk omT) rfl ?_
       refine gg 5 ?_
       refine sadc 2 ?_
       refine six ?_
       refine zx (bpk omT) rfl ?_
       refine gg 5 ?_
       refine sadc 3 ?_
       refine sca (wb (j := 3) (b := true) hn2 (by have := hb2.len; exact omT) (hb)) ?_
       refine gg 7 ?_
       refine za rfl rfl rfl (fdi_ok L T { X1 with r := r2, nl := X1.nl, q := X1.q } 5 45 hir hb2 x2 x3 x4 (by decide) hlnn1) ?_
       rintro _ _ ⟨rfl, X2, rfl, k1, k2⟩
       refine lS ?_
       refine gg 5 ?_
       exact endcDw rfl rfl rfl rfl rfl (Wk.toT (CH T X2.J X2.C ++ XH X2.V X2.J) [L.p, L.bb, L.rb, L.ib, 0, X2.tkb, X2.skb, X2.mpb] wlT) ⟨rfl, X2, _, rfl, k1.pre' hX2 hjr, rfl, by rw [k2], fun h => by cases h⟩
     · as_aux_lemma =>
       have x4' := x4; rw [show X1.q + 1 + 1 = X1.q + 2 by omega] at x4'
       refine gg 10 ?_
       refine dca (b_z (b := false) hn2 (hb2.lt omT) (by first | assumption | (unfold zB; first | exact decide_eq_true omT | exact decide_eq_false omT))) ?_
       refine gg 24 ?_
       refine zn (bp0 omT) rfl ?_
       refine gg 38 ?_
       refine zx (bp0 omT) rfl ?_
       refine gg 42 ?_
       refine zx (bp0 omT) rfl ?_
       refine gg 7 ?_
       refine zx (bpk omT) rfl ?_
       refine gg 5 ?_
       refine sadc 2 ?_
       refine six ?_
       refine zx (bpk omT) rfl ?_
       refine gg 5 ?_
       refine sadc 3 ?_
       refine sca (wb (j := 3) (b := true) hn2 (by have := hb2.len; exact omT) (hb)) ?_
       refine gg 7 ?_
       refine za rfl rfl rfl (fdi_ok L T { X1 with r := r2, nl := X1.nl, q := X1.q } 6 46 hir hb2 x2 x3 x4 (by decide) hlnn1) ?_
       rintro _ _ ⟨rfl, X2, rfl, k1, k2⟩
       refine lS ?_
       refine gg 5 ?_
       exact endcDw rfl rfl rfl rfl rfl (Wk.toT (CH T X2.J X2.C ++ XH X2.V X2.J) [L.p, L.bb, L.rb, L.ib, 0, X2.tkb, X2.skb, X2.mpb] wlT) ⟨rfl, X2, _, rfl, k1.pre' hX2 hjr, rfl, by rw [k2], fun h => by cases h⟩
     · as_aux_lemma =>
       have hne := alpha_ne (hal X1.q (Nat.le_refl _) hqe)
       have hbz : zK (at_ T X1.q) = false := by simp [zK]; omega
       refine gg 10 ?_
       refine dca (b_z (b := false) hn2 (hb2.lt omT) (by first | assumption | (unfold zB; first | exact decide_eq_true omT | exact decide_eq_false omT))) ?_
       refine gg 6 ?_
       refine qm 79 (fun b => b = false) ?_ ?_
       · as_aux_lemma =>
         refine gg 6 ?_
         refine dqz (kw rfl rfl rfl) (dmv ?_)
         refine dq_split 67 rfl (fun hs3 => ?_) (fun hs3 => ?_)
         · as_aux_lemma =>
           refine gg 9 ?_
           refine zn (bp0 omT) rfl ?_
           refine gg 3 ?_
           exact zE (b := false) rfl exT rfl
         · as_aux_lemma =>
           refine gg 13 ?_
           exact zE (b := false) rfl exT rfl
       · as_aux_lemma =>
         rintro b79 hb79
         refine qr rfl (hb79) (gg 21 ?_)
         refine qm 124 (fun b => b = false) ?_ ?_
         · as_aux_lemma =>
           by_cases hc0 : zH T X1.q = 0
           · as_aux_lemma =>
             refine gg 8 ?_
             by_cases h1 : at_ T X1.q = 45
             · as_aux_lemma =>
               refine gg 3 ?_
               refine zx (bp0 omT) rfl ?_
               refine gg 3 ?_
               by_cases h2 : at_ T (X1.q + 1) = 45
               · as_aux_lemma =>
                 refine gg 4 ?_
                 refine zx (bpk omT) rfl ?_
                 refine gg 3 ?_
                 by_cases h3 : at_ T (X1.q + 2) = 45
                 · as_aux_lemma =>
                   refine smv ?_
                   refine smv ?_
                   refine sadc 2 ?_
                   refine six ?_
                   refine zx (bpk omT) rfl ?_
                   refine gg 5 ?_
                   refine sadc 3 ?_
                   refine sca (wb (j := 3) (b := false) hn2 (by have := hb2.len; exact omT) (by
   cases hb : zK (at_ T (X1.q + 3))
   · rfl
   · exact absurd ⟨hc0, h1, h2, h3, hb⟩ hdi)) ?_
                   refine spt ?_
                   refine ze ?_
                   exact zE (b := false) rfl exT rfl
                 · as_aux_lemma =>
                   refine smv ?_
                   refine smv ?_
                   refine sadc 2 ?_
                   refine six ?_
                   refine zx (bpk omT) rfl ?_
                   refine gg 9 ?_
                   exact zE (b := false) rfl exT rfl
               · as_aux_lemma =>
                 refine gg 4 ?_
                 refine zx (bpk omT) rfl ?_
                 refine gg 17 ?_
                 exact zE (b := false) rfl exT rfl
             · as_aux_lemma =>
               refine gg 3 ?_
               refine zx (bp0 omT) rfl ?_
               refine gg 25 ?_
               exact zE (b := false) rfl exT rfl
           · as_aux_lemma =>
             refine gg 37 ?_
             exact zE (b := false) rfl exT rfl
         · as_aux_lemma =>
           rintro b124 hb124
           refine qr rfl (hb124) (gg 3 ?_)
           refine qm 161 (fun b => b = false) ?_ ?_
           · as_aux_lemma =>
             refine gg 6 ?_
             refine sqz (kw rfl rfl rfl) (smv ?_)
             refine wq 133 rfl (fun hs4 => ?_) (fun hs4 => ?_)
             · as_aux_lemma =>
               refine gg 3 ?_
               refine zx (bp0 omT) rfl ?_
               refine gg 25 ?_
               exact zE (b := false) rfl exT rfl
             · as_aux_lemma =>
               refine gg 29 ?_
               exact zE (b := false) rfl exT rfl
           · as_aux_lemma =>
             rintro b161 hb161
             refine qr rfl (hb161) (gg 8 ?_)
             refine zk rfl rfl clT ?_
             intro mb
             first | refine stw rfl rfl ?_ | refine sts rfl rfl ?_
             refine gg 21 ?_
             refine zx (bp0 omT) rfl ?_
             refine gg 24 ?_
             refine sqz (q_makeFunc rfl) (s_defer rfl rfl (gg 8 ?_))
             refine zx (bp0 omT) rfl ?_
             refine gg 18 ?_
             refine zn (bp0 omT) rfl ?_
             refine gg 18 ?_
             refine zn (bp0 omT) rfl ?_
             refine gg 18 ?_
             refine zn (bp0 omT) rfl ?_
             refine gg 18 ?_
             refine zn (bp0 omT) rfl ?_
             refine gg 7 ?_
             by_cases h1 : at_ T X1.q = 45
             · as_aux_lemma =>
               refine zd (kq (E' := [(1, pV pb), (2, pV tb)]) suT (Wk.refl _) (gg 10 ?_))
               refine zn (bp0 omT) rfl ?_
               refine gg 11 ?_
               refine dca (wb (j := 1) (b := false) hn2 (by have := hb2.len; exact omT) (h45 h1)) ?_
               refine gg 18 ?_
               refine zn (bp0 omT) rfl ?_
               refine gg 37 ?_
               refine zn (bp0 omT) rfl ?_
               refine gg 37 ?_
               refine zn (bp0 omT) rfl ?_
               refine gg 18 ?_
               refine zn (bp0 omT) rfl ?_
               refine gg 18 ?_
               refine zn (bp0 omT) rfl ?_
               refine gg 18 ?_
               refine zn (bp0 omT) rfl ?_
               refine gg 25 ?_
               refine zn (bp0 omT) rfl ?_
               refine gg 25 ?_
               refine zn (bp0 omT) rfl ?_
               refine gg 18 ?_
               refine zn (bp0 omT) rfl ?_
               refine gg 8 ?_
               refine kq (E' := [(1, pV pb), (2, pV tb)]) suT (Wk.refl _) (kM zF kR ?_)
               dsimp only [List.append]
               refine gg 8 ?_
               refine dca (qZ (b := false) hn2 (hb2.lt omT) (hbz)) ?_
               refine gg 10 ?_
               refine zn (bp0 omT) rfl ?_
               refine gg 15 ?_
               refine kH [(503, _), (1, _), (2, _)] ⟨rfl, rfl, rfl, trivial⟩ ?_
               refine gg 26 ?_
               refine kH [(529, _), (1, _), (2, _)] ⟨rfl, rfl, rfl, trivial⟩ ?_
               refine gg 26 ?_
               refine kH [(555, _), (1, _), (2, _)] ⟨rfl, rfl, rfl, trivial⟩ ?_
               refine gg 26 ?_
               refine kH [(581, _), (1, _), (2, _)] ⟨rfl, rfl, rfl, trivial⟩ ?_
               refine gg 26 ?_
               refine kH [(607, _), (1, _), (2, _)] ⟨rfl, rfl, rfl, trivial⟩ ?_
               refine gg 26 ?_
               refine kH [(633, _), (1, _), (2, _)] ⟨rfl, rfl, rfl, trivial⟩ ?_
               refine gg 26 ?_
               refine kH [(659, _), (1, _), (2, _)] ⟨rfl, rfl, rfl, trivial⟩ ?_
               refine gg 26 ?_
               refine kH [(685, _), (1, _), (2, _)] ⟨rfl, rfl, rfl, trivial⟩ ?_
               refine gg 26 ?_
               refine kH [(711, _), (1, _), (2, _)] ⟨rfl, rfl, rfl, trivial⟩ ?_
               refine gg 24 ?_
               refine zn (bp0 omT) rfl ?_
               refine gg 11 ?_
               refine dca (k_blank (j := 1) (b := false) hn2 (by have := hb2.len; exact omT) (blank_of_z (h45 h1))) ?_
               refine dnt ?_
               refine dpt ?_
               refine kH [(726, _), (750, _), (1, _), (2, _)] ⟨rfl, rfl, rfl, rfl, trivial⟩ ?_
               refine gg 32 ?_
               refine kH [(752, _), (758, _), (782, _), (1, _), (2, _)] ⟨rfl, rfl, rfl, rfl, rfl, trivial⟩ ?_
               refine gg 21 ?_
               refine za rfl rfl rfl (fps_ok L T { X1 with r := r2, nl := X1.nl, q := X1.q } e q' he hir hqe hal hz hdi hq' hgap hstop hlnn1) ?_
               rintro _ _ ⟨rfl, X2, b, c, rfl, k1, k2, k3, k4, k5⟩
               refine lS ?_
               refine gg 5 ?_
               obtain ⟨pre, hpre⟩ := k1.pre
               refine lf_wk (E' := [(2, pV tb)]) (H' := FnB L.p tb pb mb X1.q (lnT T X1.q) (zH T X1.q) (SH L T X2)) suT (Wk.toT (CH T X2.J X2.C ++ XH X2.V X2.J) [tb, pb, mb, L.p, L.bb, L.rb, L.ib, 0, X2.tkb, X2.skb, X2.mpb] wlT) ?_
               refine lf_defer (clo_ok L T X2 tb pb mb X1.q (lnT T X1.q) (zH T X1.q) he k1.si (by rw [hpre]; simp) (fun t ht => by
                 rcases k1.mem t ht with h | h
                 · exact (htl t (htl1 ▸ h)).2.1
                 · rw [h]; show (21 : Int) ≠ 14; decide)) ?_
               rintro _ _ ⟨rfl, r9, nl9, q9, C9, cn9, J9, rfl, i1, i2, i3, i4⟩
               refine lS ?_
               exact endcDw rfl rfl rfl rfl rfl (Wk.toT (CH T J9 C9 ++ XH X2.V J9) [L.p, L.bb, L.rb, L.ib, 0, X2.tkb, X2.skb, X2.mpb] wlT) ⟨rfl, { X2 with r := r9, nl := nl9, q := q9, C := C9, cn := cn9, J := J9 }, _, rfl, (k1.pre' hX2 hjr).post i1 i4, ⟨rfl, rfl, b, c, by simp [tvSc], k3, by simpa using k4, k5⟩, by dsimp only; rw [i2, k2], fun h => by cases h⟩
             · as_aux_lemma =>
               refine zd (kq (E' := [(1, pV pb), (2, pV tb)]) suT (Wk.refl _) (gg 10 ?_))
               refine zn (bp0 omT) rfl ?_
               refine gg 30 ?_
               refine zn (bp0 omT) rfl ?_
               refine gg 37 ?_
               refine zn (bp0 omT) rfl ?_
               refine gg 37 ?_
               refine zn (bp0 omT) rfl ?_
               refine gg 18 ?_
               refine zn (bp0 omT) rfl ?_
               refine gg 18 ?_
               refine zn (bp0 omT) rfl ?_
               refine gg 18 ?_
               refine zn (bp0 omT) rfl ?_
               refine gg 25 ?_
               refine zn (bp0 omT) rfl ?_
               refine gg 25 ?_
               refine zn (bp0 omT) rfl ?_
               refine gg 18 ?_
               refine zn (bp0 omT) rfl ?_
               refine gg 8 ?_
               refine kq (E' := [(1, pV pb), (2, pV tb)]) suT (Wk.refl _) (kM zF kR ?_)
               dsimp only [List.append]
               refine gg 8 ?_
               refine dca (qZ (b := false) hn2 (hb2.lt omT) (hbz)) ?_
               refine gg 10 ?_
               refine zn (bp0 omT) rfl ?_
               refine gg 12 ?_
               refine zn (bp0 omT) rfl ?_
               refine deq0 ?_
               refine dpf ?_
               refine kH [(503, _), (1, _), (2, _)] ⟨rfl, rfl, rfl, trivial⟩ ?_
               refine gg 10 ?_
               refine zn (bp0 omT) rfl ?_
               refine gg 12 ?_
               refine zn (bp0 omT) rfl ?_
               refine deq0 ?_
               refine dpf ?_
               refine kH [(529, _), (1, _), (2, _)] ⟨rfl, rfl, rfl, trivial⟩ ?_
               refine gg 10 ?_
               refine zn (bp0 omT) rfl ?_
               refine gg 12 ?_
               refine zn (bp0 omT) rfl ?_
               refine deq0 ?_
               refine dpf ?_
               refine kH [(555, _), (1, _), (2, _)] ⟨rfl, rfl, rfl, trivial⟩ ?_
               refine gg 10 ?_
               refine zn (bp0 omT) rfl ?_
               refine gg 12 ?_
               refine zn (bp0 omT) rfl ?_
               refine deq0 ?_
               refine dpf ?_
               refine kH [(581, _), (1, _), (2, _)] ⟨rfl, rfl, rfl, trivial⟩ ?_
               refine gg 10 ?_
               refine zn (bp0 omT) rfl ?_
               refine gg 12 ?_
               refine zn (bp0 omT) rfl ?_
               refine deq0 ?_
               refine dpf ?_
               refine kH [(607, _), (1, _), (2, _)] ⟨rfl, rfl, rfl, trivial⟩ ?_
               refine gg 10 ?_
               refine zn (bp0 omT) rfl ?_
               refine gg 12 ?_
               refine zn (bp0 omT) rfl ?_
               refine deq0 ?_
               refine dpf ?_
               refine kH [(633, _), (1, _), (2, _)] ⟨rfl, rfl, rfl, trivial⟩ ?_
               refine gg 10 ?_
               refine zn (bp0 omT) rfl ?_
               refine gg 12 ?_
               refine zn (bp0 omT) rfl ?_
               refine deq0 ?_
               refine dpf ?_
               refine kH [(659, _), (1, _), (2, _)] ⟨rfl, rfl, rfl, trivial⟩ ?_
               refine gg 10 ?_
               refine zn (bp0 omT) rfl ?_
               refine gg 12 ?_
               refine zn (bp0 omT) rfl ?_
               refine deq0 ?_
               refine dpf ?_
               refine kH [(685, _), (1, _), (2, _)] ⟨rfl, rfl, rfl, trivial⟩ ?_
               refine gg 10 ?_
               refine zn (bp0 omT) rfl ?_
               refine gg 12 ?_
               refine zn (bp0 omT) rfl ?_
               refine deq0 ?_
               refine dpf ?_
               refine kH [(711, _), (1, _), (2, _)] ⟨rfl, rfl, rfl, trivial⟩ ?_
               refine gg 10 ?_
               refine zn (bp0 omT) rfl ?_
               refine gg 28 ?_
               refine kH [(726, _), (750, _), (1, _), (2, _)] ⟨rfl, rfl, rfl, rfl, trivial⟩ ?_
               refine gg 32 ?_
               refine kH [(752, _), (758, _), (782, _), (1, _), (2, _)] ⟨rfl, rfl, rfl, rfl, rfl, trivial⟩ ?_
               refine gg 21 ?_
               refine za rfl rfl rfl (fps_ok L T { X1 with r := r2, nl := X1.nl, q := X1.q } e q' he hir hqe hal hz hdi hq' hgap hstop hlnn1) ?_
               rintro _ _ ⟨rfl, X2, b, c, rfl, k1, k2, k3, k4, k5⟩
               refine lS ?_
               refine gg 5 ?_
               obtain ⟨pre, hpre⟩ := k1.pre
               refine lf_wk (E' := [(2, pV tb)]) (H' := FnB L.p tb pb mb X1.q (lnT T X1.q) (zH T X1.q) (SH L T X2)) suT (Wk.toT (CH T X2.J X2.C ++ XH X2.V X2.J) [tb, pb, mb, L.p, L.bb, L.rb, L.ib, 0, X2.tkb, X2.skb, X2.mpb] wlT) ?_
               refine lf_defer (clo_ok L T X2 tb pb mb X1.q (lnT T X1.q) (zH T X1.q) he k1.si (by rw [hpre]; simp) (fun t ht => by
                 rcases k1.mem t ht with h | h
                 · exact (htl t (htl1 ▸ h)).2.1
                 · rw [h]; show (21 : Int) ≠ 14; decide)) ?_
               rintro _ _ ⟨rfl, r9, nl9, q9, C9, cn9, J9, rfl, i1, i2, i3, i4⟩
               refine lS ?_
               exact endcDw rfl rfl rfl rfl rfl (Wk.toT (CH T J9 C9 ++ XH X2.V J9) [L.p, L.bb, L.rb, L.ib, 0, X2.tkb, X2.skb, X2.mpb] wlT) ⟨rfl, { X2 with r := r9, nl := nl9, q := q9, C := C9, cn := cn9, J := J9 }, _, rfl, (k1.pre' hX2 hjr).post i1 i4, ⟨rfl, rfl, b, c, by simp [tvSc], k3, by simpa using k4, k5⟩, by dsimp only; rw [i2, k2], fun h => by cases h⟩
     · as_aux_lemma =>
       have hbz : zK (at_ T X1.q) = false := by simp [zK]; omega
       refine gg 10 ?_
       refine dca (b_z (b := false) hn2 (hb2.lt omT) (by first | assumption | (unfold zB; first | exact decide_eq_true omT | exact decide_eq_false omT))) ?_
       refine gg 6 ?_
       refine qm 79 (fun b => b = false) ?_ ?_
       · as_aux_lemma =>
         refine gg 6 ?_
         refine dqz (kw rfl rfl rfl) (dmv ?_)
         refine dq_split 67 rfl (fun hs5 => ?_) (fun hs5 => ?_)
         · as_aux_lemma =>
           refine gg 9 ?_
           refine zn (bp0 omT) rfl ?_
           refine gg 3 ?_
           exact zE (b := false) rfl exT rfl
         · as_aux_lemma =>
           refine gg 13 ?_
           exact zE (b := false) rfl exT rfl
       · as_aux_lemma =>
         rintro b79 hb79
         refine qr rfl (hb79) (gg 21 ?_)
         refine qm 124 (fun b => b = false) ?_ ?_
         · as_aux_lemma =>
           by_cases hc0 : zH T X1.q = 0
           · as_aux_lemma =>
             refine gg 11 ?_
             refine zx (bp0 omT) rfl ?_
             refine gg 25 ?_
             exact zE (b := false) rfl exT rfl
           · as_aux_lemma =>
             refine gg 37 ?_
             exact zE (b := false) rfl exT rfl
         · as_aux_lemma =>
           rintro b124 hb124
           refine qr rfl (hb124) (gg 3 ?_)
           refine qm 161 (fun b => b = false) ?_ ?_
           · as_aux_lemma =>
             refine gg 6 ?_
             refine sqz (kw rfl rfl rfl) (smv ?_)
             refine wq 133 rfl (fun hs6 => ?_) (fun hs6 => ?_)
             · as_aux_lemma =>
               refine gg 3 ?_
               refine zx (bp0 omT) rfl ?_
               refine gg 25 ?_
               exact zE (b := false) rfl exT rfl
             · as_aux_lemma =>
               refine gg 29 ?_
               exact zE (b := false) rfl exT rfl
           · as_aux_lemma =>
             rintro b161 hb161
             refine qr rfl (hb161) (gg 8 ?_)
             refine zk rfl rfl clT ?_
             intro mb
             first | refine stw rfl rfl ?_ | refine sts rfl rfl ?_
             refine gg 21 ?_
             refine zx (bp0 omT) rfl ?_
             refine gg 24 ?_
             refine sqz (q_makeFunc rfl) (s_defer rfl rfl (gg 8 ?_))
             refine zx (bp0 omT) rfl ?_
             refine gg 18 ?_
             refine zn (bp0 omT) rfl ?_
             refine gg 18 ?_
             refine zn (bp0 omT) rfl ?_
             refine gg 18 ?_
             refine zn (bp0 omT) rfl ?_
             refine gg 18 ?_
             refine zn (bp0 omT) rfl ?_
             refine gg 8 ?_
             refine kq (E' := [(1, pV pb), (2, pV tb)]) suT (Wk.refl _) (gg 10 ?_)
             refine zn (bp0 omT) rfl ?_
             refine gg 30 ?_
             refine zn (bp0 omT) rfl ?_
             refine gg 37 ?_
             refine zn (bp0 omT) rfl ?_
             refine gg 37 ?_
             refine zn (bp0 omT) rfl ?_
             refine gg 18 ?_
             refine zn (bp0 omT) rfl ?_
             refine gg 18 ?_
             refine zn (bp0 omT) rfl ?_
             refine gg 18 ?_
             refine zn (bp0 omT) rfl ?_
             refine gg 25 ?_
             refine zn (bp0 omT) rfl ?_
             refine gg 25 ?_
             refine zn (bp0 omT) rfl ?_
             refine gg 18 ?_
             refine zn (bp0 omT) rfl ?_
             refine gg 7 ?_
             refine za rfl rfl rfl (ffs_ok L T { X1 with r := r2, nl := X1.nl, q := X1.q } e 4 vv he hir hb2 (by decide) h34 hv0 hvl hdq hlnn1) ?_
             rintro _ _ ⟨rfl, X2, b, c, rfl, k1, k2, k3, k4, k5⟩
             refine lS ?_
             refine gg 5 ?_
             obtain ⟨pre, hpre⟩ := k1.pre
             refine lf_wk (E' := [(2, pV tb)]) (H' := FnB L.p tb pb mb X1.q (lnT T X1.q) (zH T X1.q) (SH L T X2)) suT (Wk.toT (CH T X2.J X2.C ++ XH X2.V X2.J) [tb, pb, mb, L.p, L.bb, L.rb, L.ib, 0, X2.tkb, X2.skb, X2.mpb] wlT) ?_
             refine lf_defer (clo_ok L T X2 tb pb mb X1.q (lnT T X1.q) (zH T X1.q) he k1.si (by rw [hpre]; simp) (fun t ht => by
               rcases k1.mem t ht with h | h
               · exact (htl t (htl1 ▸ h)).2.1
               · rw [h]; show (21 : Int) ≠ 14; decide)) ?_
             rintro _ _ ⟨rfl, r9, nl9, q9, C9, cn9, J9, rfl, i1, i2, i3, i4⟩
             refine lS ?_
             exact endcDw rfl rfl rfl rfl rfl (Wk.toT (CH T J9 C9 ++ XH X2.V J9) [L.p, L.bb, L.rb, L.ib, 0, X2.tkb, X2.skb, X2.mpb] wlT) ⟨rfl, { X2 with r := r9, nl := nl9, q := q9, C := C9, cn := cn9, J := J9 }, _, rfl, (k1.pre' hX2 hjr).post i1 i4, ⟨rfl, rfl, b, c, by simp [tvSc], k3, k4, k5⟩, by dsimp only; rw [i2, k2], fun h => by cases h⟩
end Go.Proofs.YtnfbcfflkphbiaaGreatDoor
