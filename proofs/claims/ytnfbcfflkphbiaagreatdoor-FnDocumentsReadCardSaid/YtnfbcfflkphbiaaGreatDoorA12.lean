/-
  Texts of the proof, joined: F3 F4 F5 F6. No Go text.
-/
import Derived.Test.YtnfbcfflkphbiaaGreatDoorA01
import Derived.Test.YtnfbcfflkphbiaaGreatDoorA08
import Derived.Test.YtnfbcfflkphbiaaGreatDoorA09
import Derived.Test.YtnfbcfflkphbiaaGreatDoorA11
namespace Go.Proofs.YtnfbcfflkphbiaaGreatDoor
open Go Go.Proofs Tryz
set_option linter.all false
set_option maxRecDepth 100000
set_option maxHeartbeats 8000000
theorem is_bom_pf {bb n m sz hi c : Nat} {f : Nat → Value} {i : Int} (h0 : 0 < hi) (h1 : 0 < n) (hc : f 0 = .int .u8 ((c : Nat) : Int)) (ha : c < 128) :
  PF prog 165 [.slice (some ⟨bb, 0, none⟩) n m, .int .i64 i] [(bb, .win 5 sz 0 hi f)] (.bool false) := by
 refine zW func165 rfl rfl rfl ?_
 intro w
 refine gg 8 ?_
 refine sqz (zy (i := 0) rfl rfl rfl omT rfl) (sqz (q_loadw rfl omT omT hc) (gg 17 ?_))
 exact zV rfl rfl
theorem b_bom {L : Lay} {T : List Nat} {s : PS} {i : Int} (hn : Inv L T s) (hlt : s.r.pos < s.r.blen) : PF prog 165 [.slice (some ⟨L.bb, 0, none⟩) s.r.blen 1536, .int .i64 i] [BB L T s] (.bool false) :=
 is_bom_pf (c := at_ T (s.q - s.r.pos)) omT omT (by simp [bf]) (hn.lt128 _)
theorem comS_n {C : Option (Nat × Nat)} {cn : Nat} (h : (C = none ∧ cn = 0) ∨ ∃ b c, C = some (b, c) ∧ cn ≤ c ∧ c ≤ 9223372036854775807) : (comS C cn).n = cn := by
 rcases h with ⟨rfl, rfl⟩ | ⟨b, c, rfl, _⟩ <;> rfl
instance {A B r : zl} : qX (A ++ (B ++ r)) (A ++ B) r := ⟨by rw [List.append_assoc]⟩
theorem Inv.ska {L : Lay} {T : List Nat} {s : PS} (b : Bool) (h : Inv L T s) : Inv L T { s with ska := b } := by
 obtain ⟨small, asc, icap, qlen, nlq, pq, pbl, slack, bl, unl, rp, rl, offl, ip, ipl, eofi, enc, e_⟩ := h
 exact ⟨small, asc, icap, qlen, nlq, pq, pbl, slack, bl, unl, rp, rl, offl, ip, ipl, eofi, enc, e_⟩
theorem stn_ok (L : Lay) (T : List Nat) (X : SS) (he : Eof L) (hi : SI L T X) (h1 : 1 ≤ X.tl.length) (htl : ∀ t ∈ X.tl, t.typ ≠ 7 ∧ t.typ ≠ 15 ∧ t.typ ≠ 17) :
  Fn prog 140 [pV L.p] (SH L T X)
   (fun v H' => v = .bool true ∧ ∃ r nl ska C cn J, H' = SH L T { X with r := r, nl := nl, q := sk T X.q, ska := ska, C := C, cn := cn, J := J } ∧ SI L T { X with r := r, nl := nl, q := sk T X.q, ska := ska, C := C, cn := cn, J := J } ∧ JLe X.J J) := by
 have hsml := hi.sml
 have htkc := hi.tkc
 have htlc := hi.tlc
 obtain ⟨tvB, hB⟩ : ∃ t, X.tl[X.tl.length - 1]? = some t := ⟨_, List.getElem?_eq_getElem omT⟩
 have hBt := htl tvB (List.mem_of_getElem? hB)
 refine zo func140 rfl rfl rfl ?_
 intro w
 refine gg 11 ?_
 refine zk rfl rfl clT ?_
 intro b3
 first | refine stw rfl rfl ?_ | refine sts rfl rfl ?_
 refine gg 4 ?_
 refine zw (σ := RS × Nat × Nat × Bool × Option (Nat × Nat) × Nat × JL) (fun _ => [(0, pV L.p), (3, pV b3)]) (fun x => (RH L T { zc { X with ska := x.2.2.2.1, C := x.2.2.2.2.1, cn := x.2.2.2.2.2.1, J := x.2.2.2.2.2.2 } with r := x.1, nl := x.2.1, q := x.2.2.1 } ((b3, .cs 57 [.int .i64 X.q, .int .i64 (lnT T X.q), .int .i64 (zH T X.q)] []) :: TKB T X :: SKB X :: MPB X :: (CH T x.2.2.2.2.2.2 x.2.2.2.2.1 ++ XH X.V x.2.2.2.2.2.2)))) (fun x => SI L T { X with r := x.1, nl := x.2.1, q := x.2.2.1, ska := x.2.2.2.1, C := x.2.2.2.2.1, cn := x.2.2.2.2.2.1, J := x.2.2.2.2.2.2 } ∧ sk T x.2.2.1 = sk T X.q ∧ X.q ≤ x.2.2.1 ∧ JLe X.J x.2.2.2.2.2.2) (fun x => T.length - x.2.2.1) (X.r, X.nl, X.q, X.ska, X.C, X.cn, X.J) ⟨hi, rfl, Nat.le_refl _, JLe.refl _⟩ suT (Wk.toT (CH T X.J X.C ++ XH X.V X.J) [L.p, L.bb, L.rb, L.ib, 0, b3, X.tkb, X.skb, X.mpb] wlT) ?_
 rintro ⟨r, nl, q, ska, C, cn, J⟩ ⟨hs, hsk, hq, hj⟩
 dsimp only at hs hsk hq hj
 have hinv : Inv L T { zc { X with ska := ska, C := C, cn := cn, J := J } with r := r, nl := nl, q := q } := hs.inv
 have hcom := hs.com
 dsimp only at hcom
 refine zt (RH L T { zc { X with ska := ska, C := C, cn := cn, J := J } with r := r, nl := nl, q := q } ((b3, .cs 57 [.int .i64 X.q, .int .i64 (lnT T X.q), .int .i64 (zH T X.q)] []) :: TKB T X :: SKB X :: MPB X :: (CH T J C ++ XH X.V J))) [(0, pV L.p), (3, pV b3)] rfl rfl ?_
 refine kf ?_
 refine zR { zc { X with ska := ska, C := C, cn := cn, J := J } with r := r, nl := nl, q := q } 1 hinv (fun hlt => ?_) (fun hlt => ?_) (fun r1 hn1 hb1 => ?_)
 ·
  refine gg 16 ?_
  exact zq hinv hlt exT
 ·
  refine gg 9 ?_
  refine za rfl rfl rfl (kc L T { zc { X with ska := ska, C := C, cn := cn, J := J } with r := r, nl := nl, q := q } 1 he (.inl hinv) hlt omT) ?_
  rintro _ _ ⟨rfl, r1, h1, h2, h3, rfl⟩
  refine lS ?_
  refine gg 6 ?_
  exact zr h1 h2 h3 exT
 ·
  replace hn1 : Inv L T { zc { X with ska := ska, C := C, cn := cn, J := J } with r := r1, nl := nl, q := q } := hn1
  replace hb1 : Rdy T { zc { X with ska := ska, C := C, cn := cn, J := J } with r := r1, nl := nl, q := q } 1 := hb1
  refine zt (RH L T { zc { X with ska := ska, C := C, cn := cn, J := J } with r := r1, nl := nl, q := q } _) _ rfl rfl ?_
  have hl1 : r1.pos + 1 ≤ r1.blen := hb1.len
  have hpq1 : r1.pos ≤ q := hn1.pq
  have hbl1 : r1.blen ≤ 1536 := hn1.bl
  refine zd ?_
  refine qm 37 (fun b => b = false) ?_ ?_
  ·
   refine gg 6 ?_
   refine dqz (kw rfl rfl rfl) (dmv ?_)
   refine dq_split 27 rfl (fun hs2 => ?_) (fun hs2 => ?_)
   ·
    refine gg 8 ?_
    refine dca (b_bom hn1 (hb1.lt omT)) ?_
    refine dpt ?_
    refine wg ?_
    exact zE (b := false) rfl exT rfl
   ·
    refine gg 11 ?_
    exact zE (b := false) rfl exT rfl
  ·
   rintro b37 hb37
   refine qr rfl (hb37) (kQ (zf ?_))
   refine zR { zc { X with ska := ska, C := C, cn := cn, J := J } with r := r1, nl := nl, q := q } 1 hn1 (fun hlt => ?_) (fun hlt => ?_) (fun r3 hn3 hb3 => ?_)
   ·
    refine gg 16 ?_
    exact zq hn1 hlt exT
   ·
    refine gg 9 ?_
    refine za rfl rfl rfl (kc L T { zc { X with ska := ska, C := C, cn := cn, J := J } with r := r1, nl := nl, q := q } 1 he (.inl hn1) hlt omT) ?_
    rintro _ _ ⟨rfl, r3, h1, h2, h3, rfl⟩
    refine lS ?_
    refine gg 6 ?_
    exact zr h1 h2 h3 exT
   ·
    replace hn3 : Inv L T { zc { X with ska := ska, C := C, cn := cn, J := J } with r := r3, nl := nl, q := q } := hn3
    replace hb3 : Rdy T { zc { X with ska := ska, C := C, cn := cn, J := J } with r := r3, nl := nl, q := q } 1 := hb3
    refine zt (RH L T { zc { X with ska := ska, C := C, cn := cn, J := J } with r := r3, nl := nl, q := q } _) _ rfl rfl ?_
    have hl3 : r3.pos + 1 ≤ r3.blen := hb3.len
    have hpq3 : r3.pos ≤ q := hn3.pq
    have hbl3 : r3.blen ≤ 1536 := hn3.bl
    refine zd (kf ?_)
    refine zw (σ := RS × Nat × Nat) (fun _ => [(0, pV L.p), (3, pV b3)]) (fun x => (RH L T { zc { X with ska := ska, C := C, cn := cn, J := J } with r := x.1, nl := x.2.1, q := x.2.2 } ((b3, .cs 57 [.int .i64 X.q, .int .i64 (lnT T X.q), .int .i64 (zH T X.q)] []) :: TKB T X :: SKB X :: MPB X :: (CH T J C ++ XH X.V J)))) (fun x => Inv L T { zc { X with ska := ska, C := C, cn := cn, J := J } with r := x.1, nl := x.2.1, q := x.2.2 } ∧ Rdy T { zc { X with ska := ska, C := C, cn := cn, J := J } with r := x.1, nl := x.2.1, q := x.2.2 } 1 ∧ q ≤ x.2.2 ∧ sk T x.2.2 = sk T q) (fun x => T.length - x.2.2) (r3, nl, q) ⟨hn3, hb3, Nat.le_refl _, rfl⟩ suT (Wk.toT (CH T J C ++ XH X.V J) [L.p, L.bb, L.rb, L.ib, 0, b3, X.tkb, X.skb, X.mpb] wlT) ?_
    rintro ⟨r5, nl5, q5⟩ ⟨hn5, hb5, hq5, hsk5⟩
    dsimp only at hq5 hsk5
    replace hn5 : Inv L T { zc { X with ska := ska, C := C, cn := cn, J := J } with r := r5, nl := nl5, q := q5 } := hn5
    replace hb5 : Rdy T { zc { X with ska := ska, C := C, cn := cn, J := J } with r := r5, nl := nl5, q := q5 } 1 := hb5
    refine zt (RH L T { zc { X with ska := ska, C := C, cn := cn, J := J } with r := r5, nl := nl5, q := q5 } ((b3, .cs 57 [.int .i64 X.q, .int .i64 (lnT T X.q), .int .i64 (zH T X.q)] []) :: TKB T X :: SKB X :: MPB X :: (CH T J C ++ XH X.V J))) [(0, pV L.p), (3, pV b3)] rfl rfl ?_
    have hl5 := hb5.len
    have hpq5 := hn5.pq
    dsimp only at hl5 hpq5
    have hn9 : at_ T q5 ≠ 9 ∧ at_ T q5 ≠ 13 := by
     by_cases hx : q5 < T.length
     · have := hn5.asc _ (at_mem hx); omega
     · rw [qS omT]; decide
    refine zd ?_
    refine qm 87 (fun b => b = decide (at_ T q5 = 32)) ?_ ?_
    ·
     by_cases h32 : at_ T q5 = 32
     ·
       refine kM zF kR (gg 9 ?_)
       refine zn (bp0 omT) rfl ?_
       refine gg 29 ?_
       exact zE (b := true) rfl exT (decide_eq_true h32).symm
     ·
       refine kM zF kR (gg 9 ?_)
       refine zn (bp0 omT) rfl ?_
       refine gg 15 ?_
       refine dq_split 74 rfl (fun hs4 => ?_) (fun hs4 => ?_)
       ·
        refine gg 9 ?_
        refine zn (bp0 omT) rfl ?_
        refine gg 4 ?_
        exact zE (b := false) rfl exT (decide_eq_false h32).symm
       ·
        refine gg 14 ?_
        exact zE (b := false) rfl exT (decide_eq_false h32).symm
    ·
     rintro b87 hb87
     refine kg rfl (fun hc => ?_) (fun hc => ?_)
     ·
       have h32 : at_ T q5 = 32 := of_decide_eq_true (hb87.symm.trans hc)
       have h5l : q5 < T.length := kS omT
       refine gg 6 ?_
       refine za rfl rfl rfl (kG L T { zc { X with ska := ska, C := C, cn := cn, J := J } with r := r5, nl := nl5, q := q5 } 1 hn5 hb5 omT omT omT) ?_
       rintro _ _ ⟨rfl, r5, nl5, hn5, hb5, rfl⟩
       replace hn5 : Inv L T { zc { X with ska := ska, C := C, cn := cn, J := J } with r := r5, nl := nl5, q := (q5 + 1) } := hn5
       replace hb5 : Rdy T { zc { X with ska := ska, C := C, cn := cn, J := J } with r := r5, nl := nl5, q := (q5 + 1) } 0 := hb5
       refine lS ?_
       have hl5 : r5.pos + 0 ≤ r5.blen := hb5.len
       have hpq5 : r5.pos ≤ (q5 + 1) := hn5.pq
       have hbl5 : r5.blen ≤ 1536 := hn5.bl
       refine ze ?_
       refine zf (zD L T { zc { X with ska := ska, C := C, cn := cn, J := J } with r := r5, nl := nl5, q := (q5 + 1) } ?_)
       refine ki { zc { X with ska := ska, C := C, cn := cn, J := J } with r := r5, nl := nl5, q := (q5 + 1) } 1 hn5 (fun hlt => ?_) (fun hlt => ?_) (fun r6 hn6 hb6 => ?_)
       ·
        refine gg 16 ?_
        exact zq hn5 hlt exT
       ·
        refine gg 9 ?_
        refine za rfl rfl rfl (kc L T { zc { X with ska := ska, C := C, cn := cn, J := J } with r := r5, nl := nl5, q := (q5 + 1) } 1 he (.inl hn5) hlt omT) ?_
        rintro _ _ ⟨rfl, r6, h1, h2, h3, rfl⟩
        refine lS ?_
        refine gg 6 ?_
        exact zr h1 h2 h3 exT
       ·
        replace hn6 : Inv L T { zc { X with ska := ska, C := C, cn := cn, J := J } with r := r6, nl := nl5, q := (q5 + 1) } := hn6
        replace hb6 : Rdy T { zc { X with ska := ska, C := C, cn := cn, J := J } with r := r6, nl := nl5, q := (q5 + 1) } 1 := hb6
        refine qH (RH L T { zc { X with ska := ska, C := C, cn := cn, J := J } with r := r6, nl := nl5, q := (q5 + 1) } _) _ rfl rfl ?_
        have hl6 : r6.pos + 1 ≤ r6.blen := hb6.len
        have hpq6 : r6.pos ≤ (q5 + 1) := hn6.pq
        have hbl6 : r6.blen ≤ 1536 := hn6.bl
        refine kJ ?_
        exact zh (r6, nl5, (q5 + 1)) ⟨hn6, hb6, omT, (by dsimp only; rw [← hsk5, sk_step h5l (.inl h32)])⟩ omT suT (Wk.toT (CH T J C ++ XH X.V J) [L.p, L.bb, L.rb, L.ib, 0, b3, X.tkb, X.skb, X.mpb] wlT)
     ·
       have h32 : at_ T q5 ≠ 32 := of_decide_eq_false (hb87.symm.trans hc)
       refine gg 5 ?_
       refine zL (σ := Unit) (fun _ => [(0, pV L.p), (3, pV b3)]) (fun _ => (RH L T { zc { X with ska := ska, C := C, cn := cn, J := J } with r := r5, nl := nl5, q := q5 } ((b3, .cs 57 [.int .i64 X.q, .int .i64 (lnT T X.q), .int .i64 (zH T X.q)] []) :: TKB T X :: SKB X :: MPB X :: (CH T J C ++ XH X.V J)))) (fun _ => True) ?_ ?_
       ·
        by_cases hcm : 0 < cn
        ·
         have hcn9 := comS_n hcom
         refine gg 9 ?_
         by_cases htl2 : 1 < X.tl.length
         ·
          refine gg 9 ?_
          rcases hcom with ⟨h9, _⟩ | ⟨cb, ck, rfl, hck, hck2⟩
          · omega
          obtain ⟨tvA, hA⟩ : ∃ t, X.tl[X.tl.length - 2]? = some t := ⟨_, List.getElem?_eq_getElem omT⟩
          have hAt := htl tvA (List.mem_of_getElem? hA)
          refine ev_cond1 rfl (zd ?_)
          refine ke (fun i => i == 12 || i == 13) (fun i => i == 13) ([PB L T { zc { X with ska := ska, C := (some (cb, ck)), cn := cn, J := J } with r := r5, nl := nl5, q := q5 }, TKB T X]) zF ?_
          refine mqh 0 rfl kR rfl rfl (fun _ => zj rfl) ?_
          refine mqh 1 rfl kR rfl rfl (fun _ => zJ rfl) ?_
          refine mqh 2 rfl kR rfl rfl (fun _ => zM rfl) ?_
          refine mqh 3 rfl kR rfl rfl (fun _ => zp rfl rfl rfl rfl) ?_
          refine mqh 4 rfl kR rfl rfl (fun _ => zj rfl) ?_
          refine mqh 5 rfl kR rfl rfl (fun _ => zJ rfl) ?_
          refine mqh 6 rfl kR rfl rfl (fun _ => zM rfl) ?_
          refine mqh 7 rfl kR rfl rfl (fun _ => zp rfl rfl rfl rfl) ?_
          refine mqh 8 rfl kR rfl rfl (fun _ => q_len rfl) ?_
          refine mqh 9 rfl kR rfl rfl (fun _ => q_subn (b := 2) rfl rfl omT) ?_
          refine mqh 10 rfl kR rfl rfl (fun _ => zy rfl rfl rfl omT rfl) ?_
          refine mqh 11 rfl kR rfl rfl (fun _ => q_ldtok (T := T) (tl := X.tl) (i := X.tl.length - 2) rfl omT hA) ?_
          refine mql 12 rfl kR (fun hcl => ?_)
          refine zk rfl rfl clT ?_
          intro ab
          refine mqn 12 hcl ?_
          refine mql 13 rfl kR (fun hcl => ?_)
          first | refine stw rfl rfl ?_ | refine sts rfl rfl ?_
          refine zO 13 rfl kR (zf (zd ?_))
          refine ke (fun i => i == 12 || i == 13) (fun i => i == 13) ([PB L T { zc { X with ska := ska, C := (some (cb, ck)), cn := cn, J := J } with r := r5, nl := nl5, q := q5 }, TKB T X]) zF ?_
          refine mqh 0 rfl kR rfl rfl (fun _ => zj rfl) ?_
          refine mqh 1 rfl kR rfl rfl (fun _ => zJ rfl) ?_
          refine mqh 2 rfl kR rfl rfl (fun _ => zM rfl) ?_
          refine mqh 3 rfl kR rfl rfl (fun _ => zp rfl rfl rfl rfl) ?_
          refine mqh 4 rfl kR rfl rfl (fun _ => zj rfl) ?_
          refine mqh 5 rfl kR rfl rfl (fun _ => zJ rfl) ?_
          refine mqh 6 rfl kR rfl rfl (fun _ => zM rfl) ?_
          refine mqh 7 rfl kR rfl rfl (fun _ => zp rfl rfl rfl rfl) ?_
          refine mqh 8 rfl kR rfl rfl (fun _ => q_len rfl) ?_
          refine mqh 9 rfl kR rfl rfl (fun _ => q_subn (b := 1) rfl rfl omT) ?_
          refine mqh 10 rfl kR rfl rfl (fun _ => zy rfl rfl rfl omT rfl) ?_
          refine mqh 11 rfl kR rfl rfl (fun _ => q_ldtok (T := T) (tl := X.tl) (i := X.tl.length - 1) rfl omT hB) ?_
          refine mql 12 rfl kR (fun hcl => ?_)
          refine zk rfl rfl clT ?_
          intro bb
          refine mqn 12 hcl ?_
          refine mql 13 rfl kR (fun hcl => ?_)
          first | refine stw rfl rfl ?_ | refine sts rfl rfl ?_
          refine zO 13 rfl kR (gg 13 ?_)
          refine dqz (zy rfl rfl rfl omT rfl) (gg 7 ?_)
          refine deq0 (h := ?_) (hc := hAt.1)
          refine gg 29 ?_
          exact zg () trivial suT (Wk.toT (CH T J (some (cb, ck)) ++ XH X.V J) [L.p, L.bb, L.rb, L.ib, 0, b3, X.tkb, X.skb, X.mpb] wlT)
         ·
          refine gg 11 ?_
          exact zg () trivial suT (Wk.toT (CH T J C ++ XH X.V J) [L.p, L.bb, L.rb, L.ib, 0, b3, X.tkb, X.skb, X.mpb] wlT)
        ·
         have hcn9 := comS_n hcom
         refine gg 20 ?_
         exact zg () trivial suT (Wk.toT (CH T J C ++ XH X.V J) [L.p, L.bb, L.rb, L.ib, 0, b3, X.tkb, X.skb, X.mpb] wlT)
       ·
        rintro - -
        refine zt (RH L T { zc { X with ska := ska, C := C, cn := cn, J := J } with r := r5, nl := nl5, q := q5 } ((b3, .cs 57 [.int .i64 X.q, .int .i64 (lnT T X.q), .int .i64 (zH T X.q)] []) :: TKB T X :: SKB X :: MPB X :: (CH T J C ++ XH X.V J))) [(0, pV L.p), (3, pV b3)] rfl rfl ?_
        have hs5 : SI L T { X with r := r5, nl := nl5, q := q5, ska := ska, C := C, cn := cn, J := J } := hs.move (r := r5) (nl := nl5) (q := q5) hn5 hq5
        refine zL (σ := RS × Nat × Nat × Option (Nat × Nat) × Nat × JL) (fun _ => [(0, pV L.p), (3, pV b3)]) (fun x => (RH L T { zc { X with ska := ska, C := x.2.2.2.1, cn := x.2.2.2.2.1, J := x.2.2.2.2.2 } with r := x.1, nl := x.2.1, q := x.2.2.1 } ((b3, .cs 57 [.int .i64 X.q, .int .i64 (lnT T X.q), .int .i64 (zH T X.q)] []) :: TKB T X :: SKB X :: MPB X :: (CH T x.2.2.2.2.2 x.2.2.2.1 ++ XH X.V x.2.2.2.2.2)))) (fun x => SI L T { X with r := x.1, nl := x.2.1, q := x.2.2.1, ska := ska, C := x.2.2.2.1, cn := x.2.2.2.2.1, J := x.2.2.2.2.2 } ∧ sk T x.2.2.1 = sk T q ∧ q ≤ x.2.2.1 ∧ JLe J x.2.2.2.2.2 ∧ (at_ T x.2.2.1 ≠ 32 ∧ at_ T x.2.2.1 ≠ 35) ∧ Rdy T { zc { X with ska := ska, C := x.2.2.2.1, cn := x.2.2.2.2.1, J := x.2.2.2.2.2 } with r := x.1, nl := x.2.1, q := x.2.2.1 } 1) ?_ ?_
        ·
         by_cases h35 : at_ T q5 = 35
         ·
          refine gg 11 ?_
          refine zn (bp0 omT) rfl ?_
          refine gg 8 ?_
          refine za rfl rfl rfl (scm_ok L T { X with r := r5, nl := nl5, q := q5, ska := ska, C := C, cn := cn, J := J } X.q (lnT T X.q) (zH T X.q) tvB he hs5 h35 hB hBt.2.1 hBt.2.2) ?_
          rintro _ _ ⟨rfl, r8, nl8, q8, C8, cn8, J8, rfl, hs8, hsk8, hq8, hbr8, hrd8, hj8⟩
          simp only [List.cons_append, List.append_assoc, List.append_nil]
          refine gg 5 ?_
          have h8 : at_ T q8 ≠ 32 ∧ at_ T q8 ≠ 35 := by omega
          exact zg (r8, nl8, q8, C8, cn8, J8) ⟨hs8, hsk8.trans hsk5, by dsimp only at hq8 ⊢; omega, hj8, h8, hrd8⟩ suT (Wk.toT (CH T J8 C8 ++ XH X.V J8) [L.p, L.bb, L.rb, L.ib, 0, b3, X.tkb, X.skb, X.mpb] wlT)
         ·
          refine gg 11 ?_
          refine zn (bp0 omT) rfl ?_
          refine gg 5 ?_
          exact zg (r5, nl5, q5, C, cn, J) ⟨hs5, hsk5, hq5, JLe.refl _, ⟨h32, h35⟩, hb5⟩ suT (Wk.toT (CH T J C ++ XH X.V J) [L.p, L.bb, L.rb, L.ib, 0, b3, X.tkb, X.skb, X.mpb] wlT)
        ·
         rintro ⟨r6, nl6, q6, C6, cn6, J6⟩ ⟨hs6, hsk6, hq6, hj6, hb6, hrd6⟩
         dsimp only at hs6 hsk6 hq6 hj6 hb6
         replace hrd6 : Rdy T { zc { X with ska := ska, C := C6, cn := cn6, J := J6 } with r := r6, nl := nl6, q := q6 } 1 := hrd6
         have hinv6 : Inv L T { zc { X with ska := ska, C := C6, cn := cn6, J := J6 } with r := r6, nl := nl6, q := q6 } := hs6.inv
         refine zt (RH L T { zc { X with ska := ska, C := C6, cn := cn6, J := J6 } with r := r6, nl := nl6, q := q6 } ((b3, .cs 57 [.int .i64 X.q, .int .i64 (lnT T X.q), .int .i64 (zH T X.q)] []) :: TKB T X :: SKB X :: MPB X :: (CH T J6 C6 ++ XH X.V J6))) [(0, pV L.p), (3, pV b3)] rfl rfl ?_
         have hn9 : at_ T q6 ≠ 9 ∧ at_ T q6 ≠ 13 := by
          by_cases hx : q6 < T.length
          · have := hinv6.asc _ (at_mem hx); omega
          · rw [qS omT]; decide
         by_cases h10 : at_ T q6 = 10
         ·
          have h6l : q6 < T.length := kS omT
          refine gg 10 ?_
          refine dca (qN (b := true) hinv6 (hrd6.lt omT) (by first | assumption | (unfold qo; first | exact decide_eq_true omT | exact decide_eq_false omT))) ?_
          refine gg 3 ?_
          refine zR { zc { X with ska := ska, C := C6, cn := cn6, J := J6 } with r := r6, nl := nl6, q := q6 } 2 hinv6 (fun hlt => ?_) (fun hlt => ?_) (fun r7 hn7 hb7 => ?_)
          ·
            refine gg 16 ?_
            exact zq hinv6 hlt exT
          ·
            refine gg 9 ?_
            refine za rfl rfl rfl (kc L T { zc { X with ska := ska, C := C6, cn := cn6, J := J6 } with r := r6, nl := nl6, q := q6 } 2 he (.inl hinv6) hlt omT) ?_
            rintro _ _ ⟨rfl, r7, h1, h2, h3, rfl⟩
            refine lS ?_
            refine gg 6 ?_
            exact zr h1 h2 h3 exT
          ·
            replace hn7 : Inv L T { zc { X with ska := ska, C := C6, cn := cn6, J := J6 } with r := r7, nl := nl6, q := q6 } := hn7
            replace hb7 : Rdy T { zc { X with ska := ska, C := C6, cn := cn6, J := J6 } with r := r7, nl := nl6, q := q6 } 2 := hb7
            refine zt (RH L T { zc { X with ska := ska, C := C6, cn := cn6, J := J6 } with r := r7, nl := nl6, q := q6 } _) _ rfl rfl ?_
            have hl7 : r7.pos + 2 ≤ r7.blen := hb7.len
            have hpq7 : r7.pos ≤ q6 := hn7.pq
            have hbl7 : r7.blen ≤ 1536 := hn7.bl
            refine gg 3 ?_
            refine za rfl rfl rfl (qG L T { zc { X with ska := ska, C := C6, cn := cn6, J := J6 } with r := r7, nl := nl6, q := q6 } 2 hn7 hb7 omT omT omT) ?_
            rintro _ _ ⟨rfl, r8, nl8, hn8, hb8, rfl⟩
            replace hn8 : Inv L T { zc { X with ska := ska, C := C6, cn := cn6, J := J6 } with r := r8, nl := nl8, q := (q6 + 1) } := hn8
            replace hb8 : Rdy T { zc { X with ska := ska, C := C6, cn := cn6, J := J6 } with r := r8, nl := nl8, q := (q6 + 1) } 1 := hb8
            refine lS ?_
            have hl8 : r8.pos + 1 ≤ r8.blen := hb8.len
            have hpq8 : r8.pos ≤ (q6 + 1) := hn8.pq
            have hbl8 : r8.blen ≤ 1536 := hn8.bl
            refine ze ?_
            refine zf (zD L T { zc { X with ska := ska, C := C6, cn := cn6, J := J6 } with r := r8, nl := nl8, q := (q6 + 1) } (gg 17 ?_))
            have hs9 : SI L T { X with r := r8, nl := nl8, q := (q6 + 1), ska := ska, C := C6, cn := cn6, J := J6 } := hs6.move (r := r8) (nl := nl8) (q := q6 + 1) hn8 (by dsimp only; omega)
            have hs7 : SI L T { X with r := r8, nl := nl8, q := (q6 + 1), ska := true, C := C6, cn := cn6, J := J6 } := ⟨hs9.inv.ska true, hs9.sml, hs9.tlc, hs9.tkc, hs9.thl, hs9.tpl, hs9.skc, hs9.cnq, hs9.cmh, hs9.com, hs9.jh, hs9.jl, hs9.jf⟩
            exact zh (r8, nl8, q6 + 1, true, C6, cn6, J6) ⟨hs7, by dsimp only; rw [← sk_step h6l (.inr h10), hsk6, hsk], omT, hj.trans hj6⟩ omT suT (Wk.toT (CH T J6 C6 ++ XH X.V J6) [L.p, L.bb, L.rb, L.ib, 0, b3, X.tkb, X.skb, X.mpb] wlT)
         ·
          refine gg 10 ?_
          refine dca (qN (b := false) hinv6 (hrd6.lt omT) (by first | assumption | (unfold qo; first | exact decide_eq_true omT | exact decide_eq_false omT))) ?_
          refine gg 14 ?_
          have hst : sk T X.q = q6 := by rw [← hsk, ← hsk6]; exact sk_stop hb6.1 h10 hb6.2
          exact zm (H' := SH L T { X with r := r6, nl := nl6, q := q6, ska := ska, C := C6, cn := cn6, J := J6 }) rfl rfl (Wk.toT (CH T J6 C6 ++ XH X.V J6) [L.p, L.bb, L.rb, L.ib, 0, X.tkb, X.skb, X.mpb] wlT) ⟨rfl, r6, nl6, ska, C6, cn6, J6, by rw [hst], by rw [hst]; exact hs6, hj.trans hj6⟩
section
variable {P : Program} {n : Nat} {ds : List Deferred} {pu : Bool} {w0 : World} {D : List Nat} {H H' : zl} {E : Env} {ops : Array Oper} {Q : Exit → Act → World → Prop} {rest : List Oper} {c : Code}
variable {d : Option Nat} {ty : TypeId} {ps : String} {af : Array Edge} {g : Option (Nat × Bool)} {x y : Operand}
theorem l_copyb {t t2 e sz bs b dl dc m b2 o2 sl sc k : Nat} {xs news : List Value} [hs : Slc P t e sz bs] (hx : opv E x = some (.slice (some ⟨b, 0, none⟩) dl dc)) [hh : Has H b (.buf e m xs)]
   (hy : opv E y = some (.slice (some ⟨b2, o2, none⟩) sl sc)) (hk : k = Nat.min sl dl) (hsrc : Src H b2 o2 news) (hl : news.length = k * sz) (hfit : k * sz ≤ m) (h1 : ∀ u ∈ news, u.oneCell' = true)
   [hu : Upd H b (.buf e m news) H'] : L1 P n ds false w0 D H E ⟨d, .call ⟨.builtin .copy, #[x, y], #[t, t2]⟩, ty, ps, af, g⟩ (.int .i64 k) H' := by
 intro a w he hw
 obtain ⟨l, k0, r, rfl, rfl⟩ := hu.is
 have hk0 := kZ hw.hok.nodup hh.mem
 subst hk0
 obtain ⟨hut, i, hi, hsz, _⟩ := hs.is
 subst hsz
 obtain ⟨ob, ho, hok⟩ := hw.hok.ok _ _ hh.mem
 unfold Blk.ok at hok
 simp only [Blk.isRaw, Blk.type, Blk.fr, Blk.len, Blk.known] at hok
 obtain ⟨cur, rfl, hcs, _, hcell⟩ := hok
 have hf := run_firstCells_some (P := P) w i.size k ⟨b2, o2, none⟩ sl sc news hl (fun j u hj => by rw [kN]; exact hsrc w hw.hok j u hj)
 have hst := run_storeCells_at P b 0 e news 0 cur w ho (by rw [hl, hcs]; omega) h1
 simp only [Nat.add_zero, Nat.zero_add] at hst
 have hrun : (execOp a.eval ⟨d, .call ⟨.builtin .copy, #[x, y], #[t, t2]⟩, ty, ps, af, g⟩).run P w = .ok (.value (.int .i64 k)) (w.setRow b (news ++ cur.toList.drop news.length).toArray) := by
   have hk' : sl.min dl = k := hk.symm
   simp [execOp, resolve, invoke, builtin, he.eval hx, he.eval hy, Builtin.copy_, zv hut, zX hi, Builtin.lenOf, hk', hf, goInt]
   simp at hst
   simp [hst]
 refine ⟨_, .inl hrun, hw.repl rfl rfl rfl (by simp) (fun c' hc' => setRow_other _ _ _ _ hc') (setRow_heap _ _ _ _ _ _ ho) (buf_ok ?_ (by rw [hl]; exact hfit) fun j u hj => ?_)⟩
 · simp only [List.size_toArray, List.length_append, List.length_drop, Array.length_toList, hl]; omega
 · rw [List.getElem?_toArray, List.getElem?_append_left (List.getElem?_eq_some_iff.1 hj).1]
   exact hj
theorem ev_open {t m : Nat} {p : Nat → Value → Prop} {Hr : zl} (b : Nat) [hr : Rem H b (.obj (anyO t m p)) Hr] (h : ∀ l : List Value, l.length = m → (∀ k v, l[k]? = some v → p k v) → EV P n ds pu w0 D c Q ((b, .cs t l []) :: Hr) E) : EV P n ds pu w0 D c Q H E := by
 intro a w he hw
 obtain ⟨l, r, rfl, rfl⟩ := hr.is
 obtain ⟨o, ho, cs, h1, h2, h3⟩ := hw.hok.ok b (.obj (anyO t m p)) (by simp)
 refine h cs.toList (by simpa using h2) (fun k v hk => h3 k v (by simpa using hk)) a w he ?_
 have hf := hw.front
 refine ⟨⟨by simpa using hf.hok.nodup, fun b' k' hm => ?_⟩, hf.kept, fun x hx => ?_, hf.pure⟩
 · rcases List.mem_cons.1 hm with hm | hm
   · cases hm
     exact ⟨o, ho, by rw [h1]; simpa using ok_cs t cs.toList⟩
   · exact hf.hok.ok b' k' (List.mem_cons_of_mem _ hm)
 · rcases List.mem_cons.1 hx with rfl | hx
   · exact hf.own (b, .obj (anyO t m p)) (List.mem_cons_self ..)
   · exact hf.own x (List.mem_cons_of_mem _ hx)
theorem like_cso_any {t m : Nat} {l : List Value} {ov : List (Nat × Value)} {p : Nat → Value → Prop} (h : l.length = m) (hp : ∀ k v, k < m → (Blk.cs t l ov).cell k = some v → p k v) : (Blk.cs t l ov).like (.obj (anyO t m p)) := by
 intro o ho
 unfold Blk.ok at ho
 simp only [Blk.isRaw, Blk.type, Blk.fr, Blk.len, Blk.known] at ho
 obtain ⟨c, h1, h2, _, h3⟩ := ho
 refine ⟨c, h1, by omega, fun k v hk => ?_⟩
 have hlt : k < m := by have := (Array.getElem?_eq_some_iff.1 hk).1; omega
 refine hp k v hlt ?_
 rw [← h3 k (Nat.zero_le _) omT]
 exact hk
end
theorem wt {t m : Nat} {xs ys : List Value} (h : ∀ (j : Nat) (u : Value), ys[j]? = some u → xs[j]? = some u) : (Blk.buf t m xs).like (.buf t m ys) := by
 intro o ho
 unfold Blk.ok at ho
 simp only [Blk.isRaw, Blk.type, Blk.fr, Blk.len, Blk.known] at ho
 obtain ⟨c, h1, h2, h3, h4⟩ := ho
 subst h1
 have hle : ys.length ≤ xs.length := by
  by_cases hy : ys.length = 0
  · omega
  · have := h (ys.length - 1) ys[ys.length - 1] (List.getElem?_eq_getElem omT)
    have := (List.getElem?_eq_some_iff.1 this).1
    omega
 refine buf_ok h2 omT fun j u hj => ?_
 have hx := h j u hj
 rw [h4 j (Nat.zero_le _) (List.getElem?_eq_some_iff.1 hx).1]
 exact hx
theorem tlC_drop (T : List Nat) : ∀ (tl : List TV) (i : Nat), (tlC T tl).drop (i * 14) = tlC T (tl.drop i)
 | tl, 0 => by simp
 | [], i + 1 => by simp [tlC]
 | t :: r, i + 1 => by
  have := tlC_drop T r i
  simp only [tlC, List.flatMap_cons, List.drop_succ_cons] at *
  rw [← this, List.drop_append, wh, List.drop_eq_nil_of_le (by rw [wh]; omega)]
  rw [show (i + 1) * 14 - 14 = i * 14 by omega]
  rfl
theorem tlC_one (T : List Nat) (tl : List TV) : ∀ u ∈ tlC T tl, u.oneCell' = true := by
 intro u hu
 obtain ⟨t, _, h⟩ := List.mem_flatMap.1 hu
 exact tvC_one T t u h
theorem ins_ok (L : Lay) (T : List Nat) (X : SS) (b : Nat) (tv : TV) (h1 : X.tl.length ≤ X.tkc) (h2 : X.tkc ≤ 9223372036854775807) (h3 : X.th ≤ X.tl.length) (h4 : X.tl.length < 1000000) :
  Fn prog 164 [pV L.p, .int .i64 (-1), pV b] [PB L T (zc X), TKB T X, (b, .cs 163 (tvC T tv) [])]
   (fun v H' => v = .tuple #[] ∧ ∃ tkb tkc tl th, tl.drop th = X.tl.drop X.th ++ [tv] ∧ th ≤ X.th ∧ th ≤ tl.length ∧ tl.length ≤ tkc ∧ tkc ≤ 9223372036854775807 ∧ tl ≠ [] ∧ (∃ pre, tl = pre ++ [tv]) ∧ (∀ t ∈ tl, t ∈ X.tl ∨ t = tv) ∧
    H' = [PB L T (zc { X with tkb := tkb, tkc := tkc, tl := tl, th := th }), TKB T { X with tkb := tkb, tkc := tkc, tl := tl, th := th }]) := by
 refine zo func164 rfl rfl rfl ?_
 intro w
 refine zL (σ := List TV × Nat) (fun _ => [(0, pV L.p), (1, .int .i64 (-1)), (2, pV b)]) (fun x => [PB L T (zc { X with tl := x.1, th := x.2 }), TKB T { X with tl := x.1, th := x.2 }, (b, .cs 163 (tvC T tv) [])]) (fun x => x.1.drop x.2 = X.tl.drop X.th ∧ x.2 ≤ X.th ∧ x.2 ≤ x.1.length ∧ x.1.length ≤ X.tl.length ∧ (∀ t ∈ x.1, t ∈ X.tl)) ?_ ?_
 ·
  by_cases hth : 0 < X.th
  ·
   refine gg 8 ?_
   by_cases hfull : X.tl.length = X.tkc
   ·
    refine gg 16 ?_
    by_cases hne : X.th = X.tl.length
    ·
     refine gg 18 ?_
     refine zU 18 zF kR (gg 14 ?_)
     refine dqz (qto (q_subn rfl rfl omT) (vi (by dsimp only; rw [List.length_drop] : _ = (((X.tl.drop X.th).length : Nat) : Int)))) ?_
     refine dqz (qc rfl rfl (by rw [List.length_drop]; exact omT)) ?_
     refine gg 12 ?_
     have hd : X.tl.drop X.th = [] := by rw [hne]; simp
     exact zg (X.tl.drop X.th, 0) ⟨rfl, omT, omT, by simp, fun t h => List.mem_of_mem_drop h⟩ suT (Wk.to [L.p, X.tkb, b] (by exact ⟨rfl, .inr (Blk.like_rec kR), rfl, .inr (wt (by intro j u h; simp [hd, tlC] at h)), rfl, .inl rfl, trivial⟩))
    ·
     refine gg 15 ?_
     refine zU 13 zF kR (gg 12 ?_)
     refine dqz (q_sl_l rfl rfl omT omT) (qW ?_)
     refine sl rfl rfl (l_copyb (k := X.tl.length - X.th) (news := tlC T (X.tl.drop X.th)) rfl rfl (Nat.min_eq_left omT).symm (zN (k := .buf 163 (X.tkc * 14) (tlC T X.tl)) (Nat.zero_le _) (by simp only [Blk.known, qV, List.length_drop]; exact omT) (fun j u hj => by simp only [Blk.cell, nth]; rw [← tlC_drop, List.getElem?_drop] at hj; simpa using hj)) (by rw [qV, List.length_drop]) omT (tlC_one T _)) ?_
     refine gg 3 ?_
     refine zU 18 zF kR (gg 14 ?_)
     refine dqz (qto (q_subn rfl rfl omT) (vi (by dsimp only; rw [List.length_drop] : _ = (((X.tl.drop X.th).length : Nat) : Int)))) ?_
     refine dqz (qc rfl rfl (by rw [List.length_drop]; exact omT)) ?_
     refine gg 12 ?_
     exact zg (X.tl.drop X.th, 0) ⟨rfl, omT, omT, by simp, fun t h => List.mem_of_mem_drop h⟩ suT (Wk.to [L.p, X.tkb, b] (by exact ⟨rfl, .inr (Blk.like_rec kR), rfl, .inl rfl, rfl, .inl rfl, trivial⟩))
   ·
    refine gg 16 ?_
    exact zg (X.tl, X.th) ⟨rfl, Nat.le_refl _, h3, Nat.le_refl _, fun t h => h⟩ suT (Wk.refl _)
  ·
   refine gg 24 ?_
   exact zg (X.tl, X.th) ⟨rfl, Nat.le_refl _, h3, Nat.le_refl _, fun t h => h⟩ suT (Wk.refl _)
 ·
  rintro ⟨tl, th⟩ ⟨g1, g2, g3, g4, g5⟩
  dsimp only at g1 g2 g3 g4 g5
  refine zt [PB L T (zc { X with tl := tl, th := th }), TKB T { X with tl := tl, th := th }, (b, .cs 163 (tvC T tv) [])] [(0, pV L.p), (1, .int .i64 (-1)), (2, pV b)] rfl rfl (zd ?_)
  refine ke (fun i => i == 8 || i == 9 || i == 12) (fun i => i == 12) ([PB L T (zc { X with tl := tl, th := th }), (b, .cs 163 (tvC T tv) [])]) zF ?_
  refine mqh 0 rfl kR rfl rfl (fun _ => zj rfl) ?_
  refine mqh 1 rfl kR rfl rfl (fun _ => zj rfl) ?_
  refine mqh 2 rfl kR rfl rfl (fun _ => zJ rfl) ?_
  refine mqh 3 rfl kR rfl rfl (fun _ => zM rfl) ?_
  refine mqh 4 rfl kR rfl rfl (fun _ => zp rfl rfl rfl rfl) ?_
  refine mq 5 rfl kR rfl rfl (zj rfl) ?_
  refine mq 6 rfl kR rfl rfl (zJ rfl) ?_
  refine mq 7 rfl kR rfl rfl (zG rfl rfl rfl rfl) ?_
  refine mql 8 rfl kR (fun hcl => ?_)
  refine kV (l := [_, _, _, _, _, _, _, _, _, _, _, _, _, _]) (zs := [zI, zI, zI, zI, zI, zI, zI, zI, zS, zS, zS, .int .i8 0, .int .i8 0, .int .i8 0]) [0] rfl rfl rfl rfl kR rfl rfl ?_
  intro nb
  refine mqn 8 hcl ?_
  refine mql 9 rfl kR (fun hcl => ?_)
  refine zY (sz := 14) (n0 := tl.length) (mm := X.tkc * 14) (xs := tlC T tl) (news := tvC T tv) rfl rfl rfl rfl rfl (qV T tl) omT h2 rfl (zN (k := .cs 163 (tvC T tv) []) (Nat.le_refl _) (Nat.le_refl _) (fun j u hj => by simp only [Blk.cell, look, nth, Nat.zero_add]; exact hj)) rfl (tvC_one T tv) omT omT ?_
  intro tkb2 tkc2 hk1 hk2
  have hL : tl.length + 1 = (tl ++ [tv]).length := by simp
  have hC : tlC T tl ++ tvC T tv = tlC T (tl ++ [tv]) := by simp [tlC]
  rw [hL, hC]
  rw [hL] at hk1
  refine mqn 9 hcl (mq 10 rfl kR rfl rfl (zJ rfl) ?_)
  refine mq 11 rfl kR rfl rfl (zM rfl) ?_
  refine mql 12 rfl kR (fun hcl => ?_)
  refine st1 rfl rfl ?_
  refine zO 12 rfl kR (gg 11 ?_)
  exact end0w rfl (Wk.to [L.p, tkb2] (by exact ⟨rfl, .inr (Blk.like_rec kR), rfl, .inl rfl, trivial⟩)) ⟨rfl, tkb2, tkc2, tl ++ [tv], th, by rw [List.drop_append_of_le_length g3, g1], g2, by simp; omega, hk1, hk2, by simp, ⟨tl, rfl⟩, fun t h => by rcases List.mem_append.1 h with h | h; exact .inl (g5 t h); exact .inr (by simpa using h), rfl⟩
section
variable {P : Program} {n : Nat} {ds : List Deferred} {pu : Bool} {w0 : World} {D : List Nat} {H H' : zl} {E : Env} {ops : Array Oper} {Q : Exit → Act → World → Prop} {K : Act → World → Prop} {rest : List Oper}
variable {ty : TypeId} {ps : String} {af : Array Edge} {g : Option (Nat × Bool)} {x y : Operand}
theorem s_mdeln {t kt et b : Nat} {z : Int} (ht : P.underlying t = some (.map kt et)) (hk : P.underlying kt = some (.int .i64)) (hg : gd ops E g = some true) (hx : opv E x = some (.map (some b))) (hy : opv E y = some (.int .i64 z)) [hh : Has H b (.obj mapO)]
   (h : SQ P n ds false w0 D ops Q K H E rest) : SQ P n ds false w0 D ops Q K H E (⟨none, .call ⟨.builtin .delete, #[x, y], #[t, kt]⟩, ty, ps, af, g⟩ :: rest) := by
 refine s_genn hg fun a w he hw => ?_
 obtain ⟨o, ho, es, clock, rfl, hes⟩ := hw.hok.ok _ _ hh.mem
 have hkey : MapKept.IsKey (.int .i64) (.int .i64 z) := by simp [MapKept.IsKey]
 rcases MapKept.findNow_spec hkey es.toList 0 (mapO_keys hes) with ⟨h3, _⟩ | ⟨j, e, h3, h4, h5⟩
 · exact ⟨{ w with heap := w.heap.setIfInBounds b (.map es clock) }, H, .inr ⟨.tuple #[], by simp [execOp, resolve, invoke, builtin, he.eval hx, he.eval hy, Builtin.delete_, run_underlying ht, MapKept.run_getObj_map ho, MapKept.run_checkKey hk hkey, MapKept.run_findKey hk h3, MapKept.run_setObj_map _ ho, Result.andThen]⟩, mapO_set hw hh.mem ho hes, h⟩
 · refine ⟨{ w with heap := w.heap.setIfInBounds b (.map (es.eraseIdxIfInBounds (0 + j)) clock) }, H, .inr ⟨.tuple #[], by simp [execOp, resolve, invoke, builtin, he.eval hx, he.eval hy, Builtin.delete_, run_underlying ht, MapKept.run_getObj_map ho, MapKept.run_checkKey hk hkey, MapKept.run_findKey hk h3, MapKept.run_setObj_map _ ho, Result.andThen]⟩, mapO_set hw hh.mem ho (fun e he' => hes e ?_), h⟩
   have hs' : (es.eraseIdxIfInBounds (0 + j)).toList.Sublist es.toList := by
    unfold Array.eraseIdxIfInBounds
    split
    · simp only [Array.toList_eraseIdx]; exact List.eraseIdx_sublist _ _
    · exact List.Sublist.refl _
   exact hs'.subset (by simpa using he')
end
abbrev skC (pb : Bool) (z1 z2 z3 z4 : Int) (rest : List Value) : List Value := .bool pb :: .bool false :: .int .i64 z1 :: .int .i64 z2 :: .int .i64 z3 :: .int .i64 z4 :: rest
theorem sk_cases {l : List Value} {c : Nat} {pf : Bool} (hl : l.length = c * 6) (hc : 1 ≤ c) (hp : ∀ k v, l[k]? = some v → SKP pf k v) : ∃ pb z1 z2 z3 z4 rest, l = skC pb z1 z2 z3 z4 rest ∧ (pf = true → pb = false) ∧ rest.length + 6 = c * 6 ∧ ∀ k v, rest[k]? = some v → SKP pf (k + 6) v := by
 match l, hl, hp with
 | v0 :: v1 :: v2 :: v3 :: v4 :: v5 :: rest, hl, hp =>
  obtain ⟨a0, a1, _, _⟩ := hp 0 v0 rfl
  obtain ⟨_, _, b1, _⟩ := hp 1 v1 rfl
  obtain ⟨_, _, _, c1⟩ := hp 2 v2 rfl
  obtain ⟨_, _, _, d1⟩ := hp 3 v3 rfl
  obtain ⟨_, _, _, e1⟩ := hp 4 v4 rfl
  obtain ⟨_, _, _, f1⟩ := hp 5 v5 rfl
  obtain ⟨pb, rfl⟩ := a1 rfl
  obtain rfl := b1 rfl
  obtain ⟨z1, rfl⟩ := c1 (by decide)
  obtain ⟨z2, rfl⟩ := d1 (by decide)
  obtain ⟨z3, rfl⟩ := e1 (by decide)
  obtain ⟨z4, rfl⟩ := f1 (by decide)
  exact ⟨pb, z1, z2, z3, z4, rest, rfl, fun h => (by simpa using a0 rfl h), by simpa using hl, fun k v h => hp (k + 6) v (by simpa using h)⟩
 | [], hl, _ => simp at hl; omega
 | [_], hl, _ => simp at hl; omega
 | [_, _], hl, _ => simp at hl; omega
 | [_, _, _], hl, _ => simp at hl; omega
 | [_, _, _, _], hl, _ => simp at hl; omega
 | [_, _, _, _, _], hl, _ => simp at hl; omega
theorem skp_first {pb pf : Bool} {z1 z2 z3 z4 : Int} (h : pf = true → pb = false) : ∀ j u, (skC pb z1 z2 z3 z4 [])[j]? = some u → SKP pf j u := by
 intro j u hj
 have hlt := (List.getElem?_eq_some_iff.1 hj).1
 simp only [List.length_cons, List.length_nil] at hlt
 rcases (show j = 0 ∨ j = 1 ∨ j = 2 ∨ j = 3 ∨ j = 4 ∨ j = 5 by omega) with rfl | rfl | rfl | rfl | rfl | rfl <;> obtain rfl := (Option.some.inj hj).symm
 · exact ⟨fun _ hp => (by rw [h hp]), fun _ => ⟨pb, rfl⟩, fun h => (by cases h), fun h => absurd h (by decide)⟩
 · exact ⟨fun h => (by cases h), fun h => (by cases h), fun _ => rfl, fun h => absurd h (by decide)⟩
 all_goals exact ⟨fun h => (by cases h), fun h => (by cases h), fun h => (by cases h), fun _ => ⟨_, rfl⟩⟩
theorem SKP.weak {pf : Bool} {k : Nat} {v : Value} (h : SKP pf k v) : SKP false k v := ⟨fun _ h => (by cases h), h.2⟩
theorem SKP.strong {pf pf' : Bool} {k : Nat} {v : Value} (h : SKP pf (k + 6) v) : SKP pf' (k + 6) v := ⟨fun h => omT, h.2⟩
theorem like_sk {c : Nat} {pb pf pf' : Bool} {z1 z2 z3 z4 : Int} {rest : List Value} {t : TypeId} (hl : rest.length + 6 = c * 6) (hr : ∀ k v, rest[k]? = some v → SKP pf (k + 6) v) (h : pf' = true → pb = false) : (Blk.cs t (skC pb z1 z2 z3 z4 rest) []).like (.obj (anyO t (c * 6) (SKP pf'))) := by
 refine like_cso_any (by simpa using hl) fun k v hk hv => ?_
 simp only [Blk.cell, look, nth] at hv
 by_cases h6 : k < 6
 · refine skp_first h (z1 := z1) (z2 := z2) (z3 := z3) (z4 := z4) k v ?_
   have e : skC pb z1 z2 z3 z4 rest = skC pb z1 z2 z3 z4 [] ++ rest := rfl
   rw [e, List.getElem?_append_left (by simpa using h6)] at hv
   exact hv
 · obtain ⟨j, rfl⟩ : ∃ j, k = j + 6 := ⟨k - 6, by omega⟩
   exact (hr j v (by simpa using hv)).strong
theorem like_sk0 {c : Nat} {pb pf pf' : Bool} {z1 z2 z3 z4 : Int} {rest : List Value} {t : TypeId} (hl : rest.length + 6 = c * 6) (hr : ∀ k v, rest[k]? = some v → SKP pf (k + 6) v) : (Blk.cs t (skC pb z1 z2 z3 z4 rest) [(0, .bool false)]).like (.obj (anyO t (c * 6) (SKP pf'))) := by
 have h1 := like_sk (t := t) (pb := false) (pf' := pf') (z1 := z1) (z2 := z2) (z3 := z3) (z4 := z4) hl hr (fun _ => rfl)
 have h2 : (Blk.cs t (skC pb z1 z2 z3 z4 rest) [(0, .bool false)]).like (Blk.cs t (skC false z1 z2 z3 z4 rest) []) := by
  refine Blk.likeS ⟨rfl, rfl, rfl, rfl, rfl, Nat.le_refl _, fun i _ hi => ⟨Nat.zero_le _, hi, ?_⟩⟩
  cases i with
  | zero => rfl
  | succ i => rfl
 exact fun o ho => h1 o (h2 o ho)
theorem unr_ok (L : Lay) (T : List Nat) (X : SS) (z m1 m2 m3 : Int) (hz : -1 ≤ z) :
  Fn prog 141 [pV L.p, .int .i64 z, .agg #[.int .i64 m1, .int .i64 m2, .int .i64 m3]] [PB L T (zc X)] (fun v H' => v = .bool true ∧ H' = [PB L T (zc X)]) := by
 refine zo func141 rfl rfl rfl ?_
 intro w
 refine zd (zi (ku rfl rfl rfl clT ?_))
 intro mb
 refine gg 19 ?_
 refine zk rfl rfl clT ?_
 intro bm
 first | refine stw rfl rfl ?_ | refine sts rfl rfl ?_
 refine gg 6 ?_
 refine sqz (q_sub rfl rfl) (gg 6 ?_)
 refine qg (1) (kn (gg 23 ?_))
 exact zm rfl rfl (Wk.to [L.p] wlT) ⟨rfl, rfl⟩
theorem rsk_ok (L : Lay) (T : List Nat) (X : SS) (h1 : 1 ≤ X.skc) :
  Fn prog 170 [pV L.p] [PB L T (zc X), SKB X, MPB X] (fun v H' => v = .bool true ∧ H' = [PB L T (zc X), SKB { X with pf := true }, MPB X]) := by
 refine zo func170 rfl rfl rfl ?_
 intro w
 refine ev_open X.skb fun l hl hp => ?_
 obtain ⟨pb, z1, z2, z3, z4, rest, rfl, hpf, hrl, hrp⟩ := sk_cases hl h1 hp
 refine gg 24 ?_
 refine sqz (zy (i := 0) rfl rfl rfl omT rfl) (gg 4 ?_)
 refine kg rfl (fun hc => ?_) (fun hc => ?_)
 ·
  refine gg 8 ?_
  refine sqz (zy (i := 0) rfl rfl rfl omT rfl) (gg 14 ?_)
  refine sqz (zy (i := 0) rfl rfl rfl omT rfl) (gg 4 ?_)
  refine zU 12 zF kR (gg 9 ?_)
  refine dqz (zy (i := 0) rfl rfl rfl omT rfl) (gg 3 ?_)
  refine s_mdeln underlying67 underlying3 rfl rfl rfl ?_
  skip
  refine gg 8 ?_
  exact zm rfl rfl (Wk.to [L.p, X.skb, X.mpb] (by exact ⟨rfl, .inl rfl, rfl, .inr (like_sk0 hrl hrp), rfl, .inl rfl, trivial⟩)) ⟨rfl, rfl⟩
 ·
  refine gg 8 ?_
  exact zm rfl rfl (Wk.to [L.p, X.skb, X.mpb] (by exact ⟨rfl, .inl rfl, rfl, .inr (like_sk hrl hrp (fun _ => hc)), rfl, .inl rfl, trivial⟩)) ⟨rfl, rfl⟩
theorem skv_ok (L : Lay) (T : List Nat) (X : SS) (h1 : 1 ≤ X.skc) :
  Fn prog 135 [pV L.p, pV X.skb] [PB L T (zc X), SKB X] (fun v H' => (∃ a, v = .tuple #[.bool a, .bool true] ∧ (X.pf = true → a = false)) ∧ H' = [PB L T (zc X), SKB X]) := by
 refine zo func135 rfl rfl rfl ?_
 intro w
 refine ev_open X.skb fun l hl hp => ?_
 obtain ⟨pb, z1, z2, z3, z4, rest, rfl, hpf, hrl, hrp⟩ := sk_cases hl h1 hp
 refine gg 16 ?_
 refine kg rfl (fun hc => ?_) (fun hc => ?_)
 ·
  refine gg 8 ?_
  exact end2w rfl rfl rfl (Wk.to [L.p, X.skb] (by exact ⟨rfl, .inl rfl, rfl, .inr (like_sk hrl hrp hpf), trivial⟩)) ⟨⟨false, rfl, fun _ => rfl⟩, rfl⟩
 ·
  refine gg 15 ?_
  refine dqz (kw rfl rfl rfl) (dmv ?_)
  refine dq_split 22 rfl (fun hs1 => ?_) (fun hs1 => ?_)
  ·
   refine gg 44 ?_
   exact end2w rfl rfl rfl (Wk.to [L.p, X.skb] (by exact ⟨rfl, .inl rfl, rfl, .inr (like_sk0 hrl hrp), trivial⟩)) ⟨⟨false, rfl, fun _ => rfl⟩, rfl⟩
  ·
   refine gg 5 ?_
   refine dqz (q_add rfl rfl) (gg 5 ?_)
   refine dqz (kw rfl rfl rfl) (gg 3 ?_)
   refine kg rfl (fun hc => ?_) (fun hc => ?_)
   ·
    refine gg 28 ?_
    exact end2w rfl rfl rfl (Wk.to [L.p, X.skb] (by exact ⟨rfl, .inl rfl, rfl, .inr (like_sk0 hrl hrp), trivial⟩)) ⟨⟨false, rfl, fun _ => rfl⟩, rfl⟩
   ·
    refine gg 9 ?_
    have hpb : pb = true := by
     cases pb
     · simp at *
     · rfl
    exact end2w rfl rfl rfl (Wk.to [L.p, X.skb] (by exact ⟨rfl, .inl rfl, rfl, .inr (like_sk hrl hrp hpf), trivial⟩)) ⟨⟨true, rfl, fun h => by have := hpf h; rw [hpb] at this; cases this⟩, rfl⟩
theorem ssk_ok (L : Lay) (T : List Nat) (X : SS) (h1 : 1 ≤ X.skc) (h2 : X.th ≤ X.tl.length) (h3 : X.tl.length ≤ 1000000) :
  Fn prog 174 [pV L.p] [PB L T (zc X), SKB X, MPB X] (fun v H' => v = .bool true ∧ H' = [PB L T (zc X), SKB { X with pf := false }, MPB X]) := by
 refine zo func174 rfl rfl rfl ?_
 intro w
 refine gg 36 ?_
 refine kg rfl (fun hc => ?_) (fun hc => ?_)
 ·
  refine zd ?_
  refine ke (fun i => i == 21 || i == 22) (fun i => i == 22) ([PB L T (zc X)]) zF ?_
  refine mqh 0 rfl kR rfl rfl (fun _ => zj rfl) ?_
  refine mqh 1 rfl kR rfl rfl (fun _ => zj rfl) ?_
  refine mqh 2 rfl kR rfl rfl (fun _ => zJ rfl) ?_
  refine mqh 3 rfl kR rfl rfl (fun _ => zM rfl) ?_
  refine mqh 4 rfl kR rfl rfl (fun _ => zp rfl rfl rfl rfl) ?_
  refine mqh 5 rfl kR rfl rfl (fun _ => zj rfl) ?_
  refine mqh 6 rfl kR rfl rfl (fun _ => zJ rfl) ?_
  refine mqh 7 rfl kR rfl rfl (fun _ => zM rfl) ?_
  refine mqh 8 rfl kR rfl rfl (fun _ => zp rfl rfl rfl rfl) ?_
  refine mqh 9 rfl kR rfl rfl (fun _ => q_len rfl) ?_
  refine mqh 10 rfl kR rfl rfl (fun _ => zj rfl) ?_
  refine mqh 11 rfl kR rfl rfl (fun _ => zJ rfl) ?_
  refine mqh 12 rfl kR rfl rfl (fun _ => zM rfl) ?_
  refine mqh 13 rfl kR rfl rfl (fun _ => zp rfl rfl rfl rfl) ?_
  refine mqh 14 rfl kR rfl rfl (fun _ => q_subn rfl rfl omT) ?_
  refine mqh 15 rfl kR rfl rfl (fun _ => q_add rfl rfl) ?_
  refine mqh 16 rfl kR rfl rfl (fun _ => zj rfl) ?_
  refine mqh 17 rfl kR rfl rfl (fun _ => zJ rfl) ?_
  refine mqh 18 rfl kR rfl rfl (fun _ => zM rfl) ?_
  refine mqh 19 rfl kR rfl rfl (fun _ => zG rfl rfl rfl rfl) ?_
  refine mqh 20 rfl kR rfl rfl (fun _ => zu (l := [_, _, _, _, _, _]) (zs := [.bool false, .bool false, zI, zI, zI, zI]) [0, 1, 2, 3] rfl rfl kR) ?_
  refine mql 21 rfl kR (fun hcl => ?_)
  refine zk rfl rfl clT ?_
  intro kb
  refine mqn 21 hcl ?_
  refine mql 22 rfl kR (fun hcl => ?_)
  first | refine stw rfl rfl ?_ | refine sts rfl rfl ?_
  refine zO 22 rfl kR (gg 5 ?_)
  refine za rfl rfl rfl (rsk_ok L T X h1) ?_
  rintro _ _ ⟨rfl, rfl⟩
  refine lS ?_
  refine gg 7 ?_
  refine zA X.skb (.obj (anyO 202 (X.skc * 6) (SKP false))) (like_any fun k v h => h.weak) ?_
  refine zU 12 zF kR (gg 11 ?_)
  refine dqz (zy (i := 0) rfl rfl rfl omT rfl) (qW ?_)
  refine sln rfl (l_stsany (p := SKP false) (i := 0) (k := 6) rfl rfl rfl rfl omT (by simpa using skp_first (pf := false) (fun h => (by cases h)))) ?_
  refine ze ?_
  refine zf (zU 12 zF kR (gg 13 ?_))
  refine s_mupd underlying67 underlying3 rfl rfl rfl rfl ?_
  skip
  refine gg 8 ?_
  exact zm rfl rfl (Wk.to [L.p, X.skb, X.mpb] wlT) ⟨rfl, rfl⟩
 ·
  refine gg 8 ?_
  exact zm rfl rfl (Wk.to [L.p, X.skb, X.mpb] (by exact ⟨rfl, .inl rfl, rfl, .inr (like_any (q := SKP false) fun k v h => h.weak), rfl, .inl rfl, trivial⟩)) ⟨rfl, rfl⟩
theorem rdl_ok0 (L : Lay) (T : List Nat) (s : PS) (k : Nat) (hn : Inv L T s) (hr : Rdy T s k) (hk : 1 ≤ k) (hq : s.q < T.length) (hlf : at_ T s.q = 10) :
   Fn prog 194 [pV L.p, zS] [PB L T s, BB L T s, RB L T s]
    (fun v H' => ∃ r nl b cap, Inv L T { s with r := r, nl := nl, q := s.q + 1 } ∧ Rdy T { s with r := r, nl := nl, q := s.q + 1 } (k - 1) ∧ 1 ≤ cap ∧ cap ≤ 9223372036854775807 ∧ v = .slice (some ⟨b, 0, none⟩) 1 cap ∧
     H' = [PB L T { s with r := r, nl := nl, q := s.q + 1 }, BB L T { s with r := r, nl := nl, q := s.q + 1 }, RB L T { s with r := r, nl := nl, q := s.q + 1 }, (b, .buf 5 cap (bytes [10]))]) := by
 have hu := hr.un1 hk hq
 have hlt := hr.lt hk
 have hn' := hn
 obtain ⟨small, asc, _, qlen, nlq, hpq, pbl, _, bl, unl⟩ := hn'
 have hlin := lnT_le T s.q
 refine zo func194 rfl rfl rfl ?_
 intro w
 refine gg 30 ?_
 refine zx (bp0 omT) rfl ?_
 refine gg 18 ?_
 refine zx (bp0 omT) rfl ?_
 refine gg 5 ?_
 refine zx (bp0 omT) rfl ?_
 refine gg 9 ?_
 refine kV (l := [_]) (zs := [.int .u8 0]) [0] rfl rfl rfl rfl kR rfl rfl ?_
 intro nb
 refine kr (sz := 1) (z := .int .u8 0) rfl rfl rfl rfl rfl (news := bytes [10]) (zN (k := .cs 5 [.int .u8 10] []) (Nat.le_refl _) (Nat.le_refl _) (fun j u hj => by simpa [Blk.cell, look, nth, bytes] using hj)) rfl (by decide) (by decide) (by decide) ?_
 intro b' cap' h1 h2
 refine gg 83 ?_
 refine zm (H' := [PB L T { s with r := s.r.step, nl := s.nl + 1, q := s.q + 1 }, BB L T { s with r := s.r.step, nl := s.nl + 1, q := s.q + 1 }, RB L T { s with r := s.r.step, nl := s.nl + 1, q := s.q + 1 }, (b', .buf 5 cap' (bytes [10]))]) rfl rfl (Wk.to [L.p, L.bb, L.rb, b'] (by
 refine ⟨rfl, .inr (Blk.like_rec ?_), rfl, .inl ?_, rfl, .inl rfl, rfl, .inl ?_, trivial⟩
 · simp only [qp, colT_nl hlf, lnT_nl hlf]; kernel_rfl
 · simp only [wa, RS.step]
 · rw [Nat.mul_one])) ⟨s.r.step, s.nl + 1, b', cap', hn.one hu hq omT, hr.one hk hq, h1, h2, rfl, rfl⟩
theorem rdl_ok (L : Lay) (T : List Nat) (s : PS) (k : Nat) (Y : List Nat) (b cap : Nat) (hY : Y.length ≤ 1000001) (hc : Y.length ≤ cap) (hcap : cap ≤ 9223372036854775807) (hn : Inv L T s) (hr : Rdy T s k) (hk : 1 ≤ k) (hq : s.q < T.length) (hlf : at_ T s.q = 10) :
   Fn prog 194 [pV L.p, .slice (some ⟨b, 0, none⟩) Y.length cap] [PB L T s, BB L T s, RB L T s, (b, .buf 5 cap (bytes Y))]
    (fun v H' => ∃ r nl b cap, Inv L T { s with r := r, nl := nl, q := s.q + 1 } ∧ Rdy T { s with r := r, nl := nl, q := s.q + 1 } (k - 1) ∧ Y.length + 1 ≤ cap ∧ cap ≤ 9223372036854775807 ∧ v = .slice (some ⟨b, 0, none⟩) (Y.length + 1) cap ∧
     H' = [PB L T { s with r := r, nl := nl, q := s.q + 1 }, BB L T { s with r := r, nl := nl, q := s.q + 1 }, RB L T { s with r := r, nl := nl, q := s.q + 1 }, (b, .buf 5 cap (bytes (Y ++ [10])))]) := by
 have hu := hr.un1 hk hq
 have hlt := hr.lt hk
 have hn' := hn
 obtain ⟨small, asc, _, qlen, nlq, hpq, pbl, _, bl, unl⟩ := hn'
 have hlin := lnT_le T s.q
 refine zo func194 rfl rfl rfl ?_
 intro w
 refine gg 30 ?_
 refine zx (bp0 omT) rfl ?_
 refine gg 18 ?_
 refine zx (bp0 omT) rfl ?_
 refine gg 5 ?_
 refine zx (bp0 omT) rfl ?_
 refine gg 9 ?_
 refine kV (l := [_]) (zs := [.int .u8 0]) [0] rfl rfl rfl rfl kR rfl rfl ?_
 intro nb
 refine zY (sz := 1) (z := .int .u8 0) (mm := cap) (xs := bytes Y) (news := bytes [10]) rfl rfl rfl rfl omT (by simp) hc hcap rfl (zN (k := .cs 5 [.int .u8 10] []) (Nat.le_refl _) (Nat.le_refl _) (fun j u hj => by simpa [Blk.cell, look, nth, bytes] using hj)) rfl (ww _) omT omT ?_
 intro b' cap' h1 h2
 refine gg 83 ?_
 refine zm (H' := [PB L T { s with r := s.r.step, nl := s.nl + 1, q := s.q + 1 }, BB L T { s with r := s.r.step, nl := s.nl + 1, q := s.q + 1 }, RB L T { s with r := s.r.step, nl := s.nl + 1, q := s.q + 1 }, (b', .buf 5 cap' (bytes (Y ++ [10])))]) rfl rfl (Wk.to [L.p, L.bb, L.rb, b'] (by
 refine ⟨rfl, .inr (Blk.like_rec ?_), rfl, .inl ?_, rfl, .inl rfl, rfl, .inl ?_, trivial⟩
 · simp only [qp, colT_nl hlf, lnT_nl hlf]; kernel_rfl
 · simp only [wa, RS.step]
 · rw [qI, Nat.mul_one])) ⟨s.r.step, s.nl + 1, b', cap', hn.one hu hq omT, hr.one hk hq, h1, h2, rfl, rfl⟩
end Go.Proofs.YtnfbcfflkphbiaaGreatDoor
