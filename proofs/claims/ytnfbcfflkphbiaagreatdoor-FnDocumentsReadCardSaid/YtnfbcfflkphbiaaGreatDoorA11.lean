/-
  Texts of the proof, joined: F2. No Go text.
-/
import Derived.Test.YtnfbcfflkphbiaaGreatDoorA01
import Derived.Test.YtnfbcfflkphbiaaGreatDoorA08
import Derived.Test.YtnfbcfflkphbiaaGreatDoorA09
import Derived.Test.YtnfbcfflkphbiaaGreatDoorA10
namespace Go.Proofs.YtnfbcfflkphbiaaGreatDoor
open Go Go.Proofs Tryz
set_option linter.all false
set_option maxRecDepth 100000
set_option maxHeartbeats 8000000
structure CS where
 r : RS
 nl : Nat
 q : Nat
 p : Nat
 re : Bool
 fe : Bool
 ln : Int
 co : Int
 fl : Int
 o : Option (Nat × Nat × List Nat)
 s1 : Int
 s2 : Int
 s3 : Int
 k1 : Int
 k2 : Int
 k3 : Int
 a1 : Int
 a2 : Int
 a3 : Int
 C : Option (Nat × Nat)
 cn : Nat
 J : JL
def TO : Option (Nat × Nat × List Nat) → Value
 | none => zS
 | some (b, c, Y) => .slice (some ⟨b, 0, none⟩) Y.length c
def TOH : Option (Nat × Nat × List Nat) → zl
 | none => []
 | some (b, c, Y) => [(b, .buf 5 c (bytes Y))]
def eP (L : Lay) (b3 b5 b6 b7 : Nat) (c : CS) : Env := [(0, pV L.p), (3, pV b3), (5, pV b5), (6, pV b6), (7, pV b7), (8, zI), (9, .bool c.re), (10, .bool c.fe), (11, .int .i64 c.ln), (12, .int .i64 c.co), (13, TO c.o), (14, .int .i64 c.fl), (15, .int .i64 (c.p : Nat))]
def hC (L : Lay) (T : List Nat) (X : SS) (b3 b5 b6 b7 : Nat) (tv : TV) (c : CS) : zl := (RH L T { zc { X with C := c.C, cn := c.cn } with r := c.r, nl := c.nl, q := c.q } ((b7, .cs 57 [.int .i64 c.a1, .int .i64 c.a2, .int .i64 c.a3] []) :: (b6, .cs 57 [.int .i64 c.k1, .int .i64 c.k2, .int .i64 c.k3] []) :: (b3, .cs 57 [.int .i64 c.s1, .int .i64 c.s2, .int .i64 c.s3] []) :: (b5, .cs 163 (tvC T tv) []) :: TKB T X :: SKB X :: MPB X :: (TOH c.o ++ (CH T c.J c.C ++ XH X.V c.J))))
structure PC (L : Lay) (T : List Nat) (X : SS) (c : CS) : Prop where
 inv : Inv L T { zc { X with C := c.C, cn := c.cn } with r := c.r, nl := c.nl, q := c.q }
 qq : X.q ≤ c.q
 p : c.p ≤ 512
 gap : ∀ i, i < c.p → at_ T (c.q + i) = 32 ∨ at_ T (c.q + i) = 10 ∨ T.length ≤ c.q + i
 skq : sk T c.q = sk T X.q
 one : c.p = 0 → c.q = X.q ∧ c.o = none
 more : 0 < c.p → X.q < c.q ∧ (at_ T c.q = 10 ∨ at_ T c.q = 0)
 rdy : 0 < c.p → Rdy T { zc { X with C := c.C, cn := c.cn } with r := c.r, nl := c.nl, q := c.q } 1
 txt : ∀ b k Y, c.o = some (b, k, Y) → 0 < Y.length ∧ Y.length ≤ k ∧ k ≤ 9223372036854775807 ∧ (∀ x ∈ Y, x < 256) ∧ Y.length ≤ c.q - X.q + (if c.re then 1 else 0) ∧ (c.re = true → 2 ≤ c.p ∧ c.q < T.length)
 j : JLe X.J c.J
 com : (c.C = none ∧ c.cn = 0) ∨ ∃ b k, c.C = some (b, k) ∧ c.cn ≤ k ∧ k ≤ 9223372036854775807
 cn : c.cn + (if c.o.isSome then 1 else 0) ≤ c.q ∧ X.cn ≤ c.cn
structure PZ (L : Lay) (T : List Nat) (X : SS) (c : CS) : Prop where
 p : c.p ≤ 512
 inv : Inv L T { zc { X with C := c.C, cn := c.cn } with r := c.r, nl := c.nl, q := c.q }
 qq : X.q < c.q ∧ (at_ T c.q = 10 ∨ at_ T c.q = 0)
 rdy : Rdy T { zc { X with C := c.C, cn := c.cn } with r := c.r, nl := c.nl, q := c.q } 1
 skq : sk T c.q = sk T X.q
 txt : ∀ b k Y, c.o = some (b, k, Y) → 0 < Y.length ∧ Y.length ≤ k ∧ k ≤ 9223372036854775807 ∧ (∀ x ∈ Y, x < 256) ∧ Y.length ≤ T.length
 j : JLe X.J c.J
 com : (c.C = none ∧ c.cn = 0) ∨ ∃ b k, c.C = some (b, k) ∧ c.cn ≤ k ∧ k ≤ 9223372036854775807
 cn : c.cn + (if c.o.isSome then 1 else 0) ≤ c.q ∧ X.cn ≤ c.cn
theorem PC.pz {L : Lay} {T : List Nat} {X : SS} {c : CS} (h : PC L T X c) (hp : 0 < c.p) : PZ L T X c :=
 ⟨h.p, h.inv, h.more hp, h.rdy hp, h.skq, fun b k Y ho => by
  obtain ⟨h1, h2, h3, h4, h5, h6⟩ := h.txt b k Y ho
  refine ⟨h1, h2, h3, h4, ?_⟩
  have hq := h.inv.qlen
  dsimp only at hq
  cases hr : c.re
  · rw [hr] at h5; simp at h5; omega
  · have := h6 hr; rw [hr] at h5; simp at h5; omega, h.j, h.com, h.cn⟩
theorem PZ.si {L : Lay} {T : List Nat} {X : SS} {c : CS} (hi : SI L T X) (h : PZ L T X c) (ho : c.o = none) : SI L T { X with r := c.r, nl := c.nl, q := c.q, C := c.C, cn := c.cn, J := c.J } := by
 have h1 := h.cn
 rw [ho] at h1
 simp at h1
 refine ⟨h.inv, hi.sml, hi.tlc, hi.tkc, hi.thl, hi.tpl, hi.skc, h1.1, ?_, h.com, ⟨hi.jh.1.mono h.j, hi.jh.2⟩, ⟨hi.jl.1.mono h.j, hi.jl.2⟩, ⟨hi.jf.1.mono h.j, hi.jf.2⟩⟩
 have := hi.cmh
 dsimp only
 omega
theorem Inv.com {L : Lay} {T : List Nat} {X : SS} {r : RS} {nl q : Nat} {C C' : Option (Nat × Nat)} {cn cn' : Nat} (h : Inv L T { zc { X with C := C, cn := cn } with r := r, nl := nl, q := q }) : Inv L T { zc { X with C := C', cn := cn' } with r := r, nl := nl, q := q } := by
 obtain ⟨small, asc, icap, qlen, nlq, pq, pbl, slack, bl, unl, rp, rl, offl, ip, ipl, eofi, enc, e_⟩ := h
 exact ⟨small, asc, icap, qlen, nlq, pq, pbl, slack, bl, unl, rp, rl, offl, ip, ipl, eofi, enc, e_⟩
theorem SI.psx {L : Lay} {T : List Nat} {X : SS} (h : SI L T X) : Inv L T { zc { X with C := X.C, cn := X.cn } with r := X.r, nl := X.nl, q := X.q } := h.inv
theorem Rdy.le {T : List Nat} {s : PS} {j k : Nat} (h : Rdy T s k) (hj : j ≤ k) : Rdy T s j := ⟨by have := h.len; omega, h.un.imp (fun h => by omega) id⟩
theorem PC.next {L : Lay} {T : List Nat} {X : SS} {c : CS} {r : RS} {co : Int} (h : PC L T X c) (hp : c.p < 512) (h0 : 0 < c.p) (hg : at_ T (c.q + c.p) = 32 ∨ at_ T (c.q + c.p) = 10 ∨ T.length ≤ c.q + c.p) (hn : Inv L T { zc { X with C := c.C, cn := c.cn } with r := r, nl := c.nl, q := c.q }) (hr : Rdy T { zc { X with C := c.C, cn := c.cn } with r := r, nl := c.nl, q := c.q } 1) :
   PC L T X { c with r := r, p := c.p + 1, co := co } := by
 refine ⟨hn, h.qq, by dsimp only; omega, fun i hi => ?_, h.skq, fun h => by dsimp only at h; omega, fun _ => h.more h0, fun _ => hr, fun b k Y ho => ?_, h.j, h.com, h.cn⟩
 · dsimp only at hi ⊢
   by_cases e : i = c.p
   · subst e; exact hg
   · exact h.gap i omT
 · obtain ⟨h1, h2, h3, h4, h5, h6⟩ := h.txt b k Y ho
   exact ⟨h1, h2, h3, h4, h5, fun hr => by have := h6 hr; dsimp only; omega⟩
structure PJ (L : Lay) (T : List Nat) (X : SS) (r : RS) (nl q p : Nat) (re fe : Bool) (c : CS) : Prop where
 er : r = c.r
 enl : nl = c.nl
 eq : q = c.q
 ep : p = c.p
 ere : re = c.re
 efe : fe = c.fe
 txt : ∀ b k Y, c.o = some (b, k, Y) → 0 < Y.length ∧ Y.length ≤ k ∧ k ≤ 9223372036854775807 ∧ (∀ x ∈ Y, x < 256) ∧ Y.length ≤ q - X.q + 1 ∧ Y.length ≤ T.length
 j : JLe X.J c.J
 com : (c.C = none ∧ c.cn = 0) ∨ ∃ b k, c.C = some (b, k) ∧ c.cn ≤ k ∧ k ≤ 9223372036854775807
 cn : c.cn + (if c.o.isSome then 1 else 0) ≤ c.q ∧ X.cn ≤ c.cn
structure PK (L : Lay) (T : List Nat) (X : SS) (r : RS) (nl q p : Nat) (re : Bool) (c : CS) : Prop where
 er : r = c.r
 enl : nl = c.nl
 eq : q = c.q
 ep : p = c.p
 ere : re = c.re
 txt : ∀ b k Y, c.o = some (b, k, Y) → 0 < Y.length ∧ Y.length ≤ k ∧ k ≤ 9223372036854775807 ∧ (∀ x ∈ Y, x < 256) ∧ Y.length ≤ q - X.q + (if re then 1 else 0) ∧ (re = true → 2 ≤ p ∧ q < T.length) ∧ 0 < p
 j : JLe X.J c.J
 com : (c.C = none ∧ c.cn = 0) ∨ ∃ b k, c.C = some (b, k) ∧ c.cn ≤ k ∧ k ≤ 9223372036854775807
 cn : c.cn + (if c.o.isSome then 1 else 0) ≤ c.q ∧ X.cn ≤ c.cn
structure PL (L : Lay) (T : List Nat) (X : SS) (r : RS) (nl q p : Nat) (c : CS) : Prop where
 er : r = c.r
 enl : nl = c.nl
 eq : q = c.q
 ep : p = c.p
 txt : ∀ b k Y, c.o = some (b, k, Y) → 0 < Y.length ∧ Y.length ≤ k ∧ k ≤ 9223372036854775807 ∧ (∀ x ∈ Y, x < 256) ∧ Y.length ≤ q + p - X.q
 j : JLe X.J c.J
 com : (c.C = none ∧ c.cn = 0) ∨ ∃ b k, c.C = some (b, k) ∧ c.cn ≤ k ∧ k ≤ 9223372036854775807
 cn : c.cn + (if c.o.isSome then 1 else 0) ≤ c.q ∧ X.cn ≤ c.cn
theorem scm_ok (L : Lay) (T : List Nat) (X : SS) (z1 z2 z3 : Int) (tv : TV) (he : Eof L) (hi : SI L T X) (h35 : at_ T X.q = 35) (htl : X.tl[X.tl.length - 1]? = some tv) (ht1 : tv.typ ≠ 15) (ht2 : tv.typ ≠ 17) :
  Fn prog 168 [pV L.p, .agg #[.int .i64 z1, .int .i64 z2, .int .i64 z3]] (SH L T X)
   (fun v H' => v = .bool true ∧ ∃ r nl q C cn J, H' = SH L T { X with r := r, nl := nl, q := q, C := C, cn := cn, J := J } ∧ SI L T { X with r := r, nl := nl, q := q, C := C, cn := cn, J := J } ∧ sk T q = sk T X.q ∧ X.q < q ∧ (at_ T q = 10 ∨ at_ T q = 0) ∧ Rdy T (zc { X with r := r, nl := nl, q := q, C := C, cn := cn, J := J }) 1 ∧ JLe X.J J) := by
 have hsml := hi.sml
 have hlen : X.tl.length - 1 < X.tl.length := (List.getElem?_eq_some_iff.1 htl).1
 have htkc := hi.tkc
 have htlc := hi.tlc
 have hcnq := hi.cnq
 refine zo func168 rfl rfl rfl ?_
 intro w
 refine zd (zi (ku rfl rfl rfl clT ?_))
 intro b3
 refine gg 4 ?_
 refine ke (fun i => i == 12 || i == 13) (fun i => i == 13) ([PB L T { zc { X with C := X.C, cn := X.cn } with r := X.r, nl := X.nl, q := X.q }, TKB T X]) zF ?_
 refine mqh 0 rfl kR rfl rfl (fun _ => zj rfl) ?_
 refine mqh 1 rfl kR rfl rfl (fun _ => zJ rfl) ?_
 refine mqh 2 rfl kR rfl rfl (fun _ => zM rfl) ?_
 refine mqh 3 rfl kR rfl rfl (fun _ => zp rfl rfl rfl rfl) ?_
 refine mqh 4 rfl kR rfl rfl (fun _ => zj rfl) ?_
 refine mqh 5 rfl kR rfl rfl (fun _ => zJ rfl) ?_
 refine mqh 6 rfl kR rfl rfl (fun _ => zM rfl) ?_
 refine mqh 7 rfl kR rfl rfl (fun _ => zp rfl rfl rfl rfl) ?_
 refine mqh 8 rfl kR rfl rfl (fun _ => q_len rfl) ?_
 refine mqh 9 rfl kR rfl rfl (fun _ => q_subn (b := 1) rfl rfl omT) ?_
 refine mqh 10 rfl kR rfl rfl (fun _ => zy rfl rfl rfl omT rfl) ?_
 refine mqh 11 rfl kR rfl rfl (fun _ => q_ldtok (T := T) (tl := X.tl) (i := X.tl.length - 1) rfl omT htl) ?_
 refine mql 12 rfl kR (fun hcl => ?_)
 refine zk rfl rfl clT ?_
 intro b5
 refine mqn 12 hcl ?_
 refine mql 13 rfl kR (fun hcl => ?_)
 first | refine stw rfl rfl ?_ | refine sts rfl rfl ?_
 refine zO 13 rfl kR (gg 6 ?_)
 refine kz (h := ?_) (hc := ht1)
 refine gg 17 ?_
 refine zk rfl rfl clT ?_
 intro b6
 first | refine stw rfl rfl ?_ | refine sts rfl rfl ?_
 refine gg 4 ?_
 refine zk rfl rfl clT ?_
 intro b7
 refine gg 34 ?_
 refine sqz (kw rfl rfl rfl) (gg 33 ?_)
 refine zL (σ := Int × Bool) (fun z => [(0, pV L.p), (3, pV b3), (5, pV b5), (6, pV b6), (7, pV b7), (8, zI), (9, .bool false), (10, .bool z.2), (11, .int .i64 (lnT T X.q : Int)), (12, .int .i64 (zH T X.q : Int)), (13, zS), (14, .int .i64 z.1)]) (fun _ => (RH L T { zc { X with C := X.C, cn := X.cn } with r := X.r, nl := X.nl, q := X.q } ((b7, .cs 57 [zI, zI, zI] []) :: (b6, .cs 57 [.int .i64 tv.a, .int .i64 (lnT T tv.a), .int .i64 (zH T tv.a)] []) :: (b3, .cs 57 [.int .i64 z1, .int .i64 z2, .int .i64 z3] []) :: (b5, .cs 163 (tvC T tv) []) :: TKB T X :: SKB X :: MPB X :: (TOH none ++ (CH T X.J X.C ++ XH X.V X.J))))) (fun _ => True) ?_ ?_
 ·
  refine gg 4 ?_
  refine sqz (kw rfl rfl rfl) (ze ?_)
  refine zf ?_
  refine kg rfl (fun hc => ?_) (fun hc => ?_)
  ·
   refine gg 11 ?_
   refine dqz (q_sub rfl rfl) (dqz (q_add rfl rfl) (gg 9 ?_))
   refine sqz (kw rfl rfl rfl) (smv ?_)
   refine wq 96 rfl (fun hs1 => ?_) (fun hs1 => ?_)
   ·
    refine gg 5 ?_
    refine sqz (kw rfl rfl rfl) (gg 3 ?_)
    refine kg rfl (fun hc => ?_) (fun hc => ?_)
    ·
     refine zi (smv ?_)
     refine sqz (q_add rfl rfl) (sas ?_)
     refine ze ?_
     exact zg (_, _) trivial suT (Wk.toT (CH T X.J X.C ++ XH X.V X.J) [L.p, L.bb, L.rb, L.ib, 0, b7, b6, b3, b5, X.tkb, X.skb, X.mpb] wlT)
    ·
     refine kQ ?_
     exact zg (_, _) trivial suT (Wk.toT (CH T X.J X.C ++ XH X.V X.J) [L.p, L.bb, L.rb, L.ib, 0, b7, b6, b3, b5, X.tkb, X.skb, X.mpb] wlT)
   ·
    refine gg 11 ?_
    exact zg (_, _) trivial suT (Wk.toT (CH T X.J X.C ++ XH X.V X.J) [L.p, L.bb, L.rb, L.ib, 0, b7, b6, b3, b5, X.tkb, X.skb, X.mpb] wlT)
  ·
   refine kQ ?_
   exact zg (_, _) trivial suT (Wk.toT (CH T X.J X.C ++ XH X.V X.J) [L.p, L.bb, L.rb, L.ib, 0, b7, b6, b3, b5, X.tkb, X.skb, X.mpb] wlT)
 ·
  rintro ⟨fl, fe⟩ -
  dsimp only
  refine gg 5 ?_
  refine zL (σ := CS) (fun c => eP L b3 b5 b6 b7 c) (fun c => hC L T X b3 b5 b6 b7 tv c) (fun c => PZ L T X c) ?_ ?_
  ·
   refine kf ?_
   refine zw (σ := CS) (fun c => eP L b3 b5 b6 b7 c) (fun c => hC L T X b3 b5 b6 b7 tv c) (fun c => PC L T X c) (fun c => (T.length - c.q) * 513 + (512 - c.p)) ⟨X.r, X.nl, X.q, 0, false, fe, (lnT T X.q), (zH T X.q), fl, none, z1, z2, z3, tv.a, (lnT T tv.a), (zH T tv.a), 0, 0, 0, X.C, X.cn, X.J⟩ ⟨hi.psx, Nat.le_refl _, omT, by intro i h; dsimp only at h; omega, rfl, fun _ => ⟨rfl, rfl⟩, fun h => (by dsimp only at h; omega), fun h => (by dsimp only at h; omega), fun b k Y h => (by cases h), JLe.refl _, hi.com, by dsimp only; simp; exact hi.cnq⟩ suT (Wk.refl _) ?_
   rintro ⟨r, nl, q, p, re, fe, ln, co, fl, o, s1, s2, s3, k1, k2, k3, a1, a2, a3, C, cn, J⟩ hc0
   obtain ⟨hinv, hqq, hp, hgap, hskq, hone, hmore, hrdy, htxt, hj, hcom, hcn⟩ := id hc0
   dsimp only at hqq hp hgap hskq hone hmore htxt hj hcom hcn
   replace hinv : Inv L T { zc { X with C := C, cn := cn } with r := r, nl := nl, q := q } := hinv
   have hql := hinv.qlen
   dsimp only at hql
   refine zt (RH L T { zc { X with C := C, cn := cn } with r := r, nl := nl, q := q } ((b7, .cs 57 [.int .i64 a1, .int .i64 a2, .int .i64 a3] []) :: (b6, .cs 57 [.int .i64 k1, .int .i64 k2, .int .i64 k3] []) :: (b3, .cs 57 [.int .i64 s1, .int .i64 s2, .int .i64 s3] []) :: (b5, .cs 163 (tvC T tv) []) :: TKB T X :: SKB X :: MPB X :: (TOH o ++ (CH T J C ++ XH X.V J)))) [(0, pV L.p), (3, pV b3), (5, pV b5), (6, pV b6), (7, pV b7), (8, zI), (9, .bool re), (10, .bool fe), (11, .int .i64 ln), (12, .int .i64 co), (13, TO o), (14, .int .i64 fl), (15, .int .i64 (p : Nat))] rfl rfl ?_
   refine zd ?_
   by_cases hlt : p < 512
   ·
    refine gg 11 ?_
    refine zR { zc { X with C := C, cn := cn } with r := r, nl := nl, q := q } (p + 1) hinv (fun hlt => ?_) (fun hlt => ?_) (fun r2 hn2 hb2 => ?_)
    ·
     refine gg 20 ?_
     exact zq hinv hlt exT
    ·
     refine gg 13 ?_
     refine za rfl rfl rfl (kc L T { zc { X with C := C, cn := cn } with r := r, nl := nl, q := q } (p + 1) he (.inl hinv) hlt omT) ?_
     rintro _ _ ⟨rfl, r2, h1, h2, h3, rfl⟩
     refine lS ?_
     refine gg 6 ?_
     exact zr h1 h2 h3 exT
    ·
     replace hn2 : Inv L T { zc { X with C := C, cn := cn } with r := r2, nl := nl, q := q } := hn2
     replace hb2 : Rdy T { zc { X with C := C, cn := cn } with r := r2, nl := nl, q := q } (p + 1) := hb2
     refine zt (RH L T { zc { X with C := C, cn := cn } with r := r2, nl := nl, q := q } _) _ rfl rfl ?_
     have hl2 : r2.pos + (p + 1) ≤ r2.blen := hb2.len
     have hpq2 : r2.pos ≤ q := hn2.pq
     have hbl2 : r2.blen ≤ 1536 := hn2.bl
     refine gg 3 ?_
     refine sqz (q_add rfl rfl) (gg 3 ?_)
     have hp0 : at_ T (q + p) ≠ 35 → 0 < p := by
      intro h
      rcases Nat.eq_zero_or_pos p with h0 | h0
      · have := (hone h0).1
        subst h0 this
        exact absurd h35 h
      · exact h0
     have hn9 : at_ T (q + p) ≠ 9 ∧ at_ T (q + p) ≠ 13 := by
      by_cases hx : q + p < T.length
      · have := hn2.asc _ (at_mem hx); omega
      · rw [qS omT]; decide
     refine zd ?_
     by_cases h32 : at_ T (q + p) = 32
     ·
      refine gg 11 ?_
      refine dad ?_
      refine dca (k_blank (j := p) (b := true) hn2 (by have := hb2.len; exact omT) (by first | assumption | (unfold kj; first | exact decide_eq_true omT | exact decide_eq_false omT))) ?_
      refine gg 12 ?_
      exact zh ⟨r2, nl, q, (p + 1), re, fe, ln, (IntKind.i64.wrap (co + 1)), fl, o, s1, s2, s3, k1, k2, k3, a1, a2, a3, C, cn, J⟩ (hc0.next hlt (hp0 omT) (.inl h32) hn2 (hb2.le omT)) omT suT (Wk.toT (TOH o ++ (CH T J C ++ XH X.V J)) [L.p, L.bb, L.rb, L.ib, 0, b7, b6, b3, b5, X.tkb, X.skb, X.mpb] wlT)
     ·
      refine gg 11 ?_
      refine dad ?_
      refine dca (k_blank (j := p) (b := false) hn2 (by have := hb2.len; exact omT) (by first | assumption | (unfold kj; first | exact decide_eq_true omT | exact decide_eq_false omT))) ?_
      refine gg 16 ?_
      refine dad ?_
      refine dix ?_
      refine zn (bpk omT) rfl ?_
      refine gg 22 ?_
      by_cases hbz : at_ T (q + p) = 10 ∨ at_ T (q + p) = 0
      ·
        refine gg 13 ?_
        refine dad ?_
        refine dca (k_breakz (j := p) (b := true) hn2 (by have := hb2.len; exact omT) (by first | assumption | (unfold kE; first | exact decide_eq_true omT | exact decide_eq_false omT))) ?_
        refine gg 4 ?_
        refine zL (σ := CS) (fun c => eP L b3 b5 b6 b7 c) (fun c => hC L T X b3 b5 b6 b7 tv c) (fun c => PJ L T X r2 nl q p re fe c) ?_ ?_
        ·
         refine gg 9 ?_
         refine kg rfl (fun hc => ?_) (fun hc => ?_)
         ·
          have hre0 : re = false := by simpa using hc
          refine qm 202 (fun _ => True) ?_ ?_
          ·
           refine gg 5 ?_
           refine wq 184 rfl (fun hs3 => ?_) (fun hs3 => ?_)
           ·
             refine gg 3 ?_
             refine sqz (kw rfl rfl rfl) (smv ?_)
             refine wq 189 rfl (fun hs4 => ?_) (fun hs4 => ?_)
             ·
               refine sfa ?_
               refine sld rfl ?_
               refine sne1 (h := ?_) (hc := ht2)
               refine gg 11 ?_
               exact zE (b := _) rfl exT trivial
             ·
               refine gg 7 ?_
               refine sqz (q_sub rfl rfl) (smv ?_)
               refine sqz (kw rfl rfl rfl) (gg 4 ?_)
               exact zE (b := _) rfl exT trivial
           ·
             refine gg 19 ?_
             exact zE (b := _) rfl exT trivial
          ·
           rintro b202 -
           refine kg rfl (fun hc => ?_) (fun hc => ?_)
           ·
             rcases o with _ | ⟨ob, oc, oY⟩
             ·
               refine gg 9 ?_
               exact zg ⟨r2, nl, q, p, re, fe, ln, (IntKind.i64.wrap (co + 1)), fl, none, s1, s2, s3, k1, k2, k3, a1, a2, a3, C, cn, J⟩ ⟨rfl, rfl, rfl, rfl, rfl, rfl, fun b k Y ho => by have hpp := hp0 omT; obtain ⟨h1, h2, h3, h4, h5, h6⟩ := htxt b k Y ho; exact ⟨h1, h2, h3, h4, by split at h5 <;> omega, by cases hre : re with | false => simp [hre] at h5; omega | true => have := h6 hre; simp [hre] at h5; omega⟩, hj, hcom, hcn⟩ suT (Wk.toT (TOH none ++ (CH T J C ++ XH X.V J)) [L.p, L.bb, L.rb, L.ib, 0, b7, b6, b3, b5, X.tkb, X.skb, X.mpb] wlT)
             ·
               refine kq (E' := [(0, pV L.p), (3, pV b3), (5, pV b5), (6, pV b6), (7, pV b7), (8, zI), (9, .bool re), (10, .bool fe), (11, .int .i64 ln), (12, .int .i64 (IntKind.i64.wrap (co + 1))), (13, .slice (some ⟨ob, 0, none⟩) oY.length oc), (14, .int .i64 fl), (15, .int .i64 (p : Nat))]) (H' := (RH L T { zc { X with C := C, cn := cn } with r := r2, nl := nl, q := q } ((b7, .cs 57 [.int .i64 a1, .int .i64 a2, .int .i64 a3] []) :: (b6, .cs 57 [.int .i64 k1, .int .i64 k2, .int .i64 k3] []) :: (b3, .cs 57 [.int .i64 s1, .int .i64 s2, .int .i64 s3] []) :: (b5, .cs 163 (tvC T tv) []) :: TKB T X :: SKB X :: MPB X :: ((ob, .buf 5 oc (bytes oY)) :: (CH T J C ++ XH X.V J))))) suT (Wk.refl _) ?_
               obtain ⟨ht1', ht2', ht3', ht4', ht5', ht6'⟩ := htxt ob oc oY rfl
               refine gg 8 ?_
               refine zL (σ := Int × Int × Int) (fun _ => [(0, pV L.p), (3, pV b3), (5, pV b5), (6, pV b6), (7, pV b7), (8, zI), (9, .bool re), (10, .bool fe), (11, .int .i64 ln), (12, .int .i64 (IntKind.i64.wrap (co + 1))), (13, .slice (some ⟨ob, 0, none⟩) oY.length oc), (14, .int .i64 fl), (15, .int .i64 (p : Nat))]) (fun x => (RH L T { zc { X with C := C, cn := cn } with r := r2, nl := nl, q := q } ((b7, .cs 57 [.int .i64 a1, .int .i64 a2, .int .i64 a3] []) :: (b6, .cs 57 [.int .i64 x.1, .int .i64 x.2.1, .int .i64 x.2.2] []) :: (b3, .cs 57 [.int .i64 s1, .int .i64 s2, .int .i64 s3] []) :: (b5, .cs 163 (tvC T tv) []) :: TKB T X :: SKB X :: MPB X :: ((ob, .buf 5 oc (bytes oY)) :: (CH T J C ++ XH X.V J))))) (fun _ => True) ?_ ?_
               ·
                refine gg 4 ?_
                refine sqz (q_sub rfl rfl) (smv ?_)
                refine sqz (kw rfl rfl rfl) (ze ?_)
                refine zf ?_
                refine kg rfl (fun hc => ?_) (fun hc => ?_)
                ·
                 refine zi (slds rfl ?_)
                 first | refine stw rfl rfl ?_ | refine sts rfl rfl ?_
                 refine ze ?_
                 exact zg (a1, a2, a3) trivial suT (Wk.toT (CH T J C ++ XH X.V J) [L.p, L.bb, L.rb, L.ib, 0, b7, b6, b3, b5, X.tkb, X.skb, X.mpb, ob] wlT)
                ·
                 refine kQ ?_
                 exact zg (k1, k2, k3) trivial suT (Wk.toT (CH T J C ++ XH X.V J) [L.p, L.bb, L.rb, L.ib, 0, b7, b6, b3, b5, X.tkb, X.skb, X.mpb, ob] wlT)
               ·
                rintro ⟨k1, k2, k3⟩ -
                refine zt (RH L T { zc { X with C := C, cn := cn } with r := r2, nl := nl, q := q } ((b7, .cs 57 [.int .i64 a1, .int .i64 a2, .int .i64 a3] []) :: (b6, .cs 57 [.int .i64 k1, .int .i64 k2, .int .i64 k3] []) :: (b3, .cs 57 [.int .i64 s1, .int .i64 s2, .int .i64 s3] []) :: (b5, .cs 163 (tvC T tv) []) :: TKB T X :: SKB X :: MPB X :: ((ob, .buf 5 oc (bytes oY)) :: (CH T J C ++ XH X.V J)))) [(0, pV L.p), (3, pV b3), (5, pV b5), (6, pV b6), (7, pV b7), (8, zI), (9, .bool re), (10, .bool fe), (11, .int .i64 ln), (12, .int .i64 (IntKind.i64.wrap (co + 1))), (13, .slice (some ⟨ob, 0, none⟩) oY.length oc), (14, .int .i64 fl), (15, .int .i64 (p : Nat))] rfl rfl ?_
                refine zd ?_
                refine qF (Wk.trans (Wk.toR [L.p, L.bb, L.rb, L.ib, 0, b7, b6, b3, b5, X.tkb, X.skb, X.mpb, ob] wlT) (Wk.text (A := [PB L T { zc { X with C := C, cn := cn } with r := r2, nl := nl, q := q }, BB L T { zc { X with C := C, cn := cn } with r := r2, nl := nl, q := q }, RB L T { zc { X with C := C, cn := cn } with r := r2, nl := nl, q := q }, IB L T, GE L, (b7, .cs 57 [.int .i64 a1, .int .i64 a2, .int .i64 a3] []), (b6, .cs 57 [.int .i64 k1, .int .i64 k2, .int .i64 k3] []), (b3, .cs 57 [.int .i64 s1, .int .i64 s2, .int .i64 s3] []), (b5, .cs 163 (tvC T tv) []), TKB T X, SKB X, MPB X]) (X := oY) ht4')) ?_
                refine lS ?_
                refine ke (fun i => i == 20 || i == 21 || i == 24) (fun i => i == 24) ([PB L T { zc { X with C := C, cn := cn } with r := r2, nl := nl, q := q }, (b7, .cs 57 [.int .i64 a1, .int .i64 a2, .int .i64 a3] []), (b6, .cs 57 [.int .i64 k1, .int .i64 k2, .int .i64 k3] []), (b3, .cs 57 [.int .i64 s1, .int .i64 s2, .int .i64 s3] [])]) zF ?_
                refine mqh 0 rfl kR rfl rfl (fun _ => zj rfl) ?_
                refine mqh 1 rfl kR rfl rfl (fun _ => zj rfl) ?_
                refine mqh 2 rfl kR rfl rfl (fun _ => zJ rfl) ?_
                refine mqh 3 rfl kR rfl rfl (fun _ => zM rfl) ?_
                refine mqh 4 rfl kR rfl rfl (fun _ => zp rfl rfl rfl rfl) ?_
                refine mq 5 rfl kR rfl rfl (zG rfl rfl rfl rfl) ?_
                refine mq 6 rfl kR rfl rfl (zG rfl rfl rfl rfl) ?_
                refine mq 7 rfl kR rfl rfl (zG rfl rfl rfl rfl) ?_
                refine mq 8 rfl kR rfl rfl (zj rfl) ?_
                refine mq 9 rfl kR rfl rfl (zJ rfl) ?_
                refine mq 10 rfl kR rfl rfl (zM rfl) ?_
                refine mq 11 rfl kR rfl rfl (zM rfl) ?_
                refine mq 12 rfl kR rfl rfl (zp rfl rfl rfl rfl) ?_
                refine mq 13 rfl kR rfl rfl (zj rfl) ?_
                refine mq 14 rfl kR rfl rfl (q_addn rfl rfl omT) ?_
                refine mq 15 rfl kR rfl rfl (zj rfl) ?_
                refine mq 16 rfl kR rfl rfl (zj rfl) ?_
                refine mq 17 rfl kR rfl rfl (zu (l := [_, _, _]) (zs := [zI, zI, zI]) [0, 1, 2] rfl rfl kR) ?_
                refine mq 18 rfl kR rfl rfl (zj rfl) ?_
                refine mq 19 rfl kR rfl rfl (zu (l := [_, _, _, _, _, _, _, _, _, _, _, _, _, _, _]) (zs := [zI, zI, zI, zI, zI, zI, zI, zI, zI, zI, zI, zI, zS, zS, zS]) [0, 3, 6, 9, 12, 13, 14] rfl rfl kR) ?_
                refine mql 20 rfl kR (fun hcl => ?_)
                refine kV (l := [_, _, _, _, _, _, _, _, _, _, _, _, _, _, _]) (zs := [zI, zI, zI, zI, zI, zI, zI, zI, zI, zI, zI, zI, zS, zS, zS]) [0] rfl rfl rfl rfl kR rfl rfl ?_
                intro cb
                refine mqn 20 hcl ?_
                refine mql 21 rfl kR (fun hcl => ?_)
                refine wu rfl rfl rfl hcom rfl inferInstance rfl (kK rfl) (CP_all qE qE ⟨JSl.new _ _ _ _ _ (Nat.le_refl _) ht2', by show oY.length ≤ T.length; have h7 := ht5'; have h8 := hp0 omT; cases hre : re with | false => simp [hre] at h7; omega | true => have := ht6' hre; simp [hre] at h7; omega⟩) (by have := hcn; exact omT) ?_
                intro cb cc hcc1 hcc2
                refine mqn 21 hcl (mq 22 rfl kR rfl rfl (zJ rfl) ?_)
                refine mq 23 rfl kR rfl rfl (zM rfl) ?_
                refine mql 24 rfl kR (fun hcl => ?_)
                refine st1 rfl rfl ?_
                refine zO 24 rfl kR (gg 9 ?_)
                refine sad ?_
                refine smv ?_
                refine smv ?_
                refine sqz (zu (l := [_, _, _]) (zs := [zI, zI, zI]) [0, 1, 2] rfl rfl kR) ?_
                first | refine stw rfl rfl ?_ | refine sts rfl rfl ?_
                refine gg 5 ?_
                first | refine stw rfl rfl ?_ | refine sts rfl rfl ?_
                refine gg 5 ?_
                exact zg ⟨r2, nl, q, p, re, fe, ln, (IntKind.i64.wrap (co + 1)), fl, none, ((q + p : Nat) : Int), ln, (IntKind.i64.wrap (co + 1)), ((q + p : Nat) : Int), ln, (IntKind.i64.wrap (co + 1)), a1, a2, a3, some (cb, cc), (cn + 1), ((ob, oc, oY.length) :: J)⟩ ⟨rfl, rfl, rfl, rfl, rfl, rfl, fun b k Y h => (by cases h), hj.trans (JLe.cons _ _), .inr ⟨cb, cc, rfl, hcc1, hcc2⟩, by have := hcn; simp at this; simp; omega⟩ suT (Wk.toT (XH X.V ((ob, oc, oY.length) :: J)) [L.p, L.bb, L.rb, L.ib, 0, b7, b6, b3, b5, X.tkb, X.skb, X.mpb, cb] wlT)
           ·
             rcases o with _ | ⟨ob, oc, oY⟩
             ·
               refine gg 24 ?_
               exact zg ⟨r2, nl, q, p, re, fe, ln, (IntKind.i64.wrap (co + 1)), fl, none, s1, s2, s3, k1, k2, k3, a1, a2, a3, C, cn, J⟩ ⟨rfl, rfl, rfl, rfl, rfl, rfl, fun b k Y ho => by have hpp := hp0 omT; obtain ⟨h1, h2, h3, h4, h5, h6⟩ := htxt b k Y ho; exact ⟨h1, h2, h3, h4, by split at h5 <;> omega, by cases hre : re with | false => simp [hre] at h5; omega | true => have := h6 hre; simp [hre] at h5; omega⟩, hj, hcom, hcn⟩ suT (Wk.toT (TOH none ++ (CH T J C ++ XH X.V J)) [L.p, L.bb, L.rb, L.ib, 0, b7, b6, b3, b5, X.tkb, X.skb, X.mpb] wlT)
             ·
               refine kq (E' := [(0, pV L.p), (3, pV b3), (5, pV b5), (6, pV b6), (7, pV b7), (8, zI), (9, .bool re), (10, .bool fe), (11, .int .i64 ln), (12, .int .i64 (IntKind.i64.wrap (co + 1))), (13, .slice (some ⟨ob, 0, none⟩) oY.length oc), (14, .int .i64 fl), (15, .int .i64 (p : Nat))]) (H' := (RH L T { zc { X with C := C, cn := cn } with r := r2, nl := nl, q := q } ((b7, .cs 57 [.int .i64 a1, .int .i64 a2, .int .i64 a3] []) :: (b6, .cs 57 [.int .i64 k1, .int .i64 k2, .int .i64 k3] []) :: (b3, .cs 57 [.int .i64 s1, .int .i64 s2, .int .i64 s3] []) :: (b5, .cs 163 (tvC T tv) []) :: TKB T X :: SKB X :: MPB X :: ((ob, .buf 5 oc (bytes oY)) :: (CH T J C ++ XH X.V J))))) suT (Wk.refl _) ?_
               obtain ⟨ht1', ht2', ht3', ht4', ht5', ht6'⟩ := htxt ob oc oY rfl
               have hY6 : oY.length ≤ 1000001 := by have h7 := ht5'; split at h7 <;> omega
               by_cases h0 : at_ T (q + p) = 0
               ·
                refine gg 15 ?_
                refine dad ?_
                refine dix ?_
                refine zn (bpk omT) rfl ?_
                refine gg 6 ?_
                exact zg ⟨r2, nl, q, p, re, fe, ln, (IntKind.i64.wrap (co + 1)), fl, some (ob, oc, oY), s1, s2, s3, k1, k2, k3, a1, a2, a3, C, cn, J⟩ ⟨rfl, rfl, rfl, rfl, rfl, rfl, fun b k Y ho => by have hpp := hp0 omT; obtain ⟨h1, h2, h3, h4, h5, h6⟩ := htxt b k Y ho; exact ⟨h1, h2, h3, h4, by split at h5 <;> omega, by cases hre : re with | false => simp [hre] at h5; omega | true => have := h6 hre; simp [hre] at h5; omega⟩, hj, hcom, hcn⟩ suT (Wk.toT (CH T J C ++ XH X.V J) [L.p, L.bb, L.rb, L.ib, 0, b7, b6, b3, b5, X.tkb, X.skb, X.mpb, ob] wlT)
               ·
                refine gg 15 ?_
                refine dad ?_
                refine dix ?_
                refine zn (bpk omT) rfl ?_
                refine gg 7 ?_
                refine kV (l := [_]) (zs := [.int .u8 0]) [0] rfl rfl rfl rfl kR rfl rfl ?_
                intro nb
                refine zY (sz := 1) (mm := oc) (xs := bytes oY) (news := [.int .u8 10]) rfl rfl rfl rfl omT (by simp) ht2' ht3' rfl (zN (k := .cs 5 [.int .u8 10] []) (Nat.le_refl _) (Nat.le_refl _) (fun j u hj => by simpa [Blk.cell, look, nth] using hj)) rfl (by simp; rfl) omT omT ?_
                intro ob2 oc2 hoc1 hoc2
                refine sas ?_
                refine ze ?_
                have h8 := hp0 omT
                have h9 : q + p < T.length := kS h0
                have hY : bytes oY ++ [.int .u8 10] = bytes (oY ++ [10]) := by simp [bytes]
                have hL : oY.length + 1 = (oY ++ [10]).length := by simp
                rw [hY, Nat.mul_one, hL]
                exact zg ⟨r2, nl, q, p, re, fe, ln, (IntKind.i64.wrap (co + 1)), fl, some (ob2, oc2, oY ++ [10]), s1, s2, s3, k1, k2, k3, a1, a2, a3, C, cn, J⟩ ⟨rfl, rfl, rfl, rfl, rfl, rfl, fun b k Y h => by cases h; exact ⟨by simp, by simpa using hoc1, hoc2, (by intro x hx; rcases List.mem_append.1 hx with hx | hx; exact ht4' x hx; simp at hx; omega), by simp; have h7 := ht5'; simp [hre0] at h7; omega, by simp; have h7 := ht5'; simp [hre0] at h7; omega⟩, hj, hcom, by simpa using hcn⟩ suT (Wk.toT (CH T J C ++ XH X.V J) [L.p, L.bb, L.rb, L.ib, 0, b7, b6, b3, b5, X.tkb, X.skb, X.mpb, ob2] wlT)
         ·
          refine kQ ?_
          exact zg ⟨r2, nl, q, p, re, fe, ln, (IntKind.i64.wrap (co + 1)), fl, o, s1, s2, s3, k1, k2, k3, a1, a2, a3, C, cn, J⟩ ⟨rfl, rfl, rfl, rfl, rfl, rfl, fun b k Y ho => by have hpp := hp0 omT; obtain ⟨h1, h2, h3, h4, h5, h6⟩ := htxt b k Y ho; exact ⟨h1, h2, h3, h4, by split at h5 <;> omega, by cases hre : re with | false => simp [hre] at h5; omega | true => have := h6 hre; simp [hre] at h5; omega⟩, hj, hcom, hcn⟩ suT (Wk.toT (TOH o ++ (CH T J C ++ XH X.V J)) [L.p, L.bb, L.rb, L.ib, 0, b7, b6, b3, b5, X.tkb, X.skb, X.mpb] wlT)
        ·
         rintro ⟨r9, nl9, q9, p9, re9, fe9, ln9, co9, fl9, o9, s1, s2, s3, k1, k2, k3, a1, a2, a3, C9, cn9, J9⟩ ⟨e1, e2, e3, e4, e5, e6, htxt9, hj9, hcom9, hcn9⟩
         dsimp only at e1 e2 e3 e4 e5 e6 htxt9 hj9 hcom9 hcn9
         subst e1 e2 e3 e4 e5 e6
         refine zt (RH L T { zc { X with C := C9, cn := cn9 } with r := r2, nl := nl, q := q } ((b7, .cs 57 [.int .i64 a1, .int .i64 a2, .int .i64 a3] []) :: (b6, .cs 57 [.int .i64 k1, .int .i64 k2, .int .i64 k3] []) :: (b3, .cs 57 [.int .i64 s1, .int .i64 s2, .int .i64 s3] []) :: (b5, .cs 163 (tvC T tv) []) :: TKB T X :: SKB X :: MPB X :: (TOH o9 ++ (CH T J9 C9 ++ XH X.V J9)))) [(0, pV L.p), (3, pV b3), (5, pV b5), (6, pV b6), (7, pV b7), (8, zI), (9, .bool re), (10, .bool fe), (11, .int .i64 ln9), (12, .int .i64 co9), (13, TO o9), (14, .int .i64 fl9), (15, .int .i64 (p : Nat))] rfl rfl ?_
         have hn9c : Inv L T { zc { X with C := C9, cn := cn9 } with r := r2, nl := nl, q := q } := Inv.com hn2
         have hb9c : Rdy T { zc { X with C := C9, cn := cn9 } with r := r2, nl := nl, q := q } (p + 1) := ⟨hb2.len, hb2.un⟩
         refine zd ?_
         by_cases h10 : at_ T (q + p) = 10
         ·
          refine gg 11 ?_
          refine dad ?_
          refine dca (k_break (j := p) (b := true) hn9c (by have := hb9c.len; exact omT) (by first | assumption | (unfold qo; first | exact decide_eq_true omT | exact decide_eq_false omT))) ?_
          refine gg 24 ?_
          refine sqz (q_add rfl rfl) (gg 12 ?_)
          have h8 := hp0 omT
          have h9 : q + p < T.length := kS omT
          exact zh ⟨r2, nl, q, (p + 1), true, false, (IntKind.i64.wrap (ln9 + 1)), 0, fl9, o9, s1, s2, s3, k1, k2, k3, a1, a2, a3, C9, cn9, J9⟩ ⟨Inv.com hn9c, hqq, omT, fun i hi' => by dsimp only at hi' ⊢; by_cases e : i = p; (subst e; exact .inr (.inl h10)); exact hgap i omT, hskq, fun h => by dsimp only at h; omega, fun _ => hmore h8, fun _ => ⟨(hb9c.le (j := 1) omT).len, (hb9c.le (j := 1) omT).un⟩, fun b k Y ho => by obtain ⟨h1, h2, h3, h4, h5, h6⟩ := htxt9 b k Y ho; exact ⟨h1, h2, h3, h4, by simpa using h5, fun _ => by dsimp only; omega⟩, hj9, hcom9, hcn9⟩ omT suT (Wk.toT (TOH o9 ++ (CH T J9 C9 ++ XH X.V J9)) [L.p, L.bb, L.rb, L.ib, 0, b7, b6, b3, b5, X.tkb, X.skb, X.mpb] wlT)
         ·
          refine gg 11 ?_
          refine dad ?_
          refine dca (k_break (j := p) (b := false) hn9c (by have := hb9c.len; exact omT) (by first | assumption | (unfold qo; first | exact decide_eq_true omT | exact decide_eq_false omT))) ?_
          refine gg 11 ?_
          have h8 := hp0 omT
          exact zg ⟨r2, nl, q, p, re, fe, ln9, co9, fl9, o9, s1, s2, s3, k1, k2, k3, a1, a2, a3, C9, cn9, J9⟩ ⟨omT, Inv.com hn9c, hmore h8, ⟨(hb9c.le (j := 1) omT).len, (hb9c.le (j := 1) omT).un⟩, hskq, fun b k Y ho => by obtain ⟨h1, h2, h3, h4, h5, h6⟩ := htxt9 b k Y ho; exact ⟨h1, h2, h3, h4, h6⟩, hj9, hcom9, hcn9⟩ suT (Wk.toT (TOH o9 ++ (CH T J9 C9 ++ XH X.V J9)) [L.p, L.bb, L.rb, L.ib, 0, b7, b6, b3, b5, X.tkb, X.skb, X.mpb] wlT)
      ·
        refine gg 13 ?_
        refine dad ?_
        refine dca (k_breakz (j := p) (b := false) hn2 (by have := hb2.len; exact omT) (by first | assumption | (unfold kE; first | exact decide_eq_true omT | exact decide_eq_false omT))) ?_
        refine gg 6 ?_
        refine zL (σ := CS) (fun c => eP L b3 b5 b6 b7 c) (fun c => hC L T X b3 b5 b6 b7 tv c) (fun c => PK L T X r2 nl q p re c) ?_ ?_
        ·
         refine qm 299 (fun b => b = true → o ≠ none) ?_ ?_
         ·
          rcases o with _ | ⟨ob, oc, oY⟩
          ·
           refine gg 20 ?_
           exact zE (b := _) rfl exT (fun h => by cases h)
          ·
           obtain ⟨ht1', ht2', ht3', ht4', ht5', ht6'⟩ := htxt ob oc oY rfl
           refine gg 8 ?_
           refine sqz (q_sub rfl rfl) (smv ?_)
           refine sqz (kw rfl rfl rfl) (smv ?_)
           refine wq 292 rfl (fun hs5 => ?_) (fun hs5 => ?_)
           ·
             refine gg 3 ?_
             refine sqz (kw rfl rfl rfl) (gg 4 ?_)
             exact zE (b := _) rfl exT (fun _ => by simp)
           ·
             refine gg 8 ?_
             exact zE (b := _) rfl exT (fun _ => by simp)
         ·
          rintro b299 hb299
          refine kg rfl (fun hc => ?_) (fun hc => ?_)
          ·
           obtain ⟨⟨ob, oc, oY⟩, rfl⟩ := Option.ne_none_iff_exists'.1 (hb299 hc)
           refine kq (E' := [(0, pV L.p), (3, pV b3), (5, pV b5), (6, pV b6), (7, pV b7), (8, zI), (9, .bool re), (10, .bool fe), (11, .int .i64 ln), (12, .int .i64 (IntKind.i64.wrap (co + 1))), (13, .slice (some ⟨ob, 0, none⟩) oY.length oc), (14, .int .i64 fl), (15, .int .i64 (p : Nat))]) (H' := (RH L T { zc { X with C := C, cn := cn } with r := r2, nl := nl, q := q } ((b7, .cs 57 [.int .i64 a1, .int .i64 a2, .int .i64 a3] []) :: (b6, .cs 57 [.int .i64 k1, .int .i64 k2, .int .i64 k3] []) :: (b3, .cs 57 [.int .i64 s1, .int .i64 s2, .int .i64 s3] []) :: (b5, .cs 163 (tvC T tv) []) :: TKB T X :: SKB X :: MPB X :: ((ob, .buf 5 oc (bytes oY)) :: (CH T J C ++ XH X.V J))))) suT (Wk.refl _) ?_
           obtain ⟨ht1', ht2', ht3', ht4', ht5', ht6'⟩ := htxt ob oc oY rfl
           have hp1 : 0 < p := by
             rcases Nat.eq_zero_or_pos p with h0 | h0
             · have := (hone h0).2; cases this
             · exact h0
           refine zd ?_
           refine qF (Wk.trans (Wk.toR [L.p, L.bb, L.rb, L.ib, 0, b7, b6, b3, b5, X.tkb, X.skb, X.mpb, ob] wlT) (Wk.text (A := [PB L T { zc { X with C := C, cn := cn } with r := r2, nl := nl, q := q }, BB L T { zc { X with C := C, cn := cn } with r := r2, nl := nl, q := q }, RB L T { zc { X with C := C, cn := cn } with r := r2, nl := nl, q := q }, IB L T, GE L, (b7, .cs 57 [.int .i64 a1, .int .i64 a2, .int .i64 a3] []), (b6, .cs 57 [.int .i64 k1, .int .i64 k2, .int .i64 k3] []), (b3, .cs 57 [.int .i64 s1, .int .i64 s2, .int .i64 s3] []), (b5, .cs 163 (tvC T tv) []), TKB T X, SKB X, MPB X]) (X := oY) ht4')) ?_
           refine lS ?_
           refine ke (fun i => i == 20 || i == 21 || i == 24) (fun i => i == 24) ([PB L T { zc { X with C := C, cn := cn } with r := r2, nl := nl, q := q }, (b7, .cs 57 [.int .i64 a1, .int .i64 a2, .int .i64 a3] []), (b6, .cs 57 [.int .i64 k1, .int .i64 k2, .int .i64 k3] []), (b3, .cs 57 [.int .i64 s1, .int .i64 s2, .int .i64 s3] [])]) zF ?_
           refine mqh 0 rfl kR rfl rfl (fun _ => zj rfl) ?_
           refine mqh 1 rfl kR rfl rfl (fun _ => zj rfl) ?_
           refine mqh 2 rfl kR rfl rfl (fun _ => zJ rfl) ?_
           refine mqh 3 rfl kR rfl rfl (fun _ => zM rfl) ?_
           refine mqh 4 rfl kR rfl rfl (fun _ => zp rfl rfl rfl rfl) ?_
           refine mq 5 rfl kR rfl rfl (zG rfl rfl rfl rfl) ?_
           refine mq 6 rfl kR rfl rfl (zG rfl rfl rfl rfl) ?_
           refine mq 7 rfl kR rfl rfl (zG rfl rfl rfl rfl) ?_
           refine mq 8 rfl kR rfl rfl (zj rfl) ?_
           refine mq 9 rfl kR rfl rfl (zJ rfl) ?_
           refine mq 10 rfl kR rfl rfl (zM rfl) ?_
           refine mq 11 rfl kR rfl rfl (zM rfl) ?_
           refine mq 12 rfl kR rfl rfl (zp rfl rfl rfl rfl) ?_
           refine mq 13 rfl kR rfl rfl (zj rfl) ?_
           refine mq 14 rfl kR rfl rfl (q_addn rfl rfl omT) ?_
           refine mq 15 rfl kR rfl rfl (zj rfl) ?_
           refine mq 16 rfl kR rfl rfl (zj rfl) ?_
           refine mq 17 rfl kR rfl rfl (zu (l := [_, _, _]) (zs := [zI, zI, zI]) [0, 1, 2] rfl rfl kR) ?_
           refine mq 18 rfl kR rfl rfl (zj rfl) ?_
           refine mq 19 rfl kR rfl rfl (zu (l := [_, _, _, _, _, _, _, _, _, _, _, _, _, _, _]) (zs := [zI, zI, zI, zI, zI, zI, zI, zI, zI, zI, zI, zI, zS, zS, zS]) [0, 3, 6, 9, 12, 13, 14] rfl rfl kR) ?_
           refine mql 20 rfl kR (fun hcl => ?_)
           refine kV (l := [_, _, _, _, _, _, _, _, _, _, _, _, _, _, _]) (zs := [zI, zI, zI, zI, zI, zI, zI, zI, zI, zI, zI, zI, zS, zS, zS]) [0] rfl rfl rfl rfl kR rfl rfl ?_
           intro cb
           refine mqn 20 hcl ?_
           refine mql 21 rfl kR (fun hcl => ?_)
           refine wu rfl rfl rfl hcom rfl inferInstance rfl (kK rfl) (CP_all qE qE ⟨JSl.new _ _ _ _ _ (Nat.le_refl _) ht2', by show oY.length ≤ T.length; have h7 := ht5'; have h8 := hp1; cases hre : re with | false => simp [hre] at h7; omega | true => have := ht6' hre; simp [hre] at h7; omega⟩) (by have := hcn; exact omT) ?_
           intro cb cc hcc1 hcc2
           refine mqn 21 hcl (mq 22 rfl kR rfl rfl (zJ rfl) ?_)
           refine mq 23 rfl kR rfl rfl (zM rfl) ?_
           refine mql 24 rfl kR (fun hcl => ?_)
           refine st1 rfl rfl ?_
           refine zO 24 rfl kR (gg 9 ?_)
           refine sad ?_
           refine smv ?_
           refine smv ?_
           refine sqz (zu (l := [_, _, _]) (zs := [zI, zI, zI]) [0, 1, 2] rfl rfl kR) ?_
           first | refine stw rfl rfl ?_ | refine sts rfl rfl ?_
           refine gg 5 ?_
           first | refine stw rfl rfl ?_ | refine sts rfl rfl ?_
           refine gg 5 ?_
           exact zg ⟨r2, nl, q, p, re, fe, ln, (IntKind.i64.wrap (co + 1)), fl, none, ((q + p : Nat) : Int), ln, (IntKind.i64.wrap (co + 1)), ((q + p : Nat) : Int), ln, (IntKind.i64.wrap (co + 1)), a1, a2, a3, some (cb, cc), (cn + 1), ((ob, oc, oY.length) :: J)⟩ ⟨rfl, rfl, rfl, rfl, rfl, fun b k Y h => (by cases h), hj.trans (JLe.cons _ _), .inr ⟨cb, cc, rfl, hcc1, hcc2⟩, by have := hcn; simp at this; simp; omega⟩ suT (Wk.toT (XH X.V ((ob, oc, oY.length) :: J)) [L.p, L.bb, L.rb, L.ib, 0, b7, b6, b3, b5, X.tkb, X.skb, X.mpb, cb] wlT)
          ·
           refine kQ ?_
           exact zg ⟨r2, nl, q, p, re, fe, ln, (IntKind.i64.wrap (co + 1)), fl, o, s1, s2, s3, k1, k2, k3, a1, a2, a3, C, cn, J⟩ ⟨rfl, rfl, rfl, rfl, rfl, fun b k Y ho => (by obtain ⟨h1, h2, h3, h4, h5, h6⟩ := htxt b k Y ho; refine ⟨h1, h2, h3, h4, h5, h6, ?_⟩; rcases Nat.eq_zero_or_pos p with h0 | h0; (have := (hone h0).2; rw [this] at ho; cases ho); exact h0), hj, hcom, hcn⟩ suT (Wk.toT (TOH o ++ (CH T J C ++ XH X.V J)) [L.p, L.bb, L.rb, L.ib, 0, b7, b6, b3, b5, X.tkb, X.skb, X.mpb] wlT)
        ·
         rintro ⟨r9, nl9, q9, p9, re9, fe9, ln9, co9, fl9, o9, s1, s2, s3, k1, k2, k3, a1, a2, a3, C9, cn9, J9⟩ ⟨e1, e2, e3, e4, e5, htxt9, hj9, hcom9, hcn9⟩
         dsimp only at e1 e2 e3 e4 e5 htxt9 hj9 hcom9 hcn9
         subst e1 e2 e3 e4 e5
         refine zt (RH L T { zc { X with C := C9, cn := cn9 } with r := r2, nl := nl, q := q } ((b7, .cs 57 [.int .i64 a1, .int .i64 a2, .int .i64 a3] []) :: (b6, .cs 57 [.int .i64 k1, .int .i64 k2, .int .i64 k3] []) :: (b3, .cs 57 [.int .i64 s1, .int .i64 s2, .int .i64 s3] []) :: (b5, .cs 163 (tvC T tv) []) :: TKB T X :: SKB X :: MPB X :: (TOH o9 ++ (CH T J9 C9 ++ XH X.V J9)))) [(0, pV L.p), (3, pV b3), (5, pV b5), (6, pV b6), (7, pV b7), (8, zI), (9, .bool re), (10, .bool fe9), (11, .int .i64 ln9), (12, .int .i64 co9), (13, TO o9), (14, .int .i64 fl9), (15, .int .i64 (p : Nat))] rfl rfl ?_
         have hn9c : Inv L T { zc { X with C := C9, cn := cn9 } with r := r2, nl := nl, q := q } := Inv.com hn2
         have hb9c : Rdy T { zc { X with C := C9, cn := cn9 } with r := r2, nl := nl, q := q } (p + 1) := ⟨hb2.len, hb2.un⟩
         refine zd ?_
         by_cases h35p : at_ T (q + p) = 35
         ·
          refine gg 11 ?_
          refine dad ?_
          refine dix ?_
          refine zn (bpk omT) rfl ?_
          refine gg 3 ?_
          have hq35 : q + p < T.length := kS omT
          have hse := eol_go hq35 omT
          have hel := eol_le T (q + p + 1)
          have hell := eol_len (T := T) (q := q + p) omT
          have heo := eol_at (T := T) (q := q + p)
          have hgap2 : ∀ i, i < p → at_ T (q + i) = 32 ∨ at_ T (q + i) = 10 := fun i hi' => by
           rcases hgap i hi' with h | h | h
           · exact .inl h
           · exact .inr h
           · omega
          have hsk2 : sk T (q + p) = sk T q := by
           have : ∀ m, m ≤ p → sk T (q + m) = sk T q := by
             intro m
             induction m with
             | zero => intro _; rfl
             | succ m ih => intro hm; rw [← ih omT, sk_step (q := q + m) omT (hgap2 m omT)]; rfl
           exact this p (Nat.le_refl _)
          have hsk3 := sk_com hq35 h35p
          refine gg 3 ?_
          refine zL (σ := CS) (fun c => eP L b3 b5 b6 b7 c) (fun c => hC L T X b3 b5 b6 b7 tv c) (fun c => PL L T X r2 nl q p c) ?_ ?_
          ·
           rcases o9 with _ | ⟨ob, oc, oY⟩
           ·
             refine gg 15 ?_
             refine sad ?_
             refine smv ?_
             refine smv ?_
             refine sqz (zu (l := [_, _, _]) (zs := [zI, zI, zI]) [0, 1, 2] rfl rfl kR) ?_
             first | refine stw rfl rfl ?_ | refine sts rfl rfl ?_
             refine ze ?_
             exact zg ⟨r2, nl, q, p, re, fe9, ln9, co9, fl9, none, s1, s2, s3, k1, k2, k3, ((q + p : Nat) : Int), ln9, co9, C9, cn9, J9⟩ ⟨rfl, rfl, rfl, rfl, fun b k Y h => (by cases h), hj9, hcom9, hcn9⟩ suT (Wk.toT (TOH none ++ (CH T J9 C9 ++ XH X.V J9)) [L.p, L.bb, L.rb, L.ib, 0, b7, b6, b3, b5, X.tkb, X.skb, X.mpb] wlT)
           ·
             refine kq (E' := [(0, pV L.p), (3, pV b3), (5, pV b5), (6, pV b6), (7, pV b7), (8, zI), (9, .bool re), (10, .bool fe9), (11, .int .i64 ln9), (12, .int .i64 co9), (13, .slice (some ⟨ob, 0, none⟩) oY.length oc), (14, .int .i64 fl9), (15, .int .i64 (p : Nat))]) (H' := (RH L T { zc { X with C := C9, cn := cn9 } with r := r2, nl := nl, q := q } ((b7, .cs 57 [.int .i64 a1, .int .i64 a2, .int .i64 a3] []) :: (b6, .cs 57 [.int .i64 k1, .int .i64 k2, .int .i64 k3] []) :: (b3, .cs 57 [.int .i64 s1, .int .i64 s2, .int .i64 s3] []) :: (b5, .cs 163 (tvC T tv) []) :: TKB T X :: SKB X :: MPB X :: ((ob, .buf 5 oc (bytes oY)) :: (CH T J9 C9 ++ XH X.V J9))))) suT (Wk.refl _) ?_
             obtain ⟨ht1', ht2', ht3', ht4', ht5', ht6', ht7'⟩ := htxt9 ob oc oY rfl
             have hY6 : oY.length ≤ 1000001 := by have h7 := ht5'; split at h7 <;> omega
             refine gg 10 ?_
             refine kV (l := [_]) (zs := [.int .u8 0]) [0] rfl rfl rfl rfl kR rfl rfl ?_
             intro nb
             refine zY (sz := 1) (mm := oc) (xs := bytes oY) (news := [.int .u8 10]) rfl rfl rfl rfl omT (by simp) ht2' ht3' rfl (zN (k := .cs 5 [.int .u8 10] []) (Nat.le_refl _) (Nat.le_refl _) (fun j u hj => by simpa [Blk.cell, look, nth] using hj)) rfl (by simp; rfl) omT omT ?_
             intro ob2 oc2 hoc1 hoc2
             refine sas ?_
             refine ze ?_
             have hY : bytes oY ++ [.int .u8 10] = bytes (oY ++ [10]) := by simp [bytes]
             have hL : oY.length + 1 = (oY ++ [10]).length := by simp
             rw [hY, Nat.mul_one, hL]
             exact zg ⟨r2, nl, q, p, re, fe9, ln9, co9, fl9, some (ob2, oc2, oY ++ [10]), s1, s2, s3, k1, k2, k3, a1, a2, a3, C9, cn9, J9⟩ ⟨rfl, rfl, rfl, rfl, fun b k Y h => (by cases h; exact ⟨by simp, by simpa using hoc1, hoc2, (by intro x hx; rcases List.mem_append.1 hx with hx | hx; exact ht4' x hx; simp at hx; omega), by simp; have h7 := ht5'; cases hre : re with | false => simp [hre] at h7; omega | true => have := ht6' hre; simp [hre] at h7; omega⟩), hj9, hcom9, by simpa using hcn9⟩ suT (Wk.toT (CH T J9 C9 ++ XH X.V J9) [L.p, L.bb, L.rb, L.ib, 0, b7, b6, b3, b5, X.tkb, X.skb, X.mpb, ob2] wlT)
          ·
           rintro ⟨r8, nl8, q8, p8, re8, fe8, ln8, co8, fl8, o8, s1, s2, s3, k1, k2, k3, a1, a2, a3, C8, cn8, J8⟩ ⟨e1, e2, e3, e4, htxt8, hj8, hcom8, hcn8⟩
           dsimp only at e1 e2 e3 e4 htxt8 hj8 hcom8 hcn8
           subst e1 e2 e3 e4
           refine zt (RH L T { zc { X with C := C8, cn := cn8 } with r := r2, nl := nl, q := q } ((b7, .cs 57 [.int .i64 a1, .int .i64 a2, .int .i64 a3] []) :: (b6, .cs 57 [.int .i64 k1, .int .i64 k2, .int .i64 k3] []) :: (b3, .cs 57 [.int .i64 s1, .int .i64 s2, .int .i64 s3] []) :: (b5, .cs 163 (tvC T tv) []) :: TKB T X :: SKB X :: MPB X :: (TOH o8 ++ (CH T J8 C8 ++ XH X.V J8)))) [(0, pV L.p), (3, pV b3), (5, pV b5), (6, pV b6), (7, pV b7), (8, zI), (9, .bool re8), (10, .bool fe8), (11, .int .i64 ln8), (12, .int .i64 co8), (13, TO o8), (14, .int .i64 fl8), (15, .int .i64 (p : Nat))] rfl rfl ?_
           refine gg 13 ?_
           refine sad ?_
           refine gg 5 ?_
           refine zw (σ := RS × Nat × Nat × Option (Nat × Nat × List Nat)) (fun x => [(0, pV L.p), (3, pV b3), (5, pV b5), (6, pV b6), (7, pV b7), (9, .bool false), (10, .bool fe8), (13, TO x.2.2.2), (14, .int .i64 fl8), (18, .int .i64 ((q + p : Nat) : Int))]) (fun x => (RH L T { zc { X with C := C8, cn := cn8 } with r := x.1, nl := x.2.1, q := x.2.2.1 } ((b7, .cs 57 [.int .i64 a1, .int .i64 a2, .int .i64 a3] []) :: (b6, .cs 57 [.int .i64 k1, .int .i64 k2, .int .i64 k3] []) :: (b3, .cs 57 [.int .i64 s1, .int .i64 s2, .int .i64 s3] []) :: (b5, .cs 163 (tvC T tv) []) :: TKB T X :: SKB X :: MPB X :: (TOH x.2.2.2 ++ (CH T J8 C8 ++ XH X.V J8))))) (fun x => Inv L T { zc { X with C := C8, cn := cn8 } with r := x.1, nl := x.2.1, q := x.2.2.1 } ∧ q ≤ x.2.2.1 ∧ x.2.2.1 ≤ eol T (q + p) ∧ (q + p < x.2.2.1 → x.2.2.2.isSome = true) ∧ (x.2.2.2.isSome = true → o8.isSome = true ∨ q + p < x.2.2.1) ∧ ∀ b k Y, x.2.2.2 = some (b, k, Y) → 0 < Y.length ∧ Y.length ≤ k ∧ k ≤ 9223372036854775807 ∧ (∀ x ∈ Y, x < 256) ∧ Y.length ≤ (if x.2.2.1 ≤ q + p then q + p else x.2.2.1) - X.q) (fun x => T.length - x.2.2.1) (r2, nl, q, o8) ⟨Inv.com hn9c, omT, omT, omT, fun h => .inl h, fun b k Y ho => (by have := htxt8 b k Y ho; dsimp only; rw [if_pos omT]; exact this)⟩ suT (Wk.toT (TOH o8 ++ (CH T J8 C8 ++ XH X.V J8)) [L.p, L.bb, L.rb, L.ib, 0, b7, b6, b3, b5, X.tkb, X.skb, X.mpb] wlT) ?_
           rintro ⟨r7, nl7, q7, o7⟩ ⟨hn7, hq7, hq7e, hq7s, hq7o, htxt7⟩
           dsimp only at hq7 hq7e hq7s hq7o htxt7
           replace hn7 : Inv L T { zc { X with C := C8, cn := cn8 } with r := r7, nl := nl7, q := q7 } := hn7
           refine zt (RH L T { zc { X with C := C8, cn := cn8 } with r := r7, nl := nl7, q := q7 } ((b7, .cs 57 [.int .i64 a1, .int .i64 a2, .int .i64 a3] []) :: (b6, .cs 57 [.int .i64 k1, .int .i64 k2, .int .i64 k3] []) :: (b3, .cs 57 [.int .i64 s1, .int .i64 s2, .int .i64 s3] []) :: (b5, .cs 163 (tvC T tv) []) :: TKB T X :: SKB X :: MPB X :: (TOH o7 ++ (CH T J8 C8 ++ XH X.V J8)))) [(0, pV L.p), (3, pV b3), (5, pV b5), (6, pV b6), (7, pV b7), (9, .bool false), (10, .bool fe8), (13, TO o7), (14, .int .i64 fl8), (18, .int .i64 ((q + p : Nat) : Int))] rfl rfl ?_
           refine kf ?_
           refine zR { zc { X with C := C8, cn := cn8 } with r := r7, nl := nl7, q := q7 } 1 hn7 (fun hlt => ?_) (fun hlt => ?_) (fun r6 hn6 hb6 => ?_)
           ·
             refine gg 16 ?_
             exact zq hn7 hlt exT
           ·
             refine gg 9 ?_
             refine za rfl rfl rfl (kc L T { zc { X with C := C8, cn := cn8 } with r := r7, nl := nl7, q := q7 } 1 he (.inl hn7) hlt omT) ?_
             rintro _ _ ⟨rfl, r6, h1, h2, h3, rfl⟩
             refine lS ?_
             refine gg 6 ?_
             exact zr h1 h2 h3 exT
           ·
             replace hn6 : Inv L T { zc { X with C := C8, cn := cn8 } with r := r6, nl := nl7, q := q7 } := hn6
             replace hb6 : Rdy T { zc { X with C := C8, cn := cn8 } with r := r6, nl := nl7, q := q7 } 1 := hb6
             refine zt (RH L T { zc { X with C := C8, cn := cn8 } with r := r6, nl := nl7, q := q7 } _) _ rfl rfl ?_
             have hl6 : r6.pos + 1 ≤ r6.blen := hb6.len
             have hpq6 : r6.pos ≤ q7 := hn6.pq
             have hbl6 : r6.blen ≤ 1536 := hn6.bl
             by_cases h7 : q7 < q + p
             ·
               have h7g := hgap2 (q7 - q) omT
               rw [show q + (q7 - q) = q7 by omega] at h7g
               rcases h7g with h7g | h7g
               ·
                refine gg 10 ?_
                refine dca (qd (b := false) hn6 (hb6.lt omT) (by first | assumption | (unfold kE; first | exact decide_eq_true omT | exact decide_eq_false omT))) ?_
                refine gg 17 ?_
                refine za rfl rfl rfl (kG L T { zc { X with C := C8, cn := cn8 } with r := r6, nl := nl7, q := q7 } 1 hn6 hb6 omT omT omT) ?_
                rintro _ _ ⟨rfl, r7, nl7, hn7, hb7, rfl⟩
                replace hn7 : Inv L T { zc { X with C := C8, cn := cn8 } with r := r7, nl := nl7, q := (q7 + 1) } := hn7
                replace hb7 : Rdy T { zc { X with C := C8, cn := cn8 } with r := r7, nl := nl7, q := (q7 + 1) } 0 := hb7
                refine lS ?_
                have hl7 : r7.pos + 0 ≤ r7.blen := hb7.len
                have hpq7 : r7.pos ≤ (q7 + 1) := hn7.pq
                have hbl7 : r7.blen ≤ 1536 := hn7.bl
                refine ze ?_
                refine kJ ?_
                exact zh (r7, nl7, (q7 + 1), o7) ⟨hn7, omT, omT, fun h => (by dsimp only at h; omega), fun h => (hq7o h).imp id (fun h => by dsimp only; omega), fun b k Y ho => (by have := htxt7 b k Y ho; rw [if_pos omT] at this; dsimp only; rw [if_pos omT]; exact this)⟩ omT suT (Wk.toT (TOH o7 ++ (CH T J8 C8 ++ XH X.V J8)) [L.p, L.bb, L.rb, L.ib, 0, b7, b6, b3, b5, X.tkb, X.skb, X.mpb] wlT)
               ·
                refine gg 10 ?_
                refine dca (qd (b := true) hn6 (hb6.lt omT) (by first | assumption | (unfold kE; first | exact decide_eq_true omT | exact decide_eq_false omT))) ?_
                refine gg 18 ?_
                refine zR { zc { X with C := C8, cn := cn8 } with r := r6, nl := nl7, q := q7 } 2 hn6 (fun hlt => ?_) (fun hlt => ?_) (fun r8 hn8 hb8 => ?_)
                ·
                 refine gg 16 ?_
                 exact zq hn6 hlt exT
                ·
                 refine gg 9 ?_
                 refine za rfl rfl rfl (kc L T { zc { X with C := C8, cn := cn8 } with r := r6, nl := nl7, q := q7 } 2 he (.inl hn6) hlt omT) ?_
                 rintro _ _ ⟨rfl, r8, h1, h2, h3, rfl⟩
                 refine lS ?_
                 refine gg 6 ?_
                 exact zr h1 h2 h3 exT
                ·
                 replace hn8 : Inv L T { zc { X with C := C8, cn := cn8 } with r := r8, nl := nl7, q := q7 } := hn8
                 replace hb8 : Rdy T { zc { X with C := C8, cn := cn8 } with r := r8, nl := nl7, q := q7 } 2 := hb8
                 refine zt (RH L T { zc { X with C := C8, cn := cn8 } with r := r8, nl := nl7, q := q7 } _) _ rfl rfl ?_
                 have hl8 : r8.pos + 2 ≤ r8.blen := hb8.len
                 have hpq8 : r8.pos ≤ q7 := hn8.pq
                 have hbl8 : r8.blen ≤ 1536 := hn8.bl
                 refine zi (smv ?_)
                 refine za rfl rfl rfl (qG L T { zc { X with C := C8, cn := cn8 } with r := r8, nl := nl7, q := q7 } 2 hn8 hb8 omT omT omT) ?_
                 rintro _ _ ⟨rfl, r9, nl9, hn9, hb9, rfl⟩
                 replace hn9 : Inv L T { zc { X with C := C8, cn := cn8 } with r := r9, nl := nl9, q := (q7 + 1) } := hn9
                 replace hb9 : Rdy T { zc { X with C := C8, cn := cn8 } with r := r9, nl := nl9, q := (q7 + 1) } 1 := hb9
                 refine lS ?_
                 have hl9 : r9.pos + 1 ≤ r9.blen := hb9.len
                 have hpq9 : r9.pos ≤ (q7 + 1) := hn9.pq
                 have hbl9 : r9.blen ≤ 1536 := hn9.bl
                 refine ze ?_
                 refine kJ ?_
                 exact zh (r9, nl9, (q7 + 1), o7) ⟨hn9, omT, omT, fun h => (by dsimp only at h; omega), fun h => (hq7o h).imp id (fun h => by dsimp only; omega), fun b k Y ho => (by have := htxt7 b k Y ho; rw [if_pos omT] at this; dsimp only; rw [if_pos omT]; exact this)⟩ omT suT (Wk.toT (TOH o7 ++ (CH T J8 C8 ++ XH X.V J8)) [L.p, L.bb, L.rb, L.ib, 0, b7, b6, b3, b5, X.tkb, X.skb, X.mpb] wlT)
             ·
               by_cases h7e : q7 < eol T (q + p)
               ·
                obtain ⟨h7l, h7n⟩ := eol_in omT h7e
                have h7a := hn6.asc _ (at_mem h7l)
                refine gg 10 ?_
                refine dca (qd (b := false) hn6 (hb6.lt omT) (by first | assumption | (unfold kE; first | exact decide_eq_true omT | exact decide_eq_false omT))) ?_
                refine gg 15 ?_
                rcases o7 with _ | ⟨ob, oc, oY⟩
                ·
                 have h7q : q7 = q + p := by
                   rcases Nat.lt_or_ge (q + p) q7 with h | h
                   · have := hq7s h; cases this
                   · omega
                 refine kq (E' := [(0, pV L.p), (3, pV b3), (5, pV b5), (6, pV b6), (7, pV b7), (9, .bool false), (10, .bool fe8), (13, zS), (14, .int .i64 fl8), (18, .int .i64 ((q + p : Nat) : Int))]) (H' := (RH L T { zc { X with C := C8, cn := cn8 } with r := r6, nl := nl7, q := q7 } ((b7, .cs 57 [.int .i64 a1, .int .i64 a2, .int .i64 a3] []) :: (b6, .cs 57 [.int .i64 k1, .int .i64 k2, .int .i64 k3] []) :: (b3, .cs 57 [.int .i64 s1, .int .i64 s2, .int .i64 s3] []) :: (b5, .cs 163 (tvC T tv) []) :: TKB T X :: SKB X :: MPB X :: ((CH T J8 C8 ++ XH X.V J8))))) suT (Wk.refl _) ?_
                 refine gg 3 ?_
                 refine za rfl rfl rfl (read_go0 L T { zc { X with C := C8, cn := cn8 } with r := r6, nl := nl7, q := q7 } 1 none 0 hn6 hb6 omT h7l h7n) ?_
                 rintro _ _ ⟨r10, nl10, nb, hn10, hb10, rfl, rfl⟩
                 replace hn10 : Inv L T { zc { X with C := C8, cn := cn8 } with r := r10, nl := nl10, q := (q7 + 1) } := hn10
                 replace hb10 : Rdy T { zc { X with C := C8, cn := cn8 } with r := r10, nl := nl10, q := (q7 + 1) } 0 := hb10
                 refine lS ?_
                 have hl10 : r10.pos + 0 ≤ r10.blen := hb10.len
                 have hpq10 : r10.pos ≤ (q7 + 1) := hn10.pq
                 have hbl10 : r10.blen ≤ 1536 := hn10.bl
                 refine gg 3 ?_
                 exact zh (r10, nl10, (q7 + 1), some (nb, 32, [at_ T q7])) ⟨hn10, omT, omT, fun _ => rfl, fun _ => .inr (by dsimp only; omega), fun b k Y ho => (by cases ho; exact ⟨by simp, by simp, by decide, by intro x hx; simp at hx; omega, by dsimp only; rw [if_neg omT]; simp; omega⟩)⟩ omT suT (Wk.toT (CH T J8 C8 ++ XH X.V J8) [L.p, L.bb, L.rb, L.ib, 0, b7, b6, b3, b5, X.tkb, X.skb, X.mpb, nb] wlT)
                ·
                 refine kq (E' := [(0, pV L.p), (3, pV b3), (5, pV b5), (6, pV b6), (7, pV b7), (9, .bool false), (10, .bool fe8), (13, .slice (some ⟨ob, 0, none⟩) oY.length oc), (14, .int .i64 fl8), (18, .int .i64 ((q + p : Nat) : Int))]) (H' := (RH L T { zc { X with C := C8, cn := cn8 } with r := r6, nl := nl7, q := q7 } ((b7, .cs 57 [.int .i64 a1, .int .i64 a2, .int .i64 a3] []) :: (b6, .cs 57 [.int .i64 k1, .int .i64 k2, .int .i64 k3] []) :: (b3, .cs 57 [.int .i64 s1, .int .i64 s2, .int .i64 s3] []) :: (b5, .cs 163 (tvC T tv) []) :: TKB T X :: SKB X :: MPB X :: ((ob, .buf 5 oc (bytes oY)) :: (CH T J8 C8 ++ XH X.V J8))))) suT (Wk.refl _) ?_
                 obtain ⟨ht1', ht2', ht3', ht4', ht5'⟩ := htxt7 ob oc oY rfl
                 have hY6 : oY.length ≤ 1000001 := by have h9 := ht5'; split at h9 <;> omega
                 refine gg 3 ?_
                 refine za rfl rfl rfl (read_go L T { zc { X with C := C8, cn := cn8 } with r := r6, nl := nl7, q := q7 } 1 oY ob oc ht1' ht2' ht3' omT hn6 hb6 omT h7l h7n) ?_
                 rintro _ _ ⟨r11, nl11, nb, nc, hn11, hb11, hc1, hc2, rfl, rfl⟩
                 replace hn11 : Inv L T { zc { X with C := C8, cn := cn8 } with r := r11, nl := nl11, q := (q7 + 1) } := hn11
                 replace hb11 : Rdy T { zc { X with C := C8, cn := cn8 } with r := r11, nl := nl11, q := (q7 + 1) } 0 := hb11
                 refine lS ?_
                 have hl11 : r11.pos + 0 ≤ r11.blen := hb11.len
                 have hpq11 : r11.pos ≤ (q7 + 1) := hn11.pq
                 have hbl11 : r11.blen ≤ 1536 := hn11.bl
                 refine gg 3 ?_
                 have hL : oY.length + 1 = (oY ++ [at_ T q7]).length := by simp
                 rw [hL] at *
                 exact zh (r11, nl11, (q7 + 1), some (nb, nc, oY ++ [at_ T q7])) ⟨hn11, omT, omT, fun _ => rfl, fun _ => .inr (by dsimp only; omega), fun b k Y ho => (by cases ho; exact ⟨by simp, by simpa using hc1, hc2, by intro x hx; rcases List.mem_append.1 hx with hx | hx; exact ht4' x hx; simp at hx; omega, by dsimp only; rw [if_neg omT]; have h9 := ht5'; simp; split at h9 <;> omega⟩)⟩ omT suT (Wk.toT (CH T J8 C8 ++ XH X.V J8) [L.p, L.bb, L.rb, L.ib, 0, b7, b6, b3, b5, X.tkb, X.skb, X.mpb, nb] wlT)
               ·
                have h7q : q7 = eol T (q + p) := by omega
                have h7b : at_ T q7 = 10 ∨ at_ T q7 = 0 := by
                 rw [h7q]
                 by_cases hx : eol T (q + p) < T.length
                 · left
                   by_cases hy : at_ T (eol T (q + p)) = 10
                   · exact hy
                   · exact absurd ⟨hx, hy⟩ heo
                 · right; exact qS omT
                refine gg 10 ?_
                refine dca (qd (b := true) hn6 (hb6.lt omT) (by first | assumption | (unfold kE; first | exact decide_eq_true omT | exact decide_eq_false omT))) ?_
                refine gg 65 ?_
                refine sqz (qto (q_add rfl rfl) (vi (by decide : _ = (1 : Int)))) ?_
                refine sas ?_
                refine ze ?_
                exact zh ⟨r6, nl7, q7, 1, false, fe8, (lnT T q7), 0, fl8, o7, s1, s2, s3, k1, k2, k3, a1, a2, a3, C8, cn8, J8⟩ ⟨hn6, omT, omT, fun i hi' => (by dsimp only at hi' ⊢; obtain rfl : i = 0 := omT; rw [Nat.add_zero]; rcases h7b with h | h; exact .inr (.inl h); exact .inr (.inr (by rcases Nat.lt_or_ge q7 T.length with h9 | h9; (have := hn6.asc _ (at_mem h9); omega); exact h9))), (by dsimp only; rw [h7q, ← hsk3, hsk2, hskq]), fun h => (by dsimp only at h; omega), fun _ => ⟨by dsimp only; omega, h7b⟩, fun _ => hb6, fun b k Y ho => (by have h9 := htxt7 b k Y ho; rw [if_neg omT] at h9; obtain ⟨g1, g2, g3, g4, g5⟩ := h9; exact ⟨g1, g2, g3, g4, by dsimp only; simp; exact g5, fun h => by cases h⟩), hj8, hcom8, (by have h9 := hcn8; refine ⟨?_, h9.2⟩; have := h9.1; dsimp only; split <;> (split at this <;> omega))⟩ omT suT (Wk.toT (TOH o7 ++ (CH T J8 C8 ++ XH X.V J8)) [L.p, L.bb, L.rb, L.ib, 0, b7, b6, b3, b5, X.tkb, X.skb, X.mpb] wlT)
         ·
          refine gg 11 ?_
          refine dad ?_
          refine dix ?_
          refine zn (bpk omT) rfl ?_
          refine gg 10 ?_
          have h8 := hp0 h35p
          exact zg ⟨r2, nl, q, p, re, fe9, ln9, co9, fl9, o9, s1, s2, s3, k1, k2, k3, a1, a2, a3, C9, cn9, J9⟩ ⟨omT, Inv.com hn9c, hmore h8, ⟨(hb9c.le (j := 1) omT).len, (hb9c.le (j := 1) omT).un⟩, hskq, fun b k Y ho => (by obtain ⟨h1, h2, h3, h4, h5, h6, h7⟩ := htxt9 b k Y ho; exact ⟨h1, h2, h3, h4, by cases hre : re with | false => simp [hre] at h5; omega | true => have := h6 hre; simp [hre] at h5; omega⟩), hj9, hcom9, hcn9⟩ suT (Wk.toT (TOH o9 ++ (CH T J9 C9 ++ XH X.V J9)) [L.p, L.bb, L.rb, L.ib, 0, b7, b6, b3, b5, X.tkb, X.skb, X.mpb] wlT)
   ·
    refine gg 11 ?_
    exact zg ⟨r, nl, q, p, re, fe, ln, co, fl, o, s1, s2, s3, k1, k2, k3, a1, a2, a3, C, cn, J⟩ (hc0.pz (by dsimp only; omega)) suT (Wk.toT (TOH o ++ (CH T J C ++ XH X.V J)) [L.p, L.bb, L.rb, L.ib, 0, b7, b6, b3, b5, X.tkb, X.skb, X.mpb] wlT)
  ·
   rintro ⟨r, nl, q, p, re, fe, ln, co, fl, o, s1, s2, s3, k1, k2, k3, a1, a2, a3, C, cn, J⟩ hz
   obtain ⟨hp512, hinv, ⟨hqq, hbr⟩, hrdy, hskq, htxt, hj, hcom, hcn⟩ := id hz
   dsimp only at hp512 hqq hbr hskq htxt hj hcom hcn
   replace hinv : Inv L T { zc { X with C := C, cn := cn } with r := r, nl := nl, q := q } := hinv
   have hql := hinv.qlen
   dsimp only at hql
   refine zt (RH L T { zc { X with C := C, cn := cn } with r := r, nl := nl, q := q } ((b7, .cs 57 [.int .i64 a1, .int .i64 a2, .int .i64 a3] []) :: (b6, .cs 57 [.int .i64 k1, .int .i64 k2, .int .i64 k3] []) :: (b3, .cs 57 [.int .i64 s1, .int .i64 s2, .int .i64 s3] []) :: (b5, .cs 163 (tvC T tv) []) :: TKB T X :: SKB X :: MPB X :: (TOH o ++ (CH T J C ++ XH X.V J)))) [(0, pV L.p), (3, pV b3), (5, pV b5), (6, pV b6), (7, pV b7), (8, zI), (9, .bool re), (10, .bool fe), (11, .int .i64 ln), (12, .int .i64 co), (13, TO o), (14, .int .i64 fl), (15, .int .i64 (p : Nat))] rfl rfl ?_
   refine zd ?_
   rcases o with _ | ⟨ob, oc, oY⟩
   ·
    refine gg 16 ?_
    exact zm rfl rfl (Wk.toT (TOH none ++ (CH T J C ++ XH X.V J)) [L.p, L.bb, L.rb, L.ib, 0, X.tkb, X.skb, X.mpb] wlT) ⟨rfl, r, nl, q, C, cn, J, rfl, hz.si hi rfl, hskq, hqq, hbr, hrdy, hj⟩
   ·
    refine kq (E' := [(0, pV L.p), (3, pV b3), (5, pV b5), (6, pV b6), (7, pV b7), (8, zI), (9, .bool re), (10, .bool fe), (11, .int .i64 ln), (12, .int .i64 co), (13, .slice (some ⟨ob, 0, none⟩) oY.length oc), (14, .int .i64 fl), (15, .int .i64 (p : Nat))]) (H' := (RH L T { zc { X with C := C, cn := cn } with r := r, nl := nl, q := q } ((b7, .cs 57 [.int .i64 a1, .int .i64 a2, .int .i64 a3] []) :: (b6, .cs 57 [.int .i64 k1, .int .i64 k2, .int .i64 k3] []) :: (b3, .cs 57 [.int .i64 s1, .int .i64 s2, .int .i64 s3] []) :: (b5, .cs 163 (tvC T tv) []) :: TKB T X :: SKB X :: MPB X :: ((ob, .buf 5 oc (bytes oY)) :: (CH T J C ++ XH X.V J))))) suT (Wk.refl _) ?_
    obtain ⟨ht1', ht2', ht3', ht4', ht5'⟩ := htxt ob oc oY rfl
    refine gg 8 ?_
    refine qF (Wk.trans (Wk.toR [L.p, L.bb, L.rb, L.ib, 0, b7, b6, b3, b5, X.tkb, X.skb, X.mpb, ob] wlT) (Wk.text (A := [PB L T { zc { X with C := C, cn := cn } with r := r, nl := nl, q := q }, BB L T { zc { X with C := C, cn := cn } with r := r, nl := nl, q := q }, RB L T { zc { X with C := C, cn := cn } with r := r, nl := nl, q := q }, IB L T, GE L, (b7, .cs 57 [.int .i64 a1, .int .i64 a2, .int .i64 a3] []), (b6, .cs 57 [.int .i64 k1, .int .i64 k2, .int .i64 k3] []), (b3, .cs 57 [.int .i64 s1, .int .i64 s2, .int .i64 s3] []), (b5, .cs 163 (tvC T tv) []), TKB T X, SKB X, MPB X]) (X := oY) ht4')) ?_
    refine lS ?_
    refine ke (fun i => i == 21 || i == 22 || i == 25) (fun i => i == 25) ([PB L T { zc { X with C := C, cn := cn } with r := r, nl := nl, q := q }, (b7, .cs 57 [.int .i64 a1, .int .i64 a2, .int .i64 a3] []), (b6, .cs 57 [.int .i64 k1, .int .i64 k2, .int .i64 k3] []), (b3, .cs 57 [.int .i64 s1, .int .i64 s2, .int .i64 s3] [])]) zF ?_
    refine mqh 0 rfl kR rfl rfl (fun _ => zj rfl) ?_
    refine mqh 1 rfl kR rfl rfl (fun _ => zj rfl) ?_
    refine mqh 2 rfl kR rfl rfl (fun _ => zJ rfl) ?_
    refine mqh 3 rfl kR rfl rfl (fun _ => zM rfl) ?_
    refine mqh 4 rfl kR rfl rfl (fun _ => zp rfl rfl rfl rfl) ?_
    refine mq 5 rfl kR rfl rfl (zG rfl rfl rfl rfl) ?_
    refine mq 6 rfl kR rfl rfl (zG rfl rfl rfl rfl) ?_
    refine mq 7 rfl kR rfl rfl (zG rfl rfl rfl rfl) ?_
    refine mq 8 rfl kR rfl rfl (zj rfl) ?_
    refine mq 9 rfl kR rfl rfl (zJ rfl) ?_
    refine mq 10 rfl kR rfl rfl (zM rfl) ?_
    refine mq 11 rfl kR rfl rfl (zM rfl) ?_
    refine mq 12 rfl kR rfl rfl (zp rfl rfl rfl rfl) ?_
    refine mq 13 rfl kR rfl rfl (zj rfl) ?_
    refine mq 14 rfl kR rfl rfl (q_addn rfl rfl omT) ?_
    refine mq 15 rfl kR rfl rfl (q_subn (b := 1) rfl rfl omT) ?_
    refine mq 16 rfl kR rfl rfl (zj rfl) ?_
    refine mq 17 rfl kR rfl rfl (zj rfl) ?_
    refine mq 18 rfl kR rfl rfl (zu (l := [_, _, _]) (zs := [zI, zI, zI]) [0, 1, 2] rfl rfl kR) ?_
    refine mq 19 rfl kR rfl rfl (zj rfl) ?_
    refine mq 20 rfl kR rfl rfl (zu (l := [_, _, _, _, _, _, _, _, _, _, _, _, _, _, _]) (zs := [zI, zI, zI, zI, zI, zI, zI, zI, zI, zI, zI, zI, zS, zS, zS]) [0, 3, 6, 9, 12, 13, 14] rfl rfl kR) ?_
    refine mql 21 rfl kR (fun hcl => ?_)
    refine kV (l := [_, _, _, _, _, _, _, _, _, _, _, _, _, _, _]) (zs := [zI, zI, zI, zI, zI, zI, zI, zI, zI, zI, zI, zI, zS, zS, zS]) [0] rfl rfl rfl rfl kR rfl rfl ?_
    intro cb
    refine mqn 21 hcl ?_
    refine mql 22 rfl kR (fun hcl => ?_)
    refine wu rfl rfl rfl hcom rfl inferInstance rfl (kK rfl) (CP_all ⟨JSl.new _ _ _ _ _ (Nat.le_refl _) ht2', ht5'⟩ qE qE) (by have := hcn; exact omT) ?_
    intro cb cc hcc1 hcc2
    refine mqn 22 hcl (mq 23 rfl kR rfl rfl (zJ rfl) ?_)
    refine mq 24 rfl kR rfl rfl (zM rfl) ?_
    refine mql 25 rfl kR (fun hcl => ?_)
    refine st1 rfl rfl ?_
    refine zO 25 rfl kR (gg 7 ?_)
    exact zm rfl rfl (Wk.toT (XH X.V ((ob, oc, oY.length) :: J)) [L.p, L.bb, L.rb, L.ib, 0, X.tkb, X.skb, X.mpb, cb] wlT) ⟨rfl, r, nl, q, some (cb, cc), cn + 1, _, rfl, PZ.si (c := ⟨r, nl, q, p, re, fe, ln, co, fl, none, s1, s2, s3, k1, k2, k3, a1, a2, a3, some (cb, cc), (cn + 1), ((ob, oc, oY.length) :: J)⟩) hi ⟨hp512, Inv.com hinv, ⟨hqq, hbr⟩, ⟨hrdy.len, hrdy.un⟩, hskq, fun b k Y h => (by cases h), hj.trans (JLe.cons _ _), .inr ⟨cb, cc, rfl, hcc1, hcc2⟩, by have := hcn; simp at this; simp; omega⟩ rfl, hskq, hqq, hbr, ⟨hrdy.len, hrdy.un⟩, hj.trans (JLe.cons _ _)⟩
end Go.Proofs.YtnfbcfflkphbiaaGreatDoor
