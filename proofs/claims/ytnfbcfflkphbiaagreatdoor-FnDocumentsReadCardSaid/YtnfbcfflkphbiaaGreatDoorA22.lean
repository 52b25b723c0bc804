/-
  Texts of the proof, joined: F13 F14 F15 F16 F17 F18 E16 E19. No Go text.
-/
import Derived.Test.YtnfbcfflkphbiaaGreatDoorA01
import Derived.Test.YtnfbcfflkphbiaaGreatDoorA08
import Derived.Test.YtnfbcfflkphbiaaGreatDoorA21
import Derived.Test.YtnfbcfflkphbiaaGreatDoorA03
import Derived.Test.YtnfbcfflkphbiaaGreatDoorA17
import Derived.Test.YtnfbcfflkphbiaaGreatDoorA06
namespace Go.Proofs.YtnfbcfflkphbiaaGreatDoor
open Go Go.Proofs Tryz
set_option linter.all false
set_option maxRecDepth 100000
set_option maxHeartbeats 8000000
structure Str (T : List Nat) (p : Nat → Nat) (f : Nat → Tk) (N : Nat) : Prop where
 ss : f 0 = .ss
 step : ∀ j, 1 ≤ j → NxAt T (p j) (f j) (p (j + 1))
 fin : ∀ j, N ≤ j → f j = .se
 n1 : 1 ≤ N
 big : N ≤ 400000
structure QR (L : Lay) (T : List Nat) (p : Nat → Nat) (f : Nat → Tk) (N : Nat) (X : SS) (i j : Nat) : Prop where
 si : SI L T X
 cnt : j = i + (X.tl.length - X.th)
 tok : ∀ k tv, (X.tl.drop X.th)[k]? = some tv → TVok X.V tv (f (i + k))
 pl : sk T X.q = p j
 pf : N < j → X.pf = true
 tp : X.tp = i
 ty : ∀ t ∈ X.tl, t.typ ≠ 7 ∧ t.typ ≠ 9 ∧ t.typ ≠ 14 ∧ t.typ ≠ 15 ∧ t.typ ≠ 17
 ne : 1 ≤ X.tl.length
 lj : X.tl.length ≤ j
 jb : j ≤ N + i + 4
 ib : i ≤ N + 1
 av : X.ta = true → i + 1 ≤ j
structure Kp (X X' : SS) : Prop where
 j : JLe X.J X'.J
 v : ∀ x ∈ X.V, x ∈ X'.V
 st : X'.st = X.st
 stv : X'.stv = X.stv
 tdv : X'.tdv = X.tdv
 sep : X'.sep = X.sep
theorem Kp.refl (X : SS) : Kp X X := ⟨JLe.refl _, fun _ h => h, rfl, rfl, rfl, rfl⟩
theorem Kp.trans {X Y Z : SS} (h : Kp X Y) (k : Kp Y Z) : Kp X Z := ⟨h.j.trans k.j, fun x hx => k.v x (h.v x hx), k.st.trans h.st, k.stv.trans h.stv, k.tdv.trans h.tdv, k.sep.trans h.sep⟩
theorem Fet.kp {L : Lay} {T : List Nat} {X X' : SS} {tv : TV} (h : Fet L T X X' tv) : Kp X X' := ⟨h.j, h.v, h.st, h.stv, h.tdv, h.sep⟩
theorem TVok.typ9 {V : VL} {tv : TV} {tk : Tk} (h : TVok V tv tk) : tv.typ ≠ 7 ∧ tv.typ ≠ 9 ∧ tv.typ ≠ 14 ∧ tv.typ ≠ 15 ∧ tv.typ ≠ 17 := by
 cases tk <;> simp only [TVok] at h <;> omega
theorem QR.fet {L : Lay} {T : List Nat} {p : Nat → Nat} {f : Nat → Tk} {N : Nat} {X X' : SS} {i j : Nat} {tv : TV} (hs : Str T p f N) (h : QR L T p f N X i j) (hF : Fet L T X X' tv) (hT : TVok X'.V tv (f j)) (hk : sk T X'.q = p (j + 1)) (hp : f j = .se → X'.pf = true) (hj : j + 1 ≤ N + i + 4) : QR L T p f N X' i (j + 1) := by
 have hl : (X'.tl.drop X'.th).length = (X.tl.drop X.th).length + 1 := by rw [hF.dr]; simp
 rw [List.length_drop, List.length_drop] at hl
 have hth := hF.th
 have hthl := h.si.thl
 have hcnt := h.cnt
 have hlj := h.lj
 obtain ⟨pre, hpre⟩ := hF.pre
 refine ⟨hF.si, by omega, fun k tv' hk' => ?_, hk, fun hN => hp (hs.fin j omT), by rw [hF.tp, h.tp], fun t ht => ?_, by rw [hpre]; simp, by omega, hj, h.ib, fun ha => ?_⟩
 · rw [hF.dr] at hk'
   by_cases hlt : k < (X.tl.drop X.th).length
   · rw [List.getElem?_append_left hlt] at hk'
     exact (h.tok k tv' hk').mono hF.v
   · rw [List.getElem?_append_right omT] at hk'
     have h0 : k - (X.tl.drop X.th).length = 0 := by
      have := (List.getElem?_eq_some_iff.1 hk').1
      simp at this
      rw [List.length_drop]
      omega
     rw [h0] at hk'
     have : tv = tv' := by simpa using hk'
     subst this
     rw [List.length_drop] at h0 hlt
     have : i + k = j := by omega
     rw [this]
     exact hT
 · rcases hF.mem t ht with h1 | h1
   · exact h.ty t h1
   · subst h1; exact hT.typ9
 · have := h.av (by rw [← hF.ta]; exact ha)
   omega
theorem QR.head {L : Lay} {T : List Nat} {p : Nat → Nat} {f : Nat → Tk} {N : Nat} {X : SS} {i j : Nat} (h : QR L T p f N X i j) (hj : i + 1 ≤ j) : ∃ tv, X.tl[X.th]? = some tv ∧ TVok X.V tv (f i) ∧ tv.typ ≠ 9 := by
 have hcnt := h.cnt
 have hlt : X.th < X.tl.length := by omega
 refine ⟨X.tl[X.th], List.getElem?_eq_getElem hlt, ?_, (h.ty _ (List.getElem_mem hlt)).2.1⟩
 refine h.tok 0 _ ?_
 rw [List.getElem?_drop]
 exact List.getElem?_eq_getElem hlt
theorem QR.unf {L : Lay} {T : List Nat} {p : Nat → Nat} {f : Nat → Tk} {N : Nat} {X : SS} {i j : Nat} {a b c : Sl} {k : Nat} {J : JL} (h : QR L T p f N X i j) (hs : SI L T { X with head := a, line := b, foot := c, comh := k, J := J }) : QR L T p f N { X with head := a, line := b, foot := c, comh := k, J := J } i j :=
 ⟨hs, h.cnt, h.tok, h.pl, h.pf, h.tp, h.ty, h.ne, h.lj, h.jb, h.ib, h.av⟩
theorem SI.taq {L : Lay} {T : List Nat} {X : SS} {a : Bool} (h : SI L T X) : SI L T { X with ta := a } := by
 have hi := h.inv
 obtain ⟨small, asc, icap, qlen, nlq, pq, pbl, slack, bl, unl, rp, rl, offl, ip, ipl, eofi, enc, e_⟩ := hi
 exact ⟨⟨small, asc, icap, qlen, nlq, pq, pbl, slack, bl, unl, rp, rl, offl, ip, ipl, eofi, enc, e_⟩, h.sml, h.tlc, h.tkc, h.thl, h.tpl, h.skc, h.cnq, h.cmh, h.com, h.jh, h.jl, h.jf⟩
theorem QR.taq {L : Lay} {T : List Nat} {p : Nat → Nat} {f : Nat → Tk} {N : Nat} {X : SS} {i j : Nat} (h : QR L T p f N X i j) (hj : i + 1 ≤ j) : QR L T p f N { X with ta := true } i j :=
 ⟨h.si.taq, h.cnt, h.tok, h.pl, h.pf, h.tp, h.ty, h.ne, h.lj, h.jb, h.ib, fun _ => hj⟩
theorem SI.skp {L : Lay} {T : List Nat} {X : SS} {b : Bool} (h : SI L T X) (h1 : X.th < X.tl.length) (h2 : X.tp < 1000000) : SI L T { X with ta := false, tp := X.tp + 1, th := X.th + 1, sep := b } := by
 have hi := h.inv
 obtain ⟨small, asc, icap, qlen, nlq, pq, pbl, slack, bl, unl, rp, rl, offl, ip, ipl, eofi, enc, e_⟩ := hi
 exact ⟨⟨small, asc, icap, qlen, nlq, pq, pbl, slack, bl, unl, rp, rl, offl, ip, ipl, eofi, enc, e_⟩, h.sml, h.tlc, h.tkc, h1, ⟨h2, Nat.succ_le_succ h.tpl.2⟩, h.skc, h.cnq, h.cmh, h.com, h.jh, h.jl, h.jf⟩
theorem QR.skp {L : Lay} {T : List Nat} {p : Nat → Nat} {f : Nat → Tk} {N : Nat} {X : SS} {i j : Nat} {b : Bool} (hs : Str T p f N) (h : QR L T p f N X i j) (hj : i + 1 ≤ j) (hi : i ≤ N) : QR L T p f N { X with ta := false, tp := X.tp + 1, th := X.th + 1, sep := b } (i + 1) j := by
 have hcnt := h.cnt
 have hjb := h.jb
 have hbig := hs.big
 refine ⟨h.si.skp omT (by rw [h.tp]; omega), by dsimp only; omega, fun k tv hk => ?_, h.pl, h.pf, by dsimp only; rw [h.tp], h.ty, h.ne, h.lj, by omega, by omega, fun e => by cases e⟩
 have := h.tok (k + 1) tv (by
  rw [List.getElem?_drop] at hk ⊢
  rw [← hk]
  congr 1
  dsimp only
  omega)
 rw [show i + 1 + k = i + (k + 1) by omega]
 exact this
theorem fmt_ok (L : Lay) (T : List Nat) (p : Nat → Nat) (f : Nat → Tk) (N : Nat) (X : SS) (i j : Nat) (he : Eof L) (hs : Str T p f N) (hq : QR L T p f N X i j) :
  Fn prog 127 [pV L.p] (SH L T X)
   (fun v H' => v = .bool true ∧ ∃ X' j', H' = SH L T X' ∧ QR L T p f N X' i j' ∧ X'.ta = true ∧ i + 1 ≤ j' ∧ Kp X X') := by
 have hbig := hs.big
 refine zo func127 rfl rfl rfl ?_
 intro w
 refine gg 5 ?_
 refine zL (σ := SS × Nat) (fun _ => [(0, pV L.p), (2, .bool false)]) (fun x => SH L T x.1) (fun x => QR L T p f N x.1 i x.2 ∧ Kp X x.1 ∧ i + 1 ≤ x.2) ?_ ?_
 ·
  refine kf ?_
  refine zw (σ := SS × Nat) (fun _ => [(0, pV L.p), (2, .bool false)]) (fun x => SH L T x.1) (fun x => QR L T p f N x.1 i x.2 ∧ Kp X x.1) (fun x => N + i + 4 - x.2) (X, j) ⟨hq, Kp.refl _⟩ suT (Wk.refl _) ?_
  rintro ⟨Y, m⟩ ⟨hy, hk⟩
  dsimp only at hy hk
  have hcnt := hy.cnt
  have htlc := hy.si.tlc
  have hthl := hy.si.thl
  have hlj := hy.lj
  have hjb := hy.jb
  have hib := hy.ib
  have hskc := hy.si.skc.1
  refine zt (SH L T Y) [(0, pV L.p), (2, .bool false)] rfl rfl (kf ?_)
  refine zL (σ := Unit) (fun _ => [(0, pV L.p), (2, .bool false)]) (fun _ => SH L T Y) (fun _ => m ≤ N ∨ m ≤ i + 2) ?_ ?_
  ·
   by_cases hlt : Y.th + 2 < Y.tl.length
   ·
    refine gg 11 ?_
    refine dqz (qT rfl rfl omT omT) (gg 14 ?_)
    refine d_mlook underlying67 underlying3 rfl rfl rfl rfl ?_
    intro c
    refine gg 7 ?_
    cases c
    ·
     refine gg 12 ?_
     exact zg (Y, m) ⟨hy, hk, omT⟩ suT (Wk.refl _)
    ·
     refine gg 15 ?_
     refine sqz (zy (i := 0) rfl rfl rfl omT rfl) (za rfl rfl rfl (skv_ok L T Y hskc) ?_)
     rintro _ _ ⟨⟨a, rfl, ha⟩, rfl⟩
     refine lS ?_
     refine gg 8 ?_
     skip
     refine gg 6 ?_
     cases a
     ·
      refine gg 12 ?_
      exact zg (Y, m) ⟨hy, hk, omT⟩ suT (Wk.toT (CH T Y.J Y.C ++ XH Y.V Y.J) [L.p, L.bb, L.rb, L.ib, 0, Y.tkb, Y.skb, Y.mpb] wlT)
     ·
      refine gg 8 ?_
      exact zg () (by
      left
      rcases Nat.lt_or_ge N m with hx | hx
      · exact absurd (ha (hy.pf hx)) (by decide)
      · exact hx) suT (Wk.toT (CH T Y.J Y.C ++ XH Y.V Y.J) [L.p, L.bb, L.rb, L.ib, 0, Y.tkb, Y.skb, Y.mpb] wlT)
   ·
    refine gg 11 ?_
    refine dqz (qT rfl rfl omT omT) (gg 5 ?_)
    exact zg () (by right; omega) suT (Wk.refl _)
  ·
   rintro _ hmN
   refine zt (SH L T Y) [(0, pV L.p), (2, .bool false)] rfl rfl (gg 3 ?_)
   refine za rfl rfl rfl (fnt_ok L T Y (f m) (p (m + 1)) he hy.si hy.ne omT (fun t ht => ⟨(hy.ty t ht).1, (hy.ty t ht).2.2⟩) (by rw [hy.pl]; exact hs.step m (by have := hy.ne; omega))) ?_
   rintro _ _ ⟨rfl, Y2, tv2, rfl, k1, k2, k3, k4⟩
   refine lS ?_
   refine gg 6 ?_
   exact zh (Y2, m + 1) ⟨hy.fet hs k1 k2 k3 k4 omT, hk.trans k1.kp⟩ omT suT (Wk.toT (CH T Y2.J Y2.C ++ XH Y2.V Y2.J) [L.p, L.bb, L.rb, L.ib, 0, Y2.tkb, Y2.skb, Y2.mpb] wlT)
 ·
  rintro ⟨Y, m⟩ ⟨hy, hk, hm⟩
  dsimp only at hy hk hm
  refine zt (SH L T Y) [(0, pV L.p), (2, .bool false)] rfl rfl (gg 14 ?_)
  exact zm rfl rfl (Wk.toT (CH T Y.J Y.C ++ XH Y.V Y.J) [L.p, L.bb, L.rb, L.ib, 0, Y.tkb, Y.skb, Y.mpb] wlT) ⟨rfl, { Y with ta := true }, m, rfl, hy.taq hm, rfl, hm, hk.j, hk.v, hk.st, hk.stv, hk.tdv, hk.sep⟩
theorem qD (L : Lay) (T : List Nat) (p : Nat → Nat) (f : Nat → Tk) (N : Nat) (X : SS) (i j : Nat) (he : Eof L) (hs : Str T p f N) (hq : QR L T p f N X i j) :
  Fn prog 107 [pV L.p] (SH L T X)
   (fun v H' => ∃ X' j', v = .pointer (some ⟨X'.tkb, X'.th * 14, none⟩) ∧ H' = SH L T X' ∧ QR L T p f N X' i j' ∧ X'.ta = true ∧ i + 1 ≤ j' ∧ Kp X X') := by
 refine zo func107 rfl rfl rfl ?_
 intro w
 refine gg 6 ?_
 refine zL (σ := SS × Nat) (fun _ => [(0, pV L.p), (11, .bool true), (2, .pointer none)]) (fun x => SH L T x.1) (fun x => QR L T p f N x.1 i x.2 ∧ x.1.ta = true ∧ i + 1 ≤ x.2 ∧ Kp X x.1) ?_ ?_
 ·
  refine gg 6 ?_
  refine wq 8 rfl (fun hs1 => ?_) (fun hs1 => ?_)
  ·
   refine gg 4 ?_
   have hta : X.ta = true := hs1
   exact zg (X, j) ⟨hq, hta, hq.av hta, Kp.refl _⟩ suT (Wk.refl _)
  ·
   refine smv ?_
   refine za rfl rfl rfl (fmt_ok L T p f N X i j he hs hq) ?_
   rintro _ _ ⟨rfl, Y, m, rfl, k1, k2, k3, k4⟩
   refine lS ?_
   refine spf ?_
   refine ze ?_
   exact zg (Y, m) ⟨k1, k2, k3, k4⟩ suT (Wk.toT (CH T Y.J Y.C ++ XH Y.V Y.J) [L.p, L.bb, L.rb, L.ib, 0, Y.tkb, Y.skb, Y.mpb] wlT)
 ·
  rintro ⟨Y, m⟩ ⟨hy, hta, hm, hk⟩
  dsimp only at hy hta hk hm
  obtain ⟨tv, htv, _, hty⟩ := hy.head hm
  have hthl : Y.th < Y.tl.length := (List.getElem?_eq_some_iff.1 htv).1
  have htlc := hy.si.tlc
  refine zt (SH L T Y) [(0, pV L.p), (11, .bool true), (2, .pointer none)] rfl rfl (gg 11 ?_)
  refine dqz (zy rfl rfl rfl omT rfl) (gg 4 ?_)
  simp only [Nat.zero_add]
  refine gg 3 ?_
  refine za rfl rfl rfl (unf_ok L T Y tv hy.si htv hty) ?_
  rintro _ _ ⟨rfl, a, b, c, k, J, rfl, k1, k2⟩
  refine lS ?_
  refine gg 10 ?_
  exact zm rfl rfl (Wk.toT (CH T J Y.C ++ XH Y.V J) [L.p, L.bb, L.rb, L.ib, 0, Y.tkb, Y.skb, Y.mpb] wlT) ⟨{ Y with head := a, line := b, foot := c, comh := k, J := J }, m, rfl, rfl, hy.unf k1, hta, hm, hk.j.trans k2, hk.v, hk.st, hk.stv, hk.tdv, hk.sep⟩
theorem qM (L : Lay) (T : List Nat) (p : Nat → Nat) (f : Nat → Tk) (N : Nat) (X : SS) (i j : Nat) (tv : TV) (hs : Str T p f N) (hq : QR L T p f N X i j) (hj : i + 1 ≤ j) (hi : i ≤ N) (htv : X.tl[X.th]? = some tv) :
  Fn prog 109 [pV L.p] (SH L T X)
   (fun v H' => v = .tuple #[] ∧ H' = SH L T { X with ta := false, tp := X.tp + 1, th := X.th + 1, sep := (tv.typ == 2) } ∧ QR L T p f N { X with ta := false, tp := X.tp + 1, th := X.th + 1, sep := (tv.typ == 2) } (i + 1) j) := by
 have hthl : X.th < X.tl.length := (List.getElem?_eq_some_iff.1 htv).1
 have htlc := hq.si.tlc
 have htkc := hq.si.tkc
 have htp := hq.si.tpl
 refine zo func109 rfl rfl rfl ?_
 intro w
 refine gg 21 ?_
 refine zU 15 zF kR (gg 9 ?_)
 refine dqz (zy rfl rfl rfl omT rfl) (dfa ?_)
 refine dqz (zz (T := T) (tl := X.tl) (i := X.th) (j := 0) rfl omT omT htv rfl) (dqz (kw rfl rfl rfl) (gg 16 ?_))
 exact end0nw rfl (Wk.toT (CH T X.J X.C ++ XH X.V X.J) [L.p, L.bb, L.rb, L.ib, 0, X.tkb, X.skb, X.mpb] wlT) ⟨rfl, rfl, hq.skp hs hj hi⟩
abbrev psI (r : RS) : PS := { r := r, q := 0, nl := 0, head := Sl.nil, line := Sl.nil, foot := Sl.nil, tail := Sl.nil, stem := Sl.nil, com := Sl.nil, comh := 0, ssp := false, sep := false, flow := 0, tok := Sl.nil, th := 0, tp := 0, ta := false, ind := 0, indv := Sl.nil, ska := false, skv := Sl.nil, skm := none, st := 0, stv := Sl.nil, mkv := Sl.nil, tdv := Sl.nil }
abbrev psJ (r : RS) (skb skc mpb : Nat) : PS := { psI r with ssp := true, ind := -1, ska := true, skv := ⟨some ⟨skb, 0, none⟩, 1, skc⟩, skm := some mpb }
def tvSS : TV := ⟨1, 0, 0, 1, Sl.nil, Sl.nil, 0, 0, 0⟩
abbrev ss0 (r : RS) (tkb tkc skb skc mpb : Nat) : SS := { r := r, q := 0, nl := 0, head := Sl.nil, line := Sl.nil, foot := Sl.nil, C := none, cn := 0, comh := 0, sep := false, tkb := tkb, tkc := tkc, tl := [tvSS], th := 0, tp := 0, ta := false, ska := true, skb := skb, skc := skc, pf := false, mpb := mpb, st := 0, stv := Sl.nil, tdv := Sl.nil, V := [], J := [] }
theorem ins0_ok (L : Lay) (T : List Nat) (r : RS) (skb skc mpb b : Nat) :
  Fn prog 164 [pV L.p, .int .i64 (-1), pV b] [PB L T (psJ r skb skc mpb), (b, .cs 163 (tvC T tvSS) [])]
   (fun v H' => v = .tuple #[] ∧ ∃ tkb tkc, 1 ≤ tkc ∧ tkc ≤ 9223372036854775807 ∧ H' = [PB L T (zc (ss0 r tkb tkc skb skc mpb)), TKB T (ss0 r tkb tkc skb skc mpb)]) := by
 refine zo func164 rfl rfl rfl ?_
 intro w
 refine gg 27 ?_
 refine ke (fun i => i == 8 || i == 9 || i == 12) (fun i => i == 12) ([PB L T (psJ r skb skc mpb), (b, .cs 163 (tvC T tvSS) [])]) zF ?_
 refine mqh 0 rfl kR rfl rfl (fun _ => zj rfl) ?_
 refine mqh 1 rfl kR rfl rfl (fun _ => zj rfl) ?_
 refine mqh 2 rfl kR rfl rfl (fun _ => zJ rfl) ?_
 refine mqh 3 rfl kR rfl rfl (fun _ => zM rfl) ?_
 refine mqh 4 rfl kR rfl rfl (fun _ => zp rfl rfl rfl rfl) ?_
 refine mq 5 rfl kR rfl rfl (zj rfl) ?_
 refine mq 6 rfl kR rfl rfl (zJ rfl) ?_
 refine mq 7 rfl kR rfl rfl (zG rfl rfl rfl rfl) ?_
 refine mql 8 rfl kR (fun hcl => ?_)
 refine kV (l := [_, _, _, _, _, _, _, _, _, _, _, _, _, _]) (zs := [zI, zI, zI, zI, zI, zI, zI, zI, zS, zS, zS, .int .i8 0, .int .i8 0, .int .i8 0]) [0] rfl rfl rfl rfl kR rfl rfl ?_
 intro nb
 refine mqn 8 hcl ?_
 refine mql 9 rfl kR (fun hcl => ?_)
 refine kr (sz := 14) (news := tvC T tvSS) rfl rfl rfl rfl rfl (zN (k := .cs 163 (tvC T tvSS) []) (Nat.le_refl _) (Nat.le_refl _) (fun j u hj => by simp only [Blk.cell, look, nth, Nat.zero_add]; exact hj)) rfl (by decide) (by decide) (by decide) ?_
 intro tkb tkc hk1 hk2
 refine mqn 9 hcl (mq 10 rfl kR rfl rfl (zJ rfl) ?_)
 refine mq 11 rfl kR rfl rfl (zM rfl) ?_
 refine mql 12 rfl kR (fun hcl => ?_)
 refine st1 rfl rfl ?_
 refine zO 12 rfl kR (gg 11 ?_)
 exact end0w rfl (Wk.to [L.p, tkb] (by exact ⟨rfl, .inr (Blk.like_rec kR), rfl, .inl rfl, trivial⟩)) ⟨rfl, tkb, tkc, hk1, hk2, rfl⟩
theorem skp_zero : ∀ k v, (Value.agg #[.bool false, .bool false, zI, zI, zI, zI]).cells[k % 6]? = some v → SKP false k v := by
 intro k v h
 have hk : k % 6 < 6 := Nat.mod_lt _ (by decide)
 rcases (show k % 6 = 0 ∨ k % 6 = 1 ∨ k % 6 = 2 ∨ k % 6 = 3 ∨ k % 6 = 4 ∨ k % 6 = 5 by omega) with e | e | e | e | e | e <;> rw [e] at h <;> simp [Value.cells] at h <;> subst h <;> exact ⟨fun _ h => (by cases h), fun h => (by first | exact ⟨_, rfl⟩ | omega), fun h => roT, fun h => (by first | exact ⟨_, rfl⟩ | omega)⟩
theorem Inv.ssJ {L : Lay} {T : List Nat} {r : RS} {tkb tkc skb skc mpb : Nat} (h : Inv L T (psI r)) : Inv L T (zc (ss0 r tkb tkc skb skc mpb)) := by
 obtain ⟨small, asc, icap, qlen, nlq, pq, pbl, slack, bl, unl, rp, rl, offl, ip, ipl, eofi, enc, e_⟩ := h
 exact ⟨small, asc, icap, qlen, nlq, pq, pbl, slack, bl, unl, rp, rl, offl, ip, ipl, eofi, enc, e_⟩
theorem fss_ok (L : Lay) (T : List Nat) (r : RS) (hi : Inv L T (psI r)) (hT : T.length ≤ 1000000) :
  Fn prog 139 [pV L.p] (RH L T (psI r) [])
   (fun v H' => v = .bool true ∧ ∃ tkb tkc skb skc mpb, H' = SH L T (ss0 r tkb tkc skb skc mpb) ∧ SI L T (ss0 r tkb tkc skb skc mpb)) := by
 have henc := hi.enc
 refine zo func139 rfl rfl rfl ?_
 intro w
 refine gg 20 ?_
 refine sqz (zu (l := [_, _, _, _, _, _]) (zs := [.bool false, .bool false, zI, zI, zI, zI]) [0, 1, 2, 3] rfl rfl kR) (kV (l := [_, _, _, _, _, _]) (zs := [.bool false, .bool false, zI, zI, zI, zI]) [0] rfl rfl rfl rfl kR rfl rfl ?_)
 intro zb
 refine s_append_anyn (sz := 6) (m := 1) (p := SKP false) (news := [.bool false, .bool false, zI, zI, zI, zI]) rfl rfl rfl rfl rfl (zN (k := .cs 202 [.bool false, .bool false, zI, zI, zI, zI] []) (Nat.le_refl _) (Nat.le_refl _) (fun j u hj => by simp only [Blk.cell, look, nth, Nat.zero_add]; exact hj)) rfl (by decide) (by simpa using skp_first (pf := false) (fun h => (by cases h))) skp_zero (by decide) (by decide) (by decide) ?_
 intro skb skc hs1 hs2
 refine gg 8 ?_
 refine s_makeMap rfl rfl ?_
 intro mpb
 refine gg 22 ?_
 refine zA L.p (.cs 75 (qp L T (psJ r skb skc mpb)) []) (Blk.like_rec kR) ?_
 refine ke (fun i => i == 13 || i == 14) (fun i => i == 14) ([PB L T (psJ r skb skc mpb)]) zF ?_
 refine mqh 0 rfl kR rfl rfl (fun _ => zj rfl) ?_
 refine mqh 1 rfl kR rfl rfl (fun _ => zJ rfl) ?_
 refine mqh 2 rfl kR rfl rfl (fun _ => zM rfl) ?_
 refine mqh 3 rfl kR rfl rfl (fun _ => zG rfl rfl rfl rfl) ?_
 refine mqh 4 rfl kR rfl rfl (fun _ => zj rfl) ?_
 refine mqh 5 rfl kR rfl rfl (fun _ => zJ rfl) ?_
 refine mqh 6 rfl kR rfl rfl (fun _ => zM rfl) ?_
 refine mqh 7 rfl kR rfl rfl (fun _ => zG rfl rfl rfl rfl) ?_
 refine mqh 8 rfl kR rfl rfl (fun _ => zj rfl) ?_
 refine mqh 9 rfl kR rfl rfl (fun _ => zJ rfl) ?_
 refine mqh 10 rfl kR rfl rfl (fun _ => zM rfl) ?_
 refine mqh 11 rfl kR rfl rfl (fun _ => zp rfl rfl rfl rfl) ?_
 refine mqh 12 rfl kR rfl rfl (fun _ => zu (l := [_, _, _, _, _, _, _, _, _, _, _, _, _, _]) (zs := [zI, zI, zI, zI, zI, zI, zI, zI, zS, zS, zS, .int .i8 0, .int .i8 0, .int .i8 0]) [0, 1, 4, 7, 8, 9, 10, 11, 12, 13] rfl rfl kR) ?_
 refine mql 13 rfl kR (fun hcl => ?_)
 refine zk rfl rfl clT ?_
 intro kb
 refine mqn 13 hcl ?_
 refine mql 14 rfl kR (fun hcl => ?_)
 first | refine stw rfl rfl ?_ | refine sts rfl rfl ?_
 refine zO 14 rfl kR (zf (zd ?_))
 refine zA kb (.cs 163 (tvC T tvSS) []) (Blk.like_rec (by rw [henc]; kernel_rfl)) ?_
 refine zi (smv ?_)
 refine za rfl rfl rfl (ins0_ok L T r skb skc mpb kb) ?_
 rintro _ _ ⟨rfl, tkb, tkc, g1, g2, rfl⟩
 refine lS ?_
 refine gg 8 ?_
 exact zm (H' := RH L T (zc (ss0 r tkb tkc skb skc mpb)) [TKB T (ss0 r tkb tkc skb skc mpb), SKB (ss0 r tkb tkc skb skc mpb), MPB (ss0 r tkb tkc skb skc mpb)]) rfl rfl (Wk.to [L.p, L.bb, L.rb, L.ib, 0, tkb, skb, mpb] wlT) ⟨rfl, tkb, tkc, skb, skc, mpb, rfl, ⟨hi.ssJ, hT, g1, g2, Nat.zero_le _, ⟨Nat.zero_le _, Nat.le_refl _⟩, ⟨hs1, hs2⟩, Nat.le_refl _, Nat.le_refl _, .inl ⟨rfl, rfl⟩, ⟨JSl.nil _, Nat.zero_le _⟩, ⟨JSl.nil _, Nat.zero_le _⟩, ⟨JSl.nil _, Nat.zero_le _⟩⟩⟩
theorem fnt0_ok (L : Lay) (T : List Nat) (he : Eof L) (hi : Inv L T (psI (.got 0 false))) (hT : T.length ≤ 1000000) :
  Fn prog 136 [pV L.p] (RH L T (psI .new) [])
   (fun v H' => v = .bool true ∧ ∃ r tkb tkc skb skc mpb, H' = SH L T (ss0 r tkb tkc skb skc mpb) ∧ SI L T (ss0 r tkb tkc skb skc mpb)) := by
 refine fn_ofD func136 rfl rfl rfl ?_
 intro w
 refine zd (zi (s_box rfl rfl rfl ?_))
 intro pb
 refine s_alloc rfl rfl ?_
 intro tb
 refine gg 12 ?_
 refine za rfl rfl rfl (kc L T (psI .new) 1 he (.inr ⟨rfl, hi⟩) (by decide) (by decide)) ?_
 rintro _ _ ⟨rfl, r1, hn1, k1, k2, rfl⟩
 refine lS ?_
 refine gg 21 ?_
 refine za rfl rfl rfl (fss_ok L T r1 hn1 hT) ?_
 rintro _ _ ⟨rfl, tkb, tkc, skb, skc, mpb, rfl, g1⟩
 refine lS ?_
 refine gg 5 ?_
 refine endcDw (H' := SH L T (ss0 r1 tkb tkc skb skc mpb)) rfl rfl rfl rfl rfl (Wk.trans (Wk.to [L.p, L.bb, L.rb, L.ib, 0, tkb, skb, mpb] wlT) (H2 := RH L T (zc (ss0 r1 tkb tkc skb skc mpb)) [TKB T (ss0 r1 tkb tkc skb skc mpb), SKB (ss0 r1 tkb tkc skb skc mpb), MPB (ss0 r1 tkb tkc skb skc mpb)]) (Wk.refl _)) ⟨rfl, r1, tkb, tkc, skb, skc, mpb, rfl, g1⟩
theorem QR.zero {L : Lay} {T : List Nat} {p : Nat → Nat} {f : Nat → Tk} {N : Nat} {r : RS} {tkb tkc skb skc mpb : Nat} (hs : Str T p f N) (h0 : p 1 = sk T 0) (h : SI L T (ss0 r tkb tkc skb skc mpb)) : QR L T p f N (ss0 r tkb tkc skb skc mpb) 0 1 := by
 have := hs.n1
 refine ⟨h, rfl, fun k tv hk => ?_, h0.symm, fun hN => by omega, rfl, fun t ht => ?_, Nat.le_refl 1, Nat.le_refl 1, by omega, by omega, fun e => by cases e⟩
 · rcases k with _ | k
   · obtain rfl : tvSS = tv := by simpa using hk
     rw [hs.ss]
     rfl
   · simp at hk
 · obtain rfl : t = tvSS := by simpa using ht
   decide
structure Fst (X : SS) : Prop where
 st : X.st = 0
 stv : X.stv = Sl.nil
 tdv : X.tdv = Sl.nil
 sep : X.sep = false
theorem Fst.kp {X X' : SS} (h : Fst X) (k : Kp X X') : Fst X' := ⟨k.st.trans h.st, k.stv.trans h.stv, k.tdv.trans h.tdv, k.sep.trans h.sep⟩
theorem fmt0_ok (L : Lay) (T : List Nat) (p : Nat → Nat) (f : Nat → Tk) (N : Nat) (he : Eof L) (hs : Str T p f N) (h0 : p 1 = sk T 0) (hI : Inv L T (psI (.got 0 false))) (hT : T.length ≤ 1000000) :
  Fn prog 127 [pV L.p] (RH L T (psI .new) [])
   (fun v H' => v = .bool true ∧ ∃ X' j', H' = SH L T X' ∧ QR L T p f N X' 0 j' ∧ X'.ta = true ∧ 1 ≤ j' ∧ Fst X') := by
 have hbig := hs.big
 refine zo func127 rfl rfl rfl ?_
 intro w
 refine gg 5 ?_
 refine zL (σ := SS × Nat) (fun _ => [(0, pV L.p), (2, .bool false)]) (fun x => SH L T x.1) (fun x => QR L T p f N x.1 0 x.2 ∧ Fst x.1 ∧ 1 ≤ x.2) ?_ ?_
 ·
  refine kf ?_
  refine zw (σ := Option (SS × Nat)) (fun _ => [(0, pV L.p), (2, .bool false)]) (fun x => match x with | none => RH L T (psI .new) [] | some y => SH L T y.1) (fun x => ∀ y, x = some y → QR L T p f N y.1 0 y.2 ∧ Fst y.1) (fun x => match x with | none => N + 10 | some y => N + 4 - y.2) none (fun y h => by cases h) suT (Wk.refl _) ?_
  intro x hx
  rcases x with _ | y
  ·
   refine zt (RH L T (psI .new) []) [(0, pV L.p), (2, .bool false)] rfl rfl (gg 13 ?_)
   refine dqz (qT rfl rfl omT omT) (gg 9 ?_)
   refine za rfl rfl rfl (fnt0_ok L T he hI hT) ?_
   rintro _ _ ⟨rfl, r2, tkb2, tkc2, skb2, skc2, mpb2, rfl, k1⟩
   refine lS ?_
   refine gg 6 ?_
   exact zh (some (ss0 r2 tkb2 tkc2 skb2 skc2 mpb2, 1)) (fun y h => by cases h; exact ⟨QR.zero hs h0 k1, ⟨rfl, rfl, rfl, rfl⟩⟩) (by show N + 4 - 1 < N + 10; omega) suT (Wk.refl _)
  ·
   obtain ⟨Y, m⟩ := y
   obtain ⟨hy, hk⟩ := hx _ rfl
   dsimp only at hy hk
   have hcnt := hy.cnt
   have htlc := hy.si.tlc
   have hthl := hy.si.thl
   have hlj := hy.lj
   have hjb := hy.jb
   have hib := hy.ib
   have hskc := hy.si.skc.1
   refine zt (SH L T Y) [(0, pV L.p), (2, .bool false)] rfl rfl (kf ?_)
   refine zL (σ := Unit) (fun _ => [(0, pV L.p), (2, .bool false)]) (fun _ => SH L T Y) (fun _ => m ≤ N ∨ m ≤ 2) ?_ ?_
   ·
    by_cases hlt : Y.th + 2 < Y.tl.length
    ·
     refine gg 11 ?_
     refine dqz (qT rfl rfl omT omT) (gg 14 ?_)
     refine d_mlook underlying67 underlying3 rfl rfl rfl rfl ?_
     intro c
     refine gg 7 ?_
     cases c
     ·
      refine gg 12 ?_
      exact zg (Y, m) ⟨hy, hk, omT⟩ suT (Wk.refl _)
     ·
      refine gg 15 ?_
      refine sqz (zy (i := 0) rfl rfl rfl omT rfl) (za rfl rfl rfl (skv_ok L T Y hskc) ?_)
      rintro _ _ ⟨⟨a, rfl, ha⟩, rfl⟩
      refine lS ?_
      refine gg 8 ?_
      skip
      refine gg 6 ?_
      cases a
      ·
       refine gg 12 ?_
       exact zg (Y, m) ⟨hy, hk, omT⟩ suT (Wk.toT (CH T Y.J Y.C ++ XH Y.V Y.J) [L.p, L.bb, L.rb, L.ib, 0, Y.tkb, Y.skb, Y.mpb] wlT)
      ·
       refine gg 8 ?_
       exact zg () (by
       left
       rcases Nat.lt_or_ge N m with hx | hx
       · exact absurd (ha (hy.pf hx)) (by decide)
       · exact hx) suT (Wk.toT (CH T Y.J Y.C ++ XH Y.V Y.J) [L.p, L.bb, L.rb, L.ib, 0, Y.tkb, Y.skb, Y.mpb] wlT)
    ·
     refine gg 11 ?_
     refine dqz (qT rfl rfl omT omT) (gg 5 ?_)
     exact zg () (by right; omega) suT (Wk.refl _)
   ·
    rintro _ hmN
    refine zt (SH L T Y) [(0, pV L.p), (2, .bool false)] rfl rfl (gg 3 ?_)
    refine za rfl rfl rfl (fnt_ok L T Y (f m) (p (m + 1)) he hy.si hy.ne omT (fun t ht => ⟨(hy.ty t ht).1, (hy.ty t ht).2.2⟩) (by rw [hy.pl]; exact hs.step m (by have := hy.ne; omega))) ?_
    rintro _ _ ⟨rfl, Y2, tv2, rfl, k1, k2, k3, k4⟩
    refine lS ?_
    refine gg 6 ?_
    exact zh (some (Y2, m + 1)) (fun y h => by cases h; exact ⟨hy.fet hs k1 k2 k3 k4 omT, hk.kp k1.kp⟩) (by show N + 4 - (m + 1) < N + 4 - m; omega) suT (Wk.toT (CH T Y2.J Y2.C ++ XH Y2.V Y2.J) [L.p, L.bb, L.rb, L.ib, 0, Y2.tkb, Y2.skb, Y2.mpb] wlT)
 ·
  rintro ⟨Y, m⟩ ⟨hy, hk, hm⟩
  dsimp only at hy hk hm
  refine zt (SH L T Y) [(0, pV L.p), (2, .bool false)] rfl rfl (gg 14 ?_)
  exact zm rfl rfl (Wk.toT (CH T Y.J Y.C ++ XH Y.V Y.J) [L.p, L.bb, L.rb, L.ib, 0, Y.tkb, Y.skb, Y.mpb] wlT) ⟨rfl, { Y with ta := true }, m, rfl, hy.taq hm, rfl, hm, hk.st, hk.stv, hk.tdv, hk.sep⟩
theorem peek0_ok (L : Lay) (T : List Nat) (p : Nat → Nat) (f : Nat → Tk) (N : Nat) (he : Eof L) (hs : Str T p f N) (h0 : p 1 = sk T 0) (hI : Inv L T (psI (.got 0 false))) (hT : T.length ≤ 1000000) :
  Fn prog 107 [pV L.p] (RH L T (psI .new) [])
   (fun v H' => ∃ X' j', v = .pointer (some ⟨X'.tkb, X'.th * 14, none⟩) ∧ H' = SH L T X' ∧ QR L T p f N X' 0 j' ∧ X'.ta = true ∧ 1 ≤ j' ∧ Fst X') := by
 refine zo func107 rfl rfl rfl ?_
 intro w
 refine gg 6 ?_
 refine zL (σ := SS × Nat) (fun _ => [(0, pV L.p), (11, .bool true), (2, .pointer none)]) (fun x => SH L T x.1) (fun x => QR L T p f N x.1 0 x.2 ∧ x.1.ta = true ∧ 1 ≤ x.2 ∧ Fst x.1) ?_ ?_
 ·
  refine gg 7 ?_
  refine za rfl rfl rfl (fmt0_ok L T p f N he hs h0 hI hT) ?_
  rintro _ _ ⟨rfl, Y, m, rfl, k1, k2, k3, k4⟩
  refine lS ?_
  refine spf ?_
  refine ze ?_
  exact zg (Y, m) ⟨k1, k2, k3, k4⟩ suT (Wk.toT (CH T Y.J Y.C ++ XH Y.V Y.J) [L.p, L.bb, L.rb, L.ib, 0, Y.tkb, Y.skb, Y.mpb] wlT)
 ·
  rintro ⟨Y, m⟩ ⟨hy, hta, hm, hk⟩
  dsimp only at hy hta hk hm
  obtain ⟨tv, htv, _, hty⟩ := hy.head hm
  have hthl : Y.th < Y.tl.length := (List.getElem?_eq_some_iff.1 htv).1
  have htlc := hy.si.tlc
  refine zt (SH L T Y) [(0, pV L.p), (11, .bool true), (2, .pointer none)] rfl rfl (gg 11 ?_)
  refine dqz (zy rfl rfl rfl omT rfl) (gg 4 ?_)
  simp only [Nat.zero_add]
  refine gg 3 ?_
  refine za rfl rfl rfl (unf_ok L T Y tv hy.si htv hty) ?_
  rintro _ _ ⟨rfl, a, b, c, k, J, rfl, k1, k2⟩
  refine lS ?_
  refine gg 10 ?_
  exact zm rfl rfl (Wk.toT (CH T J Y.C ++ XH Y.V J) [L.p, L.bb, L.rb, L.ib, 0, Y.tkb, Y.skb, Y.mpb] wlT) ⟨{ Y with head := a, line := b, foot := c, comh := k, J := J }, m, rfl, rfl, hy.unf k1, hta, hm, hk.st, hk.stv, hk.tdv, hk.sep⟩
section
variable {P : Program} {n : Nat} {ds : List Deferred} {pu : Bool} {w0 : World} {D : List Nat} {H : zl} {E : Env}
variable {d : Option Nat} {ty : TypeId} {ps : String} {af : Array Edge} {g : Option (Nat × Bool)} {x y : Operand} {t t2 : TypeId} {a : Addr}
theorem run_equalIn_pnil (w : World) (d : Nat) (t e : TypeId) (o : Option Addr) (h : P.underlying t = some (.pointer e)) : (Op.equalIn (d + 1) t (.pointer o) (.pointer none)).run P w = .ok o.isNone w := by
 cases o <;> simp [Op.equalIn, underlying, program, Sem.run, Bind.bind, Sem.bind, h, Pure.pure]
theorem run_eql_pnil (w : World) (t e : TypeId) (o : Option Addr) (h : P.underlying t = some (.pointer e)) : (Op.equal t (.pointer o) (.pointer none)).run P w = .ok o.isNone w := by
 simp [Op.equal, Op.maxDepth, run_equalIn_pnil w 9999 t e o h]
theorem qK {e : TypeId} {o : Option Addr} (h : P.underlying t = some (.pointer e)) (hx : opv E x = some (.pointer o)) (hy : opv E y = some (.pointer none)) : Q1 P n ds pu w0 D H E ⟨d, .binOp .eql t x y t2, ty, ps, af, g⟩ (.bool o.isNone) := by
 intro c w he _
 simp [execOp, he.eval hx, he.eval hy, eqGuard, binOp, run_eql_pnil w t e o h]
theorem wi {e : TypeId} {o : Option Addr} (h : P.underlying t = some (.pointer e)) (hx : opv E x = some (.pointer o)) (hy : opv E y = some (.pointer none)) : Q1 P n ds pu w0 D H E ⟨d, .binOp .neq t x y t2, ty, ps, af, g⟩ (.bool o.isSome) := by
 intro c w he _
 cases o <;> simp [execOp, he.eval hx, he.eval hy, eqGuard, binOp, run_eql_pnil w t e _ h]
end
structure EVt where
 ty : Int
 a : Nat
 e : Nat
 enc : Int
 vd : Option Nat
 td : Sl
 hd : Sl
 ln : Sl
 ft : Sl
 va : Sl
 im : Bool
 qu : Bool
 sty : Int
def ptrV : Option Nat → Value
 | none => .pointer none
 | some b => pV b
def evC (T : List Nat) (v : EVt) : List Value :=
 [.int .i8 v.ty, .int .i64 v.a, .int .i64 (lnT T v.a), .int .i64 (zH T v.a), .int .i64 v.e, .int .i64 (lnT T v.e), .int .i64 (zH T v.e), .int .i64 v.enc, ptrV v.vd, v.td.v, v.hd.v, v.ln.v, v.ft.v, zS, zS, zS, v.va.v, .bool v.im, .bool v.qu, .int .i8 v.sty]
def evZ : List Value := [.int .i8 0, zI, zI, zI, zI, zI, zI, zI, .pointer none, zS, zS, zS, zS, zS, zS, zS, zS, .bool false, .bool false, .int .i8 0]
abbrev EVB (T : List Nat) (eb : Nat) (v : EVt) : Nat × Blk := (eb, .cs 86 (evC T v) [])
abbrev EVZ (eb : Nat) : Nat × Blk := (eb, .cs 86 evZ [])
theorem sec_ok (L : Lay) (T : List Nat) (X : SS) (eb : Nat) (v : EVt) :
  Fn prog 112 [pV L.p, pV eb] [PB L T (zc X), EVB T eb v]
   (fun u H' => u = .tuple #[] ∧ H' = [PB L T (zc { X with head := Sl.nil, line := Sl.nil, foot := Sl.nil }), EVB T eb { v with hd := X.head, ln := X.line, ft := X.foot }]) := by
 refine zo func112 rfl rfl rfl ?_
 intro w
 refine gg 74 ?_
 exact end0nw rfl (Wk.to [L.p, eb] (by exact ⟨rfl, .inr (Blk.like_rec kR), rfl, .inr (Blk.like_rec kR), trivial⟩)) ⟨rfl, rfl⟩
theorem SI.st {L : Lay} {T : List Nat} {X : SS} {k : Nat} {s t : Sl} (h : SI L T X) : SI L T { X with st := k, stv := s, tdv := t } := by
 have hi := h.inv
 obtain ⟨small, asc, icap, qlen, nlq, pq, pbl, slack, bl, unl, rp, rl, offl, ip, ipl, eofi, enc, e_⟩ := hi
 exact ⟨⟨small, asc, icap, qlen, nlq, pq, pbl, slack, bl, unl, rp, rl, offl, ip, ipl, eofi, enc, e_⟩, h.sml, h.tlc, h.tkc, h.thl, h.tpl, h.skc, h.cnq, h.cmh, h.com, h.jh, h.jl, h.jf⟩
theorem QR.st {L : Lay} {T : List Nat} {p : Nat → Nat} {f : Nat → Tk} {N : Nat} {X : SS} {i j k : Nat} {s t : Sl} (h : QR L T p f N X i j) : QR L T p f N { X with st := k, stv := s, tdv := t } i j :=
 ⟨h.si.st, h.cnt, h.tok, h.pl, h.pf, h.tp, h.ty, h.ne, h.lj, h.jb, h.ib, h.av⟩
theorem QR.nocom {L : Lay} {T : List Nat} {p : Nat → Nat} {f : Nat → Tk} {N : Nat} {X : SS} {i j : Nat} (h : QR L T p f N X i j) : QR L T p f N { X with head := Sl.nil, line := Sl.nil, foot := Sl.nil } i j :=
 have hz : JSl X.J Sl.nil ∧ Sl.nil.n ≤ X.comh * (T.length + 1) := ⟨JSl.nil _, Nat.zero_le _⟩
 QR.unf (X := X) (k := X.comh) (J := X.J) h (h.si.unf (k := X.comh) (J := X.J) h.si.cmh hz hz hz)
theorem pss_ok (L : Lay) (T : List Nat) (p : Nat → Nat) (f : Nat → Tk) (N eb : Nat) (he : Eof L) (hs : Str T p f N) (h0 : p 1 = sk T 0) (hI : Inv L T (psI (.got 0 false))) (hT : T.length ≤ 1000000) :
  Fn prog 73 [pV L.p, pV eb] (EVZ eb :: RH L T (psI .new) [])
   (fun v H' => v = .bool true ∧ ∃ X j ev, H' = EVB T eb ev :: SH L T X ∧ QR L T p f N X 1 j ∧ X.st = 1 ∧ X.stv = Sl.nil ∧ X.tdv = Sl.nil ∧ X.sep = false ∧
    ev.ty = 1 ∧ ev.vd = none ∧ ev.td = Sl.nil ∧ ev.hd = Sl.nil ∧ ev.ln = Sl.nil ∧ ev.ft = Sl.nil ∧ ev.va = Sl.nil ∧ ev.im = false ∧ ev.qu = false ∧ ev.sty = 0) := by
 refine zo func73 rfl rfl rfl ?_
 intro w
 refine gg 8 ?_
 refine za rfl rfl rfl (peek0_ok L T p f N he hs h0 hI hT) ?_
 rintro _ _ ⟨X, j, rfl, rfl, hq, hta, hj, hX⟩
 obtain ⟨tv, htv, htok, hty⟩ := hq.head hj
 rw [hs.ss] at htok
 have hty1 : tv.typ = 1 := htok
 refine lS ?_
 refine gg 7 ?_
 refine sqz (qK underlying158 rfl rfl) (gg 11 ?_)
 refine sqz (zz (T := T) (tl := X.tl) (i := X.th) (j := 0) rfl omT omT htv rfl) (gg 15 ?_)
 refine zA L.p (.cs 75 (qp L T (zc { X with st := 1 })) []) (Blk.like_rec kR) (zU 15 zF kR (gg 4 ?_))
 refine dqz (kU (T := T) (tl := X.tl) (i := X.th) (j := 1) rfl omT omT htv rfl rfl rfl) (gg 3 ?_)
 refine dqz (kU (T := T) (tl := X.tl) (i := X.th) (j := 4) rfl omT omT htv rfl rfl rfl) (gg 3 ?_)
 refine dqz (zz (T := T) (tl := X.tl) (i := X.th) (j := 7) rfl omT omT htv rfl) ?_
 refine dqz (zu (l := [_, _, _, _, _, _, _, _, _, _, _, _, _, _, _, _, _, _, _, _]) (zs := [.int .i8 0, zI, zI, zI, zI, zI, zI, zI, .pointer none, zS, zS, zS, zS, zS, zS, zS, zS, .bool false, .bool false, .int .i8 0]) [0, 1, 4, 7, 8, 9, 10, 11, 12, 13, 14, 15, 16, 17, 18, 19] rfl rfl kR) ?_
 refine dnc ?_
 refine qW ?_
 first | refine stw rfl rfl ?_ | refine sts rfl rfl ?_
 refine ze ?_
 refine zf ?_
 have hq2 : QR L T p f N { X with st := 1 } 0 j := hq.st (k := 1) (s := X.stv) (t := X.tdv)
 refine gg 3 ?_
 refine za rfl rfl rfl (qM L T p f N { X with st := 1 } 0 j tv hs hq2 hj (Nat.zero_le _) htv) ?_
 rintro _ _ ⟨rfl, rfl, hq3⟩
 refine lS ?_
 refine gg 8 ?_
 exact zm (H' := EVB T eb ⟨1, tv.a, tv.e, tv.enc, none, Sl.nil, Sl.nil, Sl.nil, Sl.nil, Sl.nil, false, false, 0⟩ :: SH L T { X with st := 1, ta := false, tp := X.tp + 1, th := X.th + 1, sep := (tv.typ == 2) }) rfl rfl (Wk.toT (CH T X.J X.C ++ XH X.V X.J) [eb, L.p, L.bb, L.rb, L.ib, 0, X.tkb, X.skb, X.mpb] wlT) ⟨rfl, _, j, _, rfl, hq3, rfl, hX.stv, hX.tdv, by rw [hty1]; rfl, rfl, rfl, rfl, rfl, rfl, rfl, rfl, rfl, rfl, rfl⟩
abbrev STB (b c : Nat) : Nat × Blk := (b, .buf 68 c [.int .i64 4])
structure ScEv (X : SS) (ev : EVt) (sty : Int) (v : List Nat) : Prop where
 ty : ev.ty = 6
 vd : ev.vd = none
 td : ev.td = Sl.nil
 hd : JSl X.J ev.hd
 ln : JSl X.J ev.ln
 ft : JSl X.J ev.ft
 va : InV X.V ev.va v
 im : ev.im = (sty == 2)
 qu : ev.qu = !(sty == 2)
 sty : ev.sty = sty
theorem psn_ok (L : Lay) (T : List Nat) (p : Nat → Nat) (f : Nat → Tk) (N eb stb stc i j : Nat) (X0 : SS) (sty : Int) (v : List Nat) (he : Eof L) (hs : Str T p f N) (hq0 : QR L T p f N X0 i j) (hf : f i = .sc sty v) (hi : i ≤ N) (hst : X0.stv = ⟨some ⟨stb, 0, none⟩, 1, stc⟩) (hstc : 1 ≤ stc ∧ stc ≤ 9223372036854775807) :
  Fn prog 77 [pV L.p, pV eb, .bool true, .bool false] (EVZ eb :: STB stb stc :: SH L T X0)
   (fun u H' => u = .bool true ∧ ∃ X j' ev, H' = EVB T eb ev :: STB stb stc :: SH L T X ∧ QR L T p f N X (i + 1) j' ∧ X.st = 4 ∧ X.stv = ⟨some ⟨stb, 0, none⟩, 0, stc⟩ ∧ X.tdv = X0.tdv ∧ X.sep = false ∧ (∀ x ∈ X0.V, x ∈ X.V) ∧ ScEv X ev sty v) := by
 refine zo func77 rfl rfl rfl ?_
 intro w
 refine gg 8 ?_
 refine za rfl rfl rfl (qD L T p f N X0 i j he hs hq0) ?_
 rintro _ _ ⟨X, j, rfl, rfl, hq, hta, hj, hK⟩
 obtain ⟨tv, htv, htok, hty⟩ := hq.head hj
 rw [hf] at htok
 obtain ⟨hty1, hsty, hval⟩ := htok
 have hstX : X.stv = ⟨some ⟨stb, 0, none⟩, 1, stc⟩ := hK.stv.trans hst
 obtain ⟨X, rfl⟩ : ∃ Y : SS, X = { Y with stv := ⟨some ⟨stb, 0, none⟩, 1, stc⟩ } := ⟨X, by rw [← hstX]⟩
 dsimp only at htv hval
 refine lS ?_
 refine gg 7 ?_
 refine sqz (qK underlying158 rfl rfl) (gg 11 ?_)
 refine sqz (zz (T := T) (tl := X.tl) (i := X.th) (j := 0) rfl omT omT htv rfl) (gg 11 ?_)
 refine sqz (kU (T := T) (tl := X.tl) (i := X.th) (j := 1) rfl omT omT htv rfl rfl rfl) (zk rfl rfl clT ?_)
 intro m10
 first | refine stw rfl rfl ?_ | refine sts rfl rfl ?_
 refine gg 7 ?_
 refine sqz (kU (T := T) (tl := X.tl) (i := X.th) (j := 1) rfl omT omT htv rfl rfl rfl) (zk rfl rfl clT ?_)
 intro m11
 first | refine stw rfl rfl ?_ | refine sts rfl rfl ?_
 refine gg 16 ?_
 refine zk rfl rfl clT ?_
 intro m16
 refine gg 8 ?_
 refine sqz (zz (T := T) (tl := X.tl) (i := X.th) (j := 0) rfl omT omT htv rfl) (gg 9 ?_)
 refine sqz (zz (T := T) (tl := X.tl) (i := X.th) (j := 0) rfl omT omT htv rfl) (gg 50 ?_)
 refine sqz (zz (T := T) (tl := X.tl) (i := X.th) (j := 0) rfl omT omT htv rfl) (gg 15 ?_)
 refine sqz (kU (T := T) (tl := X.tl) (i := X.th) (j := 4) rfl omT omT htv rfl rfl rfl) ?_
 first | refine stw rfl rfl ?_ | refine sts rfl rfl ?_
 refine ze ?_
 refine zf ?_
 have hstp : X.tkc ≤ 9223372036854775807 := hq.si.tkc
 refine zd ?_
 by_cases h2 : tv.sty = 2
 ·
  refine gg 9 ?_
  refine sqz (zz (T := T) (tl := X.tl) (i := X.th) (j := 11) rfl omT omT htv rfl) (gg 21 ?_)
  refine zU 15 zF kR (gg 10 ?_)
  refine dqz (qT rfl rfl omT omT) (dqz (zy (i := 0) rfl rfl rfl omT rfl) (gg 8 ?_))
  refine zU 14 zF kR (gg 10 ?_)
  refine dqz (qT rfl rfl omT omT) (dqz (qc rfl rfl omT) (gg 7 ?_))
  refine zU 17 zF kR (gg 8 ?_)
  refine dqz (zz (T := T) (tl := X.tl) (i := X.th) (j := 8) rfl omT omT htv rfl) (gg 5 ?_)
  refine dqz (zz (T := T) (tl := X.tl) (i := X.th) (j := 11) rfl omT omT htv rfl) ?_
  refine dqz (zu (l := [_, _, _, _, _, _, _, _, _, _, _, _, _, _, _, _, _, _, _, _]) (zs := [.int .i8 0, zI, zI, zI, zI, zI, zI, zI, .pointer none, zS, zS, zS, zS, zS, zS, zS, zS, .bool false, .bool false, .int .i8 0]) [0, 1, 4, 7, 8, 9, 10, 11, 12, 13, 14, 15, 16, 17, 18, 19] rfl rfl kR) ?_
  refine dnc ?_
  refine qW ?_
  first | refine stw rfl rfl ?_ | refine sts rfl rfl ?_
  refine ze ?_
  refine zf (zA L.p (.cs 75 (qp L T (zc { X with st := 4, stv := ⟨some ⟨stb, 0, none⟩, 0, stc⟩ })) []) (Blk.like_rec kR) (zA eb (.cs 86 (evC T ⟨6, tv.a, tv.e, 0, none, Sl.nil, Sl.nil, Sl.nil, Sl.nil, tv.val, true, false, tv.sty⟩) []) (Blk.like_rec kR) (gg 4 ?_)))
  refine za rfl rfl rfl (sec_ok L T { X with st := 4, stv := ⟨some ⟨stb, 0, none⟩, 0, stc⟩ } eb ⟨6, tv.a, tv.e, 0, none, Sl.nil, Sl.nil, Sl.nil, Sl.nil, tv.val, true, false, tv.sty⟩) ?_
  rintro _ _ ⟨rfl, rfl⟩
  refine lS ?_
  refine ze ?_
  refine zf ?_
  have hq2 : QR L T p f N { X with st := 4, stv := ⟨some ⟨stb, 0, none⟩, 0, stc⟩, head := Sl.nil, line := Sl.nil, foot := Sl.nil } i j := (hq.st (k := 4) (s := ⟨some ⟨stb, 0, none⟩, 0, stc⟩) (t := X.tdv)).nocom
  refine gg 3 ?_
  refine za rfl rfl rfl (qM L T p f N { X with st := 4, stv := ⟨some ⟨stb, 0, none⟩, 0, stc⟩, head := Sl.nil, line := Sl.nil, foot := Sl.nil } i j tv hs hq2 hj hi htv) ?_
  rintro _ _ ⟨rfl, rfl, hq3⟩
  refine lS ?_
  refine gg 9 ?_
  exact zm (H' := EVB T eb ⟨6, tv.a, tv.e, 0, none, Sl.nil, X.head, X.line, X.foot, tv.val, true, false, tv.sty⟩ :: STB stb stc :: SH L T { X with st := 4, stv := ⟨some ⟨stb, 0, none⟩, 0, stc⟩, head := Sl.nil, line := Sl.nil, foot := Sl.nil, ta := false, tp := X.tp + 1, th := X.th + 1, sep := (tv.typ == 2) }) rfl rfl (Wk.toT (CH T X.J X.C ++ XH X.V X.J) [eb, stb, L.p, L.bb, L.rb, L.ib, 0, X.tkb, X.skb, X.mpb] wlT) ⟨rfl, _, j, _, rfl, hq3, rfl, rfl, hK.tdv, by rw [hty1]; rfl, hK.v, ⟨rfl, rfl, rfl, hq.si.jh.1, hq.si.jl.1, hq.si.jf.1, hval, by rw [← hsty]; rw [h2]; rfl, by rw [← hsty]; rw [h2]; rfl, hsty⟩⟩
 ·
  refine gg 9 ?_
  refine sqz (zz (T := T) (tl := X.tl) (i := X.th) (j := 11) rfl omT omT htv rfl) (gg 29 ?_)
  refine zU 15 zF kR (gg 10 ?_)
  refine dqz (qT rfl rfl omT omT) (dqz (zy (i := 0) rfl rfl rfl omT rfl) (gg 8 ?_))
  refine zU 14 zF kR (gg 10 ?_)
  refine dqz (qT rfl rfl omT omT) (dqz (qc rfl rfl omT) (gg 7 ?_))
  refine zU 17 zF kR (gg 8 ?_)
  refine dqz (zz (T := T) (tl := X.tl) (i := X.th) (j := 8) rfl omT omT htv rfl) (gg 5 ?_)
  refine dqz (zz (T := T) (tl := X.tl) (i := X.th) (j := 11) rfl omT omT htv rfl) ?_
  refine dqz (zu (l := [_, _, _, _, _, _, _, _, _, _, _, _, _, _, _, _, _, _, _, _]) (zs := [.int .i8 0, zI, zI, zI, zI, zI, zI, zI, .pointer none, zS, zS, zS, zS, zS, zS, zS, zS, .bool false, .bool false, .int .i8 0]) [0, 1, 4, 7, 8, 9, 10, 11, 12, 13, 14, 15, 16, 17, 18, 19] rfl rfl kR) ?_
  refine dnc ?_
  refine qW ?_
  first | refine stw rfl rfl ?_ | refine sts rfl rfl ?_
  refine ze ?_
  refine zf (zA L.p (.cs 75 (qp L T (zc { X with st := 4, stv := ⟨some ⟨stb, 0, none⟩, 0, stc⟩ })) []) (Blk.like_rec kR) (zA eb (.cs 86 (evC T ⟨6, tv.a, tv.e, 0, none, Sl.nil, Sl.nil, Sl.nil, Sl.nil, tv.val, false, true, tv.sty⟩) []) (Blk.like_rec kR) (gg 4 ?_)))
  refine za rfl rfl rfl (sec_ok L T { X with st := 4, stv := ⟨some ⟨stb, 0, none⟩, 0, stc⟩ } eb ⟨6, tv.a, tv.e, 0, none, Sl.nil, Sl.nil, Sl.nil, Sl.nil, tv.val, false, true, tv.sty⟩) ?_
  rintro _ _ ⟨rfl, rfl⟩
  refine lS ?_
  refine ze ?_
  refine zf ?_
  have hq2 : QR L T p f N { X with st := 4, stv := ⟨some ⟨stb, 0, none⟩, 0, stc⟩, head := Sl.nil, line := Sl.nil, foot := Sl.nil } i j := (hq.st (k := 4) (s := ⟨some ⟨stb, 0, none⟩, 0, stc⟩) (t := X.tdv)).nocom
  refine gg 3 ?_
  refine za rfl rfl rfl (qM L T p f N { X with st := 4, stv := ⟨some ⟨stb, 0, none⟩, 0, stc⟩, head := Sl.nil, line := Sl.nil, foot := Sl.nil } i j tv hs hq2 hj hi htv) ?_
  rintro _ _ ⟨rfl, rfl, hq3⟩
  refine lS ?_
  refine gg 9 ?_
  exact zm (H' := EVB T eb ⟨6, tv.a, tv.e, 0, none, Sl.nil, X.head, X.line, X.foot, tv.val, false, true, tv.sty⟩ :: STB stb stc :: SH L T { X with st := 4, stv := ⟨some ⟨stb, 0, none⟩, 0, stc⟩, head := Sl.nil, line := Sl.nil, foot := Sl.nil, ta := false, tp := X.tp + 1, th := X.th + 1, sep := (tv.typ == 2) }) rfl rfl (Wk.toT (CH T X.J X.C ++ XH X.V X.J) [eb, stb, L.p, L.bb, L.rb, L.ib, 0, X.tkb, X.skb, X.mpb] wlT) ⟨rfl, _, j, _, rfl, hq3, rfl, rfl, hK.tdv, by rw [hty1]; rfl, hK.v, ⟨rfl, rfl, rfl, hq.si.jh.1, hq.si.jl.1, hq.si.jf.1, hval, by rw [← hsty]; simp [h2], by rw [← hsty]; simp [h2], hsty⟩⟩
theorem pdc_ok (L : Lay) (T : List Nat) (p : Nat → Nat) (f : Nat → Tk) (N eb stb stc i j : Nat) (X0 : SS) (sty : Int) (v : List Nat) (he : Eof L) (hs : Str T p f N) (hq0 : QR L T p f N X0 i j) (hf : f i = .sc sty v) (hi : i ≤ N) (hst : X0.stv = ⟨some ⟨stb, 0, none⟩, 1, stc⟩) (hstc : 1 ≤ stc ∧ stc ≤ 9223372036854775807) :
  Fn prog 75 [pV L.p, pV eb] (EVZ eb :: STB stb stc :: SH L T X0)
   (fun u H' => u = .bool true ∧ ∃ X j' ev, H' = EVB T eb ev :: STB stb stc :: SH L T X ∧ QR L T p f N X (i + 1) j' ∧ X.st = 4 ∧ X.stv = ⟨some ⟨stb, 0, none⟩, 0, stc⟩ ∧ X.tdv = X0.tdv ∧ X.sep = false ∧ (∀ x ∈ X0.V, x ∈ X.V) ∧ ScEv X ev sty v) := by
 refine zo func75 rfl rfl rfl ?_
 intro w
 refine gg 8 ?_
 refine za rfl rfl rfl (qD L T p f N X0 i j he hs hq0) ?_
 rintro _ _ ⟨X, j1, rfl, rfl, hq, hta, hj, hK⟩
 obtain ⟨tv, htv, htok, hty⟩ := hq.head hj
 rw [hf] at htok
 obtain ⟨hty1, hsty, hval⟩ := htok
 refine lS ?_
 refine gg 7 ?_
 refine sqz (qK underlying158 rfl rfl) (gg 11 ?_)
 refine sqz (zz (T := T) (tl := X.tl) (i := X.th) (j := 0) rfl omT omT htv rfl) (gg 5 ?_)
 refine sqz (zz (T := T) (tl := X.tl) (i := X.th) (j := 0) rfl omT omT htv rfl) (gg 6 ?_)
 refine sqz (zz (T := T) (tl := X.tl) (i := X.th) (j := 0) rfl omT omT htv rfl) (gg 6 ?_)
 refine sqz (zz (T := T) (tl := X.tl) (i := X.th) (j := 0) rfl omT omT htv rfl) (gg 6 ?_)
 refine sqz (zz (T := T) (tl := X.tl) (i := X.th) (j := 0) rfl omT omT htv rfl) (gg 11 ?_)
 refine za rfl rfl rfl (psn_ok L T p f N eb stb stc i j1 X sty v he hs hq hf hi (hK.stv.trans hst) hstc) ?_
 rintro _ _ ⟨rfl, X2, j2, ev, rfl, k1, k2, k3, k4, k5, k6, k7⟩
 refine lS ?_
 refine gg 4 ?_
 exact zm rfl rfl (Wk.toT (CH T X2.J X2.C ++ XH X2.V X2.J) [eb, stb, L.p, L.bb, L.rb, L.ib, 0, X2.tkb, X2.skb, X2.mpb] wlT) ⟨rfl, X2, j2, ev, rfl, k1, k2, k3, k4.trans hK.tdv, k5, fun x hx => k6 x (hK.v x hx), k7⟩
theorem TVok.de {V : VL} {tv : TV} {tk : Tk} (h : TVok V tv tk) : tv.typ = 6 ↔ tk = .de := by
 cases tk <;> simp only [TVok] at h <;> simp <;> omega
theorem TVok.se {V : VL} {tv : TV} {tk : Tk} (h : TVok V tv tk) : tv.typ = 2 ↔ tk = .se := by
 cases tk <;> simp only [TVok] at h <;> simp <;> omega
theorem TVok.ds {V : VL} {tv : TV} {tk : Tk} (h : TVok V tv tk) : tv.typ = 5 ↔ tk = .ds := by
 cases tk <;> simp only [TVok] at h <;> simp <;> omega
theorem TVok.ver {V : VL} {tv : TV} {tk : Tk} (h : TVok V tv tk) : tv.typ = 3 ↔ tk = .ver := by
 cases tk <;> simp only [TVok] at h <;> simp <;> omega
structure DeEv (X : SS) (ev : EVt) (im : Bool) : Prop where
 ty : ev.ty = 4
 vd : ev.vd = none
 td : ev.td = Sl.nil
 hd : JSl X.J ev.hd
 ln : JSl X.J ev.ln
 ft : JSl X.J ev.ft
 va : ev.va = Sl.nil
 im : ev.im = im
 qu : ev.qu = false
 sty : ev.sty = 0
theorem pde_ok (L : Lay) (T : List Nat) (p : Nat → Nat) (f : Nat → Tk) (N eb i j tb tn tc : Nat) (X0 : SS) (he : Eof L) (hs : Str T p f N) (hq0 : QR L T p f N X0 i j) (htd : X0.tdv = ⟨some ⟨tb, 0, none⟩, tn, tc⟩) (hsep : X0.sep = false) :
  Fn prog 76 [pV L.p, pV eb] (EVZ eb :: SH L T X0)
   (fun u H' => u = .bool true ∧ ∃ X i' j' ev b, H' = EVB T eb ev :: SH L T X ∧ QR L T p f N X i' j' ∧ ((f i = .de ∧ i' = i + 1 ∧ b = false) ∨ (f i ≠ .de ∧ i' = i ∧ b = true)) ∧ X.st = 2 ∧ X.stv = X0.stv ∧ X.tdv = ⟨some ⟨tb, 0, none⟩, 0, tc⟩ ∧ X.sep = false ∧ (∀ x ∈ X0.V, x ∈ X.V) ∧ DeEv X ev b) := by
 refine zo func76 rfl rfl rfl ?_
 intro w
 refine gg 8 ?_
 refine za rfl rfl rfl (qD L T p f N X0 i j he hs hq0) ?_
 rintro _ _ ⟨X, j1, rfl, rfl, hq, hta, hj, hK⟩
 obtain ⟨tv, htv, htok, hty⟩ := hq.head hj
 refine lS ?_
 refine gg 7 ?_
 refine sqz (qK underlying158 rfl rfl) (gg 10 ?_)
 refine sqz (kU (T := T) (tl := X.tl) (i := X.th) (j := 1) rfl omT omT htv rfl rfl rfl) (zk rfl rfl clT ?_)
 intro m6
 first | refine stw rfl rfl ?_ | refine sts rfl rfl ?_
 refine gg 7 ?_
 refine sqz (kU (T := T) (tl := X.tl) (i := X.th) (j := 1) rfl omT omT htv rfl rfl rfl) (zk rfl rfl clT ?_)
 intro m7
 first | refine stw rfl rfl ?_ | refine sts rfl rfl ?_
 refine gg 7 ?_
 refine zL (σ := SS × Nat × Nat × Nat × Bool) (fun x => [(0, pV L.p), (1, pV eb), (6, pV m6), (7, pV m7), (8, .bool x.2.2.2.2)]) (fun x => (m6, .cs 57 [.int .i64 tv.a, .int .i64 (lnT T tv.a), .int .i64 (zH T tv.a)] []) :: (m7, .cs 57 [.int .i64 x.2.2.2.1, .int .i64 (lnT T x.2.2.2.1), .int .i64 (zH T x.2.2.2.1)] []) :: EVZ eb :: SH L T x.1) (fun x => QR L T p f N x.1 x.2.1 x.2.2.1 ∧ ((f i = .de ∧ x.2.1 = i + 1 ∧ x.2.2.2.2 = false) ∨ (f i ≠ .de ∧ x.2.1 = i ∧ x.2.2.2.2 = true)) ∧ x.1.stv = X0.stv ∧ x.1.tdv = X0.tdv ∧ x.1.sep = false ∧ (∀ y ∈ X0.V, y ∈ x.1.V)) ?_ ?_
 ·
  by_cases h6 : tv.typ = 6
  ·
   refine gg 5 ?_
   refine sqz (zz (T := T) (tl := X.tl) (i := X.th) (j := 0) rfl omT omT htv rfl) (gg 9 ?_)
   refine sqz (kU (T := T) (tl := X.tl) (i := X.th) (j := 4) rfl omT omT htv rfl rfl rfl) ?_
   first | refine stw rfl rfl ?_ | refine sts rfl rfl ?_
   refine ze ?_
   refine zf ?_
   have hde : f i = .de := htok.de.1 h6
   have hiN : i ≤ N := by
    rcases Nat.lt_or_ge N i with h | h
    · have := hs.fin i omT; rw [hde] at this; cases this
    · exact h
   refine gg 3 ?_
   refine za rfl rfl rfl (qM L T p f N X i j1 tv hs hq hj hiN htv) ?_
   rintro _ _ ⟨rfl, rfl, hq3⟩
   refine lS ?_
   refine gg 5 ?_
   exact zg ({ X with ta := false, tp := X.tp + 1, th := X.th + 1, sep := (tv.typ == 2) }, i + 1, j1, tv.e, false) ⟨hq3, .inl ⟨hde, rfl, rfl⟩, hK.stv, hK.tdv, by dsimp only; rw [h6]; rfl, hK.v⟩ suT (Wk.toT (CH T X.J X.C ++ XH X.V X.J) [m6, m7, eb, L.p, L.bb, L.rb, L.ib, 0, X.tkb, X.skb, X.mpb] wlT)
  ·
   refine gg 5 ?_
   refine sqz (zz (T := T) (tl := X.tl) (i := X.th) (j := 0) rfl omT omT htv rfl) (gg 5 ?_)
   exact zg (X, i, j1, tv.a, true) ⟨hq, .inr ⟨fun h => h6 (htok.de.2 h), rfl, rfl⟩, hK.stv, hK.tdv, hK.sep.trans hsep, hK.v⟩ suT (Wk.toT (CH T X.J X.C ++ XH X.V X.J) [m6, m7, eb, L.p, L.bb, L.rb, L.ib, 0, X.tkb, X.skb, X.mpb] wlT)
 ·
  rintro ⟨Y, i2, j2, e2, b2⟩ ⟨hy, hy1, hy2, hy3, hy4, hy5⟩
  dsimp only at hy hy1 hy2 hy3 hy4 hy5
  have hy3' := hy3.trans htd
  obtain ⟨Y, rfl⟩ : ∃ Z : SS, Y = { Z with tdv := ⟨some ⟨tb, 0, none⟩, tn, tc⟩ } := ⟨Y, by rw [← hy3']⟩
  refine zt ((m6, .cs 57 [.int .i64 tv.a, .int .i64 (lnT T tv.a), .int .i64 (zH T tv.a)] []) :: (m7, .cs 57 [.int .i64 e2, .int .i64 (lnT T e2), .int .i64 (zH T e2)] []) :: EVZ eb :: SH L T { Y with tdv := ⟨some ⟨tb, 0, none⟩, tn, tc⟩ }) [(0, pV L.p), (1, pV eb), (6, pV m6), (7, pV m7), (8, .bool b2)] rfl rfl ?_
  refine gg 7 ?_
  refine sqz (qc rfl rfl omT) (gg 19 ?_)
  refine sqz (zu (l := [_, _, _, _, _, _, _, _, _, _, _, _, _, _, _, _, _, _, _, _]) (zs := [.int .i8 0, zI, zI, zI, zI, zI, zI, zI, .pointer none, zS, zS, zS, zS, zS, zS, zS, zS, .bool false, .bool false, .int .i8 0]) [0, 1, 4, 7, 8, 9, 10, 11, 12, 13, 14, 15, 16, 17, 18, 19] rfl rfl kR) ?_
  refine snc ?_
  first | refine stw rfl rfl ?_ | refine sts rfl rfl ?_
  refine ze ?_
  refine zf (zA L.p (.cs 75 (qp L T (zc { Y with st := 2, tdv := ⟨some ⟨tb, 0, none⟩, 0, tc⟩ })) []) (Blk.like_rec kR) (zA eb (.cs 86 (evC T ⟨4, tv.a, e2, 0, none, Sl.nil, Sl.nil, Sl.nil, Sl.nil, Sl.nil, b2, false, 0⟩) []) (Blk.like_rec kR) (gg 4 ?_)))
  refine za rfl rfl rfl (sec_ok L T { Y with st := 2, tdv := ⟨some ⟨tb, 0, none⟩, 0, tc⟩ } eb ⟨4, tv.a, e2, 0, none, Sl.nil, Sl.nil, Sl.nil, Sl.nil, Sl.nil, b2, false, 0⟩) ?_
  rintro _ _ ⟨rfl, rfl⟩
  refine lS ?_
  refine gg 10 ?_
  refine sqz (kw rfl rfl rfl) (smv ?_)
  refine wq 58 rfl (fun hs1 => ?_) (fun hs1 => ?_)
  ·
   refine gg 5 ?_
   refine sqz (kw rfl rfl rfl) (gg 3 ?_)
   refine kg rfl (fun hc => ?_) (fun hc => ?_)
   ·
    refine gg 25 ?_
    exact zm (H' := EVB T eb ⟨4, tv.a, e2, 0, none, Sl.nil, Sl.nil, Y.line, Y.head, Sl.nil, b2, false, 0⟩ :: SH L T { Y with st := 2, tdv := ⟨some ⟨tb, 0, none⟩, 0, tc⟩, head := Sl.nil, line := Sl.nil, foot := Sl.nil }) rfl rfl (Wk.toT (CH T Y.J Y.C ++ XH Y.V Y.J) [eb, L.p, L.bb, L.rb, L.ib, 0, Y.tkb, Y.skb, Y.mpb] wlT) ⟨rfl, _, i2, j2, _, b2, rfl, (hy.st (k := 2) (s := Y.stv) (t := ⟨some ⟨tb, 0, none⟩, 0, tc⟩)).nocom, hy1, rfl, hy2, rfl, hy4, hy5, ⟨rfl, rfl, rfl, .inl rfl, hy.si.jl.1, hy.si.jh.1, rfl, rfl, rfl, rfl⟩⟩
   ·
    refine gg 8 ?_
    exact zm (H' := EVB T eb ⟨4, tv.a, e2, 0, none, Sl.nil, Y.head, Y.line, Y.foot, Sl.nil, b2, false, 0⟩ :: SH L T { Y with st := 2, tdv := ⟨some ⟨tb, 0, none⟩, 0, tc⟩, head := Sl.nil, line := Sl.nil, foot := Sl.nil }) rfl rfl (Wk.toT (CH T Y.J Y.C ++ XH Y.V Y.J) [eb, L.p, L.bb, L.rb, L.ib, 0, Y.tkb, Y.skb, Y.mpb] wlT) ⟨rfl, _, i2, j2, _, b2, rfl, (hy.st (k := 2) (s := Y.stv) (t := ⟨some ⟨tb, 0, none⟩, 0, tc⟩)).nocom, hy1, rfl, hy2, rfl, hy4, hy5, ⟨rfl, rfl, rfl, hy.si.jh.1, hy.si.jl.1, hy.si.jf.1, rfl, rfl, rfl, rfl⟩⟩
  ·
   refine gg 18 ?_
   exact zm (H' := EVB T eb ⟨4, tv.a, e2, 0, none, Sl.nil, Y.head, Y.line, Y.foot, Sl.nil, b2, false, 0⟩ :: SH L T { Y with st := 2, tdv := ⟨some ⟨tb, 0, none⟩, 0, tc⟩, head := Sl.nil, line := Sl.nil, foot := Sl.nil }) rfl rfl (Wk.toT (CH T Y.J Y.C ++ XH Y.V Y.J) [eb, L.p, L.bb, L.rb, L.ib, 0, Y.tkb, Y.skb, Y.mpb] wlT) ⟨rfl, _, i2, j2, _, b2, rfl, (hy.st (k := 2) (s := Y.stv) (t := ⟨some ⟨tb, 0, none⟩, 0, tc⟩)).nocom, hy1, rfl, hy2, rfl, hy4, hy5, ⟨rfl, rfl, rfl, hy.si.jh.1, hy.si.jl.1, hy.si.jf.1, rfl, rfl, rfl, rfl⟩⟩
section
variable {P : Program} {n : Nat} {ds : List Deferred} {w0 : World} {D : List Nat} {H : zl} {E : Env} {ops : Array Oper} {Q : Exit → Act → World → Prop} {lo la : Nat → Bool} {f : Nat} {listed : Array Bool} {Hs : zl}
def AllJ (P : Program) (n : Nat) (ds : List Deferred) (w0 : World) (D : List Nat) (ops : Array Oper) (lo la : Nat → Bool) (Q : Exit → Act → World → Prop) (Hs : zl) (f : Nat) (listed : Array Bool) (H : zl) (E : Env) : List Nat → Prop
 | [] => True
 | j :: r => (Clo ops (listed.setIfInBounds j true) → ∃ o, ops[j]? = some o ∧ SQ P n ds false w0 D ops Q (fun a w => Sok la Hs j w ∧ wpM P ops lo la Q (HOK Hs) f (listed.setIfInBounds j true) a w) H E [o]) ∧ AllJ P n ds w0 D ops lo la Q Hs f listed H E r
theorem AllJ.at {js : List Nat} (h : AllJ P n ds w0 D ops lo la Q Hs f listed H E js) {j : Nat} (hj : j ∈ js) : Clo ops (listed.setIfInBounds j true) → ∃ o, ops[j]? = some o ∧ SQ P n ds false w0 D ops Q (fun a w => Sok la Hs j w ∧ wpM P ops lo la Q (HOK Hs) f (listed.setIfInBounds j true) a w) H E [o] := by
 induction js with
 | nil => cases hj
 | cons k r ih =>
  rcases List.mem_cons.1 hj with rfl | hj
  · exact h.1
  · exact ih h.2 hj
theorem mqls (js : List Nat) (hB : (decide (Region.ready .any ops listed = js) && js.all lo && !js.isEmpty) = true) (h : AllJ P n ds w0 D ops lo la Q Hs f listed H E js) : MQ P n ds w0 D ops lo la Q Hs (f + 1) listed H E := by
 intro hc a w he hw hS
 simp only [Bool.and_eq_true, decide_eq_true_eq] at hB
 obtain ⟨hB, hne⟩ := hB
 have hall := List.all_eq_true.1 hB.2
 have some_ : ∀ j ∈ js, wpOp P ops Q j (fun a' w' => (la j = true ∨ HOK Hs w') ∧ wpM P ops lo la Q (HOK Hs) f (listed.setIfInBounds j true) a' w') a w := fun j hj => by
   have hr : j ∈ Region.ready .any ops listed := by rw [hB.1]; exact hj
   obtain ⟨o, ho, hsq⟩ := h.at hj (hc.set hr)
   have := hsq a w he hw
   unfold wpOp
   simp only [ho]
   exact this
 refine ⟨fun h0 => ?_, fun j hj => ?_⟩
 · rw [hB.1] at h0
   rw [h0] at hne
   cases hne
 · rw [hB.1] at hj
   rw [if_pos (hall j hj)]
   exact some_ j hj
end
section
variable {P : Program} {n : Nat} {ds : List Deferred} {w0 : World} {D : List Nat} {H H' : zl} {E : Env} {ops : Array Oper} {Q : Exit → Act → World → Prop} {l : List Oper} {v : Value} {lo la : Nat → Bool} {f : Nat} {listed : Array Bool} {id : Nat} {Hs : zl}
def MQ9 (P : Program) (n : Nat) (ds : List Deferred) (w0 : World) (D : List Nat) (ops : Array Oper) (lo la : Nat → Bool) (Q : Exit → Act → World → Prop) (Hs : zl) (f : Nat) (listed : Array Bool) (H : zl) (E : Env) : Prop :=
 Clo ops listed → ∀ a w, EOK n ds E a → WOK false w0 D H w → wpM P ops lo la Q (HOK Hs) f listed a w
theorem mqn9 (i : Nat) (hl : la i = true) (hc : Clo ops listed) (h : MQ9 P n ds w0 D ops lo la Q Hs f listed H E) : SQ P n ds false w0 D ops Q (fun a w => Sok la Hs i w ∧ wpM P ops lo la Q (HOK Hs) f listed a w) H E [] :=
 fun a w he hw => ⟨.inl hl, h hc a w he hw⟩
theorem mqy9 (i : Nat) {d : Nat} {op : Op} {ty : TypeId} {ps : String} {af : Array Edge} {g : Option (Nat × Bool)} (hi : ops[i]? = some ⟨some d, op, ty, ps, af, g⟩)
  (hB : (takeB ops lo listed i && domB ops lo listed i) = true) (hg : gd ops E g = some true) (hd : Nat.blt d n = true) (h1 : QC P n ds false w0 D H E ⟨some d, op, ty, ps, af, g⟩ v)
  (h : MQ9 P n ds w0 D ops lo la Q Hs f (listed.setIfInBounds i true) H ((d, v) :: E)) : MQ9 P n ds w0 D ops lo la Q Hs (f + 1) listed H E := by
 intro hc a w he hw
 simp only [takeB, Bool.and_eq_true, Bool.not_eq_true'] at hB
 obtain ⟨⟨⟨⟨b1, b2⟩, b3⟩, b4⟩, b5⟩ := hB
 have hr : i ∈ Region.ready .any ops listed := by simpa using b3
 exact M_take hi b4 (Region.noSelect_spec b1) f listed a hc (fun j hj hu => domB_spec b5 hj hu hc.size) (Region.free_spec hi b2) hr (yat (o := ⟨some d, op, ty, ps, af, g⟩) hg he (h1 a w he hw)) (h (hc.set hr) _ _ (he.put hd v) hw)
theorem mq9 (i : Nat) {d : Nat} {op : Op} {ty : TypeId} {ps : String} {af : Array Edge} {g : Option (Nat × Bool)} (hi : ops[i]? = some ⟨some d, op, ty, ps, af, g⟩)
  (hB : (takeB ops lo listed i && domB ops lo listed i) = true) (hg : gd ops E g = some true) (hd : Nat.blt d n = true) (h1 : Q1 P n ds false w0 D H E ⟨some d, op, ty, ps, af, g⟩ v)
  (h : MQ9 P n ds w0 D ops lo la Q Hs f (listed.setIfInBounds i true) H ((d, v) :: E)) : MQ9 P n ds w0 D ops lo la Q Hs (f + 1) listed H E :=
 mqy9 i hi hB hg hd (fun a w he hw => .inl (h1 a w he hw)) h
theorem mql9 (i : Nat) {o : Oper} (hi : ops[i]? = some o) (hB : (decide (Region.ready .any ops listed = [i]) && lo i) = true)
  (h : Clo ops (listed.setIfInBounds i true) → SQ P n ds false w0 D ops Q (fun a w => Sok la Hs i w ∧ wpM P ops lo la Q (HOK Hs) f (listed.setIfInBounds i true) a w) H E [o]) : MQ9 P n ds w0 D ops lo la Q Hs (f + 1) listed H E := by
 intro hc a w he hw
 simp only [Bool.and_eq_true, decide_eq_true_eq] at hB
 refine ⟨fun h0 => (by rw [hB.1] at h0; cases h0), fun j hj => ?_⟩
 rw [hB.1] at hj
 obtain rfl : j = i := by simpa using hj
 rw [if_pos hB.2]
 have hr : j ∈ Region.ready .any ops listed := by rw [hB.1]; simp
 have := h (hc.set hr) a w he hw
 unfold wpOp
 simp only [hi]
 exact this
end
section
variable {P : Program} {n : Nat} {ds : List Deferred} {w0 : World} {D : List Nat} {H : zl} {E : Env} {ops : Array Oper} {Q : Exit → Act → World → Prop} {K : Act → World → Prop} {rest : List Oper}
variable {ty : TypeId} {ps : String} {af : Array Edge} {g : Option (Nat × Bool)} {x : Operand}
theorem s_bsw {t dd e sz bs : Nat} {z : Value} {l : List Value} [hs : Slc P t e sz bs] [hz : kI P e z] (hzs : z.cells.size = sz) (hg : gd ops E g = some true) (hd : Nat.blt dd n = true) (hx : opv E x = some (.agg l.toArray)) (hl : l.length = sz) (hs0 : Nat.blt 0 sz = true) (hs1 : Nat.ble sz 1000 = true)
  (h : ∀ b, SQ P n ds false w0 D ops Q K ((b, .cs e l []) :: H) ((dd, .slice (some ⟨b, 0, none⟩) 1 1) :: E) rest) : SQ P n ds false w0 D ops Q K H E (⟨some dd, .buildSlice t 1 #[(0, x)], ty, ps, af, g⟩ :: rest) :=
 s_bs1l hg hd hx (by simpa [Value.cells] using hl) hs0 hs1 ⟨z, hz, hzs⟩ (by simp [Value.cells]) h
end
end Go.Proofs.YtnfbcfflkphbiaaGreatDoor
