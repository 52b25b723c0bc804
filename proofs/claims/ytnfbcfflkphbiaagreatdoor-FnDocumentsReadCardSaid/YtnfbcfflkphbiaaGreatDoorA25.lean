/-
  Texts of the proof, joined: F23 F24 F26 F27. No Go text.
-/
import Derived.Test.YtnfbcfflkphbiaaGreatDoorA01
import Derived.Test.YtnfbcfflkphbiaaGreatDoorA08
import Derived.Test.YtnfbcfflkphbiaaGreatDoorA09
import Derived.Test.YtnfbcfflkphbiaaGreatDoorA24
namespace Go.Proofs.YtnfbcfflkphbiaaGreatDoor
open Go Go.Proofs Tryz
set_option linter.all false
set_option maxRecDepth 100000
set_option maxHeartbeats 8000000
theorem TDH_none (es : List (Sl × Sl)) : TDH none es = [] := rfl
theorem TDH_some (b c : Nat) (es : List (Sl × Sl)) : TDH (some (b, c)) es = [(b, .buf 134 (c * 2) (tdC es))] := rfl
structure DsEv (X : SS) (ev : EVt) (vd : Option Nat) (o : Option (Nat × Nat)) (es : List (Sl × Sl)) : Prop where
 ty : ev.ty = 3
 vd : ev.vd = vd
 td : ev.td = tdS o es.length
 hd : ev.hd = Sl.nil
 ln : ev.ln = Sl.nil
 ft : ev.ft = Sl.nil
 va : ev.va = Sl.nil
 im : ev.im = false
 qu : ev.qu = false
 sty : ev.sty = 0
theorem pds0_ok (L : Lay) (T : List Nat) (p : Nat → Nat) (f : Nat → Tk) (N eb i j0 m stb stc : Nat) (al : Bool) (X0 : SS) (he : Eof L) (hs : Str T p f N) (hq0 : QR L T p f N X0 i j0) (h1i : 1 ≤ i)
  (hdir : ∀ k, k < m → f (i + k) = .ver ∨ ∃ h p, f (i + k) = .tag h p) (hend : f (i + m) = .ds) (hver : ∀ k, k < m → f (i + k) = .ver → vrs f i k = false)
  (hdup : ∀ k h p, k < m → f (i + k) = .tag h p → h ∉ (tgs f i k).map (·.1)) (htg : ∀ k h p, f (i + k) = .tag h p → (∀ c ∈ h, c < 256) ∧ (∀ c ∈ p, c < 256) ∧ h.length < 1000000 ∧ p.length < 1000000) (hm : m < 900) (htd : TDV X0.V X0.tdv []) (hst : X0.stv = Sl.nil) (hstc : 1 ≤ stc ∧ stc ≤ 9223372036854775807) :
  Fn prog 74 [pV L.p, pV eb, .bool al] (EVZ eb :: SH L T X0)
    (fun u H' => u = .bool true ∧ ∃ X j vd o2 es2 ev sb sc, H' = EVB T eb ev :: STB sb sc :: RH L T (zc X) (TDH o2 es2 ++ (TKB T X :: SKB X :: MPB X :: (CH T X.J X.C ++ XH X.V X.J))) ∧ QR L T p f N X (i + m + 1) j ∧ X.st = 3 ∧ X.stv = ⟨some ⟨sb, 0, none⟩, 1, sc⟩ ∧ (1 ≤ sc ∧ sc ≤ 9223372036854775807) ∧ (X0.sep = false → X.sep = false) ∧ (∃ b n c, X.tdv = ⟨some ⟨b, 0, none⟩, n, c⟩ ∧ n ≤ c ∧ TDV X.V ⟨some ⟨b, 0, none⟩, 0, c⟩ []) ∧ LDR X.V o2 es2 (tgs f i m) ∧ VDR X.V vd (vrs f i m) ∧ (∀ y ∈ X0.V, NTD y → y ∈ X.V) ∧ DsEv X ev vd o2 es2) := by
 have hfst : f i = .ver ∨ (∃ h p, f i = .tag h p) ∨ f i = .ds := by
  rcases Nat.eq_zero_or_pos m with h | h
  · subst h
    exact .inr (.inr hend)
  · rcases hdir 0 h with h | h
    · exact .inl h
    · exact .inr (.inl h)
 refine zo func74 rfl rfl rfl ?_
 intro w
 refine gg 8 ?_
 refine za rfl rfl rfl (qD L T p f N X0 i j0 he hs hq0) ?_
 rintro _ _ ⟨X1, j1, rfl, rfl, hq1, hta1, hj1, hK1⟩
 obtain ⟨tv1, htv1, htok1, hty1⟩ := hq1.head hj1
 have h345 : tv1.typ = 3 ∨ tv1.typ = 4 ∨ tv1.typ = 5 := by
  rcases hfst with h | ⟨h', p', h⟩ | h
  · rw [h] at htok1; exact .inl htok1.1
  · rw [h] at htok1; exact .inr (.inl htok1.1)
  · rw [h] at htok1; exact .inr (.inr htok1)
 refine lS ?_
 refine gg 7 ?_
 refine sqz (qK underlying158 rfl rfl) (gg 5 ?_)
 refine zL (σ := Unit) (fun _ => [(0, pV L.p), (1, pV eb), (2, .bool al), (6, .bool false), (7, .pointer (some ⟨X1.tkb, X1.th * 14, none⟩))]) (fun _ => EVZ eb :: SH L T X1) (fun _ => True) ?_ ?_
 ·
  rcases al with _ | _
  ·
    refine gg 8 ?_
    refine zw (σ := Unit) (fun _ => [(0, pV L.p), (1, pV eb), (2, .bool false), (6, .bool false), (7, .pointer (some ⟨X1.tkb, X1.th * 14, none⟩))]) (fun _ => EVZ eb :: SH L T X1) (fun _ => True) (fun _ => 0) () trivial suT (Wk.toT (CH T X1.J X1.C ++ XH X1.V X1.J) [eb, L.p, L.bb, L.rb, L.ib, 0, X1.tkb, X1.skb, X1.mpb] wlT) ?_
    rintro ⟨⟩ -
    refine gg 6 ?_
    refine sqz (zz (T := T) (tl := X1.tl) (i := X1.th) (j := 0) rfl roT omT htv1 rfl) (gg 8 ?_)
    exact zg () trivial suT (Wk.refl _)
  ·
    refine gg 8 ?_
    exact zg () trivial suT (Wk.toT (CH T X1.J X1.C ++ XH X1.V X1.J) [eb, L.p, L.bb, L.rb, L.ib, 0, X1.tkb, X1.skb, X1.mpb] wlT)
 ·
  rintro ⟨⟩ -
  refine zt (EVZ eb :: SH L T X1) [(0, pV L.p), (1, pV eb), (2, .bool al), (6, .bool false), (7, .pointer (some ⟨X1.tkb, X1.th * 14, none⟩))] rfl rfl (zd ?_)
  refine qm 59 (fun b => b = false) ?_ ?_
  ·
    rcases al with _ | _
    ·
      refine gg 31 ?_
      exact zE (b := false) rfl exT rfl
    ·
      rcases h345 with h3 | h3 | h3
      ·
       refine gg 6 ?_
       refine sqz (zz (T := T) (tl := X1.tl) (i := X1.th) (j := 0) rfl roT omT htv1 rfl) (gg 24 ?_)
       exact zE (b := false) rfl exT rfl
      ·
       refine gg 6 ?_
       refine sqz (zz (T := T) (tl := X1.tl) (i := X1.th) (j := 0) rfl roT omT htv1 rfl) (gg 6 ?_)
       refine sqz (zz (T := T) (tl := X1.tl) (i := X1.th) (j := 0) rfl roT omT htv1 rfl) (gg 17 ?_)
       exact zE (b := false) rfl exT rfl
      ·
       refine gg 6 ?_
       refine sqz (zz (T := T) (tl := X1.tl) (i := X1.th) (j := 0) rfl roT omT htv1 rfl) (gg 6 ?_)
       refine sqz (zz (T := T) (tl := X1.tl) (i := X1.th) (j := 0) rfl roT omT htv1 rfl) (gg 6 ?_)
       refine sqz (zz (T := T) (tl := X1.tl) (i := X1.th) (j := 0) rfl roT omT htv1 rfl) (gg 10 ?_)
       exact zE (b := false) rfl exT rfl
  ·
    rintro b59 hb59
    refine qr rfl (hb59) (gg 5 ?_)
    refine sqz (zz (T := T) (tl := X1.tl) (i := X1.th) (j := 0) rfl roT omT htv1 rfl) (gg 6 ?_)
    refine zk rfl rfl clT ?_
    intro v10
    refine gg 4 ?_
    refine zk rfl rfl clT ?_
    intro v11
    refine gg 7 ?_
    refine sqz (kU (T := T) (tl := X1.tl) (i := X1.th) (j := 1) rfl roT omT htv1 rfl rfl rfl) (zk rfl rfl clT ?_)
    intro m12
    first | refine stw rfl rfl ?_ | refine sts rfl rfl ?_
    refine gg 6 ?_
    refine za rfl rfl rfl (pd_ok L T p f N i j1 m v10 v11 X1 he hs hq1 h1i hdir ⟨by rw [hend]; exact fun h => (by cases h), fun h p => by rw [hend]; exact fun h => (by cases h)⟩ hver hdup htg hm (by rw [hK1.tdv]; exact htd.mono hK1.v)) ?_
    rintro _ _ ⟨rfl, X2, j2, vd, o2, es2, rfl, hq2, hj2, htd2, hL2, hV2, hK2⟩
    refine lS ?_
    refine gg 3 ?_
    rcases o2 with _ | ⟨lb, lc⟩
    ·
      simp only [TDH_none, TDH_some, List.cons_append, List.nil_append]
      refine gg 6 ?_
      refine za rfl rfl rfl (qD L T p f N X2 (i + m) j2 he hs hq2) ?_
      rintro _ _ ⟨X3, j3, rfl, rfl, hq3, hta3, hj3, hK3⟩
      obtain ⟨tv, htv, htok, hty⟩ := hq3.head hj3
      rw [hend] at htok
      have hty5 : tv.typ = 5 := htok
      have hst3 : X3.stv = Sl.nil := hK3.stv.trans (hK2.stv.trans (hK1.stv.trans hst))
      obtain ⟨X3, rfl⟩ : ∃ Y : SS, X3 = { Y with stv := Sl.nil } := ⟨X3, by rw [← hst3]⟩
      have htlc3 := hq3.si.tlc
      have htkc3 := hq3.si.tkc
      dsimp only at htv htlc3 htkc3
      refine lS ?_
      refine gg 7 ?_
      refine sqz (qK underlying158 rfl rfl) (gg 11 ?_)
      refine sqz (zz (T := T) (tl := X3.tl) (i := X3.th) (j := 0) rfl roT omT htv rfl) (gg 13 ?_)
      refine kV (l := [_]) (zs := [zI]) [0] rfl rfl rfl rfl kR rfl rfl ?_
      intro nb
      refine kr (sz := 1) (news := [.int .i64 4]) rfl rfl rfl rfl rfl (zN (k := .cs 68 [.int .i64 4] []) (Nat.le_refl _) (Nat.le_refl _) (fun j u hj => by simp only [Blk.cell, look, nth, Nat.zero_add]; exact hj)) rfl (by decide) (by decide) (by decide) ?_
      intro nb2 nc hk1 hk2
      refine gg 18 ?_
      refine sqz (kU (T := T) (tl := X3.tl) (i := X3.th) (j := 4) rfl roT omT htv rfl rfl rfl) (zk rfl rfl clT ?_)
      intro m13
      first | refine stw rfl rfl ?_ | refine sts rfl rfl ?_
      refine ze ?_
      refine zf ?_
      rcases vd with _ | vb
      ·
       have hiN : i + m ≤ N := by
        rcases Nat.lt_or_ge N (i + m) with h | h
        · have h8 := hs.fin (i + m) omT; rw [hend] at h8; cases h8
        · exact h
       have hq5 : QR L T p f N { X3 with st := 3, stv := ⟨some ⟨nb2, 0, none⟩, 1, nc⟩ } (i + m) j3 := hq3.st (k := 3) (s := ⟨some ⟨nb2, 0, none⟩, 1, nc⟩) (t := X3.tdv)
       refine gg 7 ?_
       refine sqz (zu (l := [_, _, _, _, _, _, _, _, _, _, _, _, _, _, _, _, _, _, _, _]) (zs := [.int .i8 0, zI, zI, zI, zI, zI, zI, zI, .pointer none, zS, zS, zS, zS, zS, zS, zS, zS, .bool false, .bool false, .int .i8 0]) [0, 1, 4, 7, 8, 9, 10, 11, 12, 13, 14, 15, 16, 17, 18, 19] rfl rfl kR) ?_
       refine snc ?_
       first | refine stw rfl rfl ?_ | refine sts rfl rfl ?_
       refine ze ?_
       refine zf (zA L.p (.cs 75 (qp L T (zc { X3 with st := 3, stv := ⟨some ⟨nb2, 0, none⟩, 1, nc⟩ })) []) (Blk.like_rec kR) (zi (smv ?_)))
       refine za rfl rfl rfl (qM L T p f N { X3 with st := 3, stv := ⟨some ⟨nb2, 0, none⟩, 1, nc⟩ } (i + m) j3 tv hs hq5 hj3 hiN htv) ?_
       rintro _ _ ⟨rfl, rfl, hq6⟩
       refine lS ?_
       refine gg 8 ?_
       have hkk : ∀ y ∈ X2.V, y ∈ X3.V := hK3.v
       obtain ⟨b5, n5, c5, t1, t2, t3⟩ := htd2
       exact zm (H' := EVB T eb ⟨3, tv1.a, tv.e, 0, none, tdS none es2.length, Sl.nil, Sl.nil, Sl.nil, Sl.nil, false, false, 0⟩ :: (nb2, .buf 68 (nc * 1) [.int .i64 4]) :: RH L T (zc { X3 with st := 3, stv := ⟨some ⟨nb2, 0, none⟩, 1, nc⟩, ta := false, tp := X3.tp + 1, th := X3.th + 1, sep := (tv.typ == 2) }) (TKB T X3 :: SKB X3 :: MPB X3 :: (CH T X3.J X3.C ++ XH X3.V X3.J))) rfl rfl (Wk.toT (CH T X3.J X3.C ++ XH X3.V X3.J) [eb, nb2, L.p, L.bb, L.rb, L.ib, 0, X3.tkb, X3.skb, X3.mpb] wlT) ⟨rfl, { X3 with st := 3, stv := ⟨some ⟨nb2, 0, none⟩, 1, nc⟩, ta := false, tp := X3.tp + 1, th := X3.th + 1, sep := (tv.typ == 2) }, j3, none, none, es2, ⟨3, tv1.a, tv.e, 0, none, tdS none es2.length, Sl.nil, Sl.nil, Sl.nil, Sl.nil, false, false, 0⟩, nb2, nc, by rw [Nat.mul_one]; rfl, hq6, rfl, rfl, ⟨hk1, hk2⟩, fun _ => (by dsimp only; rw [hty5]; rfl), ⟨b5, n5, c5, hK3.tdv.trans t1, t2, t3.mono hkk⟩, hL2.keep (fun y hy _ => hkk y hy), hV2.keep (fun y hy _ => hkk y hy), fun y hy hn => hkk y (hK2.v y (hK1.v y hy) hn), ⟨rfl, rfl, rfl, rfl, rfl, rfl, rfl, rfl, rfl, rfl⟩⟩
      ·
       have hiN : i + m ≤ N := by
        rcases Nat.lt_or_ge N (i + m) with h | h
        · have h8 := hs.fin (i + m) omT; rw [hend] at h8; cases h8
        · exact h
       have hq5 : QR L T p f N { X3 with st := 3, stv := ⟨some ⟨nb2, 0, none⟩, 1, nc⟩ } (i + m) j3 := hq3.st (k := 3) (s := ⟨some ⟨nb2, 0, none⟩, 1, nc⟩) (t := X3.tdv)
       refine gg 7 ?_
       refine sqz (zu (l := [_, _, _, _, _, _, _, _, _, _, _, _, _, _, _, _, _, _, _, _]) (zs := [.int .i8 0, zI, zI, zI, zI, zI, zI, zI, .pointer none, zS, zS, zS, zS, zS, zS, zS, zS, .bool false, .bool false, .int .i8 0]) [0, 1, 4, 7, 8, 9, 10, 11, 12, 13, 14, 15, 16, 17, 18, 19] rfl rfl kR) ?_
       refine snc ?_
       first | refine stw rfl rfl ?_ | refine sts rfl rfl ?_
       refine ze ?_
       refine zf (zA L.p (.cs 75 (qp L T (zc { X3 with st := 3, stv := ⟨some ⟨nb2, 0, none⟩, 1, nc⟩ })) []) (Blk.like_rec kR) (zi (smv ?_)))
       refine za rfl rfl rfl (qM L T p f N { X3 with st := 3, stv := ⟨some ⟨nb2, 0, none⟩, 1, nc⟩ } (i + m) j3 tv hs hq5 hj3 hiN htv) ?_
       rintro _ _ ⟨rfl, rfl, hq6⟩
       refine lS ?_
       refine gg 8 ?_
       have hkk : ∀ y ∈ X2.V, y ∈ X3.V := hK3.v
       obtain ⟨b5, n5, c5, t1, t2, t3⟩ := htd2
       exact zm (H' := EVB T eb ⟨3, tv1.a, tv.e, 0, (some vb), tdS none es2.length, Sl.nil, Sl.nil, Sl.nil, Sl.nil, false, false, 0⟩ :: (nb2, .buf 68 (nc * 1) [.int .i64 4]) :: RH L T (zc { X3 with st := 3, stv := ⟨some ⟨nb2, 0, none⟩, 1, nc⟩, ta := false, tp := X3.tp + 1, th := X3.th + 1, sep := (tv.typ == 2) }) (TKB T X3 :: SKB X3 :: MPB X3 :: (CH T X3.J X3.C ++ XH X3.V X3.J))) rfl rfl (Wk.toT (CH T X3.J X3.C ++ XH X3.V X3.J) [eb, nb2, L.p, L.bb, L.rb, L.ib, 0, X3.tkb, X3.skb, X3.mpb] wlT) ⟨rfl, { X3 with st := 3, stv := ⟨some ⟨nb2, 0, none⟩, 1, nc⟩, ta := false, tp := X3.tp + 1, th := X3.th + 1, sep := (tv.typ == 2) }, j3, (some vb), none, es2, ⟨3, tv1.a, tv.e, 0, (some vb), tdS none es2.length, Sl.nil, Sl.nil, Sl.nil, Sl.nil, false, false, 0⟩, nb2, nc, by rw [Nat.mul_one]; rfl, hq6, rfl, rfl, ⟨hk1, hk2⟩, fun _ => (by dsimp only; rw [hty5]; rfl), ⟨b5, n5, c5, hK3.tdv.trans t1, t2, t3.mono hkk⟩, hL2.keep (fun y hy _ => hkk y hy), hV2.keep (fun y hy _ => hkk y hy), fun y hy hn => hkk y (hK2.v y (hK1.v y hy) hn), ⟨rfl, rfl, rfl, rfl, rfl, rfl, rfl, rfl, rfl, rfl⟩⟩
    ·
      simp only [TDH_none, TDH_some, List.cons_append, List.nil_append]
      refine gg 6 ?_
      refine za rfl rfl rfl (qD L T p f N X2 (i + m) j2 he hs hq2) ?_
      rintro _ _ ⟨X3, j3, rfl, rfl, hq3, hta3, hj3, hK3⟩
      obtain ⟨tv, htv, htok, hty⟩ := hq3.head hj3
      rw [hend] at htok
      have hty5 : tv.typ = 5 := htok
      have hst3 : X3.stv = Sl.nil := hK3.stv.trans (hK2.stv.trans (hK1.stv.trans hst))
      obtain ⟨X3, rfl⟩ : ∃ Y : SS, X3 = { Y with stv := Sl.nil } := ⟨X3, by rw [← hst3]⟩
      have htlc3 := hq3.si.tlc
      have htkc3 := hq3.si.tkc
      dsimp only at htv htlc3 htkc3
      refine lS ?_
      refine gg 7 ?_
      refine sqz (qK underlying158 rfl rfl) (gg 11 ?_)
      refine sqz (zz (T := T) (tl := X3.tl) (i := X3.th) (j := 0) rfl roT omT htv rfl) (gg 13 ?_)
      refine kV (l := [_]) (zs := [zI]) [0] rfl rfl rfl rfl kR rfl rfl ?_
      intro nb
      refine kr (sz := 1) (news := [.int .i64 4]) rfl rfl rfl rfl rfl (zN (k := .cs 68 [.int .i64 4] []) (Nat.le_refl _) (Nat.le_refl _) (fun j u hj => by simp only [Blk.cell, look, nth, Nat.zero_add]; exact hj)) rfl (by decide) (by decide) (by decide) ?_
      intro nb2 nc hk1 hk2
      refine gg 18 ?_
      refine sqz (kU (T := T) (tl := X3.tl) (i := X3.th) (j := 4) rfl roT omT htv rfl rfl rfl) (zk rfl rfl clT ?_)
      intro m13
      first | refine stw rfl rfl ?_ | refine sts rfl rfl ?_
      refine ze ?_
      refine zf ?_
      rcases vd with _ | vb
      ·
       have hiN : i + m ≤ N := by
        rcases Nat.lt_or_ge N (i + m) with h | h
        · have h8 := hs.fin (i + m) omT; rw [hend] at h8; cases h8
        · exact h
       have hq5 : QR L T p f N { X3 with st := 3, stv := ⟨some ⟨nb2, 0, none⟩, 1, nc⟩ } (i + m) j3 := hq3.st (k := 3) (s := ⟨some ⟨nb2, 0, none⟩, 1, nc⟩) (t := X3.tdv)
       refine gg 7 ?_
       refine sqz (zu (l := [_, _, _, _, _, _, _, _, _, _, _, _, _, _, _, _, _, _, _, _]) (zs := [.int .i8 0, zI, zI, zI, zI, zI, zI, zI, .pointer none, zS, zS, zS, zS, zS, zS, zS, zS, .bool false, .bool false, .int .i8 0]) [0, 1, 4, 7, 8, 9, 10, 11, 12, 13, 14, 15, 16, 17, 18, 19] rfl rfl kR) ?_
       refine snc ?_
       first | refine stw rfl rfl ?_ | refine sts rfl rfl ?_
       refine ze ?_
       refine zf (zA L.p (.cs 75 (qp L T (zc { X3 with st := 3, stv := ⟨some ⟨nb2, 0, none⟩, 1, nc⟩ })) []) (Blk.like_rec kR) (zi (smv ?_)))
       refine za rfl rfl rfl (qM L T p f N { X3 with st := 3, stv := ⟨some ⟨nb2, 0, none⟩, 1, nc⟩ } (i + m) j3 tv hs hq5 hj3 hiN htv) ?_
       rintro _ _ ⟨rfl, rfl, hq6⟩
       refine lS ?_
       refine gg 8 ?_
       have hkk : ∀ y ∈ X2.V, y ∈ X3.V := hK3.v
       obtain ⟨b5, n5, c5, t1, t2, t3⟩ := htd2
       exact zm (H' := EVB T eb ⟨3, tv1.a, tv.e, 0, none, tdS (some (lb, lc)) es2.length, Sl.nil, Sl.nil, Sl.nil, Sl.nil, false, false, 0⟩ :: (nb2, .buf 68 (nc * 1) [.int .i64 4]) :: RH L T (zc { X3 with st := 3, stv := ⟨some ⟨nb2, 0, none⟩, 1, nc⟩, ta := false, tp := X3.tp + 1, th := X3.th + 1, sep := (tv.typ == 2) }) ((lb, .buf 134 (lc * 2) (tdC es2)) :: TKB T X3 :: SKB X3 :: MPB X3 :: (CH T X3.J X3.C ++ XH X3.V X3.J))) rfl rfl (Wk.toT (CH T X3.J X3.C ++ XH X3.V X3.J) [eb, nb2, L.p, L.bb, L.rb, L.ib, 0, lb, X3.tkb, X3.skb, X3.mpb] wlT) ⟨rfl, { X3 with st := 3, stv := ⟨some ⟨nb2, 0, none⟩, 1, nc⟩, ta := false, tp := X3.tp + 1, th := X3.th + 1, sep := (tv.typ == 2) }, j3, none, (some (lb, lc)), es2, ⟨3, tv1.a, tv.e, 0, none, tdS (some (lb, lc)) es2.length, Sl.nil, Sl.nil, Sl.nil, Sl.nil, false, false, 0⟩, nb2, nc, by rw [Nat.mul_one]; rfl, hq6, rfl, rfl, ⟨hk1, hk2⟩, fun _ => (by dsimp only; rw [hty5]; rfl), ⟨b5, n5, c5, hK3.tdv.trans t1, t2, t3.mono hkk⟩, hL2.keep (fun y hy _ => hkk y hy), hV2.keep (fun y hy _ => hkk y hy), fun y hy hn => hkk y (hK2.v y (hK1.v y hy) hn), ⟨rfl, rfl, rfl, rfl, rfl, rfl, rfl, rfl, rfl, rfl⟩⟩
      ·
       have hiN : i + m ≤ N := by
        rcases Nat.lt_or_ge N (i + m) with h | h
        · have h8 := hs.fin (i + m) omT; rw [hend] at h8; cases h8
        · exact h
       have hq5 : QR L T p f N { X3 with st := 3, stv := ⟨some ⟨nb2, 0, none⟩, 1, nc⟩ } (i + m) j3 := hq3.st (k := 3) (s := ⟨some ⟨nb2, 0, none⟩, 1, nc⟩) (t := X3.tdv)
       refine gg 7 ?_
       refine sqz (zu (l := [_, _, _, _, _, _, _, _, _, _, _, _, _, _, _, _, _, _, _, _]) (zs := [.int .i8 0, zI, zI, zI, zI, zI, zI, zI, .pointer none, zS, zS, zS, zS, zS, zS, zS, zS, .bool false, .bool false, .int .i8 0]) [0, 1, 4, 7, 8, 9, 10, 11, 12, 13, 14, 15, 16, 17, 18, 19] rfl rfl kR) ?_
       refine snc ?_
       first | refine stw rfl rfl ?_ | refine sts rfl rfl ?_
       refine ze ?_
       refine zf (zA L.p (.cs 75 (qp L T (zc { X3 with st := 3, stv := ⟨some ⟨nb2, 0, none⟩, 1, nc⟩ })) []) (Blk.like_rec kR) (zi (smv ?_)))
       refine za rfl rfl rfl (qM L T p f N { X3 with st := 3, stv := ⟨some ⟨nb2, 0, none⟩, 1, nc⟩ } (i + m) j3 tv hs hq5 hj3 hiN htv) ?_
       rintro _ _ ⟨rfl, rfl, hq6⟩
       refine lS ?_
       refine gg 8 ?_
       have hkk : ∀ y ∈ X2.V, y ∈ X3.V := hK3.v
       obtain ⟨b5, n5, c5, t1, t2, t3⟩ := htd2
       exact zm (H' := EVB T eb ⟨3, tv1.a, tv.e, 0, (some vb), tdS (some (lb, lc)) es2.length, Sl.nil, Sl.nil, Sl.nil, Sl.nil, false, false, 0⟩ :: (nb2, .buf 68 (nc * 1) [.int .i64 4]) :: RH L T (zc { X3 with st := 3, stv := ⟨some ⟨nb2, 0, none⟩, 1, nc⟩, ta := false, tp := X3.tp + 1, th := X3.th + 1, sep := (tv.typ == 2) }) ((lb, .buf 134 (lc * 2) (tdC es2)) :: TKB T X3 :: SKB X3 :: MPB X3 :: (CH T X3.J X3.C ++ XH X3.V X3.J))) rfl rfl (Wk.toT (CH T X3.J X3.C ++ XH X3.V X3.J) [eb, nb2, L.p, L.bb, L.rb, L.ib, 0, lb, X3.tkb, X3.skb, X3.mpb] wlT) ⟨rfl, { X3 with st := 3, stv := ⟨some ⟨nb2, 0, none⟩, 1, nc⟩, ta := false, tp := X3.tp + 1, th := X3.th + 1, sep := (tv.typ == 2) }, j3, (some vb), (some (lb, lc)), es2, ⟨3, tv1.a, tv.e, 0, (some vb), tdS (some (lb, lc)) es2.length, Sl.nil, Sl.nil, Sl.nil, Sl.nil, false, false, 0⟩, nb2, nc, by rw [Nat.mul_one]; rfl, hq6, rfl, rfl, ⟨hk1, hk2⟩, fun _ => (by dsimp only; rw [hty5]; rfl), ⟨b5, n5, c5, hK3.tdv.trans t1, t2, t3.mono hkk⟩, hL2.keep (fun y hy _ => hkk y hy), hV2.keep (fun y hy _ => hkk y hy), fun y hy hn => hkk y (hK2.v y (hK1.v y hy) hn), ⟨rfl, rfl, rfl, rfl, rfl, rfl, rfl, rfl, rfl, rfl⟩⟩
theorem pds1_ok (L : Lay) (T : List Nat) (p : Nat → Nat) (f : Nat → Tk) (N eb i j0 m stb stc : Nat) (al : Bool) (X0 : SS) (he : Eof L) (hs : Str T p f N) (hq0 : QR L T p f N X0 i j0) (h1i : 1 ≤ i)
  (hdir : ∀ k, k < m → f (i + k) = .ver ∨ ∃ h p, f (i + k) = .tag h p) (hend : f (i + m) = .ds) (hver : ∀ k, k < m → f (i + k) = .ver → vrs f i k = false)
  (hdup : ∀ k h p, k < m → f (i + k) = .tag h p → h ∉ (tgs f i k).map (·.1)) (htg : ∀ k h p, f (i + k) = .tag h p → (∀ c ∈ h, c < 256) ∧ (∀ c ∈ p, c < 256) ∧ h.length < 1000000 ∧ p.length < 1000000) (hm : m < 900) (htd : TDV X0.V X0.tdv []) (hst : X0.stv = ⟨some ⟨stb, 0, none⟩, 0, stc⟩) (hstc : 1 ≤ stc ∧ stc ≤ 9223372036854775807) :
  Fn prog 74 [pV L.p, pV eb, .bool al] (EVZ eb :: STB stb stc :: SH L T X0)
    (fun u H' => u = .bool true ∧ ∃ X j vd o2 es2 ev sb sc, H' = EVB T eb ev :: STB sb sc :: RH L T (zc X) (TDH o2 es2 ++ (TKB T X :: SKB X :: MPB X :: (CH T X.J X.C ++ XH X.V X.J))) ∧ QR L T p f N X (i + m + 1) j ∧ X.st = 3 ∧ X.stv = ⟨some ⟨sb, 0, none⟩, 1, sc⟩ ∧ (1 ≤ sc ∧ sc ≤ 9223372036854775807) ∧ (X0.sep = false → X.sep = false) ∧ (∃ b n c, X.tdv = ⟨some ⟨b, 0, none⟩, n, c⟩ ∧ n ≤ c ∧ TDV X.V ⟨some ⟨b, 0, none⟩, 0, c⟩ []) ∧ LDR X.V o2 es2 (tgs f i m) ∧ VDR X.V vd (vrs f i m) ∧ (∀ y ∈ X0.V, NTD y → y ∈ X.V) ∧ DsEv X ev vd o2 es2) := by
 have hfst : f i = .ver ∨ (∃ h p, f i = .tag h p) ∨ f i = .ds := by
  rcases Nat.eq_zero_or_pos m with h | h
  · subst h
    exact .inr (.inr hend)
  · rcases hdir 0 h with h | h
    · exact .inl h
    · exact .inr (.inl h)
 refine zo func74 rfl rfl rfl ?_
 intro w
 refine gg 8 ?_
 refine za rfl rfl rfl (qD L T p f N X0 i j0 he hs hq0) ?_
 rintro _ _ ⟨X1, j1, rfl, rfl, hq1, hta1, hj1, hK1⟩
 obtain ⟨tv1, htv1, htok1, hty1⟩ := hq1.head hj1
 have h345 : tv1.typ = 3 ∨ tv1.typ = 4 ∨ tv1.typ = 5 := by
  rcases hfst with h | ⟨h', p', h⟩ | h
  · rw [h] at htok1; exact .inl htok1.1
  · rw [h] at htok1; exact .inr (.inl htok1.1)
  · rw [h] at htok1; exact .inr (.inr htok1)
 refine lS ?_
 refine gg 7 ?_
 refine sqz (qK underlying158 rfl rfl) (gg 5 ?_)
 refine zL (σ := Unit) (fun _ => [(0, pV L.p), (1, pV eb), (2, .bool al), (6, .bool false), (7, .pointer (some ⟨X1.tkb, X1.th * 14, none⟩))]) (fun _ => EVZ eb :: STB stb stc :: SH L T X1) (fun _ => True) ?_ ?_
 ·
  rcases al with _ | _
  ·
    refine gg 8 ?_
    refine zw (σ := Unit) (fun _ => [(0, pV L.p), (1, pV eb), (2, .bool false), (6, .bool false), (7, .pointer (some ⟨X1.tkb, X1.th * 14, none⟩))]) (fun _ => EVZ eb :: STB stb stc :: SH L T X1) (fun _ => True) (fun _ => 0) () trivial suT (Wk.toT (CH T X1.J X1.C ++ XH X1.V X1.J) [eb, stb, L.p, L.bb, L.rb, L.ib, 0, X1.tkb, X1.skb, X1.mpb] wlT) ?_
    rintro ⟨⟩ -
    refine gg 6 ?_
    refine sqz (zz (T := T) (tl := X1.tl) (i := X1.th) (j := 0) rfl roT omT htv1 rfl) (gg 8 ?_)
    exact zg () trivial suT (Wk.refl _)
  ·
    refine gg 8 ?_
    exact zg () trivial suT (Wk.toT (CH T X1.J X1.C ++ XH X1.V X1.J) [eb, stb, L.p, L.bb, L.rb, L.ib, 0, X1.tkb, X1.skb, X1.mpb] wlT)
 ·
  rintro ⟨⟩ -
  refine zt (EVZ eb :: STB stb stc :: SH L T X1) [(0, pV L.p), (1, pV eb), (2, .bool al), (6, .bool false), (7, .pointer (some ⟨X1.tkb, X1.th * 14, none⟩))] rfl rfl (zd ?_)
  refine qm 59 (fun b => b = false) ?_ ?_
  ·
    rcases al with _ | _
    ·
      refine gg 31 ?_
      exact zE (b := false) rfl exT rfl
    ·
      rcases h345 with h3 | h3 | h3
      ·
       refine gg 6 ?_
       refine sqz (zz (T := T) (tl := X1.tl) (i := X1.th) (j := 0) rfl roT omT htv1 rfl) (gg 24 ?_)
       exact zE (b := false) rfl exT rfl
      ·
       refine gg 6 ?_
       refine sqz (zz (T := T) (tl := X1.tl) (i := X1.th) (j := 0) rfl roT omT htv1 rfl) (gg 6 ?_)
       refine sqz (zz (T := T) (tl := X1.tl) (i := X1.th) (j := 0) rfl roT omT htv1 rfl) (gg 17 ?_)
       exact zE (b := false) rfl exT rfl
      ·
       refine gg 6 ?_
       refine sqz (zz (T := T) (tl := X1.tl) (i := X1.th) (j := 0) rfl roT omT htv1 rfl) (gg 6 ?_)
       refine sqz (zz (T := T) (tl := X1.tl) (i := X1.th) (j := 0) rfl roT omT htv1 rfl) (gg 6 ?_)
       refine sqz (zz (T := T) (tl := X1.tl) (i := X1.th) (j := 0) rfl roT omT htv1 rfl) (gg 10 ?_)
       exact zE (b := false) rfl exT rfl
  ·
    rintro b59 hb59
    refine qr rfl (hb59) (gg 5 ?_)
    refine sqz (zz (T := T) (tl := X1.tl) (i := X1.th) (j := 0) rfl roT omT htv1 rfl) (gg 6 ?_)
    refine zk rfl rfl clT ?_
    intro v10
    refine gg 4 ?_
    refine zk rfl rfl clT ?_
    intro v11
    refine gg 7 ?_
    refine sqz (kU (T := T) (tl := X1.tl) (i := X1.th) (j := 1) rfl roT omT htv1 rfl rfl rfl) (zk rfl rfl clT ?_)
    intro m12
    first | refine stw rfl rfl ?_ | refine sts rfl rfl ?_
    refine gg 6 ?_
    refine za rfl rfl rfl (pd_ok L T p f N i j1 m v10 v11 X1 he hs hq1 h1i hdir ⟨by rw [hend]; exact fun h => (by cases h), fun h p => by rw [hend]; exact fun h => (by cases h)⟩ hver hdup htg hm (by rw [hK1.tdv]; exact htd.mono hK1.v)) ?_
    rintro _ _ ⟨rfl, X2, j2, vd, o2, es2, rfl, hq2, hj2, htd2, hL2, hV2, hK2⟩
    refine lS ?_
    refine gg 3 ?_
    rcases o2 with _ | ⟨lb, lc⟩
    ·
      simp only [TDH_none, TDH_some, List.cons_append, List.nil_append]
      refine gg 6 ?_
      refine za rfl rfl rfl (qD L T p f N X2 (i + m) j2 he hs hq2) ?_
      rintro _ _ ⟨X3, j3, rfl, rfl, hq3, hta3, hj3, hK3⟩
      obtain ⟨tv, htv, htok, hty⟩ := hq3.head hj3
      rw [hend] at htok
      have hty5 : tv.typ = 5 := htok
      have hst3 : X3.stv = ⟨some ⟨stb, 0, none⟩, 0, stc⟩ := hK3.stv.trans (hK2.stv.trans (hK1.stv.trans hst))
      obtain ⟨X3, rfl⟩ : ∃ Y : SS, X3 = { Y with stv := ⟨some ⟨stb, 0, none⟩, 0, stc⟩ } := ⟨X3, by rw [← hst3]⟩
      have htlc3 := hq3.si.tlc
      have htkc3 := hq3.si.tkc
      dsimp only at htv htlc3 htkc3
      refine lS ?_
      refine gg 7 ?_
      refine sqz (qK underlying158 rfl rfl) (gg 11 ?_)
      refine sqz (zz (T := T) (tl := X3.tl) (i := X3.th) (j := 0) rfl roT omT htv rfl) (gg 3 ?_)
      refine zA stb (.buf 68 stc []) (wt (by intro j u h; simp at h)) ?_
      refine gg 10 ?_
      refine kV (l := [_]) (zs := [zI]) [0] rfl rfl rfl rfl kR rfl rfl ?_
      intro nb
      refine zY (sz := 1) (n0 := 0) (mm := stc) (xs := []) (news := [.int .i64 4]) rfl rfl rfl rfl (Nat.mul_one _).symm rfl (Nat.zero_le _) hstc.2 rfl (zN (k := .cs 68 [.int .i64 4] []) (Nat.le_refl _) (Nat.le_refl _) (fun j u hj => by simp only [Blk.cell, look, nth, Nat.zero_add]; exact hj)) rfl (kK rfl) (by decide) (by decide) ?_
      intro nb2 nc hk1 hk2
      refine gg 18 ?_
      refine sqz (kU (T := T) (tl := X3.tl) (i := X3.th) (j := 4) rfl roT omT htv rfl rfl rfl) (zk rfl rfl clT ?_)
      intro m13
      first | refine stw rfl rfl ?_ | refine sts rfl rfl ?_
      refine ze ?_
      refine zf ?_
      rcases vd with _ | vb
      ·
       have hiN : i + m ≤ N := by
        rcases Nat.lt_or_ge N (i + m) with h | h
        · have h8 := hs.fin (i + m) omT; rw [hend] at h8; cases h8
        · exact h
       have hq5 : QR L T p f N { X3 with st := 3, stv := ⟨some ⟨nb2, 0, none⟩, 1, nc⟩ } (i + m) j3 := hq3.st (k := 3) (s := ⟨some ⟨nb2, 0, none⟩, 1, nc⟩) (t := X3.tdv)
       refine gg 7 ?_
       refine sqz (zu (l := [_, _, _, _, _, _, _, _, _, _, _, _, _, _, _, _, _, _, _, _]) (zs := [.int .i8 0, zI, zI, zI, zI, zI, zI, zI, .pointer none, zS, zS, zS, zS, zS, zS, zS, zS, .bool false, .bool false, .int .i8 0]) [0, 1, 4, 7, 8, 9, 10, 11, 12, 13, 14, 15, 16, 17, 18, 19] rfl rfl kR) ?_
       refine snc ?_
       first | refine stw rfl rfl ?_ | refine sts rfl rfl ?_
       refine ze ?_
       refine zf (zA L.p (.cs 75 (qp L T (zc { X3 with st := 3, stv := ⟨some ⟨nb2, 0, none⟩, 1, nc⟩ })) []) (Blk.like_rec kR) (zi (smv ?_)))
       refine za rfl rfl rfl (qM L T p f N { X3 with st := 3, stv := ⟨some ⟨nb2, 0, none⟩, 1, nc⟩ } (i + m) j3 tv hs hq5 hj3 hiN htv) ?_
       rintro _ _ ⟨rfl, rfl, hq6⟩
       refine lS ?_
       refine gg 8 ?_
       have hkk : ∀ y ∈ X2.V, y ∈ X3.V := hK3.v
       obtain ⟨b5, n5, c5, t1, t2, t3⟩ := htd2
       exact zm (H' := EVB T eb ⟨3, tv1.a, tv.e, 0, none, tdS none es2.length, Sl.nil, Sl.nil, Sl.nil, Sl.nil, false, false, 0⟩ :: (nb2, .buf 68 (nc * 1) [.int .i64 4]) :: RH L T (zc { X3 with st := 3, stv := ⟨some ⟨nb2, 0, none⟩, 1, nc⟩, ta := false, tp := X3.tp + 1, th := X3.th + 1, sep := (tv.typ == 2) }) (TKB T X3 :: SKB X3 :: MPB X3 :: (CH T X3.J X3.C ++ XH X3.V X3.J))) rfl rfl (Wk.toT (CH T X3.J X3.C ++ XH X3.V X3.J) [eb, nb2, L.p, L.bb, L.rb, L.ib, 0, X3.tkb, X3.skb, X3.mpb] wlT) ⟨rfl, { X3 with st := 3, stv := ⟨some ⟨nb2, 0, none⟩, 1, nc⟩, ta := false, tp := X3.tp + 1, th := X3.th + 1, sep := (tv.typ == 2) }, j3, none, none, es2, ⟨3, tv1.a, tv.e, 0, none, tdS none es2.length, Sl.nil, Sl.nil, Sl.nil, Sl.nil, false, false, 0⟩, nb2, nc, by rw [Nat.mul_one]; rfl, hq6, rfl, rfl, ⟨hk1, hk2⟩, fun _ => (by dsimp only; rw [hty5]; rfl), ⟨b5, n5, c5, hK3.tdv.trans t1, t2, t3.mono hkk⟩, hL2.keep (fun y hy _ => hkk y hy), hV2.keep (fun y hy _ => hkk y hy), fun y hy hn => hkk y (hK2.v y (hK1.v y hy) hn), ⟨rfl, rfl, rfl, rfl, rfl, rfl, rfl, rfl, rfl, rfl⟩⟩
      ·
       have hiN : i + m ≤ N := by
        rcases Nat.lt_or_ge N (i + m) with h | h
        · have h8 := hs.fin (i + m) omT; rw [hend] at h8; cases h8
        · exact h
       have hq5 : QR L T p f N { X3 with st := 3, stv := ⟨some ⟨nb2, 0, none⟩, 1, nc⟩ } (i + m) j3 := hq3.st (k := 3) (s := ⟨some ⟨nb2, 0, none⟩, 1, nc⟩) (t := X3.tdv)
       refine gg 7 ?_
       refine sqz (zu (l := [_, _, _, _, _, _, _, _, _, _, _, _, _, _, _, _, _, _, _, _]) (zs := [.int .i8 0, zI, zI, zI, zI, zI, zI, zI, .pointer none, zS, zS, zS, zS, zS, zS, zS, zS, .bool false, .bool false, .int .i8 0]) [0, 1, 4, 7, 8, 9, 10, 11, 12, 13, 14, 15, 16, 17, 18, 19] rfl rfl kR) ?_
       refine snc ?_
       first | refine stw rfl rfl ?_ | refine sts rfl rfl ?_
       refine ze ?_
       refine zf (zA L.p (.cs 75 (qp L T (zc { X3 with st := 3, stv := ⟨some ⟨nb2, 0, none⟩, 1, nc⟩ })) []) (Blk.like_rec kR) (zi (smv ?_)))
       refine za rfl rfl rfl (qM L T p f N { X3 with st := 3, stv := ⟨some ⟨nb2, 0, none⟩, 1, nc⟩ } (i + m) j3 tv hs hq5 hj3 hiN htv) ?_
       rintro _ _ ⟨rfl, rfl, hq6⟩
       refine lS ?_
       refine gg 8 ?_
       have hkk : ∀ y ∈ X2.V, y ∈ X3.V := hK3.v
       obtain ⟨b5, n5, c5, t1, t2, t3⟩ := htd2
       exact zm (H' := EVB T eb ⟨3, tv1.a, tv.e, 0, (some vb), tdS none es2.length, Sl.nil, Sl.nil, Sl.nil, Sl.nil, false, false, 0⟩ :: (nb2, .buf 68 (nc * 1) [.int .i64 4]) :: RH L T (zc { X3 with st := 3, stv := ⟨some ⟨nb2, 0, none⟩, 1, nc⟩, ta := false, tp := X3.tp + 1, th := X3.th + 1, sep := (tv.typ == 2) }) (TKB T X3 :: SKB X3 :: MPB X3 :: (CH T X3.J X3.C ++ XH X3.V X3.J))) rfl rfl (Wk.toT (CH T X3.J X3.C ++ XH X3.V X3.J) [eb, nb2, L.p, L.bb, L.rb, L.ib, 0, X3.tkb, X3.skb, X3.mpb] wlT) ⟨rfl, { X3 with st := 3, stv := ⟨some ⟨nb2, 0, none⟩, 1, nc⟩, ta := false, tp := X3.tp + 1, th := X3.th + 1, sep := (tv.typ == 2) }, j3, (some vb), none, es2, ⟨3, tv1.a, tv.e, 0, (some vb), tdS none es2.length, Sl.nil, Sl.nil, Sl.nil, Sl.nil, false, false, 0⟩, nb2, nc, by rw [Nat.mul_one]; rfl, hq6, rfl, rfl, ⟨hk1, hk2⟩, fun _ => (by dsimp only; rw [hty5]; rfl), ⟨b5, n5, c5, hK3.tdv.trans t1, t2, t3.mono hkk⟩, hL2.keep (fun y hy _ => hkk y hy), hV2.keep (fun y hy _ => hkk y hy), fun y hy hn => hkk y (hK2.v y (hK1.v y hy) hn), ⟨rfl, rfl, rfl, rfl, rfl, rfl, rfl, rfl, rfl, rfl⟩⟩
    ·
      simp only [TDH_none, TDH_some, List.cons_append, List.nil_append]
      refine gg 6 ?_
      refine za rfl rfl rfl (qD L T p f N X2 (i + m) j2 he hs hq2) ?_
      rintro _ _ ⟨X3, j3, rfl, rfl, hq3, hta3, hj3, hK3⟩
      obtain ⟨tv, htv, htok, hty⟩ := hq3.head hj3
      rw [hend] at htok
      have hty5 : tv.typ = 5 := htok
      have hst3 : X3.stv = ⟨some ⟨stb, 0, none⟩, 0, stc⟩ := hK3.stv.trans (hK2.stv.trans (hK1.stv.trans hst))
      obtain ⟨X3, rfl⟩ : ∃ Y : SS, X3 = { Y with stv := ⟨some ⟨stb, 0, none⟩, 0, stc⟩ } := ⟨X3, by rw [← hst3]⟩
      have htlc3 := hq3.si.tlc
      have htkc3 := hq3.si.tkc
      dsimp only at htv htlc3 htkc3
      refine lS ?_
      refine gg 7 ?_
      refine sqz (qK underlying158 rfl rfl) (gg 11 ?_)
      refine sqz (zz (T := T) (tl := X3.tl) (i := X3.th) (j := 0) rfl roT omT htv rfl) (gg 3 ?_)
      refine zA stb (.buf 68 stc []) (wt (by intro j u h; simp at h)) ?_
      refine gg 10 ?_
      refine kV (l := [_]) (zs := [zI]) [0] rfl rfl rfl rfl kR rfl rfl ?_
      intro nb
      refine zY (sz := 1) (n0 := 0) (mm := stc) (xs := []) (news := [.int .i64 4]) rfl rfl rfl rfl (Nat.mul_one _).symm rfl (Nat.zero_le _) hstc.2 rfl (zN (k := .cs 68 [.int .i64 4] []) (Nat.le_refl _) (Nat.le_refl _) (fun j u hj => by simp only [Blk.cell, look, nth, Nat.zero_add]; exact hj)) rfl (kK rfl) (by decide) (by decide) ?_
      intro nb2 nc hk1 hk2
      refine gg 18 ?_
      refine sqz (kU (T := T) (tl := X3.tl) (i := X3.th) (j := 4) rfl roT omT htv rfl rfl rfl) (zk rfl rfl clT ?_)
      intro m13
      first | refine stw rfl rfl ?_ | refine sts rfl rfl ?_
      refine ze ?_
      refine zf ?_
      rcases vd with _ | vb
      ·
       have hiN : i + m ≤ N := by
        rcases Nat.lt_or_ge N (i + m) with h | h
        · have h8 := hs.fin (i + m) omT; rw [hend] at h8; cases h8
        · exact h
       have hq5 : QR L T p f N { X3 with st := 3, stv := ⟨some ⟨nb2, 0, none⟩, 1, nc⟩ } (i + m) j3 := hq3.st (k := 3) (s := ⟨some ⟨nb2, 0, none⟩, 1, nc⟩) (t := X3.tdv)
       refine gg 7 ?_
       refine sqz (zu (l := [_, _, _, _, _, _, _, _, _, _, _, _, _, _, _, _, _, _, _, _]) (zs := [.int .i8 0, zI, zI, zI, zI, zI, zI, zI, .pointer none, zS, zS, zS, zS, zS, zS, zS, zS, .bool false, .bool false, .int .i8 0]) [0, 1, 4, 7, 8, 9, 10, 11, 12, 13, 14, 15, 16, 17, 18, 19] rfl rfl kR) ?_
       refine snc ?_
       first | refine stw rfl rfl ?_ | refine sts rfl rfl ?_
       refine ze ?_
       refine zf (zA L.p (.cs 75 (qp L T (zc { X3 with st := 3, stv := ⟨some ⟨nb2, 0, none⟩, 1, nc⟩ })) []) (Blk.like_rec kR) (zi (smv ?_)))
       refine za rfl rfl rfl (qM L T p f N { X3 with st := 3, stv := ⟨some ⟨nb2, 0, none⟩, 1, nc⟩ } (i + m) j3 tv hs hq5 hj3 hiN htv) ?_
       rintro _ _ ⟨rfl, rfl, hq6⟩
       refine lS ?_
       refine gg 8 ?_
       have hkk : ∀ y ∈ X2.V, y ∈ X3.V := hK3.v
       obtain ⟨b5, n5, c5, t1, t2, t3⟩ := htd2
       exact zm (H' := EVB T eb ⟨3, tv1.a, tv.e, 0, none, tdS (some (lb, lc)) es2.length, Sl.nil, Sl.nil, Sl.nil, Sl.nil, false, false, 0⟩ :: (nb2, .buf 68 (nc * 1) [.int .i64 4]) :: RH L T (zc { X3 with st := 3, stv := ⟨some ⟨nb2, 0, none⟩, 1, nc⟩, ta := false, tp := X3.tp + 1, th := X3.th + 1, sep := (tv.typ == 2) }) ((lb, .buf 134 (lc * 2) (tdC es2)) :: TKB T X3 :: SKB X3 :: MPB X3 :: (CH T X3.J X3.C ++ XH X3.V X3.J))) rfl rfl (Wk.toT (CH T X3.J X3.C ++ XH X3.V X3.J) [eb, nb2, L.p, L.bb, L.rb, L.ib, 0, lb, X3.tkb, X3.skb, X3.mpb] wlT) ⟨rfl, { X3 with st := 3, stv := ⟨some ⟨nb2, 0, none⟩, 1, nc⟩, ta := false, tp := X3.tp + 1, th := X3.th + 1, sep := (tv.typ == 2) }, j3, none, (some (lb, lc)), es2, ⟨3, tv1.a, tv.e, 0, none, tdS (some (lb, lc)) es2.length, Sl.nil, Sl.nil, Sl.nil, Sl.nil, false, false, 0⟩, nb2, nc, by rw [Nat.mul_one]; rfl, hq6, rfl, rfl, ⟨hk1, hk2⟩, fun _ => (by dsimp only; rw [hty5]; rfl), ⟨b5, n5, c5, hK3.tdv.trans t1, t2, t3.mono hkk⟩, hL2.keep (fun y hy _ => hkk y hy), hV2.keep (fun y hy _ => hkk y hy), fun y hy hn => hkk y (hK2.v y (hK1.v y hy) hn), ⟨rfl, rfl, rfl, rfl, rfl, rfl, rfl, rfl, rfl, rfl⟩⟩
      ·
       have hiN : i + m ≤ N := by
        rcases Nat.lt_or_ge N (i + m) with h | h
        · have h8 := hs.fin (i + m) omT; rw [hend] at h8; cases h8
        · exact h
       have hq5 : QR L T p f N { X3 with st := 3, stv := ⟨some ⟨nb2, 0, none⟩, 1, nc⟩ } (i + m) j3 := hq3.st (k := 3) (s := ⟨some ⟨nb2, 0, none⟩, 1, nc⟩) (t := X3.tdv)
       refine gg 7 ?_
       refine sqz (zu (l := [_, _, _, _, _, _, _, _, _, _, _, _, _, _, _, _, _, _, _, _]) (zs := [.int .i8 0, zI, zI, zI, zI, zI, zI, zI, .pointer none, zS, zS, zS, zS, zS, zS, zS, zS, .bool false, .bool false, .int .i8 0]) [0, 1, 4, 7, 8, 9, 10, 11, 12, 13, 14, 15, 16, 17, 18, 19] rfl rfl kR) ?_
       refine snc ?_
       first | refine stw rfl rfl ?_ | refine sts rfl rfl ?_
       refine ze ?_
       refine zf (zA L.p (.cs 75 (qp L T (zc { X3 with st := 3, stv := ⟨some ⟨nb2, 0, none⟩, 1, nc⟩ })) []) (Blk.like_rec kR) (zi (smv ?_)))
       refine za rfl rfl rfl (qM L T p f N { X3 with st := 3, stv := ⟨some ⟨nb2, 0, none⟩, 1, nc⟩ } (i + m) j3 tv hs hq5 hj3 hiN htv) ?_
       rintro _ _ ⟨rfl, rfl, hq6⟩
       refine lS ?_
       refine gg 8 ?_
       have hkk : ∀ y ∈ X2.V, y ∈ X3.V := hK3.v
       obtain ⟨b5, n5, c5, t1, t2, t3⟩ := htd2
       exact zm (H' := EVB T eb ⟨3, tv1.a, tv.e, 0, (some vb), tdS (some (lb, lc)) es2.length, Sl.nil, Sl.nil, Sl.nil, Sl.nil, false, false, 0⟩ :: (nb2, .buf 68 (nc * 1) [.int .i64 4]) :: RH L T (zc { X3 with st := 3, stv := ⟨some ⟨nb2, 0, none⟩, 1, nc⟩, ta := false, tp := X3.tp + 1, th := X3.th + 1, sep := (tv.typ == 2) }) ((lb, .buf 134 (lc * 2) (tdC es2)) :: TKB T X3 :: SKB X3 :: MPB X3 :: (CH T X3.J X3.C ++ XH X3.V X3.J))) rfl rfl (Wk.toT (CH T X3.J X3.C ++ XH X3.V X3.J) [eb, nb2, L.p, L.bb, L.rb, L.ib, 0, lb, X3.tkb, X3.skb, X3.mpb] wlT) ⟨rfl, { X3 with st := 3, stv := ⟨some ⟨nb2, 0, none⟩, 1, nc⟩, ta := false, tp := X3.tp + 1, th := X3.th + 1, sep := (tv.typ == 2) }, j3, (some vb), (some (lb, lc)), es2, ⟨3, tv1.a, tv.e, 0, (some vb), tdS (some (lb, lc)) es2.length, Sl.nil, Sl.nil, Sl.nil, Sl.nil, false, false, 0⟩, nb2, nc, by rw [Nat.mul_one]; rfl, hq6, rfl, rfl, ⟨hk1, hk2⟩, fun _ => (by dsimp only; rw [hty5]; rfl), ⟨b5, n5, c5, hK3.tdv.trans t1, t2, t3.mono hkk⟩, hL2.keep (fun y hy _ => hkk y hy), hV2.keep (fun y hy _ => hkk y hy), fun y hy hn => hkk y (hK2.v y (hK1.v y hy) hn), ⟨rfl, rfl, rfl, rfl, rfl, rfl, rfl, rfl, rfl, rfl⟩⟩
structure BareEv (ev : EVt) (k : Int) : Prop where
 ty : ev.ty = k
 vd : ev.vd = none
 td : ev.td = Sl.nil
 hd : ev.hd = Sl.nil
 ln : ev.ln = Sl.nil
 ft : ev.ft = Sl.nil
 va : ev.va = Sl.nil
 im : ev.im = false
 qu : ev.qu = false
 sty : ev.sty = 0
theorem pdz_ok (L : Lay) (T : List Nat) (p : Nat → Nat) (f : Nat → Tk) (N eb i j0 : Nat) (al : Bool) (X0 : SS) (he : Eof L) (hs : Str T p f N) (hq0 : QR L T p f N X0 i j0) (hf : f i = .se) (hiN : i ≤ N) :
  Fn prog 74 [pV L.p, pV eb, .bool al] (EVZ eb :: SH L T X0)
   (fun u H' => u = .bool true ∧ ∃ X j ev, H' = EVB T eb ev :: SH L T X ∧ QR L T p f N X (i + 1) j ∧ X.st = 23 ∧ X.sep = true ∧ (∀ y ∈ X0.V, y ∈ X.V) ∧ BareEv ev 2) := by
 refine zo func74 rfl rfl rfl ?_
 intro w
 refine gg 8 ?_
 refine za rfl rfl rfl (qD L T p f N X0 i j0 he hs hq0) ?_
 rintro _ _ ⟨X, j, rfl, rfl, hq, hta, hj, hK⟩
 obtain ⟨tv, htv, htok, hty⟩ := hq.head hj
 rw [hf] at htok
 have h2 : tv.typ = 2 := htok
 have htlc := hq.si.tlc
 have htkc := hq.si.tkc
 refine lS ?_
 refine gg 7 ?_
 refine sqz (qK underlying158 rfl rfl) (gg 5 ?_)
 refine zL (σ := Unit) (fun _ => [(0, pV L.p), (1, pV eb), (2, .bool al), (6, .bool false), (7, .pointer (some ⟨X.tkb, X.th * 14, none⟩))]) (fun _ => EVZ eb :: SH L T X) (fun _ => True) ?_ ?_
 ·
  rcases al with _ | _
  ·
   refine gg 8 ?_
   refine zw (σ := Unit) (fun _ => [(0, pV L.p), (1, pV eb), (2, .bool false), (6, .bool false), (7, .pointer (some ⟨X.tkb, X.th * 14, none⟩))]) (fun _ => EVZ eb :: SH L T X) (fun _ => True) (fun _ => 0) () trivial suT (Wk.toT (CH T X.J X.C ++ XH X.V X.J) [eb, L.p, L.bb, L.rb, L.ib, 0, X.tkb, X.skb, X.mpb] wlT) ?_
   rintro ⟨⟩ -
   refine gg 6 ?_
   refine sqz (zz (T := T) (tl := X.tl) (i := X.th) (j := 0) rfl roT omT htv rfl) (gg 8 ?_)
   exact zg () trivial suT (Wk.refl _)
  ·
   refine gg 8 ?_
   exact zg () trivial suT (Wk.toT (CH T X.J X.C ++ XH X.V X.J) [eb, L.p, L.bb, L.rb, L.ib, 0, X.tkb, X.skb, X.mpb] wlT)
 ·
  rintro ⟨⟩ -
  refine zt (EVZ eb :: SH L T X) [(0, pV L.p), (1, pV eb), (2, .bool al), (6, .bool false), (7, .pointer (some ⟨X.tkb, X.th * 14, none⟩))] rfl rfl (zd ?_)
  refine qm 59 (fun b => b = false) ?_ ?_
  ·
   rcases al with _ | _
   ·
    refine gg 31 ?_
    exact zE (b := false) rfl exT rfl
   ·
    refine gg 6 ?_
    refine sqz (zz (T := T) (tl := X.tl) (i := X.th) (j := 0) rfl roT omT htv rfl) (gg 6 ?_)
    refine sqz (zz (T := T) (tl := X.tl) (i := X.th) (j := 0) rfl roT omT htv rfl) (gg 6 ?_)
    refine sqz (zz (T := T) (tl := X.tl) (i := X.th) (j := 0) rfl roT omT htv rfl) (gg 6 ?_)
    refine sqz (zz (T := T) (tl := X.tl) (i := X.th) (j := 0) rfl roT omT htv rfl) (gg 3 ?_)
    exact zE (b := false) rfl exT rfl
  ·
   rintro b59 hb59
   refine qr rfl (hb59) (gg 5 ?_)
   refine sqz (zz (T := T) (tl := X.tl) (i := X.th) (j := 0) rfl roT omT htv rfl) (gg 13 ?_)
   refine zU 11 zF kR (gg 4 ?_)
   refine dqz (kU (T := T) (tl := X.tl) (i := X.th) (j := 1) rfl roT omT htv rfl rfl rfl) (gg 3 ?_)
   refine dqz (kU (T := T) (tl := X.tl) (i := X.th) (j := 4) rfl roT omT htv rfl rfl rfl) ?_
   refine dqz (zu (l := [_, _, _, _, _, _, _, _, _, _, _, _, _, _, _, _, _, _, _, _]) (zs := [.int .i8 0, zI, zI, zI, zI, zI, zI, zI, .pointer none, zS, zS, zS, zS, zS, zS, zS, zS, .bool false, .bool false, .int .i8 0]) [0, 1, 4, 7, 8, 9, 10, 11, 12, 13, 14, 15, 16, 17, 18, 19] rfl rfl kR) ?_
   refine dnc ?_
   refine qW ?_
   first | refine stw rfl rfl ?_ | refine sts rfl rfl ?_
   refine ze ?_
   refine zf (zA L.p (.cs 75 (qp L T (zc { X with st := 23 })) []) (Blk.like_rec kR) ?_)
   have hq2 : QR L T p f N { X with st := 23 } i j := hq.st (k := 23) (s := X.stv) (t := X.tdv)
   refine zi (smv ?_)
   refine za rfl rfl rfl (qM L T p f N { X with st := 23 } i j tv hs hq2 hj hiN htv) ?_
   rintro _ _ ⟨rfl, rfl, hq3⟩
   refine lS ?_
   refine gg 8 ?_
   exact zm (H' := EVB T eb ⟨2, tv.a, tv.e, 0, none, Sl.nil, Sl.nil, Sl.nil, Sl.nil, Sl.nil, false, false, 0⟩ :: SH L T { X with st := 23, ta := false, tp := X.tp + 1, th := X.th + 1, sep := (tv.typ == 2) }) rfl rfl (Wk.toT (CH T X.J X.C ++ XH X.V X.J) [eb, L.p, L.bb, L.rb, L.ib, 0, X.tkb, X.skb, X.mpb] wlT) ⟨rfl, _, j, _, rfl, hq3, rfl, by dsimp only; rw [h2]; rfl, hK.v, ⟨rfl, rfl, rfl, rfl, rfl, rfl, rfl, rfl, rfl, rfl⟩⟩
theorem peekt_ok (L : Lay) (T : List Nat) (p : Nat → Nat) (f : Nat → Tk) (N : Nat) (X : SS) (i j : Nat) (hq : QR L T p f N X i j) (hta : X.ta = true) :
  Fn prog 107 [pV L.p] (SH L T X)
   (fun v H' => ∃ a b c k J, v = .pointer (some ⟨X.tkb, X.th * 14, none⟩) ∧ H' = SH L T { X with head := a, line := b, foot := c, comh := k, J := J } ∧ QR L T p f N { X with head := a, line := b, foot := c, comh := k, J := J } i j ∧ JLe X.J J) := by
 obtain ⟨tv, htv, _, hty⟩ := hq.head (hq.av hta)
 have hthl : X.th < X.tl.length := (List.getElem?_eq_some_iff.1 htv).1
 have htlc := hq.si.tlc
 refine zo func107 rfl rfl rfl ?_
 intro w
 obtain ⟨X, rfl⟩ : ∃ Y : SS, X = { Y with ta := true } := ⟨X, by rw [← hta]⟩
 dsimp only at htv hthl htlc
 refine gg 29 ?_
 refine dqz (zy rfl rfl rfl omT rfl) (gg 4 ?_)
 simp only [Nat.zero_add]
 refine gg 3 ?_
 refine za rfl rfl rfl (unf_ok L T { X with ta := true } tv hq.si htv hty) ?_
 rintro _ _ ⟨rfl, a, b, c, k, J, rfl, k1, k2⟩
 refine lS ?_
 refine gg 10 ?_
 exact zm rfl rfl (Wk.toT (CH T J X.C ++ XH X.V J) [L.p, L.bb, L.rb, L.ib, 0, X.tkb, X.skb, X.mpb] wlT) ⟨a, b, c, k, J, rfl, rfl, hq.unf k1, k2⟩
theorem pdt_ok (L : Lay) (T : List Nat) (p : Nat → Nat) (f : Nat → Tk) (N i j0 : Nat) (X0 : SS) (hq0 : QR L T p f N X0 i j0) (hta : X0.ta = true) (hend : f i ≠ .ver ∧ ∀ h p, f i ≠ .tag h p) (htd : TDV X0.V X0.tdv []) :
  Fn prog 110 [pV L.p, .pointer none, .pointer none] (SH L T X0)
   (fun u H' => u = .bool true ∧ ∃ a b c k J s V, H' = SH L T { X0 with head := a, line := b, foot := c, comh := k, J := J, tdv := s, V := V } ∧ QR L T p f N { X0 with head := a, line := b, foot := c, comh := k, J := J, tdv := s, V := V } i j0 ∧ (∃ b n c, s = ⟨some ⟨b, 0, none⟩, n, c⟩ ∧ n ≤ c ∧ TDV V ⟨some ⟨b, 0, none⟩, 0, c⟩ []) ∧ (∀ y ∈ X0.V, NTD y → y ∈ V) ∧ JLe X0.J J) := by
 obtain ⟨c, hc0⟩ : ∃ c, c = 0 := ⟨0, rfl⟩
 refine zo func110 rfl rfl rfl ?_
 intro w
 refine gg 18 ?_
 refine za rfl rfl rfl (peekt_ok L T p f N X0 i j0 hq0 hta) ?_
 rintro _ _ ⟨ha, hb, hc, hk, hJ, rfl, rfl, hq, hjJ⟩
 have hj : i + 1 ≤ j0 := hq0.av hta
 obtain ⟨tv, htv, htok, hty⟩ := hq0.head hj
 have htlc := hq0.si.tlc
 have htkc := hq0.si.tkc
 have hn3 : tv.typ ≠ 3 := fun h3 => hend.1 (htok.ver.1 h3)
 have hn4 : tv.typ ≠ 4 := fun h4 => by
  obtain ⟨h, pp, h5⟩ := htok.tag4 h4
  exact hend.2 h pp h5
 have hT : TDV X0.V X0.tdv ((tgs f i c).map (·.1)) := by
  subst hc0
  exact htd
 have hm : c < 900 := by omega
 refine lS ?_
 refine gg 7 ?_
 refine sqz (qK underlying158 rfl rfl) (gg 7 ?_)
 refine zw (σ := Unit) (fun _ => [(0, pV L.p), (1, .pointer none), (2, .pointer none), (6, .bool false), (7, .pointer none), (8, zS), (9, .pointer (some ⟨X0.tkb, X0.th * 14, none⟩))]) (fun _ => SH L T { X0 with head := ha, line := hb, foot := hc, comh := hk, J := hJ }) (fun _ => True) (fun _ => 0) () trivial suT (Wk.toT (CH T hJ X0.C ++ XH X0.V hJ) [L.p, L.bb, L.rb, L.ib, 0, X0.tkb, X0.skb, X0.mpb] wlT) ?_
 rintro ⟨⟩ -
 refine zt (RH L T (zc { X0 with head := ha, line := hb, foot := hc, comh := hk, J := hJ }) (TKB T { X0 with head := ha, line := hb, foot := hc, comh := hk, J := hJ } :: SKB { X0 with head := ha, line := hb, foot := hc, comh := hk, J := hJ } :: MPB { X0 with head := ha, line := hb, foot := hc, comh := hk, J := hJ } :: (CH T hJ X0.C ++ XH X0.V hJ))) [(0, pV L.p), (1, .pointer none), (2, .pointer none), (6, .bool false), (7, .pointer none), (8, zS), (9, .pointer (some ⟨X0.tkb, X0.th * 14, none⟩))] rfl rfl ?_
 refine gg 6 ?_
 refine sqz (zz (T := T) (tl := X0.tl) (i := X0.th) (j := 0) rfl roT omT htv rfl) (gg 5 ?_)
 refine sqz (zz (T := T) (tl := X0.tl) (i := X0.th) (j := 0) rfl roT omT htv rfl) (gg 13 ?_)
 refine za rfl rfl rfl (dtd_ok) ?_
 rintro _ _ ⟨ftb, fa1, fa2, fa3, fa4, rfl, rfl⟩
 refine lS ?_
 refine gg 5 ?_
 refine qg (3) (kn (gg 18 ?_))
 refine ke (fun i => i == 1 || i == 9) (fun _ => false) ([TKB T { X0 with head := ha, line := hb, foot := hc, comh := hk, J := hJ }]) zF ?_
 refine mqh 0 rfl kR rfl rfl (fun _ => zj rfl) ?_
 refine mqh 2 rfl kR rfl rfl (fun _ => zj rfl) ?_
 refine mqh 5 rfl kR rfl rfl (fun _ => zj rfl) ?_
 refine mqh 6 rfl kR rfl rfl (fun _ => zJ rfl) ?_
 refine mqh 7 rfl kR rfl rfl (fun _ => zM rfl) ?_
 refine mqh 8 rfl kR rfl rfl (fun _ => kU (T := T) (tl := X0.tl) (i := X0.th) (j := 1) rfl roT omT htv rfl rfl rfl) ?_
 refine mql 1 rfl kR (fun hcl => ?_)
 refine za rfl rfl rfl (dtd_ok) ?_
 rintro _ _ ⟨tbr0, a1r0, a2r0, a3r0, a4r0, rfl, rfl⟩
 refine lS ?_
 refine mqn 1 hcl (mq 3 rfl kR rfl rfl (zy (i := 0) rfl rfl rfl omT rfl) ?_)
 refine mq 4 rfl kR rfl rfl (zG rfl rfl rfl rfl) ?_
 refine mql 9 rfl kR (fun hcl => ?_)
 refine sq_wkH (H' := (tbr0, .cs 134 (tdC (dfE a1r0 a2r0 a3r0 a4r0)) []) :: RH L T (zc { X0 with head := ha, line := hb, foot := hc, comh := hk, J := hJ }) (TKB T { X0 with head := ha, line := hb, foot := hc, comh := hk, J := hJ } :: SKB { X0 with head := ha, line := hb, foot := hc, comh := hk, J := hJ } :: MPB { X0 with head := ha, line := hb, foot := hc, comh := hk, J := hJ } :: (CH T hJ X0.C ++ XH (RE a4r0 tagV :: RE a3r0 [.int .u8 33, .int .u8 33] :: RE a2r0 [.int .u8 33] :: RE a1r0 [.int .u8 33] :: X0.V) hJ))) (Wk.trans (Wk.pushE (b := a1r0) rfl) (Wk.trans (Wk.pushE (b := a2r0) rfl) (Wk.trans (Wk.pushE (b := a3r0) rfl) (Wk.trans (Wk.pushE (b := a4r0) rfl) (Wk.toT (CH T hJ X0.C ++ XH (RE a4r0 tagV :: RE a3r0 [.int .u8 33, .int .u8 33] :: RE a2r0 [.int .u8 33] :: RE a1r0 [.int .u8 33] :: X0.V) hJ) [tbr0, L.p, L.bb, L.rb, L.ib, 0, X0.tkb, X0.skb, X0.mpb] wlT))))) ?_
 have hTx0 : TDV (RE a4r0 tagV :: RE a3r0 [.int .u8 33, .int .u8 33] :: RE a2r0 [.int .u8 33] :: RE a1r0 [.int .u8 33] :: X0.V) (SS.tdv { X0 with head := ha, line := hb, foot := hc, comh := hk, J := hJ }) ((tgs f i c).map (·.1)) := TDV.mono (fun y hy => List.mem_cons_of_mem _ (List.mem_cons_of_mem _ (List.mem_cons_of_mem _ (List.mem_cons_of_mem _ hy)))) hT
 refine za rfl rfl rfl (atdV_ok L T { X0 with head := ha, line := hb, foot := hc, comh := hk, J := hJ, V := RE a4r0 tagV :: RE a3r0 [.int .u8 33, .int .u8 33] :: RE a2r0 [.int .u8 33] :: RE a1r0 [.int .u8 33] :: X0.V } ((tgs f i c).map (·.1)) ⟨some ⟨a1r0, 0, none⟩, 1, 1⟩ ⟨some ⟨a2r0, 0, none⟩, 1, 1⟩ [33] [33] true _ _ _ hTx0 (.inr ⟨a1r0, 1, rfl, List.mem_cons_of_mem _ (List.mem_cons_of_mem _ (List.mem_cons_of_mem _ List.mem_cons_self))⟩) (.inr ⟨a2r0, 1, rfl, List.mem_cons_of_mem _ (List.mem_cons_of_mem _ List.mem_cons_self)⟩) (by decide) (by decide) (fun _ => rfl) (by
  have h9 := wl f i c
  have h8 := addH_len ((tgs f i c).map (·.1)) [33]
  simp only [List.length_map] at h8 ⊢
  omega) (by decide) (by decide)) ?_
 rintro _ _ ⟨rfl, sr0, Vr0, rfl, kr0, lr0⟩
 have hkr0 : ∀ y ∈ X0.V, NTD y → y ∈ Vr0 := fun y hy hn => lr0 y ((fun y hy => List.mem_cons_of_mem _ (List.mem_cons_of_mem _ (List.mem_cons_of_mem _ (List.mem_cons_of_mem _ hy)))) y hy) hn
 refine lS ?_
 refine mqn 9 hcl (mq 10 rfl kR rfl rfl (q_not rfl) ?_)
 refine qJ kR (zf ?_)
 refine qF (H' := RH L T (zc { X0 with head := ha, line := hb, foot := hc, comh := hk, J := hJ, tdv := sr0, V := Vr0 }) (TKB T { X0 with head := ha, line := hb, foot := hc, comh := hk, J := hJ } :: SKB { X0 with head := ha, line := hb, foot := hc, comh := hk, J := hJ } :: MPB { X0 with head := ha, line := hb, foot := hc, comh := hk, J := hJ } :: (CH T hJ X0.C ++ XH Vr0 hJ))) (Wk.toT (CH T hJ X0.C ++ XH Vr0 hJ) [L.p, L.bb, L.rb, L.ib, 0, X0.tkb, X0.skb, X0.mpb] wlT) ?_
 refine gg 8 ?_
 refine kX (kn (gg 18 ?_))
 refine ke (fun i => i == 1 || i == 9) (fun _ => false) ([TKB T { X0 with head := ha, line := hb, foot := hc, comh := hk, J := hJ }]) zF ?_
 refine mqh 0 rfl kR rfl rfl (fun _ => zj rfl) ?_
 refine mqh 2 rfl kR rfl rfl (fun _ => zj rfl) ?_
 refine mqh 5 rfl kR rfl rfl (fun _ => zj rfl) ?_
 refine mqh 6 rfl kR rfl rfl (fun _ => zJ rfl) ?_
 refine mqh 7 rfl kR rfl rfl (fun _ => zM rfl) ?_
 refine mqh 8 rfl kR rfl rfl (fun _ => kU (T := T) (tl := X0.tl) (i := X0.th) (j := 1) rfl roT omT htv rfl rfl rfl) ?_
 refine mql 1 rfl kR (fun hcl => ?_)
 refine za rfl rfl rfl (dtd_ok) ?_
 rintro _ _ ⟨tbr1, a1r1, a2r1, a3r1, a4r1, rfl, rfl⟩
 refine lS ?_
 refine mqn 1 hcl (mq 3 rfl kR rfl rfl (zy (i := 1) rfl rfl rfl omT rfl) ?_)
 refine mq 4 rfl kR rfl rfl (zG rfl rfl rfl rfl) ?_
 refine mql 9 rfl kR (fun hcl => ?_)
 refine sq_wkH (H' := (tbr1, .cs 134 (tdC (dfE a1r1 a2r1 a3r1 a4r1)) []) :: RH L T (zc { X0 with head := ha, line := hb, foot := hc, comh := hk, J := hJ, tdv := sr0, V := Vr0 }) (TKB T { X0 with head := ha, line := hb, foot := hc, comh := hk, J := hJ } :: SKB { X0 with head := ha, line := hb, foot := hc, comh := hk, J := hJ } :: MPB { X0 with head := ha, line := hb, foot := hc, comh := hk, J := hJ } :: (CH T hJ X0.C ++ XH (RE a4r1 tagV :: RE a3r1 [.int .u8 33, .int .u8 33] :: RE a2r1 [.int .u8 33] :: RE a1r1 [.int .u8 33] :: Vr0) hJ))) (Wk.trans (Wk.pushE (b := a1r1) rfl) (Wk.trans (Wk.pushE (b := a2r1) rfl) (Wk.trans (Wk.pushE (b := a3r1) rfl) (Wk.trans (Wk.pushE (b := a4r1) rfl) (Wk.toT (CH T hJ X0.C ++ XH (RE a4r1 tagV :: RE a3r1 [.int .u8 33, .int .u8 33] :: RE a2r1 [.int .u8 33] :: RE a1r1 [.int .u8 33] :: Vr0) hJ) [tbr1, L.p, L.bb, L.rb, L.ib, 0, X0.tkb, X0.skb, X0.mpb] wlT))))) ?_
 have hTx1 : TDV (RE a4r1 tagV :: RE a3r1 [.int .u8 33, .int .u8 33] :: RE a2r1 [.int .u8 33] :: RE a1r1 [.int .u8 33] :: Vr0) (SS.tdv { X0 with head := ha, line := hb, foot := hc, comh := hk, J := hJ, tdv := sr0, V := Vr0 }) (addH ((tgs f i c).map (·.1)) [33]) := TDV.mono (fun y hy => List.mem_cons_of_mem _ (List.mem_cons_of_mem _ (List.mem_cons_of_mem _ (List.mem_cons_of_mem _ hy)))) kr0
 refine za rfl rfl rfl (atdV_ok L T { { X0 with head := ha, line := hb, foot := hc, comh := hk, J := hJ, tdv := sr0, V := Vr0 } with V := RE a4r1 tagV :: RE a3r1 [.int .u8 33, .int .u8 33] :: RE a2r1 [.int .u8 33] :: RE a1r1 [.int .u8 33] :: Vr0 } (addH ((tgs f i c).map (·.1)) [33]) ⟨some ⟨a3r1, 0, none⟩, 2, 2⟩ ⟨some ⟨a4r1, 0, none⟩, 18, 18⟩ [33, 33] tagP true _ _ _ hTx1 (.inr ⟨a3r1, 2, rfl, List.mem_cons_of_mem _ List.mem_cons_self⟩) (.inr ⟨a4r1, 18, rfl, List.mem_cons_self⟩) (by decide) (by decide) (fun _ => rfl) (by
  have h9 := wl f i c
  have h8 := addH_len ((tgs f i c).map (·.1)) [33]
  simp only [List.length_map] at h8 ⊢
  omega) (by decide) (by decide)) ?_
 rintro _ _ ⟨rfl, sr1, Vr1, rfl, kr1, lr1⟩
 have hkr1 : ∀ y ∈ Vr0, NTD y → y ∈ Vr1 := fun y hy hn => lr1 y ((fun y hy => List.mem_cons_of_mem _ (List.mem_cons_of_mem _ (List.mem_cons_of_mem _ (List.mem_cons_of_mem _ hy)))) y hy) hn
 refine lS ?_
 refine mqn 9 hcl (mq 10 rfl kR rfl rfl (q_not rfl) ?_)
 refine qJ kR (zf ?_)
 refine qF (H' := RH L T (zc { X0 with head := ha, line := hb, foot := hc, comh := hk, J := hJ, tdv := sr1, V := Vr1 }) (TKB T { X0 with head := ha, line := hb, foot := hc, comh := hk, J := hJ } :: SKB { X0 with head := ha, line := hb, foot := hc, comh := hk, J := hJ } :: MPB { X0 with head := ha, line := hb, foot := hc, comh := hk, J := hJ } :: (CH T hJ X0.C ++ XH Vr1 hJ))) (Wk.toT (CH T hJ X0.C ++ XH Vr1 hJ) [L.p, L.bb, L.rb, L.ib, 0, X0.tkb, X0.skb, X0.mpb] wlT) ?_
 refine gg 8 ?_
 refine kX (kn (gg 16 ?_))
 refine sqz (wi underlying166 rfl rfl) (gg 9 ?_)
 refine sqz (wi underlying167 rfl rfl) (gg 11 ?_)
 have hkk : ∀ y ∈ X0.V, NTD y → y ∈ Vr1 := fun y hy hn => hkr1 y (hkr0 y hy hn) hn
 exact zm rfl rfl (Wk.toT (CH T hJ X0.C ++ XH Vr1 hJ) [L.p, L.bb, L.rb, L.ib, 0, X0.tkb, X0.skb, X0.mpb] wlT) ⟨rfl, ha, hb, hc, hk, hJ, sr1, Vr1, rfl, hq.keep (X := { X0 with head := ha, line := hb, foot := hc, comh := hk, J := hJ }) (s := sr1) hkk, kr1.cut (addH_ne _ _), hkk, hjJ⟩
end Go.Proofs.YtnfbcfflkphbiaaGreatDoor
