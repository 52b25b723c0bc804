/-
  Texts of the proof, joined: F28 F29 E18. No Go text.
-/
import Derived.Test.YtnfbcfflkphbiaaGreatDoorA01
import Derived.Test.YtnfbcfflkphbiaaGreatDoorA08
import Derived.Test.YtnfbcfflkphbiaaGreatDoorA25
namespace Go.Proofs.YtnfbcfflkphbiaaGreatDoor
open Go Go.Proofs Tryz
set_option linter.all false
set_option maxRecDepth 100000
set_option maxHeartbeats 8000000
instance {A : zl} {V : VL} {J : JL} : JT (A ++ XH V J) 5 J (fun J' => A ++ XH V J') := ⟨A ++ VH V, [], by simp [XH], fun J' => by simp [XH]⟩
def subL (s : Sl) (lo : Nat) : Sl := ⟨if s.c = lo then s.u else s.u.map (·.add (lo * 1)), s.n - lo, s.c - lo⟩
def subH (s : Sl) (hi : Nat) : Sl := ⟨s.u, hi, s.c⟩
theorem JSl.subL {J : JL} {s : Sl} {lo : Nat} (h : JSl J s) (hn : 0 < s.n) (hl : lo ≤ s.n) : JSl J (subL s lo) := by
 rcases h with rfl | ⟨b, N, M, o, hm, hu, hnc, hoc, hon⟩
 · simp at hn
 · unfold Go.Proofs.YtnfbcfflkphbiaaGreatDoor.subL
   by_cases hc : s.c = lo
   · rw [if_pos hc]
     exact .inr ⟨b, N, M, o, hm, hu, by dsimp only; omega, by dsimp only; omega, by dsimp only; omega⟩
   · rw [if_neg hc, hu]
     exact .inr ⟨b, N, M, o + lo, hm, by simp [Addr.add], by dsimp only; omega, by dsimp only; omega, by dsimp only; omega⟩
theorem JSl.subH {J : JL} {s : Sl} {hi : Nat} (h : JSl J s) (hn : 0 < s.n) (hl : hi ≤ s.n) : JSl J (subH s hi) := by
 rcases h with rfl | ⟨b, N, M, o, hm, hu, hnc, hoc, hon⟩
 · simp at hn
 · exact .inr ⟨b, N, M, o, hm, hu, by unfold Go.Proofs.YtnfbcfflkphbiaaGreatDoor.subH; dsimp only; omega, hoc, by unfold Go.Proofs.YtnfbcfflkphbiaaGreatDoor.subH; dsimp only; omega⟩
section
variable {P : Program} {n : Nat} {ds : List Deferred} {pu : Bool} {w0 : World} {D : List Nat} {H : zl} {E : Env}
variable {d : Option Nat} {ty : TypeId} {ps : String} {af : Array Edge} {g : Option (Nat × Bool)} {x : Operand}
theorem q_subl {s : Sl} {lo e bs : Nat} {t : TypeId} {kl : IntKind} [hs : Slc P t e 1 bs] {l : Operand} (hx : opv E x = some s.v) (hl : opv E l = some (.int kl (lo : Int))) (h1 : lo ≤ s.n) : Q1 P n ds pu w0 D H E ⟨d, .slice t x (some l) none none, ty, ps, af, g⟩ (subL s lo).v := by
 have := q_slicel (P := P) (s := t) (n := n) (ds := ds) (pu := pu) (w0 := w0) (D := D) (H := H) (d := d) (ty := ty) (ps := ps) (af := af) (g := g) hx hl omT omT
 simpa [subL] using this
end
structure ImEv (X : SS) (ev : EVt) : Prop where
 ty : ev.ty = 3
 vd : ev.vd = none
 td : ev.td = Sl.nil
 hd : JSl X.J ev.hd
 ln : ev.ln = Sl.nil
 ft : ev.ft = Sl.nil
 va : ev.va = Sl.nil
 im : ev.im = false
 qu : ev.qu = false
 sty : ev.sty = 0
theorem pdi_ok (L : Lay) (T : List Nat) (p : Nat → Nat) (f : Nat → Tk) (N eb i j0 : Nat) (X0 : SS) (sty : Int) (v : List Nat) (he : Eof L) (hs : Str T p f N) (hq0 : QR L T p f N X0 i j0) (hf : f i = .sc sty v) (htd : TDV X0.V X0.tdv []) (hst : X0.stv = Sl.nil) :
  Fn prog 74 [pV L.p, pV eb, .bool true] (EVZ eb :: SH L T X0)
   (fun u H' => u = .bool true ∧ ∃ X j ev sb sc, H' = EVB T eb ev :: STB sb sc :: SH L T X ∧ QR L T p f N X i j ∧ X.st = 5 ∧ X.stv = ⟨some ⟨sb, 0, none⟩, 1, sc⟩ ∧ (1 ≤ sc ∧ sc ≤ 9223372036854775807) ∧ X.sep = X0.sep ∧ (∃ b n c, X.tdv = ⟨some ⟨b, 0, none⟩, n, c⟩ ∧ n ≤ c ∧ TDV X.V ⟨some ⟨b, 0, none⟩, 0, c⟩ []) ∧ (∀ y ∈ X0.V, NTD y → y ∈ X.V) ∧ ImEv X ev) := by
 refine zo func74 rfl rfl rfl ?_
 intro w
 refine gg 8 ?_
 refine za rfl rfl rfl (qD L T p f N X0 i j0 he hs hq0) ?_
 rintro _ _ ⟨X1, j, rfl, rfl, hq1, hta1, hj, hK⟩
 obtain ⟨tv, htv, htok, hty⟩ := hq1.head hj
 have hok := htok
 rw [hf] at hok
 have h21 : tv.typ = 21 := hok.1
 have htlc := hq1.si.tlc
 have htkc := hq1.si.tkc
 have hst1 : X1.stv = Sl.nil := hK.stv.trans hst
 obtain ⟨X1, rfl⟩ : ∃ Y : SS, X1 = { Y with stv := Sl.nil } := ⟨X1, by rw [← hst1]⟩
 dsimp only at htv htlc htkc
 refine lS ?_
 refine gg 7 ?_
 refine sqz (qK underlying158 rfl rfl) (gg 23 ?_)
 refine sqz (zz (T := T) (tl := X1.tl) (i := X1.th) (j := 0) rfl roT omT htv rfl) (gg 6 ?_)
 refine sqz (zz (T := T) (tl := X1.tl) (i := X1.th) (j := 0) rfl roT omT htv rfl) (gg 6 ?_)
 refine sqz (zz (T := T) (tl := X1.tl) (i := X1.th) (j := 0) rfl roT omT htv rfl) (gg 6 ?_)
 refine sqz (zz (T := T) (tl := X1.tl) (i := X1.th) (j := 0) rfl roT omT htv rfl) (gg 9 ?_)
 refine za rfl rfl rfl (pdt_ok L T p f N i j { X1 with stv := Sl.nil } hq1 hta1 ⟨by rw [hf]; exact fun h => (by cases h), fun h p => by rw [hf]; exact fun h => (by cases h)⟩ (by
  have h5 := hK.tdv
  dsimp only at h5 ⊢
  rw [h5]
  exact htd.mono hK.v)) ?_
 rintro _ _ ⟨rfl, ha, hb, hc, hk, hJ, sT, VT1, rfl, hq2, hT2, hkV, hjJ⟩
 refine lS ?_
 refine gg 13 ?_
 refine kV (l := [_]) (zs := [zI]) [0] rfl rfl rfl rfl kR rfl rfl ?_
 intro nb
 refine kr (sz := 1) (news := [.int .i64 4]) rfl rfl rfl rfl rfl (zN (k := .cs 68 [.int .i64 4] []) (Nat.le_refl _) (Nat.le_refl _) (fun j u hj => by simp only [Blk.cell, look, nth, Nat.zero_add]; exact hj)) rfl (by decide) (by decide) (by decide) ?_
 intro nb2 nc hk1 hk2
 refine gg 5 ?_
 have hjh := hq2.si.jh
 have hcm9 := hq2.si.cmh
 have hcq9 := hq2.si.cnq
 have hql9 := hq2.si.inv.qlen
 have hsm9 := hq2.si.sml
 dsimp only at hjh hcm9 hcq9 hql9
 have hbig : ha.n ≤ 1000001000000 := Nat.le_trans hjh.2 (mul_big omT hsm9)
 refine gg 13 ?_
 refine zL (σ := Sl × Sl) (fun x => [(0, pV L.p), (1, pV eb), (2, .bool true), (6, .bool false), (7, .pointer (some ⟨X1.tkb, X1.th * 14, none⟩)), (8, x.1.v)]) (fun x => EVZ eb :: (nb2, .buf 68 (nc * 1) [.int .i64 4]) :: SH L T { X1 with st := 5, stv := ⟨some ⟨nb2, 0, none⟩, 1, nc⟩, head := x.2, line := hb, foot := hc, comh := hk, J := hJ, tdv := sT, V := VT1 }) (fun x => JSl hJ x.1 ∧ JSl hJ x.2 ∧ x.2.n ≤ ha.n) ?_ ?_
 ·
  by_cases hn0 : 0 < ha.n
  ·
   obtain ⟨hu, hn, hcp⟩ := ha
   obtain ⟨jb, jN, jM, jo, hmj, hju, hnc, hoc, hon⟩ : ∃ b N M o, (b, N, M) ∈ hJ ∧ hu = some ⟨b, o, none⟩ ∧ hn ≤ hcp ∧ o + hcp ≤ N ∧ o + hn ≤ M := by
    rcases hjh.1 with h | h
    · cases h; simp at hn0
    · exact h
   subst hju
   have hjs : JSl hJ ⟨some ⟨jb, jo, none⟩, hn, hcp⟩ := hjh.1
   dsimp only at hn0 hbig
   refine qF (H' := EVZ eb :: (nb2, .buf 68 (nc * 1) [.int .i64 4]) :: SH L T { X1 with st := 5, stv := ⟨some ⟨nb2, 0, none⟩, 1, nc⟩, head := ⟨some ⟨jb, jo, none⟩, hn, hcp⟩, line := hb, foot := hc, comh := hk, J := hJ, tdv := sT, V := VT1 }) (Wk.toT (CH T hJ X1.C ++ XH VT1 hJ) [eb, nb2, L.p, L.bb, L.rb, L.ib, 0, X1.tkb, X1.skb, X1.mpb] wlT) ?_
   refine gg 23 ?_
   refine zw (σ := Nat) (fun ii => [(0, pV L.p), (1, pV eb), (2, .bool true), (6, .bool false), (7, .pointer (some ⟨X1.tkb, X1.th * 14, none⟩)), (8, zS), (9, .int .i64 (ii : Nat))]) (fun _ => EVZ eb :: (nb2, .buf 68 (nc * 1) [.int .i64 4]) :: SH L T { X1 with st := 5, stv := ⟨some ⟨nb2, 0, none⟩, 1, nc⟩, head := ⟨some ⟨jb, jo, none⟩, hn, hcp⟩, line := hb, foot := hc, comh := hk, J := hJ, tdv := sT, V := VT1 }) (fun ii => ii < hn) (fun ii => ii) (hn - 1) omT suT (Wk.refl _) ?_
   rintro ii hii
   by_cases hk0 : 0 < ii
   ·
    refine gg 19 ?_
    refine sqz (zy rfl rfl rfl omT rfl) (s_ldjk rfl rfl rfl (jt_has hmj) omT ?_)
    intro z1 hz1
    refine sqz (kw rfl rfl rfl) (ze ?_)
    refine zf ?_
    refine kg rfl (fun hc => ?_) (fun hc => ?_)
    ·
      refine gg 9 ?_
      refine sqz (kw rfl rfl rfl) (ze ?_)
      refine zf ?_
      refine kg rfl (fun hc => ?_) (fun hc => ?_)
      ·
       refine gg 7 ?_
       refine sqz (qc rfl rfl omT) (gg 12 ?_)
       refine sqz (q_subl (s := ⟨some ⟨jb, jo, none⟩, hn, hcp⟩) rfl rfl omT) (gg 10 ?_)
       exact zg (subH ⟨some ⟨jb, jo, none⟩, hn, hcp⟩ (ii), subL ⟨some ⟨jb, jo, none⟩, hn, hcp⟩ (ii + 1)) ⟨hjs.subH (by dsimp only; omega) (by dsimp only; omega), hjs.subL (by dsimp only; omega) (by dsimp only; omega), by unfold subL; dsimp only; omega⟩ suT (Wk.toT (CH T hJ X1.C ++ XH VT1 hJ) [eb, nb2, L.p, L.bb, L.rb, L.ib, 0, X1.tkb, X1.skb, X1.mpb] wlT)
      ·
       refine gg 8 ?_
       refine sqz (zy rfl rfl rfl omT rfl) (s_ldjk rfl rfl rfl (jt_has hmj) omT ?_)
       intro z2 hz2
       refine sqz (kw rfl rfl rfl) (ze ?_)
       refine zf ?_
       refine kg rfl (fun hc => ?_) (fun hc => ?_)
       ·
        refine gg 8 ?_
        refine sqz (qc rfl rfl omT) (gg 12 ?_)
        refine sqz (q_subl (s := ⟨some ⟨jb, jo, none⟩, hn, hcp⟩) rfl rfl omT) (gg 10 ?_)
        exact zg (subH ⟨some ⟨jb, jo, none⟩, hn, hcp⟩ (ii - 1), subL ⟨some ⟨jb, jo, none⟩, hn, hcp⟩ (ii + 1)) ⟨hjs.subH (by dsimp only; omega) (by dsimp only; omega), hjs.subL (by dsimp only; omega) (by dsimp only; omega), by unfold subL; dsimp only; omega⟩ suT (Wk.toT (CH T hJ X1.C ++ XH VT1 hJ) [eb, nb2, L.p, L.bb, L.rb, L.ib, 0, X1.tkb, X1.skb, X1.mpb] wlT)
       ·
        refine gg 8 ?_
        exact zh (ii - 1) (by show ii - 1 < hn; omega) omT suT (Wk.refl _)
    ·
      refine gg 8 ?_
      exact zh (ii - 1) (by show ii - 1 < hn; omega) omT suT (Wk.refl _)
   ·
    refine gg 12 ?_
    exact zg (Sl.nil, ⟨some ⟨jb, jo, none⟩, hn, hcp⟩) ⟨JSl.nil _, hjs, Nat.le_refl _⟩ suT (Wk.toT (CH T hJ X1.C ++ XH VT1 hJ) [eb, nb2, L.p, L.bb, L.rb, L.ib, 0, X1.tkb, X1.skb, X1.mpb] wlT)
  ·
   refine gg 12 ?_
   exact zg (Sl.nil, ha) ⟨JSl.nil _, hjh.1, Nat.le_refl _⟩ suT (Wk.toT (CH T hJ X1.C ++ XH VT1 hJ) [eb, nb2, L.p, L.bb, L.rb, L.ib, 0, X1.tkb, X1.skb, X1.mpb] wlT)
 ·
  rintro ⟨t8, hd⟩ ⟨ht8, hhd, hhn⟩
  dsimp only at ht8 hhd hhn
  refine zt (EVZ eb :: (nb2, .buf 68 (nc * 1) [.int .i64 4]) :: SH L T { X1 with st := 5, stv := ⟨some ⟨nb2, 0, none⟩, 1, nc⟩, head := hd, line := hb, foot := hc, comh := hk, J := hJ, tdv := sT, V := VT1 }) [(0, pV L.p), (1, pV eb), (2, .bool true), (6, .bool false), (7, .pointer (some ⟨X1.tkb, X1.th * 14, none⟩)), (8, t8.v)] rfl rfl ?_
  refine zU 12 zF kR (gg 4 ?_)
  refine dqz (kU (T := T) (tl := X1.tl) (i := X1.th) (j := 1) rfl roT omT htv rfl rfl rfl) (gg 3 ?_)
  refine dqz (kU (T := T) (tl := X1.tl) (i := X1.th) (j := 4) rfl roT omT htv rfl rfl rfl) (dmv ?_)
  refine dqz (zu (l := [_, _, _, _, _, _, _, _, _, _, _, _, _, _, _, _, _, _, _, _]) (zs := [.int .i8 0, zI, zI, zI, zI, zI, zI, zI, .pointer none, zS, zS, zS, zS, zS, zS, zS, zS, .bool false, .bool false, .int .i8 0]) [0, 1, 4, 7, 8, 9, 10, 11, 12, 13, 14, 15, 16, 17, 18, 19] rfl rfl kR) ?_
  refine dnc ?_
  refine qW ?_
  first | refine stw rfl rfl ?_ | refine sts rfl rfl ?_
  refine gg 8 ?_
  have hq3 : QR L T p f N { X1 with st := 5, stv := ⟨some ⟨nb2, 0, none⟩, 1, nc⟩, head := hd, line := hb, foot := hc, comh := hk, J := hJ, tdv := sT, V := VT1 } i j := (QR.unf (X := { X1 with st := 5, stv := ⟨some ⟨nb2, 0, none⟩, 1, nc⟩, head := ha, line := hb, foot := hc, comh := hk, J := hJ, tdv := sT, V := VT1 }) (k := hk) (J := hJ) (hq2.st (k := 5) (s := ⟨some ⟨nb2, 0, none⟩, 1, nc⟩) (t := sT)) ((hq2.st (k := 5) (s := ⟨some ⟨nb2, 0, none⟩, 1, nc⟩) (t := sT)).si.unf (k := hk) (J := hJ) hcm9 ⟨hhd, Nat.le_trans hhn hjh.2⟩ hq2.si.jl hq2.si.jf))
  exact zm (H' := EVB T eb ⟨3, tv.a, tv.e, 0, none, Sl.nil, t8, Sl.nil, Sl.nil, Sl.nil, false, false, 0⟩ :: (nb2, .buf 68 (nc * 1) [.int .i64 4]) :: SH L T { X1 with st := 5, stv := ⟨some ⟨nb2, 0, none⟩, 1, nc⟩, head := hd, line := hb, foot := hc, comh := hk, J := hJ, tdv := sT, V := VT1 }) rfl rfl (Wk.toT (CH T hJ X1.C ++ XH VT1 hJ) [eb, nb2, L.p, L.bb, L.rb, L.ib, 0, X1.tkb, X1.skb, X1.mpb] wlT) ⟨rfl, { X1 with st := 5, stv := ⟨some ⟨nb2, 0, none⟩, 1, nc⟩, head := hd, line := hb, foot := hc, comh := hk, J := hJ, tdv := sT, V := VT1 }, j, _, nb2, nc, by rw [Nat.mul_one], hq3, rfl, rfl, ⟨hk1, hk2⟩, hK.sep, hT2, fun y hy hn => hkV y (hK.v y hy) hn, ⟨rfl, rfl, rfl, ht8, rfl, rfl, rfl, rfl, rfl, rfl⟩⟩
theorem wo {H : zl} : Sel H H [] := ⟨by simp⟩
theorem sm0_ok {L : Lay} {T : List Nat} {s : PS} {eb : Nat} {H : zl} {R : Value → zl → Prop} [hh : Has H L.p (.cs 75 (qp L T s) [])] (hst : s.st = 0) (h : Fn prog 73 [pV L.p, pV eb] H R) :
  Fn prog 58 [pV L.p, pV eb] H R := by
 obtain ⟨s, rfl⟩ : ∃ z : PS, s = { z with st := 0 } := ⟨s, by rw [← hst]⟩
 haveI := wo (H := H)
 refine zo func58 rfl rfl rfl ?_
 intro w
 refine gg 25 ?_
 refine za rfl rfl rfl (h) ?_
 intro v H' hR
 refine gg 5 ?_
 exact zm (H' := H') rfl rfl (by rw [List.append_nil]; exact Wk.refl _) hR
theorem sm1_ok {L : Lay} {T : List Nat} {s : PS} {eb : Nat} {H : zl} {R : Value → zl → Prop} [hh : Has H L.p (.cs 75 (qp L T s) [])] (hst : s.st = 1) (h : Fn prog 74 [pV L.p, pV eb, .bool true] H R) :
  Fn prog 58 [pV L.p, pV eb] H R := by
 obtain ⟨s, rfl⟩ : ∃ z : PS, s = { z with st := 1 } := ⟨s, by rw [← hst]⟩
 haveI := wo (H := H)
 refine zo func58 rfl rfl rfl ?_
 intro w
 refine gg 32 ?_
 refine za rfl rfl rfl (h) ?_
 intro v H' hR
 refine gg 5 ?_
 exact zm (H' := H') rfl rfl (by rw [List.append_nil]; exact Wk.refl _) hR
theorem sm2_ok {L : Lay} {T : List Nat} {s : PS} {eb : Nat} {H : zl} {R : Value → zl → Prop} [hh : Has H L.p (.cs 75 (qp L T s) [])] (hst : s.st = 2) (h : Fn prog 74 [pV L.p, pV eb, .bool false] H R) :
  Fn prog 58 [pV L.p, pV eb] H R := by
 obtain ⟨s, rfl⟩ : ∃ z : PS, s = { z with st := 2 } := ⟨s, by rw [← hst]⟩
 haveI := wo (H := H)
 refine zo func58 rfl rfl rfl ?_
 intro w
 refine gg 39 ?_
 refine za rfl rfl rfl (h) ?_
 intro v H' hR
 refine gg 5 ?_
 exact zm (H' := H') rfl rfl (by rw [List.append_nil]; exact Wk.refl _) hR
theorem sm3_ok {L : Lay} {T : List Nat} {s : PS} {eb : Nat} {H : zl} {R : Value → zl → Prop} [hh : Has H L.p (.cs 75 (qp L T s) [])] (hst : s.st = 3) (h : Fn prog 75 [pV L.p, pV eb] H R) :
  Fn prog 58 [pV L.p, pV eb] H R := by
 obtain ⟨s, rfl⟩ : ∃ z : PS, s = { z with st := 3 } := ⟨s, by rw [← hst]⟩
 haveI := wo (H := H)
 refine zo func58 rfl rfl rfl ?_
 intro w
 refine gg 46 ?_
 refine za rfl rfl rfl (h) ?_
 intro v H' hR
 refine gg 5 ?_
 exact zm (H' := H') rfl rfl (by rw [List.append_nil]; exact Wk.refl _) hR
theorem sm4_ok {L : Lay} {T : List Nat} {s : PS} {eb : Nat} {H : zl} {R : Value → zl → Prop} [hh : Has H L.p (.cs 75 (qp L T s) [])] (hst : s.st = 4) (h : Fn prog 76 [pV L.p, pV eb] H R) :
  Fn prog 58 [pV L.p, pV eb] H R := by
 obtain ⟨s, rfl⟩ : ∃ z : PS, s = { z with st := 4 } := ⟨s, by rw [← hst]⟩
 haveI := wo (H := H)
 refine zo func58 rfl rfl rfl ?_
 intro w
 refine gg 53 ?_
 refine za rfl rfl rfl (h) ?_
 intro v H' hR
 refine gg 5 ?_
 exact zm (H' := H') rfl rfl (by rw [List.append_nil]; exact Wk.refl _) hR
theorem sm5_ok {L : Lay} {T : List Nat} {s : PS} {eb : Nat} {H : zl} {R : Value → zl → Prop} [hh : Has H L.p (.cs 75 (qp L T s) [])] (hst : s.st = 5) (h : Fn prog 77 [pV L.p, pV eb, .bool true, .bool false] H R) :
  Fn prog 58 [pV L.p, pV eb] H R := by
 obtain ⟨s, rfl⟩ : ∃ z : PS, s = { z with st := 5 } := ⟨s, by rw [← hst]⟩
 haveI := wo (H := H)
 refine zo func58 rfl rfl rfl ?_
 intro w
 refine gg 60 ?_
 refine za rfl rfl rfl (h) ?_
 intro v H' hR
 refine gg 5 ?_
 exact zm (H' := H') rfl rfl (by rw [List.append_nil]; exact Wk.refl _) hR
theorem pp_ok {L : Lay} {T : List Nat} {s : PS} {eb : Nat} {Hr : zl} {R : Value → zl → Prop} [hh : Has Hr L.p (.cs 75 (qp L T s) [])] (hsep : s.sep = false) (hst : s.st ≠ 23) (h : Fn prog 58 [pV L.p, pV eb] (EVZ eb :: Hr) R) :
  Fn prog 33 [pV L.p, pV eb] (EVZ eb :: Hr) R := by
 obtain ⟨s, rfl⟩ : ∃ z : PS, s = { z with sep := false } := ⟨s, by rw [← hsep]⟩
 haveI := wo (H := EVZ eb :: Hr)
 refine zo func33 rfl rfl rfl ?_
 intro w
 refine gg 8 ?_
 refine sqz (zu (l := [_, _, _, _, _, _, _, _, _, _, _, _, _, _, _, _, _, _, _, _]) (zs := [.int .i8 0, zI, zI, zI, zI, zI, zI, zI, .pointer none, zS, zS, zS, zS, zS, zS, zS, zS, .bool false, .bool false, .int .i8 0]) [0, 1, 4, 7, 8, 9, 10, 11, 12, 13, 14, 15, 16, 17, 18, 19] rfl rfl kR) ?_
 refine snc ?_
 first | refine stw rfl rfl ?_ | refine sts rfl rfl ?_
 refine gg 4 ?_
 refine zA eb (.cs 86 evZ []) (Blk.like_rec kR) (gg 28 ?_)
 refine za rfl rfl rfl (h) ?_
 intro v H' hR
 refine gg 4 ?_
 exact zm (H' := H') rfl rfl (by rw [List.append_nil]; exact Wk.refl _) hR
theorem zp_ok {L : Lay} {eb : Nat} {H : zl} {R : Value → zl → Prop} (h : Fn prog 33 [pV L.p, pV eb] H R) :
  Fn prog 17 [pV L.p, pV eb] H R := by
 haveI := wo (H := H)
 refine zo func17 rfl rfl rfl ?_
 intro w
 refine gg 9 ?_
 refine za rfl rfl rfl (h) ?_
 intro v H' hR
 refine gg 4 ?_
 exact zm (H' := H') rfl rfl (by rw [List.append_nil]; exact Wk.refl _) hR
abbrev ZL := List (Nat × Nat × List Nat)
def ZH (Z : ZL) : VL := Z.map fun z => VE z.1 z.2.1 z.2.2
def ZJ (Z : ZL) : JL := Z.map fun z => (z.1, z.2.1, z.2.2.length)
def ZOK (Z : ZL) : Prop := ∀ z ∈ Z, ∀ c ∈ z.2.2, c < 256
theorem jk_open {e N M : Nat} {o : Obj} (h : jkO e N M o) : ∃ X : List Nat, X.length = M ∧ (∀ c ∈ X, c < 256) ∧ (Blk.buf e N (bytes X)).ok o := by
 obtain ⟨c, rfl, hs, hM, hc⟩ := h
 have go : ∀ k, k ≤ M → ∃ X : List Nat, X.length = k ∧ (∀ x ∈ X, x < 256) ∧ ∀ j, j < k → c[j]? = (bytes X)[j]? := by
  intro k
  induction k with
  | zero => intro _; exact ⟨[], rfl, by simp, fun j hj => by omega⟩
  | succ k ih =>
   intro hk
   obtain ⟨X, h1, h2, h3⟩ := ih omT
   obtain ⟨z, hz, hcz⟩ := hc k omT
   refine ⟨X ++ [z], by simp [h1], fun x hx => ?_, fun j hj => ?_⟩
   · rcases List.mem_append.1 hx with hx | hx
     · exact h2 x hx
     · rw [List.mem_singleton.1 hx]; exact hz
   · by_cases hjk : j < k
     · rw [h3 j hjk, qI, List.getElem?_append_left (by rw [kx]; omega)]
     · have : j = k := by omega
       subst this
       rw [hcz, qI, List.getElem?_append_right (by rw [kx]; omega), kx, h1, Nat.sub_self]
       rfl
 obtain ⟨X, h1, h2, h3⟩ := go M (Nat.le_refl _)
 refine ⟨X, h1, h2, Blk.ok.mk (b := .buf e N (bytes X)) rfl hs (by simp only [Blk.known, kx, Blk.len]; omega) fun k _ hk => ?_⟩
 simp only [Blk.known, kx] at hk
 exact h3 k omT
theorem jh_open {w : World} : ∀ {J : JL}, (∀ x ∈ JH 5 J, ∃ o, w.heap[x.1]? = some o ∧ x.2.ok o) → ∃ Z : ZL, ZJ Z = J ∧ ZOK Z ∧ ∀ x ∈ ZH Z, ∃ o, w.heap[x.1]? = some o ∧ x.2.ok o
 | [], _ => ⟨[], rfl, fun z h => absurd h (by simp), fun z h => absurd h (by simp [ZH])⟩
 | (b, N, M) :: J, h => by
  obtain ⟨Z, h1, h2, h3⟩ := jh_open (J := J) (fun x hx => h x (by rw [jh_cons]; exact List.mem_cons_of_mem _ hx))
  obtain ⟨o, ho, hj⟩ := h (b, .obj (jkO 5 N M)) (by rw [jh_cons]; exact List.mem_cons_self ..)
  obtain ⟨X, g1, g2, g3⟩ := jk_open (show jkO 5 N M o from hj)
  refine ⟨(b, N, X) :: Z, by simp only [ZJ, List.map_cons, g1]; rw [← h1]; rfl, fun z hz => ?_, fun x hx => ?_⟩
  · rcases List.mem_cons.1 hz with rfl | hz
    · exact g2
    · exact h2 z hz
  · rcases List.mem_cons.1 hx with rfl | hx
    · exact ⟨o, ho, g3⟩
    · exact h3 x hx
theorem zh_keys (Z : ZL) : (ZH Z).map (·.1) = (JH 5 (ZJ Z)).map (·.1) := by
 simp [ZH, ZJ, JH]
theorem jsl_zsrc {Z : ZL} {V : VL} {s : Sl} (hz : ZOK Z) (h : JSl (ZJ Z) s) : ∃ X : List Nat, X.length = s.n ∧ BSrc (XH (V ++ ZH Z) []) s.v X := by
 rcases h with rfl | ⟨b, N, M, o, hm, hu, h1, h2, h3⟩
 · exact ⟨[], rfl, .inl ⟨0, rfl, rfl⟩⟩
 · obtain ⟨z, hz1, he⟩ := List.mem_map.1 hm
   obtain ⟨b', N', X⟩ := z
   simp only [Prod.mk.injEq] at he
   obtain ⟨rfl, rfl, rfl⟩ := he
   have hlen : ((X.drop o).take s.n).length = s.n := by simp; omega
   refine ⟨(X.drop o).take s.n, hlen, .inr ⟨b', o, s.c, ?_, fun c hc => hz _ hz1 c (List.mem_of_mem_drop (List.mem_of_mem_take hc)), ?_⟩⟩
   · rw [hlen, Sl.v, hu]
   · intro w hw j u hj
     have hmem : (b', Blk.buf 5 N' (bytes X)) ∈ XH (V ++ ZH Z) [] := by
      simp only [XH, VH, JH, List.map_nil, List.append_nil]
      exact List.mem_append_right _ (List.mem_map.2 ⟨_, hz1, rfl⟩)
     have hjl := (List.getElem?_eq_some_iff.1 hj).1
     rw [kx, hlen] at hjl
     rw [hw.cell hmem (i := o + j) (Nat.zero_le _) (by simp only [Blk.known, kx]; omega)]
     simp only [Blk.cell, nth]
     rw [← hj]
     simp only [bytes, List.map_take, List.map_drop]
     rw [List.getElem?_take, if_pos hjl, List.getElem?_drop]
theorem Wk.closeZ {A : zl} {V : VL} : ∀ {Z : ZL}, ZOK Z → Wk (A ++ XH (V ++ ZH Z) []) (A ++ XH V (ZJ Z)) := by
 intro Z hz pu w0 D w hk
 have go : ∀ (Z : ZL) (B : zl), ZOK Z → WOK pu w0 D (B ++ ZH Z) w → WOK pu w0 D (B ++ JH 5 (ZJ Z)) w := by
  intro Z
  induction Z with
  | nil => intro B _ h; exact h
  | cons z Z ih =>
   intro B hz h
   have h1 : WOK pu w0 D (B ++ (z.1, .obj (jkO 5 z.2.1 z.2.2.length)) :: ZH Z) w := WOK.like h (like_jk (hz z (List.mem_cons_self ..)))
   have h2 := ih (B ++ [(z.1, .obj (jkO 5 z.2.1 z.2.2.length))]) (fun x hx => hz x (List.mem_cons_of_mem _ hx)) (by simpa using h1)
   simpa [ZJ, JH] using h2
 have := go Z (A ++ V) hz (by simpa [XH, VH, JH] using hk)
 simpa [XH, VH] using this
theorem Fn.openJ {P : Program} {f : Nat} {args : List Value} {A : zl} {V : VL} {J : JL} {R : Value → zl → Prop} (h : ∀ Z : ZL, ZJ Z = J → ZOK Z → Fn P f args (A ++ XH (V ++ ZH Z) []) R) : Fn P f args (A ++ XH V J) R := by
 intro w hw
 obtain ⟨Z, h1, h2, h3⟩ := jh_open (J := J) (w := w) (fun x hx => hw.ok x.1 x.2 (List.mem_append_right _ (List.mem_append_right _ hx)))
 have hkeys : (A ++ XH V J).map (·.1) = (A ++ XH (V ++ ZH Z) []).map (·.1) := by
  simp only [XH, VH, List.map_append, zh_keys, h1, JH, List.map_nil, List.append_nil]
 have hok : HOK (A ++ XH (V ++ ZH Z) []) w := by
  refine ⟨by rw [← hkeys]; exact hw.nodup, fun b k hm => ?_⟩
  simp only [XH, VH, JH, List.map_nil, List.append_nil, List.mem_append] at hm
  rcases hm with hm | hm | hm
  · exact hw.ok b k (List.mem_append_left _ hm)
  · exact hw.ok b k (List.mem_append_right _ (List.mem_append_left _ hm))
  · exact h3 (b, k) hm
 have := h Z h1 h2 w hok
 rw [hkeys]
 exact this
instance {A : zl} {V : VL} {J : JL} : qX (A ++ XH V J) (XH V J) A := ⟨List.perm_append_comm⟩
theorem XH.mem {V W : VL} {J : JL} {y : Nat × Blk} (h : y ∈ V) : y ∈ XH (V ++ W) J := List.mem_append_left _ (List.mem_append_left _ h)
section
variable {P : Program} {fn : Func} {n : Nat} {w0 : World} {D : List Nat} {H H' : zl} {E : Env} {R : Value → zl → Prop}
theorem end_retw {v : Value} {e : Exit} (hn : e = .normal ∨ e = .ret) (hres : ∀ a w, EOK n [] E a → WOK false w0 D H w → (results fn a.tmps).run P w = .ok v w) (hw : Wk H H') (h : R v H') : LF n [] false w0 D (bodyPost P fn (RP w0 D R)) e H E := by
 intro a w he hk
 rcases hn with rfl | rfl
 · exact ⟨he.defers, v, hres a w he hk, v, H', rfl, hw _ _ _ _ hk, h⟩
 · exact ⟨he.defers, v, hres a w he hk, v, H', rfl, hw _ _ _ _ hk, h⟩
def RC (P : Program) (n : Nat) (w0 : World) (D : List Nat) (H : zl) (E : Env) (t ty : Nat) (v : Value) : Prop := ∀ a w, EOK n [] E a → WOK false w0 D H w → ∃ p, a.tmps[t]? = some (.pointer (some p)) ∧ (loadVar ty p).run P w = .ok v w
theorem rc_s {t ty b i m : Nat} {k : Blk} {l : List Value} [hs : qR P ty m] (ht : look t E = some (.pointer (some ⟨b, i, none⟩))) [hh : Has H b k] (h0 : Nat.ble k.lo i = true) (hi : Nat.ble (i + m) k.known = true) (hv : cut k i m = some l) : RC P n w0 D H E t ty (.agg l.toArray) := by
 intro a w he hw
 obtain ⟨h1, h2⟩ := cut_spec hv
 obtain ⟨dd, ii, _, _, h5, h6⟩ := hs.is
 have hl := we (P := P) hw.hok hh.mem (Nat.le_of_ble_eq_true h0) (Nat.le_of_ble_eq_true hi) h1 h2
 exact ⟨_, he.env _ _ ht, by simp [loadVar, kO, zX h5, h6, hl]⟩
theorem endr1 {t ty : Nat} {v : Value} (hr : fn.results = #[.cell t ty]) (h1 : RC P n w0 D H E t ty v) (hw : Wk H H') (h : R v H') : LF n [] false w0 D (bodyPost P fn (RP w0 D R)) .ret H E :=
 end_retw (.inr rfl) (fun a w he hk => by
  obtain ⟨p, g1, g2⟩ := h1 a w he hk
  simp [results, hr, g1, asAddr, g2]) hw h
theorem endr5 {t1 t2 t3 t4 t5 y1 y2 y3 y4 y5 : Nat} {v1 v2 v3 v4 v5 : Value} (hr : fn.results = #[.cell t1 y1, .cell t2 y2, .cell t3 y3, .cell t4 y4, .cell t5 y5]) (h1 : RC P n w0 D H E t1 y1 v1) (h2 : RC P n w0 D H E t2 y2 v2) (h3 : RC P n w0 D H E t3 y3 v3) (h4 : RC P n w0 D H E t4 y4 v4) (h5 : RC P n w0 D H E t5 y5 v5) (hw : Wk H H') (h : R (.tuple #[v1, v2, v3, v4, v5]) H') : LF n [] false w0 D (bodyPost P fn (RP w0 D R)) .ret H E :=
 end_retw (.inr rfl) (fun a w he hk => by
  obtain ⟨p1, g1, k1⟩ := h1 a w he hk
  obtain ⟨p2, g2, k2⟩ := h2 a w he hk
  obtain ⟨p3, g3, k3⟩ := h3 a w he hk
  obtain ⟨p4, g4, k4⟩ := h4 a w he hk
  obtain ⟨p5, g5, k5⟩ := h5 a w he hk
  simp [results, hr, g1, g2, g3, g4, g5, asAddr, k1, k2, k3, k4, k5]) hw h
theorem endr2 {t1 t2 y2 : Nat} {v1 v2 : Value} (hr : fn.results = #[.tmp t1, .cell t2 y2]) (h1 : look t1 E = some v1) (h2 : RC P n w0 D H E t2 y2 v2) (hw : Wk H H') (h : R (.tuple #[v1, v2]) H') : LF n [] false w0 D (bodyPost P fn (RP w0 D R)) .ret H E :=
 end_retw (.inr rfl) (fun a w he hk => by
  have g1 := he.env _ _ h1
  obtain ⟨p2, g2, k2⟩ := h2 a w he hk
  simp [results, hr, g1, g2, asAddr, k2]) hw h
end
end Go.Proofs.YtnfbcfflkphbiaaGreatDoor
