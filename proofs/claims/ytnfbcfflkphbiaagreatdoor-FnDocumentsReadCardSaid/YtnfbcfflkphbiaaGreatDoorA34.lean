/-
  Texts of the proof, joined: F53. No Go text.
-/
import Derived.Test.YtnfbcfflkphbiaaGreatDoorA01
import Derived.Test.YtnfbcfflkphbiaaGreatDoorA08
import Derived.Test.YtnfbcfflkphbiaaGreatDoorA33
namespace Go.Proofs.YtnfbcfflkphbiaaGreatDoor
open Go Go.Proofs Tryz
set_option linter.all false
set_option maxRecDepth 100000
set_option maxHeartbeats 8000000
structure EOo (eo : Obj) (ev : Value) : Prop where
 cell : qz eo 0 = some ev
 if_ : ∃ et u, ev = .iface et u
 eq : ∀ w, (binOp .eql 141 ev ev).run prog w = .ok (.bool true) w
abbrev EO (eo : Obj) : Nat × Blk := (0, .raw eo)
theorem PKS.mono {V V' : VL} {s : Sl} (hv : ∀ y ∈ V, y ∈ V') (h : PKS s V) : PKS s V' := ⟨h.n, fun i hi => by
 obtain ⟨b, off, o, z, h1, h2, h3⟩ := h.get i hi
 exact ⟨b, off, o, z, h1, hv _ h2, h3⟩⟩
theorem asc256 {X : List Nat} (h : Asc X) : ∀ c ∈ X, c < 256 := fun c hc => by have := h c hc; omega
theorem sbl_sb {X : List Nat} (h : ∀ c ∈ X, c < 256) : sbl (sb X) = X := by
 unfold sbl sb
 simp only [List.map_map]
 conv => rhs; rw [← List.map_id X]
 exact List.map_congr_left (fun c hc => by simp [UInt8.toNat_ofNat, Nat.mod_eq_of_lt (h c hc)])
theorem inF_self {T : List Nat} {f : Nat → Value} (h : ∀ j, j < T.length → f j = .int .u8 ((T.getD j 0 : Nat) : Int)) : f = inF T f := by
 funext j
 unfold inF
 split
 · rename_i hj; exact h j hj
 · rfl
theorem wk_nd {A1 A2 A3 D K : Nat × Blk} {W V : VL} : Wk (A1 :: A2 :: A3 :: (W ++ (D :: K :: XH V []))) (A1 :: A2 :: A3 :: D :: XH (W ++ V) []) := by
 refine Wk.sel (Hc := A1 :: A2 :: A3 :: D :: XH (W ++ V) []) (Hf := [K]) (h := ⟨.cons _ (.cons _ (.cons _ ?_))⟩)
 rw [← xh_app]
 refine (List.perm_middle).trans (.cons _ ?_)
 refine (List.perm_middle).trans ?_
 exact (List.perm_append_comm (l₁ := [K]))
theorem wk_nd0 {A1 A2 A3 K : Nat × Blk} {W V : VL} : Wk (A1 :: A2 :: A3 :: (W ++ (K :: XH V []))) (A1 :: A2 :: A3 :: XH (W ++ V) []) := by
 refine Wk.sel (Hc := A1 :: A2 :: A3 :: XH (W ++ V) []) (Hf := [K]) (h := ⟨.cons _ (.cons _ (.cons _ ?_))⟩)
 rw [← xh_app]
 refine (List.perm_middle).trans ?_
 exact (List.perm_append_comm (l₁ := [K]))
theorem Wk.subset {H H' : zl} (h : ∀ x ∈ H', x ∈ H) (hn : (H'.map (·.1)).Nodup) : Wk H H' := fun _ _ _ _ hw => hw.mono h hn
theorem sevents0_ok : Fn prog 10 [zS] []
  (fun v H' => ∃ ob oc ss, v = .slice (some ⟨ob, 0, none⟩) ss.length oc ∧ H' = [ERB ob oc ss] ∧ ss = erX 1 :: (evD [] ++ [erX 2]) ∧ ss.length ≤ oc ∧ oc ≤ 9223372036854775807) := by
 refine zo func10 rfl rfl rfl ?_
 intro w
 refine gg 7 ?_
 refine sqz (zu (l := [_, _, _, _, _, _, _, _, _, _, _, _, _, _, _, _, _, _, _, _, _, _, _]) (zs := [zI, zI, zI, zI, zI, zI, zI, zI, .bool false, zI, zI, zS, zS, .string ⟨#[]⟩, .string ⟨#[]⟩, .string ⟨#[]⟩, .bool false, .bool false, zI, .string ⟨#[]⟩, .string ⟨#[]⟩, .string ⟨#[]⟩, .string ⟨#[]⟩]) [0, 1, 4, 7, 8, 9, 10, 11, 12, 13, 14, 15, 16, 17, 18, 19, 20, 21, 22] rfl rfl kR) ?_
 refine s_bsw (sz := 23) (l := erC (erX 1)) rfl rfl rfl rfl rfl rfl rfl ?_
 intro s0
 refine gg 12 ?_
 refine zw (σ := Unit) (fun _ => [(3, .slice (some ⟨s0, 0, none⟩) 1 1), (8, zS), (9, zI), (10, zI)]) (fun _ => [ERB s0 1 [erX 1]]) (fun _ => True) (fun _ => 0) () trivial suT (Wk.to [s0] (by exact ⟨rfl, .inr (like_csb rfl), trivial⟩)) ?_
 rintro ⟨⟩ _
 refine gg 15 ?_
 refine sqz (zu (l := [_, _, _, _, _, _, _, _, _, _, _, _, _, _, _, _, _, _, _, _, _, _, _]) (zs := [zI, zI, zI, zI, zI, zI, zI, zI, .bool false, zI, zI, zS, zS, .string ⟨#[]⟩, .string ⟨#[]⟩, .string ⟨#[]⟩, .bool false, .bool false, zI, .string ⟨#[]⟩, .string ⟨#[]⟩, .string ⟨#[]⟩, .string ⟨#[]⟩]) [0, 1, 4, 7, 8, 9, 10, 11, 12, 13, 14, 15, 16, 17, 18, 19, 20, 21, 22] rfl rfl kR) ?_
 refine s_bsw (sz := 23) (l := erC (erX 2)) rfl rfl rfl rfl rfl rfl rfl ?_
 intro s1
 refine zY (b := s0) (n0 := 1) (cap := 1) (sz := 23) (bs := 264) (news := erC (erX 2)) rfl rfl rfl rfl rfl rfl (Nat.le_refl _) omT rfl (zN (k := .cs 91 (erC (erX 2)) []) (Nat.le_refl _) (Nat.le_refl _) (fun j u hj => by simp only [Blk.cell, look, nth, Nat.zero_add]; exact hj)) rfl (erC_one _) omT omT ?_
 intro ob1 oc1 g1 g2
 refine gg 4 ?_
 exact zm (H' := [ERB ob1 oc1 ([erX 1] ++ [erX 2])]) rfl rfl (Wk.to [ob1] (by exact ⟨rfl, .inl rfl, trivial⟩)) ⟨ob1, oc1, [erX 1] ++ [erX 2], rfl, rfl, rfl, g1, g2⟩
theorem noEl {fs : List DR} : ∀ r ∈ erX 1 :: (evD fs ++ [erX 2]), r.k ≠ 11 := by
 intro r hr
 simp only [evD, List.mem_cons, List.mem_append, List.mem_flatMap, List.not_mem_nil, or_false] at hr
 rcases hr with rfl | ⟨d, _, rfl | rfl | rfl⟩ | rfl <;> simp
theorem ers11 {W : VL} {rs : List ER} {qs : List kP} (h : ERs W rs (aeS :: docsE qs)) : ∀ r ∈ rs, r.k ≠ 11 := by
 intro r hr
 obtain ⟨i, hi⟩ := List.getElem?_of_mem hr
 have hl := (List.getElem?_eq_some_iff.1 hi).1
 rw [h.1] at hl
 have := kinds _ (List.getElem_mem hl)
 have hk := (h.2 i r _ hi (List.getElem?_eq_getElem hl)).k
 rw [hk]
 omega
theorem ndRead_ok (V : VL) (s : Sl) (hpk : PKS s V) (lb lc : Nat) (ls : List DR) (hls : ∀ d ∈ ls, FI V d) (hl3 : ls.length ≤ 3) (hl0 : 0 < ls.length) (eo : Obj) (ev : Value) (hE : EOo eo ev) (hnd : ((EO eo :: XH V []).map (·.1)).Nodup) :
   Fn prog 5 [.slice (some ⟨lb, 0, none⟩) ls.length lc, s.v] (DRB lb lc ls :: EO eo :: XH V []) (fun v H' => v = .bool true ∧ H' = EO eo :: XH V []) := by
 refine zo func5 rfl rfl rfl ?_
 intro w
 refine gg 8 ?_
 refine za rfl rfl rfl (fits_ok V lb lc ls hls hl3 hl0) ?_
 rintro _ _ ⟨ob, oc, fs, V1, rfl, rfl, hv1, hf, hfl⟩
 refine lS ?_
 refine gg 7 ?_
 refine sqz (zu (l := [_, _]) (zs := [zS, zI]) [0, 1] rfl rfl kR) (ku rfl rfl rfl clT ?_)
 intro pb
 refine za rfl rfl rfl (stream_ok pb ob oc s V1 (hpk.mono hv1) fs hf.fd omT 0 (Nat.zero_le _)) ?_
 rintro _ _ ⟨a1, X, rfl, rfl, hX, hXl⟩
 obtain ⟨qs, hst, hrl, hqt⟩ := strx_stream hX hf
 have hqd := hrl.docs
 have hql : qs.length ≤ 3 := by have := hrl.len; omega
 obtain ⟨p, f, hstr, hp1, hal⟩ := stream_str hst hqd hql
 have hasc := (stream_le hst (fun d hd => (hqd d hd).dir.len) hql).2
 refine lS ?_
 refine s_sbytes underlying9 underlying23 underlying5 rfl rfl rfl ?_
 intro ib cap m g hg1 hg2 hg3
 rw [kF] at hg1 hg3
 rw [kF]
 rw [inF_self (T := X) (f := g) (fun j hj => by have := hg3 j hj; rw [sbl_sb (asc256 hasc)] at this; exact this)]
 refine za rfl rfl rfl (events_ok [] X p f _ qs hstr hp1 hal rfl hqd hql hqt hasc omT ib m cap g eo ev ⟨hg1, hg2⟩ hE.cell hE.if_ hE.eq) ?_
 rintro _ _ ⟨rb, rc, rs, W, rfl, rfl, hers, hr1, hr2⟩
 refine lS ?_
 refine gg 3 ?_
 refine zk rfl rfl clT ?_
 intro fb
 refine sas ?_
 first | refine stw rfl rfl ?_ | refine sts rfl rfl ?_
 refine ze ?_
 refine zf ?_
 have hW : ∀ y ∈ V, y ∈ W ++ V1 := fun y hy => List.mem_append_right _ (hv1 y hy)
 have heqs : EQs (W ++ V1) rs (erX 1 :: (evD fs ++ [erX 2])) := (docs_ea hrl).eqs hers
 have hrsl : rs.length = 3 * fs.length + 2 := by rw [heqs.1, List.length_cons, List.length_append, evD_len]; rfl
 refine kq (E' := [(0, .slice (some ⟨ob, 0, none⟩) fs.length oc), (5, .slice (some ⟨rb, 0, none⟩) rs.length rc), (6, pV fb)]) (H' := (fb, .cs 37 Fz []) :: ERB rb rc rs :: EO eo :: DRB ob oc fs :: XH (W ++ V1) []) suT (by rw [List.append_nil]; exact wk_nd) ?_
 refine gg 8 ?_
 refine za rfl rfl rfl (sevents_ok ob oc fs (fun d hd => by obtain ⟨_, _, h⟩ := hf.fd d hd; exact ⟨h.k, h.tg, h.sty.two⟩) omT) ?_
 rintro _ _ ⟨sb2, sc2, ss, rfl, rfl, hss, hs1, hs2⟩
 refine lS ?_
 rw [← hss] at heqs
 refine za rfl rfl rfl (ndSame_ok (W ++ V1) rb rc sb2 sc2 rs ss heqs (ers11 hers) (by rw [hss]; exact noEl) omT omT hr1 hs1) ?_
 rintro _ _ ⟨rfl, rfl⟩
 refine gg 5 ?_
 exact zm (H' := EO eo :: XH V []) rfl rfl (Wk.subset (fun x hx => (by
 rcases List.mem_cons.1 hx with rfl | hx
 · simp
 · have : x ∈ V := by simpa [XH, VH, JH] using hx
   exact List.mem_append_left _ (List.mem_append_left _ (hW x this)))) hnd) ⟨rfl, rfl⟩
theorem ndRead0_ok (V : VL) (s : Sl) (hpk : PKS s V) (eo : Obj) (ev : Value) (hE : EOo eo ev) (hnd : ((EO eo :: XH V []).map (·.1)).Nodup) :
   Fn prog 5 [zS, s.v] (EO eo :: XH V []) (fun v H' => v = .bool true ∧ H' = EO eo :: XH V []) := by
 refine zo func5 rfl rfl rfl ?_
 intro w
 refine gg 8 ?_
 refine za rfl rfl rfl (fit0_ok V) ?_
 rintro _ _ ⟨rfl, rfl⟩
 refine gg 7 ?_
 refine sqz (zu (l := [_, _]) (zs := [zS, zI]) [0, 1] rfl rfl kR) (ku rfl rfl rfl clT ?_)
 intro pb
 refine za rfl rfl rfl (stream0_ok pb s V hpk 0 (Nat.zero_le _)) ?_
 rintro _ _ ⟨a1, X, rfl, rfl, hX, hXl⟩
 obtain ⟨qs, hst, hrl, hqt⟩ := strx_stream hX ⟨by simp, by simp, by simp⟩
 have hqd := hrl.docs
 have hql : qs.length ≤ 3 := by have := hrl.len; rw [this]; simp
 obtain ⟨p, f, hstr, hp1, hal⟩ := stream_str hst hqd hql
 have hasc := (stream_le hst (fun d hd => (hqd d hd).dir.len) hql).2
 refine lS ?_
 refine s_sbytes underlying9 underlying23 underlying5 rfl rfl rfl ?_
 intro ib cap m g hg1 hg2 hg3
 rw [kF] at hg1 hg3
 rw [kF]
 rw [inF_self (T := X) (f := g) (fun j hj => by have := hg3 j hj; rw [sbl_sb (asc256 hasc)] at this; exact this)]
 refine za rfl rfl rfl (events_ok [] X p f _ qs hstr hp1 hal rfl hqd hql hqt hasc omT ib m cap g eo ev ⟨hg1, hg2⟩ hE.cell hE.if_ hE.eq) ?_
 rintro _ _ ⟨rb, rc, rs, W, rfl, rfl, hers, hr1, hr2⟩
 refine lS ?_
 refine gg 3 ?_
 refine zk rfl rfl clT ?_
 intro fb
 refine sas ?_
 first | refine stw rfl rfl ?_ | refine sts rfl rfl ?_
 refine ze ?_
 refine zf ?_
 have hW : ∀ y ∈ V, y ∈ W ++ V := fun y hy => List.mem_append_right _ hy
 have heqs : EQs (W ++ V) rs (erX 1 :: (evD [] ++ [erX 2])) := (docs_ea hrl).eqs hers
 have hrsl : rs.length = 2 := by rw [heqs.1]; rfl
 refine kq (E' := [(0, zS), (5, .slice (some ⟨rb, 0, none⟩) rs.length rc), (6, pV fb)]) (H' := (fb, .cs 37 Fz []) :: ERB rb rc rs :: EO eo :: XH (W ++ V) []) suT (by rw [List.append_nil]; exact wk_nd0) ?_
 refine gg 8 ?_
 refine za rfl rfl rfl (sevents0_ok) ?_
 rintro _ _ ⟨sb2, sc2, ss, rfl, rfl, hss, hs1, hs2⟩
 refine lS ?_
 rw [← hss] at heqs
 refine za rfl rfl rfl (ndSame_ok (W ++ V) rb rc sb2 sc2 rs ss heqs (ers11 hers) (by rw [hss]; exact noEl) omT omT hr1 hs1) ?_
 rintro _ _ ⟨rfl, rfl⟩
 refine gg 5 ?_
 exact zm (H' := EO eo :: XH V []) rfl rfl (Wk.subset (fun x hx => (by
 rcases List.mem_cons.1 hx with rfl | hx
 · simp
 · have : x ∈ V := by simpa [XH, VH, JH] using hx
   exact List.mem_append_left _ (List.mem_append_left _ (hW x this)))) hnd) ⟨rfl, rfl⟩
def RDoc (V : VL) (s : Sl) : Prop := s.n ≤ 9223372036854775807 ∧ ∀ i, i < s.n → ∃ b off o d, s.u = some ⟨b, off, none⟩ ∧ (b, .raw o) ∈ V ∧ (∀ j, j < 13 → qz o (off + i * 13 + j) = (drC d)[j]?) ∧ (∀ c ∈ d.va, c < 256) ∧ d.va.length ≤ 9223372036854775807 ∧ RStr V d.hs ∧ RStr V d.ps
section
variable {P : Program} {n : Nat} {ds : List Deferred} {pu : Bool} {w0 : World} {D : List Nat} {H : zl} {E : Env}
variable {d : Option Nat} {ty : TypeId} {ps : String} {af : Array Edge} {g : Option (Nat × Bool)} {x y : Operand}
theorem q_ldro {t b i m : Nat} {o : Obj} {l : List Value} [ht : qR P t m] (h : opv E x = some (.pointer (some ⟨b, i, none⟩))) [hh : Has H b (.raw o)] (hl : l.length = m) (hv : ∀ j, j < m → qz o (i + j) = l[j]?) :
  Q1 P n ds pu w0 D H E ⟨d, .load t x, ty, ps, af, g⟩ (.agg l.toArray) := by
 intro a w he hw
 obtain ⟨o', ho', hk⟩ := hw.hok.ok _ _ hh.mem
 simp only [Blk.ok, Blk.isRaw] at hk
 subst hk
 obtain ⟨dd, ii, _, _, h5, h6⟩ := ht.is
 have := run_loadCells_list (P := P) (w := w) (⟨b, i, none⟩ : Addr) l (fun j v hj => by
  have hj' : j < l.length := (List.getElem?_eq_some_iff.1 hj).1
  have hc := hv j omT
  rw [hj] at hc
  rw [kN]
  cases o' <;> simp [qz] at hc
  simp [World.cell?, ho', hc])
 rw [hl] at this
 simp [execOp, he.eval h, Instr.loadAt, Instr.sureAddr, loadVar, kO, zX h5, h6, this]
end
abbrev fI (va : List Nat) (ex en ver : Bool) (maj min : Int) (h p : Sl) : DR := ⟨1, va, [], [], 1, Sl.nil, ex, en, ver, maj, min, h, p⟩
theorem fnDocumentsRead_ok (V : VL) (dsl s : Sl) (hd : RDoc V dsl) (hs : s.n ≤ 2147483647 → PKS s V) (eo : Obj) (ev : Value) (hE : EOo eo ev) (hnd : ((EO eo :: XH V []).map (·.1)).Nodup) :
  Fn prog 3 [dsl.v, s.v] (EO eo :: XH V []) (fun v H' => v = .bool true ∧ H' = EO eo :: XH V []) := by
 obtain ⟨du, dn, dc⟩ := dsl
 obtain ⟨hdn, hd⟩ := hd
 dsimp only at hdn hd
 refine zo func3 rfl rfl rfl ?_
 intro w
 refine gg 6 ?_
 by_cases hb1 : 2147483647 < dn
 ·
  refine gg 20 ?_
  exact zm (H' := EO eo :: XH V []) rfl rfl (Wk.refl _) ⟨rfl, rfl⟩
 ·
  refine gg 8 ?_
  by_cases hb2 : 2147483647 < s.n
  ·
   refine gg 12 ?_
   exact zm (H' := EO eo :: XH V []) rfl rfl (Wk.refl _) ⟨rfl, rfl⟩
  ·
   refine gg 19 ?_
   refine zw (σ := Nat × Option (Nat × Nat) × List DR) (fun x => [(0, .slice du dn dc), (1, s.v), (5, (TSS x.2.1 x.1).v), (6, .int .i64 (x.1 : Nat))]) (fun x => EO eo :: (DOH x.2.1 x.2.2 ++ XH V [])) (fun x => x.1 ≤ 3 ∧ x.1 ≤ dn ∧ x.2.2.length = x.1 ∧ FOK x.2.1 x.1 ∧ ∀ d ∈ x.2.2, FI V d) (fun x => 3 - x.1) (0, none, []) ⟨by dsimp only; omega, by dsimp only; omega, rfl, .inl ⟨rfl, rfl⟩, by simp⟩ suT (Wk.refl _) ?_
   rintro ⟨i, oo, ls⟩ ⟨hi3, hin, hl, ho, hls⟩
   dsimp only at hi3 hin hl ho hls
   refine zt (EO eo :: (DOH oo ls ++ XH V [])) [(0, .slice du dn dc), (1, s.v), (5, (TSS oo i).v), (6, .int .i64 (i : Nat))] rfl rfl (zd ?_)
   by_cases hlt : i < dn
   ·
    refine gg 8 ?_
    by_cases hlt3 : i < 3
    ·
     refine gg 4 ?_
     obtain ⟨b, off, o, d, rfl, hm, hc, hva, hval, hH, hP⟩ := hd i hlt
     obtain ⟨dk, dva, dan, dtg, dsty, dkids, dex, den, dver, dmaj, dmin, dhs, dps⟩ := d
     dsimp only at hva hval hH hP
     haveI : Has (EO eo :: (DOH oo ls ++ XH V [])) b (.raw o) := ⟨List.mem_cons_of_mem _ (List.mem_append_right _ (List.mem_append_left _ hm))⟩
     have hlen : (drL ls).length = i * 13 := by rw [drL_length, hl]
     refine gg 9 ?_
     refine sqz (zy (i := i) rfl rfl rfl omT rfl) (sqz (q_ldro (l := drC ⟨dk, dva, dan, dtg, dsty, dkids, dex, den, dver, dmaj, dmin, dhs, dps⟩) rfl rfl hc) (zk rfl rfl clT ?_))
     intro b7
     first | refine stw rfl rfl ?_ | refine sts rfl rfl ?_
     refine gg 7 ?_
     refine za rfl rfl rfl (ndName_ok dva hva hval) ?_
     rintro _ _ ⟨nm, rfl, rfl, hnm⟩
     simp only [List.nil_append]
     refine sqz (zu (l := [_, _, _, _, _, _]) (zs := [zI, .string ⟨#[]⟩, .string ⟨#[]⟩, .string ⟨#[]⟩, zI, zS]) [0, 1, 2, 3, 4, 5] rfl rfl kR) (sfa ?_)
     first | refine stw rfl rfl ?_ | refine sts rfl rfl ?_
     refine ze ?_
     refine zf ?_
     have hFI : FI V (fI nm dex den dver dmaj dmin dhs dps) := ⟨rfl, rfl, rfl, rfl, rfl, hnm, hH, hP⟩
     refine zA b7 (.cs 29 (drC (fI nm dex den dver dmaj dmin dhs dps)) []) (Blk.like_rec kR) ?_
     rcases ho with ⟨h0, rfl⟩ | ⟨hi0, ob, oc, rfl, ho1, ho2⟩
     ·
      subst h0
      obtain rfl : ls = [] := List.eq_nil_of_length_eq_zero hl
      refine kq (E' := [(0, .slice (some ⟨b, off, none⟩) dn dc), (1, s.v), (5, zS), (6, .int .i64 (0 : Nat)), (7, pV b7)]) (H' := (b7, .cs 29 (drC (fI nm dex den dver dmaj dmin dhs dps)) []) :: EO eo :: XH V []) suT (Wk.refl _) (zi (smv ?_))
      refine sqz (zG (l := drC (fI nm dex den dver dmaj dmin dhs dps)) rfl rfl rfl kR) (s_bsw (sz := 13) (l := drC (fI nm dex den dver dmaj dmin dhs dps)) rfl rfl rfl rfl rfl rfl rfl ?_)
      intro s1
      refine kr (sz := 13) (bs := 160) (news := drC (fI nm dex den dver dmaj dmin dhs dps)) rfl rfl rfl rfl rfl (zN (k := .cs 29 (drC (fI nm dex den dver dmaj dmin dhs dps)) []) (Nat.le_refl _) (Nat.le_refl _) (fun j u hj => by simp only [Blk.cell, look, nth, Nat.zero_add]; exact hj)) rfl (by decide) (by decide) (by decide) ?_
      intro b2 c2 g1 g2
      refine gg 9 ?_
      exact zh (1, some (b2, c2), [fI nm dex den dver dmaj dmin dhs dps]) ⟨omT, omT, rfl, .inr ⟨omT, b2, c2, rfl, g1, g2⟩, by simpa using hFI⟩ omT suT (Wk.toT (XH V []) [0, b2] (by exact ⟨rfl, .inl rfl, rfl, .inl rfl, rfl⟩))
     ·
      refine kq (E' := [(0, .slice (some ⟨b, off, none⟩) dn dc), (1, s.v), (5, .slice (some ⟨ob, 0, none⟩) i oc), (6, .int .i64 (i : Nat)), (7, pV b7)]) (H' := (b7, .cs 29 (drC (fI nm dex den dver dmaj dmin dhs dps)) []) :: EO eo :: DRB ob oc ls :: XH V []) suT (Wk.refl _) ?_
      refine zi (smv ?_)
      refine sqz (zG (l := drC (fI nm dex den dver dmaj dmin dhs dps)) rfl rfl rfl kR) (s_bsw (sz := 13) (l := drC (fI nm dex den dver dmaj dmin dhs dps)) rfl rfl rfl rfl rfl rfl rfl ?_)
      intro s1
      refine zY (b := ob) (n0 := i) (cap := oc) (sz := 13) (bs := 160) (news := drC (fI nm dex den dver dmaj dmin dhs dps)) rfl rfl rfl rfl rfl hlen ho1 ho2 rfl (zN (k := .cs 29 (drC (fI nm dex den dver dmaj dmin dhs dps)) []) (Nat.le_refl _) (Nat.le_refl _) (fun j u hj => by simp only [Blk.cell, look, nth, Nat.zero_add]; exact hj)) rfl (drC_one _) omT omT ?_
      intro b2 c2 g1 g2
      refine gg 9 ?_
      exact zh (i + 1, some (b2, c2), ls ++ [fI nm dex den dver dmaj dmin dhs dps]) ⟨omT, omT, by simp; omega, .inr ⟨omT, b2, c2, rfl, g1, g2⟩, (by intro d hdm; rcases List.mem_append.1 hdm with hdm | hdm; (exact hls d hdm); (rw [List.mem_singleton.1 hdm]; exact hFI))⟩ omT suT (Wk.toT (XH V []) [0, b2] (by exact ⟨rfl, .inl rfl, rfl, .inl (by rw [drL_app]; simp [drL]), rfl⟩))
    ·
     refine gg 10 ?_
     rcases ho with ⟨h0, rfl⟩ | ⟨hi0, ob, oc, rfl, ho1, ho2⟩
     ·
      refine kq (E' := [(1, s.v), (5, zS)]) (H' := EO eo :: XH V []) suT (Wk.refl _) (gg 4 ?_)
      refine za rfl rfl rfl (ndRead0_ok V s (hs omT) eo ev hE hnd) ?_
      rintro _ _ ⟨rfl, rfl⟩
      refine gg 4 ?_
      exact zm (H' := EO eo :: XH V []) rfl rfl (by rw [List.append_nil]; exact Wk.refl _) ⟨rfl, rfl⟩
     ·
      subst hl
      refine kq (E' := [(1, s.v), (5, .slice (some ⟨ob, 0, none⟩) ls.length oc)]) (H' := DRB ob oc ls :: EO eo :: XH V []) suT (Wk.perm (H := EO eo :: DRB ob oc ls :: XH V []) (List.Perm.swap ..)) (gg 4 ?_)
      refine za rfl rfl rfl (ndRead_ok V s (hs omT) ob oc ls hls omT omT eo ev hE hnd) ?_
      rintro _ _ ⟨rfl, rfl⟩
      refine gg 4 ?_
      exact zm (H' := EO eo :: XH V []) rfl rfl (by rw [List.append_nil]; exact Wk.refl _) ⟨rfl, rfl⟩
   ·
    refine gg 18 ?_
    rcases ho with ⟨h0, rfl⟩ | ⟨hi0, ob, oc, rfl, ho1, ho2⟩
    ·
     refine kq (E' := [(1, s.v), (5, zS)]) (H' := EO eo :: XH V []) suT (Wk.refl _) (gg 4 ?_)
     refine za rfl rfl rfl (ndRead0_ok V s (hs omT) eo ev hE hnd) ?_
     rintro _ _ ⟨rfl, rfl⟩
     refine gg 4 ?_
     exact zm (H' := EO eo :: XH V []) rfl rfl (by rw [List.append_nil]; exact Wk.refl _) ⟨rfl, rfl⟩
    ·
     subst hl
     refine kq (E' := [(1, s.v), (5, .slice (some ⟨ob, 0, none⟩) ls.length oc)]) (H' := DRB ob oc ls :: EO eo :: XH V []) suT (Wk.perm (H := EO eo :: DRB ob oc ls :: XH V []) (List.Perm.swap ..)) (gg 4 ?_)
     refine za rfl rfl rfl (ndRead_ok V s (hs omT) ob oc ls hls omT omT eo ev hE hnd) ?_
     rintro _ _ ⟨rfl, rfl⟩
     refine gg 4 ?_
     exact zm (H' := EO eo :: XH V []) rfl rfl (by rw [List.append_nil]; exact Wk.refl _) ⟨rfl, rfl⟩
end Go.Proofs.YtnfbcfflkphbiaaGreatDoor
