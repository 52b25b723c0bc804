/-
  Texts of the proof, joined: F47 F48 F49 F50. No Go text.
-/
import Derived.Test.YtnfbcfflkphbiaaGreatDoorA01
import Derived.Test.YtnfbcfflkphbiaaGreatDoorA08
import Derived.Test.YtnfbcfflkphbiaaGreatDoorA31
import Derived.Test.YtnfbcfflkphbiaaGreatDoorA30
namespace Go.Proofs.YtnfbcfflkphbiaaGreatDoor
open Go Go.Proofs Tryz
set_option linter.all false
set_option maxRecDepth 100000
set_option maxHeartbeats 8000000
def dts (hs ps : List (List Nat)) (ver : Bool) (r : Nat) : Nat → List Tk
 | 0 => []
 | i + 1 => dts hs ps ver r i ++ ((if ver = true ∧ i = r then [Tk.ver] else []) ++ (match hs[i]?, ps[i]? with | some h, some p => [Tk.tag h p] | _, _ => []))
theorem dts_le (hs ps : List (List Nat)) (ver : Bool) (r : Nat) : ∀ i, (dts hs ps ver r i).length ≤ 2 * i
 | 0 => by simp [dts]
 | i + 1 => by
  have ih := dts_le hs ps ver r i
  have h1 : (if ver = true ∧ i = r then [Tk.ver] else []).length ≤ 1 := by split <;> simp
  have h2 : (match hs[i]?, ps[i]? with | some h, some p => [Tk.tag h p] | _, _ => ([] : List Tk)).length ≤ 1 := by split <;> simp
  simp only [dts, List.length_append]
  omega
theorem DirsT.app {a b : List Tk} {x y : List Nat} (h : DirsT a x) (h' : DirsT b y) : DirsT (a ++ b) (x ++ y) := by
 induction h with
 | nil => exact h'
 | cons h _ ih => rw [List.append_assoc]; exact .cons h ih
theorem DirsT.one {t : Tk} {x : List Nat} (h : DirT t x) : DirsT [t] x := by
 have := DirsT.cons h .nil
 simpa using this
structure FD (C : VL) (d : DR) (hs ps : List (List Nat)) : Prop where
 k : d.k = 1
 an : d.an = []
 tg : d.tg = []
 kids : d.kids = Sl.nil
 nm : NameT d.va
 sty : StyT d.va d.sty
 H : InStr C d.hs hs
 P : InStr C d.ps ps
 len : ps.length = hs.length
 le : hs.length ≤ 3
 hh : ∀ h ∈ hs, HanT h
 pp : ∀ p ∈ ps, PreT p
 nd : hs.Nodup
 ex : d.ex = false → d.ver = false ∧ hs = []
 ev : d.maj = (if d.ver then 1 else 0) ∧ d.min = (if d.ver then 1 else 0)
theorem directives_ok (sc pb : Nat) (hh pp : Sl) (s : Sl) (C : VL) (hpk : PKS s C) (d : DR) (hs ps : List (List Nat)) (hd : FD C d hs ps) (a : Nat) (ha : a ≤ s.n) :
  Fn prog 46 [pV sc, .agg (drC d).toArray] (SCB sc pb hh pp :: PKB pb s a :: XH C [])
   (fun v H' => ∃ (a' r : Nat) (x : List Nat), v = .string (sb x) ∧ H' = SCB sc pb hh pp :: PKB pb s a' :: XH C [] ∧ a' ≤ s.n ∧ r ≤ hs.length ∧ DirsT (dts hs ps d.ver r (hs.length + 1)) x) := by
 obtain ⟨_, _, _, _, _, _, hH, hP, hlp, hl3, hhan, hpre, _, _, _⟩ := hd
 have hln := InStr.len hH
 obtain ⟨dk, dva, dan, dtg, dsty, dkids, dex, den, dver, dmaj, dmin, ⟨hu, hn, hc⟩, dps⟩ := d
 dsimp only at hH hP hln
 subst hln
 refine zo func46 rfl rfl rfl ?_
 intro w
 refine zd (zi (ku rfl rfl rfl clT ?_))
 intro bx
 refine gg 9 ?_
 refine zU 8 zF kR (gg 9 ?_)
 refine za rfl rfl rfl (qL pb s C hpk a (hs.length + 1) ha omT omT) ?_
 rintro _ _ ⟨a1, r, rfl, rfl, ha1, hr⟩
 refine lS ?_
 refine gg 10 ?_
 refine zw (σ := Nat × Nat × List Nat) (fun x => [(0, pV sc), (3, pV bx), (5, .string (sb x.2.2)), (6, .int .i64 (r : Nat)), (7, .int .i64 (x.2.1 : Nat))]) (fun x => (bx, .cs 29 (drC ⟨dk, dva, dan, dtg, dsty, dkids, dex, den, dver, dmaj, dmin, ⟨hu, hs.length, hc⟩, dps⟩) []) :: SCB sc pb hh pp :: PKB pb s x.1 :: XH C []) (fun x => x.1 ≤ s.n ∧ x.2.1 ≤ hs.length + 1 ∧ DirsT (dts hs ps dver r x.2.1) x.2.2) (fun x => hs.length + 1 - x.2.1) (a1, 0, []) ⟨ha1, Nat.zero_le _, .nil⟩ suT (Wk.toT (XH C []) [bx, sc, pb] wlT) ?_
 rintro ⟨a, i, X⟩ ⟨ha, hi, hX⟩
 dsimp only at ha hi hX
 have hXl : X.length ≤ 4000 := by have h1 := hX.le.1; have h2 := dts_le hs ps dver r i; omega
 refine zt ((bx, .cs 29 (drC ⟨dk, dva, dan, dtg, dsty, dkids, dex, den, dver, dmaj, dmin, ⟨hu, hs.length, hc⟩, dps⟩) []) :: SCB sc pb hh pp :: PKB pb s a :: XH C []) [(0, pV sc), (3, pV bx), (5, .string (sb X)), (6, .int .i64 (r : Nat)), (7, .int .i64 (i : Nat))] rfl rfl ?_
 refine zd ?_
 by_cases hlt : i ≤ hs.length
 ·
  refine gg 14 ?_
  refine zL (σ := Nat × List Nat) (fun x => [(0, pV sc), (3, pV bx), (5, .string (sb x.2)), (6, .int .i64 (r : Nat)), (7, .int .i64 (i : Nat))]) (fun x => (bx, .cs 29 (drC ⟨dk, dva, dan, dtg, dsty, dkids, dex, den, dver, dmaj, dmin, ⟨hu, hs.length, hc⟩, dps⟩) []) :: SCB sc pb hh pp :: PKB pb s x.1 :: XH C []) (fun x => x.1 ≤ s.n ∧ DirsT (dts hs ps dver r i ++ (if dver = true ∧ i = r then [Tk.ver] else [])) x.2 ∧ x.2.length ≤ 8000) ?_ ?_
  ·
   refine gg 4 ?_
   by_cases her : i = r
   ·
    refine gg 3 ?_
    rcases dver with _ | _
    ·
     refine sqz (zp (v := .bool false) rfl rfl rfl rfl) (gg 5 ?_)
     exact zg (a, X) ⟨ha, by simpa using hX, by dsimp only; omega⟩ suT (Wk.refl _)
    ·
     refine sqz (zp (v := .bool true) rfl rfl rfl rfl) (gg 10 ?_)
     refine za rfl rfl rfl (qQ pb s C hpk a 1 2 ha omT omT) ?_
     rintro _ _ ⟨a2, k, rfl, rfl, ha2, hk1, hk2⟩
     refine lS ?_
     refine sqz (zT (X := [37, 89, 65, 77, 76]) (Y := sps k) rfl rfl lnZ) (sqz (zT (X := [37, 89, 65, 77, 76] ++ sps k) (Y := [49, 46, 49]) rfl rfl lnZ) (smv ?_))
     refine za rfl rfl rfl (end_ok sc pb hh pp s C hpk a2 ha2) ?_
     rintro _ _ ⟨a3, e, rfl, rfl, ha3, he⟩
     have hel := he.line.le.1
     refine lS ?_
     refine sqz (zT (X := [37, 89, 65, 77, 76] ++ sps k ++ [49, 46, 49]) (Y := e) rfl rfl lnZ) (smv ?_)
     refine za rfl rfl rfl (lines_ok sc pb hh pp s C hpk a3 ha3) ?_
     rintro _ _ ⟨a4, ls, rfl, rfl, ha4, hls⟩
     have hll := hls.le.1
     refine lS ?_
     refine sqz (zT (X := [37, 89, 65, 77, 76] ++ sps k ++ [49, 46, 49] ++ e) (Y := ls) rfl rfl lnZ) (sqz (zT (X := X) (Y := [37, 89, 65, 77, 76] ++ sps k ++ [49, 46, 49] ++ e ++ ls) rfl rfl lnZ) (sas ?_))
     refine ze ?_
     exact zg (a4, X ++ ([37, 89, 65, 77, 76] ++ sps k ++ [49, 46, 49] ++ e ++ ls)) ⟨ha4, hX.app (by have := DirsT.one (DirT.ver (k := k) ⟨by omega, by omega⟩ he hls); simpa [her] using this), by simp; omega⟩ suT (Wk.toT (XH C []) [bx, sc, pb] wlT)
   ·
    refine gg 9 ?_
    exact zg (a, X) ⟨ha, by rw [if_neg (fun h => her h.2)]; simpa using hX, by dsimp only; omega⟩ suT (Wk.refl _)
  ·
   rintro ⟨a2, X2⟩ ⟨ha2, hX2, hX2l⟩
   dsimp only at ha2 hX2 hX2l
   refine zt ((bx, .cs 29 (drC ⟨dk, dva, dan, dtg, dsty, dkids, dex, den, dver, dmaj, dmin, ⟨hu, hs.length, hc⟩, dps⟩) []) :: SCB sc pb hh pp :: PKB pb s a2 :: XH C []) [(0, pV sc), (3, pV bx), (5, .string (sb X2)), (6, .int .i64 (r : Nat)), (7, .int .i64 (i : Nat))] rfl rfl ?_
   by_cases hlt2 : i < hs.length
   ·
    refine gg 9 ?_
    obtain ⟨hb, hcc, e1, hm1⟩ := InStr.blk hH omT
    cases e1
    obtain ⟨pb2, pc2, rfl, hm2⟩ := InStr.blk hP omT
    obtain ⟨h, hhi⟩ : ∃ h, hs[i]? = some h := ⟨hs[i], List.getElem?_eq_getElem hlt2⟩
    obtain ⟨p, hpi⟩ : ∃ p, ps[i]? = some p := ⟨ps[i]'omT, List.getElem?_eq_getElem omT⟩
    have hhT := hhan h (List.mem_of_getElem? hhi)
    have hpT := hpre p (List.mem_of_getElem? hpi)
    have hhl := hhT.le.1
    have hpl := hpT.2.1
    refine ev_cond1 rfl ?_
    refine ke (fun i => i == 5 || i == 17 || i == 26 || i == 29) (fun _ => false) ((bx, .cs 29 (drC ⟨dk, dva, dan, dtg, dsty, dkids, dex, den, dver, dmaj, dmin, ⟨some ⟨hb, 0, none⟩, hs.length, hc⟩, ⟨some ⟨pb2, 0, none⟩, ps.length, pc2⟩⟩) []) :: SCB sc pb hh pp :: XH C []) zF ?_
    refine mqh 0 rfl kR rfl rfl (fun _ => zj rfl) ?_
    refine mq 1 rfl kR rfl rfl (zj rfl) ?_
    refine mq 2 rfl kR rfl rfl (zJ rfl) ?_
    refine mq 3 rfl kR rfl rfl (zM rfl) ?_
    refine mq 4 rfl kR rfl rfl (zp rfl rfl rfl rfl) ?_
    refine mqh 7 rfl kR rfl rfl (fun _ => zM rfl) ?_
    refine mqh 8 rfl kR rfl rfl (fun _ => zp rfl rfl rfl rfl) ?_
    refine mqh 9 rfl kR rfl rfl (fun _ => zj rfl) ?_
    refine mqh 10 rfl kR rfl rfl (fun _ => zy (i := i) rfl rfl rfl omT rfl) ?_
    refine mqh 11 rfl kR rfl rfl (fun _ => q_ldbf (hh := ⟨List.mem_cons_of_mem _ (List.mem_cons_of_mem _ (List.mem_append_left _ hm1))⟩) (i := i) rfl omT (strs_get hhi)) ?_
    refine mqh 13 rfl kR rfl rfl (fun _ => zj rfl) ?_
    refine mqh 14 rfl kR rfl rfl (fun _ => zJ rfl) ?_
    refine mqh 15 rfl kR rfl rfl (fun _ => zM rfl) ?_
    refine mqh 16 rfl kR rfl rfl (fun _ => zp rfl rfl rfl rfl) ?_
    refine mqh 19 rfl kR rfl rfl (fun _ => zM rfl) ?_
    refine mqh 20 rfl kR rfl rfl (fun _ => zp rfl rfl rfl rfl) ?_
    refine mqh 21 rfl kR rfl rfl (fun _ => zj rfl) ?_
    refine mqh 22 rfl kR rfl rfl (fun _ => zy (i := i) rfl rfl rfl omT rfl) ?_
    refine mqh 23 rfl kR rfl rfl (fun _ => q_ldbf (hh := ⟨List.mem_cons_of_mem _ (List.mem_cons_of_mem _ (List.mem_append_left _ hm2))⟩) (i := i) rfl omT (strs_get hpi)) ?_
    refine mqh 25 rfl kR rfl rfl (fun _ => zj rfl) ?_
    refine mqh 28 rfl kR rfl rfl (fun _ => zj rfl) ?_
    refine mql 5 rfl kR (fun hcl => ?_)
    refine za rfl rfl rfl (qQ pb s C hpk a2 1 2 ha2 omT omT) ?_
    rintro _ _ ⟨a3, k, rfl, rfl, ha3, hk1, hk2⟩
    refine lS ?_
    refine mqn 5 hcl ?_
    refine mqh 6 rfl kR rfl rfl (fun _ => zT (X := [37, 84, 65, 71]) (Y := sps k) rfl rfl lnZ) ?_
    refine mqh 12 rfl kR rfl rfl (fun _ => zT (X := [37, 84, 65, 71] ++ sps k) (Y := h) rfl rfl lnZ) ?_
    refine mql 17 rfl kR (fun hcl => ?_)
    refine za rfl rfl rfl (qQ pb s C hpk a3 1 2 ha3 omT omT) ?_
    rintro _ _ ⟨a4, j, rfl, rfl, ha4, hj1, hj2⟩
    refine lS ?_
    refine mqn 17 hcl ?_
    refine mqh 18 rfl kR rfl rfl (fun _ => zT (X := [37, 84, 65, 71] ++ sps k ++ h) (Y := sps j) rfl rfl lnZ) ?_
    refine mqh 24 rfl kR rfl rfl (fun _ => zT (X := [37, 84, 65, 71] ++ sps k ++ h ++ sps j) (Y := p) rfl rfl lnZ) ?_
    refine mql 26 rfl kR (fun hcl => ?_)
    refine za rfl rfl rfl (end_ok sc pb hh pp s C hpk a4 ha4) ?_
    rintro _ _ ⟨a5, e, rfl, rfl, ha5, he⟩
    have hel := he.line.le.1
    refine lS ?_
    refine mqn 26 hcl ?_
    refine mqh 27 rfl kR rfl rfl (fun _ => zT (X := [37, 84, 65, 71] ++ sps k ++ h ++ sps j ++ p) (Y := e) rfl rfl lnZ) ?_
    refine mql 29 rfl kR (fun hcl => ?_)
    refine za rfl rfl rfl (lines_ok sc pb hh pp s C hpk a5 ha5) ?_
    rintro _ _ ⟨a6, ls, rfl, rfl, ha6, hls⟩
    have hll := hls.le.1
    refine lS ?_
    refine mqn 29 hcl (mq 30 rfl kR rfl rfl (zT (X := [37, 84, 65, 71] ++ sps k ++ h ++ sps j ++ p ++ e) (Y := ls) rfl rfl lnZ) ?_)
    refine mq 31 rfl kR rfl rfl (zT (X := X2) (Y := [37, 84, 65, 71] ++ sps k ++ h ++ sps j ++ p ++ e ++ ls) rfl rfl lnZ) ?_
    refine mq 32 rfl kR rfl rfl (kB rfl) ?_
    refine qJ kR (gg 7 ?_)
    exact zh (a6, i + 1, X2 ++ ([37, 84, 65, 71] ++ sps k ++ h ++ sps j ++ p ++ e ++ ls)) ⟨ha6, omT, (by dsimp only [dts]; rw [hhi, hpi, ← List.append_assoc]; refine hX2.app ?_; have := DirsT.one (DirT.tag (k := k) (j := j) ⟨by omega, by omega⟩ hhT ⟨by omega, by omega⟩ hpT he hls); simpa using this)⟩ omT suT (Wk.toT (XH C []) [bx, sc, pb] wlT)
   ·
    refine gg 18 ?_
    exact zh (a2, i + 1, X2) ⟨ha2, omT, (by dsimp only [dts]; rw [List.getElem?_eq_none (by omega : hs.length ≤ i)]; simpa using hX2)⟩ omT suT (Wk.toT (XH C []) [bx, sc, pb] wlT)
 ·
  refine gg 9 ?_
  obtain rfl : i = hs.length + 1 := by omega
  refine gg 13 ?_
  exact zm (H' := SCB sc pb hh pp :: PKB pb s a :: XH C []) rfl rfl (Wk.toT (XH C []) [sc, pb] wlT) ⟨a, r, X, rfl, rfl, ha, by omega, hX⟩
theorem doc_ok (sc pb : Nat) (hh pp : Sl) (s : Sl) (C : VL) (hpk : PKS s C) (d : DR) (hs ps : List (List Nat)) (hd : FD C d hs ps) (a : Nat) (ha : a ≤ s.n) :
  Fn prog 21 [pV sc, .agg (drC d).toArray] (SCB sc pb hh pp :: PKB pb s a :: XH C [])
   (fun v H' => ∃ (a' r : Nat) (x : List Nat), v = .string (sb x) ∧ H' = SCB sc pb d.hs d.ps :: PKB pb s a' :: XH C [] ∧ a' ≤ s.n ∧ r ≤ hs.length ∧ BodyT d.va d.ex (dts hs ps d.ver r (hs.length + 1)) x ∧ x.length ≤ 6000) := by
 have hd0 := hd
 obtain ⟨dk, dva, dan, dtg, dsty, dkids, dex, den, dver, dmaj, dmin, dhs, dps⟩ := d
 obtain ⟨hk, han, htg, hkd, hnm, hsty, _, _, _, hl3, _, _, _, hexf, _⟩ := hd
 dsimp only at hk han htg hkd hnm hsty hexf
 subst hk han htg hkd
 refine zo func21 rfl rfl rfl ?_
 intro w
 refine zd (zi (ku rfl rfl rfl clT ?_))
 intro bx
 refine gg 3 ?_
 refine zL (σ := Unit) (fun _ => [(0, pV sc), (3, pV bx)]) (fun _ => (bx, .cs 29 (drC ⟨1, dva, [], [], dsty, Sl.nil, dex, den, dver, dmaj, dmin, dhs, dps⟩) []) :: SCB sc pb dhs dps :: PKB pb s a :: XH C []) (fun _ => True) ?_ ?_
 ·
  refine ke (fun i => i == 8 || i == 11) (fun i => i == 11) ([(bx, .cs 29 (drC ⟨1, dva, [], [], dsty, Sl.nil, dex, den, dver, dmaj, dmin, dhs, dps⟩) [])]) zF ?_
  refine mq 0 rfl kR rfl rfl (zj rfl) ?_
  refine mqh 1 rfl kR rfl rfl (fun _ => zj rfl) ?_
  refine mq 2 rfl kR rfl rfl (zM rfl) ?_
  refine mq 3 rfl kR rfl rfl (zp rfl rfl rfl rfl) ?_
  refine mqh 4 rfl kR rfl rfl (fun _ => zM rfl) ?_
  refine mqh 5 rfl kR rfl rfl (fun _ => zp rfl rfl rfl rfl) ?_
  refine mq 6 rfl kR rfl rfl (zJ rfl) ?_
  refine mq 7 rfl kR rfl rfl (zM rfl) ?_
  refine mql 8 rfl kR (fun hcl => ?_)
  refine st1 rfl rfl ?_
  refine mqn 8 hcl (mq 9 rfl kR rfl rfl (zJ rfl) ?_)
  refine mq 10 rfl kR rfl rfl (zM rfl) ?_
  refine mql 11 rfl kR (fun hcl => ?_)
  refine st1 rfl rfl ?_
  refine zO 11 rfl kR ?_
  exact zg () trivial suT (Wk.toT (XH C []) [bx, sc, pb] wlT)
 ·
  rintro ⟨⟩ _
  refine gg 3 ?_
  refine sqz (zG (l := TR dva dsty) rfl rfl rfl kR) (zk rfl rfl clT ?_)
  intro b5
  first | refine stw rfl rfl ?_ | refine sts rfl rfl ?_
  refine ze ?_
  refine zf (zA b5 (.cs 26 (TR dva dsty) []) (Blk.like_rec kR) (zd ?_))
  rcases dex with _ | _
  ·
   refine gg 3 ?_
   refine sqz (zp (v := .bool false) rfl rfl rfl rfl) (ze ?_)
   refine zf ?_
   obtain ⟨hv0, hs0⟩ := hexf rfl
   subst hv0 hs0
   have hps0 : ps = [] := List.eq_nil_of_length_eq_zero hd0.len
   subst hps0
   refine gg 6 ?_
   refine sqz (zG (l := TR dva dsty) rfl rfl rfl kR) (za rfl rfl rfl (block_ok dva dsty) ?_)
   rintro _ _ ⟨rfl, rfl⟩
   simp only [List.nil_append]
   refine gg 10 ?_
   refine za rfl rfl rfl (qQ pb s C hpk a 0 2 ha omT omT) ?_
   rintro _ _ ⟨a1, k, rfl, rfl, ha1, hk1, hk2⟩
   refine lS ?_
   refine gg 6 ?_
   refine sqz (zG (l := TR dva dsty) rfl rfl rfl kR) (za rfl rfl rfl (node_ok sc pb dhs dps dva hnm dsty hsty s C hpk a1 ha1) ?_)
   rintro _ _ ⟨a6, x, rfl, rfl, ha6, hx⟩
   have hxl := (hx.le hnm).1
   refine lS ?_
   refine gg 11 ?_
   refine sqz (zG (l := TR dva dsty) rfl rfl rfl kR) (smv ?_)
   refine za rfl rfl rfl (finish_ok sc pb dhs dps s C hpk a6 ha6 dva dsty hsty.two x omT) ?_
   rintro _ _ ⟨a7, e2, rfl, rfl, ha7, he2⟩
   have hel2 := he2.line.le.1
   refine lS ?_
   refine sqz (zT (X := sps k) (Y := x ++ e2) rfl rfl lnZ) (gg 5 ?_)
   exact zm (H' := SCB sc pb dhs dps :: PKB pb s a7 :: XH C []) rfl rfl (Wk.toT (XH C []) [sc, pb] wlT) ⟨a7, 0, sps k ++ (x ++ e2), rfl, rfl, ha7, Nat.zero_le _, .imp omT hx he2, by simp; omega⟩
  ·
   refine gg 3 ?_
   refine sqz (zp (v := .bool true) rfl rfl rfl rfl) (gg 4 ?_)
   refine ke (fun i => i == 2 || i == 6) (fun _ => false) ([(bx, .cs 29 (drC ⟨1, dva, [], [], dsty, Sl.nil, true, den, dver, dmaj, dmin, dhs, dps⟩) []), (b5, .cs 26 (TR dva dsty) []), SCB sc pb dhs dps]) zF ?_
   refine mq 0 rfl kR rfl rfl (zj rfl) ?_
   refine mq 1 rfl kR rfl rfl (zG (l := drC ⟨1, dva, [], [], dsty, Sl.nil, true, den, dver, dmaj, dmin, dhs, dps⟩) rfl rfl rfl kR) ?_
   refine mqh 4 rfl kR rfl rfl (fun _ => zj rfl) ?_
   refine mqh 5 rfl kR rfl rfl (fun _ => zG (l := TR dva dsty) rfl rfl rfl kR) ?_
   refine mql 2 rfl kR (fun hcl => ?_)
   refine za rfl rfl rfl (directives_ok sc pb dhs dps s C hpk _ hs ps hd0 a ha) ?_
   rintro _ _ ⟨a1, r, dx, rfl, rfl, ha1, hr, hdx⟩
   have hdl := hdx.le.1
   have hdl2 := dts_le hs ps dver r (hs.length + 1)
   have hdl3 : dx.length ≤ 4000 := Nat.le_trans hdl (by dsimp only; omega)
   refine lS ?_
   refine mqn 2 hcl ?_
   refine mqh 3 rfl kR rfl rfl (fun _ => zT (X := dx) (Y := [45, 45, 45]) rfl rfl lnZ) ?_
   refine mql 6 rfl kR (fun hcl => ?_)
   refine za rfl rfl rfl (behind_ok sc pb dhs dps dva hnm dsty hsty s C hpk a1 ha1) ?_
   rintro _ _ ⟨a2, l, x, e, rfl, rfl, ha2, hl, hx, he⟩
   have hll := hl.le.1
   have hxl := (hx.le hnm).1
   have hel := he.line.le.1
   refine lS ?_
   refine mqn 6 hcl (mq 7 rfl kR rfl rfl (zT (X := dx ++ [45, 45, 45]) (Y := l ++ (x ++ e)) rfl rfl lnZ) ?_)
   refine mq 8 rfl kR rfl rfl (kB rfl) ?_
   refine qJ kR (gg 3 ?_)
   exact zm (H' := SCB sc pb dhs dps :: PKB pb s a2 :: XH C []) rfl rfl (Wk.toT (XH C []) [sc, pb] wlT) ⟨a2, r, dx ++ (45 :: 45 :: 45 :: (l ++ (x ++ e))), by simp, rfl, ha2, hr, .exp hdx hl hx he, by simp; omega⟩
inductive PcsT : List kP → List Nat → Prop
 | nil : PcsT [] []
 | cons {d : kP} {ds : List kP} {x y z : List Nat} (hb : BodyT d.nm d.ex d.dt x) (ht : TailT d.en y) (hz : PcsT ds z) : PcsT (d :: ds) (x ++ (y ++ z))
theorem PcsT.snoc {ds : List kP} {z : List Nat} (h : PcsT ds z) {d : kP} {x y : List Nat} (hb : BodyT d.nm d.ex d.dt x) (ht : TailT d.en y) : PcsT (ds ++ [d]) (z ++ (x ++ y)) := by
 induction h with
 | nil => simpa using PcsT.cons hb ht .nil
 | cons hb' ht' _ ih =>
  have := PcsT.cons hb' ht' ih
  simpa using this
structure Rl (C : VL) (d : DR) (q : kP) (hs ps : List (List Nat)) (r : Nat) : Prop where
 nm : q.nm = d.va
 ex : q.ex = d.ex
 en : q.en = d.en
 fd : FD C d hs ps
 hr : r ≤ hs.length
 dt : q.dt = dts hs ps d.ver r (hs.length + 1)
inductive RL (C : VL) : List DR → List kP → Prop
 | nil : RL C [] []
 | cons {d : DR} {q : kP} {ds : List DR} {qs : List kP} {hs ps : List (List Nat)} {r : Nat} (h : Rl C d q hs ps r) (k : RL C ds qs) : RL C (d :: ds) (q :: qs)
theorem RL.snoc {C : VL} {ds : List DR} {qs : List kP} (h : RL C ds qs) {d : DR} {q : kP} {hs ps : List (List Nat)} {r : Nat} (h1 : Rl C d q hs ps r) : RL C (ds ++ [d]) (qs ++ [q]) := by
 induction h with
 | nil => exact .cons h1 .nil
 | cons h _ ih => exact .cons h ih
def StrX (C : VL) (ds : List DR) (X : List Nat) : Prop := ∃ qs l x, X = l ++ x ∧ LinesT l ∧ RL C ds qs ∧ PcsT qs x
theorem StrX.snoc {C : VL} {ds : List DR} {X : List Nat} (h : StrX C ds X) {d : DR} {hs ps : List (List Nat)} {r : Nat} (hd : FD C d hs ps) (hr : r ≤ hs.length) {x y : List Nat} (hb : BodyT d.va d.ex (dts hs ps d.ver r (hs.length + 1)) x) (ht : TailT d.en y) : StrX C (ds ++ [d]) (X ++ (x ++ y)) := by
 obtain ⟨qs, l, z, rfl, hl, hq, hz⟩ := h
 exact ⟨qs ++ [⟨d.va, d.ex, d.en, dts hs ps d.ver r (hs.length + 1)⟩], l, z ++ (x ++ y), by rw [List.append_assoc], hl, hq.snoc ⟨rfl, rfl, rfl, hd, hr, rfl⟩, hz.snoc hb ht⟩
theorem stream0_ok (pb : Nat) (s : Sl) (C : VL) (hpk : PKS s C) (a : Nat) (ha : a ≤ s.n) :
  Fn prog 8 [zS, pV pb] (PKB pb s a :: XH C [])
   (fun v H' => ∃ (a' : Nat) (X : List Nat), v = .string (sb X) ∧ H' = PKB pb s a' :: XH C [] ∧ StrX C [] X ∧ X.length ≤ 100000) := by
 refine zo func8 rfl rfl rfl ?_
 intro w
 refine gg 8 ?_
 refine sqz (zu (l := [_, _, _]) (zs := [.pointer none, zS, zS]) [0, 1, 2] rfl rfl kR) (ku rfl rfl rfl clT ?_)
 intro sc
 refine gg 6 ?_
 refine za rfl rfl rfl (lines_ok sc pb Sl.nil Sl.nil s C hpk a ha) ?_
 rintro _ _ ⟨a1, l, rfl, rfl, ha1, hl⟩
 have hll := hl.le.1
 refine lS ?_
 refine gg 12 ?_
 refine zw (σ := Unit) (fun _ => [(6, .string (sb l)), (14, zS), (15, zI), (16, zI)]) (fun _ => PKB pb s a1 :: XH C []) (fun _ => True) (fun _ => 0) () trivial suT (Wk.toT (XH C []) [pb] wlT) ?_
 rintro ⟨⟩ _
 refine gg 19 ?_
 exact zm (H' := PKB pb s a1 :: XH C []) rfl rfl (Wk.refl _) ⟨a1, l, rfl, rfl, ⟨[], l, [], by simp, hl, .nil, .nil⟩, by omega⟩
theorem stream_ok (pb db dc : Nat) (s : Sl) (C : VL) (hpk : PKS s C) (ds : List DR) (hds : ∀ d ∈ ds, ∃ hs ps, FD C d hs ps) (hl : ds.length ≤ 3) (a : Nat) (ha : a ≤ s.n) :
  Fn prog 8 [.slice (some ⟨db, 0, none⟩) ds.length dc, pV pb] (DRB db dc ds :: PKB pb s a :: XH C [])
   (fun v H' => ∃ (a' : Nat) (X : List Nat), v = .string (sb X) ∧ H' = DRB db dc ds :: PKB pb s a' :: XH C [] ∧ StrX C ds X ∧ X.length ≤ 100000) := by
 refine zo func8 rfl rfl rfl ?_
 intro w
 refine gg 8 ?_
 refine sqz (zu (l := [_, _, _]) (zs := [.pointer none, zS, zS]) [0, 1, 2] rfl rfl kR) (ku rfl rfl rfl clT ?_)
 intro sc
 refine gg 6 ?_
 refine za rfl rfl rfl (lines_ok sc pb Sl.nil Sl.nil s C hpk a ha) ?_
 rintro _ _ ⟨a1, l, rfl, rfl, ha1, hl⟩
 have hll := hl.le.1
 refine lS ?_
 refine gg 12 ?_
 refine zw (σ := Nat × Nat × List Nat × Sl × Sl) (fun x => [(5, pV sc), (6, .string (sb x.2.2.1)), (14, .slice (some ⟨db, 0, none⟩) ds.length dc), (15, .int .i64 (ds.length : Nat)), (16, .int .i64 (x.2.1 : Nat))]) (fun x => DRB db dc ds :: SCB sc pb x.2.2.2.1 x.2.2.2.2 :: PKB pb s x.1 :: XH C []) (fun x => x.1 ≤ s.n ∧ x.2.1 ≤ ds.length ∧ StrX C (ds.take x.2.1) x.2.2.1 ∧ x.2.2.1.length ≤ 310 + 8000 * x.2.1) (fun x => ds.length - x.2.1) (a1, 0, l, Sl.nil, Sl.nil) ⟨ha1, Nat.zero_le _, ⟨[], l, [], by simp, hl, .nil, .nil⟩, by dsimp only; omega⟩ suT (Wk.toT (XH C []) [db, sc, pb] wlT) ?_
 rintro ⟨a, i, X, hh, pp⟩ ⟨ha, hi, hX, hXl⟩
 dsimp only at ha hi hX hXl
 refine zt (DRB db dc ds :: SCB sc pb hh pp :: PKB pb s a :: XH C []) [(5, pV sc), (6, .string (sb X)), (14, .slice (some ⟨db, 0, none⟩) ds.length dc), (15, .int .i64 (ds.length : Nat)), (16, .int .i64 (i : Nat))] rfl rfl ?_
 by_cases hlt : i < ds.length
 ·
  refine gg 5 ?_
  obtain ⟨d, hd⟩ : ∃ d, ds[i]? = some d := ⟨_, List.getElem?_eq_getElem hlt⟩
  obtain ⟨hs, ps, hfd⟩ := hds d (List.mem_of_getElem? hd)
  have htk : ds.take (i + 1) = ds.take i ++ [d] := by rw [List.take_add_one, hd]; rfl
  refine gg 8 ?_
  refine sqz (zy (i := i) rfl rfl rfl omT rfl) (sqz (q_lddr (i := i) rfl omT hd) (zk rfl rfl clT ?_))
  intro b8
  first | refine stw rfl rfl ?_ | refine sts rfl rfl ?_
  refine ze ?_
  refine zf (zA b8 (.cs 29 (drC d) []) (Blk.like_rec kR) (gg 4 ?_))
  refine sqz (zG (l := drC d) rfl rfl rfl kR) (za rfl rfl rfl (doc_ok sc pb hh pp s C hpk d hs ps hfd a ha) ?_)
  rintro _ _ ⟨a2, r, x, rfl, rfl, ha2, hr, hb, hxl⟩
  refine lS ?_
  refine sqz (zT (X := X) (Y := x) rfl rfl lnZ) (gg 3 ?_)
  rcases hen : d.en with _ | _
  ·
   refine gg 3 ?_
   refine sqz (zp (v := .bool false) rfl rfl rfl (by rw [← hen]; rfl)) ?_
   refine gg 10 ?_
   exact zh (a2, i + 1, X ++ x, d.hs, d.ps) ⟨ha2, omT, (by dsimp only; rw [htk]; have := hX.snoc hfd hr hb (by rw [hen]; exact TailT.none); simpa using this), by simp; omega⟩ omT suT (Wk.toT (XH C []) [db, sc, pb] wlT)
  ·
   refine gg 3 ?_
   refine sqz (zp (v := .bool true) rfl rfl rfl (by rw [← hen]; rfl)) ?_
   refine gg 6 ?_
   refine za rfl rfl rfl (end_ok sc pb d.hs d.ps s C hpk a2 ha2) ?_
   rintro _ _ ⟨a3, e, rfl, rfl, ha3, he⟩
   have hel := he.line.le.1
   refine lS ?_
   refine sqz (zT (X := [46, 46, 46]) (Y := e) rfl rfl lnZ) (smv ?_)
   refine za rfl rfl rfl (lines_ok sc pb d.hs d.ps s C hpk a3 ha3) ?_
   rintro _ _ ⟨a4, ls, rfl, rfl, ha4, hls⟩
   have hlsl := hls.le.1
   refine lS ?_
   refine sqz (zT (X := [46, 46, 46] ++ e) (Y := ls) rfl rfl lnZ) (sqz (zT (X := X ++ x) (Y := [46, 46, 46] ++ e ++ ls) rfl rfl lnZ) (gg 8 ?_))
   exact zh (a4, i + 1, X ++ x ++ ([46, 46, 46] ++ e ++ ls), d.hs, d.ps) ⟨ha4, omT, (by dsimp only; rw [htk]; have := hX.snoc hfd hr hb (by rw [hen]; exact TailT.dots he hls); simpa using this), by simp; omega⟩ omT suT (Wk.toT (XH C []) [db, sc, pb] wlT)
 ·
  refine gg 5 ?_
  obtain rfl : i = ds.length := by omega
  rw [List.take_length] at hX
  refine gg 14 ?_
  exact zm (H' := DRB db dc ds :: PKB pb s a :: XH C []) rfl rfl (Wk.toT (XH C []) [db, pb] wlT) ⟨a, X, rfl, rfl, hX, by omega⟩
def wB (c : Nat) : Bool := decide (48 ≤ c ∧ c ≤ 57 ∨ 65 ≤ c ∧ c ≤ 90 ∨ 97 ≤ c ∧ c ≤ 122)
theorem wordByte_pf {c : Nat} : PF prog 54 [.int .u8 (c : Nat)] [] (.bool (wB c)) := by
 by_cases h1 : 97 ≤ c
 · by_cases h2 : c ≤ 122
   · rw [show wB c = true from decide_eq_true omT]
     refine zW func54 rfl rfl rfl ?_
     intro w
     refine gg 33 ?_
     exact zV rfl rfl
   · rw [show wB c = false from decide_eq_false omT]
     refine zW func54 rfl rfl rfl ?_
     intro w
     refine gg 33 ?_
     exact zV rfl rfl
 · by_cases h3 : 65 ≤ c
   · by_cases h4 : c ≤ 90
     · rw [show wB c = true from decide_eq_true omT]
       refine zW func54 rfl rfl rfl ?_
       intro w
       refine gg 33 ?_
       exact zV rfl rfl
     · rw [show wB c = false from decide_eq_false omT]
       refine zW func54 rfl rfl rfl ?_
       intro w
       refine gg 33 ?_
       exact zV rfl rfl
   · by_cases h5 : 48 ≤ c
     · by_cases h6 : c ≤ 57
       · rw [show wB c = true from decide_eq_true omT]
         refine zW func54 rfl rfl rfl ?_
         intro w
         refine gg 33 ?_
         exact zV rfl rfl
       · rw [show wB c = false from decide_eq_false omT]
         refine zW func54 rfl rfl rfl ?_
         intro w
         refine gg 33 ?_
         exact zV rfl rfl
     · rw [show wB c = false from decide_eq_false omT]
       refine zW func54 rfl rfl rfl ?_
       intro w
       refine gg 33 ?_
       exact zV rfl rfl
def BOH : Option (Nat × Nat) → List Nat → zl
 | none, _ => []
 | some (b, c), xs => [(b, .buf 5 (c * 1) (bytes xs))]
def BOK (o : Option (Nat × Nat)) (xs : List Nat) : Prop := (xs = [] ∧ o = none) ∨ (xs ≠ [] ∧ ∃ b c, o = some (b, c) ∧ xs.length ≤ c ∧ c ≤ 9223372036854775807)
theorem ndName_ok (X : List Nat) (hX : ∀ c ∈ X, c < 256) (hl : X.length ≤ 9223372036854775807) :
  Fn prog 4 [.string (sb X)] [] (fun v H' => ∃ nm, v = .string (sb nm) ∧ H' = [] ∧ NameT nm) := by
 refine zo func4 rfl rfl rfl ?_
 intro w
 refine gg 17 ?_
 refine zw (σ := Nat × List Nat × Option (Nat × Nat)) (fun x => [(0, .string (sb X)), (3, (TSS x.2.2 x.2.1.length).v), (4, .int .i64 (x.1 : Nat))]) (fun x => BOH x.2.2 x.2.1) (fun x => x.1 ≤ X.length ∧ x.2.1.length ≤ 8 ∧ (∀ c ∈ x.2.1, zC c = true) ∧ BOK x.2.2 x.2.1) (fun x => X.length - x.1) (0, [], none) ⟨Nat.zero_le _, by simp, by simp, .inl ⟨rfl, rfl⟩⟩ suT (Wk.refl _) ?_
 rintro ⟨i, nm, o⟩ ⟨hi, hnl, hna, ho⟩
 dsimp only at hi hnl hna ho
 refine zt (BOH o nm) [(0, .string (sb X)), (3, (TSS o nm.length).v), (4, .int .i64 (i : Nat))] rfl rfl ?_
 have hsn : (TSS o nm.length).n = nm.length := by
  rcases ho with ⟨rfl, rfl⟩ | ⟨_, b, c, rfl, _⟩ <;> rfl
 refine zd ?_
 by_cases hlt : i < X.length
 ·
  refine gg 5 ?_
  refine slt1 (h := ?_) (hc := by rw [kF]; exact omT)
  refine gg 3 ?_
  by_cases hlt8 : nm.length < 8
  ·
   refine slt1 (h := ?_) (hc := by rw [hsn]; exact omT)
   refine gg 3 ?_
   obtain ⟨c, hc⟩ : ∃ c, X[i]? = some c := ⟨X[i], List.getElem?_eq_getElem hlt⟩
   have hc256 := hX c (List.mem_of_getElem? hc)
   refine gg 9 ?_
   refine sqz (q_sbi (X := X) (i := i) (c := c) rfl rfl hc hc256) (gg 3 ?_)
   refine zL (σ := Unit) (fun _ => [(0, .string (sb X)), (3, (TSS o nm.length).v), (4, .int .i64 (i : Nat)), (5, .int .u8 (c : Nat)), (49, .bool (zC c))]) (fun _ => BOH o nm) (fun _ => True) ?_ ?_
   ·
    by_cases h1 : 97 ≤ c
    ·
     by_cases h2 : c ≤ 122
     ·
      refine gg 32 ?_
      exact zg () trivial (by rw [show zC c = true from decide_eq_true omT]; repeat (first | exact trivial | refine ⟨rfl, ?_⟩)) (Wk.refl _)
     ·
      refine gg 32 ?_
      exact zg () trivial (by rw [show zC c = false from decide_eq_false omT]; repeat (first | exact trivial | refine ⟨rfl, ?_⟩)) (Wk.refl _)
    ·
     by_cases h3 : 65 ≤ c
     ·
      by_cases h4 : c ≤ 90
      ·
       refine gg 32 ?_
       exact zg () trivial (by rw [show zC c = true from decide_eq_true omT]; repeat (first | exact trivial | refine ⟨rfl, ?_⟩)) (Wk.refl _)
      ·
       by_cases h5 : c = 95
       ·
        refine gg 32 ?_
        exact zg () trivial (by rw [show zC c = true from decide_eq_true omT]; repeat (first | exact trivial | refine ⟨rfl, ?_⟩)) (Wk.refl _)
       ·
        refine gg 32 ?_
        exact zg () trivial (by rw [show zC c = false from decide_eq_false omT]; repeat (first | exact trivial | refine ⟨rfl, ?_⟩)) (Wk.refl _)
     ·
      by_cases h6 : 48 ≤ c
      ·
       by_cases h7 : c ≤ 57
       ·
        refine gg 32 ?_
        exact zg () trivial (by rw [show zC c = true from decide_eq_true omT]; repeat (first | exact trivial | refine ⟨rfl, ?_⟩)) (Wk.refl _)
       ·
        refine gg 32 ?_
        exact zg () trivial (by rw [show zC c = false from decide_eq_false omT]; repeat (first | exact trivial | refine ⟨rfl, ?_⟩)) (Wk.refl _)
      ·
       by_cases h8 : c = 45
       ·
        refine gg 32 ?_
        exact zg () trivial (by rw [show zC c = true from decide_eq_true omT]; repeat (first | exact trivial | refine ⟨rfl, ?_⟩)) (Wk.refl _)
       ·
        refine gg 32 ?_
        exact zg () trivial (by rw [show zC c = false from decide_eq_false omT]; repeat (first | exact trivial | refine ⟨rfl, ?_⟩)) (Wk.refl _)
   ·
    rintro ⟨⟩ _
    cases hal : zC c
    ·
     refine gg 9 ?_
     exact zh (i + 1, nm, o) ⟨omT, hnl, hna, ho⟩ omT suT (Wk.refl _)
    ·
     refine ev_cond1 rfl ?_
     rcases ho with ⟨rfl, rfl⟩ | ⟨hne, b, cc, rfl, ho1, ho2⟩
     ·
      refine kq (E' := [(0, .string (sb X)), (3, zS), (4, .int .i64 (i : Nat)), (5, .int .u8 (c : Nat))]) (H' := []) suT (Wk.refl _) (gg 3 ?_)
      refine kV (l := [_]) (zs := [.int .u8 0]) [0] rfl rfl rfl rfl kR rfl rfl ?_
      intro sb1
      refine kr (sz := 1) (bs := 1) (news := bytes [c]) rfl rfl rfl rfl rfl (zN (k := .cs 5 (bytes [c]) []) (Nat.le_refl _) (Nat.le_refl _) (fun j u hj => by simp only [Blk.cell, look, nth, Nat.zero_add]; exact hj)) rfl (by decide) (by decide) (by decide) ?_
      intro b2 c2 g1 g2
      refine gg 9 ?_
      exact zh (i + 1, [c], some (b2, c2)) ⟨omT, by simp, by simpa using hal, .inr ⟨by simp, b2, c2, rfl, g1, g2⟩⟩ omT suT (Wk.to [b2] (by exact ⟨rfl, .inl rfl, trivial⟩))
     ·
      refine kq (E' := [(0, .string (sb X)), (3, .slice (some ⟨b, 0, none⟩) nm.length cc), (4, .int .i64 (i : Nat)), (5, .int .u8 (c : Nat))]) (H' := [(b, .buf 5 (cc * 1) (bytes nm))]) suT (Wk.refl _) (gg 3 ?_)
      refine kV (l := [_]) (zs := [.int .u8 0]) [0] rfl rfl rfl rfl kR rfl rfl ?_
      intro sb1
      refine zY (b := b) (n0 := nm.length) (cap := cc) (sz := 1) (bs := 1) (news := bytes [c]) rfl rfl rfl rfl rfl (by simp) ho1 ho2 rfl (zN (k := .cs 5 (bytes [c]) []) (Nat.le_refl _) (Nat.le_refl _) (fun j u hj => by simp only [Blk.cell, look, nth, Nat.zero_add]; exact hj)) rfl (ww [c]) omT omT ?_
      intro b2 c2 g1 g2
      refine gg 9 ?_
      exact zh (i + 1, nm ++ [c], some (b2, c2)) ⟨omT, by simp; omega, (by intro d hd; rcases List.mem_append.1 hd with hd | hd; (exact hna d hd); (rw [List.mem_singleton.1 hd]; exact hal)), .inr ⟨by simp, b2, c2, rfl, by simpa using g1, g2⟩⟩ omT (by rw [show (nm ++ [c]).length = nm.length + 1 by simp]; repeat (first | exact trivial | refine ⟨rfl, ?_⟩)) (Wk.to [b2] (by exact ⟨rfl, .inl (by rw [qI]), trivial⟩))
  ·
   refine slt0 (h := ?_) (hc := by rw [hsn]; exact omT)
   refine gg 10 ?_
   rcases ho with ⟨rfl, rfl⟩ | ⟨hne, b, cc, rfl, ho1, ho2⟩
   ·
    refine gg 4 ?_
    refine seq1 (h := ?_) (hc := by rfl)
    refine gg 10 ?_
    exact zm (H' := []) rfl rfl (Wk.refl _) ⟨[120], rfl, rfl, by decide, by decide, by decide⟩
   ·
    have hpos := List.length_pos_iff.2 hne
    refine kq (E' := [(3, .slice (some ⟨b, 0, none⟩) nm.length cc)]) (H' := [(b, .buf 5 (cc * 1) (bytes nm))]) suT (Wk.refl _) (gg 13 ?_)
    refine sqz (qw underlying23 underlying5 underlying9 rfl (wm (b := b) (X := nm) rfl (fun x hx => by have := ky (hna x hx); omega))) ?_
    refine gg 4 ?_
    exact zm (H' := []) rfl rfl (Wk.to [] (by exact trivial)) ⟨nm, rfl, rfl, by omega, hnl, hna⟩
 ·
  refine gg 5 ?_
  refine slt0 (h := ?_) (hc := by rw [kF]; exact omT)
  refine gg 14 ?_
  rcases ho with ⟨rfl, rfl⟩ | ⟨hne, b, cc, rfl, ho1, ho2⟩
  ·
   refine gg 4 ?_
   refine seq1 (h := ?_) (hc := by rfl)
   refine gg 10 ?_
   exact zm (H' := []) rfl rfl (Wk.refl _) ⟨[120], rfl, rfl, by decide, by decide, by decide⟩
  ·
   have hpos := List.length_pos_iff.2 hne
   refine kq (E' := [(3, .slice (some ⟨b, 0, none⟩) nm.length cc)]) (H' := [(b, .buf 5 (cc * 1) (bytes nm))]) suT (Wk.refl _) (gg 13 ?_)
   refine sqz (qw underlying23 underlying5 underlying9 rfl (wm (b := b) (X := nm) rfl (fun x hx => by have := ky (hna x hx); omega))) ?_
   refine gg 4 ?_
   exact zm (H' := []) rfl rfl (Wk.to [] (by exact trivial)) ⟨nm, rfl, rfl, by omega, hnl, hna⟩
theorem word_ok (X : List Nat) (hX : ∀ c ∈ X, c < 256) (hl : X.length ≤ 9223372036854775807) (O : List Nat) (hO : ∀ c ∈ O, c < 256) (hOl : O.length ≤ 100) :
  Fn prog 26 [.string (sb X), .string (sb O)] [] (fun v H' => ∃ nm, v = .string (sb nm) ∧ H' = [] ∧ nm.length ≤ 8 ∧ (∀ c ∈ nm, wB c = true ∨ c ∈ O) ∧ nm.length ≤ X.length) := by
 refine zo func26 rfl rfl rfl ?_
 intro w
 refine gg 17 ?_
 refine zw (σ := Nat × List Nat × Option (Nat × Nat)) (fun x => [(0, .string (sb X)), (1, .string (sb O)), (5, (TSS x.2.2 x.2.1.length).v), (6, .int .i64 (x.1 : Nat))]) (fun x => BOH x.2.2 x.2.1) (fun x => x.1 ≤ X.length ∧ (x.2.1.length ≤ 8 ∧ x.2.1.length ≤ x.1) ∧ (∀ c ∈ x.2.1, c < 256 ∧ (wB c = true ∨ c ∈ O)) ∧ BOK x.2.2 x.2.1) (fun x => X.length - x.1) (0, [], none) ⟨Nat.zero_le _, ⟨by simp, by simp⟩, by simp, .inl ⟨rfl, rfl⟩⟩ suT (Wk.refl _) ?_
 rintro ⟨i, nm, o⟩ ⟨hi, ⟨hnl, hni⟩, hna, ho⟩
 dsimp only at hi hnl hni hna ho
 refine zt (BOH o nm) [(0, .string (sb X)), (1, .string (sb O)), (5, (TSS o nm.length).v), (6, .int .i64 (i : Nat))] rfl rfl ?_
 have hsn : (TSS o nm.length).n = nm.length := by
  rcases ho with ⟨rfl, rfl⟩ | ⟨_, b, c, rfl, _⟩ <;> rfl
 refine zd ?_
 by_cases hlt : i < X.length
 ·
  refine gg 5 ?_
  refine slt1 (h := ?_) (hc := by rw [kF]; exact omT)
  refine gg 3 ?_
  by_cases hlt8 : nm.length < 8
  ·
   refine slt1 (h := ?_) (hc := by rw [hsn]; exact omT)
   refine gg 3 ?_
   obtain ⟨c, hc⟩ : ∃ c, X[i]? = some c := ⟨X[i], List.getElem?_eq_getElem hlt⟩
   have hc256 := hX c (List.mem_of_getElem? hc)
   refine gg 9 ?_
   refine sqz (q_sbi (X := X) (i := i) (c := c) rfl rfl hc hc256) (sca (wordByte_pf) ?_)
   refine gg 10 ?_
   refine zw (σ := Nat × Bool) (fun x => [(0, .string (sb X)), (1, .string (sb O)), (5, (TSS o nm.length).v), (6, .int .i64 (i : Nat)), (7, .bool x.2), (8, .int .i64 (x.1 : Nat))]) (fun _ => BOH o nm) (fun x => x.1 ≤ O.length ∧ (x.2 = true → wB c = true ∨ c ∈ O)) (fun x => O.length - x.1) (0, wB c) ⟨Nat.zero_le _, .inl⟩ suT (Wk.refl _) ?_
   rintro ⟨j, r⟩ ⟨hj, hr⟩
   dsimp only at hj hr
   refine zd ?_
   by_cases hjl : j < O.length
   ·
    refine gg 5 ?_
    refine slt1 (h := ?_) (hc := by rw [kF]; exact omT)
    refine gg 7 ?_
    rcases r with _ | _
    ·
     obtain ⟨d, hd⟩ : ∃ d, O[j]? = some d := ⟨O[j], List.getElem?_eq_getElem hjl⟩
     have hd256 := hO d (List.mem_of_getElem? hd)
     refine gg 5 ?_
     refine dqz (q_sbi (X := X) (i := i) (c := c) rfl rfl hc hc256) (dmv ?_)
     refine dmv ?_
     refine dqz (q_sbi (X := O) (i := j) (c := d) rfl rfl hd hd256) ?_
     by_cases hcd : c = d
     ·
      refine gg 11 ?_
      exact zh (j + 1, true) ⟨omT, fun _ => .inr (by rw [hcd]; exact List.mem_of_getElem? hd)⟩ omT suT (Wk.refl _)
     ·
      refine gg 11 ?_
      exact zh (j + 1, false) ⟨omT, fun h => (by cases h)⟩ omT suT (Wk.refl _)
    ·
     refine gg 20 ?_
     exact zh (j + 1, true) ⟨omT, hr⟩ omT suT (Wk.refl _)
   ·
    refine gg 5 ?_
    refine slt0 (h := ?_) (hc := by rw [kF]; exact omT)
    refine gg 8 ?_
    rcases r with _ | _
    ·
     refine gg 14 ?_
     exact zh (i + 1, nm, o) ⟨omT, ⟨hnl, omT⟩, hna, ho⟩ omT suT (Wk.refl _)
    ·
     refine gg 6 ?_
     rcases ho with ⟨rfl, rfl⟩ | ⟨hne, b, cc, rfl, ho1, ho2⟩
     ·
      refine kq (E' := [(0, .string (sb X)), (1, .string (sb O)), (5, zS), (6, .int .i64 (i : Nat))]) (H' := []) suT (Wk.refl _) (gg 4 ?_)
      refine sqz (q_sbi (X := X) (i := i) (c := c) rfl rfl hc hc256) (kV (l := [_]) (zs := [.int .u8 0]) [0] rfl rfl rfl rfl kR rfl rfl ?_)
      intro sb1
      refine kr (sz := 1) (bs := 1) (news := bytes [c]) rfl rfl rfl rfl rfl (zN (k := .cs 5 (bytes [c]) []) (Nat.le_refl _) (Nat.le_refl _) (fun j u hj => by simp only [Blk.cell, look, nth, Nat.zero_add]; exact hj)) rfl (by decide) (by decide) (by decide) ?_
      intro b2 c2 g1 g2
      refine gg 9 ?_
      exact zh (i + 1, [c], some (b2, c2)) ⟨omT, ⟨by simp, by simp⟩, by simpa using ⟨hc256, hr rfl⟩, .inr ⟨by simp, b2, c2, rfl, g1, g2⟩⟩ omT suT (Wk.to [b2] (by exact ⟨rfl, .inl rfl, trivial⟩))
     ·
      refine kq (E' := [(0, .string (sb X)), (1, .string (sb O)), (5, .slice (some ⟨b, 0, none⟩) nm.length cc), (6, .int .i64 (i : Nat))]) (H' := [(b, .buf 5 (cc * 1) (bytes nm))]) suT (Wk.refl _) (gg 4 ?_)
      refine sqz (q_sbi (X := X) (i := i) (c := c) rfl rfl hc hc256) (kV (l := [_]) (zs := [.int .u8 0]) [0] rfl rfl rfl rfl kR rfl rfl ?_)
      intro sb1
      refine zY (b := b) (n0 := nm.length) (cap := cc) (sz := 1) (bs := 1) (news := bytes [c]) rfl rfl rfl rfl rfl (by simp) ho1 ho2 rfl (zN (k := .cs 5 (bytes [c]) []) (Nat.le_refl _) (Nat.le_refl _) (fun j u hj => by simp only [Blk.cell, look, nth, Nat.zero_add]; exact hj)) rfl (ww [c]) omT omT ?_
      intro b2 c2 g1 g2
      refine gg 9 ?_
      exact zh (i + 1, nm ++ [c], some (b2, c2)) ⟨omT, ⟨by simp; omega, by simp; omega⟩, (by intro d hd; rcases List.mem_append.1 hd with hd | hd; (exact hna d hd); (rw [List.mem_singleton.1 hd]; exact ⟨hc256, hr rfl⟩)), .inr ⟨by simp, b2, c2, rfl, by simpa using g1, g2⟩⟩ omT (by rw [show (nm ++ [c]).length = nm.length + 1 by simp]; repeat (first | exact trivial | refine ⟨rfl, ?_⟩)) (Wk.to [b2] (by exact ⟨rfl, .inl (by rw [qI]), trivial⟩))
  ·
   refine slt0 (h := ?_) (hc := by rw [hsn]; exact omT)
   refine gg 9 ?_
   rcases ho with ⟨rfl, rfl⟩ | ⟨hne, b, cc, rfl, ho1, ho2⟩
   ·
    refine kq (E' := [(5, zS)]) (H' := []) suT (Wk.refl _) (gg 3 ?_)
    refine sqz (qw underlying23 underlying5 underlying9 rfl (.inl ⟨0, rfl, rfl⟩)) (gg 4 ?_)
    exact zm (H' := []) rfl rfl (Wk.refl _) ⟨[], rfl, rfl, by simp, by simp, by simp⟩
   ·
    refine kq (E' := [(5, .slice (some ⟨b, 0, none⟩) nm.length cc)]) (H' := [(b, .buf 5 (cc * 1) (bytes nm))]) suT (Wk.refl _) (gg 3 ?_)
    refine sqz (qw underlying23 underlying5 underlying9 rfl (wm (b := b) (X := nm) rfl (fun x hx => (hna x hx).1))) ?_
    refine gg 4 ?_
    exact zm (H' := []) rfl rfl (Wk.to [] (by exact trivial)) ⟨nm, rfl, rfl, hnl, fun x hx => (hna x hx).2, by omega⟩
 ·
  refine gg 5 ?_
  refine slt0 (h := ?_) (hc := by rw [kF]; exact omT)
  refine gg 13 ?_
  rcases ho with ⟨rfl, rfl⟩ | ⟨hne, b, cc, rfl, ho1, ho2⟩
  ·
   refine kq (E' := [(5, zS)]) (H' := []) suT (Wk.refl _) (gg 3 ?_)
   refine sqz (qw underlying23 underlying5 underlying9 rfl (.inl ⟨0, rfl, rfl⟩)) (gg 4 ?_)
   exact zm (H' := []) rfl rfl (Wk.refl _) ⟨[], rfl, rfl, by simp, by simp, by simp⟩
  ·
   refine kq (E' := [(5, .slice (some ⟨b, 0, none⟩) nm.length cc)]) (H' := [(b, .buf 5 (cc * 1) (bytes nm))]) suT (Wk.refl _) (gg 3 ?_)
   refine sqz (qw underlying23 underlying5 underlying9 rfl (wm (b := b) (X := nm) rfl (fun x hx => (hna x hx).1))) ?_
   refine gg 4 ?_
   exact zm (H' := []) rfl rfl (Wk.to [] (by exact trivial)) ⟨nm, rfl, rfl, hnl, fun x hx => (hna x hx).2, by omega⟩
def RStr (V : VL) (s : Sl) : Prop := s.n ≤ 9223372036854775807 ∧ ∀ i, i < s.n → ∃ b off o X, s.u = some ⟨b, off, none⟩ ∧ (b, .raw o) ∈ V ∧ qz o (off + i) = some (.string (sb X)) ∧ (∀ c ∈ X, c < 256) ∧ X.length ≤ 9223372036854775807
theorem xh_app (A : VL) (V : VL) (J : JL) : A ++ XH V J = XH (A ++ V) J := by simp [XH, VH]
theorem wB_alpha {c : Nat} (h : wB c = true) : zC c = true := by
 have := of_decide_eq_true h
 exact decide_eq_true omT
def TOK (oh op : Option (Nat × Nat)) (hl pl : List (List Nat)) : Prop := (hl = [] ∧ pl = [] ∧ oh = none ∧ op = none) ∨ ∃ b c b' c', oh = some (b, c) ∧ op = some (b', c') ∧ hl.length ≤ c ∧ c ≤ 9223372036854775807 ∧ pl.length ≤ c' ∧ c' ≤ 9223372036854775807
theorem TOK.str {oh op : Option (Nat × Nat)} {hl pl : List (List Nat)} (h : TOK oh op hl pl) (V : VL) : InStr ((TSH oh hl ++ TSH op pl) ++ V) (TSS oh hl.length) hl ∧ InStr ((TSH oh hl ++ TSH op pl) ++ V) (TSS op pl.length) pl := by
 rcases h with ⟨rfl, rfl, rfl, rfl⟩ | ⟨b, c, b', c', rfl, rfl, h1, h2, h3, h4⟩
 · exact ⟨.inl ⟨rfl, rfl⟩, .inl ⟨rfl, rfl⟩⟩
 · exact ⟨.inr ⟨b, c, rfl, by simp [TSH], h1, h2⟩, .inr ⟨b', c', rfl, by simp [TSH], h3, h4⟩⟩
theorem HanT.mk {w : List Nat} (h8 : w.length ≤ 8) (h : ∀ c ∈ w, wB c = true ∨ c ∈ [45]) : HanT (33 :: (w ++ [33])) := .inr ⟨w, fun c hc => (h c hc).elim wB_alpha (fun e => by rw [List.mem_singleton.1 e]; rfl), h8, rfl⟩
theorem uri_w {w : List Nat} (h : ∀ c ∈ w, wB c = true ∨ c ∈ ([] : List Nat)) : ∀ c ∈ w, uriB c = true := fun c hc => by
 have h1 := (h c hc).elim wB_alpha (fun e => by cases e)
 simp [uriB, h1]
structure FH (hl pl : List (List Nat)) : Prop where
 len : pl.length = hl.length
 le : hl.length ≤ 3
 hh : ∀ h ∈ hl, HanT h
 pp : ∀ p ∈ pl, PreT p
 nd : hl.Nodup
abbrev fhE (hs ps : Sl) (oh op : Option (Nat × Nat)) (hl pl : List (List Nat)) (i : Nat) : Env := [(0, hs.v), (1, ps.v), (4, (TSS oh hl.length).v), (5, (TSS op pl.length).v), (6, .int .i64 (i : Nat))]
abbrev fhH (oh op : Option (Nat × Nat)) (hl pl : List (List Nat)) (V : VL) : zl := (TSH oh hl ++ TSH op pl) ++ XH V []
def FHR (V : VL) (v : Value) (H' : zl) : Prop := ∃ (h p : Sl) (hl pl : List (List Nat)) (V' : VL), v = .tuple #[h.v, p.v] ∧ H' = XH V' [] ∧ (∀ y ∈ V, y ∈ V') ∧ InStr V' h hl ∧ InStr V' p pl ∧ FH hl pl
theorem fh_end {oh op : Option (Nat × Nat)} {hl pl : List (List Nat)} {V : VL} (h : TOK oh op hl pl) (hf : FH hl pl) : FHR V (.tuple #[(TSS oh hl.length).v, (TSS op pl.length).v]) (XH ((TSH oh hl ++ TSH op pl) ++ V) []) :=
 ⟨_, _, hl, pl, _, rfl, rfl, fun y hy => List.mem_append_right _ hy, (h.str V).1, (h.str V).2, hf⟩
theorem fitHandles_ok (V : VL) (hs ps : Sl) (hh : RStr V hs) (hp : RStr V ps) :
  Fn prog 11 [hs.v, ps.v] (XH V []) (FHR V) := by
 obtain ⟨hu, hn, hc⟩ := hs
 obtain ⟨pu, pn, pc⟩ := ps
 obtain ⟨hh1, hh2⟩ := hh
 obtain ⟨hp1, hp2⟩ := hp
 dsimp only at hh1 hh2 hp1 hp2
 refine zo func11 rfl rfl rfl ?_
 intro w
 refine gg 13 ?_
 refine zw (σ := Nat × List (List Nat) × List (List Nat) × Option (Nat × Nat) × Option (Nat × Nat)) (fun x => fhE ⟨hu, hn, hc⟩ ⟨pu, pn, pc⟩ x.2.2.2.1 x.2.2.2.2 x.2.1 x.2.2.1 x.1) (fun x => fhH x.2.2.2.1 x.2.2.2.2 x.2.1 x.2.2.1 V) (fun x => x.1 ≤ 3 ∧ x.2.1.length ≤ x.1 ∧ TOK x.2.2.2.1 x.2.2.2.2 x.2.1 x.2.2.1 ∧ FH x.2.1 x.2.2.1) (fun x => 3 - x.1) (0, [], [], none, none) ⟨by simp, by simp, .inl ⟨rfl, rfl, rfl, rfl⟩, by simp, by simp, by simp, by simp, by simp⟩ suT (Wk.refl _) ?_
 rintro ⟨i, hl, pl, oh, op⟩ ⟨hi, hli, ho, hf⟩
 dsimp only at hi hli ho hf
 refine zt (fhH oh op hl pl V) (fhE ⟨hu, hn, hc⟩ ⟨pu, pn, pc⟩ oh op hl pl i) rfl rfl (zd ?_)
 by_cases hlt1 : i < hn
 ·
  refine gg 10 ?_
  by_cases hlt2 : i < pn
  ·
   refine gg 4 ?_
   by_cases hlt3 : i < 3
   ·
    refine gg 4 ?_
    obtain ⟨b1, off1, o1, X1, rfl, hm1, hc1, hX1, hl1⟩ := hh2 i hlt1
    obtain ⟨b2, off2, o2, X2, rfl, hm2, hc2, hX2, hl2⟩ := hp2 i hlt2
    haveI : Has (XH V []) b1 (.raw o1) := ⟨List.mem_append_left _ hm1⟩
    haveI : Has (XH V []) b2 (.raw o2) := ⟨List.mem_append_left _ hm2⟩
    refine gg 6 ?_
    refine ke (fun i => i == 4 || i == 9) (fun _ => false) (XH V []) zF ?_
    refine mq 0 rfl kR rfl rfl (zj rfl) ?_
    refine mq 1 rfl kR rfl rfl (zj rfl) ?_
    refine mq 2 rfl kR rfl rfl (zy (i := i) rfl rfl rfl omT rfl) ?_
    refine mq 3 rfl kR rfl rfl (q_loado (by rw [Nat.mul_one]; exact hc1) rfl) ?_
    refine mqh 5 rfl kR rfl rfl (fun _ => zj rfl) ?_
    refine mqh 6 rfl kR rfl rfl (fun _ => zj rfl) ?_
    refine mqh 7 rfl kR rfl rfl (fun _ => zy (i := i) rfl rfl rfl omT rfl) ?_
    refine mqh 8 rfl kR rfl rfl (fun _ => q_loado (by rw [Nat.mul_one]; exact hc2) rfl) ?_
    refine mql 4 rfl kR (fun hcl => ?_)
    refine za rfl rfl rfl (word_ok X1 hX1 hl1 [45] (by decide) (by decide)) ?_
    rintro _ _ ⟨w1, rfl, rfl, hw1, hw1a, _⟩
    simp only [List.nil_append]
    refine mqn 4 hcl ?_
    refine mql 9 rfl kR (fun hcl => ?_)
    refine za rfl rfl rfl (word_ok X2 hX2 hl2 [] (by decide) (by decide)) ?_
    rintro _ _ ⟨w2, rfl, rfl, hw2, hw2a, _⟩
    simp only [List.nil_append]
    refine mqn 9 hcl (mq 10 rfl kR rfl rfl (kB rfl) ?_)
    refine mq 11 rfl kR rfl rfl (kB rfl) ?_
    refine qJ kR (gg 4 ?_)
    refine sqz (zT (X := [33]) (Y := w1) rfl rfl lnZ) (sqz (zT (X := [33] ++ w1) (Y := [33]) rfl rfl lnZ) (gg 3 ?_))
    refine zL (σ := List Nat) (fun x => fhE ⟨some ⟨b1, off1, none⟩, hn, hc⟩ ⟨some ⟨b2, off2, none⟩, pn, pc⟩ oh op hl pl i ++ [(8, .string (sb w2)), (9, .string (sb x))]) (fun _ => fhH oh op hl pl V) (fun x => HanT x) ?_ ?_
    ·
     refine kf ?_
     by_cases he1 : w1 = []
     ·
      refine gg 3 ?_
      refine sqz (q_seq (q := sb []) rfl rfl (decide_eq_true (by rw [he1]))) ?_
      refine gg 8 ?_
      exact zg [33] (.inl rfl) suT (Wk.refl _)
     ·
      refine gg 3 ?_
      refine sqz (q_seq (q := sb []) rfl rfl (decide_eq_false (fun e => he1 (List.eq_nil_of_length_eq_zero (by have := congrArg ByteArray.size e; simpa using this))))) ?_
      refine gg 8 ?_
      refine sqz (q_remn (p := w1.length) (q := 3) (by rw [← kF]; rfl) rfl omT) ?_
      by_cases h3 : w1.length % 3 = 0
      ·
       refine gg 9 ?_
       exact zg [33, 33] (HanT.mk (w := []) (by simp) (by simp)) suT (Wk.refl _)
      ·
       refine gg 7 ?_
       exact zg (33 :: (w1 ++ [33])) (HanT.mk hw1 hw1a) suT (Wk.refl _)
    ·
     intro h hhT
     refine zt (fhH oh op hl pl V) [(0, .slice (some ⟨b1, off1, none⟩) hn hc), (1, .slice (some ⟨b2, off2, none⟩) pn pc), (4, (TSS oh hl.length).v), (5, (TSS op pl.length).v), (6, .int .i64 (i : Nat)), (8, .string (sb w2)), (9, .string (sb h))] rfl rfl ?_
     refine zL (σ := List Nat) (fun x => [(0, .slice (some ⟨b1, off1, none⟩) hn hc), (1, .slice (some ⟨b2, off2, none⟩) pn pc), (4, (TSS oh hl.length).v), (5, (TSS op pl.length).v), (6, .int .i64 (i : Nat)), (8, .string (sb x)), (9, .string (sb h))]) (fun _ => fhH oh op hl pl V) (fun x => PreT x) ?_ ?_
     ·
      refine kf ?_
      by_cases he2 : w2 = []
      ·
       refine gg 3 ?_
       refine sqz (q_seq (q := sb []) rfl rfl (decide_eq_true (by rw [he2]))) ?_
       refine gg 8 ?_
       exact zg [116, 97, 103, 58, 101, 46, 111, 114, 103, 44, 50, 48, 48, 48, 58] ⟨by decide, by decide, by decide⟩ suT (Wk.refl _)
      ·
       refine gg 3 ?_
       refine sqz (q_seq (q := sb []) rfl rfl (decide_eq_false (fun e => he2 (List.eq_nil_of_length_eq_zero (by have := congrArg ByteArray.size e; simpa using this))))) ?_
       refine gg 8 ?_
       refine sqz (q_remn (p := w2.length) (q := 2) (by rw [← kF]; rfl) rfl omT) ?_
       by_cases h3 : w2.length % 2 = 0
       ·
        refine gg 7 ?_
        refine sqz (zT (X := [33]) (Y := w2) rfl rfl lnZ) (sqz (zT (X := [33] ++ w2) (Y := [45]) rfl rfl lnZ) (gg 3 ?_))
        exact zg ([33] ++ w2 ++ [45]) ⟨by simp, by simp; omega, fun c hc => (by simp only [List.mem_append, List.mem_singleton] at hc; rcases hc with (rfl | hc) | rfl; rfl; exact uri_w hw2a c hc; rfl)⟩ suT (Wk.refl _)
       ·
        refine gg 7 ?_
        refine sqz (zT (X := [116, 97, 103, 58]) (Y := w2) rfl rfl lnZ) (sqz (zT (X := [116, 97, 103, 58] ++ w2) (Y := [58]) rfl rfl lnZ) (gg 3 ?_))
        exact zg ([116, 97, 103, 58] ++ w2 ++ [58]) ⟨by simp, by simp; omega, fun c hc => (by simp only [List.mem_append, List.mem_cons, List.not_mem_nil, or_false] at hc; rcases hc with ((rfl | rfl | rfl | rfl) | hc) | rfl; rfl; rfl; rfl; rfl; exact uri_w hw2a c hc; rfl)⟩ suT (Wk.refl _)
     ·
      intro p hpT
      refine zt (fhH oh op hl pl V) [(0, .slice (some ⟨b1, off1, none⟩) hn hc), (1, .slice (some ⟨b2, off2, none⟩) pn pc), (4, (TSS oh hl.length).v), (5, (TSS op pl.length).v), (6, .int .i64 (i : Nat)), (8, .string (sb p)), (9, .string (sb h))] rfl rfl ?_
      refine gg 6 ?_
      rcases ho with ⟨rfl, rfl, rfl, rfl⟩ | ⟨bh, ch, bp, cp, rfl, rfl, ho1, ho2, ho3, ho4⟩
      ·
       refine kq (E' := [(0, .slice (some ⟨b1, off1, none⟩) hn hc), (1, .slice (some ⟨b2, off2, none⟩) pn pc), (4, zS), (5, zS), (6, .int .i64 (i : Nat)), (8, .string (sb p)), (9, .string (sb h)), (10, .bool false)]) (H' := XH V []) suT (Wk.refl _) ?_
       refine gg 8 ?_
       refine zw (σ := Unit) (fun _ => [(0, .slice (some ⟨b1, off1, none⟩) hn hc), (1, .slice (some ⟨b2, off2, none⟩) pn pc), (4, zS), (5, zS), (6, .int .i64 (i : Nat)), (8, .string (sb p)), (9, .string (sb h)), (10, .bool false), (64, zS), (65, zI), (66, zI)]) (fun _ => XH V []) (fun _ => True) (fun _ => 0) () trivial suT (Wk.refl _) ?_
       rintro ⟨⟩ _
       refine gg 22 ?_
       refine kV (l := [_]) (zs := [.string ⟨#[]⟩]) [0] rfl rfl rfl rfl kR rfl rfl ?_
       intro sh
       refine kr (sz := 1) (bs := 16) (news := strs [h]) rfl rfl rfl rfl rfl (zN (k := .cs 9 (strs [h]) []) (Nat.le_refl _) (Nat.le_refl _) (fun j u hj => by simp only [Blk.cell, look, nth, Nat.zero_add]; exact hj)) rfl (by decide) (by decide) (by decide) ?_
       intro b3 c3 g1 g2
       rw [Nat.mul_one]
       refine smv ?_
       refine smv ?_
       refine kV (l := [_]) (zs := [.string ⟨#[]⟩]) [0] rfl rfl rfl rfl kR rfl rfl ?_
       intro sp
       refine kr (sz := 1) (bs := 16) (news := strs [p]) rfl rfl rfl rfl rfl (zN (k := .cs 9 (strs [p]) []) (Nat.le_refl _) (Nat.le_refl _) (fun j u hj => by simp only [Blk.cell, look, nth, Nat.zero_add]; exact hj)) rfl (by decide) (by decide) (by decide) ?_
       intro b4 c4 g3 g4
       rw [Nat.mul_one]
       refine gg 10 ?_
       exact zh (i + 1, [h], [p], some (b3, c3), some (b4, c4)) ⟨omT, by simp, .inr ⟨b3, c3, b4, c4, rfl, rfl, g1, g2, g3, g4⟩, ⟨rfl, by simp, by simpa using hhT, by simpa using hpT, by simp⟩⟩ omT suT (Wk.toT (XH V []) [b3, b4] wlT)
      ·
       refine kq (E' := [(0, .slice (some ⟨b1, off1, none⟩) hn hc), (1, .slice (some ⟨b2, off2, none⟩) pn pc), (4, .slice (some ⟨bh, 0, none⟩) hl.length ch), (5, .slice (some ⟨bp, 0, none⟩) pl.length cp), (6, .int .i64 (i : Nat)), (8, .string (sb p)), (9, .string (sb h)), (10, .bool false)]) (H' := SRB bh ch hl :: SRB bp cp pl :: XH V []) suT (Wk.refl _) ?_
       refine gg 8 ?_
       refine zw (σ := Nat × Bool) (fun x => [(0, .slice (some ⟨b1, off1, none⟩) hn hc), (1, .slice (some ⟨b2, off2, none⟩) pn pc), (4, .slice (some ⟨bh, 0, none⟩) hl.length ch), (5, .slice (some ⟨bp, 0, none⟩) pl.length cp), (6, .int .i64 (i : Nat)), (8, .string (sb p)), (9, .string (sb h)), (10, .bool x.2), (64, .slice (some ⟨bh, 0, none⟩) hl.length ch), (65, .int .i64 (hl.length : Nat)), (66, .int .i64 (x.1 : Nat))]) (fun _ => SRB bh ch hl :: SRB bp cp pl :: XH V []) (fun x => x.1 ≤ hl.length ∧ x.2 = decide (h ∈ hl.take x.1)) (fun x => hl.length - x.1) (0, false) ⟨Nat.zero_le _, by simp⟩ suT (Wk.refl _) ?_
       rintro ⟨j, k⟩ ⟨hj, hk⟩
       dsimp only at hj hk
       by_cases hjl : j < hl.length
       ·
        refine gg 5 ?_
        obtain ⟨d, hd⟩ : ∃ d, hl[j]? = some d := ⟨_, List.getElem?_eq_getElem hjl⟩
        have hdT := hf.hh d (List.mem_of_getElem? hd)
        have hstep : decide (h ∈ hl.take (j + 1)) = (decide (h ∈ hl.take j) || decide (h = d)) := by rw [List.take_add_one, hd]; simp
        refine gg 8 ?_
        refine sqz (zy (i := j) rfl rfl rfl omT rfl) (sqz (q_ldbf (i := j) rfl omT (strs_get hd)) (gg 3 ?_))
        rcases k with _ | _
        ·
         refine gg 5 ?_
         by_cases hx : d = h
         ·
          refine sqz (q_seq rfl rfl (decide_eq_true (by rw [hx]))) ?_
          refine gg 9 ?_
          exact zh (j + 1, true) ⟨omT, by rw [hstep]; simp [hx]⟩ omT suT (Wk.refl _)
         ·
          refine sqz (q_seq rfl rfl (decide_eq_false (fun e => hx (sb_inj hdT.le.2.2 hhT.le.2.2 e)))) ?_
          refine gg 9 ?_
          exact zh (j + 1, false) ⟨omT, by rw [hstep, ← hk]; simp [Ne.symm hx]⟩ omT suT (Wk.refl _)
        ·
         refine gg 15 ?_
         exact zh (j + 1, true) ⟨omT, by rw [hstep, ← hk]; rfl⟩ omT suT (Wk.refl _)
       ·
        refine gg 5 ?_
        obtain rfl : j = hl.length := by omega
        rw [List.take_length] at hk
        refine gg 7 ?_
        rcases k with _ | _
        ·
         have hnm : h ∉ hl := of_decide_eq_false hk.symm
         have hfl := hf.len
         refine gg 10 ?_
         refine kV (l := [_]) (zs := [.string ⟨#[]⟩]) [0] rfl rfl rfl rfl kR rfl rfl ?_
         intro sh
         refine zY (b := bh) (n0 := hl.length) (cap := ch) (sz := 1) (bs := 16) (news := strs [h]) rfl rfl rfl rfl (Nat.mul_one _).symm (by simp [strs]) ho1 ho2 rfl (zN (k := .cs 9 (strs [h]) []) (Nat.le_refl _) (Nat.le_refl _) (fun j u hj => by simp only [Blk.cell, look, nth, Nat.zero_add]; exact hj)) rfl (wr [h]) omT omT ?_
         intro b3 c3 g1 g2
         rw [Nat.mul_one]
         refine smv ?_
         refine smv ?_
         refine kV (l := [_]) (zs := [.string ⟨#[]⟩]) [0] rfl rfl rfl rfl kR rfl rfl ?_
         intro sp
         refine zY (b := bp) (n0 := pl.length) (cap := cp) (sz := 1) (bs := 16) (news := strs [p]) rfl rfl rfl rfl (Nat.mul_one _).symm (by simp [strs]) ho3 ho4 rfl (zN (k := .cs 9 (strs [p]) []) (Nat.le_refl _) (Nat.le_refl _) (fun j u hj => by simp only [Blk.cell, look, nth, Nat.zero_add]; exact hj)) rfl (wr [p]) omT omT ?_
         intro b4 c4 g3 g4
         rw [Nat.mul_one]
         refine gg 10 ?_
         exact zh (i + 1, hl ++ [h], pl ++ [p], some (b3, c3), some (b4, c4)) ⟨omT, by simp; omega, .inr ⟨b3, c3, b4, c4, rfl, rfl, by simpa using g1, g2, by simpa using g3, g4⟩, ⟨by simp; omega, by simp; omega, (by intro x hx; rcases List.mem_append.1 hx with hx | hx; (exact hf.hh x hx); (rw [List.mem_singleton.1 hx]; exact hhT)), (by intro x hx; rcases List.mem_append.1 hx with hx | hx; (exact hf.pp x hx); (rw [List.mem_singleton.1 hx]; exact hpT)), by rw [List.nodup_append]; exact ⟨hf.nd, by simp, by intro x hx y hy e; rw [List.mem_singleton.1 hy] at e; exact hnm (e ▸ hx)⟩⟩⟩ omT (by dsimp only [fhE]; rw [List.length_append, List.length_append]; repeat (first | exact trivial | refine ⟨rfl, ?_⟩)) (Wk.toT (XH V []) [b3, b4] (by exact ⟨rfl, .inl (by simp [strs]), rfl, .inl (by simp [strs]), rfl⟩))
        ·
         refine gg 15 ?_
         exact zh (i + 1, hl, pl, some (bh, ch), some (bp, cp)) ⟨omT, omT, .inr ⟨bh, ch, bp, cp, rfl, rfl, ho1, ho2, ho3, ho4⟩, hf⟩ omT suT (Wk.refl _)
   ·
    refine gg 19 ?_
    exact end2w rfl rfl rfl (by rw [← xh_app]; exact Wk.refl _) (fh_end ho hf)
  ·
   refine gg 23 ?_
   exact end2w rfl rfl rfl (by rw [← xh_app]; exact Wk.refl _) (fh_end ho hf)
 ·
  refine gg 33 ?_
  exact end2w rfl rfl rfl (by rw [← xh_app]; exact Wk.refl _) (fh_end ho hf)
end Go.Proofs.YtnfbcfflkphbiaaGreatDoor
