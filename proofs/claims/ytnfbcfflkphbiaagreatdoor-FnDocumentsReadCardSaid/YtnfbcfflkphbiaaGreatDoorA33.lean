/-
  Texts of the proof, joined: F51 F52 P3. No Go text.
-/
import Derived.Test.YtnfbcfflkphbiaaGreatDoorA01
import Derived.Test.YtnfbcfflkphbiaaGreatDoorA08
import Derived.Test.YtnfbcfflkphbiaaGreatDoorA32
namespace Go.Proofs.YtnfbcfflkphbiaaGreatDoor
open Go Go.Proofs Tryz
set_option linter.all false
set_option maxRecDepth 100000
set_option maxHeartbeats 8000000
theorem modulo_pf {p q : Nat} (hp : p ≤ 1000) (hq : 0 < q) (hq2 : q ≤ 1000) : PF prog 27 [.int .i64 (p : Nat), .int .i64 (q : Nat)] [] (.int .i64 ((p % q : Nat) : Int)) := by
 have hlt := Nat.mod_lt p hq
 have e : (p % q + q) % q = p % q := by rw [Nat.add_mod_right, Nat.mod_mod]
 refine zW func27 rfl rfl rfl ?_
 intro w
 rw [← e]
 refine gg 9 ?_
 refine sqz (q_remn (p := p) (q := q) rfl rfl hq) (smv ?_)
 refine sqz (q_addn (a := p % q) (b := q) rfl rfl omT) (smv ?_)
 refine sqz (q_remn (p := p % q + q) (q := q) rfl rfl hq) (gg 4 ?_)
 exact zV rfl rfl
theorem tag0_ok (fb : Nat) : Fn prog 28 [pV fb, .string (sb [])] [] (fun v H' => v = .string (sb []) ∧ H' = []) := by
 refine zo func28 rfl rfl rfl ?_
 intro w
 refine gg 9 ?_
 refine sqz (q_seq (q := sb []) rfl rfl (decide_eq_true rfl)) (gg 10 ?_)
 exact zm (H' := []) rfl rfl (Wk.refl _) ⟨rfl, rfl⟩
theorem mayScalar3_ok' {X : List Nat} (hX : NameT X) : Fn prog 55 [.string (sb X), .int .i64 3, zI] [] (fun v H' => v = .bool true ∧ H' = []) := mayScalar3_ok hX
theorem fit_ok (X : List Nat) (hX : NameT X) : Fn prog 29 [.agg (TR X 1).toArray, zI] [] (fun v H' => ∃ sty, v = .agg (TR X sty).toArray ∧ H' = [] ∧ StyT X sty) := by
 have hl := hX.2.1
 have hpos := hX.1
 have htk : X.take X.length = X := List.take_length
 cases hp : kT X
 · refine zo func29 rfl rfl rfl ?_
   intro w
   refine zd (zi (ku rfl rfl rfl clT ?_))
   intro bx
   refine zk rfl rfl clT ?_
   intro br
   refine gg 9 ?_
   refine sqz (q_min (t := 0) (r := ((X.length : Nat) : Int)) rfl rfl (by rw [kF, if_neg omT])) ?_
   refine sqz (q_sslh (X := X) (m := X.length) rfl rfl (Nat.le_refl _)) (gg 4 ?_)
   rw [htk]
   refine zA bx (.cs 26 (TR X 1) []) (Blk.like_rec kR) (gg 5 ?_)
   refine sqz (q_seq (q := sb []) rfl rfl (decide_eq_false hX.sne)) (gg 18 ?_)
   refine za rfl rfl rfl (wc hp hX) ?_
   rintro _ _ ⟨rfl, rfl⟩
   simp only [List.nil_append]
   refine gg 17 ?_
   refine za rfl rfl rfl (mayScalar3_ok' hX) ?_
   rintro _ _ ⟨rfl, rfl⟩
   simp only [List.nil_append]
   refine gg 8 ?_
   refine sqz (zG (l := TR X 3) rfl rfl rfl kR) ?_
   first | refine stw rfl rfl ?_ | refine sts rfl rfl ?_
   refine gg 3 ?_
   exact endr1 (v := .agg (TR X 3).toArray) rfl (rc_s rfl rfl rfl rfl) (Wk.to [] (by exact trivial)) ⟨3, rfl, rfl, .inr ⟨rfl, hp⟩⟩
 · refine zo func29 rfl rfl rfl ?_
   intro w
   refine zd (zi (ku rfl rfl rfl clT ?_))
   intro bx
   refine zk rfl rfl clT ?_
   intro br
   refine gg 9 ?_
   refine sqz (q_min (t := 0) (r := ((X.length : Nat) : Int)) rfl rfl (by rw [kF, if_neg omT])) ?_
   refine sqz (q_sslh (X := X) (m := X.length) rfl rfl (Nat.le_refl _)) (gg 4 ?_)
   rw [htk]
   refine zA bx (.cs 26 (TR X 1) []) (Blk.like_rec kR) (gg 5 ?_)
   refine sqz (q_seq (q := sb []) rfl rfl (decide_eq_false hX.sne)) (gg 18 ?_)
   refine za rfl rfl rfl (wc hp hX) ?_
   rintro _ _ ⟨rfl, rfl⟩
   simp only [List.nil_append]
   refine gg 14 ?_
   refine za rfl rfl rfl (wc hp hX) ?_
   rintro _ _ ⟨rfl, rfl⟩
   simp only [List.nil_append]
   refine gg 8 ?_
   refine sqz (zG (l := TR X 1) rfl rfl rfl kR) ?_
   first | refine stw rfl rfl ?_ | refine sts rfl rfl ?_
   refine gg 3 ?_
   exact endr1 (v := .agg (TR X 1).toArray) rfl (rc_s rfl rfl rfl rfl) (Wk.to [] (by exact trivial)) ⟨1, rfl, rfl, .inl ⟨rfl, hp⟩⟩
theorem tree_ok (fb : Nat) (ps : Sl) (X : List Nat) (hX : NameT X) : Fn prog 12 [pV fb, .agg (TR X 1).toArray, .int .i64 1, zI] [(fb, .cs 50 [.int .i64 40, zS, ps.v] [])]
  (fun v H' => ∃ sty, v = .agg (TR X sty).toArray ∧ H' = [] ∧ StyT X sty) := by
 refine zo func12 rfl rfl rfl ?_
 intro w
 refine zd (zi (ku rfl rfl rfl clT ?_))
 intro bx
 refine zk rfl rfl clT ?_
 intro br
 refine gg 8 ?_
 refine sqz (qT (p := 40) (q := 1) rfl rfl omT omT) (gg 9 ?_)
 refine sca (modulo_pf (p := 1) (q := 4) omT omT omT) ?_
 refine sqz (qT (p := 1) (q := 1) rfl rfl omT omT) (sca (modulo_pf (p := 0) (q := 4) omT omT omT) ?_)
 refine sqz (q_addi (p := 1) (q := 0) rfl rfl omT omT) (sqz (zu (l := [_, _, _, _, _, _]) (zs := [zI, .string ⟨#[]⟩, .string ⟨#[]⟩, .string ⟨#[]⟩, zI, zS]) [0, 1, 2, 3, 4, 5] rfl rfl kR) (zk rfl rfl clT ?_))
 intro b9
 first | refine stw rfl rfl ?_ | refine sts rfl rfl ?_
 refine gg 42 ?_
 refine ke (fun i => i == 2 || i == 6 || i == 8 || i == 10) (fun i => i == 10) ([(bx, .cs 26 (TR X 1) [])]) zF ?_
 refine mq 0 rfl kR rfl rfl (zM rfl) ?_
 refine mq 1 rfl kR rfl rfl (zp rfl rfl rfl rfl) ?_
 refine mqh 3 rfl kR rfl rfl (fun _ => zj rfl) ?_
 refine mqh 4 rfl kR rfl rfl (fun _ => zM rfl) ?_
 refine mqh 5 rfl kR rfl rfl (fun _ => zp rfl rfl rfl rfl) ?_
 refine mql 2 rfl kR (fun hcl => ?_)
 refine za rfl rfl rfl (word_ok [] (by simp) (by simp) [95, 45] (by decide) (by decide)) ?_
 rintro _ _ ⟨w1, rfl, rfl, hw1, hw1a, hw0⟩
 obtain rfl : w1 = [] := List.eq_nil_of_length_eq_zero (by simpa using hw0)
 simp only [List.nil_append]
 refine mqn 2 hcl ?_
 refine mqh 7 rfl kR rfl rfl (fun _ => zM rfl) ?_
 refine mql 6 rfl kR (fun hcl => ?_)
 refine za rfl rfl rfl (tag0_ok fb) ?_
 rintro _ _ ⟨rfl, rfl⟩
 simp only [List.nil_append]
 refine mqn 6 hcl ?_
 refine mql 8 rfl kR (fun hcl => ?_)
 refine st1 rfl rfl ?_
 refine mqn 8 hcl (mq 9 rfl kR rfl rfl (zM rfl) ?_)
 refine mql 10 rfl kR (fun hcl => ?_)
 refine st1 rfl rfl ?_
 refine zO 10 rfl kR (gg 6 ?_)
 refine sqz (q_sne (q := sb []) rfl rfl (decide_eq_false (by simp))) ?_
 refine gg 15 ?_
 refine ke (fun i => i == 4 || i == 6 || i == 9 || i == 11) (fun i => i == 11) ([(bx, .cs 26 (TR X 1) [])]) zF ?_
 refine mqh 0 rfl kR rfl rfl (fun _ => zM rfl) ?_
 refine mqh 1 rfl kR rfl rfl (fun _ => zp rfl rfl rfl rfl) ?_
 refine mq 2 rfl kR rfl rfl (zM rfl) ?_
 refine mq 3 rfl kR rfl rfl (zp rfl rfl rfl rfl) ?_
 refine mqh 8 rfl kR rfl rfl (fun _ => zM rfl) ?_
 refine mql 4 rfl kR (fun hcl => ?_)
 refine sca (modulo_pf (p := 1) (q := 5) omT omT omT) ?_
 refine mqn 4 hcl (mq 5 rfl kR rfl rfl (qT (p := 1) (q := 1) rfl rfl omT omT) ?_)
 refine mql 6 rfl kR (fun hcl => ?_)
 refine sca (modulo_pf (p := 0) (q := 5) omT omT omT) ?_
 refine mqn 6 hcl ?_
 refine mqh 7 rfl kR rfl rfl (fun _ => q_addi (p := 1) (q := 0) rfl rfl omT omT) ?_
 refine mql 9 rfl kR (fun hcl => ?_)
 refine st1 rfl rfl ?_
 refine mqn 9 hcl (mq 10 rfl kR rfl rfl (zM rfl) ?_)
 refine mql 11 rfl kR (fun hcl => ?_)
 refine st1 rfl rfl ?_
 refine zO 11 rfl kR (gg 3 ?_)
 refine sqz (zG (l := TR X 1) rfl rfl rfl kR) (smv ?_)
 refine za rfl rfl rfl (fit_ok X hX) ?_
 rintro _ _ ⟨sty, rfl, rfl, hs⟩
 simp only [List.nil_append]
 first | refine stw rfl rfl ?_ | refine sts rfl rfl ?_
 refine gg 4 ?_
 exact endr1 (v := .agg (TR X sty).toArray) rfl (rc_s rfl rfl rfl rfl) (Wk.to [] (by exact trivial)) ⟨sty, rfl, rfl, hs⟩
structure FI (V : VL) (d : DR) : Prop where
 k : d.k = 1
 an : d.an = []
 tg : d.tg = []
 kids : d.kids = Sl.nil
 sty : d.sty = 1
 nm : NameT d.va
 H : RStr V d.hs
 P : RStr V d.ps
theorem RStr.mono {V V' : VL} {s : Sl} (hv : ∀ y ∈ V, y ∈ V') (h : RStr V s) : RStr V' s := ⟨h.1, fun i hi => by
 obtain ⟨b, off, o, X, h1, h2, h3⟩ := h.2 i hi
 exact ⟨b, off, o, X, h1, hv _ h2, h3⟩⟩
theorem FD.mono {V V' : VL} {d : DR} {hs ps : List (List Nat)} (hv : ∀ y ∈ V, y ∈ V') (h : FD V d hs ps) : FD V' d hs ps :=
 ⟨h.k, h.an, h.tg, h.kids, h.nm, h.sty, h.H.mono hv, h.P.mono hv, h.len, h.le, h.hh, h.pp, h.nd, h.ex, h.ev⟩
structure FitOK (V : VL) (fs : List DR) : Prop where
 fd : ∀ f ∈ fs, ∃ hs ps, FD V f hs ps
 ex : ∀ i f, fs[i]? = some f → 0 < i → f.ex = true
 ap : ∀ i f g, fs[i]? = some f → fs[i + 1]? = some g → f.en = false → g.ver = false ∧ g.hs.n = 0
theorem FitOK.mono {V V' : VL} {fs : List DR} (hv : ∀ y ∈ V, y ∈ V') (h : FitOK V fs) : FitOK V' fs :=
 ⟨fun f hf => by obtain ⟨a, b, c⟩ := h.fd f hf; exact ⟨a, b, c.mono hv⟩, h.ex, h.ap⟩
def lastEn (fs : List DR) : Bool := match fs.getLast? with | none => true | some f => f.en
theorem FitOK.snoc {V : VL} {fs : List DR} (h : FitOK V fs) {f : DR} {hs ps : List (List Nat)} (hf : FD V f hs ps) (he : 0 < fs.length → f.ex = true) (ha : lastEn fs = false → f.ver = false ∧ hs = []) : FitOK V (fs ++ [f]) := by
 have hln := InStr.len hf.H
 refine ⟨fun g hg => ?_, fun i g hg hi => ?_, fun i g g' hg hg' hen => ?_⟩
 · rcases List.mem_append.1 hg with hg | hg
   · exact h.fd g hg
   · rw [List.mem_singleton.1 hg]; exact ⟨hs, ps, hf⟩
 · by_cases hlt : i < fs.length
   · rw [List.getElem?_append_left hlt] at hg; exact h.ex i g hg hi
   · rw [List.getElem?_append_right omT] at hg
     have : i - fs.length = 0 := by
      have := (List.getElem?_eq_some_iff.1 hg).1
      simp at this; omega
     rw [this] at hg
     simp at hg
     rw [← hg]
     exact he omT
 · by_cases hlt : i + 1 < fs.length
   · rw [List.getElem?_append_left omT] at hg
     rw [List.getElem?_append_left hlt] at hg'
     exact h.ap i g g' hg hg' hen
   · have hl := (List.getElem?_eq_some_iff.1 hg').1
     rw [List.length_append, List.length_singleton] at hl
     have hi : i + 1 = fs.length := by omega
     rw [List.getElem?_append_right omT, hi, Nat.sub_self] at hg'
     simp at hg'
     subst hg'
     rw [List.getElem?_append_left omT] at hg
     have hla : fs.getLast? = some g := by rw [List.getLast?_eq_getElem?, ← hi]; simpa using hg
     obtain ⟨h1, h2⟩ := ha (by unfold lastEn; rw [hla]; exact hen)
     exact ⟨h1, by rw [hln, h2]; rfl⟩
theorem lastEn_snoc (fs : List DR) (f : DR) : lastEn (fs ++ [f]) = f.en := by simp [lastEn]
def FOK (oo : Option (Nat × Nat)) (n : Nat) : Prop := (n = 0 ∧ oo = none) ∨ (0 < n ∧ ∃ b c, oo = some (b, c) ∧ n ≤ c ∧ c ≤ 9223372036854775807)
instance {A : zl} {V : VL} {J : JL} : qX (XH V J ++ A) (A ++ XH V J) [] := ⟨by simpa using List.perm_append_comm⟩
abbrev fX (en ver : Bool) (m : Int) (h p : Sl) : DR := ⟨0, [], [], [], 0, Sl.nil, false, en, ver, m, m, h, p⟩
abbrev fY (va : List Nat) (sty : Int) (ex en ver : Bool) (m : Int) (h p : Sl) : DR := ⟨1, va, [], [], sty, Sl.nil, ex, en, ver, m, m, h, p⟩
theorem fit0_ok (V : VL) : Fn prog 6 [zS] (XH V []) (fun v H' => v = zS ∧ H' = XH V []) := by
 refine zo func6 rfl rfl rfl ?_
 intro w
 refine gg 22 ?_
 refine zw (σ := Unit) (fun _ => [(0, zS), (3, zS), (5, zI)]) (fun _ => XH V []) (fun _ => True) (fun _ => 0) () trivial suT (Wk.refl _) ?_
 rintro ⟨⟩ _
 refine gg 26 ?_
 exact zm rfl rfl (Wk.refl _) ⟨rfl, rfl⟩
theorem fits_ok (V : VL) (lb lc : Nat) (ls : List DR) (hls : ∀ d ∈ ls, FI V d) (hl3 : ls.length ≤ 3) (hl0 : 0 < ls.length) :
  Fn prog 6 [.slice (some ⟨lb, 0, none⟩) ls.length lc] (DRB lb lc ls :: XH V [])
   (fun v H' => ∃ ob oc fs V', v = .slice (some ⟨ob, 0, none⟩) fs.length oc ∧ H' = DRB ob oc fs :: XH V' [] ∧ (∀ y ∈ V, y ∈ V') ∧ FitOK V' fs ∧ fs.length = ls.length) := by
 refine zo func6 rfl rfl rfl ?_
 intro w
 refine gg 22 ?_
 refine zw (σ := Nat × VL × Option (Nat × Nat) × List DR) (fun x => [(0, .slice (some ⟨lb, 0, none⟩) ls.length lc), (3, (TSS x.2.2.1 x.1).v), (4, .bool (lastEn x.2.2.2)), (5, .int .i64 (x.1 : Nat))]) (fun x => DRB lb lc ls :: (DOH x.2.2.1 x.2.2.2 ++ XH x.2.1 [])) (fun x => x.1 ≤ ls.length ∧ x.2.2.2.length = x.1 ∧ (∀ y ∈ V, y ∈ x.2.1) ∧ FitOK x.2.1 x.2.2.2 ∧ FOK x.2.2.1 x.1) (fun x => ls.length - x.1) (0, V, none, []) ⟨Nat.zero_le _, rfl, fun _ h => h, ⟨by simp, by simp, by simp⟩, .inl ⟨rfl, rfl⟩⟩ suT (Wk.refl _) ?_
 rintro ⟨i, V1, oo, fs⟩ ⟨hi, hfl, hv, hf, ho⟩
 dsimp only at hi hfl hv hf ho
 refine zt (DRB lb lc ls :: (DOH oo fs ++ XH V1 [])) [(0, .slice (some ⟨lb, 0, none⟩) ls.length lc), (3, (TSS oo i).v), (4, .bool (lastEn fs)), (5, .int .i64 (i : Nat))] rfl rfl (zd ?_)
 by_cases hlt : i < ls.length
 ·
  refine gg 12 ?_
  obtain ⟨d, hd⟩ : ∃ d, ls[i]? = some d := ⟨_, List.getElem?_eq_getElem hlt⟩
  have hdI := hls d (List.mem_of_getElem? hd)
  obtain ⟨dk, dva, dan, dtg, dsty, dkids, dex, den, dver, dmaj, dmin, dhs, dps⟩ := d
  obtain ⟨hk, han, htg, hkd, hsty, hnm, hH, hP⟩ := hdI
  dsimp only at hk han htg hkd hsty hnm hH hP
  subst hk han htg hkd hsty
  refine gg 9 ?_
  refine sqz (zy (i := i) rfl rfl rfl omT rfl) (sqz (q_lddr (i := i) rfl omT hd) (zk rfl rfl clT ?_))
  intro b6
  first | refine stw rfl rfl ?_ | refine sts rfl rfl ?_
  refine gg 6 ?_
  refine sqz (zu (l := [_, _, _, _, _, _, _, _, _, _, _, _, _]) (zs := [zI, .string ⟨#[]⟩, .string ⟨#[]⟩, .string ⟨#[]⟩, zI, zS, .bool false, .bool false, .bool false, zI, zI, zS, zS]) [0, 6, 7, 8, 9, 10, 11, 12] rfl rfl kR) ?_
  refine zk rfl rfl clT ?_
  intro b7
  first | refine stw rfl rfl ?_ | refine sts rfl rfl ?_
  refine ze ?_
  refine zf (zA b6 (.cs 29 (drC ⟨1, dva, [], [], 1, Sl.nil, dex, den, dver, dmaj, dmin, dhs, dps⟩) []) (Blk.like_rec kR) (zA b7 (.cs 29 (drC (fX den false 0 Sl.nil Sl.nil)) []) (Blk.like_rec kR) ?_))
  refine zL (σ := Bool × VL × Sl × Sl × List (List Nat) × List (List Nat)) (fun x => [(0, .slice (some ⟨lb, 0, none⟩) ls.length lc), (3, (TSS oo i).v), (5, .int .i64 (i : Nat)), (6, pV b6), (7, pV b7)]) (fun x => (b7, .cs 29 (drC (fX den x.1 0 x.2.2.1 x.2.2.2.1)) []) :: (b6, .cs 29 (drC ⟨1, dva, [], [], 1, Sl.nil, dex, den, dver, dmaj, dmin, dhs, dps⟩) []) :: DRB lb lc ls :: (DOH oo fs ++ XH x.2.1 [])) (fun x => (∀ y ∈ V1, y ∈ x.2.1) ∧ InStr x.2.1 x.2.2.1 x.2.2.2.2.1 ∧ InStr x.2.1 x.2.2.2.1 x.2.2.2.2.2 ∧ FH x.2.2.2.2.1 x.2.2.2.2.2 ∧ (lastEn fs = false → x.1 = false ∧ x.2.2.2.2.1 = [])) ?_ ?_
  ·
   cases hla : lastEn fs
   ·
    refine gg 7 ?_
    exact zg (false, V1, Sl.nil, Sl.nil, [], []) ⟨fun _ h => h, .inl ⟨rfl, rfl⟩, .inl ⟨rfl, rfl⟩, ⟨rfl, by simp, by simp, by simp, by simp⟩, fun _ => ⟨rfl, rfl⟩⟩ suT (Wk.refl _)
   ·
    refine gg 19 ?_
    refine za rfl rfl rfl (fitHandles_ok V1 dhs dps (hH.mono hv) (hP.mono hv)) ?_
    rintro _ _ ⟨h, p, hl, pl, V2, rfl, rfl, hv2, hiH, hiP, hFH⟩
    refine lS ?_
    refine gg 8 ?_
    exact zg (dver, V2, h, p, hl, pl) ⟨hv2, hiH, hiP, hFH, fun e => (by cases e)⟩ suT (Wk.toT (DOH oo fs ++ XH V2 []) [b7, b6, lb] wlT)
  ·
   rintro ⟨ver, V2, h, p, hl, pl⟩ ⟨hv2, hiH, hiP, hFH, hap⟩
   dsimp only at hv2 hiH hiP hFH hap
   refine zt ((b7, .cs 29 (drC (fX den ver 0 h p)) []) :: (b6, .cs 29 (drC ⟨1, dva, [], [], 1, Sl.nil, dex, den, dver, dmaj, dmin, dhs, dps⟩) []) :: DRB lb lc ls :: (DOH oo fs ++ XH V2 [])) [(0, .slice (some ⟨lb, 0, none⟩) ls.length lc), (3, (TSS oo i).v), (5, .int .i64 (i : Nat)), (6, pV b6), (7, pV b7)] rfl rfl ?_
   refine zL (σ := Unit) (fun _ => [(0, .slice (some ⟨lb, 0, none⟩) ls.length lc), (3, (TSS oo i).v), (5, .int .i64 (i : Nat)), (6, pV b6), (7, pV b7)]) (fun _ => (b7, .cs 29 (drC (fX den ver (if ver then 1 else 0) h p)) []) :: (b6, .cs 29 (drC ⟨1, dva, [], [], 1, Sl.nil, dex, den, dver, dmaj, dmin, dhs, dps⟩) []) :: DRB lb lc ls :: (DOH oo fs ++ XH V2 [])) (fun _ => True) ?_ ?_
   ·
    rcases ver with _ | _
    ·
     refine gg 3 ?_
     refine sqz (zp (v := .bool false) rfl rfl rfl rfl) (gg 4 ?_)
     exact zg () trivial suT (Wk.refl _)
    ·
     refine gg 3 ?_
     refine sqz (zp (v := .bool true) rfl rfl rfl rfl) (gg 9 ?_)
     exact zg () trivial suT (Wk.toT (DOH oo fs ++ XH V2 []) [b7, b6, lb] wlT)
   ·
    rintro ⟨⟩ _
    refine gg 4 ?_
    refine sqz (zu (l := [_, _, _]) (zs := [zI, zS, zS]) [0, 1, 2] rfl rfl kR) (ku rfl rfl rfl clT ?_)
    intro fb
    refine gg 7 ?_
    refine sqz (zG (l := TR dva 1) rfl rfl rfl kR) (za rfl rfl rfl (tree_ok fb p dva hnm) ?_)
    rintro _ _ ⟨sty, rfl, rfl, hsty⟩
    simp only [List.nil_append]
    refine sfa ?_
    first | refine stw rfl rfl ?_ | refine sts rfl rfl ?_
    refine ze ?_
    refine zf ?_
    refine zL (σ := Bool) (fun _ => [(0, .slice (some ⟨lb, 0, none⟩) ls.length lc), (3, (TSS oo i).v), (5, .int .i64 (i : Nat)), (6, pV b6), (7, pV b7)]) (fun x => (b7, .cs 29 (drC (fY dva sty x den ver (if ver then 1 else 0) h p)) []) :: (b6, .cs 29 (drC ⟨1, dva, [], [], 1, Sl.nil, dex, den, dver, dmaj, dmin, dhs, dps⟩) []) :: DRB lb lc ls :: (DOH oo fs ++ XH V2 [])) (fun x => (0 < i → x = true) ∧ (x = false → ver = false ∧ hl = [])) ?_ ?_
    ·
     rcases dex with _ | _
     ·
      refine zi (sfa ?_)
      refine sqz (zp (v := .bool false) rfl rfl rfl rfl) (smv ?_)
      refine smv ?_
      by_cases h0 : 0 < i
      ·
       refine gg 20 ?_
       exact zg true ⟨fun _ => rfl, fun e => (by cases e)⟩ suT (Wk.toT (DOH oo fs ++ XH V2 []) [b7, b6, lb] wlT)
      ·
       refine gg 4 ?_
       rcases ver with _ | _
       ·
        refine sqz (zp (v := .bool false) rfl rfl rfl rfl) (gg 5 ?_)
        by_cases h1 : 0 < h.n
        ·
         refine gg 10 ?_
         exact zg true ⟨fun _ => rfl, fun e => (by cases e)⟩ suT (Wk.toT (DOH oo fs ++ XH V2 []) [b7, b6, lb] wlT)
        ·
         refine gg 4 ?_
         refine sqz (zG (l := TR dva sty) rfl rfl rfl kR) (za rfl rfl rfl (void_ok dva sty hsty.two hnm.ne) ?_)
         rintro _ _ ⟨rfl, rfl⟩
         simp only [List.nil_append]
         refine gg 4 ?_
         exact zg false ⟨fun e => absurd e h0, fun _ => ⟨by trivial, List.eq_nil_of_length_eq_zero (by have := InStr.len hiH; omega)⟩⟩ suT (Wk.toT (DOH oo fs ++ XH V2 []) [b7, b6, lb] wlT)
       ·
        refine sqz (zp (v := .bool true) rfl rfl rfl rfl) (gg 15 ?_)
        exact zg true ⟨fun _ => rfl, fun e => (by cases e)⟩ suT (Wk.toT (DOH oo fs ++ XH V2 []) [b7, b6, lb] wlT)
     ·
      refine zi (sfa ?_)
      refine sqz (zp (v := .bool true) rfl rfl rfl rfl) (gg 22 ?_)
      exact zg true ⟨fun _ => rfl, fun e => (by cases e)⟩ suT (Wk.toT (DOH oo fs ++ XH V2 []) [b7, b6, lb] wlT)
    ·
     rintro ex ⟨hex1, hex2⟩
     have hFD : FD V2 (fY dva sty ex den ver (if ver then 1 else 0) h p) hl pl := ⟨rfl, rfl, rfl, rfl, hnm, hsty, hiH, hiP, hFH.len, hFH.le, hFH.hh, hFH.pp, hFH.nd, hex2, ⟨rfl, rfl⟩⟩
     have hnew := (hf.mono hv2).snoc hFD (by rw [hfl]; exact hex1) hap
     have hlen : (drL fs).length = i * 13 := by rw [drL_length, hfl]
     refine gg 7 ?_
     rcases ho with ⟨rfl, rfl⟩ | ⟨hi0, ob, oc, rfl, ho1, ho2⟩
     ·
      obtain rfl : fs = [] := List.eq_nil_of_length_eq_zero hfl
      refine kq (E' := [(0, .slice (some ⟨lb, 0, none⟩) ls.length lc), (3, zS), (4, .bool den), (5, .int .i64 (0 : Nat)), (7, pV b7)]) (H' := (b7, .cs 29 (drC (fY dva sty ex den ver (if ver then 1 else 0) h p)) []) :: DRB lb lc ls :: XH V2 []) suT (Wk.toT (XH V2 []) [b7, lb] wlT) ?_
      refine zi (smv ?_)
      refine sqz (zG (l := drC (fY dva sty ex den ver (if ver then 1 else 0) h p)) rfl rfl rfl kR) (s_bsw (sz := 13) (l := drC (fY dva sty ex den ver (if ver then 1 else 0) h p)) rfl rfl rfl rfl rfl rfl rfl ?_)
      intro s1
      refine kr (sz := 13) (bs := 160) (news := drC (fY dva sty ex den ver (if ver then 1 else 0) h p)) rfl rfl rfl rfl rfl (zN (k := .cs 29 (drC (fY dva sty ex den ver (if ver then 1 else 0) h p)) []) (Nat.le_refl _) (Nat.le_refl _) (fun j u hj => by simp only [Blk.cell, look, nth, Nat.zero_add]; exact hj)) rfl (by decide) (by decide) (by decide) ?_
      intro b2 c2 g1 g2
      refine gg 9 ?_
      exact zh (1, V2, some (b2, c2), [] ++ [fY dva sty ex den ver (if ver then 1 else 0) h p]) ⟨omT, rfl, fun y hy => hv2 y (hv y hy), hnew, .inr ⟨omT, b2, c2, rfl, g1, g2⟩⟩ omT (by rw [lastEn_snoc]; repeat (first | exact trivial | refine ⟨rfl, ?_⟩)) (Wk.toT (XH V2 []) [lb, b2] (by exact ⟨rfl, .inl rfl, rfl, .inl rfl, rfl⟩))
     ·
      refine kq (E' := [(0, .slice (some ⟨lb, 0, none⟩) ls.length lc), (3, .slice (some ⟨ob, 0, none⟩) i oc), (4, .bool den), (5, .int .i64 (i : Nat)), (7, pV b7)]) (H' := (b7, .cs 29 (drC (fY dva sty ex den ver (if ver then 1 else 0) h p)) []) :: DRB lb lc ls :: DRB ob oc fs :: XH V2 []) suT (Wk.toT (DOH (some (ob, oc)) fs ++ XH V2 []) [b7, lb] wlT) ?_
      refine zi (smv ?_)
      refine sqz (zG (l := drC (fY dva sty ex den ver (if ver then 1 else 0) h p)) rfl rfl rfl kR) (s_bsw (sz := 13) (l := drC (fY dva sty ex den ver (if ver then 1 else 0) h p)) rfl rfl rfl rfl rfl rfl rfl ?_)
      intro s1
      refine zY (b := ob) (n0 := i) (cap := oc) (sz := 13) (bs := 160) (news := drC (fY dva sty ex den ver (if ver then 1 else 0) h p)) rfl rfl rfl rfl rfl hlen ho1 ho2 rfl (zN (k := .cs 29 (drC (fY dva sty ex den ver (if ver then 1 else 0) h p)) []) (Nat.le_refl _) (Nat.le_refl _) (fun j u hj => by simp only [Blk.cell, look, nth, Nat.zero_add]; exact hj)) rfl (drC_one _) omT omT ?_
      intro b2 c2 g1 g2
      refine gg 9 ?_
      exact zh (i + 1, V2, some (b2, c2), fs ++ [fY dva sty ex den ver (if ver then 1 else 0) h p]) ⟨omT, by simp; omega, fun y hy => hv2 y (hv y hy), hnew, .inr ⟨omT, b2, c2, rfl, g1, g2⟩⟩ omT (by dsimp only; rw [lastEn_snoc]; repeat (first | exact trivial | refine ⟨rfl, ?_⟩)) (Wk.toT (XH V2 []) [lb, b2] (by exact ⟨rfl, .inl rfl, rfl, .inl (by rw [drL_app]; simp [drL]), rfl⟩))
 ·
  refine gg 18 ?_
  obtain ⟨ob, oc, rfl, ho1, ho2⟩ : ∃ ob oc, oo = some (ob, oc) ∧ i ≤ oc ∧ oc ≤ 9223372036854775807 := ho.elim (fun h => absurd h.1 omT) (fun h => h.2)
  ·
   refine kq (E' := [(3, .slice (some ⟨ob, 0, none⟩) i oc)]) (H' := DRB lb lc ls :: DRB ob oc fs :: XH V1 []) suT (Wk.refl _) ?_
   subst hfl
   refine gg 7 ?_
   exact zm (H' := DRB ob oc fs :: XH V1 []) rfl rfl (Wk.toT (XH V1 []) [ob] wlT) ⟨ob, oc, fs, V1, rfl, rfl, hv, hf, by omega⟩
theorem dts_kind {hs ps : List (List Nat)} {ver : Bool} {r : Nat} (hh : ∀ h ∈ hs, HanT h) (hp : ∀ p ∈ ps, PreT p) : ∀ i, ∀ t ∈ dts hs ps ver r i, t = .ver ∨ ∃ h p, t = .tag h p ∧ HanT h ∧ PreT p
 | 0, t, h => by simp [dts] at h
 | i + 1, t, h => by
  simp only [dts, List.mem_append] at h
  rcases h with h | h | h
  · exact dts_kind hh hp i t h
  · split at h
    · exact .inl (List.mem_singleton.1 h)
    · cases h
  · split at h
    · rename_i x y hx hy
      rw [List.mem_singleton.1 h]
      exact .inr ⟨x, y, rfl, hh _ (List.mem_of_getElem? hx), hp _ (List.mem_of_getElem? hy)⟩
    · cases h
theorem dts_tags {hs ps : List (List Nat)} {ver : Bool} {r : Nat} (hl : ps.length = hs.length) : ∀ i, qf (dts hs ps ver r i) = (hs.zip ps).take i
 | 0 => by simp [dts, qf]
 | i + 1 => by
  have ih := dts_tags (ver := ver) (r := r) hl i
  simp only [dts, tagsL_app, ih]
  have e1 : qf (if ver = true ∧ i = r then [Tk.ver] else []) = [] := by split <;> rfl
  rw [e1, List.nil_append, List.take_add_one]
  congr 1
  by_cases hi : i < hs.length
  · have h1 : hs[i]? = some hs[i] := List.getElem?_eq_getElem hi
    have h2 : ps[i]? = some (ps[i]'omT) := List.getElem?_eq_getElem omT
    have h3 : (hs.zip ps)[i]? = some (hs[i], ps[i]'omT) := by rw [List.getElem?_zip_eq_some]; exact ⟨h1, h2⟩
    rw [h1, h2, h3]
    rfl
  · have h1 : hs[i]? = none := List.getElem?_eq_none omT
    have h3 : (hs.zip ps)[i]? = none := List.getElem?_eq_none (by rw [List.length_zip]; omega)
    rw [h1, h3]
    rfl
theorem dts_cnt (hs ps : List (List Nat)) (ver : Bool) (r : Nat) : ∀ i, (dts hs ps ver r i).countP isVer = if ver = true ∧ r < i then 1 else 0
 | 0 => by simp [dts]
 | i + 1 => by
  have e3 : (dts hs ps ver r (i + 1)).countP isVer = (dts hs ps ver r i).countP isVer + ((if ver = true ∧ i = r then [Tk.ver] else []).countP isVer + 0) := by
    simp only [dts, List.countP_append]
    congr 1
    congr 1
    cases hs[i]? <;> cases ps[i]? <;> rfl
  rw [e3, dts_cnt hs ps ver r i]
  by_cases hv : ver = true
  · by_cases h1 : r < i
    · rw [if_pos ⟨hv, h1⟩, if_neg omT, if_pos ⟨hv, by omega⟩]; rfl
    · by_cases h2 : i = r
      · rw [if_neg omT, if_pos ⟨hv, h2⟩, if_pos ⟨hv, by omega⟩]; rfl
      · rw [if_neg omT, if_neg omT, if_neg omT]; rfl
  · rw [if_neg (by simp [hv]), if_neg (by simp [hv]), if_neg (by simp [hv])]; rfl
theorem verL_cnt (l : List Tk) : verL l = decide (0 < l.countP isVer) := by
 induction l with
 | nil => rfl
 | cons t l ih =>
  have e : verL (t :: l) = (isVer t || verL l) := rfl
  rw [e, ih, List.countP_cons]
  cases isVer t <;> simp
theorem dts_ver {hs ps : List (List Nat)} {ver : Bool} {r : Nat} (hr : r ≤ hs.length) : verL (dts hs ps ver r (hs.length + 1)) = ver := by
 rw [verL_cnt, dts_cnt]
 cases ver
 · simp
 · rw [if_pos ⟨rfl, by omega⟩]; rfl
theorem dts_dir {V : VL} {d : DR} {hs ps : List (List Nat)} (h : FD V d hs ps) {r : Nat} : DirOK (dts hs ps d.ver r (hs.length + 1)) := by
 have hzl : (hs.zip ps).length = hs.length := by rw [List.length_zip, h.len, Nat.min_self]
 have htags : qf (dts hs ps d.ver r (hs.length + 1)) = hs.zip ps := by rw [dts_tags h.len, List.take_of_length_le omT]
 refine ⟨dts_kind h.hh h.pp _, ?_, fun a b e => ?_, fun a b x p e => ?_⟩
 · have := dts_le hs ps d.ver r (hs.length + 1)
   have := h.le
   omega
 · have hc := dts_cnt hs ps d.ver r (hs.length + 1)
   rw [e, List.countP_append, List.countP_cons] at hc
   have h1 : (if isVer Tk.ver = true then 1 else 0) = 1 := rfl
   rw [h1] at hc
   rw [verL_cnt]
   have : a.countP isVer = 0 := by split at hc <;> omega
   rw [this]; rfl
 · have ht : qf a ++ (x, p) :: qf b = hs.zip ps := by
    rw [← htags, e, tagsL_app]
    rfl
   have hm := congrArg (List.map Prod.fst) ht
   rw [List.map_fst_zip (by have := h.len; omega), List.map_append, List.map_cons] at hm
   have hnd := h.nd
   rw [← hm, List.nodup_append] at hnd
   intro hx
   exact hnd.2.2 _ hx _ (List.mem_cons_self ..) rfl
theorem fd_doc {V : VL} {d : DR} {q : kP} {hs ps : List (List Nat)} {r : Nat} (h : Rl V d q hs ps r) : DocOK q := by
 refine ⟨by rw [h.nm]; exact h.fd.nm, by rw [h.dt]; exact dts_dir h.fd, fun e => ?_⟩
 obtain ⟨h1, h2⟩ := h.fd.ex (by rw [← h.ex]; exact e)
 have h3 : ps = [] := List.eq_nil_of_length_eq_zero (by rw [h.fd.len, h2]; rfl)
 rw [h.dt, h1, h2, h3]
 rfl
theorem RL.len {V : VL} {ds : List DR} {qs : List kP} (h : RL V ds qs) : qs.length = ds.length := by
 induction h with
 | nil => rfl
 | cons _ _ ih => simp [ih]
theorem RL.get {V : VL} {ds : List DR} {qs : List kP} (h : RL V ds qs) : ∀ {i : Nat} {q : kP}, qs[i]? = some q → ∃ d hs ps r, ds[i]? = some d ∧ Rl V d q hs ps r := by
 induction h with
 | nil => intro i q h; simp at h
 | @cons d q0 ds qs hs ps r h1 _ ih =>
  intro i q hq
  cases i with
  | zero => simp at hq; subst hq; exact ⟨d, hs, ps, r, rfl, h1⟩
  | succ i => simp at hq; obtain ⟨d', hs', ps', r', g1, g2⟩ := ih hq; exact ⟨d', hs', ps', r', by simpa using g1, g2⟩
theorem RL.docs {V : VL} {ds : List DR} {qs : List kP} (h : RL V ds qs) : ∀ q ∈ qs, DocOK q := fun q hq => by
 obtain ⟨i, hi⟩ := List.getElem?_of_mem hq
 obtain ⟨d, hs, ps, r, _, h1⟩ := h.get hi
 exact fd_doc h1
theorem pcs_docs {qs : List kP} {x : List Nat} (h : PcsT qs x) (hn : ∀ q ∈ qs, NameT q.nm) (hex : ∀ i q, qs[i]? = some q → 0 < i → q.ex = true) (hap : ∀ i q q', qs[i]? = some q → qs[i + 1]? = some q' → q.en = false → q'.dt = []) : DocsT qs x := by
 induction h with
 | nil => exact .nil
 | @cons d ds x y z hb ht hz ih =>
  refine .cons (hn d (by simp)) hb ht (ih (fun q hq => hn q (by simp [hq])) (fun i q hq _ => hex (i + 1) q (by simpa using hq) omT) (fun i q q' h1 h2 => hap (i + 1) q q' (by simpa using h1) (by simpa using h2))) ?_ ?_
  · intro hen d' hd'
    have hd0 : ds[0]? = some d' := by rw [← List.head?_eq_getElem?]; exact hd'
    exact ⟨hex 1 d' (by simpa using hd0) omT, hap 0 d d' rfl (by simpa using hd0) hen⟩
  · intro d' hd'
    obtain ⟨i, hi⟩ := List.getElem?_of_mem hd'
    exact hex (i + 1) d' (by simpa using hi) omT
theorem dts_nil {ps : List (List Nat)} {r i : Nat} : dts [] ps false r i = [] := by
 induction i with
 | zero => rfl
 | succ i ih => simp [dts, ih]
theorem strx_stream {V : VL} {fs : List DR} {X : List Nat} (h : StrX V fs X) (hf : FitOK V fs) : ∃ qs, StreamT qs X ∧ RL V fs qs ∧ ∀ q ∈ qs.tail, q.ex = true := by
 obtain ⟨qs, l, x, rfl, hl, hq, hx⟩ := h
 have hex : ∀ i q, qs[i]? = some q → 0 < i → q.ex = true := fun i q hi h0 => by
   obtain ⟨d, hs, ps, r, g1, g2⟩ := hq.get hi
   rw [g2.ex]; exact hf.ex i d g1 h0
 refine ⟨qs, ⟨l, x, rfl, hl, pcs_docs hx (fun q hqm => (hq.docs q hqm).nm) hex ?_⟩, hq, fun q hqm => ?_⟩
 · intro i q q' h1 h2 hen
   obtain ⟨d, hs, ps, r, g1, g2⟩ := hq.get h1
   obtain ⟨d', hs', ps', r', g1', g2'⟩ := hq.get h2
   obtain ⟨k1, k2⟩ := hf.ap i d d' g1 g1' (by rw [← g2.en]; exact hen)
   have : hs' = [] := List.eq_nil_of_length_eq_zero (by rw [← InStr.len g2'.fd.H]; exact k2)
   rw [g2'.dt, k1, this, dts_nil]
 · obtain ⟨i, hi⟩ := List.getElem?_of_mem hqm
   exact hex (i + 1) q (by simpa [List.getElem?_tail] using hi) omT
structure EA (V : VL) (a : AE) (s : ER) : Prop where
 k : s.k = a.k
 ver : s.ver = a.ver
 maj : s.maj = (if a.ver then 1 else 0)
 min : s.min = (if a.ver then 1 else 0)
 hs : InStr V s.hs a.hs
 ps : InStr V s.ps a.ps
 hl : a.hs.length ≤ 1000000 ∧ a.ps.length ≤ 1000000
 an : s.an = []
 tg : s.tg = []
 va : s.va = a.va
 im : a.k ≠ 3 → s.im = a.im
 qu : s.qu = a.qu
 sty : s.sty = a.sty
theorem EA.eq {V W : VL} {a : AE} {r s : ER} (h : EA V a s) (hr : ERok W r a) : EQr (W ++ V) r s := by
 refine ⟨hr.k.trans h.k.symm, hr.an.trans h.an.symm, hr.tg.trans h.tg.symm, hr.va.trans h.va.symm, hr.ver.trans h.ver.symm, hr.maj.trans h.maj.symm, hr.min.trans h.min.symm, ?_, ?_, hr.sty.trans h.sty.symm, ?_, hr.qu.trans h.qu.symm⟩
 · exact ⟨a.hs, hr.hs.mono (fun _ h => List.mem_append_left _ h), h.hs.mono (fun _ h => List.mem_append_right _ h), h.hl.1⟩
 · exact ⟨a.ps, hr.ps.mono (fun _ h => List.mem_append_left _ h), h.ps.mono (fun _ h => List.mem_append_right _ h), h.hl.2⟩
 · intro hk
   rw [hr.k] at hk
   exact hr.im.trans (h.im hk).symm
inductive EAs (V : VL) : List AE → List ER → Prop
 | nil : EAs V [] []
 | cons {a : AE} {s : ER} {us : List AE} {ss : List ER} (h : EA V a s) (k : EAs V us ss) : EAs V (a :: us) (s :: ss)
theorem EAs.app {V : VL} {us bs : List AE} {ss ts : List ER} (h : EAs V us ss) (h' : EAs V bs ts) : EAs V (us ++ bs) (ss ++ ts) := by
 induction h with
 | nil => exact h'
 | cons h _ ih => exact .cons h ih
theorem EAs.len {V : VL} {us : List AE} {ss : List ER} (h : EAs V us ss) : us.length = ss.length := by
 induction h with
 | nil => rfl
 | cons _ _ ih => simp [ih]
theorem EAs.get {V : VL} {us : List AE} {ss : List ER} (h : EAs V us ss) : ∀ {i : Nat} {s : ER}, ss[i]? = some s → ∃ a, us[i]? = some a ∧ EA V a s := by
 induction h with
 | nil => intro i s h; simp at h
 | cons h1 _ ih =>
  intro i s hs
  cases i with
  | zero => simp at hs; subst hs; exact ⟨_, rfl, h1⟩
  | succ i => simp at hs; obtain ⟨a, g1, g2⟩ := ih hs; exact ⟨a, by simpa using g1, g2⟩
theorem EAs.eqs {V W : VL} {us : List AE} {rs ss : List ER} (h : EAs V us ss) (hr : ERs W rs us) : EQs (W ++ V) rs ss := by
 refine ⟨hr.1.trans h.len, fun i r s h1 h2 => ?_⟩
 obtain ⟨a, g1, g2⟩ := h.get h2
 exact g2.eq (hr.2 i r a h1 g1)
theorem ea_x {V : VL} {a : AE} {k : Int} (ha : a = ⟨k, false, [], [], [], false, false, 0⟩) : EA V a (erX k) := by
 subst ha
 exact ⟨rfl, rfl, rfl, rfl, .inl ⟨rfl, rfl⟩, .inl ⟨rfl, rfl⟩, by simp, rfl, rfl, rfl, fun _ => rfl, rfl, rfl⟩
theorem doc_ea {V : VL} {d : DR} {q : kP} {hs ps : List (List Nat)} {r : Nat} (h : Rl V d q hs ps r) : EAs V [aeD q, aeC q, aeE q] [erDS d, erSC d, erDE d] := by
 have hf := h.fd
 have hzl : (hs.zip ps).length = hs.length := by rw [List.length_zip, hf.len, Nat.min_self]
 have htags : qf q.dt = hs.zip ps := by rw [h.dt, dts_tags hf.len, List.take_of_length_le omT]
 have e1 : (qf q.dt).map (·.1) = hs := by rw [htags]; exact List.map_fst_zip (by have := hf.len; omega)
 have e2 : (qf q.dt).map (·.2) = ps := by rw [htags]; exact List.map_snd_zip (by have := hf.len; omega)
 have e3 : verL q.dt = d.ver := by rw [h.dt]; exact dts_ver h.hr
 have hle := hf.le
 have hlen := hf.len
 refine .cons ⟨rfl, e3.symm, ?_, ?_, ?_, ?_, ?_, rfl, rfl, rfl, fun e => absurd rfl e, rfl, rfl⟩ (.cons ⟨rfl, rfl, rfl, rfl, .inl ⟨rfl, rfl⟩, .inl ⟨rfl, rfl⟩, by simp [aeC], hf.an, hf.tg, h.nm.symm, fun _ => ?_, ?_, ?_⟩ (.cons ⟨rfl, rfl, rfl, rfl, .inl ⟨rfl, rfl⟩, .inl ⟨rfl, rfl⟩, by simp [aeE], rfl, rfl, rfl, fun _ => by show (!d.en) = (!q.en); rw [h.en], rfl, rfl⟩ .nil))
 · show d.maj = (if verL q.dt then 1 else 0); rw [e3]; exact hf.ev.1
 · show d.min = (if verL q.dt then 1 else 0); rw [e3]; exact hf.ev.2
 · show InStr V d.hs ((qf q.dt).map (·.1)); rw [e1]; exact hf.H
 · show InStr V d.ps ((qf q.dt).map (·.2)); rw [e2]; exact hf.P
 · show ((qf q.dt).map (·.1)).length ≤ 1000000 ∧ ((qf q.dt).map (·.2)).length ≤ 1000000
   rw [e1, e2]; omega
 · show decide (d.sty = 1) = kT q.nm
   rw [h.nm]
   rcases hf.sty with ⟨h1, h2⟩ | ⟨h1, h2⟩ <;> rw [h1, h2] <;> rfl
 · show decide (d.sty = 3) = !kT q.nm
   rw [h.nm]
   rcases hf.sty with ⟨h1, h2⟩ | ⟨h1, h2⟩ <;> rw [h1, h2] <;> rfl
 · show d.sty = if kT q.nm then 1 else 3
   rw [h.nm]
   rcases hf.sty with ⟨h1, h2⟩ | ⟨h1, h2⟩ <;> rw [h1, h2] <;> rfl
theorem docs_ea {V : VL} {ds : List DR} {qs : List kP} (h : RL V ds qs) : EAs V (aeS :: docsE qs) (erX 1 :: (evD ds ++ [erX 2])) := by
 refine .cons (ea_x rfl) (EAs.app ?_ (.cons (ea_x rfl) .nil))
 induction h with
 | nil => exact .nil
 | cons h1 _ ih => exact (doc_ea h1).app ih
theorem stream_str {qs : List kP} {X : List Nat} (h : StreamT qs X) (hq : ∀ q ∈ qs, DocOK q) (h3 : qs.length ≤ 3) : ∃ p f, Str X p f (1 + (kW qs).length) ∧ p 1 = sk X 0 ∧ Al f 1 (kW qs) := by
 obtain ⟨p, hp0, hp⟩ := (stream_ch h).str
 refine ⟨fun j => p (j - 1), fun j => match j with | 0 => .ss | j + 1 => (kW qs)[j]?.getD .se, ⟨rfl, fun j hj => ?_, fun j hj => ?_, by omega, ?_⟩, hp0, fun k => ?_⟩
 · cases j with
   | zero => omega
   | succ j => exact hp j
 · cases j with
   | zero => omega
   | succ j => simp only; rw [List.getElem?_eq_none omT]; rfl
 · have hd : ∀ qs : List kP, (∀ q ∈ qs, DocOK q) → (kW qs).length ≤ 20 * qs.length := by
    intro qs
    induction qs with
    | nil => intro _; simp [kW]
    | cons q qs ih =>
     intro hq
     have h1 := ih (fun q' h' => hq q' (by simp [h']))
     have h2 := (hq q (by simp)).dir.len
     have h4 : (qO q).length ≤ 20 := by
      unfold qO
      simp only [List.length_append]
      split <;> split <;> simp <;> omega
     have : kW (q :: qs) = qO q ++ kW qs := rfl
     rw [this, List.length_append, List.length_cons]
     omega
   have := hd qs hq
   omega
 · rw [show 1 + k = k + 1 by omega]
end Go.Proofs.YtnfbcfflkphbiaaGreatDoor
