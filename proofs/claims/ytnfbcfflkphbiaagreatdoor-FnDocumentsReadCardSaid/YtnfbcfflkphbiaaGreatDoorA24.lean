/-
  Texts of the proof, joined: F22. No Go text.
-/
import Derived.Test.YtnfbcfflkphbiaaGreatDoorA01
import Derived.Test.YtnfbcfflkphbiaaGreatDoorA08
import Derived.Test.YtnfbcfflkphbiaaGreatDoorA23
namespace Go.Proofs.YtnfbcfflkphbiaaGreatDoor
open Go Go.Proofs Tryz
set_option linter.all false
set_option maxRecDepth 100000
set_option maxHeartbeats 8000000
def tgs (f : Nat → Tk) (i : Nat) : Nat → List (List Nat × List Nat)
 | 0 => []
 | c + 1 => tgs f i c ++ (match f (i + c) with | .tag h p => [(h, p)] | _ => [])
theorem wl (f : Nat → Tk) (i : Nat) : ∀ c, (tgs f i c).length ≤ c
 | 0 => Nat.le_refl _
 | c + 1 => by
  have := wl f i c
  simp only [tgs, List.length_append]
  split <;> simp <;> omega
def vrs (f : Nat → Tk) (i : Nat) : Nat → Bool
 | 0 => false
 | c + 1 => vrs f i c || (match f (i + c) with | .ver => true | _ => false)
structure LDR (V : VL) (o : Option (Nat × Nat)) (es : List (Sl × Sl)) (tg : List (List Nat × List Nat)) : Prop where
 none_ : o = none → es = []
 cap : ∀ b c, o = some (b, c) → es.length ≤ c ∧ c ≤ 9223372036854775807
 len : es.length = tg.length
 get : ∀ (k : Nat) (e : Sl × Sl) (t : List Nat × List Nat), es[k]? = some e → tg[k]? = some t → InV V e.1 t.1 ∧ InV V e.2 t.2
theorem LDR.keep {V V' : VL} {o : Option (Nat × Nat)} {es : List (Sl × Sl)} {tg : List (List Nat × List Nat)} (hv : ∀ y ∈ V, NTD y → y ∈ V') (h : LDR V o es tg) : LDR V' o es tg :=
 ⟨h.none_, h.cap, h.len, fun k e t h1 h2 => ⟨(h.get k e t h1 h2).1.keep hv, (h.get k e t h1 h2).2.keep hv⟩⟩
theorem LDR.add {V : VL} {o : Option (Nat × Nat)} {es : List (Sl × Sl)} {tg : List (List Nat × List Nat)} {e1 e2 : Sl} {h p : List Nat} {b c : Nat} (hR : LDR V o es tg) (h1 : es.length + 1 ≤ c) (h2 : c ≤ 9223372036854775807) (h3 : InV V e1 h) (h4 : InV V e2 p) : LDR V (some (b, c)) (es ++ [(e1, e2)]) (tg ++ [(h, p)]) := by
 have hl := hR.len
 refine ⟨fun e => (by cases e), fun b' c' e => ?_, by simp [hl], fun k e t he ht => ?_⟩
 · cases e
   exact ⟨by simpa using h1, h2⟩
 · rcases Nat.lt_or_ge k es.length with hlt | hge
   · rw [List.getElem?_append_left hlt] at he
     rw [List.getElem?_append_left omT] at ht
     exact hR.get k e t he ht
   · have h0 : k - es.length = 0 := by
      have := (List.getElem?_eq_some_iff.1 he).1
      simp at this
      omega
     rw [List.getElem?_append_right hge, h0] at he
     rw [List.getElem?_append_right omT, show k - tg.length = 0 by omega] at ht
     obtain rfl : (e1, e2) = e := by simpa using he
     obtain rfl : (h, p) = t := by simpa using ht
     exact ⟨h3, h4⟩
abbrev VB (b : Nat) : Nat × Blk := (b, .cs 132 [.int .i8 1, .int .i8 1] [])
theorem ntd_vb (b : Nat) : NTD (VB b) := fun n l h => by cases h
def VDR (V : VL) (vd : Option Nat) (v : Bool) : Prop := (v = false → vd = none) ∧ (v = true → ∃ b, vd = some b ∧ VB b ∈ V)
theorem VDR.keep {V V' : VL} {vd : Option Nat} {v : Bool} (hv : ∀ y ∈ V, NTD y → y ∈ V') (h : VDR V vd v) : VDR V' vd v :=
 ⟨h.1, fun e => by
  obtain ⟨b, h1, h2⟩ := h.2 e
  exact ⟨b, h1, hv _ h2 (ntd_vb b)⟩⟩
structure Kd (X X' : SS) : Prop where
 v : ∀ y ∈ X.V, NTD y → y ∈ X'.V
 st : X'.st = X.st
 stv : X'.stv = X.stv
 sep : X.sep = false → X'.sep = false
theorem Kd.refl (X : SS) : Kd X X := ⟨fun _ h _ => h, rfl, rfl, id⟩
theorem Kd.trans {X Y Z : SS} (h : Kd X Y) (k : Kd Y Z) : Kd X Z := ⟨fun y hy hn => k.v y (h.v y hy hn) hn, k.st.trans h.st, k.stv.trans h.stv, fun e => k.sep (h.sep e)⟩
theorem Kp.kd {X X' : SS} (h : Kp X X') : Kd X X' := ⟨fun y hy _ => h.v y hy, h.st, h.stv, fun e => h.sep.trans e⟩
theorem Wk.pushE {H H1 H' : zl} {T : List Nat} {J : JL} {C : Option (Nat × Nat)} {V : VL} {F : zl → zl} {b : Nat} {k : Blk} [hr : Rem H b k H1] [hc : CT H1 T J C V F] (he : H' = F (CH T J C ++ XH ((b, k) :: V) J)) : Wk H H' := he ▸ Wk.push (b := b)
theorem addH_len (hs : List (List Nat)) (h : List Nat) : (addH hs h).length ≤ hs.length + 1 := by
 unfold addH
 split <;> simp
theorem addH_ne (hs : List (List Nat)) (h : List Nat) : addH hs h ≠ [] := by
 intro e
 unfold addH at e
 split at e
 · rename_i hm
   rw [e] at hm
   cases hm
 · simp at e
theorem TVok.tag4 {V : VL} {tv : TV} {tk : Tk} (h : TVok V tv tk) (h4 : tv.typ = 4) : ∃ h p, tk = .tag h p := by
 cases tk <;> simp only [TVok] at h <;> first | exact ⟨_, _, rfl⟩ | omega
theorem TDV.mono {V V' : VL} {s : Sl} {hs : List (List Nat)} (hv : ∀ y ∈ V, y ∈ V') (h : TDV V s hs) : TDV V' s hs := by
 obtain ⟨o, es, h1, h2, h3⟩ := h
 exact ⟨o, es, h1, fun b c e => (by
  obtain ⟨r, hr⟩ := h2 b c e
  exact ⟨r, hv _ hr⟩), h3.mono hv⟩
theorem pd_ok (L : Lay) (T : List Nat) (p : Nat → Nat) (f : Nat → Tk) (N i j0 m v1 v2 : Nat) (X0 : SS) (he : Eof L) (hs : Str T p f N) (hq0 : QR L T p f N X0 i j0) (h1i : 1 ≤ i)
  (hdir : ∀ k, k < m → f (i + k) = .ver ∨ ∃ h p, f (i + k) = .tag h p) (hend : f (i + m) ≠ .ver ∧ ∀ h p, f (i + m) ≠ .tag h p) (hver : ∀ k, k < m → f (i + k) = .ver → vrs f i k = false)
  (hdup : ∀ k h p, k < m → f (i + k) = .tag h p → h ∉ (tgs f i k).map (·.1)) (htg : ∀ k h p, f (i + k) = .tag h p → (∀ c ∈ h, c < 256) ∧ (∀ c ∈ p, c < 256) ∧ h.length < 1000000 ∧ p.length < 1000000) (hm : m < 900) (htd : TDV X0.V X0.tdv []) :
  Fn prog 110 [pV L.p, pV v1, pV v2] ((v1, .cs 83 [.pointer none] []) :: (v2, .cs 71 [zS] []) :: SH L T X0)
    (fun u H' => u = .bool true ∧ ∃ X j vd o2 es2, H' = (v1, .cs 83 [ptrV vd] []) :: (v2, .cs 71 [(tdS o2 es2.length).v] []) :: RH L T (zc X) (TDH o2 es2 ++ (TKB T X :: SKB X :: MPB X :: (CH T (SS.J X) (SS.C X) ++ XH (SS.V X) (SS.J X)))) ∧ QR L T p f N X (i + m) j ∧ i + m + 1 ≤ j ∧ (∃ b n c, X.tdv = ⟨some ⟨b, 0, none⟩, n, c⟩ ∧ n ≤ c ∧ TDV X.V ⟨some ⟨b, 0, none⟩, 0, c⟩ []) ∧ LDR X.V o2 es2 (tgs f i m) ∧ VDR X.V vd (vrs f i m) ∧ Kd X0 X) := by
 refine zo func110 rfl rfl rfl ?_
 intro w
 refine gg 18 ?_
 refine za rfl rfl rfl (qD L T p f N X0 i j0 he hs hq0) ?_
 rintro _ _ ⟨X1, j1, rfl, rfl, hq1, hta1, hj1, hK1⟩
 refine lS ?_
 refine gg 7 ?_
 refine sqz (qK underlying158 rfl rfl) (gg 5 ?_)
 refine zL (σ := SS × Nat × Nat × Option Nat × Option (Nat × Nat) × List (Sl × Sl)) (fun x => [(0, pV L.p), (1, pV v1), (2, pV v2), (6, .bool false), (7, ptrV x.2.2.2.1), (8, (tdS x.2.2.2.2.1 (List.length x.2.2.2.2.2)).v), (9, .pointer (some ⟨x.1.tkb, x.1.th * 14, none⟩))]) (fun x => (v1, .cs 83 [.pointer none] []) :: (v2, .cs 71 [zS] []) :: RH L T (zc x.1) (TDH x.2.2.2.2.1 x.2.2.2.2.2 ++ (TKB T x.1 :: SKB x.1 :: MPB x.1 :: (CH T (SS.J x.1) (SS.C x.1) ++ XH (SS.V x.1) (SS.J x.1))))) (fun x => x.2.1 = m ∧ QR L T p f N x.1 (i + x.2.1) x.2.2.1 ∧ i + x.2.1 + 1 ≤ x.2.2.1 ∧ x.2.1 ≤ m ∧ TDV (SS.V x.1) (SS.tdv x.1) ((tgs f i x.2.1).map (·.1)) ∧ LDR (SS.V x.1) x.2.2.2.2.1 x.2.2.2.2.2 (tgs f i x.2.1) ∧ VDR (SS.V x.1) x.2.2.2.1 (vrs f i x.2.1) ∧ Kd X0 x.1) ?_ ?_
 ·
  refine kf ?_
  refine zw (σ := SS × Nat × Nat × Option Nat × Option (Nat × Nat) × List (Sl × Sl)) (fun x => [(0, pV L.p), (1, pV v1), (2, pV v2), (6, .bool false), (7, ptrV x.2.2.2.1), (8, (tdS x.2.2.2.2.1 (List.length x.2.2.2.2.2)).v), (9, .pointer (some ⟨x.1.tkb, x.1.th * 14, none⟩))]) (fun x => (v1, .cs 83 [.pointer none] []) :: (v2, .cs 71 [zS] []) :: RH L T (zc x.1) (TDH x.2.2.2.2.1 x.2.2.2.2.2 ++ (TKB T x.1 :: SKB x.1 :: MPB x.1 :: (CH T (SS.J x.1) (SS.C x.1) ++ XH (SS.V x.1) (SS.J x.1))))) (fun x => QR L T p f N x.1 (i + x.2.1) x.2.2.1 ∧ i + x.2.1 + 1 ≤ x.2.2.1 ∧ x.2.1 ≤ m ∧ TDV (SS.V x.1) (SS.tdv x.1) ((tgs f i x.2.1).map (·.1)) ∧ LDR (SS.V x.1) x.2.2.2.2.1 x.2.2.2.2.2 (tgs f i x.2.1) ∧ VDR (SS.V x.1) x.2.2.2.1 (vrs f i x.2.1) ∧ Kd X0 x.1) (fun x => m - x.2.1) (X1, 0, j1, none, none, []) ⟨hq1, hj1, Nat.zero_le _, by
    have h1 := hK1.tdv
    dsimp only
    rw [h1]
    exact htd.mono hK1.v, ⟨fun _ => rfl, fun b c e => (by cases e), rfl, fun k e t h => (by simp at h)⟩, ⟨fun _ => rfl, fun e => (by cases e)⟩, hK1.kd⟩ suT (Wk.toT (CH T X1.J X1.C ++ XH X1.V X1.J) [v1, v2, L.p, L.bb, L.rb, L.ib, 0, X1.tkb, X1.skb, X1.mpb] wlT) ?_
  rintro ⟨X, c, j, vd, o2, es2⟩ ⟨hq, hj, hc, hT, hL, hV, hK⟩
  dsimp only at hq hj hc hT hL hV hK
  obtain ⟨tv, htv, htok, hty⟩ := hq.head hj
  have htlc := hq.si.tlc
  have htkc := hq.si.tkc
  have hlenL := hL.len
  rcases Nat.lt_or_ge c m with hcm | hcm
  ·
    rcases hdir c hcm with hv | ⟨h, pp, ht⟩
    ·
     rw [hv] at htok
     obtain ⟨hty1, hmaj, hmin⟩ := htok
     have hvd : vd = none := hV.1 (hver c hcm hv)
     subst hvd
     rcases o2 with _ | ⟨lb, lc⟩
     ·
      refine zt ((v1, .cs 83 [.pointer none] []) :: (v2, .cs 71 [zS] []) :: RH L T (zc X) (TKB T X :: SKB X :: MPB X :: (CH T X.J X.C ++ XH X.V X.J))) _ rfl rfl (gg 6 ?_)
      refine sqz (zz (T := T) (tl := X.tl) (i := X.th) (j := 0) rfl roT omT htv rfl) (gg 20 ?_)
      refine sqz (zz (T := T) (tl := X.tl) (i := X.th) (j := 0) rfl roT omT htv rfl) (gg 8 ?_)
      refine sqz (wi underlying83 rfl rfl) (gg 11 ?_)
      refine sqz (zz (T := T) (tl := X.tl) (i := X.th) (j := 12) rfl roT omT htv rfl) (gg 5 ?_)
      refine sqz (zz (T := T) (tl := X.tl) (i := X.th) (j := 13) rfl roT omT htv rfl) (gg 7 ?_)
      refine zU 9 zF kR (gg 3 ?_)
      refine dqz (zz (T := T) (tl := X.tl) (i := X.th) (j := 12) rfl roT omT htv rfl) (gg 3 ?_)
      refine dqz (zz (T := T) (tl := X.tl) (i := X.th) (j := 13) rfl roT omT htv rfl) (dqz (zu (l := [_, _]) (zs := [.int .i8 0, .int .i8 0]) [0, 1] rfl rfl kR) (qW ?_))
      refine ku rfl rfl rfl clT ?_
      intro vb
      refine gg 3 ?_
      refine zA vb (.cs 132 [.int .i8 1, .int .i8 1] []) (Blk.like_rec (by rw [hmaj, hmin]; kernel_rfl)) ?_
      refine gg 3 ?_
      refine za rfl rfl rfl (qM L T p f N X (i + c) j tv hs hq hj (by
  rcases Nat.lt_or_ge N (i + c) with hx | hx
  · have h8 := hs.fin (i + c) omT
    first | (rw [hv] at h8; cases h8) | (rw [ht] at h8; cases h8)
  · exact hx) htv) ?_
      rintro _ _ ⟨rfl, rfl, hq3⟩
      refine lS ?_
      refine gg 5 ?_
      refine za rfl rfl rfl (qD L T p f N _ (i + c + 1) j he hs hq3) ?_
      rintro _ _ ⟨X2, j2, rfl, rfl, hq4, hta4, hj4, hK4⟩
      refine lS ?_
      refine gg 6 ?_
      refine sqz (qK underlying158 rfl rfl) (gg 5 ?_)
      have hkv : ∀ y ∈ X.V, y ∈ X2.V := hK4.v
      exact zh ({ X2 with V := VB vb :: X2.V }, c + 1, j2, some vb, none, es2) ⟨hq4.keep (s := X2.tdv) (fun y hy _ => List.mem_cons_of_mem _ hy), hj4, hcm, by
       have h5 := hK4.tdv
       dsimp only at h5 ⊢
       rw [h5]
       simp only [tgs, hv, List.append_nil]
       exact hT.mono (fun y hy => List.mem_cons_of_mem _ (hkv y hy)), by
       simp only [tgs, hv, List.append_nil]
       exact hL.keep (fun y hy _ => List.mem_cons_of_mem _ (hkv y hy)), ⟨fun e => (by simp [vrs, hv] at e), fun _ => ⟨vb, rfl, List.mem_cons_self⟩⟩, hK.trans ⟨fun y hy _ => List.mem_cons_of_mem _ (hkv y hy), hK4.st, hK4.stv, fun _ => (by have h7 := hK4.sep; dsimp only at h7 ⊢; rw [h7, hty1]; rfl)⟩⟩ omT suT (Wk.trans (H2 := VB vb :: (v1, .cs 83 [.pointer none] []) :: (v2, .cs 71 [zS] []) :: RH L T (zc X2) (TKB T X2 :: SKB X2 :: MPB X2 :: (CH T X2.J X2.C ++ XH X2.V X2.J))) (Wk.toT (CH T X2.J X2.C ++ XH X2.V X2.J) [vb, v1, v2, L.p, L.bb, L.rb, L.ib, 0, X2.tkb, X2.skb, X2.mpb] wlT) (Wk.pushE (b := vb) rfl))
     ·
      refine zt ((v1, .cs 83 [.pointer none] []) :: (v2, .cs 71 [zS] []) :: RH L T (zc X) ((lb, .buf 134 (lc * 2) (tdC es2)) :: TKB T X :: SKB X :: MPB X :: (CH T X.J X.C ++ XH X.V X.J))) _ rfl rfl (gg 6 ?_)
      refine sqz (zz (T := T) (tl := X.tl) (i := X.th) (j := 0) rfl roT omT htv rfl) (gg 20 ?_)
      refine sqz (zz (T := T) (tl := X.tl) (i := X.th) (j := 0) rfl roT omT htv rfl) (gg 8 ?_)
      refine sqz (wi underlying83 rfl rfl) (gg 11 ?_)
      refine sqz (zz (T := T) (tl := X.tl) (i := X.th) (j := 12) rfl roT omT htv rfl) (gg 5 ?_)
      refine sqz (zz (T := T) (tl := X.tl) (i := X.th) (j := 13) rfl roT omT htv rfl) (gg 7 ?_)
      refine zU 9 zF kR (gg 3 ?_)
      refine dqz (zz (T := T) (tl := X.tl) (i := X.th) (j := 12) rfl roT omT htv rfl) (gg 3 ?_)
      refine dqz (zz (T := T) (tl := X.tl) (i := X.th) (j := 13) rfl roT omT htv rfl) (dqz (zu (l := [_, _]) (zs := [.int .i8 0, .int .i8 0]) [0, 1] rfl rfl kR) (qW ?_))
      refine ku rfl rfl rfl clT ?_
      intro vb
      refine gg 3 ?_
      refine zA vb (.cs 132 [.int .i8 1, .int .i8 1] []) (Blk.like_rec (by rw [hmaj, hmin]; kernel_rfl)) ?_
      refine gg 3 ?_
      refine za rfl rfl rfl (qM L T p f N X (i + c) j tv hs hq hj (by
  rcases Nat.lt_or_ge N (i + c) with hx | hx
  · have h8 := hs.fin (i + c) omT
    first | (rw [hv] at h8; cases h8) | (rw [ht] at h8; cases h8)
  · exact hx) htv) ?_
      rintro _ _ ⟨rfl, rfl, hq3⟩
      refine lS ?_
      refine gg 5 ?_
      refine za rfl rfl rfl (qD L T p f N _ (i + c + 1) j he hs hq3) ?_
      rintro _ _ ⟨X2, j2, rfl, rfl, hq4, hta4, hj4, hK4⟩
      refine lS ?_
      refine gg 6 ?_
      refine sqz (qK underlying158 rfl rfl) (gg 5 ?_)
      have hkv : ∀ y ∈ X.V, y ∈ X2.V := hK4.v
      exact zh ({ X2 with V := VB vb :: X2.V }, c + 1, j2, some vb, (some (lb, lc)), es2) ⟨hq4.keep (s := X2.tdv) (fun y hy _ => List.mem_cons_of_mem _ hy), hj4, hcm, by
       have h5 := hK4.tdv
       dsimp only at h5 ⊢
       rw [h5]
       simp only [tgs, hv, List.append_nil]
       exact hT.mono (fun y hy => List.mem_cons_of_mem _ (hkv y hy)), by
       simp only [tgs, hv, List.append_nil]
       exact hL.keep (fun y hy _ => List.mem_cons_of_mem _ (hkv y hy)), ⟨fun e => (by simp [vrs, hv] at e), fun _ => ⟨vb, rfl, List.mem_cons_self⟩⟩, hK.trans ⟨fun y hy _ => List.mem_cons_of_mem _ (hkv y hy), hK4.st, hK4.stv, fun _ => (by have h7 := hK4.sep; dsimp only at h7 ⊢; rw [h7, hty1]; rfl)⟩⟩ omT suT (Wk.trans (H2 := VB vb :: (v1, .cs 83 [.pointer none] []) :: (v2, .cs 71 [zS] []) :: RH L T (zc X2) ((lb, .buf 134 (lc * 2) (tdC es2)) :: TKB T X2 :: SKB X2 :: MPB X2 :: (CH T X2.J X2.C ++ XH X2.V X2.J))) (Wk.toT (CH T X2.J X2.C ++ XH X2.V X2.J) [vb, v1, v2, L.p, L.bb, L.rb, L.ib, 0, lb, X2.tkb, X2.skb, X2.mpb] wlT) (Wk.pushE (b := vb) rfl))
    ·
     rw [ht] at htok
     obtain ⟨hty1, hva, hpr⟩ := htok
     obtain ⟨hh1, hp1, hh2, hp2⟩ := htg c h pp ht
     have hnd := hdup c h pp hcm ht
     rcases o2 with _ | ⟨lb, lc⟩
     ·
      refine zt ((v1, .cs 83 [.pointer none] []) :: (v2, .cs 71 [zS] []) :: RH L T (zc X) (TKB T X :: SKB X :: MPB X :: (CH T X.J X.C ++ XH X.V X.J))) _ rfl rfl (gg 6 ?_)
      refine sqz (zz (T := T) (tl := X.tl) (i := X.th) (j := 0) rfl roT omT htv rfl) (gg 5 ?_)
      refine sqz (zz (T := T) (tl := X.tl) (i := X.th) (j := 0) rfl roT omT htv rfl) (gg 14 ?_)
      refine sqz (zz (T := T) (tl := X.tl) (i := X.th) (j := 0) rfl roT omT htv rfl) (gg 9 ?_)
      refine sqz (zz (T := T) (tl := X.tl) (i := X.th) (j := 0) rfl roT omT htv rfl) (gg 5 ?_)
      refine ke (fun i => i == 9 || i == 10) (fun i => i == 10) ([TKB T X]) zF ?_
      refine mqh 0 rfl kR rfl rfl (fun _ => zj rfl) ?_
      refine mqh 1 rfl kR rfl rfl (fun _ => zJ rfl) ?_
      refine mqh 2 rfl kR rfl rfl (fun _ => zM rfl) ?_
      refine mqh 3 rfl kR rfl rfl (fun _ => zz (T := T) (tl := X.tl) (i := X.th) (j := 8) rfl roT omT htv rfl) ?_
      refine mqh 4 rfl kR rfl rfl (fun _ => zj rfl) ?_
      refine mqh 5 rfl kR rfl rfl (fun _ => zJ rfl) ?_
      refine mqh 6 rfl kR rfl rfl (fun _ => zM rfl) ?_
      refine mqh 7 rfl kR rfl rfl (fun _ => zz (T := T) (tl := X.tl) (i := X.th) (j := 10) rfl roT omT htv rfl) ?_
      refine mqh 8 rfl kR rfl rfl (fun _ => zu (l := [_, _]) (zs := [zS, zS]) [0, 1] rfl rfl kR) ?_
      refine mql 9 rfl kR (fun hcl => ?_)
      refine zk rfl rfl clT ?_
      intro ab
      refine mqn 9 hcl ?_
      refine mql 10 rfl kR (fun hcl => ?_)
      first | refine stw rfl rfl ?_ | refine sts rfl rfl ?_
      refine zO 10 rfl kR (zf (zA ab (.cs 134 [tv.val.v, tv.pre.v] []) (Blk.like_rec kR) (zd (zd (zU 6 zF kR (gg 5 ?_))))))
      refine dqz (kU (T := T) (tl := X.tl) (i := X.th) (j := 1) rfl roT omT htv rfl rfl rfl) (qW ?_)
      refine za rfl rfl rfl (atdV_ok L T X ((tgs f i c).map (·.1)) tv.val tv.pre h pp false _ _ _ hT (.inl hva) (.inl hpr) hh1 hp1 (fun h9 => absurd h9 hnd) (by have h9 := wl f i c; simp; omega) hh2 hp2) ?_
      rintro _ _ ⟨rfl, s', V', rfl, k1, k2⟩
      refine lS ?_
      refine gg 3 ?_
      have hes : es2 = [] := hL.none_ rfl
      subst hes
      refine gg 6 ?_
      refine kV (l := [_, _]) (zs := [zS, zS]) [0] rfl rfl rfl rfl kR rfl rfl ?_
      intro nb
      refine kr (sz := 2) (news := [tv.val.v, tv.pre.v]) rfl rfl rfl rfl rfl (zN (k := .cs 134 [tv.val.v, tv.pre.v] []) (Nat.le_refl _) (Nat.le_refl _) (fun j u hj => by simp only [Blk.cell, look, nth, Nat.zero_add]; exact hj)) rfl (by decide) (by decide) (by decide) ?_
      intro nb2 nc hk1 hk2
      have hC : [tv.val.v, tv.pre.v] = tdC ([] ++ [(tv.val, tv.pre)]) := by first | rfl | (rw [tdC_app]; rfl)
      rw [hC]
      refine gg 3 ?_
      have hqk : QR L T p f N { X with tdv := s', V := V' } (i + c) j := hq.keep k2
      refine gg 3 ?_
      refine za rfl rfl rfl (qM L T p f N { X with tdv := s', V := V' } (i + c) j tv hs hqk hj (by
  rcases Nat.lt_or_ge N (i + c) with hx | hx
  · have h8 := hs.fin (i + c) omT
    first | (rw [hv] at h8; cases h8) | (rw [ht] at h8; cases h8)
  · exact hx) htv) ?_
      rintro _ _ ⟨rfl, rfl, hq3⟩
      refine lS ?_
      refine gg 5 ?_
      refine za rfl rfl rfl (qD L T p f N _ (i + c + 1) j he hs hq3) ?_
      rintro _ _ ⟨X2, j2, rfl, rfl, hq4, hta4, hj4, hK4⟩
      refine lS ?_
      refine gg 6 ?_
      refine sqz (qK underlying158 rfl rfl) (gg 5 ?_)
      have hkv : ∀ y ∈ V', y ∈ X2.V := hK4.v
      have hkk : ∀ y ∈ X.V, NTD y → y ∈ X2.V := fun y hy hn => hkv y (k2 y hy hn)
      exact zh (X2, c + 1, j2, vd, some (nb2, nc), [] ++ [(tv.val, tv.pre)]) ⟨hq4, hj4, hcm, by
       have h5 := hK4.tdv
       dsimp only at h5 ⊢
       rw [h5]
       have h6 : (tgs f i (c + 1)).map (·.1) = addH ((tgs f i c).map (·.1)) h := by rw [addH, if_neg hnd]; simp [tgs, ht]
       rw [h6]
       exact k1.mono hkv, by
       have h6 : tgs f i (c + 1) = tgs f i c ++ [(h, pp)] := by simp [tgs, ht]
       dsimp only
       rw [h6]
       exact LDR.add (hL.keep hkk) (by simpa using hk1) hk2 (hva.keep hkk) (hpr.keep hkk), by
       have h6 : vrs f i (c + 1) = vrs f i c := by simp [vrs, ht]
       dsimp only
       rw [h6]
       exact hV.keep hkk, hK.trans ⟨hkk, hK4.st, hK4.stv, fun _ => (by have h7 := hK4.sep; dsimp only at h7 ⊢; rw [h7, hty1]; rfl)⟩⟩ omT suT (Wk.toT (CH T X2.J X2.C ++ XH X2.V X2.J) [v1, v2, L.p, L.bb, L.rb, L.ib, 0, nb2, X2.tkb, X2.skb, X2.mpb] wlT)
     ·
      refine zt ((v1, .cs 83 [.pointer none] []) :: (v2, .cs 71 [zS] []) :: RH L T (zc X) ((lb, .buf 134 (lc * 2) (tdC es2)) :: TKB T X :: SKB X :: MPB X :: (CH T X.J X.C ++ XH X.V X.J))) _ rfl rfl (gg 6 ?_)
      refine sqz (zz (T := T) (tl := X.tl) (i := X.th) (j := 0) rfl roT omT htv rfl) (gg 5 ?_)
      refine sqz (zz (T := T) (tl := X.tl) (i := X.th) (j := 0) rfl roT omT htv rfl) (gg 14 ?_)
      refine sqz (zz (T := T) (tl := X.tl) (i := X.th) (j := 0) rfl roT omT htv rfl) (gg 9 ?_)
      refine sqz (zz (T := T) (tl := X.tl) (i := X.th) (j := 0) rfl roT omT htv rfl) (gg 5 ?_)
      refine ke (fun i => i == 9 || i == 10) (fun i => i == 10) ([TKB T X]) zF ?_
      refine mqh 0 rfl kR rfl rfl (fun _ => zj rfl) ?_
      refine mqh 1 rfl kR rfl rfl (fun _ => zJ rfl) ?_
      refine mqh 2 rfl kR rfl rfl (fun _ => zM rfl) ?_
      refine mqh 3 rfl kR rfl rfl (fun _ => zz (T := T) (tl := X.tl) (i := X.th) (j := 8) rfl roT omT htv rfl) ?_
      refine mqh 4 rfl kR rfl rfl (fun _ => zj rfl) ?_
      refine mqh 5 rfl kR rfl rfl (fun _ => zJ rfl) ?_
      refine mqh 6 rfl kR rfl rfl (fun _ => zM rfl) ?_
      refine mqh 7 rfl kR rfl rfl (fun _ => zz (T := T) (tl := X.tl) (i := X.th) (j := 10) rfl roT omT htv rfl) ?_
      refine mqh 8 rfl kR rfl rfl (fun _ => zu (l := [_, _]) (zs := [zS, zS]) [0, 1] rfl rfl kR) ?_
      refine mql 9 rfl kR (fun hcl => ?_)
      refine zk rfl rfl clT ?_
      intro ab
      refine mqn 9 hcl ?_
      refine mql 10 rfl kR (fun hcl => ?_)
      first | refine stw rfl rfl ?_ | refine sts rfl rfl ?_
      refine zO 10 rfl kR (zf (zA ab (.cs 134 [tv.val.v, tv.pre.v] []) (Blk.like_rec kR) (zd (zd (zU 6 zF kR (gg 5 ?_))))))
      refine dqz (kU (T := T) (tl := X.tl) (i := X.th) (j := 1) rfl roT omT htv rfl rfl rfl) (qW ?_)
      refine za rfl rfl rfl (atdV_ok L T X ((tgs f i c).map (·.1)) tv.val tv.pre h pp false _ _ _ hT (.inl hva) (.inl hpr) hh1 hp1 (fun h9 => absurd h9 hnd) (by have h9 := wl f i c; simp; omega) hh2 hp2) ?_
      rintro _ _ ⟨rfl, s', V', rfl, k1, k2⟩
      refine lS ?_
      refine gg 3 ?_
      have hcp := hL.cap lb lc rfl
      have h9 := wl f i c
      refine gg 6 ?_
      refine kV (l := [_, _]) (zs := [zS, zS]) [0] rfl rfl rfl rfl kR rfl rfl ?_
      intro nb
      refine zY (sz := 2) (n0 := es2.length) (mm := lc * 2) (xs := tdC es2) (news := [tv.val.v, tv.pre.v]) rfl rfl rfl rfl rfl (tdC_length es2) hcp.1 hcp.2 rfl (zN (k := .cs 134 [tv.val.v, tv.pre.v] []) (Nat.le_refl _) (Nat.le_refl _) (fun j u hj => by simp only [Blk.cell, look, nth, Nat.zero_add]; exact hj)) rfl (kK rfl) omT omT ?_
      intro nb2 nc hk1 hk2
      have hC : tdC es2 ++ [tv.val.v, tv.pre.v] = tdC (es2 ++ [(tv.val, tv.pre)]) := by first | rfl | (rw [tdC_app]; rfl)
      rw [hC]
      have hL2 : es2.length + 1 = (es2 ++ [(tv.val, tv.pre)]).length := by simp
      rw [hL2]
      refine gg 3 ?_
      have hqk : QR L T p f N { X with tdv := s', V := V' } (i + c) j := hq.keep k2
      refine gg 3 ?_
      refine za rfl rfl rfl (qM L T p f N { X with tdv := s', V := V' } (i + c) j tv hs hqk hj (by
  rcases Nat.lt_or_ge N (i + c) with hx | hx
  · have h8 := hs.fin (i + c) omT
    first | (rw [hv] at h8; cases h8) | (rw [ht] at h8; cases h8)
  · exact hx) htv) ?_
      rintro _ _ ⟨rfl, rfl, hq3⟩
      refine lS ?_
      refine gg 5 ?_
      refine za rfl rfl rfl (qD L T p f N _ (i + c + 1) j he hs hq3) ?_
      rintro _ _ ⟨X2, j2, rfl, rfl, hq4, hta4, hj4, hK4⟩
      refine lS ?_
      refine gg 6 ?_
      refine sqz (qK underlying158 rfl rfl) (gg 5 ?_)
      have hkv : ∀ y ∈ V', y ∈ X2.V := hK4.v
      have hkk : ∀ y ∈ X.V, NTD y → y ∈ X2.V := fun y hy hn => hkv y (k2 y hy hn)
      exact zh (X2, c + 1, j2, vd, some (nb2, nc), es2 ++ [(tv.val, tv.pre)]) ⟨hq4, hj4, hcm, by
       have h5 := hK4.tdv
       dsimp only at h5 ⊢
       rw [h5]
       have h6 : (tgs f i (c + 1)).map (·.1) = addH ((tgs f i c).map (·.1)) h := by rw [addH, if_neg hnd]; simp [tgs, ht]
       rw [h6]
       exact k1.mono hkv, by
       have h6 : tgs f i (c + 1) = tgs f i c ++ [(h, pp)] := by simp [tgs, ht]
       dsimp only
       rw [h6]
       exact LDR.add (hL.keep hkk) (by simpa using hk1) hk2 (hva.keep hkk) (hpr.keep hkk), by
       have h6 : vrs f i (c + 1) = vrs f i c := by simp [vrs, ht]
       dsimp only
       rw [h6]
       exact hV.keep hkk, hK.trans ⟨hkk, hK4.st, hK4.stv, fun _ => (by have h7 := hK4.sep; dsimp only at h7 ⊢; rw [h7, hty1]; rfl)⟩⟩ omT suT (Wk.toT (CH T X2.J X2.C ++ XH X2.V X2.J) [v1, v2, L.p, L.bb, L.rb, L.ib, 0, nb2, X2.tkb, X2.skb, X2.mpb] wlT)
  ·
    obtain rfl : c = m := by omega
    have hn3 : tv.typ ≠ 3 := fun h3 => hend.1 (htok.ver.1 h3)
    have hn4 : tv.typ ≠ 4 := fun h4 => by
     obtain ⟨h, pp, h5⟩ := htok.tag4 h4
     exact hend.2 h pp h5
    rcases o2 with _ | ⟨lb, lc⟩
    ·
     refine zt ((v1, .cs 83 [.pointer none] []) :: (v2, .cs 71 [zS] []) :: RH L T (zc X) (TKB T X :: SKB X :: MPB X :: (CH T X.J X.C ++ XH X.V X.J))) _ rfl rfl (gg 6 ?_)
     refine sqz (zz (T := T) (tl := X.tl) (i := X.th) (j := 0) rfl roT omT htv rfl) (gg 5 ?_)
     refine sqz (zz (T := T) (tl := X.tl) (i := X.th) (j := 0) rfl roT omT htv rfl) (gg 9 ?_)
     exact zg (X, c, j, vd, none, es2) ⟨rfl, hq, hj, hc, hT, hL, hV, hK⟩ suT (Wk.toT (CH T X.J X.C ++ XH X.V X.J) [v1, v2, L.p, L.bb, L.rb, L.ib, 0, X.tkb, X.skb, X.mpb] wlT)
    ·
     refine zt ((v1, .cs 83 [.pointer none] []) :: (v2, .cs 71 [zS] []) :: RH L T (zc X) ((lb, .buf 134 (lc * 2) (tdC es2)) :: TKB T X :: SKB X :: MPB X :: (CH T X.J X.C ++ XH X.V X.J))) _ rfl rfl (gg 6 ?_)
     refine sqz (zz (T := T) (tl := X.tl) (i := X.th) (j := 0) rfl roT omT htv rfl) (gg 5 ?_)
     refine sqz (zz (T := T) (tl := X.tl) (i := X.th) (j := 0) rfl roT omT htv rfl) (gg 9 ?_)
     exact zg (X, c, j, vd, (some (lb, lc)), es2) ⟨rfl, hq, hj, hc, hT, hL, hV, hK⟩ suT (Wk.toT (CH T X.J X.C ++ XH X.V X.J) [v1, v2, L.p, L.bb, L.rb, L.ib, 0, lb, X.tkb, X.skb, X.mpb] wlT)
 ·
  rintro ⟨X, c, j, vd, o2, es2⟩ ⟨hcm, hq, hj, hc, hT, hL, hV, hK⟩
  dsimp only at hcm hq hj hc hT hL hV hK
  refine zt ((v1, .cs 83 [.pointer none] []) :: (v2, .cs 71 [zS] []) :: RH L T (zc X) (TDH o2 es2 ++ (TKB T X :: SKB X :: MPB X :: (CH T (SS.J X) (SS.C X) ++ XH (SS.V X) (SS.J X))))) [(0, pV L.p), (1, pV v1), (2, pV v2), (6, .bool false), (7, ptrV vd), (8, (tdS o2 (List.length es2)).v), (9, .pointer (some ⟨X.tkb, X.th * 14, none⟩))] rfl rfl ?_
  subst hcm
  obtain ⟨tv, htv, htok, hty⟩ := hq.head hj
  have htlc := hq.si.tlc
  have htkc := hq.si.tkc
  rcases o2 with _ | ⟨lb, lc⟩
  ·
    refine zt ((v1, .cs 83 [.pointer none] []) :: (v2, .cs 71 [zS] []) :: RH L T (zc X) (TKB T X :: SKB X :: MPB X :: (CH T X.J X.C ++ XH X.V X.J))) _ rfl rfl (gg 3 ?_)
    refine za rfl rfl rfl (dtd_ok) ?_
    rintro _ _ ⟨ftb, fa1, fa2, fa3, fa4, rfl, rfl⟩
    refine lS ?_
    refine gg 5 ?_
    refine qg (3) (kn (gg 18 ?_))
    refine ke (fun i => i == 1 || i == 9) (fun _ => false) ([TKB T X]) zF ?_
    refine mqh 0 rfl kR rfl rfl (fun _ => zj rfl) ?_
    refine mqh 2 rfl kR rfl rfl (fun _ => zj rfl) ?_
    refine mqh 5 rfl kR rfl rfl (fun _ => zj rfl) ?_
    refine mqh 6 rfl kR rfl rfl (fun _ => zJ rfl) ?_
    refine mqh 7 rfl kR rfl rfl (fun _ => zM rfl) ?_
    refine mqh 8 rfl kR rfl rfl (fun _ => kU (T := T) (tl := X.tl) (i := X.th) (j := 1) rfl roT omT htv rfl rfl rfl) ?_
    refine mql 1 rfl kR (fun hcl => ?_)
    refine za rfl rfl rfl (dtd_ok) ?_
    rintro _ _ ⟨tbr0, a1r0, a2r0, a3r0, a4r0, rfl, rfl⟩
    refine lS ?_
    refine mqn 1 hcl (mq 3 rfl kR rfl rfl (zy (i := 0) rfl rfl rfl omT rfl) ?_)
    refine mq 4 rfl kR rfl rfl (zG rfl rfl rfl rfl) ?_
    refine mql 9 rfl kR (fun hcl => ?_)
    refine sq_wkH (H' := (tbr0, .cs 134 (tdC (dfE a1r0 a2r0 a3r0 a4r0)) []) :: (v1, .cs 83 [.pointer none] []) :: (v2, .cs 71 [zS] []) :: RH L T (zc X) (TKB T X :: SKB X :: MPB X :: (CH T X.J X.C ++ XH (RE a4r0 tagV :: RE a3r0 [.int .u8 33, .int .u8 33] :: RE a2r0 [.int .u8 33] :: RE a1r0 [.int .u8 33] :: X.V) X.J))) (Wk.trans (Wk.pushE (b := a1r0) rfl) (Wk.trans (Wk.pushE (b := a2r0) rfl) (Wk.trans (Wk.pushE (b := a3r0) rfl) (Wk.trans (Wk.pushE (b := a4r0) rfl) (Wk.toT (CH T X.J X.C ++ XH (RE a4r0 tagV :: RE a3r0 [.int .u8 33, .int .u8 33] :: RE a2r0 [.int .u8 33] :: RE a1r0 [.int .u8 33] :: X.V) X.J) [tbr0, v1, v2, L.p, L.bb, L.rb, L.ib, 0, X.tkb, X.skb, X.mpb] wlT))))) ?_
    have hTx0 : TDV (RE a4r0 tagV :: RE a3r0 [.int .u8 33, .int .u8 33] :: RE a2r0 [.int .u8 33] :: RE a1r0 [.int .u8 33] :: X.V) (SS.tdv X) ((tgs f i c).map (·.1)) := TDV.mono (fun y hy => List.mem_cons_of_mem _ (List.mem_cons_of_mem _ (List.mem_cons_of_mem _ (List.mem_cons_of_mem _ hy)))) hT
    refine za rfl rfl rfl (atdV_ok L T { X with V := RE a4r0 tagV :: RE a3r0 [.int .u8 33, .int .u8 33] :: RE a2r0 [.int .u8 33] :: RE a1r0 [.int .u8 33] :: X.V } ((tgs f i c).map (·.1)) ⟨some ⟨a1r0, 0, none⟩, 1, 1⟩ ⟨some ⟨a2r0, 0, none⟩, 1, 1⟩ [33] [33] true _ _ _ hTx0 (.inr ⟨a1r0, 1, rfl, List.mem_cons_of_mem _ (List.mem_cons_of_mem _ (List.mem_cons_of_mem _ List.mem_cons_self))⟩) (.inr ⟨a2r0, 1, rfl, List.mem_cons_of_mem _ (List.mem_cons_of_mem _ List.mem_cons_self)⟩) (by decide) (by decide) (fun _ => rfl) (by
  have h9 := wl f i c
  have h8 := addH_len ((tgs f i c).map (·.1)) [33]
  simp only [List.length_map] at h8 ⊢
  omega) (by decide) (by decide)) ?_
    rintro _ _ ⟨rfl, sr0, Vr0, rfl, kr0, lr0⟩
    have hkr0 : ∀ y ∈ X.V, NTD y → y ∈ Vr0 := fun y hy hn => lr0 y ((fun y hy => List.mem_cons_of_mem _ (List.mem_cons_of_mem _ (List.mem_cons_of_mem _ (List.mem_cons_of_mem _ hy)))) y hy) hn
    refine lS ?_
    refine mqn 9 hcl (mq 10 rfl kR rfl rfl (q_not rfl) ?_)
    refine qJ kR (zf ?_)
    refine qF (H' := (v1, .cs 83 [.pointer none] []) :: (v2, .cs 71 [zS] []) :: RH L T (zc { X with tdv := sr0, V := Vr0 }) (TKB T X :: SKB X :: MPB X :: (CH T X.J X.C ++ XH Vr0 X.J))) (Wk.toT (CH T X.J X.C ++ XH Vr0 X.J) [v1, v2, L.p, L.bb, L.rb, L.ib, 0, X.tkb, X.skb, X.mpb] wlT) ?_
    refine gg 8 ?_
    refine kX (kn (gg 18 ?_))
    refine ke (fun i => i == 1 || i == 9) (fun _ => false) ([TKB T X]) zF ?_
    refine mqh 0 rfl kR rfl rfl (fun _ => zj rfl) ?_
    refine mqh 2 rfl kR rfl rfl (fun _ => zj rfl) ?_
    refine mqh 5 rfl kR rfl rfl (fun _ => zj rfl) ?_
    refine mqh 6 rfl kR rfl rfl (fun _ => zJ rfl) ?_
    refine mqh 7 rfl kR rfl rfl (fun _ => zM rfl) ?_
    refine mqh 8 rfl kR rfl rfl (fun _ => kU (T := T) (tl := X.tl) (i := X.th) (j := 1) rfl roT omT htv rfl rfl rfl) ?_
    refine mql 1 rfl kR (fun hcl => ?_)
    refine za rfl rfl rfl (dtd_ok) ?_
    rintro _ _ ⟨tbr1, a1r1, a2r1, a3r1, a4r1, rfl, rfl⟩
    refine lS ?_
    refine mqn 1 hcl (mq 3 rfl kR rfl rfl (zy (i := 1) rfl rfl rfl omT rfl) ?_)
    refine mq 4 rfl kR rfl rfl (zG rfl rfl rfl rfl) ?_
    refine mql 9 rfl kR (fun hcl => ?_)
    refine sq_wkH (H' := (tbr1, .cs 134 (tdC (dfE a1r1 a2r1 a3r1 a4r1)) []) :: (v1, .cs 83 [.pointer none] []) :: (v2, .cs 71 [zS] []) :: RH L T (zc { X with tdv := sr0, V := Vr0 }) (TKB T X :: SKB X :: MPB X :: (CH T X.J X.C ++ XH (RE a4r1 tagV :: RE a3r1 [.int .u8 33, .int .u8 33] :: RE a2r1 [.int .u8 33] :: RE a1r1 [.int .u8 33] :: Vr0) X.J))) (Wk.trans (Wk.pushE (b := a1r1) rfl) (Wk.trans (Wk.pushE (b := a2r1) rfl) (Wk.trans (Wk.pushE (b := a3r1) rfl) (Wk.trans (Wk.pushE (b := a4r1) rfl) (Wk.toT (CH T X.J X.C ++ XH (RE a4r1 tagV :: RE a3r1 [.int .u8 33, .int .u8 33] :: RE a2r1 [.int .u8 33] :: RE a1r1 [.int .u8 33] :: Vr0) X.J) [tbr1, v1, v2, L.p, L.bb, L.rb, L.ib, 0, X.tkb, X.skb, X.mpb] wlT))))) ?_
    have hTx1 : TDV (RE a4r1 tagV :: RE a3r1 [.int .u8 33, .int .u8 33] :: RE a2r1 [.int .u8 33] :: RE a1r1 [.int .u8 33] :: Vr0) (SS.tdv { X with tdv := sr0, V := Vr0 }) (addH ((tgs f i c).map (·.1)) [33]) := TDV.mono (fun y hy => List.mem_cons_of_mem _ (List.mem_cons_of_mem _ (List.mem_cons_of_mem _ (List.mem_cons_of_mem _ hy)))) kr0
    refine za rfl rfl rfl (atdV_ok L T { { X with tdv := sr0, V := Vr0 } with V := RE a4r1 tagV :: RE a3r1 [.int .u8 33, .int .u8 33] :: RE a2r1 [.int .u8 33] :: RE a1r1 [.int .u8 33] :: Vr0 } (addH ((tgs f i c).map (·.1)) [33]) ⟨some ⟨a3r1, 0, none⟩, 2, 2⟩ ⟨some ⟨a4r1, 0, none⟩, 18, 18⟩ [33, 33] tagP true _ _ _ hTx1 (.inr ⟨a3r1, 2, rfl, List.mem_cons_of_mem _ List.mem_cons_self⟩) (.inr ⟨a4r1, 18, rfl, List.mem_cons_self⟩) (by decide) (by decide) (fun _ => rfl) (by
  have h9 := wl f i c
  have h8 := addH_len ((tgs f i c).map (·.1)) [33]
  simp only [List.length_map] at h8 ⊢
  omega) (by decide) (by decide)) ?_
    rintro _ _ ⟨rfl, sr1, Vr1, rfl, kr1, lr1⟩
    have hkr1 : ∀ y ∈ Vr0, NTD y → y ∈ Vr1 := fun y hy hn => lr1 y ((fun y hy => List.mem_cons_of_mem _ (List.mem_cons_of_mem _ (List.mem_cons_of_mem _ (List.mem_cons_of_mem _ hy)))) y hy) hn
    refine lS ?_
    refine mqn 9 hcl (mq 10 rfl kR rfl rfl (q_not rfl) ?_)
    refine qJ kR (zf ?_)
    refine qF (H' := (v1, .cs 83 [.pointer none] []) :: (v2, .cs 71 [zS] []) :: RH L T (zc { X with tdv := sr1, V := Vr1 }) (TKB T X :: SKB X :: MPB X :: (CH T X.J X.C ++ XH Vr1 X.J))) (Wk.toT (CH T X.J X.C ++ XH Vr1 X.J) [v1, v2, L.p, L.bb, L.rb, L.ib, 0, X.tkb, X.skb, X.mpb] wlT) ?_
    refine gg 8 ?_
    refine kX (kn (gg 16 ?_))
    refine sqz (wi underlying166 rfl rfl) (gg 7 ?_)
    refine st1 (hv := by cases vd <;> rfl) rfl rfl ?_
    refine gg 6 ?_
    refine sqz (wi underlying167 rfl rfl) (gg 16 ?_)
    have hkk : ∀ y ∈ X.V, NTD y → y ∈ Vr1 := fun y hy hn => hkr1 y (hkr0 y hy hn) hn
    exact zm rfl rfl (Wk.toT (CH T X.J X.C ++ XH Vr1 X.J) [v1, v2, L.p, L.bb, L.rb, L.ib, 0, X.tkb, X.skb, X.mpb] wlT) ⟨rfl, { X with tdv := sr1, V := Vr1 }, j, vd, none, es2, rfl, hq.keep hkk, hj, kr1.cut (addH_ne _ _), hL.keep hkk, hV.keep hkk, hK.trans ⟨hkk, rfl, rfl, id⟩⟩
  ·
    refine zt ((v1, .cs 83 [.pointer none] []) :: (v2, .cs 71 [zS] []) :: RH L T (zc X) ((lb, .buf 134 (lc * 2) (tdC es2)) :: TKB T X :: SKB X :: MPB X :: (CH T X.J X.C ++ XH X.V X.J))) _ rfl rfl (gg 3 ?_)
    refine za rfl rfl rfl (dtd_ok) ?_
    rintro _ _ ⟨ftb, fa1, fa2, fa3, fa4, rfl, rfl⟩
    refine lS ?_
    refine gg 5 ?_
    refine qg (3) (kn (gg 18 ?_))
    refine ke (fun i => i == 1 || i == 9) (fun _ => false) ([TKB T X]) zF ?_
    refine mqh 0 rfl kR rfl rfl (fun _ => zj rfl) ?_
    refine mqh 2 rfl kR rfl rfl (fun _ => zj rfl) ?_
    refine mqh 5 rfl kR rfl rfl (fun _ => zj rfl) ?_
    refine mqh 6 rfl kR rfl rfl (fun _ => zJ rfl) ?_
    refine mqh 7 rfl kR rfl rfl (fun _ => zM rfl) ?_
    refine mqh 8 rfl kR rfl rfl (fun _ => kU (T := T) (tl := X.tl) (i := X.th) (j := 1) rfl roT omT htv rfl rfl rfl) ?_
    refine mql 1 rfl kR (fun hcl => ?_)
    refine za rfl rfl rfl (dtd_ok) ?_
    rintro _ _ ⟨tbr0, a1r0, a2r0, a3r0, a4r0, rfl, rfl⟩
    refine lS ?_
    refine mqn 1 hcl (mq 3 rfl kR rfl rfl (zy (i := 0) rfl rfl rfl omT rfl) ?_)
    refine mq 4 rfl kR rfl rfl (zG rfl rfl rfl rfl) ?_
    refine mql 9 rfl kR (fun hcl => ?_)
    refine sq_wkH (H' := (tbr0, .cs 134 (tdC (dfE a1r0 a2r0 a3r0 a4r0)) []) :: (v1, .cs 83 [.pointer none] []) :: (v2, .cs 71 [zS] []) :: RH L T (zc X) ((lb, .buf 134 (lc * 2) (tdC es2)) :: TKB T X :: SKB X :: MPB X :: (CH T X.J X.C ++ XH (RE a4r0 tagV :: RE a3r0 [.int .u8 33, .int .u8 33] :: RE a2r0 [.int .u8 33] :: RE a1r0 [.int .u8 33] :: X.V) X.J))) (Wk.trans (Wk.pushE (b := a1r0) rfl) (Wk.trans (Wk.pushE (b := a2r0) rfl) (Wk.trans (Wk.pushE (b := a3r0) rfl) (Wk.trans (Wk.pushE (b := a4r0) rfl) (Wk.toT (CH T X.J X.C ++ XH (RE a4r0 tagV :: RE a3r0 [.int .u8 33, .int .u8 33] :: RE a2r0 [.int .u8 33] :: RE a1r0 [.int .u8 33] :: X.V) X.J) [tbr0, v1, v2, L.p, L.bb, L.rb, L.ib, 0, lb, X.tkb, X.skb, X.mpb] wlT))))) ?_
    have hTx0 : TDV (RE a4r0 tagV :: RE a3r0 [.int .u8 33, .int .u8 33] :: RE a2r0 [.int .u8 33] :: RE a1r0 [.int .u8 33] :: X.V) (SS.tdv X) ((tgs f i c).map (·.1)) := TDV.mono (fun y hy => List.mem_cons_of_mem _ (List.mem_cons_of_mem _ (List.mem_cons_of_mem _ (List.mem_cons_of_mem _ hy)))) hT
    refine za rfl rfl rfl (atdV_ok L T { X with V := RE a4r0 tagV :: RE a3r0 [.int .u8 33, .int .u8 33] :: RE a2r0 [.int .u8 33] :: RE a1r0 [.int .u8 33] :: X.V } ((tgs f i c).map (·.1)) ⟨some ⟨a1r0, 0, none⟩, 1, 1⟩ ⟨some ⟨a2r0, 0, none⟩, 1, 1⟩ [33] [33] true _ _ _ hTx0 (.inr ⟨a1r0, 1, rfl, List.mem_cons_of_mem _ (List.mem_cons_of_mem _ (List.mem_cons_of_mem _ List.mem_cons_self))⟩) (.inr ⟨a2r0, 1, rfl, List.mem_cons_of_mem _ (List.mem_cons_of_mem _ List.mem_cons_self)⟩) (by decide) (by decide) (fun _ => rfl) (by
  have h9 := wl f i c
  have h8 := addH_len ((tgs f i c).map (·.1)) [33]
  simp only [List.length_map] at h8 ⊢
  omega) (by decide) (by decide)) ?_
    rintro _ _ ⟨rfl, sr0, Vr0, rfl, kr0, lr0⟩
    have hkr0 : ∀ y ∈ X.V, NTD y → y ∈ Vr0 := fun y hy hn => lr0 y ((fun y hy => List.mem_cons_of_mem _ (List.mem_cons_of_mem _ (List.mem_cons_of_mem _ (List.mem_cons_of_mem _ hy)))) y hy) hn
    refine lS ?_
    refine mqn 9 hcl (mq 10 rfl kR rfl rfl (q_not rfl) ?_)
    refine qJ kR (zf ?_)
    refine qF (H' := (v1, .cs 83 [.pointer none] []) :: (v2, .cs 71 [zS] []) :: RH L T (zc { X with tdv := sr0, V := Vr0 }) ((lb, .buf 134 (lc * 2) (tdC es2)) :: TKB T X :: SKB X :: MPB X :: (CH T X.J X.C ++ XH Vr0 X.J))) (Wk.toT (CH T X.J X.C ++ XH Vr0 X.J) [v1, v2, L.p, L.bb, L.rb, L.ib, 0, lb, X.tkb, X.skb, X.mpb] wlT) ?_
    refine gg 8 ?_
    refine kX (kn (gg 18 ?_))
    refine ke (fun i => i == 1 || i == 9) (fun _ => false) ([TKB T X]) zF ?_
    refine mqh 0 rfl kR rfl rfl (fun _ => zj rfl) ?_
    refine mqh 2 rfl kR rfl rfl (fun _ => zj rfl) ?_
    refine mqh 5 rfl kR rfl rfl (fun _ => zj rfl) ?_
    refine mqh 6 rfl kR rfl rfl (fun _ => zJ rfl) ?_
    refine mqh 7 rfl kR rfl rfl (fun _ => zM rfl) ?_
    refine mqh 8 rfl kR rfl rfl (fun _ => kU (T := T) (tl := X.tl) (i := X.th) (j := 1) rfl roT omT htv rfl rfl rfl) ?_
    refine mql 1 rfl kR (fun hcl => ?_)
    refine za rfl rfl rfl (dtd_ok) ?_
    rintro _ _ ⟨tbr1, a1r1, a2r1, a3r1, a4r1, rfl, rfl⟩
    refine lS ?_
    refine mqn 1 hcl (mq 3 rfl kR rfl rfl (zy (i := 1) rfl rfl rfl omT rfl) ?_)
    refine mq 4 rfl kR rfl rfl (zG rfl rfl rfl rfl) ?_
    refine mql 9 rfl kR (fun hcl => ?_)
    refine sq_wkH (H' := (tbr1, .cs 134 (tdC (dfE a1r1 a2r1 a3r1 a4r1)) []) :: (v1, .cs 83 [.pointer none] []) :: (v2, .cs 71 [zS] []) :: RH L T (zc { X with tdv := sr0, V := Vr0 }) ((lb, .buf 134 (lc * 2) (tdC es2)) :: TKB T X :: SKB X :: MPB X :: (CH T X.J X.C ++ XH (RE a4r1 tagV :: RE a3r1 [.int .u8 33, .int .u8 33] :: RE a2r1 [.int .u8 33] :: RE a1r1 [.int .u8 33] :: Vr0) X.J))) (Wk.trans (Wk.pushE (b := a1r1) rfl) (Wk.trans (Wk.pushE (b := a2r1) rfl) (Wk.trans (Wk.pushE (b := a3r1) rfl) (Wk.trans (Wk.pushE (b := a4r1) rfl) (Wk.toT (CH T X.J X.C ++ XH (RE a4r1 tagV :: RE a3r1 [.int .u8 33, .int .u8 33] :: RE a2r1 [.int .u8 33] :: RE a1r1 [.int .u8 33] :: Vr0) X.J) [tbr1, v1, v2, L.p, L.bb, L.rb, L.ib, 0, lb, X.tkb, X.skb, X.mpb] wlT))))) ?_
    have hTx1 : TDV (RE a4r1 tagV :: RE a3r1 [.int .u8 33, .int .u8 33] :: RE a2r1 [.int .u8 33] :: RE a1r1 [.int .u8 33] :: Vr0) (SS.tdv { X with tdv := sr0, V := Vr0 }) (addH ((tgs f i c).map (·.1)) [33]) := TDV.mono (fun y hy => List.mem_cons_of_mem _ (List.mem_cons_of_mem _ (List.mem_cons_of_mem _ (List.mem_cons_of_mem _ hy)))) kr0
    refine za rfl rfl rfl (atdV_ok L T { { X with tdv := sr0, V := Vr0 } with V := RE a4r1 tagV :: RE a3r1 [.int .u8 33, .int .u8 33] :: RE a2r1 [.int .u8 33] :: RE a1r1 [.int .u8 33] :: Vr0 } (addH ((tgs f i c).map (·.1)) [33]) ⟨some ⟨a3r1, 0, none⟩, 2, 2⟩ ⟨some ⟨a4r1, 0, none⟩, 18, 18⟩ [33, 33] tagP true _ _ _ hTx1 (.inr ⟨a3r1, 2, rfl, List.mem_cons_of_mem _ List.mem_cons_self⟩) (.inr ⟨a4r1, 18, rfl, List.mem_cons_self⟩) (by decide) (by decide) (fun _ => rfl) (by
  have h9 := wl f i c
  have h8 := addH_len ((tgs f i c).map (·.1)) [33]
  simp only [List.length_map] at h8 ⊢
  omega) (by decide) (by decide)) ?_
    rintro _ _ ⟨rfl, sr1, Vr1, rfl, kr1, lr1⟩
    have hkr1 : ∀ y ∈ Vr0, NTD y → y ∈ Vr1 := fun y hy hn => lr1 y ((fun y hy => List.mem_cons_of_mem _ (List.mem_cons_of_mem _ (List.mem_cons_of_mem _ (List.mem_cons_of_mem _ hy)))) y hy) hn
    refine lS ?_
    refine mqn 9 hcl (mq 10 rfl kR rfl rfl (q_not rfl) ?_)
    refine qJ kR (zf ?_)
    refine qF (H' := (v1, .cs 83 [.pointer none] []) :: (v2, .cs 71 [zS] []) :: RH L T (zc { X with tdv := sr1, V := Vr1 }) ((lb, .buf 134 (lc * 2) (tdC es2)) :: TKB T X :: SKB X :: MPB X :: (CH T X.J X.C ++ XH Vr1 X.J))) (Wk.toT (CH T X.J X.C ++ XH Vr1 X.J) [v1, v2, L.p, L.bb, L.rb, L.ib, 0, lb, X.tkb, X.skb, X.mpb] wlT) ?_
    refine gg 8 ?_
    refine kX (kn (gg 16 ?_))
    refine sqz (wi underlying166 rfl rfl) (gg 7 ?_)
    refine st1 (hv := by cases vd <;> rfl) rfl rfl ?_
    refine gg 6 ?_
    refine sqz (wi underlying167 rfl rfl) (gg 16 ?_)
    have hkk : ∀ y ∈ X.V, NTD y → y ∈ Vr1 := fun y hy hn => hkr1 y (hkr0 y hy hn) hn
    exact zm rfl rfl (Wk.toT (CH T X.J X.C ++ XH Vr1 X.J) [v1, v2, L.p, L.bb, L.rb, L.ib, 0, lb, X.tkb, X.skb, X.mpb] wlT) ⟨rfl, { X with tdv := sr1, V := Vr1 }, j, vd, (some (lb, lc)), es2, rfl, hq.keep hkk, hj, kr1.cut (addH_ne _ _), hL.keep hkk, hV.keep hkk, hK.trans ⟨hkk, rfl, rfl, id⟩⟩
end Go.Proofs.YtnfbcfflkphbiaaGreatDoor
