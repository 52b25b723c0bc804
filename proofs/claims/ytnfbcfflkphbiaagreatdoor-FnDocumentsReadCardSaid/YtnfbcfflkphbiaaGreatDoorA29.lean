/-
  Texts of the proof, joined: P2 F34 F35 F36 F37. No Go text.
-/
import Derived.Test.YtnfbcfflkphbiaaGreatDoorA01
import Derived.Test.YtnfbcfflkphbiaaGreatDoorA21
import Derived.Test.YtnfbcfflkphbiaaGreatDoorA28
import Derived.Test.YtnfbcfflkphbiaaGreatDoorA08
import Derived.Test.YtnfbcfflkphbiaaGreatDoorA26
import Derived.Test.YtnfbcfflkphbiaaGreatDoorA22
namespace Go.Proofs.YtnfbcfflkphbiaaGreatDoor
open Go Go.Proofs Tryz
set_option linter.all false
set_option maxRecDepth 100000
set_option maxHeartbeats 8000000
def isVer : Tk → Bool
 | .ver => true
 | _ => false
def tagOf : Tk → List (List Nat × List Nat)
 | .tag h p => [(h, p)]
 | _ => []
def qf (l : List Tk) : List (List Nat × List Nat) := l.flatMap tagOf
def verL (l : List Tk) : Bool := l.any isVer
structure DirOK (dt : List Tk) : Prop where
 kind : ∀ t ∈ dt, t = .ver ∨ ∃ h p, t = .tag h p ∧ HanT h ∧ PreT p
 len : dt.length ≤ 10
 onev : ∀ a b, dt = a ++ .ver :: b → verL a = false
 oneh : ∀ a b h p, dt = a ++ .tag h p :: b → h ∉ (qf a).map (·.1)
structure DocOK (d : kP) : Prop where
 nm : NameT d.nm
 dir : DirOK d.dt
 imp : d.ex = false → d.dt = []
def Al (f : Nat → Tk) (i : Nat) (l : List Tk) : Prop := ∀ k, f (i + k) = l[k]?.getD .se
theorem Al.head {f : Nat → Tk} {i : Nat} {t : Tk} {l : List Tk} (h : Al f i (t :: l)) : f i = t ∧ Al f (i + 1) l := by
 refine ⟨by simpa using h 0, fun k => ?_⟩
 have := h (k + 1)
 rw [show i + 1 + k = i + (k + 1) by omega]
 simpa using this
theorem Al.app {f : Nat → Tk} {i : Nat} {x l : List Tk} (h : Al f i (x ++ l)) : (∀ k, k < x.length → x[k]? = some (f (i + k))) ∧ Al f (i + x.length) l := by
 refine ⟨fun k hk => ?_, fun k => ?_⟩
 · have := h k
   rw [List.getElem?_append_left hk, List.getElem?_eq_getElem hk] at this
   rw [List.getElem?_eq_getElem hk, this]
   rfl
 · have := h (x.length + k)
   rw [List.getElem?_append_right omT, Nat.add_sub_cancel_left] at this
   rw [show i + x.length + k = i + (x.length + k) by omega]
   exact this
theorem Al.nil {f : Nat → Tk} {i : Nat} (h : Al f i []) : f i = .se := by simpa using h 0
theorem tagsL_app (a b : List Tk) : qf (a ++ b) = qf a ++ qf b := by simp [qf]
theorem verL_app (a b : List Tk) : verL (a ++ b) = (verL a || verL b) := by simp [verL]
theorem tgs_al {f : Nat → Tk} {i : Nat} {dt : List Tk} (h : ∀ k, k < dt.length → dt[k]? = some (f (i + k))) : ∀ c, c ≤ dt.length → tgs f i c = qf (dt.take c) ∧ vrs f i c = verL (dt.take c)
 | 0, _ => by simp [tgs, vrs, qf, verL]
 | c + 1, hc => by
  obtain ⟨h1, h2⟩ := tgs_al h c omT
  have hd := h c omT
  rw [List.take_add_one, hd]
  simp only [Option.toList_some, tagsL_app, verL_app, tgs, vrs, h1, h2]
  constructor
  · congr 1
    cases f (i + c) <;> simp [qf, tagOf]
  · congr 1
    cases f (i + c) <;> simp [verL, isVer]
theorem split_at {l : List Tk} {k : Nat} {t : Tk} (h : l[k]? = some t) : l = l.take k ++ t :: l.drop (k + 1) := by
 obtain ⟨hk, rfl⟩ := List.getElem?_eq_some_iff.1 h
 rw [← List.drop_eq_getElem_cons hk, List.take_append_drop]
theorem dir_facts {f : Nat → Tk} {i : Nat} {dt l : List Tk} (hd : DirOK dt) (h : Al f i (dt ++ .ds :: l)) :
   (∀ k, k < dt.length → f (i + k) = .ver ∨ ∃ h p, f (i + k) = .tag h p) ∧ f (i + dt.length) = .ds ∧ (∀ k, k < dt.length → f (i + k) = .ver → vrs f i k = false) ∧
   (∀ k h p, k < dt.length → f (i + k) = .tag h p → h ∉ (tgs f i k).map (·.1)) ∧ tgs f i dt.length = qf dt ∧ vrs f i dt.length = verL dt ∧ Al f (i + dt.length + 1) l := by
 obtain ⟨h1, h2⟩ := h.app
 obtain ⟨h3, h4⟩ := h2.head
 have hm : ∀ k, k < dt.length → f (i + k) ∈ dt := fun k hk => List.mem_of_getElem? (h1 k hk)
 refine ⟨fun k hk => ?_, h3, fun k hk hv => ?_, fun k hh pp hk ht => ?_, ?_, ?_, h4⟩
 · rcases hd.kind _ (hm k hk) with e | ⟨hh, pp, e, _⟩
   · exact .inl e
   · exact .inr ⟨hh, pp, e⟩
 · rw [(tgs_al h1 k omT).2]
   exact hd.onev _ _ (split_at (by rw [h1 k hk, hv]))
 · rw [(tgs_al h1 k omT).1]
   exact hd.oneh _ _ _ _ (split_at (by rw [h1 k hk, ht]))
 · rw [(tgs_al h1 _ (Nat.le_refl _)).1, List.take_length]
 · rw [(tgs_al h1 _ (Nat.le_refl _)).2, List.take_length]
structure AE where
 k : Int
 ver : Bool
 hs : List (List Nat)
 ps : List (List Nat)
 va : List Nat
 im : Bool
 qu : Bool
 sty : Int
def aeS : AE := ⟨1, false, [], [], [], false, false, 0⟩
def aeZ : AE := ⟨2, false, [], [], [], false, false, 0⟩
def aeD (d : kP) : AE := ⟨3, verL d.dt, (qf d.dt).map (·.1), (qf d.dt).map (·.2), [], false, false, 0⟩
def aeC (d : kP) : AE := ⟨6, false, [], [], d.nm, kT d.nm, !kT d.nm, if kT d.nm then 1 else 3⟩
def aeE (d : kP) : AE := ⟨4, false, [], [], [], !d.en, false, 0⟩
def docsE (ds : List kP) : List AE := (ds.flatMap fun d => [aeD d, aeC d, aeE d]) ++ [aeZ]
def kW (ds : List kP) : List Tk := ds.flatMap qO
def endT (d : kP) : List Tk := if d.en then [.de] else []
inductive Ph
 | start
 | first
 | more
 | cont (imp : Bool)
 | dend
 | fin
def remE : Ph → List kP → List AE
 | .start, ds => aeS :: docsE ds
 | .first, ds => docsE ds
 | .more, ds => docsE ds
 | .cont _, d :: ds => aeC d :: aeE d :: docsE ds
 | .dend, d :: ds => aeE d :: docsE ds
 | .cont _, [] => []
 | .dend, [] => []
 | .fin, _ => []
theorem docs_first {f : Nat → Tk} {i : Nat} {ds : List kP} (hd : ∀ d ∈ ds, DocOK d) (h : Al f i (kW ds)) : f i ≠ .de := by
 have h0 := h 0
 rw [Nat.add_zero] at h0
 rw [h0]
 cases ds with
 | nil => simp [kW]
 | cons d ds =>
  have hk := (hd d (by simp)).dir.kind
  simp only [kW, List.flatMap_cons, qO]
  cases hx : d.ex
  · simp
  · cases hdt : d.dt with
    | nil => simp
    | cons t dt =>
     rcases hk t (by simp [hdt]) with rfl | ⟨hh, pp, rfl, _⟩ <;> simp
theorem docsT_cons (d : kP) (ds : List kP) : kW (d :: ds) = (if d.ex then d.dt ++ [.ds] else []) ++ (.sc (styOf d.nm) d.nm :: (endT d ++ kW ds)) := by
 simp [kW, qO, endT]
theorem tags_ok {ds : List kP} (hd : ∀ d ∈ ds, DocOK d) {h p : List Nat} (hm : .tag h p ∈ kW ds) : HanT h ∧ PreT p := by
 obtain ⟨d, hdm, ht⟩ := List.mem_flatMap.1 hm
 have hk := (hd d hdm).dir.kind
 simp only [qO, List.mem_append] at ht
 rcases ht with ht | ht | ht
 · split at ht
   · rcases List.mem_append.1 ht with ht | ht
     · rcases hk _ ht with e | ⟨h', p', e, h1, h2⟩
       · cases e
       · cases e; exact ⟨h1, h2⟩
     · simp at ht
   · cases ht
 · simp at ht
 · split at ht <;> simp at ht
theorem tagsL_mem {dt : List Tk} {t : List Nat × List Nat} (h : t ∈ qf dt) : .tag t.1 t.2 ∈ dt := by
 obtain ⟨x, hx, ht⟩ := List.mem_flatMap.1 h
 cases x <;> simp [tagOf] at ht
 subst ht
 exact hx
theorem tagsL_le (dt : List Tk) : (qf dt).length ≤ dt.length := by
 induction dt with
 | nil => simp [qf]
 | cons t dt ih =>
  have : qf (t :: dt) = tagOf t ++ qf dt := rfl
  rw [this, List.length_append, List.length_cons]
  have : (tagOf t).length ≤ 1 := by cases t <;> simp [tagOf]
  omega
structure EvP (X : SS) (ev : EVt) (o : Option (Nat × Nat)) (es : List (Sl × Sl)) (tg : List (List Nat × List Nat)) (x : List Nat) (a : AE) : Prop where
 ty : 0 ≤ ev.ty ∧ ev.ty ≤ 100
 st : 0 ≤ ev.sty ∧ ev.sty ≤ 100
 td : ev.td = tdS o es.length
 ld : LDR X.V o es tg
 tgl : ∀ t ∈ tg, (∀ c ∈ t.1, c < 256) ∧ (∀ c ∈ t.2, c < 256)
 ln : tg.length ≤ 1000
 vd : ∀ b, ev.vd = some b → VB b ∈ X.V
 va : (ev.va = Sl.nil ∧ x = []) ∨ InV X.V ev.va x
 xl : ∀ c ∈ x, c < 256
 j1 : JSl X.J ev.hd
 j2 : JSl X.J ev.ln
 j3 : JSl X.J ev.ft
 sc : ev.ty = 6 → ev.sty = 2 ∨ ev.sty = 8
 k : ev.ty = a.k
 ver : ev.vd.isSome = a.ver
 hs : tg.map (·.1) = a.hs
 ps : tg.map (·.2) = a.ps
 xv : x = a.va
 im : ev.im = a.im
 qu : ev.qu = a.qu
 sty : styN ev = a.sty
theorem ldr_nil (V : VL) : LDR V none [] [] := ⟨fun _ => rfl, fun b c e => (by cases e), rfl, fun k e t h => (by simp at h)⟩
theorem vdr_spec {V : VL} {vd : Option Nat} {v : Bool} (h : VDR V vd v) : vd.isSome = v ∧ ∀ b, vd = some b → VB b ∈ V := by
 cases v with
 | false =>
  have := h.1 rfl
  subst this
  exact ⟨rfl, fun b e => by cases e⟩
 | true =>
  obtain ⟨b, rfl, hb⟩ := h.2 rfl
  exact ⟨rfl, fun b' e => by cases e; exact hb⟩
theorem sc_evp {X : SS} {ev : EVt} {d : kP} (hn : NameT d.nm) (h : ScEv X ev (styOf d.nm) d.nm) : EvP X ev none [] [] d.nm (aeC d) := by
 obtain ⟨ty, vd, td, hd, ln, ft, va, im, qu, sty⟩ := h
 have h6 : ev.ty = 6 := ty
 have hs : styOf d.nm = 2 ∨ styOf d.nm = 8 := by unfold styOf; split <;> simp
 refine ⟨by omega, by omega, by rw [td]; rfl, ldr_nil _, by simp, by simp, fun b e => (by rw [vd] at e; cases e), .inr va, fun c hc => (by have := ky (hn.2.2 c hc); omega), hd, ln, ft, fun _ => by rw [sty]; exact hs, ty, by rw [vd]; rfl, rfl, rfl, rfl, ?_, ?_, ?_⟩
 · rw [im]; unfold styOf aeC; dsimp only; cases kT d.nm <;> rfl
 · rw [qu]; unfold styOf aeC; dsimp only; cases kT d.nm <;> rfl
 · unfold styN; rw [if_pos h6, sty]; unfold styOf aeC; dsimp only; cases kT d.nm <;> rfl
def TD3 (X : SS) : Prop := ∃ b n c, X.tdv = ⟨some ⟨b, 0, none⟩, n, c⟩ ∧ n ≤ c ∧ TDV X.V ⟨some ⟨b, 0, none⟩, 0, c⟩ []
theorem TD3.move {X Y : SS} (h : TD3 X) (ht : Y.tdv = X.tdv) (hv : ∀ y ∈ X.V, y ∈ Y.V) : TD3 Y := by
 obtain ⟨b, n, c, h1, h2, h3⟩ := h
 exact ⟨b, n, c, ht.trans h1, h2, h3.mono hv⟩
def PInv (L : Lay) (T : List Nat) (p : Nat → Nat) (f : Nat → Tk) (N : Nat) : Ph → SS → Nat → Nat → Nat → Nat → List kP → Prop
 | .start, _, i, _, _, _, ds => i = 1 ∧ Al f i (kW ds) ∧ i + (kW ds).length = N
 | .first, X, i, j, _, _, ds => QR L T p f N X i j ∧ X.st = 1 ∧ X.stv = Sl.nil ∧ X.sep = false ∧ TDV X.V X.tdv [] ∧ 1 ≤ i ∧ Al f i (kW ds) ∧ i + (kW ds).length = N
 | .more, X, i, j, sb, sc, ds => QR L T p f N X i j ∧ X.st = 2 ∧ X.stv = ⟨some ⟨sb, 0, none⟩, 0, sc⟩ ∧ (1 ≤ sc ∧ sc ≤ 9223372036854775807) ∧ X.sep = false ∧ TDV X.V X.tdv [] ∧ 1 ≤ i ∧ (∀ d ∈ ds, d.ex = true) ∧ Al f i (kW ds) ∧ i + (kW ds).length = N
 | .cont b, X, i, j, sb, sc, d :: ds => QR L T p f N X i j ∧ X.st = (if b then 5 else 3) ∧ X.stv = ⟨some ⟨sb, 0, none⟩, 1, sc⟩ ∧ (1 ≤ sc ∧ sc ≤ 9223372036854775807) ∧ X.sep = false ∧ TD3 X ∧ 1 ≤ i ∧ (∀ d ∈ ds, d.ex = true) ∧ Al f i (.sc (styOf d.nm) d.nm :: (endT d ++ kW ds)) ∧ i + 1 + (endT d ++ kW ds).length = N
 | .dend, X, i, j, sb, sc, d :: ds => QR L T p f N X i j ∧ X.st = 4 ∧ X.stv = ⟨some ⟨sb, 0, none⟩, 0, sc⟩ ∧ (1 ≤ sc ∧ sc ≤ 9223372036854775807) ∧ X.sep = false ∧ TD3 X ∧ 1 ≤ i ∧ (∀ d ∈ ds, d.ex = true) ∧ Al f i (endT d ++ kW ds) ∧ i + (endT d ++ kW ds).length = N
 | .cont _, _, _, _, _, _, [] => False
 | .dend, _, _, _, _, _, [] => False
 | .fin, _, _, _, _, _, _ => True
def PHp (L : Lay) (T : List Nat) : Ph → SS → Nat → Nat → zl
 | .start, _, _, _ => RH L T (psI .new) []
 | .first, X, _, _ => SH L T X
 | .more, X, sb, sc => STB sb sc :: SH L T X
 | .cont _, X, sb, sc => STB sb sc :: SH L T X
 | .dend, X, sb, sc => STB sb sc :: SH L T X
 | .fin, X, _, _ => SH L T X
def Step (L : Lay) (T : List Nat) (p : Nat → Nat) (f : Nat → Tk) (N eb : Nat) (ph : Ph) (X0 : SS) (ds : List kP) (v : Value) (H' : zl) : Prop :=
 v = .bool true ∧ ∃ ph' X i j sb sc ds' ev o es tg x a, H' = EVB T eb ev :: (TDH o es ++ PHp L T ph' X sb sc) ∧ PInv L T p f N ph' X i j sb sc ds' ∧ ph' ≠ .start ∧ (ds' = ds ∨ ds' = ds.tail) ∧ (ph ≠ .start → ∀ y ∈ X0.V, NTD y → y ∈ X.V) ∧ remE ph ds = a :: remE ph' ds' ∧ (a.k = 2 ↔ remE ph' ds' = []) ∧ EvP X ev o es tg x a
theorem wk_td {L : Lay} {T : List Nat} {X : SS} {eb sb sc : Nat} {ev : EVt} {o : Option (Nat × Nat)} {es : List (Sl × Sl)} : Wk (EVB T eb ev :: STB sb sc :: RH L T (zc X) (TDH o es ++ (TKB T X :: SKB X :: MPB X :: (CH T X.J X.C ++ XH X.V X.J)))) (EVB T eb ev :: (TDH o es ++ (STB sb sc :: SH L T X))) :=
 Wk.perm (.cons _ (List.perm_append_comm_assoc [STB sb sc, PB L T (zc X), BB L T (zc X), RB L T (zc X), IB L T, GE L] (TDH o es) (TKB T X :: SKB X :: MPB X :: (CH T X.J X.C ++ XH X.V X.J))))
instance {H : zl} {b : Nat} {k : Blk} {x : Nat × Blk} [h : Has H b k] : Has (x :: H) b k := inferInstance
theorem step_ok (L : Lay) (T : List Nat) (p : Nat → Nat) (f : Nat → Tk) (N eb : Nat) (ph : Ph) (X : SS) (i j sb sc : Nat) (ds : List kP) (he : Eof L) (hs : Str T p f N) (h0 : p 1 = sk T 0) (hI : Inv L T (psI (.got 0 false))) (hT : T.length ≤ 1000000)
  (hd : ∀ d ∈ ds, DocOK d) (hex : ∀ d ∈ ds.tail, d.ex = true) (hP : PInv L T p f N ph X i j sb sc ds) (hne : ph ≠ .fin) :
  Fn prog 17 [pV L.p, pV eb] (EVZ eb :: PHp L T ph X sb sc) (Step L T p f N eb ph X ds) := by
 refine zp_ok ?_
 cases ph with
 | fin => exact absurd rfl hne
 | start =>
  obtain ⟨rfl, hal, hN⟩ := hP
  refine pp_ok (s := psI .new) (Hr := RH L T (psI .new) []) rfl (by decide) (sm0_ok (s := psI .new) rfl ?_)
  refine (pss_ok L T p f N eb he hs h0 hI hT).mono ?_
  rintro v H' ⟨rfl, X, j, ev, rfl, hq, g1, g2, g3, g4, e1, e2, e3, e4, e5, e6, e7, e8, e9, e10⟩
  refine ⟨rfl, .first, X, 1, j, 0, 0, ds, ev, none, [], [], [], aeS, rfl, ⟨hq, g1, g2, g4, ?_, Nat.le_refl _, hal, hN⟩, by simp, .inl rfl, fun h => absurd rfl h, rfl, ⟨fun h => (by cases h), fun h => (by simp [remE, docsE] at h)⟩, ?_⟩
  · rw [g3]
    exact ⟨none, [], rfl, fun b c e => (by cases e), ⟨fun _ => rfl, fun b c e => (by cases e), rfl, fun k e h h1 => (by simp at h1)⟩⟩
  · refine ⟨by omega, by omega, by rw [e3]; rfl, ldr_nil _, by simp, by simp, fun b e => (by rw [e2] at e; cases e), .inl ⟨e7, rfl⟩, by simp, by rw [e4]; exact JSl.nil _, by rw [e5]; exact JSl.nil _, by rw [e6]; exact JSl.nil _, fun h => omT, e1, by rw [e2]; rfl, rfl, rfl, rfl, e8, e9, by unfold styN; rw [if_neg omT, e10]; rfl⟩
 | first =>
  obtain ⟨hq, g1, g2, g3, g4, g5, hal, hN⟩ := hP
  refine pp_ok (s := zc X) (Hr := SH L T X) g3 (by rw [show (zc X).st = X.st from rfl, g1]; decide) (sm1_ok (s := zc X) g1 ?_)
  cases ds with
  | nil =>
    have hse := hal.nil
    have hiN : i ≤ N := by simp [kW] at hN; omega
    refine (pdz_ok L T p f N eb i j true X he hs hq hse hiN).mono ?_
    rintro v H' ⟨rfl, X', j', ev, rfl, hq', k1, k2, kv, k3⟩
    obtain ⟨ty, vd, td, hd', ln, ft, va, im, qu, sty⟩ := k3
    refine ⟨rfl, .fin, X', i + 1, j', 0, 0, [], ev, none, [], [], [], aeZ, rfl, trivial, by simp, .inl rfl, fun _ y hy _ => kv y hy, rfl, ⟨fun _ => rfl, fun _ => rfl⟩, ?_⟩
    exact ⟨by omega, by omega, by rw [td]; rfl, ldr_nil _, by simp, by simp, fun b e => (by rw [vd] at e; cases e), .inl ⟨va, rfl⟩, by simp, by rw [hd']; exact JSl.nil _, by rw [ln]; exact JSl.nil _, by rw [ft]; exact JSl.nil _, fun h => omT, ty, by rw [vd]; rfl, rfl, rfl, rfl, im, qu, by unfold styN; rw [if_neg omT, sty]; rfl⟩
  | cons d ds =>
    have hdd := hd d (by simp)
    have htg : ∀ k h p, f (i + k) = .tag h p → (∀ c ∈ h, c < 256) ∧ (∀ c ∈ p, c < 256) ∧ h.length < 1000000 ∧ p.length < 1000000 := by
      intro k h p e
      have hk := hal k
      rw [e] at hk
      have hm : .tag h p ∈ kW (d :: ds) := by
        cases hg : (kW (d :: ds))[k]? with
        | none => rw [hg] at hk; cases hk
        | some t => rw [hg] at hk; simp at hk; subst hk; exact List.mem_of_getElem? hg
      have := tags_ok hd hm
      have h2 := this.1.le
      have h3 := this.2.2.1
      exact ⟨h2.2.2, this.2.lt, by omega, by omega⟩
    rw [docsT_cons] at hal hN
    have hexd : ∀ d ∈ ds, d.ex = true := fun d h => hex d h
    cases hx : d.ex with
    | true =>
      simp only [hx, if_true] at hal hN
      rw [List.append_assoc] at hal hN
      obtain ⟨f1, f2, f3, f4, f5, f6, f7⟩ := dir_facts hdd.dir hal
      have hlen := hdd.dir.len
      refine (pds0_ok L T p f N eb i j d.dt.length 0 1 true X he hs hq g5 f1 f2 f3 f4 htg omT g4 g2 (by decide)).conv (List.Perm.refl _) ?_
      rintro v H' ⟨rfl, X', j', vd, o2, es2, ev, sb', sc', rfl, hq', k1, k2, k3, k4, k5, k6, k7, k8, k9⟩
      obtain ⟨ty, vdx, td, hd', ln, ft, va, im, qu, sty⟩ := k9
      have hv := vdr_spec k7
      refine ⟨_, wk_td, rfl, .cont false, X', _, j', sb', sc', d :: ds, ev, o2, es2, qf d.dt, [], aeD d, rfl, ⟨hq', k1, k2, k3, k4 g3, k5, by omega, hexd, f7, by simp at hN ⊢; omega⟩, by simp, .inl rfl, fun _ => k8, ?_, ⟨fun h => (by cases h), fun h => (by simp [remE] at h)⟩, ?_⟩
      · simp [remE, docsE]
      · rw [f5] at k6
        exact ⟨by omega, by omega, td, k6, fun t ht => (by
          rcases hdd.dir.kind _ (tagsL_mem ht) with e | ⟨h', p', e, h1, h2⟩
          · cases e
          · cases e; exact ⟨h1.le.2.2, h2.lt⟩), by have := tagsL_le d.dt; omega, fun b e => hv.2 b (vdx ▸ e), .inl ⟨va, rfl⟩, by simp, by rw [hd']; exact JSl.nil _, by rw [ln]; exact JSl.nil _, by rw [ft]; exact JSl.nil _, fun h => omT, ty, by rw [vdx, hv.1, f6]; rfl, rfl, rfl, rfl, im, qu, by unfold styN; rw [if_neg omT, sty]; rfl⟩
    | false =>
      simp only [hx, Bool.false_eq_true, if_false, List.nil_append] at hal hN
      obtain ⟨f1, f2⟩ := hal.head
      have hdt := hdd.imp hx
      refine (pdi_ok L T p f N eb i j X _ _ he hs hq f1 g4 g2).mono ?_
      rintro v H' ⟨rfl, X', j', ev, sb', sc', rfl, hq', k1, k2, k3, k4, k5, k6, k7⟩
      obtain ⟨ty, vdx, td, hd', ln, ft, va, im, qu, sty⟩ := k7
      refine ⟨rfl, .cont true, X', i, j', sb', sc', d :: ds, ev, none, [], [], [], aeD d, rfl, ⟨hq', k1, k2, k3, k4.trans g3, k5, g5, hexd, hal, by simp at hN ⊢; omega⟩, by simp, .inl rfl, fun _ => k6, by simp [remE, docsE], ⟨fun h => (by cases h), fun h => (by simp [remE] at h)⟩, ?_⟩
      exact ⟨by omega, by omega, by rw [td]; rfl, ldr_nil _, by simp, by simp, fun b e => (by rw [vdx] at e; cases e), .inl ⟨va, rfl⟩, by simp, hd', by rw [ln]; exact JSl.nil _, by rw [ft]; exact JSl.nil _, fun h => omT, ty, by rw [vdx]; simp [aeD, hdt, verL], by simp [aeD, hdt, qf], by simp [aeD, hdt, qf], rfl, im, qu, by unfold styN; rw [if_neg omT, sty]; rfl⟩
 | more =>
  obtain ⟨hq, g1, g2, gsc, g3, g4, g5, hexa, hal, hN⟩ := hP
  refine pp_ok (s := zc X) (Hr := STB sb sc :: SH L T X) g3 (by rw [show (zc X).st = X.st from rfl, g1]; decide) (sm2_ok (s := zc X) g1 ?_)
  cases ds with
  | nil =>
    have hse := hal.nil
    have hiN : i ≤ N := by simp [kW] at hN; omega
    have hpm : (EVZ eb :: STB sb sc :: SH L T X).Perm ((EVZ eb :: SH L T X) ++ [STB sb sc]) := .cons _ (List.perm_append_comm (l₁ := [STB sb sc]))
    refine ((pdz_ok L T p f N eb i j false X he hs hq hse hiN).frame (Hf := [STB sb sc])).conv hpm ?_
    rintro v H' ⟨H1, ⟨rfl, X', j', ev, rfl, hq', k1, k2, kv, k3⟩, rfl⟩
    obtain ⟨ty, vd, td, hd', ln, ft, va, im, qu, sty⟩ := k3
    refine ⟨EVB T eb ev :: (TDH none [] ++ PHp L T .fin X' 0 0), (Wk.sel (Hc := EVB T eb ev :: SH L T X') (Hf := [STB sb sc]) (h := ⟨List.Perm.refl _⟩)), rfl, .fin, X', i + 1, j', 0, 0, [], ev, none, [], [], [], aeZ, rfl, trivial, by simp, .inl rfl, fun _ y hy _ => kv y hy, rfl, ⟨fun _ => rfl, fun _ => rfl⟩, ?_⟩
    exact ⟨by omega, by omega, by rw [td]; rfl, ldr_nil _, by simp, by simp, fun b e => (by rw [vd] at e; cases e), .inl ⟨va, rfl⟩, by simp, by rw [hd']; exact JSl.nil _, by rw [ln]; exact JSl.nil _, by rw [ft]; exact JSl.nil _, fun h => omT, ty, by rw [vd]; rfl, rfl, rfl, rfl, im, qu, by unfold styN; rw [if_neg omT, sty]; rfl⟩
  | cons d ds =>
    have hdd := hd d (by simp)
    have htg : ∀ k h p, f (i + k) = .tag h p → (∀ c ∈ h, c < 256) ∧ (∀ c ∈ p, c < 256) ∧ h.length < 1000000 ∧ p.length < 1000000 := by
      intro k h p e
      have hk := hal k
      rw [e] at hk
      have hm : .tag h p ∈ kW (d :: ds) := by
        cases hg : (kW (d :: ds))[k]? with
        | none => rw [hg] at hk; cases hk
        | some t => rw [hg] at hk; simp at hk; subst hk; exact List.mem_of_getElem? hg
      have := tags_ok hd hm
      have h2 := this.1.le
      have h3 := this.2.2.1
      exact ⟨h2.2.2, this.2.lt, by omega, by omega⟩
    rw [docsT_cons] at hal hN
    have hexd : ∀ d ∈ ds, d.ex = true := fun d h => hex d h
    have hx : d.ex = true := hexa d (by simp)
    simp only [hx, if_true] at hal hN
    rw [List.append_assoc] at hal hN
    obtain ⟨f1, f2, f3, f4, f5, f6, f7⟩ := dir_facts hdd.dir hal
    have hlen := hdd.dir.len
    refine (pds1_ok L T p f N eb i j d.dt.length sb sc false X he hs hq g5 f1 f2 f3 f4 htg omT g4 g2 gsc).conv (List.Perm.refl _) ?_
    rintro v H' ⟨rfl, X', j', vd, o2, es2, ev, sb', sc', rfl, hq', k1, k2, k3, k4, k5, k6, k7, k8, k9⟩
    obtain ⟨ty, vdx, td, hd', ln, ft, va, im, qu, sty⟩ := k9
    have hv := vdr_spec k7
    refine ⟨_, wk_td, rfl, .cont false, X', _, j', sb', sc', d :: ds, ev, o2, es2, qf d.dt, [], aeD d, rfl, ⟨hq', k1, k2, k3, k4 g3, k5, by omega, hexd, f7, by simp at hN ⊢; omega⟩, by simp, .inl rfl, fun _ => k8, ?_, ⟨fun h => (by cases h), fun h => (by simp [remE] at h)⟩, ?_⟩
    · simp [remE, docsE]
    · rw [f5] at k6
      exact ⟨by omega, by omega, td, k6, fun t ht => (by
        rcases hdd.dir.kind _ (tagsL_mem ht) with e | ⟨h', p', e, h1, h2⟩
        · cases e
        · cases e; exact ⟨h1.le.2.2, h2.lt⟩), by have := tagsL_le d.dt; omega, fun b e => hv.2 b (vdx ▸ e), .inl ⟨va, rfl⟩, by simp, by rw [hd']; exact JSl.nil _, by rw [ln]; exact JSl.nil _, by rw [ft]; exact JSl.nil _, fun h => omT, ty, by rw [vdx, hv.1, f6]; rfl, rfl, rfl, rfl, im, qu, by unfold styN; rw [if_neg omT, sty]; rfl⟩
 | cont b =>
  cases ds with
  | nil => exact hP.elim
  | cons d ds =>
    obtain ⟨hq, g1, g2, gsc, g3, g4, g5, hexa, hal, hN⟩ := hP
    have hdd := hd d (by simp)
    obtain ⟨f1, f2⟩ := hal.head
    have fin : ∀ v H', (v = .bool true ∧ ∃ X' j' ev, H' = EVB T eb ev :: STB sb sc :: SH L T X' ∧ QR L T p f N X' (i + 1) j' ∧ X'.st = 4 ∧ X'.stv = ⟨some ⟨sb, 0, none⟩, 0, sc⟩ ∧ X'.tdv = X.tdv ∧ X'.sep = false ∧ (∀ x ∈ X.V, x ∈ X'.V) ∧ ScEv X' ev (styOf d.nm) d.nm) → Step L T p f N eb (.cont b) X (d :: ds) v H' := by
      rintro v H' ⟨rfl, X', j', ev, rfl, hq', k1, k2, k3, k4, k5, k6⟩
      exact ⟨rfl, .dend, X', i + 1, j', sb, sc, d :: ds, ev, none, [], [], d.nm, aeC d, rfl, ⟨hq', k1, k2, gsc, k4, g4.move k3 k5, by omega, hexa, f2, by omega⟩, by simp, .inl rfl, fun _ y hy _ => k5 y hy, rfl, ⟨fun h => (by cases h), fun h => (by simp [remE] at h)⟩, sc_evp hdd.nm k6⟩
    cases b with
    | false =>
      refine pp_ok (s := zc X) (Hr := STB sb sc :: SH L T X) g3 (by rw [show (zc X).st = X.st from rfl, g1]; decide) (sm3_ok (s := zc X) g1 ?_)
      exact (pdc_ok L T p f N eb sb sc i j X _ _ he hs hq f1 omT g2 gsc).mono fin
    | true =>
      refine pp_ok (s := zc X) (Hr := STB sb sc :: SH L T X) g3 (by rw [show (zc X).st = X.st from rfl, g1]; decide) (sm5_ok (s := zc X) g1 ?_)
      exact (psn_ok L T p f N eb sb sc i j X _ _ he hs hq f1 omT g2 gsc).mono fin
 | dend =>
  cases ds with
  | nil => exact hP.elim
  | cons d ds =>
    obtain ⟨hq, g1, g2, gsc, g3, g4, g5, hexa, hal, hN⟩ := hP
    obtain ⟨tb, tn, tc, ht1, ht2, ht3⟩ := g4
    refine pp_ok (s := zc X) (Hr := STB sb sc :: SH L T X) g3 (by rw [show (zc X).st = X.st from rfl, g1]; decide) (sm4_ok (s := zc X) g1 ?_)
    have hpm : (EVZ eb :: STB sb sc :: SH L T X).Perm ((EVZ eb :: SH L T X) ++ [STB sb sc]) := .cons _ (List.perm_append_comm (l₁ := [STB sb sc]))
    refine ((pde_ok L T p f N eb i j tb tn tc X he hs hq ht1 g3).frame (Hf := [STB sb sc])).conv hpm ?_
    rintro v H' ⟨H1, ⟨rfl, X', i', j', ev, b, rfl, hq', hde, k1, k2, k3, k4, k5, k6⟩, rfl⟩
    obtain ⟨ty, vd, td, hd', ln, ft, va, im, qu, sty⟩ := k6
    have hb : b = !d.en ∧ Al f i' (kW ds) ∧ i' + (kW ds).length = N ∧ 1 ≤ i' := by
      cases hen : d.en with
      | true =>
        simp only [endT, hen, if_true, List.cons_append, List.nil_append, List.length_cons] at hal hN
        obtain ⟨f1, f2⟩ := hal.head
        rcases hde with ⟨_, rfl, rfl⟩ | ⟨hnd, _⟩
        · exact ⟨rfl, f2, by omega, by omega⟩
        · exact absurd f1 hnd
      | false =>
        simp only [endT, hen, Bool.false_eq_true, if_false, List.nil_append] at hal hN
        have hnd := docs_first (fun d h => hd d (by simp [h])) hal
        rcases hde with ⟨hde, _⟩ | ⟨_, rfl, rfl⟩
        · exact absurd hde hnd
        · exact ⟨rfl, hal, hN, g5⟩
    obtain ⟨rfl, hal', hN', h1'⟩ := hb
    have hpm2 : ((EVB T eb ev :: SH L T X') ++ [STB sb sc]).Perm (EVB T eb ev :: (TDH none [] ++ PHp L T .more X' sb sc)) := .cons _ (List.perm_append_comm (l₂ := [STB sb sc]))
    refine ⟨_, Wk.perm hpm2, rfl, .more, X', i', j', sb, sc, ds, ev, none, [], [], [], aeE d, rfl, ⟨hq', k1, k2.trans g2, gsc, k4, by rw [k3]; exact ht3.mono k5, h1', hexa, hal', hN'⟩, by simp, .inr rfl, fun _ y hy _ => k5 y hy, rfl, ⟨fun h => (by cases h), fun h => (by simp [remE, docsE] at h)⟩, ?_⟩
    exact ⟨by omega, by omega, by rw [td]; rfl, ldr_nil _, by simp, by simp, fun b e => (by rw [vd] at e; cases e), .inl ⟨va, rfl⟩, by simp, hd', ln, ft, fun h => omT, ty, by rw [vd]; rfl, rfl, rfl, rfl, im, qu, by unfold styN; rw [if_neg omT, sty]; rfl⟩
theorem like_rw0 {t n : Nat} {f g : Nat → Value} : (Blk.row t (0, 0) n f).like (.win t n 0 0 g) :=
 Blk.likeS ⟨rfl, rfl, rfl, rfl, rfl, Nat.zero_le _, fun i h1 h2 => by simp only [Blk.known] at h2; omega⟩
section
variable {P : Program} {n : Nat} {ds : List Deferred} {pu : Bool} {w0 : World} {D : List Nat} {H : zl} {E : Env}
variable {d : Option Nat} {ty : TypeId} {ps : String} {af : Array Edge} {g : Option (Nat × Bool)} {x y : Operand}
theorem run_equalIn_nf {P : Program} (w : World) (d : Nat) (t : TypeId) {qs rs : Array TypeId} {v : Bool} (h : P.underlying t = some (.func qs rs v)) :
  (Op.equalIn (d + 1) t .nilFunc .nilFunc).run P w = .ok true w := by
 simp [Op.equalIn, underlying, program, Sem.run, Bind.bind, Sem.bind, h, Pure.pure]
theorem q_nfn {t t2 : TypeId} {qs rs : Array TypeId} {v : Bool} (ht : P.underlying t = some (.func qs rs v)) (hx : opv E x = some .nilFunc) (hy : opv E y = some .nilFunc) : Q1 P n ds pu w0 D H E ⟨d, .binOp .neq t x y t2, ty, ps, af, g⟩ (.bool false) := by
 intro a w he _
 simp [execOp, he.eval hx, he.eval hy, eqGuard, binOp, Op.equal, Op.maxDepth, run_equalIn_nf w 9999 t ht]
end
abbrev zP : List Value := [zI, .string ⟨#[]⟩, zI, zI, zI, zI, zI, .string ⟨#[]⟩, zI, zI, zI,
 .nilFunc, .nilIface, zS, zI, .bool false, zS, zI, zI, zI, zS, zI, zI, zI,
 zI, zI, zI, zS, zS, zS, zS, zS, zS, zI, .bool false, .bool false, zI,
 zS, zI, zI, .bool false, zI, zS, .bool false, zS, .map none, zI, zS, zS, zS, zS, .pointer none]
def zP1 (bb rb : Nat) : List Value := (zP.set 16 (.slice (some ⟨bb, 0, none⟩) 0 1536)).set 20 (.slice (some ⟨rb, 0, none⟩) 0 512)
theorem init_ok (pb : Nat) : Fn prog 31 [pV pb] [(pb, .cs 75 zP [])]
  (fun v H' => v = .bool true ∧ ∃ bb rb, H' = [(pb, .cs 75 (zP1 bb rb) []), (bb, .row 5 (0, 0) 1536 (fun _ => .int .u8 0)), (rb, .row 5 (0, 0) 512 (fun _ => .int .u8 0))]) := by
 refine zo func31 rfl rfl rfl ?_
 intro w
 refine gg 6 ?_
 refine ke (fun i => i == 1 || i == 2 || i == 5) (fun i => i == 5) ([]) zF ?_
 refine mqh 0 rfl kR rfl rfl (fun _ => zj rfl) ?_
 refine mqls [1, 2] kR ⟨fun hcl => ⟨_, rfl, ?_⟩, fun hcl => ⟨_, rfl, ?_⟩, trivial⟩
 ·
  refine kL rfl rfl rfl (k1 := .i64) (k2 := .i64) (ln := 0) (cp := 512) rfl rfl omT omT omT ?_
  intro rb
  refine mqn 1 hcl ?_
  refine mql 2 rfl kR (fun hcl => ?_)
  refine kL rfl rfl rfl (k1 := .i64) (k2 := .i64) (ln := 0) (cp := 1536) rfl rfl omT omT omT ?_
  intro bb
  refine mqn 2 hcl ?_
  refine mq 3 rfl kR rfl rfl (zu (l := [_, _, _, _, _, _, _, _, _, _, _, _, _, _, _, _, _, _, _, _, _, _, _, _, _, _, _, _, _, _, _, _, _, _, _, _, _, _, _, _, _, _, _, _, _, _, _, _, _, _, _, _]) (zs := [zI, .string ⟨#[]⟩, zI, zI, zI, zI, zI, .string ⟨#[]⟩, zI, zI, zI, .nilFunc, .nilIface, zS, zI, .bool false, zS, zI, zI, zI, zS, zI, zI, zI, zI, zI, zI, zS, zS, zS, zS, zS, zS, zI, .bool false, .bool false, zI, zS, zI, zI, .bool false, zI, zS, .bool false, zS, .map none, zI, zS, zS, zS, zS, .pointer none]) [0, 1, 2, 3, 4, 7, 8, 11, 12, 13, 14, 15, 16, 17, 18, 19, 20, 21, 22, 23, 24, 27, 28, 29, 30, 31, 32, 33, 34, 35, 36, 37, 38, 39, 40, 41, 42, 43, 44, 45, 46, 47, 48, 49, 50, 51] rfl rfl kR) ?_
  refine mq 4 rfl kR rfl rfl (zJ rfl) ?_
  refine mql 5 rfl kR (fun hcl => ?_)
  first | refine stw rfl rfl ?_ | refine sts rfl rfl ?_
  refine zO 5 rfl kR (gg 7 ?_)
  exact zm rfl rfl (Wk.to [pb, bb, rb] wlT) ⟨rfl, bb, rb, rfl⟩
 ·
  refine kL rfl rfl rfl (k1 := .i64) (k2 := .i64) (ln := 0) (cp := 1536) rfl rfl omT omT omT ?_
  intro bb
  refine mqn 2 hcl ?_
  refine mql 1 rfl kR (fun hcl => ?_)
  refine kL rfl rfl rfl (k1 := .i64) (k2 := .i64) (ln := 0) (cp := 512) rfl rfl omT omT omT ?_
  intro rb
  refine mqn 1 hcl ?_
  refine mq 3 rfl kR rfl rfl (zu (l := [_, _, _, _, _, _, _, _, _, _, _, _, _, _, _, _, _, _, _, _, _, _, _, _, _, _, _, _, _, _, _, _, _, _, _, _, _, _, _, _, _, _, _, _, _, _, _, _, _, _, _, _]) (zs := [zI, .string ⟨#[]⟩, zI, zI, zI, zI, zI, .string ⟨#[]⟩, zI, zI, zI, .nilFunc, .nilIface, zS, zI, .bool false, zS, zI, zI, zI, zS, zI, zI, zI, zI, zI, zI, zS, zS, zS, zS, zS, zS, zI, .bool false, .bool false, zI, zS, zI, zI, .bool false, zI, zS, .bool false, zS, .map none, zI, zS, zS, zS, zS, .pointer none]) [0, 1, 2, 3, 4, 7, 8, 11, 12, 13, 14, 15, 16, 17, 18, 19, 20, 21, 22, 23, 24, 27, 28, 29, 30, 31, 32, 33, 34, 35, 36, 37, 38, 39, 40, 41, 42, 43, 44, 45, 46, 47, 48, 49, 50, 51] rfl rfl kR) ?_
  refine mq 4 rfl kR rfl rfl (zJ rfl) ?_
  refine mql 5 rfl kR (fun hcl => ?_)
  first | refine stw rfl rfl ?_ | refine sts rfl rfl ?_
  refine zO 5 rfl kR (gg 7 ?_)
  exact zm rfl rfl (Wk.to [pb, bb, rb] wlT) ⟨rfl, bb, rb, rfl⟩
theorem pst_ok (pb : Nat) : Fn prog 15 [pV pb] [(pb, .cs 75 zP [])]
  (fun v H' => v = .tuple #[] ∧ ∃ bb rb, H' = [(pb, .cs 75 (zP1 bb rb) []), (bb, .row 5 (0, 0) 1536 (fun _ => .int .u8 0)), (rb, .row 5 (0, 0) 512 (fun _ => .int .u8 0))]) := by
 refine zo func15 rfl rfl rfl ?_
 intro w
 refine zi (smv ?_)
 refine za rfl rfl rfl (init_ok pb) ?_
 rintro _ _ ⟨rfl, bb, rb, rfl⟩
 refine lS ?_
 refine ze ?_
 exact end0nw rfl (Wk.to [pb, bb, rb] wlT) ⟨rfl, bb, rb, rfl⟩
def zP2 (bb rb ib n c : Nat) : List Value := ((zP1 bb rb).set 11 (.func (.func 72) #[] #[])).set 13 (.slice (some ⟨ib, 0, none⟩) n c)
theorem sis_ok (pb bb rb ib n c : Nat) : Fn prog 56 [pV pb, .slice (some ⟨ib, 0, none⟩) n c] [(pb, .cs 75 (zP1 bb rb) [])]
  (fun v H' => v = .tuple #[] ∧ H' = [(pb, .cs 75 (zP2 bb rb ib n c) [])]) := by
 refine zo func56 rfl rfl rfl ?_
 intro w
 refine gg 7 ?_
 refine sqz (q_nfn underlying59 rfl rfl) (gg 28 ?_)
 exact end0nw rfl (Wk.to [pb] (by exact ⟨rfl, .inr (Blk.like_rec kR), trivial⟩)) ⟨rfl, rfl⟩
theorem ptx_ok (pb bb rb ib n c : Nat) : Fn prog 30 [pV pb, .slice (some ⟨ib, 0, none⟩) n c] [(pb, .cs 75 (zP1 bb rb) [])]
  (fun v H' => v = .tuple #[] ∧ H' = [(pb, .cs 75 (zP2 bb rb ib n c) [])]) := by
 refine zo func30 rfl rfl rfl ?_
 intro w
 refine gg 3 ?_
 refine za rfl rfl rfl (sis_ok pb bb rb ib n c) ?_
 rintro _ _ ⟨rfl, rfl⟩
 refine lS ?_
 refine ze ?_
 exact end0nw rfl (Wk.to [pb] wlT) ⟨rfl, rfl⟩
theorem started_ok (T : List Nat) (ib isz icap : Nat) (ig : Nat → Value) (eo : Obj) (ev : Value) : Fn prog 14 [.slice (some ⟨ib, 0, none⟩) T.length icap] []
  (fun v H' => ∃ pb bb rb, v = pV pb ∧ H' = [PB ⟨pb, bb, rb, ib, isz, icap, ig, eo, ev⟩ T (psI .new), BB ⟨pb, bb, rb, ib, isz, icap, ig, eo, ev⟩ T (psI .new), RB ⟨pb, bb, rb, ib, isz, icap, ig, eo, ev⟩ T (psI .new)]) := by
 refine zo func14 rfl rfl rfl ?_
 intro w
 refine gg 7 ?_
 refine sqz (zu (l := [_, _, _, _, _, _, _, _, _, _, _, _, _, _, _, _, _, _, _, _, _, _, _, _, _, _, _, _, _, _, _, _, _, _, _, _, _, _, _, _, _, _, _, _, _, _, _, _, _, _, _, _]) (zs := [zI, .string ⟨#[]⟩, zI, zI, zI, zI, zI, .string ⟨#[]⟩, zI, zI, zI, .nilFunc, .nilIface, zS, zI, .bool false, zS, zI, zI, zI, zS, zI, zI, zI, zI, zI, zI, zS, zS, zS, zS, zS, zS, zI, .bool false, .bool false, zI, zS, zI, zI, .bool false, zI, zS, .bool false, zS, .map none, zI, zS, zS, zS, zS, .pointer none]) [0, 1, 2, 3, 4, 7, 8, 11, 12, 13, 14, 15, 16, 17, 18, 19, 20, 21, 22, 23, 24, 27, 28, 29, 30, 31, 32, 33, 34, 35, 36, 37, 38, 39, 40, 41, 42, 43, 44, 45, 46, 47, 48, 49, 50, 51] rfl rfl kR) ?_
 refine ku rfl rfl rfl clT ?_
 intro pb
 refine gg 6 ?_
 refine za rfl rfl rfl (pst_ok pb) ?_
 rintro _ _ ⟨rfl, bb, rb, rfl⟩
 refine lS ?_
 refine gg 6 ?_
 refine za rfl rfl rfl (ptx_ok pb bb rb ib T.length icap) ?_
 rintro _ _ ⟨rfl, rfl⟩
 refine lS ?_
 refine gg 9 ?_
 exact zm rfl rfl (Wk.to [pb, bb, rb] (by exact ⟨rfl, .inl rfl, rfl, .inr like_rw0, rfl, .inr like_rw0, trivial⟩)) ⟨pb, bb, rb, rfl, rfl⟩
structure ERok (V : VL) (r : ER) (a : AE) : Prop where
 k : r.k = a.k
 ver : r.ver = a.ver
 maj : r.maj = (if a.ver then 1 else 0)
 min : r.min = (if a.ver then 1 else 0)
 hs : InStr V r.hs a.hs
 ps : InStr V r.ps a.ps
 an : r.an = []
 tg : r.tg = []
 va : r.va = a.va
 im : r.im = a.im
 qu : r.qu = a.qu
 sty : r.sty = a.sty
theorem ERok.mono {V V' : VL} {r : ER} {a : AE} (h : ERok V r a) (hv : ∀ y ∈ V, NTD y → y ∈ V') : ERok V' r a := by
 obtain ⟨k, ver, maj, min, hs, ps, an, tg, va, im, qu, sty⟩ := h
 have go : ∀ {s xs}, InStr V s xs → InStr V' s xs := by
  intro s xs h
  rcases h with h | ⟨b, c, h1, h2, h3⟩
  · exact .inl h
  · exact .inr ⟨b, c, h1, hv _ h2 (fun n l e => by injection e with e1 e2 e3; exact absurd e1 (by decide)), h3⟩
 exact ⟨k, ver, maj, min, go hs, go ps, an, tg, va, im, qu, sty⟩
def ERs (V : VL) (rs : List ER) (aes : List AE) : Prop := rs.length = aes.length ∧ ∀ (k : Nat) (r : ER) (a : AE), rs[k]? = some r → aes[k]? = some a → ERok V r a
theorem ERs.add {V V' : VL} {rs : List ER} {aes : List AE} {r : ER} {a : AE} (h : ERs V rs aes) (hv : ∀ y ∈ V, NTD y → y ∈ V') (hr : ERok V' r a) : ERs V' (rs ++ [r]) (aes ++ [a]) := by
 obtain ⟨h1, h2⟩ := h
 refine ⟨by simp [h1], fun k r' a' g1 g2 => ?_⟩
 by_cases hk : k < rs.length
 · rw [List.getElem?_append_left hk] at g1
   rw [List.getElem?_append_left omT] at g2
   exact (h2 k r' a' g1 g2).mono hv
 · rw [List.getElem?_append_right omT] at g1
   rw [List.getElem?_append_right omT] at g2
   have h0 : k - rs.length = 0 := by
    have := (List.getElem?_eq_some_iff.1 g1).1
    simp at this
    omega
   rw [h0] at g1
   rw [← h1, h0] at g2
   cases g1
   cases g2
   exact hr
def erL (rs : List ER) : List Value := rs.flatMap erC
theorem erC_length (r : ER) : (erC r).length = 23 := rfl
theorem qt (rs : List ER) : (erL rs).length = rs.length * 23 := by
 induction rs with
 | nil => rfl
 | cons r rs ih =>
  have : erL (r :: rs) = erC r ++ erL rs := rfl
  rw [this, List.length_append, ih, erC_length, List.length_cons]
  omega
theorem erL_app (x y : List ER) : erL (x ++ y) = erL x ++ erL y := by simp [erL]
theorem erC_one (r : ER) : ∀ u ∈ erC r, u.oneCell' = true := by
 intro u hu
 simp only [erC, List.mem_cons, List.not_mem_nil, or_false] at hu
 rcases hu with rfl | rfl | rfl | rfl | rfl | rfl | rfl | rfl | rfl | rfl | rfl | rfl | rfl | rfl | rfl | rfl | rfl | rfl | rfl | rfl | rfl | rfl | rfl <;> rfl
abbrev ERB (b c : Nat) (rs : List ER) : Nat × Blk := (b, .buf 91 (c * 23) (erL rs))
def EOH : Option (Nat × Nat) → List ER → zl
 | none, _ => []
 | some (b, c), rs => [ERB b c rs]
instance {A : zl} {L : Lay} {T : List Nat} {ph : Ph} {X : SS} {sb sc : Nat} : qX (A ++ PHp L T ph X sb sc) (PHp L T ph X sb sc) A := ⟨List.perm_append_comm⟩
instance {H Hf : zl} {L : Lay} {T : List Nat} {ph : Ph} {X : SS} {sb sc : Nat} [h : qX H (PHp L T ph X sb sc) Hf] : Sel H (PHp L T ph X sb sc) Hf := ⟨h.is⟩
instance {A B : zl} {L : Lay} {T : List Nat} {ph : Ph} {X : SS} {sb sc : Nat} : qX (A ++ (B ++ PHp L T ph X sb sc)) (B ++ PHp L T ph X sb sc) A := ⟨List.perm_append_comm⟩
instance {H Hf B : zl} {L : Lay} {T : List Nat} {ph : Ph} {X : SS} {sb sc : Nat} [h : qX H (B ++ PHp L T ph X sb sc) Hf] : Sel H (B ++ PHp L T ph X sb sc) Hf := ⟨h.is⟩
theorem php_x {L : Lay} {T : List Nat} {ph : Ph} {X : SS} {sb sc : Nat} (h : ph ≠ .start) : ∃ B : zl, ∀ V', PHp L T ph { X with V := V' } sb sc = B ++ XH V' X.J := by
 have hS : ∀ V', SH L T { X with V := V' } = ([PB L T (zc X), BB L T (zc X), RB L T (zc X), IB L T, GE L, TKB T X, SKB X, MPB X] ++ CH T X.J X.C) ++ XH V' X.J := fun V' => by
  rw [List.append_assoc]
  rfl
 cases ph with
 | start => exact absurd rfl h
 | first => exact ⟨_, hS⟩
 | more => exact ⟨STB sb sc :: _, fun V' => congrArg (STB sb sc :: ·) (hS V')⟩
 | cont b => exact ⟨STB sb sc :: _, fun V' => congrArg (STB sb sc :: ·) (hS V')⟩
 | dend => exact ⟨STB sb sc :: _, fun V' => congrArg (STB sb sc :: ·) (hS V')⟩
 | fin => exact ⟨_, hS⟩
theorem PInv.vm {L : Lay} {T : List Nat} {p : Nat → Nat} {f : Nat → Tk} {N : Nat} {ph : Ph} {X : SS} {i j sb sc : Nat} {ds : List kP} {V' : VL} (hv : ∀ y ∈ X.V, y ∈ V') (h : PInv L T p f N ph X i j sb sc ds) : PInv L T p f N ph { X with V := V' } i j sb sc ds := by
 have hq : ∀ {i j}, QR L T p f N X i j → QR L T p f N { X with V := V' } i j := fun h => QR.keep (s := X.tdv) (fun y hy _ => hv y hy) h
 cases ph with
 | start => exact h
 | first => exact ⟨hq h.1, h.2.1, h.2.2.1, h.2.2.2.1, h.2.2.2.2.1.mono hv, h.2.2.2.2.2⟩
 | more => exact ⟨hq h.1, h.2.1, h.2.2.1, h.2.2.2.1, h.2.2.2.2.1, h.2.2.2.2.2.1.mono hv, h.2.2.2.2.2.2⟩
 | cont b =>
  cases ds with
  | nil => exact h.elim
  | cons d ds => exact ⟨hq h.1, h.2.1, h.2.2.1, h.2.2.2.1, h.2.2.2.2.1, TD3.move h.2.2.2.2.2.1 rfl hv, h.2.2.2.2.2.2⟩
 | dend =>
  cases ds with
  | nil => exact h.elim
  | cons d ds => exact ⟨hq h.1, h.2.1, h.2.2.1, h.2.2.2.1, h.2.2.2.2.1, TD3.move h.2.2.2.2.2.1 rfl hv, h.2.2.2.2.2.2⟩
 | fin => trivial
theorem ie_okP (L : Lay) (T : List Nat) (eb : Nat) (ev : EVt) (ph : Ph) (X : SS) (sb sc : Nat) (o : Option (Nat × Nat)) (es : List (Sl × Sl)) (tg : List (List Nat × List Nat)) (x : List Nat) (a : AE) (hne : ph ≠ .start) (hE : EvP X ev o es tg x a) :
  Fn prog 19 [pV eb] (EVB T eb ev :: (TDH o es ++ PHp L T ph X sb sc))
   (fun v H' => ∃ r V', v = .agg (erC r).toArray ∧ H' = EVB T eb ev :: (TDH o es ++ PHp L T ph { X with V := V' } sb sc) ∧ (∀ y ∈ X.V, y ∈ V') ∧ ERok V' r a) := by
 obtain ⟨B, hB⟩ := php_x (L := L) (T := T) (X := X) (sb := sb) (sc := sc) hne
 have h1 := (ie_ok T eb ev X.V X.J x o es tg hE.ty hE.st hE.td hE.ld hE.tgl hE.ln hE.vd hE.va hE.xl hE.j1 hE.j2 hE.j3 hE.sc).frame (Hf := B)
 have hpm : ∀ V', (EVB T eb ev :: (TDH o es ++ PHp L T ph { X with V := V' } sb sc)).Perm (((EVB T eb ev :: TDH o es) ++ XH V' X.J) ++ B) := fun V' => by
  rw [hB V', List.append_assoc]
  exact List.Perm.append_left (EVB T eb ev :: TDH o es) List.perm_append_comm
 refine h1.conv (hpm X.V) ?_
 rintro v H' ⟨H1, ⟨r, V', rfl, rfl, hv, h0, g1, g2⟩, rfl⟩
 refine ⟨_, Wk.perm (hpm V').symm, r, V', rfl, rfl, hv, ?_⟩
 obtain ⟨k, ver, maj, min, an, tgx, va, im, qu, sty⟩ := h0
 have hv2 := hE.ver
 exact ⟨k.trans hE.k, ver.trans hv2, by rw [maj, hv2], by rw [min, hv2], by rw [← hE.hs]; exact g1, by rw [← hE.ps]; exact g2, an, tgx, va.trans hE.xv, im.trans hE.im, qu.trans hE.qu, sty.trans hE.sty⟩
theorem php_g {L : Lay} {T : List Nat} {ph : Ph} {X : SS} {sb sc : Nat} (h : ph ≠ .start) : ∃ B, (PHp L T ph X sb sc).Perm (GE L :: (B ++ XH X.V X.J)) := by
 have key : ∃ B, (SH L T X).Perm (GE L :: (B ++ XH X.V X.J)) := by
  refine ⟨PB L T (zc X) :: BB L T (zc X) :: RB L T (zc X) :: IB L T :: (TKB T X :: SKB X :: MPB X :: CH T X.J X.C), ?_⟩
  have := List.perm_middle (l₁ := [PB L T (zc X), BB L T (zc X), RB L T (zc X), IB L T]) (a := GE L) (l₂ := TKB T X :: SKB X :: MPB X :: (CH T X.J X.C ++ XH X.V X.J))
  simpa using this
 obtain ⟨B, hB⟩ := key
 have k2 : ∃ B, (STB sb sc :: SH L T X).Perm (GE L :: (B ++ XH X.V X.J)) := ⟨STB sb sc :: B, (hB.cons _).trans (by simpa using List.Perm.swap ..)⟩
 cases ph with
 | start => exact absurd rfl h
 | first => exact ⟨B, hB⟩
 | fin => exact ⟨B, hB⟩
 | more => exact k2
 | cont _ => exact k2
 | dend => exact k2
theorem wk_end {L : Lay} {T : List Nat} {ph : Ph} {X : SS} {sb sc ob oc : Nat} {rs : List ER} (h : ph ≠ .start) : Wk (ERB ob oc rs :: PHp L T ph X sb sc) (ERB ob oc rs :: GE L :: X.V) := by
 obtain ⟨B, hB⟩ := php_g (L := L) (T := T) (X := X) (sb := sb) (sc := sc) h
 exact Wk.sel (Hc := ERB ob oc rs :: GE L :: X.V) (Hf := B ++ JH 5 X.J) (h := ⟨.cons _ (hB.trans (.cons _ (List.perm_append_comm_assoc B X.V (JH 5 X.J))))⟩)
theorem ERs.any {V V' : VL} {aes : List AE} (h : ERs V [] aes) : ERs V' [] aes := ⟨h.1, fun k r a g => (by simp at g)⟩
theorem kinds {ds : List kP} : ∀ a ∈ aeS :: docsE ds, 1 ≤ a.k ∧ a.k ≤ 10 := by
 intro a ha
 simp only [docsE, List.mem_cons, List.mem_append, List.mem_flatMap, List.not_mem_nil, or_false] at ha
 rcases ha with rfl | ⟨d, _, rfl | rfl | rfl⟩ | rfl <;> simp [aeS, aeD, aeC, aeE, aeZ]
theorem docsE_len (ds : List kP) : (docsE ds).length = 3 * ds.length + 1 := by
 unfold docsE
 rw [List.length_append]
 induction ds with
 | nil => rfl
 | cons d ds ih =>
  simp only [List.flatMap_cons, List.length_append, List.length_cons, List.length_nil] at *
  omega
structure EvSt where
 ph : Ph
 X : SS
 i : Nat
 j : Nat
 sb : Nat
 sc : Nat
 ds : List kP
 oo : Option (Nat × Nat)
 rs : List ER
def rank (ph : Ph) (ds : List kP) : Nat := (remE ph ds).length
abbrev Fz : List Value := [zI, zI, zI, zI, zI, zI, zI, zI, zI]
abbrev FB (fb : Nat) : Nat × Blk := (fb, .cs 37 Fz [])
structure EvI (L : Lay) (T : List Nat) (p : Nat → Nat) (f : Nat → Tk) (N : Nat) (ds0 : List kP) (s : EvSt) : Prop where
 inv : PInv L T p f N s.ph s.X s.i s.j s.sb s.sc s.ds
 go : remE s.ph s.ds ≠ []
 sub : ∀ d ∈ s.ds, DocOK d
 tl : ∀ d ∈ s.ds.tail, d.ex = true
 out : (s.rs = [] ∧ s.oo = none) ∨ (0 < s.rs.length ∧ ∃ b c, s.oo = some (b, c) ∧ s.rs.length ≤ c ∧ c ≤ 9223372036854775807)
 es : ∃ done, (s.rs = [] ∨ s.ph ≠ .start) ∧ ERs s.X.V s.rs done ∧ done ++ remE s.ph s.ds = aeS :: docsE ds0
theorem events_ok (L0 : List Nat) (T : List Nat) (p : Nat → Nat) (f : Nat → Tk) (N : Nat) (ds : List kP) (hs : Str T p f N) (h0 : p 1 = sk T 0) (hal : Al f 1 (kW ds)) (hN : 1 + (kW ds).length = N) (hds : ∀ d ∈ ds, DocOK d) (h3 : ds.length ≤ 3) (hex : ∀ d ∈ ds.tail, d.ex = true)
  (hasc : ∀ c ∈ T, c = 10 ∨ (32 ≤ c ∧ c ≤ 126)) (hT : T.length ≤ 1000000) (ib isz icap : Nat) (ig : Nat → Value) (eo : Obj) (ev : Value) (hic : T.length ≤ icap ∧ icap ≤ isz) (he1 : qz eo 0 = some ev) (he2 : ∃ et u, ev = .iface et u) (he3 : ∀ w, (binOp .eql 141 ev ev).run prog w = .ok (.bool true) w) :
  Fn prog 7 [.slice (some ⟨ib, 0, none⟩) T.length icap, zI] [(ib, .row 5 (isz, isz + 1) isz (inF T ig)), (0, .raw eo)]
   (fun v H' => ∃ ob oc rs V, v = .tuple #[.slice (some ⟨ob, 0, none⟩) rs.length oc, .agg Fz.toArray] ∧ H' = ERB ob oc rs :: (0, .raw eo) :: V ∧ ERs V rs (aeS :: docsE ds) ∧ rs.length ≤ oc ∧ oc ≤ 9223372036854775807) := by
 refine zo func7 rfl rfl rfl ?_
 intro w
 refine gg 3 ?_
 refine zk rfl rfl clT ?_
 intro fb
 refine gg 5 ?_
 refine za rfl rfl rfl (started_ok T ib isz icap ig eo ev) ?_
 rintro _ _ ⟨pb, bb, rb, rfl, rfl⟩
 refine lS ?_
 generalize hL : (⟨pb, bb, rb, ib, isz, icap, ig, eo, ev⟩ : Lay) = L
 have hp1 : pb = L.p := by rw [← hL]
 have hp2 : (ib, Blk.row 5 (isz, isz + 1) isz (inF T ig)) = IB L T := by rw [← hL]
 have hp3 : (0, Blk.raw eo) = GE L := by rw [← hL]
 have he : Eof L := by rw [← hL]; exact ⟨he1, he2, he3⟩
 have hI : Inv L T (psI (.got 0 false)) := by
  refine ⟨by omega, hasc, by rw [← hL]; exact hic, ?_, ?_, ?_, ?_, ?_, ?_, ?_, ?_, ?_, ?_, ?_, ?_, ?_, rfl, .inl ⟨rfl, rfl⟩⟩ <;> simp
 rw [hp1, hp2, hp3]
 clear hp1 hp2 hp3 hL
 refine gg 14 ?_
 refine kq (E' := [(5, pV fb), (6, pV L.p)]) (H' := FB fb :: (EOH none [] ++ PHp L T .start (ss0 .new 0 0 0 0 0) 0 0)) suT (Wk.to [fb, L.p, L.bb, L.rb, L.ib, 0] (by exact ⟨rfl, .inl rfl, rfl, .inl rfl, rfl, .inl rfl, rfl, .inl rfl, rfl, .inl rfl, rfl, .inl rfl, trivial⟩)) ?_
 refine gg 5 ?_
 refine zw (σ := EvSt) (fun s => [(5, pV fb), (6, pV L.p), (7, (TSS s.oo s.rs.length).v)]) (fun s => FB fb :: (EOH s.oo s.rs ++ PHp L T s.ph s.X s.sb s.sc)) (EvI L T p f N ds) (fun s => rank s.ph s.ds) ⟨.start, ss0 .new 0 0 0 0 0, 1, 0, 0, 0, ds, none, []⟩ ⟨⟨rfl, hal, hN⟩, by simp [remE], hds, hex, .inl ⟨rfl, rfl⟩, [], .inl rfl, ⟨rfl, fun k r a h => (by simp at h)⟩, rfl⟩ suT (Wk.refl _) ?_
 rintro ⟨ph, X, i, j, sb, sc, ds', oo, rs⟩ ⟨q1, q2, q3, q4, q5, done, q6, q7, q8⟩
 dsimp only at q1 q2 q3 q4 q5 q6 q7 q8
 have hfin : ph ≠ .fin := by rintro rfl; exact q2 rfl
 have hrl : rs.length ≤ 20 := by
  have e1 := congrArg List.length q8
  have e2 := q7.1
  have e3 := docsE_len ds
  simp only [List.length_append, List.length_cons] at e1
  omega
 refine gg 3 ?_
 refine zk rfl rfl clT ?_
 intro eb
 refine gg 4 ?_
 refine qF (H' := EVZ eb :: FB fb :: (EOH oo rs ++ PHp L T ph X sb sc)) (Wk.refl _) (zi (smv ?_))
 refine za rfl rfl rfl (step_ok L T p f N eb ph X i j sb sc ds' he hs h0 hI hT q3 q4 q1 hfin) ?_
 rintro _ _ ⟨rfl, ph2, X2, i2, j2, sb2, sc2, ds2, ev2, o2, es2, tg2, x2, a, rfl, k1, k2, k3, k4, k5, k6, k7⟩
 simp only [List.cons_append, List.nil_append, List.append_assoc]
 refine gg 7 ?_
 refine qF (H' := EVB T eb ev2 :: FB fb :: (EOH oo rs ++ (TDH o2 es2 ++ PHp L T ph2 X2 sb2 sc2))) (Wk.perm (.cons _ (by rw [← List.append_assoc]; exact List.perm_append_comm (l₂ := FB fb :: EOH oo rs)))) ?_
 refine zi (za rfl rfl rfl (ie_okP L T eb ev2 ph2 X2 sb2 sc2 o2 es2 tg2 x2 a k2 k7) ?_)
 rintro _ _ ⟨r, V2, rfl, rfl, k8, k9⟩
 simp only [List.cons_append, List.nil_append, List.append_assoc]
 refine zk rfl rfl clT ?_
 intro b9
 first | refine stw rfl rfl ?_ | refine sts rfl rfl ?_
 refine ze ?_
 refine zf ?_
 have hak : 1 ≤ a.k ∧ a.k ≤ 10 := kinds a (by rw [← q8, k5]; simp)
 have hrk := k9.k
 refine gg 5 ?_
 refine kz (h := ?_) (hc := by omega)
 refine ze ?_
 refine zf ?_
 refine kq (E' := [(5, pV fb), (6, pV L.p), (7, (TSS oo rs.length).v), (9, pV b9), (34, .bool false)]) (H' := (b9, .cs 91 (erC r) []) :: FB fb :: (EOH oo rs ++ PHp L T ph2 { X2 with V := V2 } sb2 sc2)) suT (Wk.sel (Hf := EVB T eb ev2 :: TDH o2 es2) (h := ⟨.cons _ ((List.perm_append_comm (l₁ := EVB T eb ev2 :: TDH o2 es2)).trans (List.perm_append_comm.append_right _))⟩)) ?_
 refine gg 3 ?_
 refine zL (σ := Nat × Nat) (fun x => [(5, pV fb), (6, pV L.p), (7, .slice (some ⟨x.1, 0, none⟩) (rs.length + 1) x.2), (9, pV b9)]) (fun x => (b9, .cs 91 (erC r) []) :: ERB x.1 x.2 (rs ++ [r]) :: FB fb :: PHp L T ph2 { X2 with V := V2 } sb2 sc2) (fun x => rs.length + 1 ≤ x.2 ∧ x.2 ≤ 9223372036854775807) ?_ ?_
 ·
  rcases q5 with ⟨rfl, rfl⟩ | ⟨hr0, ob0, oc0, rfl, ho1, ho2⟩
  ·
   refine kq (E' := [(5, pV fb), (6, pV L.p), (7, zS), (9, pV b9)]) (H' := (b9, .cs 91 (erC r) []) :: FB fb :: PHp L T ph2 { X2 with V := V2 } sb2 sc2) suT (Wk.refl _) (zi (smv ?_))
   refine sqz (zG (l := erC r) rfl rfl rfl kR) (s_bsw (sz := 23) (l := erC r) rfl rfl rfl rfl rfl rfl rfl ?_)
   intro s1
   refine kr (sz := 23) (news := erC r) rfl rfl rfl rfl rfl (zN (k := .cs 91 (erC r) []) (Nat.le_refl _) (Nat.le_refl _) (fun j u hj => by simp only [Blk.cell, look, nth, Nat.zero_add]; exact hj)) rfl (by decide) (by decide) (by decide) ?_
   intro ob oc g1 g2
   refine sas ?_
   refine ze ?_
   exact zg (ob, oc) ⟨g1, g2⟩ suT (Wk.toT (PHp L T ph2 { X2 with V := V2 } sb2 sc2) [b9, ob, fb] (by exact ⟨rfl, .inl rfl, rfl, .inl (by simp [erL]), rfl, .inl rfl, rfl⟩))
  ·
   refine kq (E' := [(5, pV fb), (6, pV L.p), (7, .slice (some ⟨ob0, 0, none⟩) rs.length oc0), (9, pV b9)]) (H' := (b9, .cs 91 (erC r) []) :: FB fb :: ERB ob0 oc0 rs :: PHp L T ph2 { X2 with V := V2 } sb2 sc2) suT (Wk.refl _) (zi (smv ?_))
   refine sqz (zG (l := erC r) rfl rfl rfl kR) (s_bsw (sz := 23) (l := erC r) rfl rfl rfl rfl rfl rfl rfl ?_)
   intro s1
   refine zY (b := ob0) (n0 := rs.length) (cap := oc0) (sz := 23) (bs := 264) (news := erC r) rfl rfl rfl rfl rfl (qt rs) ho1 ho2 rfl (zN (k := .cs 91 (erC r) []) (Nat.le_refl _) (Nat.le_refl _) (fun j u hj => by simp only [Blk.cell, look, nth, Nat.zero_add]; exact hj)) rfl (erC_one r) omT omT ?_
   intro ob oc g1 g2
   refine sas ?_
   refine ze ?_
   exact zg (ob, oc) ⟨g1, g2⟩ suT (Wk.toT (PHp L T ph2 { X2 with V := V2 } sb2 sc2) [b9, ob, fb] (by exact ⟨rfl, .inl rfl, rfl, .inl (by rw [erL_app]; simp [erL]), rfl, .inl rfl, rfl⟩))
 ·
  rintro ⟨ob, oc⟩ ⟨g1, g2⟩
  dsimp only at g1 g2
  refine zt ((b9, .cs 91 (erC r) []) :: ERB ob oc (rs ++ [r]) :: FB fb :: PHp L T ph2 { X2 with V := V2 } sb2 sc2) [(5, pV fb), (6, pV L.p), (7, .slice (some ⟨ob, 0, none⟩) (rs.length + 1) oc), (9, pV b9)] rfl rfl ?_
  have hERs : ERs V2 (rs ++ [r]) (done ++ [a]) := by
   rcases q6 with rfl | q6
   · exact ERs.add (ERs.any (V' := V2) q7) (fun y hy _ => hy) k9
   · exact q7.add (fun y hy hn => k8 y (k4 q6 y hy hn)) k9
  have hall : (done ++ [a]) ++ remE ph2 ds2 = aeS :: docsE ds := by rw [← q8, k5, List.append_assoc]; rfl
  by_cases hk2 : a.k = 2
  ·
   refine gg 4 ?_
   refine seq1 (h := ?_) (hc := by omega)
   refine gg 6 ?_
   refine sqz (zu (l := [_, _, _, _, _, _, _, _, _]) (zs := [zI, zI, zI, zI, zI, zI, zI, zI, zI]) [0, 1, 4, 7, 8] rfl rfl kR) (sas ?_)
   first | refine stw rfl rfl ?_ | refine sts rfl rfl ?_
   refine gg 6 ?_
   have hend := k6.1 hk2
   rw [hend, List.append_nil] at hall
   exact endr2 rfl rfl (rc_s rfl rfl rfl rfl) (Wk.trans (Wk.toT (PHp L T ph2 { X2 with V := V2 } sb2 sc2) [ob] (by exact ⟨rfl, .inl rfl, rfl⟩)) (wk_end k2)) ⟨ob, oc, rs ++ [r], V2, by rw [List.length_append]; rfl, rfl, by rw [← hall]; exact hERs, by rw [List.length_append]; exact g1, g2⟩
  ·
   refine gg 4 ?_
   refine kz (h := ?_) (hc := by omega)
   refine gg 5 ?_
   exact zh ⟨ph2, { X2 with V := V2 }, i2, j2, sb2, sc2, ds2, some (ob, oc), rs ++ [r]⟩ ⟨k1.vm k8, fun e => hk2 (k6.2 e), (by
   rcases k3 with rfl | rfl
   · exact q3
   · exact fun d hd => q3 d (List.mem_of_mem_tail hd)), (by
   rcases k3 with rfl | rfl
   · exact q4
   · exact fun d hd => q4 d (List.mem_of_mem_tail hd)), .inr ⟨by simp, ob, oc, rfl, by simpa using g1, g2⟩, done ++ [a], .inr k2, hERs, hall⟩ (by
   show (remE ph2 ds2).length < (remE ph ds').length
   rw [k5]
   simp) (by
   rw [show (rs.length + 1) = (rs ++ [r]).length by simp]
   repeat (first | exact trivial | refine ⟨rfl, ?_⟩)) (Wk.toT (PHp L T ph2 { X2 with V := V2 } sb2 sc2) [fb, ob] (by exact ⟨rfl, .inl rfl, rfl, .inl rfl, rfl⟩))
theorem erL_get : ∀ {rs : List ER} {i : Nat} {r : ER} {j : Nat}, rs[i]? = some r → j < 23 → (erL rs)[i * 23 + j]? = (erC r)[j]?
 | [], i, r, j, h, _ => by simp at h
 | u :: rs, 0, r, j, h, hj => by
  obtain rfl : u = r := by simpa using h
  have : erL (u :: rs) = erC u ++ erL rs := rfl
  rw [this, Nat.zero_mul, Nat.zero_add, List.getElem?_append_left (by rw [erC_length]; exact hj)]
 | u :: rs, i + 1, r, j, h, hj => by
  have ih := erL_get (rs := rs) (i := i) (j := j) (by simpa using h) hj
  have : erL (u :: rs) = erC u ++ erL rs := rfl
  rw [this, List.getElem?_append_right (by rw [erC_length]; omega), erC_length, show (i + 1) * 23 + j - 23 = i * 23 + j by omega]
  exact ih
section
variable {P : Program} {n : Nat} {ds : List Deferred} {pu : Bool} {w0 : World} {D : List Nat} {H : zl} {E : Env}
variable {d : Option Nat} {ty : TypeId} {ps : String} {af : Array Edge} {g : Option (Nat × Bool)} {x y : Operand}
theorem q_lder {t b a i m : Nat} {e : TypeId} {rs : List ER} {r : ER} [ht : qR P t 23] (h : opv E x = some (.pointer (some ⟨b, a, none⟩))) [hh : Has H b (.buf e m (erL rs))] (ha : a = i * 23) (hi : rs[i]? = some r) :
  Q1 P n ds pu w0 D H E ⟨d, .load t x, ty, ps, af, g⟩ (.agg (erC r).toArray) := by
 subst ha
 intro a w he hw
 obtain ⟨dd, ii, _, _, h5, h6⟩ := ht.is
 have hlt : i < rs.length := (List.getElem?_eq_some_iff.1 hi).1
 have hln := qt rs
 have := we (P := P) (m := 23) (i := i * 23) (l := erC r) hw.hok hh.mem (Nat.zero_le _) (by simp only [Blk.known]; omega) rfl (fun j hj => by simp only [Blk.cell, nth]; exact erL_get hi hj)
 simp [execOp, he.eval h, Instr.loadAt, Instr.sureAddr, loadVar, kO, zX h5, h6, this]
theorem q_lderf {t b a i j m : Nat} {e : TypeId} {rs : List ER} {r : ER} {v : Value} [qn P t] (h : opv E x = some (.pointer (some ⟨b, a, none⟩))) [hh : Has H b (.buf e m (erL rs))] (ha : a = i * 23 + j) (hj : j < 23) (hi : rs[i]? = some r) (hv : (erC r)[j]? = some v) :
  Q1 P n ds pu w0 D H E ⟨d, .load t x, ty, ps, af, g⟩ v := by
 subst ha
 intro a w he hw
 have hlt : i < rs.length := (List.getElem?_eq_some_iff.1 hi).1
 have hln := qt rs
 have hc := hw.hok.cell hh.mem (i := i * 23 + j) (Nat.zero_le _) (by simp only [Blk.known]; omega)
 simp only [Blk.cell, nth] at hc
 rw [erL_get hi hj, hv] at hc
 simp [execOp, he.eval h, Instr.loadAt, Instr.sureAddr, loadVar, qj, hc]
theorem run_equalIn_bool {P : Program} (w : World) (d : Nat) (t : TypeId) (p q : Bool) (h : P.underlying t = some .bool) : (Op.equalIn (d + 1) t (.bool p) (.bool q)).run P w = .ok (p == q) w := by
 simp [Op.equalIn, underlying, program, Sem.run, Bind.bind, Sem.bind, h, Pure.pure]
theorem q_bne {t t2 : TypeId} {p q r : Bool} (ht : P.underlying t = some .bool) (hx : opv E x = some (.bool p)) (hy : opv E y = some (.bool q)) (h : (p != q) = r) : Q1 P n ds pu w0 D H E ⟨d, .binOp .neq t x y t2, ty, ps, af, g⟩ (.bool r) := by
 subst h
 intro a w he _
 simp [execOp, he.eval hx, he.eval hy, eqGuard, binOp, Op.equal, Op.maxDepth, run_equalIn_bool w 9999 t p q ht, bne]
end
abbrev zZ (r : ER) : ER := { r with a1 := 0, a2 := 0, a3 := 0, e1 := 0, e2 := 0, e3 := 0, enc := 0, c1 := [], c2 := [], c3 := [], c4 := [] }
theorem clean_ok (ob oc : Nat) (rs : List ER) (h11 : ∀ r ∈ rs, r.k ≠ 11) (hpos : 0 < rs.length) (hln : rs.length ≤ 1000) :
  Fn prog 23 [.slice (some ⟨ob, 0, none⟩) rs.length oc] [ERB ob oc rs]
    (fun v H' => ∃ cb cc, v = .slice (some ⟨cb, 0, none⟩) rs.length cc ∧ H' = [ERB ob oc rs, ERB cb cc (rs.map zZ)] ∧ rs.length ≤ cc ∧ cc ≤ 9223372036854775807) := by
 refine zo func23 rfl rfl rfl ?_
 intro w
 refine gg 19 ?_
 refine zw (σ := Nat × Option (Nat × Nat)) (fun x => [(3, (TSS x.2 x.1).v), (6, .slice (some ⟨ob, 0, none⟩) rs.length oc), (7, .int .i64 (rs.length : Nat)), (8, .int .i64 (x.1 : Nat))]) (fun x => ERB ob oc rs :: EOH x.2 ((rs.take x.1).map zZ)) (fun x => x.1 ≤ rs.length ∧ ((x.1 = 0 ∧ x.2 = none) ∨ (0 < x.1 ∧ ∃ b c, x.2 = some (b, c) ∧ x.1 ≤ c ∧ c ≤ 9223372036854775807))) (fun x => rs.length - x.1) (0, none) ⟨Nat.zero_le _, .inl ⟨rfl, rfl⟩⟩ suT (Wk.refl _) ?_
 rintro ⟨i, oo⟩ ⟨hi, hoo⟩
 dsimp only at hi hoo
 refine zt (ERB ob oc rs :: EOH oo ((rs.take i).map zZ)) [(3, (TSS oo i).v), (6, .slice (some ⟨ob, 0, none⟩) rs.length oc), (7, .int .i64 (rs.length : Nat)), (8, .int .i64 (i : Nat))] rfl rfl ?_
 by_cases hlt : i < rs.length
 ·
  refine gg 5 ?_
  obtain ⟨r, hr⟩ : ∃ r, rs[i]? = some r := ⟨rs[i], List.getElem?_eq_getElem hlt⟩
  have hr11 := h11 r (List.mem_of_getElem? hr)
  have htk : (rs.take (i + 1)).map zZ = (rs.take i).map zZ ++ [zZ r] := by rw [List.take_add_one, hr]; simp
  have hlk : ((rs.take i).map zZ).length = i := by simp; omega
  refine gg 8 ?_
  refine sqz (zy (i := i) rfl rfl rfl omT rfl) (sqz (q_lder (i := i) rfl omT hr) (zk rfl rfl clT ?_))
  intro b5
  first | refine stw rfl rfl ?_ | refine sts rfl rfl ?_
  refine gg 7 ?_
  refine kz (h := ?_) (hc := hr11)
  refine gg 19 ?_
  refine sqz (zu (l := [_, _, _]) (zs := [zI, zI, zI]) [0, 1, 2] rfl rfl kR) (sqz (zu (l := [_, _, _]) (zs := [zI, zI, zI]) [0, 1, 2] rfl rfl kR) (sfa ?_))
  first | refine stw rfl rfl ?_ | refine sts rfl rfl ?_
  refine sfa ?_
  first | refine stw rfl rfl ?_ | refine sts rfl rfl ?_
  refine gg 4 ?_
  rcases hoo with ⟨rfl, rfl⟩ | ⟨hi0, cb, cc, rfl, ho1, ho2⟩
  ·
    refine zA b5 (.cs 91 (erC (zZ r)) []) (Blk.like_rec kR) (zi (smv ?_))
    refine sqz (zG (l := erC (zZ r)) rfl rfl rfl kR) (s_bsw (sz := 23) (l := erC (zZ r)) rfl rfl rfl rfl rfl rfl rfl ?_)
    intro s1
    refine kr (sz := 23) (news := erC (zZ r)) rfl rfl rfl rfl rfl (zN (k := .cs 91 (erC (zZ r)) []) (Nat.le_refl _) (Nat.le_refl _) (fun j u hj => by simp only [Blk.cell, look, nth, Nat.zero_add]; exact hj)) rfl (by decide) (by decide) (by decide) ?_
    intro cb cc g1 g2
    refine gg 8 ?_
    exact zh (1, some (cb, cc)) ⟨omT, .inr ⟨omT, cb, cc, rfl, g1, g2⟩⟩ omT suT (Wk.to [ob, cb] (by exact ⟨rfl, .inl rfl, rfl, .inl (by rw [htk]; simp [erL]), trivial⟩))
  ·
    refine zA b5 (.cs 91 (erC (zZ r)) []) (Blk.like_rec kR) ?_
    refine kq (E' := [(3, .slice (some ⟨cb, 0, none⟩) i cc), (5, pV b5), (6, .slice (some ⟨ob, 0, none⟩) rs.length oc), (7, .int .i64 (rs.length : Nat)), (8, .int .i64 (i : Nat))]) (H' := (b5, .cs 91 (erC (zZ r)) []) :: ERB ob oc rs :: [ERB cb cc ((rs.take i).map zZ)]) suT (Wk.refl _) ?_
    refine zi (smv ?_)
    refine sqz (zG (l := erC (zZ r)) rfl rfl rfl kR) (s_bsw (sz := 23) (l := erC (zZ r)) rfl rfl rfl rfl rfl rfl rfl ?_)
    intro s1
    refine zY (b := cb) (n0 := i) (cap := cc) (sz := 23) (bs := 264) (news := erC (zZ r)) rfl rfl rfl rfl rfl (by rw [qt, hlk]) ho1 ho2 rfl (zN (k := .cs 91 (erC (zZ r)) []) (Nat.le_refl _) (Nat.le_refl _) (fun j u hj => by simp only [Blk.cell, look, nth, Nat.zero_add]; exact hj)) rfl (erC_one _) omT omT ?_
    intro cb2 cc2 g1 g2
    refine gg 8 ?_
    exact zh (i + 1, some (cb2, cc2)) ⟨omT, .inr ⟨omT, cb2, cc2, rfl, g1, g2⟩⟩ omT suT (Wk.to [ob, cb2] (by exact ⟨rfl, .inl rfl, rfl, .inl (by rw [htk, erL_app]; simp [erL]), trivial⟩))
 ·
  refine gg 5 ?_
  obtain rfl : i = rs.length := by omega
  rw [List.take_length]
  refine gg 14 ?_
  rcases hoo with ⟨h0, _⟩ | ⟨hi0, cb, cc, rfl, ho1, ho2⟩
  · omega
  · exact zm rfl rfl (Wk.refl _) ⟨cb, cc, rfl, rfl, ho1, ho2⟩
end Go.Proofs.YtnfbcfflkphbiaaGreatDoor
