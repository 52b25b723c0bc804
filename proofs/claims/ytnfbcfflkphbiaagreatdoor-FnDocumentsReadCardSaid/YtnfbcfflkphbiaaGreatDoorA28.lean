/-
  Texts of the proof, joined: F33. No Go text.
-/
import Derived.Test.YtnfbcfflkphbiaaGreatDoorA01
import Derived.Test.YtnfbcfflkphbiaaGreatDoorA08
import Derived.Test.YtnfbcfflkphbiaaGreatDoorA27
namespace Go.Proofs.YtnfbcfflkphbiaaGreatDoor
open Go Go.Proofs Tryz
set_option linter.all false
set_option maxRecDepth 100000
set_option maxHeartbeats 8000000
structure ER where
 k : Int
 a1 : Int
 a2 : Int
 a3 : Int
 e1 : Int
 e2 : Int
 e3 : Int
 enc : Int
 ver : Bool
 maj : Int
 min : Int
 hs : Sl
 ps : Sl
 an : List Nat
 tg : List Nat
 va : List Nat
 im : Bool
 qu : Bool
 sty : Int
 c1 : List Nat
 c2 : List Nat
 c3 : List Nat
 c4 : List Nat
def erC (r : ER) : List Value := [.int .i64 r.k, .int .i64 r.a1, .int .i64 r.a2, .int .i64 r.a3, .int .i64 r.e1, .int .i64 r.e2, .int .i64 r.e3, .int .i64 r.enc, .bool r.ver, .int .i64 r.maj, .int .i64 r.min, r.hs.v, r.ps.v,
 .string (sb r.an), .string (sb r.tg), .string (sb r.va), .bool r.im, .bool r.qu, .int .i64 r.sty, .string (sb r.c1), .string (sb r.c2), .string (sb r.c3), .string (sb r.c4)]
def erZ : List Value := [zI, zI, zI, zI, zI, zI, zI, zI, .bool false, zI, zI, zS, zS,
 .string ⟨#[]⟩, .string ⟨#[]⟩, .string ⟨#[]⟩, .bool false, .bool false, zI, .string ⟨#[]⟩, .string ⟨#[]⟩, .string ⟨#[]⟩, .string ⟨#[]⟩]
def strs (xs : List (List Nat)) : List Value := xs.map fun x => .string (sb x)
@[simp] theorem strs_length (xs : List (List Nat)) : (strs xs).length = xs.length := by simp [strs]
theorem strs_app (xs ys : List (List Nat)) : strs (xs ++ ys) = strs xs ++ strs ys := by simp [strs]
theorem wr (xs : List (List Nat)) : ∀ u ∈ strs xs, u.oneCell' = true := by
 intro u hu
 obtain ⟨x, _, rfl⟩ := List.mem_map.1 hu
 rfl
abbrev SRB (b c : Nat) (xs : List (List Nat)) : Nat × Blk := (b, .buf 9 c (strs xs))
def TSS : Option (Nat × Nat) → Nat → Sl
 | none, _ => Sl.nil
 | some (b, c), n => ⟨some ⟨b, 0, none⟩, n, c⟩
def TSH : Option (Nat × Nat) → List (List Nat) → zl
 | none, _ => []
 | some (b, c), xs => [SRB b c xs]
def InStr (V : VL) (s : Sl) (xs : List (List Nat)) : Prop := (s = Sl.nil ∧ xs = []) ∨ ∃ b c, s = ⟨some ⟨b, 0, none⟩, xs.length, c⟩ ∧ SRB b c xs ∈ V ∧ xs.length ≤ c ∧ c ≤ 9223372036854775807
theorem InStr.mono {V V' : VL} {s : Sl} {xs : List (List Nat)} (hv : ∀ y ∈ V, y ∈ V') (h : InStr V s xs) : InStr V' s xs := by
 rcases h with h | ⟨b, c, h1, h2, h3⟩
 · exact .inl h
 · exact .inr ⟨b, c, h1, hv _ h2, h3⟩
theorem BSrc.tail {A H : zl} {v : Value} {X : List Nat} (h : BSrc H v X) : BSrc (A ++ H) v X := by
 rcases h with h | ⟨b, o, c, h1, h2, h3⟩
 · exact .inl h
 · refine .inr ⟨b, o, c, h1, h2, fun w hw => h3 w ?_⟩
   refine ⟨?_, fun b k hm => hw.ok b k (List.mem_append_right _ hm)⟩
   have := hw.nodup
   rw [List.map_append] at this
   exact (List.nodup_append.1 this).2.1
theorem InV.bs {V : VL} {s : Sl} {x : List Nat} (h : InV V s x) (hx : ∀ c ∈ x, c < 256) : BSrc (XH V []) s.v x := InV.bsrc (T := []) (C := none) h hx
theorem Wk.perm {H H' : zl} (hp : H.Perm H') : Wk H H' := fun _ _ _ _ hw => hw.mono (fun _ hx => hp.mem_iff.2 hx) ((hw.hok.perm hp).nodup)
theorem perm22 {α : Type} (a b c d : α) (L : List α) : (a :: b :: c :: d :: L).Perm (c :: d :: a :: b :: L) := (List.perm_append_comm (l₁ := [a, b]) (l₂ := [c, d])).append_right L
structure ER0 (ev : EVt) (x : List Nat) (r : ER) : Prop where
 k : r.k = ev.ty
 ver : r.ver = ev.vd.isSome
 maj : r.maj = (if ev.vd.isSome then 1 else 0)
 min : r.min = (if ev.vd.isSome then 1 else 0)
 an : r.an = []
 tg : r.tg = []
 va : r.va = x
 im : r.im = ev.im
 qu : r.qu = ev.qu
 sty : r.sty = (if ev.ty = 6 then (if ev.sty = 2 then 1 else 3) else ev.sty)
abbrev erA (T : List Nat) (ev : EVt) (x X1 X2 X3 : List Nat) : ER := { k := ev.ty, a1 := ev.a, a2 := lnT T ev.a, a3 := zH T ev.a, e1 := ev.e, e2 := lnT T ev.e, e3 := zH T ev.e, enc := ev.enc, ver := false, maj := 0, min := 0, hs := Sl.nil, ps := Sl.nil, an := [], tg := [], va := x, im := ev.im, qu := ev.qu, sty := ev.sty, c1 := X1, c2 := X2, c3 := X3, c4 := [] }
def styN (ev : EVt) : Int := if ev.ty = 6 then (if ev.sty = 2 then 1 else 3) else ev.sty
def vbn (ev : EVt) : Int := if ev.vd.isSome then 1 else 0
abbrev erB (T : List Nat) (ev : EVt) (x X1 X2 X3 : List Nat) : ER := { erA T ev x X1 X2 X3 with sty := styN ev }
abbrev erD (T : List Nat) (ev : EVt) (x X1 X2 X3 : List Nat) : ER := { erB T ev x X1 X2 X3 with ver := ev.vd.isSome, maj := vbn ev, min := vbn ev }
theorem zvn_okV (T : List Nat) (eb b : Nat) (ev : EVt) (W : VL) (h : ev.vd = some b) (hb : VB b ∈ W) : Fn prog 40 [pV eb] (EVB T eb ev :: XH W []) (fun v H' => v = .tuple #[.int .i64 1, .int .i64 1] ∧ H' = EVB T eb ev :: XH W []) := by
 obtain ⟨W', hp⟩ := mem_split hb
 have hq : (EVB T eb ev :: XH W []).Perm ([EVB T eb ev, VB b] ++ XH W' []) := by
  refine .cons _ ?_
  simp only [XH, VH, JH, List.map_nil, List.append_nil]
  exact hp
 exact ((zvn_ok T eb b ev h).frame (Hf := XH W' [])).conv hq (fun v H' hR => by
  obtain ⟨H1, ⟨rfl, rfl⟩, rfl⟩ := hR
  exact ⟨_, Wk.perm hq.symm, rfl, rfl⟩)
theorem ie_ok (T : List Nat) (eb : Nat) (ev : EVt) (V : VL) (J : JL) (x : List Nat) (o : Option (Nat × Nat)) (es : List (Sl × Sl)) (tg : List (List Nat × List Nat))
  (h1 : 0 ≤ ev.ty ∧ ev.ty ≤ 100) (h2 : 0 ≤ ev.sty ∧ ev.sty ≤ 100) (htd : ev.td = tdS o es.length) (hL : LDR V o es tg) (htg : ∀ t ∈ tg, (∀ c ∈ t.1, c < 256) ∧ (∀ c ∈ t.2, c < 256)) (hln : tg.length ≤ 1000)
  (hvd : ∀ b, ev.vd = some b → VB b ∈ V) (hva : (ev.va = Sl.nil ∧ x = []) ∨ InV V ev.va x) (hx : ∀ c ∈ x, c < 256) (hj1 : JSl J ev.hd) (hj2 : JSl J ev.ln) (hj3 : JSl J ev.ft) (hst : ev.ty = 6 → ev.sty = 2 ∨ ev.sty = 8) :
  Fn prog 19 [pV eb] ((EVB T eb ev :: TDH o es) ++ XH V J)
    (fun v H' => ∃ r V', v = .agg (erC r).toArray ∧ H' = (EVB T eb ev :: TDH o es) ++ XH V' J ∧ (∀ y ∈ V, y ∈ V') ∧ ER0 ev x r ∧ InStr V' r.hs (tg.map (·.1)) ∧ InStr V' r.ps (tg.map (·.2))) := by
 refine Fn.openJ fun Z hZ hZ2 => ?_
 subst hZ
 generalize hW : V ++ ZH Z = W
 have hVW : ∀ y ∈ V, y ∈ W := fun y hy => by rw [← hW]; exact List.mem_append_left _ hy
 obtain ⟨X1, _, hb1⟩ := jsl_zsrc (V := V) hZ2 hj1
 obtain ⟨X2, _, hb2⟩ := jsl_zsrc (V := V) hZ2 hj2
 obtain ⟨X3, _, hb3⟩ := jsl_zsrc (V := V) hZ2 hj3
 rw [hW] at hb1 hb2 hb3
 have hbx : BSrc (XH W []) ev.va.v x := by
  rcases hva with ⟨e1, e2⟩ | h
  · rw [e1, e2]; exact .inl ⟨0, rfl, rfl⟩
  · exact (h.mono hVW).bs hx
 have hb0 : BSrc (XH W []) (zS) [] := .inl ⟨0, rfl, rfl⟩
 have hlen := hL.len
 rw [List.cons_append]
 refine zo func19 rfl rfl rfl ?_
 intro w
 refine zd (zi (zk rfl rfl clT ?_))
 intro b2
 refine gg 5 ?_
 refine za rfl rfl rfl (zep_ok T eb ev h1 h2) ?_
 rintro _ _ ⟨rfl, rfl⟩
 refine lS ?_
 refine gg 6 ?_
 refine zk rfl rfl clT ?_
 intro b3
 refine zk rfl rfl clT ?_
 intro b4
 refine zk rfl rfl clT ?_
 intro b5
 refine zk rfl rfl clT ?_
 intro b6
 refine zk rfl rfl clT ?_
 intro b7
 first | refine stw rfl rfl ?_ | refine sts rfl rfl ?_
 first | refine stw rfl rfl ?_ | refine sts rfl rfl ?_
 first | refine stw rfl rfl ?_ | refine sts rfl rfl ?_
 first | refine stw rfl rfl ?_ | refine sts rfl rfl ?_
 first | refine stw rfl rfl ?_ | refine sts rfl rfl ?_
 refine ze ?_
 refine zf ?_
 refine zL (σ := Nat) (fun b8 => [(0, pV eb), (2, pV b2), (3, pV b3), (8, pV b8)]) (fun b8 => EVB T eb ev :: (b3, .cs 105 [.int .i64 ev.ty, .int .i64 ev.sty, .int .i64 ev.enc] []) :: (b8, .cs 91 (erC (erA T ev x X1 X2 X3)) []) :: (b2, .cs 91 erZ []) :: (TDH o es ++ XH W [])) (fun _ => True) ?_ ?_
 ·
  refine ke (fun i => i == 3 || i == 5 || i == 36 || i == 37) (fun i => i == 37) ((b3, .cs 105 [.int .i64 ev.ty, .int .i64 ev.sty, .int .i64 ev.enc] []) :: (b4, .cs 110 [.bool ev.im, .bool ev.qu] []) :: (b5, .cs 105 [.int .i64 ev.a, .int .i64 (lnT T ev.a), .int .i64 (zH T ev.a)] []) :: (b6, .cs 105 [.int .i64 ev.e, .int .i64 (lnT T ev.e), .int .i64 (zH T ev.e)] []) :: (b7, .cs 111 [zS, zS, ev.va.v, ev.hd.v, ev.ln.v, ev.ft.v, zS] []) :: XH W []) zF ?_
  refine mqh 0 rfl kR rfl rfl (fun _ => q_ixa (i := 0) rfl rfl (by decide) rfl) ?_
  refine mqh 1 rfl kR rfl rfl (fun _ => zp rfl rfl rfl rfl) ?_
  refine mqh 2 rfl kR rfl rfl (fun _ => zG rfl rfl rfl rfl) ?_
  refine mqh 4 rfl kR rfl rfl (fun _ => zG rfl rfl rfl rfl) ?_
  refine mqh 6 rfl kR rfl rfl (fun _ => q_ixa (i := 2) rfl rfl (by decide) rfl) ?_
  refine mqh 7 rfl kR rfl rfl (fun _ => zp rfl rfl rfl rfl) ?_
  refine mqh 8 rfl kR rfl rfl (fun _ => q_ixa (i := 0) rfl rfl (by decide) rfl) ?_
  refine mqh 9 rfl kR rfl rfl (fun _ => zp rfl rfl rfl rfl) ?_
  refine mqh 10 rfl kR rfl rfl (fun _ => qw underlying23 underlying5 underlying9 rfl (BSrc.tail (A := [(b3, .cs 105 [.int .i64 ev.ty, .int .i64 ev.sty, .int .i64 ev.enc] []), (b4, .cs 110 [.bool ev.im, .bool ev.qu] []), (b5, .cs 105 [.int .i64 ev.a, .int .i64 (lnT T ev.a), .int .i64 (zH T ev.a)] []), (b6, .cs 105 [.int .i64 ev.e, .int .i64 (lnT T ev.e), .int .i64 (zH T ev.e)] []), (b7, .cs 111 [zS, zS, ev.va.v, ev.hd.v, ev.ln.v, ev.ft.v, zS] [])]) hb0)) ?_
  refine mqh 11 rfl kR rfl rfl (fun _ => q_ixa (i := 1) rfl rfl (by decide) rfl) ?_
  refine mqh 12 rfl kR rfl rfl (fun _ => zp rfl rfl rfl rfl) ?_
  refine mqh 13 rfl kR rfl rfl (fun _ => qw underlying23 underlying5 underlying9 rfl (BSrc.tail (A := [(b3, .cs 105 [.int .i64 ev.ty, .int .i64 ev.sty, .int .i64 ev.enc] []), (b4, .cs 110 [.bool ev.im, .bool ev.qu] []), (b5, .cs 105 [.int .i64 ev.a, .int .i64 (lnT T ev.a), .int .i64 (zH T ev.a)] []), (b6, .cs 105 [.int .i64 ev.e, .int .i64 (lnT T ev.e), .int .i64 (zH T ev.e)] []), (b7, .cs 111 [zS, zS, ev.va.v, ev.hd.v, ev.ln.v, ev.ft.v, zS] [])]) hb0)) ?_
  refine mqh 14 rfl kR rfl rfl (fun _ => q_ixa (i := 2) rfl rfl (by decide) rfl) ?_
  refine mqh 15 rfl kR rfl rfl (fun _ => zp rfl rfl rfl rfl) ?_
  refine mqh 16 rfl kR rfl rfl (fun _ => qw underlying23 underlying5 underlying9 rfl (BSrc.tail (A := [(b3, .cs 105 [.int .i64 ev.ty, .int .i64 ev.sty, .int .i64 ev.enc] []), (b4, .cs 110 [.bool ev.im, .bool ev.qu] []), (b5, .cs 105 [.int .i64 ev.a, .int .i64 (lnT T ev.a), .int .i64 (zH T ev.a)] []), (b6, .cs 105 [.int .i64 ev.e, .int .i64 (lnT T ev.e), .int .i64 (zH T ev.e)] []), (b7, .cs 111 [zS, zS, ev.va.v, ev.hd.v, ev.ln.v, ev.ft.v, zS] [])]) hbx)) ?_
  refine mqh 17 rfl kR rfl rfl (fun _ => q_ixa (i := 0) rfl rfl (by decide) rfl) ?_
  refine mqh 18 rfl kR rfl rfl (fun _ => zp rfl rfl rfl rfl) ?_
  refine mqh 19 rfl kR rfl rfl (fun _ => q_ixa (i := 1) rfl rfl (by decide) rfl) ?_
  refine mqh 20 rfl kR rfl rfl (fun _ => zp rfl rfl rfl rfl) ?_
  refine mqh 21 rfl kR rfl rfl (fun _ => q_ixa (i := 1) rfl rfl (by decide) rfl) ?_
  refine mqh 22 rfl kR rfl rfl (fun _ => zp rfl rfl rfl rfl) ?_
  refine mqh 23 rfl kR rfl rfl (fun _ => q_ixa (i := 3) rfl rfl (by decide) rfl) ?_
  refine mqh 24 rfl kR rfl rfl (fun _ => zp rfl rfl rfl rfl) ?_
  refine mqh 25 rfl kR rfl rfl (fun _ => qw underlying23 underlying5 underlying9 rfl (BSrc.tail (A := [(b3, .cs 105 [.int .i64 ev.ty, .int .i64 ev.sty, .int .i64 ev.enc] []), (b4, .cs 110 [.bool ev.im, .bool ev.qu] []), (b5, .cs 105 [.int .i64 ev.a, .int .i64 (lnT T ev.a), .int .i64 (zH T ev.a)] []), (b6, .cs 105 [.int .i64 ev.e, .int .i64 (lnT T ev.e), .int .i64 (zH T ev.e)] []), (b7, .cs 111 [zS, zS, ev.va.v, ev.hd.v, ev.ln.v, ev.ft.v, zS] [])]) hb1)) ?_
  refine mqh 26 rfl kR rfl rfl (fun _ => q_ixa (i := 4) rfl rfl (by decide) rfl) ?_
  refine mqh 27 rfl kR rfl rfl (fun _ => zp rfl rfl rfl rfl) ?_
  refine mqh 28 rfl kR rfl rfl (fun _ => qw underlying23 underlying5 underlying9 rfl (BSrc.tail (A := [(b3, .cs 105 [.int .i64 ev.ty, .int .i64 ev.sty, .int .i64 ev.enc] []), (b4, .cs 110 [.bool ev.im, .bool ev.qu] []), (b5, .cs 105 [.int .i64 ev.a, .int .i64 (lnT T ev.a), .int .i64 (zH T ev.a)] []), (b6, .cs 105 [.int .i64 ev.e, .int .i64 (lnT T ev.e), .int .i64 (zH T ev.e)] []), (b7, .cs 111 [zS, zS, ev.va.v, ev.hd.v, ev.ln.v, ev.ft.v, zS] [])]) hb2)) ?_
  refine mqh 29 rfl kR rfl rfl (fun _ => q_ixa (i := 5) rfl rfl (by decide) rfl) ?_
  refine mqh 30 rfl kR rfl rfl (fun _ => zp rfl rfl rfl rfl) ?_
  refine mqh 31 rfl kR rfl rfl (fun _ => qw underlying23 underlying5 underlying9 rfl (BSrc.tail (A := [(b3, .cs 105 [.int .i64 ev.ty, .int .i64 ev.sty, .int .i64 ev.enc] []), (b4, .cs 110 [.bool ev.im, .bool ev.qu] []), (b5, .cs 105 [.int .i64 ev.a, .int .i64 (lnT T ev.a), .int .i64 (zH T ev.a)] []), (b6, .cs 105 [.int .i64 ev.e, .int .i64 (lnT T ev.e), .int .i64 (zH T ev.e)] []), (b7, .cs 111 [zS, zS, ev.va.v, ev.hd.v, ev.ln.v, ev.ft.v, zS] [])]) hb3)) ?_
  refine mqh 32 rfl kR rfl rfl (fun _ => q_ixa (i := 6) rfl rfl (by decide) rfl) ?_
  refine mqh 33 rfl kR rfl rfl (fun _ => zp rfl rfl rfl rfl) ?_
  refine mqh 34 rfl kR rfl rfl (fun _ => qw underlying23 underlying5 underlying9 rfl (BSrc.tail (A := [(b3, .cs 105 [.int .i64 ev.ty, .int .i64 ev.sty, .int .i64 ev.enc] []), (b4, .cs 110 [.bool ev.im, .bool ev.qu] []), (b5, .cs 105 [.int .i64 ev.a, .int .i64 (lnT T ev.a), .int .i64 (zH T ev.a)] []), (b6, .cs 105 [.int .i64 ev.e, .int .i64 (lnT T ev.e), .int .i64 (zH T ev.e)] []), (b7, .cs 111 [zS, zS, ev.va.v, ev.hd.v, ev.ln.v, ev.ft.v, zS] [])]) hb0)) ?_
  refine mqls [3, 36] kR ⟨fun hcl => ⟨_, rfl, ?_⟩, fun hcl => ⟨_, rfl, ?_⟩, trivial⟩
  ·
    refine za rfl rfl rfl (mark_ok _ _ _) ?_
    rintro _ _ ⟨rfl, rfl⟩
    refine lS ?_
    refine mqn 3 hcl ?_
    refine mqls [5, 36] kR ⟨fun hcl => ⟨_, rfl, ?_⟩, fun hcl => ⟨_, rfl, ?_⟩, trivial⟩
    ·
     refine za rfl rfl rfl (mark_ok _ _ _) ?_
     rintro _ _ ⟨rfl, rfl⟩
     refine lS ?_
     refine mqn 5 hcl ?_
     refine mqh 35 rfl kR rfl rfl (fun _ => zu (l := [_, _, _, _, _, _, _, _, _, _, _, _, _, _, _, _, _, _, _, _, _, _, _]) (zs := [zI, zI, zI, zI, zI, zI, zI, zI, .bool false, zI, zI, zS, zS, .string ⟨#[]⟩, .string ⟨#[]⟩, .string ⟨#[]⟩, .bool false, .bool false, zI, .string ⟨#[]⟩, .string ⟨#[]⟩, .string ⟨#[]⟩, .string ⟨#[]⟩]) [0, 1, 4, 7, 8, 9, 10, 11, 12, 13, 14, 15, 16, 17, 18, 19, 20, 21, 22] rfl rfl kR) ?_
     refine mql 36 rfl kR (fun hcl => ?_)
     refine zk rfl rfl clT ?_
     intro b8
     refine mqn 36 hcl ?_
     refine mql 37 rfl kR (fun hcl => ?_)
     first | refine stw rfl rfl ?_ | refine sts rfl rfl ?_
     refine zO 37 rfl kR ?_
     exact zg b8 trivial suT (Wk.toT (TDH o es ++ XH W []) [eb, b3, b8, b2] wlT)
    ·
     refine zk rfl rfl clT ?_
     intro b8
     refine mqn 36 hcl ?_
     refine mql 5 rfl kR (fun hcl => ?_)
     refine za rfl rfl rfl (mark_ok _ _ _) ?_
     rintro _ _ ⟨rfl, rfl⟩
     refine lS ?_
     refine mqn 5 hcl ?_
     refine mq 35 rfl kR rfl rfl (zu (l := [_, _, _, _, _, _, _, _, _, _, _, _, _, _, _, _, _, _, _, _, _, _, _]) (zs := [zI, zI, zI, zI, zI, zI, zI, zI, .bool false, zI, zI, zS, zS, .string ⟨#[]⟩, .string ⟨#[]⟩, .string ⟨#[]⟩, .bool false, .bool false, zI, .string ⟨#[]⟩, .string ⟨#[]⟩, .string ⟨#[]⟩, .string ⟨#[]⟩]) [0, 1, 4, 7, 8, 9, 10, 11, 12, 13, 14, 15, 16, 17, 18, 19, 20, 21, 22] rfl rfl kR) ?_
     refine mql 37 rfl kR (fun hcl => ?_)
     first | refine stw rfl rfl ?_ | refine sts rfl rfl ?_
     refine zO 37 rfl kR ?_
     exact zg b8 trivial suT (Wk.toT (TDH o es ++ XH W []) [eb, b3, b8, b2] wlT)
  ·
    refine zk rfl rfl clT ?_
    intro b8
    refine mqn 36 hcl ?_
    refine mql 3 rfl kR (fun hcl => ?_)
    refine za rfl rfl rfl (mark_ok _ _ _) ?_
    rintro _ _ ⟨rfl, rfl⟩
    refine lS ?_
    refine mqn 3 hcl ?_
    refine mql 5 rfl kR (fun hcl => ?_)
    refine za rfl rfl rfl (mark_ok _ _ _) ?_
    rintro _ _ ⟨rfl, rfl⟩
    refine lS ?_
    refine mqn 5 hcl ?_
    refine mq 35 rfl kR rfl rfl (zu (l := [_, _, _, _, _, _, _, _, _, _, _, _, _, _, _, _, _, _, _, _, _, _, _]) (zs := [zI, zI, zI, zI, zI, zI, zI, zI, .bool false, zI, zI, zS, zS, .string ⟨#[]⟩, .string ⟨#[]⟩, .string ⟨#[]⟩, .bool false, .bool false, zI, .string ⟨#[]⟩, .string ⟨#[]⟩, .string ⟨#[]⟩, .string ⟨#[]⟩]) [0, 1, 4, 7, 8, 9, 10, 11, 12, 13, 14, 15, 16, 17, 18, 19, 20, 21, 22] rfl rfl kR) ?_
    refine mql 37 rfl kR (fun hcl => ?_)
    first | refine stw rfl rfl ?_ | refine sts rfl rfl ?_
    refine zO 37 rfl kR ?_
    exact zg b8 trivial suT (Wk.toT (TDH o es ++ XH W []) [eb, b3, b8, b2] wlT)
 ·
  rintro b8 _
  refine zt (EVB T eb ev :: (b3, .cs 105 [.int .i64 ev.ty, .int .i64 ev.sty, .int .i64 ev.enc] []) :: (b8, .cs 91 (erC (erA T ev x X1 X2 X3)) []) :: (b2, .cs 91 erZ []) :: (TDH o es ++ XH W [])) [(0, pV eb), (2, pV b2), (3, pV b3), (8, pV b8)] rfl rfl ?_
  refine zL (σ := Unit) (fun _ => [(0, pV eb), (2, pV b2), (3, pV b3), (8, pV b8)]) (fun _ => EVB T eb ev :: (b8, .cs 91 (erC (erB T ev x X1 X2 X3)) []) :: (b2, .cs 91 erZ []) :: (TDH o es ++ XH W [])) (fun _ => True) ?_ ?_
  ·
    by_cases h6 : ev.ty = 6
    ·
     refine gg 4 ?_
     refine seq1 (h := ?_) (hc := h6)
     refine gg 4 ?_
     refine sqz (q_ixa (i := 1) rfl rfl (by decide) rfl) ?_
     refine sld rfl ?_
     refine za rfl rfl rfl (sty_ok ev.sty (hst h6)) ?_
     rintro _ _ ⟨rfl, rfl⟩
     refine lS ?_
     refine gg 3 ?_
     have hs : styN ev = (if ev.sty = 2 then 1 else 3) := by unfold styN; rw [if_pos h6]
     exact zg () trivial suT (Wk.toT (TDH o es ++ XH W []) [eb, b8, b2] (by exact ⟨rfl, .inl rfl, rfl, .inr (Blk.like_rec (by simp only [erC, hs]; kernel_rfl)), rfl, .inl rfl, rfl⟩))
    ·
     refine gg 4 ?_
     refine kz (h := ?_) (hc := h6)
     refine gg 4 ?_
     have hs : styN ev = ev.sty := by unfold styN; rw [if_neg h6]
     exact zg () trivial suT (Wk.toT (TDH o es ++ XH W []) [eb, b8, b2] (by exact ⟨rfl, .inl rfl, rfl, .inr (Blk.like_rec (by simp only [erC, hs]; kernel_rfl)), rfl, .inl rfl, rfl⟩))
  ·
    rintro _ _
    refine zt (EVB T eb ev :: (b8, .cs 91 (erC (erB T ev x X1 X2 X3)) []) :: (b2, .cs 91 erZ []) :: (TDH o es ++ XH W [])) [(0, pV eb), (2, pV b2), (3, pV b3), (8, pV b8)] rfl rfl ?_
    refine zL (σ := Unit) (fun _ => [(0, pV eb), (2, pV b2), (3, pV b3), (8, pV b8)]) (fun _ => EVB T eb ev :: (b8, .cs 91 (erC (erD T ev x X1 X2 X3)) []) :: (b2, .cs 91 erZ []) :: (TDH o es ++ XH W [])) (fun _ => True) ?_ ?_
    ·
     refine gg 3 ?_
     refine za rfl rfl rfl (zev_ok T eb ev) ?_
     rintro _ _ ⟨rfl, rfl⟩
     refine lS ?_
     refine ze ?_
     refine zf ?_
     rcases hvd0 : ev.vd with _ | vbk
     ·
      refine qr rfl (rfl) (kQ ?_)
      have hs : vbn ev = 0 := by unfold vbn; rw [hvd0]; rfl
      exact zg () trivial suT (Wk.toT (TDH o es ++ XH W []) [eb, b8, b2] (by exact ⟨rfl, .inl rfl, rfl, .inr (Blk.like_rec (by simp only [erC, hs, hvd0]; kernel_rfl)), rfl, .inl rfl, rfl⟩))
     ·
      refine ev_cond1b rfl (rfl) (gg 8 ?_)
      refine za rfl rfl rfl (zvn_okV T eb vbk ev W hvd0 (hVW _ (hvd _ hvd0))) ?_
      rintro _ _ ⟨rfl, rfl⟩
      refine lS ?_
      refine sq_wkH (H' := EVB T eb ev :: (b8, _) :: (b2, _) :: (TDH o es ++ XH W [])) (Wk.perm (List.perm_append_comm.cons _)) ?_
      refine gg 8 ?_
      have hs : vbn ev = 1 := by unfold vbn; rw [hvd0]; rfl
      exact zg () trivial suT (Wk.toT (TDH o es ++ XH W []) [eb, b8, b2] (by exact ⟨rfl, .inl rfl, rfl, .inr (Blk.like_rec (by simp only [erC, hs, hvd0]; kernel_rfl)), rfl, .inl rfl, rfl⟩))
    ·
     rintro _ _
     refine zt (EVB T eb ev :: (b8, .cs 91 (erC (erD T ev x X1 X2 X3)) []) :: (b2, .cs 91 erZ []) :: (TDH o es ++ XH W [])) [(0, pV eb), (2, pV b2), (3, pV b3), (8, pV b8)] rfl rfl (zd ?_)
     rcases o with _ | ⟨tb, tc⟩
     ·
      have hes := hL.none_ rfl
      subst hes
      have htg0 : tg = [] := List.length_eq_zero_iff.1 (by simpa using hlen.symm)
      subst htg0
      have hn : ev.td.n = 0 := by rw [htd]; rfl
      refine zt (EVB T eb ev :: (b8, .cs 91 (erC (erD T ev x X1 X2 X3)) []) :: (b2, .cs 91 erZ []) :: XH W []) [(0, pV eb), (2, pV b2), (3, pV b3), (8, pV b8)] rfl rfl (gg 6 ?_)
      refine qg (1) (kn (gg 5 ?_))
      refine za rfl rfl rfl (zed_ok T eb ev) ?_
      rintro _ _ ⟨rfl, rfl⟩
      refine lS ?_
      refine gg 12 ?_
      first | refine stw rfl rfl ?_ | refine sts rfl rfl ?_
      refine gg 3 ?_
      exact endr1 rfl (rc_s rfl rfl rfl rfl) (Wk.trans (H2 := EVB T eb ev :: XH W []) (Wk.toT (XH W []) [eb] wlT) (by subst hW; exact Wk.closeZ (A := [EVB T eb ev]) hZ2)) ⟨erD T ev x X1 X2 X3, V, rfl, rfl, fun _ h => h, ⟨rfl, rfl, rfl, rfl, rfl, rfl, rfl, rfl, rfl, rfl⟩, .inl ⟨rfl, rfl⟩, .inl ⟨rfl, rfl⟩⟩
     ·
      have hcap := hL.cap tb tc rfl
      refine zt (EVB T eb ev :: (b8, .cs 91 (erC (erD T ev x X1 X2 X3)) []) :: (b2, .cs 91 erZ []) :: (tb, .buf 134 (tc * 2) (tdC es)) :: XH W []) [(0, pV eb), (2, pV b2), (3, pV b3), (8, pV b8)] rfl rfl (gg 6 ?_)
      refine zw (σ := Nat × Option (Nat × Nat) × Option (Nat × Nat)) (fun y => [(0, pV eb), (2, pV b2), (3, pV b3), (8, pV b8), (9, .int .i64 (y.1 : Nat))]) (fun y => EVB T eb ev :: (b8, .cs 91 (erC ({ erD T ev x X1 X2 X3 with hs := TSS y.2.1 y.1, ps := TSS y.2.2 y.1 })) []) :: (b2, .cs 91 erZ []) :: (tb, .buf 134 (tc * 2) (tdC es)) :: (TSH y.2.1 ((tg.take y.1).map (·.1)) ++ (TSH y.2.2 ((tg.take y.1).map (·.2)) ++ XH W []))) (fun y => y.1 ≤ tg.length ∧ ((y.1 = 0 ∧ y.2.1 = none ∧ y.2.2 = none) ∨ (0 < y.1 ∧ ∃ b c b' c', y.2.1 = some (b, c) ∧ y.2.2 = some (b', c') ∧ y.1 ≤ c ∧ c ≤ 9223372036854775807 ∧ y.1 ≤ c' ∧ c' ≤ 9223372036854775807))) (fun y => tg.length - y.1) (0, none, none) ⟨Nat.zero_le _, .inl ⟨rfl, rfl, rfl⟩⟩ suT (Wk.refl _) ?_
      rintro ⟨i, oh, op⟩ ⟨hi, hoo⟩
      dsimp only at hi hoo
      refine zt (EVB T eb ev :: (b8, .cs 91 (erC ({ erD T ev x X1 X2 X3 with hs := TSS oh i, ps := TSS op i })) []) :: (b2, .cs 91 erZ []) :: (tb, .buf 134 (tc * 2) (tdC es)) :: (TSH oh ((tg.take i).map (·.1)) ++ (TSH op ((tg.take i).map (·.2)) ++ XH W []))) [(0, pV eb), (2, pV b2), (3, pV b3), (8, pV b8), (9, .int .i64 (i : Nat))] rfl rfl ?_
      have hn : ev.td.n = tg.length := by rw [htd, ← hlen]; rfl
      refine zd ?_
      by_cases hlt : i < tg.length
      ·
       refine gg 4 ?_
       refine za rfl rfl rfl (zed_ok T eb ev) ?_
       rintro _ _ ⟨rfl, rfl⟩
       refine lS ?_
       rw [hn]
       refine gg 3 ?_
       obtain ⟨e0, he0⟩ : ∃ e, es[i]? = some e := ⟨es[i]'omT, List.getElem?_eq_getElem omT⟩
       obtain ⟨t0, ht0⟩ : ∃ t, tg[i]? = some t := ⟨tg[i], List.getElem?_eq_getElem hlt⟩
       have hge := hL.get i e0 t0 he0 ht0
       have htm := htg t0 (List.mem_of_getElem? ht0)
       have hc1 : BSrc (XH W []) e0.1.v t0.1 := (hge.1.mono hVW).bs htm.1
       have hc2 : BSrc (XH W []) e0.2.v t0.2 := (hge.2.mono hVW).bs htm.2
       have hk1 : (tg.take (i + 1)).map (·.1) = (tg.take i).map (·.1) ++ [t0.1] := by rw [List.take_add_one, ht0]; simp
       have hk2 : (tg.take (i + 1)).map (·.2) = (tg.take i).map (·.2) ++ [t0.2] := by rw [List.take_add_one, ht0]; simp
       refine gg 9 ?_
       refine za rfl rfl rfl (zd_ok T eb ev tb tc i es e0 htd he0) ?_
       rintro _ _ ⟨rfl, rfl⟩
       refine lS ?_
       refine gg 7 ?_
       rcases hoo with ⟨rfl, rfl, rfl⟩ | ⟨hi0, hb, hc, pb, pc, rfl, rfl, hh1, hh2, hh3, hh4⟩
       ·
         refine qF (H' := EVB T eb ev :: (tb, .buf 134 (tc * 2) (tdC es)) :: (b8, .cs 91 (erC ({ erD T ev x X1 X2 X3 with hs := TSS none 0, ps := TSS none 0 })) []) :: (b2, .cs 91 erZ []) :: XH W []) (Wk.refl _) ?_
         refine ke (fun i => i == 4 || i == 5 || i == 10 || i == 11 || i == 13 || i == 15) (fun i => i == 13 || i == 15) ((b8, .cs 91 (erC ({ erD T ev x X1 X2 X3 with hs := TSS none 0, ps := TSS none 0 })) []) :: XH W []) zF ?_
         refine mqh 0 rfl kR rfl rfl (fun _ => zM rfl) ?_
         refine mqh 1 rfl kR rfl rfl (fun _ => zp rfl rfl rfl rfl) ?_
         refine mqh 2 rfl kR rfl rfl (fun _ => zj rfl) ?_
         refine mqh 3 rfl kR rfl rfl (fun _ => qw underlying23 underlying5 underlying9 rfl (BSrc.tail (A := [(b8, .cs 91 (erC ({ erD T ev x X1 X2 X3 with hs := TSS none 0, ps := TSS none 0 })) [])]) hc1)) ?_
         refine mqh 6 rfl kR rfl rfl (fun _ => zM rfl) ?_
         refine mqh 7 rfl kR rfl rfl (fun _ => zp rfl rfl rfl rfl) ?_
         refine mqh 8 rfl kR rfl rfl (fun _ => zj rfl) ?_
         refine mqh 9 rfl kR rfl rfl (fun _ => qw underlying23 underlying5 underlying9 rfl (BSrc.tail (A := [(b8, .cs 91 (erC ({ erD T ev x X1 X2 X3 with hs := TSS none 0, ps := TSS none 0 })) [])]) hc2)) ?_
         refine mqls [4, 10] kR ⟨fun hcl => ⟨_, rfl, ?_⟩, fun hcl => ⟨_, rfl, ?_⟩, trivial⟩
         ·
          refine kV (l := [_]) (zs := [.string ⟨#[]⟩]) [0] rfl rfl rfl rfl kR rfl rfl ?_
          intro s1
          refine mqn 4 hcl ?_
          refine mqls [5, 10] kR ⟨fun hcl => ⟨_, rfl, ?_⟩, fun hcl => ⟨_, rfl, ?_⟩, trivial⟩
          ·
           refine kr (sz := 1) (news := strs [t0.1]) rfl rfl rfl rfl rfl (zN (k := .cs 9 [.string (sb t0.1)] []) (Nat.le_refl _) (Nat.le_refl _) (fun j u hj => by simp only [Blk.cell, look, nth, Nat.zero_add]; exact hj)) rfl (by decide) (by decide) (by decide) ?_
           intro hb hc g1 g2
           rw [Nat.mul_one]
           refine mqn 5 hcl ?_
           refine mqh 12 rfl kR rfl rfl (fun _ => zM rfl) ?_
           refine mql 10 rfl kR (fun hcl => ?_)
           refine kV (l := [_]) (zs := [.string ⟨#[]⟩]) [0] rfl rfl rfl rfl kR rfl rfl ?_
           intro s2
           refine mqn 10 hcl ?_
           refine mql 11 rfl kR (fun hcl => ?_)
           refine kr (sz := 1) (news := strs [t0.2]) rfl rfl rfl rfl rfl (zN (k := .cs 9 [.string (sb t0.2)] []) (Nat.le_refl _) (Nat.le_refl _) (fun j u hj => by simp only [Blk.cell, look, nth, Nat.zero_add]; exact hj)) rfl (by decide) (by decide) (by decide) ?_
           intro pb pc g3 g4
           rw [Nat.mul_one]
           refine mqn 11 hcl ?_
           refine mql 13 rfl kR (fun hcl => ?_)
           refine st1 rfl rfl ?_
           refine mqn9 13 rfl hcl (mq9 14 rfl kR rfl rfl (zM rfl) ?_)
           refine mql9 15 rfl kR (fun hcl => ?_)
           refine st1 rfl rfl ?_
           refine zO 15 rfl kR (gg 7 ?_)
           exact zh (1, some (hb, hc), some (pb, pc)) ⟨omT, .inr ⟨omT, hb, hc, pb, pc, rfl, rfl, g1, g2, g3, g4⟩⟩ omT suT (by
           have hk1' : (tg.take 1).map (·.1) = [t0.1] := by simpa using hk1
           have hk2' : (tg.take 1).map (·.2) = [t0.2] := by simpa using hk2
           dsimp only
           rw [hk1', hk2']
           exact Wk.toT (XH W []) [eb, b8, b2, tb, hb, pb] wlT)
          ·
           refine kV (l := [_]) (zs := [.string ⟨#[]⟩]) [0] rfl rfl rfl rfl kR rfl rfl ?_
           intro s2
           refine mqn 10 hcl ?_
           refine mql 5 rfl kR (fun hcl => ?_)
           refine kr (sz := 1) (news := strs [t0.1]) rfl rfl rfl rfl rfl (zN (k := .cs 9 [.string (sb t0.1)] []) (Nat.le_refl _) (Nat.le_refl _) (fun j u hj => by simp only [Blk.cell, look, nth, Nat.zero_add]; exact hj)) rfl (by decide) (by decide) (by decide) ?_
           intro hb hc g1 g2
           rw [Nat.mul_one]
           refine mqn 5 hcl ?_
           refine mqh 12 rfl kR rfl rfl (fun _ => zM rfl) ?_
           refine mql 11 rfl kR (fun hcl => ?_)
           refine kr (sz := 1) (news := strs [t0.2]) rfl rfl rfl rfl rfl (zN (k := .cs 9 [.string (sb t0.2)] []) (Nat.le_refl _) (Nat.le_refl _) (fun j u hj => by simp only [Blk.cell, look, nth, Nat.zero_add]; exact hj)) rfl (by decide) (by decide) (by decide) ?_
           intro pb pc g3 g4
           rw [Nat.mul_one]
           refine mqn 11 hcl ?_
           refine mql 13 rfl kR (fun hcl => ?_)
           refine st1 rfl rfl ?_
           refine mqn9 13 rfl hcl (mq9 14 rfl kR rfl rfl (zM rfl) ?_)
           refine mql9 15 rfl kR (fun hcl => ?_)
           refine st1 rfl rfl ?_
           refine zO 15 rfl kR (gg 7 ?_)
           exact zh (1, some (hb, hc), some (pb, pc)) ⟨omT, .inr ⟨omT, hb, hc, pb, pc, rfl, rfl, g1, g2, g3, g4⟩⟩ omT suT (by
           have hk1' : (tg.take 1).map (·.1) = [t0.1] := by simpa using hk1
           have hk2' : (tg.take 1).map (·.2) = [t0.2] := by simpa using hk2
           dsimp only
           rw [hk1', hk2']
           exact Wk.toT (XH W []) [eb, b8, b2, tb, hb, pb] wlT)
         ·
          refine kV (l := [_]) (zs := [.string ⟨#[]⟩]) [0] rfl rfl rfl rfl kR rfl rfl ?_
          intro s2
          refine mqn 10 hcl ?_
          refine mql 4 rfl kR (fun hcl => ?_)
          refine kV (l := [_]) (zs := [.string ⟨#[]⟩]) [0] rfl rfl rfl rfl kR rfl rfl ?_
          intro s1
          refine mqn 4 hcl ?_
          refine mql 5 rfl kR (fun hcl => ?_)
          refine kr (sz := 1) (news := strs [t0.1]) rfl rfl rfl rfl rfl (zN (k := .cs 9 [.string (sb t0.1)] []) (Nat.le_refl _) (Nat.le_refl _) (fun j u hj => by simp only [Blk.cell, look, nth, Nat.zero_add]; exact hj)) rfl (by decide) (by decide) (by decide) ?_
          intro hb hc g1 g2
          rw [Nat.mul_one]
          refine mqn 5 hcl ?_
          refine mqh 12 rfl kR rfl rfl (fun _ => zM rfl) ?_
          refine mql 11 rfl kR (fun hcl => ?_)
          refine kr (sz := 1) (news := strs [t0.2]) rfl rfl rfl rfl rfl (zN (k := .cs 9 [.string (sb t0.2)] []) (Nat.le_refl _) (Nat.le_refl _) (fun j u hj => by simp only [Blk.cell, look, nth, Nat.zero_add]; exact hj)) rfl (by decide) (by decide) (by decide) ?_
          intro pb pc g3 g4
          rw [Nat.mul_one]
          refine mqn 11 hcl ?_
          refine mql 13 rfl kR (fun hcl => ?_)
          refine st1 rfl rfl ?_
          refine mqn9 13 rfl hcl (mq9 14 rfl kR rfl rfl (zM rfl) ?_)
          refine mql9 15 rfl kR (fun hcl => ?_)
          refine st1 rfl rfl ?_
          refine zO 15 rfl kR (gg 7 ?_)
          exact zh (1, some (hb, hc), some (pb, pc)) ⟨omT, .inr ⟨omT, hb, hc, pb, pc, rfl, rfl, g1, g2, g3, g4⟩⟩ omT suT (by
          have hk1' : (tg.take 1).map (·.1) = [t0.1] := by simpa using hk1
          have hk2' : (tg.take 1).map (·.2) = [t0.2] := by simpa using hk2
          dsimp only
          rw [hk1', hk2']
          exact Wk.toT (XH W []) [eb, b8, b2, tb, hb, pb] wlT)
       ·
         refine qF (H' := EVB T eb ev :: (tb, .buf 134 (tc * 2) (tdC es)) :: (b8, .cs 91 (erC ({ erD T ev x X1 X2 X3 with hs := TSS (some (hb, hc)) i, ps := TSS (some (pb, pc)) i })) []) :: (b2, .cs 91 erZ []) :: SRB hb hc ((tg.take i).map (·.1)) :: SRB pb pc ((tg.take i).map (·.2)) :: XH W []) (Wk.refl _) ?_
         refine ke (fun i => i == 4 || i == 5 || i == 10 || i == 11 || i == 13 || i == 15) (fun i => i == 13 || i == 15) ((b8, .cs 91 (erC ({ erD T ev x X1 X2 X3 with hs := TSS (some (hb, hc)) i, ps := TSS (some (pb, pc)) i })) []) :: XH W []) zF ?_
         refine mqh 0 rfl kR rfl rfl (fun _ => zM rfl) ?_
         refine mqh 1 rfl kR rfl rfl (fun _ => zp rfl rfl rfl rfl) ?_
         refine mqh 2 rfl kR rfl rfl (fun _ => zj rfl) ?_
         refine mqh 3 rfl kR rfl rfl (fun _ => qw underlying23 underlying5 underlying9 rfl (BSrc.tail (A := [(b8, .cs 91 (erC ({ erD T ev x X1 X2 X3 with hs := TSS (some (hb, hc)) i, ps := TSS (some (pb, pc)) i })) [])]) hc1)) ?_
         refine mqh 6 rfl kR rfl rfl (fun _ => zM rfl) ?_
         refine mqh 7 rfl kR rfl rfl (fun _ => zp rfl rfl rfl rfl) ?_
         refine mqh 8 rfl kR rfl rfl (fun _ => zj rfl) ?_
         refine mqh 9 rfl kR rfl rfl (fun _ => qw underlying23 underlying5 underlying9 rfl (BSrc.tail (A := [(b8, .cs 91 (erC ({ erD T ev x X1 X2 X3 with hs := TSS (some (hb, hc)) i, ps := TSS (some (pb, pc)) i })) [])]) hc2)) ?_
         refine mqls [4, 10] kR ⟨fun hcl => ⟨_, rfl, ?_⟩, fun hcl => ⟨_, rfl, ?_⟩, trivial⟩
         ·
          refine kV (l := [_]) (zs := [.string ⟨#[]⟩]) [0] rfl rfl rfl rfl kR rfl rfl ?_
          intro s1
          refine mqn 4 hcl ?_
          refine mqls [5, 10] kR ⟨fun hcl => ⟨_, rfl, ?_⟩, fun hcl => ⟨_, rfl, ?_⟩, trivial⟩
          ·
           refine zY (b := hb) (n0 := i) (cap := hc) (z := .string ⟨#[]⟩) (sz := 1) (bs := 16) (news := strs [t0.1]) rfl rfl rfl rfl omT (by simp; exact omT) hh1 hh2 rfl (zN (k := .cs 9 [.string (sb t0.1)] []) (Nat.le_refl _) (Nat.le_refl _) (fun j u hj => by simp only [Blk.cell, look, nth, Nat.zero_add]; exact hj)) rfl (wr _) omT omT ?_
           intro hb2 hc2 g1 g2
           rw [Nat.mul_one, ← strs_app, ← hk1]
           refine mqn 5 hcl ?_
           refine mqh 12 rfl kR rfl rfl (fun _ => zM rfl) ?_
           refine mql 10 rfl kR (fun hcl => ?_)
           refine kV (l := [_]) (zs := [.string ⟨#[]⟩]) [0] rfl rfl rfl rfl kR rfl rfl ?_
           intro s2
           refine mqn 10 hcl ?_
           refine mql 11 rfl kR (fun hcl => ?_)
           refine zY (b := pb) (n0 := i) (cap := pc) (z := .string ⟨#[]⟩) (sz := 1) (bs := 16) (news := strs [t0.2]) rfl rfl rfl rfl omT (by simp; exact omT) hh3 hh4 rfl (zN (k := .cs 9 [.string (sb t0.2)] []) (Nat.le_refl _) (Nat.le_refl _) (fun j u hj => by simp only [Blk.cell, look, nth, Nat.zero_add]; exact hj)) rfl (wr _) omT omT ?_
           intro pb2 pc2 g3 g4
           rw [Nat.mul_one, ← strs_app, ← hk2]
           refine mqn 11 hcl ?_
           refine mql 13 rfl kR (fun hcl => ?_)
           refine st1 rfl rfl ?_
           refine mqn9 13 rfl hcl (mq9 14 rfl kR rfl rfl (zM rfl) ?_)
           refine mql9 15 rfl kR (fun hcl => ?_)
           refine st1 rfl rfl ?_
           refine zO 15 rfl kR (gg 7 ?_)
           exact zh (i + 1, some (hb2, hc2), some (pb2, pc2)) ⟨omT, .inr ⟨omT, hb2, hc2, pb2, pc2, rfl, rfl, g1, g2, g3, g4⟩⟩ omT suT (Wk.toT (XH W []) [eb, b8, b2, tb, hb2, pb2] wlT)
          ·
           refine kV (l := [_]) (zs := [.string ⟨#[]⟩]) [0] rfl rfl rfl rfl kR rfl rfl ?_
           intro s2
           refine mqn 10 hcl ?_
           refine mql 5 rfl kR (fun hcl => ?_)
           refine zY (b := hb) (n0 := i) (cap := hc) (z := .string ⟨#[]⟩) (sz := 1) (bs := 16) (news := strs [t0.1]) rfl rfl rfl rfl omT (by simp; exact omT) hh1 hh2 rfl (zN (k := .cs 9 [.string (sb t0.1)] []) (Nat.le_refl _) (Nat.le_refl _) (fun j u hj => by simp only [Blk.cell, look, nth, Nat.zero_add]; exact hj)) rfl (wr _) omT omT ?_
           intro hb2 hc2 g1 g2
           rw [Nat.mul_one, ← strs_app, ← hk1]
           refine mqn 5 hcl ?_
           refine mqh 12 rfl kR rfl rfl (fun _ => zM rfl) ?_
           refine mql 11 rfl kR (fun hcl => ?_)
           refine zY (b := pb) (n0 := i) (cap := pc) (z := .string ⟨#[]⟩) (sz := 1) (bs := 16) (news := strs [t0.2]) rfl rfl rfl rfl omT (by simp; exact omT) hh3 hh4 rfl (zN (k := .cs 9 [.string (sb t0.2)] []) (Nat.le_refl _) (Nat.le_refl _) (fun j u hj => by simp only [Blk.cell, look, nth, Nat.zero_add]; exact hj)) rfl (wr _) omT omT ?_
           intro pb2 pc2 g3 g4
           rw [Nat.mul_one, ← strs_app, ← hk2]
           refine mqn 11 hcl ?_
           refine mql 13 rfl kR (fun hcl => ?_)
           refine st1 rfl rfl ?_
           refine mqn9 13 rfl hcl (mq9 14 rfl kR rfl rfl (zM rfl) ?_)
           refine mql9 15 rfl kR (fun hcl => ?_)
           refine st1 rfl rfl ?_
           refine zO 15 rfl kR (gg 7 ?_)
           exact zh (i + 1, some (hb2, hc2), some (pb2, pc2)) ⟨omT, .inr ⟨omT, hb2, hc2, pb2, pc2, rfl, rfl, g1, g2, g3, g4⟩⟩ omT suT (Wk.toT (XH W []) [eb, b8, b2, tb, hb2, pb2] wlT)
         ·
          refine kV (l := [_]) (zs := [.string ⟨#[]⟩]) [0] rfl rfl rfl rfl kR rfl rfl ?_
          intro s2
          refine mqn 10 hcl ?_
          refine mql 4 rfl kR (fun hcl => ?_)
          refine kV (l := [_]) (zs := [.string ⟨#[]⟩]) [0] rfl rfl rfl rfl kR rfl rfl ?_
          intro s1
          refine mqn 4 hcl ?_
          refine mql 5 rfl kR (fun hcl => ?_)
          refine zY (b := hb) (n0 := i) (cap := hc) (z := .string ⟨#[]⟩) (sz := 1) (bs := 16) (news := strs [t0.1]) rfl rfl rfl rfl omT (by simp; exact omT) hh1 hh2 rfl (zN (k := .cs 9 [.string (sb t0.1)] []) (Nat.le_refl _) (Nat.le_refl _) (fun j u hj => by simp only [Blk.cell, look, nth, Nat.zero_add]; exact hj)) rfl (wr _) omT omT ?_
          intro hb2 hc2 g1 g2
          rw [Nat.mul_one, ← strs_app, ← hk1]
          refine mqn 5 hcl ?_
          refine mqh 12 rfl kR rfl rfl (fun _ => zM rfl) ?_
          refine mql 11 rfl kR (fun hcl => ?_)
          refine zY (b := pb) (n0 := i) (cap := pc) (z := .string ⟨#[]⟩) (sz := 1) (bs := 16) (news := strs [t0.2]) rfl rfl rfl rfl omT (by simp; exact omT) hh3 hh4 rfl (zN (k := .cs 9 [.string (sb t0.2)] []) (Nat.le_refl _) (Nat.le_refl _) (fun j u hj => by simp only [Blk.cell, look, nth, Nat.zero_add]; exact hj)) rfl (wr _) omT omT ?_
          intro pb2 pc2 g3 g4
          rw [Nat.mul_one, ← strs_app, ← hk2]
          refine mqn 11 hcl ?_
          refine mql 13 rfl kR (fun hcl => ?_)
          refine st1 rfl rfl ?_
          refine mqn9 13 rfl hcl (mq9 14 rfl kR rfl rfl (zM rfl) ?_)
          refine mql9 15 rfl kR (fun hcl => ?_)
          refine st1 rfl rfl ?_
          refine zO 15 rfl kR (gg 7 ?_)
          exact zh (i + 1, some (hb2, hc2), some (pb2, pc2)) ⟨omT, .inr ⟨omT, hb2, hc2, pb2, pc2, rfl, rfl, g1, g2, g3, g4⟩⟩ omT suT (Wk.toT (XH W []) [eb, b8, b2, tb, hb2, pb2] wlT)
      ·
       refine gg 4 ?_
       refine za rfl rfl rfl (zed_ok T eb ev) ?_
       rintro _ _ ⟨rfl, rfl⟩
       refine lS ?_
       rw [hn]
       refine gg 3 ?_
       obtain rfl : i = tg.length := by omega
       rw [List.take_length]
       refine gg 9 ?_
       first | refine stw rfl rfl ?_ | refine sts rfl rfl ?_
       refine gg 3 ?_
       rcases hoo with ⟨hi0, rfl, rfl⟩ | ⟨hi0, hb, hc, pb, pc, rfl, rfl, hh1, hh2, hh3, hh4⟩
       · have htg0 : tg = [] := List.length_eq_zero_iff.1 hi0
         subst htg0
         refine lf_wk (E' := [(2, pV b2)]) (H' := EVB T eb ev :: (b8, .cs 91 (erC ({ erD T ev x X1 X2 X3 with hs := TSS none 0, ps := TSS none 0 })) []) :: (b2, .cs 91 (erC ({ erD T ev x X1 X2 X3 with hs := TSS none 0, ps := TSS none 0 })) []) :: (tb, .buf 134 (tc * 2) (tdC es)) :: XH W []) suT (Wk.refl _) ?_
         exact endr1 rfl (rc_s rfl rfl rfl rfl) (Wk.trans (H2 := EVB T eb ev :: (tb, .buf 134 (tc * 2) (tdC es)) :: XH W []) (Wk.toT (XH W []) [eb, tb] wlT) (by subst hW; exact Wk.closeZ (A := [EVB T eb ev, (tb, .buf 134 (tc * 2) (tdC es))]) hZ2)) ⟨{ erD T ev x X1 X2 X3 with hs := TSS none 0, ps := TSS none 0 }, V, rfl, rfl, fun _ h => h, ⟨rfl, rfl, rfl, rfl, rfl, rfl, rfl, rfl, rfl, rfl⟩, .inl ⟨rfl, rfl⟩, .inl ⟨rfl, rfl⟩⟩
       · refine lf_wk (E' := [(2, pV b2)]) (H' := EVB T eb ev :: (b8, .cs 91 (erC ({ erD T ev x X1 X2 X3 with hs := TSS (some (hb, hc)) tg.length, ps := TSS (some (pb, pc)) tg.length })) []) :: (b2, .cs 91 (erC ({ erD T ev x X1 X2 X3 with hs := TSS (some (hb, hc)) tg.length, ps := TSS (some (pb, pc)) tg.length })) []) :: (tb, .buf 134 (tc * 2) (tdC es)) :: SRB hb hc (tg.map (·.1)) :: SRB pb pc (tg.map (·.2)) :: XH W []) suT (Wk.refl _) ?_
         exact endr1 rfl (rc_s rfl rfl rfl rfl) (Wk.trans (H2 := SRB hb hc (tg.map (·.1)) :: SRB pb pc (tg.map (·.2)) :: EVB T eb ev :: (tb, .buf 134 (tc * 2) (tdC es)) :: XH W []) (Wk.toT (XH W []) [hb, pb, eb, tb] wlT) (Wk.trans (H2 := [SRB hb hc (tg.map (·.1)), SRB pb pc (tg.map (·.2)), EVB T eb ev, (tb, .buf 134 (tc * 2) (tdC es))] ++ XH V (ZJ Z)) (by subst hW; exact Wk.closeZ (A := [SRB hb hc (tg.map (·.1)), SRB pb pc (tg.map (·.2)), EVB T eb ev, (tb, .buf 134 (tc * 2) (tdC es))]) hZ2) (Wk.perm (perm22 _ _ _ _ _)))) ⟨{ erD T ev x X1 X2 X3 with hs := TSS (some (hb, hc)) tg.length, ps := TSS (some (pb, pc)) tg.length }, SRB hb hc (tg.map (·.1)) :: SRB pb pc (tg.map (·.2)) :: V, rfl, rfl, fun y hy => List.mem_cons_of_mem _ (List.mem_cons_of_mem _ hy), ⟨rfl, rfl, rfl, rfl, rfl, rfl, rfl, rfl, rfl, rfl⟩, .inr ⟨hb, hc, by simp [TSS], List.mem_cons_self, by simpa using hh1, hh2⟩, .inr ⟨pb, pc, by simp [TSS], List.mem_cons_of_mem _ List.mem_cons_self, by simpa using hh3, hh4⟩⟩
end Go.Proofs.YtnfbcfflkphbiaaGreatDoor
