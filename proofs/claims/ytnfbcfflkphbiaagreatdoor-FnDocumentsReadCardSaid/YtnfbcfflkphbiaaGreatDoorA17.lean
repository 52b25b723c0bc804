/-
  Texts of the proof, joined: F9 E15 F10 P0. No Go text.
-/
import Derived.Test.YtnfbcfflkphbiaaGreatDoorA01
import Derived.Test.YtnfbcfflkphbiaaGreatDoorA08
import Derived.Test.YtnfbcfflkphbiaaGreatDoorA16
import Derived.Test.YtnfbcfflkphbiaaGreatDoorA06
import Derived.Defers
import Derived.Test.YtnfbcfflkphbiaaGreatDoorA13
import Derived.Test.YtnfbcfflkphbiaaGreatDoorA09
namespace Go.Proofs.YtnfbcfflkphbiaaGreatDoor
open Go Go.Proofs Tryz
set_option linter.all false
set_option maxRecDepth 100000
set_option maxHeartbeats 8000000
theorem Wk.pushV {H H1 : zl} {b cap : Nat} {X : List Nat} {T : List Nat} {J : JL} {C : Option (Nat × Nat)} {V : VL} {F : zl → zl} [hr : Rem H b (.buf 5 cap (bytes X)) H1] [hc : CT H1 T J C V F] :
  Wk H (F (CH T J C ++ XH (VE b cap X :: V) J)) := by
 intro pu w0 D w hk
 obtain ⟨l, r, rfl, hH1⟩ := hr.is
 obtain ⟨l2, h2, hF⟩ := hc.is
 have hp : (l ++ (b, Blk.buf 5 cap (bytes X)) :: r).Perm (F (CH T J C ++ XH (VE b cap X :: V) J)) := by
  rw [hF]
  refine List.perm_middle.trans ?_
  rw [← hH1, h2]
  have e : XH (VE b cap X :: V) J = (b, Blk.buf 5 cap (bytes X)) :: XH V J := rfl
  rw [e, ← List.append_assoc, ← List.append_assoc]
  exact List.perm_middle.symm
 exact hk.mono (fun x hx => hp.mem_iff.2 hx) (hk.hok.perm hp).nodup
def tvYaml (a e : Nat) : TV := ⟨3, a, e, 0, Sl.nil, Sl.nil, 0, 1, 1⟩
def tvTag (a e b1 n1 c1 b2 n2 c2 : Nat) : TV := ⟨4, a, e, 0, ⟨some ⟨b1, 0, none⟩, n1, c1⟩, ⟨some ⟨b2, 0, none⟩, n2, c2⟩, 0, 0, 0⟩
def tvSc (a e b n c : Nat) (sty : Int) : TV := ⟨21, a, e, 0, ⟨some ⟨b, 0, none⟩, n, c⟩, Sl.nil, sty, 0, 0⟩
theorem fdy_ok (L : Lay) (T : List Nat) (X : SS) (qv qb ql : Nat) (he : Eof L) (hi : SI L T X) (hr : Rdy T (zc X) 4) (h0 : at_ T X.q = 37)
  (y1 : at_ T (X.q + 1) = 89) (y2 : at_ T (X.q + 1 + 1) = 65) (y3 : at_ T (X.q + 1 + 2) = 77) (y4 : at_ T (X.q + 1 + 3) = 76) (hv : X.q + 1 + 4 < qv) (hbl : ∀ i, X.q + 1 + 4 ≤ i → i < qv → at_ T i = 32)
  (v1 : at_ T qv = 49) (v2 : at_ T (qv + 1) = 46) (v3 : at_ T (qv + 2) = 49) (hd : DirEnd T (qv + 3) qb ql) (hln : X.tl.length < 1000000) :
  Fn prog 144 [pV L.p] (SH L T X)
   (fun v H' => v = .bool true ∧ ∃ X', H' = SH L T X' ∧ Fet L T X X' (tvYaml X.q (qv + 3)) ∧ X'.q = ql + 1) := by
 have htlc := hi.tlc
 have hd1 := hd.eb
 have hd2 := hd.bl
 refine zo func144 rfl rfl rfl ?_
 intro w
 refine gg 13 ?_
 refine za rfl rfl rfl (unr_ok L T X (-1) _ _ _ (by decide)) ?_
 rintro _ _ ⟨rfl, rfl⟩
 refine lS ?_
 refine gg 10 ?_
 refine za rfl rfl rfl (rsk_ok L T X hi.skc.1) ?_
 rintro _ _ ⟨rfl, rfl⟩
 refine lS ?_
 refine gg 15 ?_
 refine zA L.p (.cs 75 (qp L T (zc { X with ska := false, pf := true })) []) (Blk.like_rec kR) ?_
 have hi2 : SI L T { X with ska := false, pf := true } := hi.flag
 have hr2 : Rdy T (zc { X with ska := false, pf := true }) 4 := ⟨hr.len, hr.un⟩
 refine zi ?_
 refine sqz (zu (l := [_, _, _, _, _, _, _, _, _, _, _, _, _, _]) (zs := [zI, zI, zI, zI, zI, zI, zI, zI, zS, zS, zS, .int .i8 0, .int .i8 0, .int .i8 0]) [0, 1, 4, 7, 8, 9, 10, 11, 12, 13] rfl rfl kR) ?_
 refine zk rfl rfl clT ?_
 intro kb
 first | refine stw rfl rfl ?_ | refine sts rfl rfl ?_
 refine gg 4 ?_
 refine zA kb (.cs 163 qx []) (Blk.like_rec kR) (zi (smv ?_))
 refine za rfl rfl rfl (sdir_yaml L T (zc { X with ska := false, pf := true }) kb qv qb ql he hi2.inv hr2 h0 y1 y2 y3 y4 hv hbl v1 v2 v3 hd) ?_
 rintro _ _ ⟨rfl, r2, nl2, hn2, hk2, rfl⟩
 refine lS ?_
 refine gg 7 ?_
 refine zA kb (.cs 163 (tvC T (tvYaml X.q (qv + 3))) []) (fun o h => h) ?_
 have hi3 : SI L T { X with r := r2, nl := nl2, q := ql + 1, ska := false, pf := true } := hi2.move hn2 omT
 refine zA L.p (.cs 75 (qp L T (zc { X with r := r2, nl := nl2, q := ql + 1, ska := false, pf := true })) []) (fun o h => h) ?_
 refine zi (smv ?_)
 refine za rfl rfl rfl (ins_ok L T { X with r := r2, nl := nl2, q := ql + 1, ska := false, pf := true } kb (tvYaml X.q (qv + 3)) hi.tlc hi.tkc hi.thl hln) ?_
 rintro _ _ ⟨rfl, tkb2, tkc2, tl2, th2, g1, g2, g3, g4, g5, g6, g7, g8, rfl⟩
 refine lS ?_
 refine gg 8 ?_
 exact zm rfl rfl (Wk.toT (CH T X.J X.C ++ XH X.V X.J) [L.p, L.bb, L.rb, L.ib, 0, tkb2, X.skb, X.mpb] wlT) ⟨rfl, { X with r := r2, nl := nl2, q := ql + 1, ska := false, pf := true, tkb := tkb2, tkc := tkc2, tl := tl2, th := th2 }, rfl, ⟨hi3.ins g2 g3 g4 g5, g1, g2, g7, g8, JLe.refl _, fun _ h => h, rfl, rfl, rfl, rfl, rfl, rfl, rfl, rfl, rfl, rfl⟩, rfl⟩
theorem fdt_ok (L : Lay) (T : List Nat) (X : SS) (qv qa qh q3 qe qb ql : Nat) (he : Eof L) (hi : SI L T X) (hr : Rdy T (zc X) 4) (h0 : at_ T X.q = 37)
  (y1 : at_ T (X.q + 1) = 84) (y2 : at_ T (X.q + 1 + 1) = 65) (y3 : at_ T (X.q + 1 + 2) = 71) (hv : X.q + 1 + 3 < qv) (hbl : ∀ i, X.q + 1 + 3 ≤ i → i < qv → at_ T i = 32)
  (h33 : at_ T qv = 33) (hqa : qv < qa) (hal : ∀ i, qv < i → i < qa → zC (at_ T i) = true)
  (hz : (at_ T qa = 33 ∧ qh = qa + 1) ∨ (at_ T qa = 32 ∧ qa = qv + 1 ∧ qh = qa)) (hq3 : qh < q3) (hbl3 : ∀ i, qh ≤ i → i < q3 → at_ T i = 32) (hqe : q3 < qe) (huri : ∀ i, q3 ≤ i → i < qe → uriB (at_ T i) = true) (hd : DirEnd T qe qb ql) (hsc : qe = qb → at_ T qb = 10) (hln : X.tl.length < 1000000) :
  Fn prog 144 [pV L.p] (SH L T X)
   (fun v H' => v = .bool true ∧ ∃ X' b1 c1 b2 c2, H' = SH L T X' ∧ Fet L T X X' (tvTag X.q qe b1 (qh - qv) c1 b2 (qe - q3) c2) ∧ X'.q = ql + 1 ∧
    VE b1 c1 (kA T qv qh) ∈ X'.V ∧ VE b2 c2 (kA T q3 qe) ∈ X'.V ∧ qh - qv ≤ c1 ∧ c1 ≤ 9223372036854775807 ∧ qe - q3 ≤ c2 ∧ c2 ≤ 9223372036854775807) := by
 have htlc := hi.tlc
 have hd1 := hd.eb
 have hd2 := hd.bl
 refine zo func144 rfl rfl rfl ?_
 intro w
 refine gg 13 ?_
 refine za rfl rfl rfl (unr_ok L T X (-1) _ _ _ (by decide)) ?_
 rintro _ _ ⟨rfl, rfl⟩
 refine lS ?_
 refine gg 10 ?_
 refine za rfl rfl rfl (rsk_ok L T X hi.skc.1) ?_
 rintro _ _ ⟨rfl, rfl⟩
 refine lS ?_
 refine gg 15 ?_
 refine zA L.p (.cs 75 (qp L T (zc { X with ska := false, pf := true })) []) (Blk.like_rec kR) ?_
 have hi2 : SI L T { X with ska := false, pf := true } := hi.flag
 have hr2 : Rdy T (zc { X with ska := false, pf := true }) 4 := ⟨hr.len, hr.un⟩
 refine zi ?_
 refine sqz (zu (l := [_, _, _, _, _, _, _, _, _, _, _, _, _, _]) (zs := [zI, zI, zI, zI, zI, zI, zI, zI, zS, zS, zS, .int .i8 0, .int .i8 0, .int .i8 0]) [0, 1, 4, 7, 8, 9, 10, 11, 12, 13] rfl rfl kR) ?_
 refine zk rfl rfl clT ?_
 intro kb
 first | refine stw rfl rfl ?_ | refine sts rfl rfl ?_
 refine gg 4 ?_
 refine zA kb (.cs 163 qx []) (Blk.like_rec kR) (zi (smv ?_))
 refine za rfl rfl rfl (sdir_tag L T (zc { X with ska := false, pf := true }) kb qv qa qh q3 qe qb ql he hi2.inv hr2 h0 y1 y2 y3 hv hbl h33 hqa hal hz hq3 hbl3 hqe huri hd hsc) ?_
 rintro _ _ ⟨rfl, r2, nl2, b1, c1, b2, c2, hn2, hk2, k1, k2, k3, k4, rfl⟩
 refine lS ?_
 refine gg 7 ?_
 refine zA kb (.cs 163 (tvC T (tvTag X.q qe b1 (qh - qv) c1 b2 (qe - q3) c2)) []) (fun o h => h) ?_
 have hi3 : SI L T { X with r := r2, nl := nl2, q := ql + 1, ska := false, pf := true } := hi2.move hn2 (by rcases hz with h | h <;> exact omT)
 refine zA L.p (.cs 75 (qp L T (zc { X with r := r2, nl := nl2, q := ql + 1, ska := false, pf := true })) []) (fun o h => h) ?_
 refine zi (smv ?_)
 refine za rfl rfl rfl (ins_ok L T { X with r := r2, nl := nl2, q := ql + 1, ska := false, pf := true } kb (tvTag X.q qe b1 (qh - qv) c1 b2 (qe - q3) c2) hi.tlc hi.tkc hi.thl hln) ?_
 rintro _ _ ⟨rfl, tkb2, tkc2, tl2, th2, g1, g2, g3, g4, g5, g6, g7, g8, rfl⟩
 refine lS ?_
 refine gg 8 ?_
 exact zm rfl rfl (Wk.trans (Wk.pushV (b := b1)) (Wk.trans (Wk.pushV (b := b2)) (Wk.toT (CH T X.J X.C ++ XH (VE b2 c2 (kA T q3 qe) :: VE b1 c1 (kA T qv qh) :: X.V) X.J) [L.p, L.bb, L.rb, L.ib, 0, tkb2, X.skb, X.mpb] wlT))) ⟨rfl, { X with r := r2, nl := nl2, q := ql + 1, ska := false, pf := true, tkb := tkb2, tkc := tkc2, tl := tl2, th := th2, V := VE b2 c2 (kA T q3 qe) :: VE b1 c1 (kA T qv qh) :: X.V }, b1, c1, b2, c2, rfl, ⟨(hi3.ins g2 g3 g4 g5).vs, g1, g2, g7, g8, JLe.refl _, fun _ h => List.mem_cons_of_mem _ (List.mem_cons_of_mem _ h), rfl, rfl, rfl, rfl, rfl, rfl, rfl, rfl, rfl, rfl⟩, rfl, List.mem_cons_of_mem _ List.mem_cons_self, List.mem_cons_self, k1, k2, k3, k4⟩
theorem fps_ok (L : Lay) (T : List Nat) (X : SS) (e q' : Nat) (he : Eof L) (hi : SI L T X) (hqe : X.q < e) (hal : ∀ i, X.q ≤ i → i < e → zC (at_ T i) = true) (hz : zK (at_ T e) = true)
  (hdi : ¬ (zH T X.q = 0 ∧ at_ T X.q = 45 ∧ at_ T (X.q + 1) = 45 ∧ at_ T (X.q + 2) = 45 ∧ zK (at_ T (X.q + 3)) = true))
  (hq' : e ≤ q') (hgap : ∀ i, e ≤ i → i < q' → at_ T i = 32 ∨ at_ T i = 10) (hstop : at_ T q' = 0 ∨ at_ T q' = 35 ∨ DI T q') (hln : X.tl.length < 1000000) :
  Fn prog 160 [pV L.p] (SH L T X)
   (fun v H' => v = .bool true ∧ ∃ X' b c, H' = SH L T X' ∧ Fet L T X X' (tvSc X.q e b (e - X.q) c 2) ∧ X'.q = q' ∧ VE b c (kA T X.q e) ∈ X'.V ∧ e - X.q ≤ c ∧ c ≤ 9223372036854775807) := by
 have htlc := hi.tlc
 refine zo func160 rfl rfl rfl ?_
 intro w
 refine gg 9 ?_
 refine za rfl rfl rfl (ssk_ok L T X hi.skc.1 hi.thl omT) ?_
 rintro _ _ ⟨rfl, rfl⟩
 refine lS ?_
 refine gg 15 ?_
 refine zA L.p (.cs 75 (qp L T (zc { X with ska := false, pf := false })) []) (Blk.like_rec kR) ?_
 have hi2 : SI L T { X with ska := false, pf := false } := hi.flag
 refine zi (zk rfl rfl clT ?_)
 intro kb
 refine gg 4 ?_
 refine zA kb (.cs 163 qx []) (Blk.like_rec kR) (zi (smv ?_))
 refine za rfl rfl rfl (spl_ok L T { X with ska := false, pf := false } kb e q' he hi2 hqe hal hz hdi hq' hgap hstop) ?_
 rintro _ _ ⟨rfl, r2, nl2, ska2, b1, c1, hn2, k1, k2, rfl⟩
 refine lS ?_
 refine gg 7 ?_
 refine zA kb (.cs 163 (tvC T (tvSc X.q e b1 (e - X.q) c1 2)) []) (fun o h => h) ?_
 have hi3 : SI L T { X with r := r2, nl := nl2, q := q', ska := ska2, pf := false } := (hi2.move hn2 omT).flag
 refine zA L.p (.cs 75 (qp L T (zc { X with r := r2, nl := nl2, q := q', ska := ska2, pf := false })) []) (fun o h => h) ?_
 refine zi (smv ?_)
 refine za rfl rfl rfl (ins_ok L T { X with r := r2, nl := nl2, q := q', ska := ska2, pf := false } kb (tvSc X.q e b1 (e - X.q) c1 2) hi.tlc hi.tkc hi.thl hln) ?_
 rintro _ _ ⟨rfl, tkb2, tkc2, tl2, th2, g1, g2, g3, g4, g5, g6, g7, g8, rfl⟩
 refine lS ?_
 refine gg 8 ?_
 exact zm rfl rfl (Wk.trans (Wk.pushV (b := b1)) (Wk.toT (CH T X.J X.C ++ XH (VE b1 c1 (kA T X.q e) :: X.V) X.J) [L.p, L.bb, L.rb, L.ib, 0, tkb2, X.skb, X.mpb] wlT)) ⟨rfl, { X with r := r2, nl := nl2, q := q', ska := ska2, pf := false, tkb := tkb2, tkc := tkc2, tl := tl2, th := th2, V := VE b1 c1 (kA T X.q e) :: X.V }, b1, c1, rfl, ⟨(hi3.ins g2 g3 g4 g5).vs, g1, g2, g7, g8, JLe.refl _, fun _ h => List.mem_cons_of_mem _ h, rfl, rfl, rfl, rfl, rfl, rfl, rfl, rfl, rfl, rfl⟩, rfl, List.mem_cons_self, k1, k2⟩
def FnD (P : Program) (f : Nat) (args : List Value) (H : zl) (R : Value → zl → Prop) : Prop :=
 ∀ (u : FrameMode) (w : World), HOK H w → CallsD P f args.toArray u w (fun e u' w' => u' = u ∧ ∃ v H', e = .returned v ∧ WOK false w (H.map (·.1)) H' w' ∧ R v H')
section
variable {P : Program} {n : Nat} {w0 : World} {D : List Nat} {H : zl} {E : Env} {v : Value} {fn : Func} {c : Code} {f : Nat} {args : List Value} {R : Value → zl → Prop}
theorem fnD_of (hf : P.funcs[f]? = some fn) (hb : fn.body = some c) (hn : fn.ntmps = n) (hl : Nat.ble args.length n = true)
  (h : ∀ w, EV P n [] false w (H.map (·.1)) c (bodyPost P fn (RP w (H.map (·.1)) R)) H (argE 0 args)) : FnD P f args H R := by
 intro u w hw
 refine callsD_of_wp hf hb ?_
 rw [hn]
 exact h w _ _ (argE_ok (Nat.le_of_ble_eq_true hl)) ⟨hw, Kept.refl _ _, fun x hx => .inl (List.mem_map.2 ⟨x, hx, rfl⟩), fun e => by cases e⟩
theorem fn_ofD (hf : P.funcs[f]? = some fn) (hb : fn.body = some c) (hn : fn.ntmps = n) (hl : Nat.ble args.length n = true)
  (h : ∀ w, EV P n [] false w (H.map (·.1)) c (bodyPostD P fn (RP w (H.map (·.1)) R)) H (argE 0 args)) : Fn P f args H R := by
 intro w hw
 refine calls_of_wp_defers hf hb ?_
 rw [hn]
 exact h w _ _ (argE_ok (Nat.le_of_ble_eq_true hl)) ⟨hw, Kept.refl _ _, fun x hx => .inl (List.mem_map.2 ⟨x, hx, rfl⟩), fun e => by cases e⟩
theorem endcDw {H' : zl} {t ty b i : Nat} {k : Blk} [qn P ty] (hr : fn.results = #[.cell t ty]) (ht : look t E = some (.pointer (some ⟨b, i, none⟩))) [hh : Has H b k] (h0 : Nat.ble k.lo i = true) (hi : Nat.blt i k.known = true) (hv : k.cell i = some v) (hw : Wk H H') (h : R v H') : LF n [] false w0 D (bodyPostD P fn (RP w0 D R)) .ret H E := by
 intro a w he hk
 have hc := (hk.hok.cell hh.mem (Nat.le_of_ble_eq_true h0) (Nat.le_of_ble_eq_true hi)).trans hv
 have h2 := he.env _ _ ht
 show Leaves P fn a.tmps _ a.defers .returning w
 rw [he.defers]
 refine ⟨v, ?_, v, H', rfl, hw _ _ _ _ hk, h⟩
 simp [results, hr, h2, asAddr, loadVar, qj, hc]
end
section
variable {P : Program} {n : Nat} {ds : List Deferred} {w0 : World} {D : List Nat} {H Hc Hf : zl} {E : Env} {fn : Func} {ops : Array Oper} {Q : Exit → Act → World → Prop} {K : Act → World → Prop} {rest : List Oper} {Rr : Ending → World → Prop} {R1 : Value → zl → Prop}
variable {d : Option Nat} {ty : TypeId} {ps : String} {af : Array Edge} {g : Option (Nat × Bool)} {x : Operand}
theorem q_makeFunc {pu : Bool} {k : Go.Fn} {l : List Operand} {cap : List Value} (h : opvs E l = some cap) : Q1 P n ds pu w0 D H E ⟨d, .makeFunc k #[] l.toArray, ty, ps, af, g⟩ (.func k #[] cap.toArray) :=
 fun a w he _ => (by simp [execOp, Instr.makeFunc, he.evals h])
theorem s_defer {f : Nat} {cap : List Value} (hg : gd ops E g = some true) (hx : opv E x = some (.func (.func f) #[] cap.toArray))
  (h : SQ P n ({ target := .fn (.func f) cap.toArray, args := #[] } :: ds) false w0 D ops Q K H E rest) : SQ P n ds false w0 D ops Q K H E (⟨none, .defer ⟨.value x, #[], #[]⟩, ty, ps, af, g⟩ :: rest) := by
 intro a w he hw
 simp only [wpK]
 rw [if_pos (ko (o := ⟨none, .defer ⟨.value x, #[], #[]⟩, ty, ps, af, g⟩) he hg)]
 refine .inl ?_
 unfold Oper.wp
 have : (execOp a.eval ⟨none, .defer ⟨.value x, #[], #[]⟩, ty, ps, af, g⟩).run P w = .ok (.defer { target := .fn (.func f) cap.toArray, args := #[] }) w := by
  simp [execOp, resolve, he.eval hx, Deferred.ofValue]
 rw [this, Oper.upon_defer]
 exact h _ _ ⟨he.size, by simp [Act.put, he.defers], he.env⟩ hw
theorem lf_defer {f : Nat} {cap : List Value} [hc : Callee P f] (hcl : FnD P f cap Hc R1) [hs : Sel H Hc Hf]
   (h : ∀ v H', R1 v H' → LF n [] false w0 D (bodyPostD P fn Rr) .ret (H' ++ Hf) E) :
   LF n [{ target := .fn (.func f) cap.toArray, args := #[] }] false w0 D (bodyPostD P fn Rr) .ret H E := by
 intro a w he hw
 show Leaves P fn a.tmps _ a.defers .returning w
 rw [he.defers]
 obtain ⟨fn', h1, h2, h3⟩ := hc.is
 refine leaves_cons (by simp) (f := f) (args := cap.toArray) ?_ ?_
 · have h2' : ¬ fn'.name = "runtime.NumGoroutine" := by simpa using h2
   have hb : ¬ fn'.body = none := by intro e; rw [e] at h3; cases h3
   simp [invoke, callFunc, h1, h2', hb]
 · refine ((hcl .returning w (hw.hok.perm hs.is).left).mono ?_)
   rintro e u' w' ⟨rfl, v, H', rfl, k1, k2⟩
   exact h v H' k2 { a with defers := [] } w' ⟨he.size, rfl, he.env⟩ (hw.call hs.is k1)
end
abbrev FnB (p tb pb mb : Nat) (m1 m2 m3 : Int) (r : zl) : zl := (tb, .cs 4 [.bool true] []) :: (pb, .cs 53 [pV p] []) :: (mb, .cs 57 [.int .i64 m1, .int .i64 m2, .int .i64 m3] []) :: r
theorem clo_ok (L : Lay) (T : List Nat) (X : SS) (tb pb mb : Nat) (m1 m2 m3 : Int) (he : Eof L) (hi : SI L T X) (h1 : 1 ≤ X.tl.length) (htl : ∀ t ∈ X.tl, t.typ ≠ 14) :
  FnD prog 147 [pV tb, pV pb, pV mb] (FnB L.p tb pb mb m1 m2 m3 (SH L T X))
   (fun v H' => v = .tuple #[] ∧ ∃ r nl q C cn J, H' = FnB L.p tb pb mb m1 m2 m3 (SH L T { X with r := r, nl := nl, q := q, C := C, cn := cn, J := J }) ∧ SI L T { X with r := r, nl := nl, q := q, C := C, cn := cn, J := J } ∧ sk T q = sk T X.q ∧ X.q ≤ q ∧ JLe X.J J) := by
 have hsml := hi.sml
 have htkc := hi.tkc
 have htlc := hi.tlc
 obtain ⟨tvB, hB⟩ : ∃ t, X.tl[X.tl.length - 1]? = some t := ⟨_, List.getElem?_eq_getElem omT⟩
 have hBt := htl tvB (List.mem_of_getElem? hB)
 refine fnD_of func147 rfl rfl rfl ?_
 intro w
 refine qF (H' := RH L T (zc X) (FnB L.p tb pb mb m1 m2 m3 (TKB T X :: SKB X :: MPB X :: (CH T X.J X.C ++ XH X.V X.J)))) (Wk.toT (CH T X.J X.C ++ XH X.V X.J) [L.p, L.bb, L.rb, L.ib, 0, tb, pb, mb, X.tkb, X.skb, X.mpb] wlT) (gg 30 ?_)
 refine dqz (zy rfl rfl rfl omT rfl) (dfa ?_)
 refine dqz (zz (T := T) (tl := X.tl) (i := X.tl.length - 1) (j := 0) rfl omT omT hB rfl) (gg 11 ?_)
 refine za rfl rfl rfl (slc_ok L T X m1 m2 m3 he hi) ?_
 rintro _ _ ⟨rfl, r, nl, q, C, cn, J, rfl, k1, k2, k3, k4⟩
 refine lS ?_
 refine gg 5 ?_
 exact end0nw rfl (Wk.toT (CH T J C ++ XH X.V J) [tb, pb, mb, L.p, L.bb, L.rb, L.ib, 0, X.tkb, X.skb, X.mpb] wlT) ⟨rfl, r, nl, q, C, cn, J, rfl, k1, k2, k3, k4⟩
def Rest (T : List Nat) (a : Nat) (r : List Nat) : Prop := a ≤ T.length ∧ T.drop a = r
theorem Rest.start (T : List Nat) : Rest T 0 T := ⟨Nat.zero_le _, rfl⟩
theorem Rest.len {T r : List Nat} {a : Nat} (h : Rest T a r) : T.length = a + r.length := by
 have := congrArg List.length h.2
 rw [List.length_drop] at this
 have := h.1
 omega
theorem Rest.app {T x r : List Nat} {a : Nat} (h : Rest T a (x ++ r)) : Rest T (a + x.length) r := by
 have hl := h.len
 rw [List.length_append] at hl
 refine ⟨by omega, ?_⟩
 rw [← List.drop_drop, h.2]
 simp
theorem Rest.get {T x r : List Nat} {a i : Nat} (h : Rest T a (x ++ r)) (hi : i < x.length) : at_ T (a + i) = x.getD i 0 := by
 unfold at_
 rw [List.getD_eq_getElem?_getD, List.getD_eq_getElem?_getD, ← List.getElem?_drop, h.2, List.getElem?_append_left hi]
theorem Rest.one {T r : List Nat} {a c : Nat} (h : Rest T a (c :: r)) : at_ T a = c ∧ a < T.length ∧ Rest T (a + 1) r := by
 have h' : Rest T a ([c] ++ r) := h
 refine ⟨by simpa using h'.get (i := 0) (by simp), ?_, by simpa using h'.app⟩
 have := h.len
 simp at this
 omega
theorem Rest.at {T r : List Nat} {a c : Nat} (h : Rest T a (c :: r)) : at_ T a = c := h.one.1
theorem Rest.nil {T : List Nat} {a : Nat} (h : Rest T a []) : T.length = a := by simpa using h.len
theorem Rest.cut {T x r : List Nat} {a : Nat} (h : Rest T a (x ++ r)) : kA T a (a + x.length) = x := by
 apply List.ext_getElem?
 intro i
 by_cases hi : i < x.length
 · have h1 := h.get hi
   rw [List.getD_eq_getElem?_getD, List.getElem?_eq_getElem hi] at h1
   simp only [kA, List.getElem?_map]
   rw [List.getElem?_eq_getElem hi, List.getElem?_range' omT]
   simp only [Option.map_some, Nat.one_mul]
   exact congrArg some h1
 · rw [List.getElem?_eq_none (by simp; omega), List.getElem?_eq_none omT]
theorem Rest.all {T x r : List Nat} {a : Nat} {p : Nat → Prop} (h : Rest T a (x ++ r)) (hp : ∀ c ∈ x, p c) : ∀ i, a ≤ i → i < a + x.length → p (at_ T i) := by
 intro i h1 h2
 have h3 := h.get (i := i - a) omT
 rw [show a + (i - a) = i by omega] at h3
 rw [h3, List.getD_eq_getElem?_getD, List.getElem?_eq_getElem omT]
 exact hp _ (List.getElem_mem _)
abbrev sps (k : Nat) : List Nat := List.replicate k 32
theorem sk_sps {T r : List Nat} : ∀ {k a : Nat}, Rest T a (sps k ++ r) → sk T a = sk T (a + k)
 | 0, a, _ => rfl
 | k + 1, a, h => by
  have h' : Rest T a (32 :: (sps k ++ r)) := h
  rw [sk_step h'.one.2.1 (.inl h'.at), sk_sps h'.one.2.2]
  congr 1
  omega
theorem sk_nl {T r : List Nat} {a : Nat} (h : Rest T a (10 :: r)) : sk T a = sk T (a + 1) := sk_step h.one.2.1 (.inr h.at)
def ComT (c : List Nat) : Prop := c = [] ∨ (∃ r, c = 35 :: r) ∧ c.length ≤ 20 ∧ ∀ b ∈ c, 32 ≤ b ∧ b ≤ 126
theorem ComT.asc {c : List Nat} (h : ComT c) : ∀ b ∈ c, 32 ≤ b ∧ b ≤ 126 := by
 rcases h with rfl | h
 · intro b hb; cases hb
 · exact h.2.2
theorem ComT.le {c : List Nat} (h : ComT c) : c.length ≤ 20 := by
 rcases h with rfl | h
 · simp
 · exact h.2.1
theorem eol_skip {T x r : List Nat} : ∀ {a : Nat}, Rest T a (x ++ 10 :: r) → (∀ b ∈ x, b ≠ 10) → eol T a = a + x.length := by
 induction x with
 | nil => intro a h _; exact eol_stop (fun hc => hc.2 h.at)
 | cons c x ih =>
  intro a h hx
  have h' : Rest T a (c :: (x ++ 10 :: r)) := h
  have hc : at_ T a ≠ 10 := by rw [h'.at]; exact hx c (by simp)
  rw [eol_go h'.one.2.1 hc, ih h'.one.2.2 (fun b hb => hx b (by simp [hb]))]
  simp
  omega
theorem sk_comT {T c r : List Nat} {a : Nat} (hc : ComT c) (h : Rest T a (c ++ 10 :: r)) : sk T a = sk T (a + c.length + 1) := by
 rcases hc with rfl | ⟨⟨d, rfl⟩, hl, hb⟩
 · exact sk_nl h
 · have h' : Rest T a (35 :: (d ++ 10 :: r)) := h
   rw [sk_com h'.one.2.1 h'.at, eol_skip h (fun b hb' => by have := hb b hb'; omega), sk_nl (r := r) h.app]
theorem col_nl {T r x : List Nat} {a : Nat} (h : Rest T a (x ++ 10 :: r)) : zH T (a + x.length + 1) = 0 := by
 have : Rest T (a + x.length) (10 :: r) := h.app
 rw [zH, if_pos this.at]
def EndT (x : List Nat) : Prop := ∃ k c, x = sps k ++ (c ++ [10]) ∧ ComT c ∧ (c ≠ [] → 1 ≤ k) ∧ k ≤ 10
def LineT (x : List Nat) : Prop := ∃ k c, x = sps k ++ (c ++ [10]) ∧ ComT c ∧ k ≤ 10
def LinesT (x : List Nat) : Prop := ∃ ls : List (List Nat), x = ls.flatten ∧ (∀ l ∈ ls, LineT l) ∧ ls.length ≤ 10
theorem EndT.line {x : List Nat} (h : EndT x) : LineT x := by
 obtain ⟨k, c, h1, h2, h3, h4⟩ := h
 exact ⟨k, c, h1, h2, h4⟩
theorem LineT.sk {T x r : List Nat} {a : Nat} (hx : LineT x) (h : Rest T a (x ++ r)) : Go.Proofs.YtnfbcfflkphbiaaGreatDoor.sk T a = Go.Proofs.YtnfbcfflkphbiaaGreatDoor.sk T (a + x.length) ∧ zH T (a + x.length) = 0 := by
 obtain ⟨k, c, rfl, hc, _⟩ := hx
 have h1 : Rest T a (sps k ++ (c ++ 10 :: r)) := by simpa using h
 have h2 : Rest T (a + k) (c ++ 10 :: r) := by simpa using h1.app
 have hl : a + (sps k ++ (c ++ [10])).length = a + k + c.length + 1 := by simp; omega
 rw [hl]
 exact ⟨(sk_sps h1).trans (sk_comT hc h2), col_nl h2⟩
theorem LinesT.sk {T x r : List Nat} {a : Nat} (hx : LinesT x) (h : Rest T a (x ++ r)) (h0 : zH T a = 0) : Go.Proofs.YtnfbcfflkphbiaaGreatDoor.sk T a = Go.Proofs.YtnfbcfflkphbiaaGreatDoor.sk T (a + x.length) ∧ zH T (a + x.length) = 0 := by
 obtain ⟨ls, rfl, hls, _⟩ := hx
 have go : ∀ (ls : List (List Nat)), (∀ l ∈ ls, LineT l) → ∀ {a : Nat}, Rest T a (ls.flatten ++ r) → zH T a = 0 → Go.Proofs.YtnfbcfflkphbiaaGreatDoor.sk T a = Go.Proofs.YtnfbcfflkphbiaaGreatDoor.sk T (a + ls.flatten.length) ∧ zH T (a + ls.flatten.length) = 0 := by
  intro ls
  induction ls with
  | nil => intro _ a _ h0; exact ⟨rfl, h0⟩
  | cons l ls ih =>
   intro hls a h h0
   have h1 : Rest T a (l ++ (ls.flatten ++ r)) := by simpa using h
   have h2 := (hls l (by simp)).sk h1
   have h3 := ih (fun l hl => hls l (by simp [hl])) h1.app h2.2
   have hl : a + (l :: ls).flatten.length = a + l.length + ls.flatten.length := by simp; omega
   rw [hl]
   exact ⟨h2.1.trans h3.1, h3.2⟩
 exact go ls hls h h0
theorem LineT.le {x : List Nat} (h : LineT x) : x.length ≤ 31 ∧ (∀ c ∈ x, c = 10 ∨ (32 ≤ c ∧ c ≤ 126)) := by
 obtain ⟨k, c, rfl, hc, hk⟩ := h
 have := hc.le
 refine ⟨by simp; omega, fun b hb => ?_⟩
 simp only [List.mem_append, List.mem_replicate, List.mem_singleton] at hb
 rcases hb with ⟨_, rfl⟩ | hb | rfl
 · omega
 · exact .inr (hc.asc b hb)
 · exact .inl rfl
theorem LinesT.le {x : List Nat} (h : LinesT x) : x.length ≤ 310 ∧ (∀ c ∈ x, c = 10 ∨ (32 ≤ c ∧ c ≤ 126)) := by
 obtain ⟨ls, rfl, hls, hn⟩ := h
 refine ⟨?_, fun b hb => ?_⟩
 · have : ∀ ls : List (List Nat), (∀ l ∈ ls, LineT l) → ls.flatten.length ≤ ls.length * 31 := by
    intro ls
    induction ls with
    | nil => intro _; simp
    | cons l ls ih =>
     intro h
     have h1 := ih (fun l hl => h l (by simp [hl]))
     have h2 := (h l (by simp)).le.1
     simp only [List.flatten_cons, List.length_append, List.length_cons]
     omega
   have := this ls hls
   omega
 · obtain ⟨l, hl, hb⟩ := List.mem_flatten.1 hb
   exact (hls l hl).le.2 b hb
theorem LinesT.nil : LinesT [] := ⟨[], rfl, by simp, by simp⟩
theorem ky {c : Nat} (h : zC c = true) : 32 < c ∧ c ≤ 122 ∧ c ≠ 34 ∧ c ≠ 92 := by
 simp [zC] at h
 omega
def hexV (T : List Nat) (a : Nat) : Nat → Nat
 | 0 => 0
 | n + 1 => hexV T a n * 16 + hexD (at_ T (a + n))
inductive DQT (T : List Nat) : Nat → List Nat → Nat → Prop
 | nil {q : Nat} (h : at_ T q = 34) : DQT T q [] q
 | raw {q e : Nat} {v : List Nat} (h : zC (at_ T q) = true) (k : DQT T (q + 1) v e) : DQT T q (at_ T q :: v) e
 | esc {q e n c : Nat} {v : List Nat} (h0 : at_ T q = 92) (hn : (at_ T (q + 1) = 120 ∧ n = 2) ∨ (at_ T (q + 1) = 117 ∧ n = 4) ∨ (at_ T (q + 1) = 85 ∧ n = 8)) (hx : ∀ i, i < n → hexB (at_ T (q + 2 + i)) = true) (hv : hexV T (q + 2) n = c) (hc : zC c = true) (k : DQT T (q + 2 + n) v e) : DQT T q (c :: v) e
 | brk {q q' e : Nat} {v : List Nat} (h0 : at_ T q = 92) (h1 : at_ T (q + 1) = 10) (hq : q + 2 < q') (hs : ∀ i, q + 2 ≤ i → i < q' → at_ T i = 32) (hn : at_ T q' ≠ 32 ∧ at_ T q' ≠ 10) (k : DQT T q' v e) : DQT T q v e
theorem DQT.le {T v : List Nat} {q e : Nat} (h : DQT T q v e) : q + v.length ≤ e := by
 induction h with
 | nil => simp
 | raw _ _ ih => simp; omega
 | esc _ hn _ _ _ _ ih => simp; omega
 | brk _ _ _ _ _ _ ih => omega
theorem DQT.end {T v : List Nat} {q e : Nat} (h : DQT T q v e) : at_ T e = 34 := by
 induction h with
 | nil h => exact h
 | raw _ _ ih => exact ih
 | esc _ _ _ _ _ _ ih => exact ih
 | brk _ _ _ _ _ _ ih => exact ih
theorem DQT.first {T v : List Nat} {q e : Nat} (h : DQT T q v e) : at_ T q = 34 ∨ at_ T q = 92 ∨ zC (at_ T q) = true := by
 cases h with
 | nil h => exact .inl h
 | raw h _ => exact .inr (.inr h)
 | esc h _ _ _ _ _ => exact .inr (.inl h)
 | brk h _ _ _ _ _ => exact .inr (.inl h)
end Go.Proofs.YtnfbcfflkphbiaaGreatDoor
