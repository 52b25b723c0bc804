/-
  Texts of the proof, joined: F32. No Go text.
-/
import Derived.Test.YtnfbcfflkphbiaaGreatDoorA01
import Derived.Test.YtnfbcfflkphbiaaGreatDoorA08
import Derived.Test.YtnfbcfflkphbiaaGreatDoorA26
import Derived.Test.YtnfbcfflkphbiaaGreatDoorA22
namespace Go.Proofs.YtnfbcfflkphbiaaGreatDoor
open Go Go.Proofs Tryz
set_option linter.all false
set_option maxRecDepth 100000
set_option maxHeartbeats 8000000
class Arr (P : Program) (t : Nat) (len sz : outParam Nat) : Prop where
 is : ∃ e i, P.underlying t = some (.array len e) ∧ P.info? e = some i ∧ i.size = sz
instance : Arr prog 105 3 1 := ⟨_, Tryz.t3, underlying105, by kernel_rfl, by kernel_rfl⟩
instance : Arr prog 110 2 1 := ⟨_, Tryz.t4, underlying110, by kernel_rfl, by kernel_rfl⟩
instance : Arr prog 111 7 1 := ⟨_, Tryz.t23, underlying111, by kernel_rfl, by kernel_rfl⟩
section
variable {P : Program} {n : Nat} {ds : List Deferred} {pu : Bool} {w0 : World} {D : List Nat} {H : zl} {E : Env}
variable {d : Option Nat} {ty : TypeId} {ps : String} {af : Array Edge} {g : Option (Nat × Bool)} {x y : Operand}
theorem q_ixa {t len sz b o i r : Nat} {k : IntKind} [hs : Arr P t len sz] (hx : opv E x = some (.pointer (some ⟨b, o, none⟩))) (hy : opv E y = some (.int k (i : Int))) (h : i < len) (hr : o + i * sz = r) :
  Q1 P n ds pu w0 D H E ⟨d, .indexAddr t x y, ty, ps, af, g⟩ (.pointer (some ⟨b, r, none⟩)) := by
 subst hr
 intro a w he _
 obtain ⟨e, ii, hu, h2, h3⟩ := hs.is
 simp [execOp, he.eval hx, he.eval hy, Instr.indexAt, asIntOf, Instr.sureAddr, zv hu, h, zX h2, h3, kN]
end
theorem zzm_ok (a b c : Int) : Fn prog 59 [.agg #[.int .i64 a, .int .i64 b, .int .i64 c]] [] (fun v H' => v = .agg #[.int .i64 a, .int .i64 b, .int .i64 c] ∧ H' = []) := by
 refine zo func59 rfl rfl rfl ?_
 intro w
 refine zd (zi (ku rfl rfl rfl clT ?_))
 intro b1
 refine zk rfl rfl clT ?_
 intro b2
 refine gg 10 ?_
 refine sqz (zu (l := [_, _, _]) (zs := [zI, zI, zI]) [0, 1, 2] rfl rfl kR) ?_
 first | refine stw rfl rfl ?_ | refine sts rfl rfl ?_
 refine gg 3 ?_
 exact endr1 rfl (rc_s rfl rfl rfl rfl) (Wk.to [] (by exact trivial)) ⟨rfl, rfl⟩
theorem mark_ok (a b c : Int) : Fn prog 36 [.agg #[.int .i64 a, .int .i64 b, .int .i64 c]] [] (fun v H' => v = .agg #[.int .i64 a, .int .i64 b, .int .i64 c] ∧ H' = []) := by
 refine zo func36 rfl rfl rfl ?_
 intro w
 refine zd (zi (ku rfl rfl rfl clT ?_))
 intro b1
 refine zk rfl rfl clT ?_
 intro b2
 refine gg 4 ?_
 refine sqz (q_ixa (i := 0) rfl rfl (by decide) rfl) ?_
 refine sld rfl ?_
 refine sqz (q_ixa (i := 1) rfl rfl (by decide) rfl) ?_
 refine sld rfl ?_
 refine sqz (q_ixa (i := 2) rfl rfl (by decide) rfl) ?_
 refine sld rfl ?_
 refine sqz (zu (l := [_, _, _]) (zs := [zI, zI, zI]) [0, 1, 2] rfl rfl kR) ?_
 first | refine stw rfl rfl ?_ | refine sts rfl rfl ?_
 refine gg 3 ?_
 exact endr1 rfl (rc_s rfl rfl rfl rfl) (Wk.to [] (by exact trivial)) ⟨rfl, rfl⟩
theorem zep_ok (T : List Nat) (eb : Nat) (ev : EVt) (h1 : 0 ≤ ev.ty ∧ ev.ty ≤ 100) (h2 : 0 ≤ ev.sty ∧ ev.sty ≤ 100) :
  Fn prog 37 [pV eb] [EVB T eb ev]
   (fun v H' => v = .tuple #[.agg #[.int .i64 ev.ty, .int .i64 ev.sty, .int .i64 ev.enc], .agg #[.bool ev.im, .bool ev.qu], .agg #[.int .i64 ev.a, .int .i64 (lnT T ev.a), .int .i64 (zH T ev.a)], .agg #[.int .i64 ev.e, .int .i64 (lnT T ev.e), .int .i64 (zH T ev.e)], .agg #[zS, zS, ev.va.v, ev.hd.v, ev.ln.v, ev.ft.v, zS]] ∧ H' = [EVB T eb ev]) := by
 refine zo func37 rfl rfl rfl ?_
 intro w
 refine zd (zi (zk rfl rfl clT ?_))
 intro b1
 refine zk rfl rfl clT ?_
 intro b2
 refine zk rfl rfl clT ?_
 intro b3
 refine zk rfl rfl clT ?_
 intro b4
 refine zk rfl rfl clT ?_
 intro b5
 refine gg 3 ?_
 refine ke (fun i => i == 28 || i == 33 || i == 63 || i == 64 || i == 65 || i == 66 || i == 67) (fun i => i == 67) ([EVB T eb ev]) zF ?_
 refine mqh 0 rfl kR rfl rfl (fun _ => zj rfl) ?_
 refine mqh 1 rfl kR rfl rfl (fun _ => zJ rfl) ?_
 refine mqh 2 rfl kR rfl rfl (fun _ => zM rfl) ?_
 refine mqh 3 rfl kR rfl rfl (fun _ => zp rfl rfl rfl rfl) ?_
 refine mqh 4 rfl kR rfl rfl (fun _ => qP ⟨_, underlying82⟩ underlying3 rfl omT omT) ?_
 refine mqh 5 rfl kR rfl rfl (fun _ => zj rfl) ?_
 refine mqh 6 rfl kR rfl rfl (fun _ => zJ rfl) ?_
 refine mqh 7 rfl kR rfl rfl (fun _ => zM rfl) ?_
 refine mqh 8 rfl kR rfl rfl (fun _ => zp rfl rfl rfl rfl) ?_
 refine mqh 9 rfl kR rfl rfl (fun _ => qP ⟨_, underlying84⟩ underlying3 rfl omT omT) ?_
 refine mqh 10 rfl kR rfl rfl (fun _ => zj rfl) ?_
 refine mqh 11 rfl kR rfl rfl (fun _ => zJ rfl) ?_
 refine mqh 12 rfl kR rfl rfl (fun _ => zM rfl) ?_
 refine mqh 13 rfl kR rfl rfl (fun _ => zp rfl rfl rfl rfl) ?_
 refine mqh 14 rfl kR rfl rfl (fun _ => zu (l := [_, _, _]) (zs := [zI, zI, zI]) [0, 1, 2] rfl rfl kR) ?_
 refine mqh 15 rfl kR rfl rfl (fun _ => zj rfl) ?_
 refine mqh 16 rfl kR rfl rfl (fun _ => zJ rfl) ?_
 refine mqh 17 rfl kR rfl rfl (fun _ => zM rfl) ?_
 refine mqh 18 rfl kR rfl rfl (fun _ => zp rfl rfl rfl rfl) ?_
 refine mqh 19 rfl kR rfl rfl (fun _ => zj rfl) ?_
 refine mqh 20 rfl kR rfl rfl (fun _ => zJ rfl) ?_
 refine mqh 21 rfl kR rfl rfl (fun _ => zM rfl) ?_
 refine mqh 22 rfl kR rfl rfl (fun _ => zp rfl rfl rfl rfl) ?_
 refine mqh 23 rfl kR rfl rfl (fun _ => zu (l := [_, _]) (zs := [.bool false, .bool false]) [0, 1] rfl rfl kR) ?_
 refine mq 24 rfl kR rfl rfl (zj rfl) ?_
 refine mq 25 rfl kR rfl rfl (zJ rfl) ?_
 refine mq 26 rfl kR rfl rfl (zM rfl) ?_
 refine mq 27 rfl kR rfl rfl (zG rfl rfl rfl rfl) ?_
 refine mqh 29 rfl kR rfl rfl (fun _ => zj rfl) ?_
 refine mqh 30 rfl kR rfl rfl (fun _ => zJ rfl) ?_
 refine mqh 31 rfl kR rfl rfl (fun _ => zM rfl) ?_
 refine mqh 32 rfl kR rfl rfl (fun _ => zG rfl rfl rfl rfl) ?_
 refine mqh 34 rfl kR rfl rfl (fun _ => zj rfl) ?_
 refine mqh 35 rfl kR rfl rfl (fun _ => zJ rfl) ?_
 refine mqh 36 rfl kR rfl rfl (fun _ => zM rfl) ?_
 refine mqh 37 rfl kR rfl rfl (fun _ => zp rfl rfl rfl rfl) ?_
 refine mqh 38 rfl kR rfl rfl (fun _ => zj rfl) ?_
 refine mqh 39 rfl kR rfl rfl (fun _ => zJ rfl) ?_
 refine mqh 40 rfl kR rfl rfl (fun _ => zM rfl) ?_
 refine mqh 41 rfl kR rfl rfl (fun _ => zp rfl rfl rfl rfl) ?_
 refine mqh 42 rfl kR rfl rfl (fun _ => zj rfl) ?_
 refine mqh 43 rfl kR rfl rfl (fun _ => zJ rfl) ?_
 refine mqh 44 rfl kR rfl rfl (fun _ => zM rfl) ?_
 refine mqh 45 rfl kR rfl rfl (fun _ => zp rfl rfl rfl rfl) ?_
 refine mqh 46 rfl kR rfl rfl (fun _ => zj rfl) ?_
 refine mqh 47 rfl kR rfl rfl (fun _ => zJ rfl) ?_
 refine mqh 48 rfl kR rfl rfl (fun _ => zM rfl) ?_
 refine mqh 49 rfl kR rfl rfl (fun _ => zp rfl rfl rfl rfl) ?_
 refine mqh 50 rfl kR rfl rfl (fun _ => zj rfl) ?_
 refine mqh 51 rfl kR rfl rfl (fun _ => zJ rfl) ?_
 refine mqh 52 rfl kR rfl rfl (fun _ => zM rfl) ?_
 refine mqh 53 rfl kR rfl rfl (fun _ => zp rfl rfl rfl rfl) ?_
 refine mqh 54 rfl kR rfl rfl (fun _ => zj rfl) ?_
 refine mqh 55 rfl kR rfl rfl (fun _ => zJ rfl) ?_
 refine mqh 56 rfl kR rfl rfl (fun _ => zM rfl) ?_
 refine mqh 57 rfl kR rfl rfl (fun _ => zp rfl rfl rfl rfl) ?_
 refine mqh 58 rfl kR rfl rfl (fun _ => zj rfl) ?_
 refine mqh 59 rfl kR rfl rfl (fun _ => zJ rfl) ?_
 refine mqh 60 rfl kR rfl rfl (fun _ => zM rfl) ?_
 refine mqh 61 rfl kR rfl rfl (fun _ => zp rfl rfl rfl rfl) ?_
 refine mqh 62 rfl kR rfl rfl (fun _ => zu (l := [_, _, _, _, _, _, _]) (zs := [zS, zS, zS, zS, zS, zS, zS]) [0, 1, 2, 3, 4, 5, 6] rfl rfl kR) ?_
 refine mql 28 rfl kR (fun hcl => ?_)
 refine za rfl rfl rfl (zzm_ok _ _ _) ?_
 rintro _ _ ⟨rfl, rfl⟩
 refine lS ?_
 refine mqn 28 hcl ?_
 refine mql 33 rfl kR (fun hcl => ?_)
 refine za rfl rfl rfl (zzm_ok _ _ _) ?_
 rintro _ _ ⟨rfl, rfl⟩
 refine lS ?_
 refine mqn 33 hcl ?_
 refine mql 63 rfl kR (fun hcl => ?_)
 first | refine stw rfl rfl ?_ | refine sts rfl rfl ?_
 refine mqn 63 hcl ?_
 refine mql 64 rfl kR (fun hcl => ?_)
 first | refine stw rfl rfl ?_ | refine sts rfl rfl ?_
 refine mqn 64 hcl ?_
 refine mql 65 rfl kR (fun hcl => ?_)
 first | refine stw rfl rfl ?_ | refine sts rfl rfl ?_
 refine mqn 65 hcl ?_
 refine mql 66 rfl kR (fun hcl => ?_)
 first | refine stw rfl rfl ?_ | refine sts rfl rfl ?_
 refine mqn 66 hcl ?_
 refine mql 67 rfl kR (fun hcl => ?_)
 first | refine stw rfl rfl ?_ | refine sts rfl rfl ?_
 refine zO 67 rfl kR (zf (km ?_))
 exact endr5 rfl (rc_s rfl rfl rfl rfl) (rc_s rfl rfl rfl rfl) (rc_s rfl rfl rfl rfl) (rc_s rfl rfl rfl rfl) (rc_s rfl rfl rfl rfl) (Wk.to [eb] wlT) ⟨rfl, rfl⟩
theorem zev_ok (T : List Nat) (eb : Nat) (ev : EVt) : Fn prog 39 [pV eb] [EVB T eb ev] (fun v H' => v = .bool ev.vd.isSome ∧ H' = [EVB T eb ev]) := by
 rcases hvd : ev.vd with _ | b
 · obtain ⟨ev, rfl⟩ : ∃ z : EVt, ev = { z with vd := none } := ⟨ev, by rw [← hvd]⟩
   refine zo func39 rfl rfl rfl ?_
   intro w
   refine gg 11 ?_
   refine sqz (wi underlying83 rfl rfl) (gg 4 ?_)
   exact zm rfl rfl (Wk.to [eb] wlT) ⟨rfl, rfl⟩
 · obtain ⟨ev, rfl⟩ : ∃ z : EVt, ev = { z with vd := some b } := ⟨ev, by rw [← hvd]⟩
   refine zo func39 rfl rfl rfl ?_
   intro w
   refine gg 11 ?_
   refine sqz (wi underlying83 rfl rfl) (gg 4 ?_)
   exact zm rfl rfl (Wk.to [eb] wlT) ⟨rfl, rfl⟩
theorem zvn_ok (T : List Nat) (eb b : Nat) (ev : EVt) (h : ev.vd = some b) : Fn prog 40 [pV eb] [EVB T eb ev, VB b] (fun v H' => v = .tuple #[.int .i64 1, .int .i64 1] ∧ H' = [EVB T eb ev, VB b]) := by
 obtain ⟨ev, rfl⟩ : ∃ z : EVt, ev = { z with vd := some b } := ⟨ev, by rw [← h]⟩
 refine zo func40 rfl rfl rfl ?_
 intro w
 refine gg 15 ?_
 refine dqz (qP ⟨_, underlying81⟩ underlying3 rfl omT omT) (gg 7 ?_)
 refine dqz (qP ⟨_, underlying81⟩ underlying3 rfl omT omT) (gg 5 ?_)
 exact end2w rfl rfl rfl (Wk.to [eb, b] wlT) ⟨rfl, rfl⟩
theorem zed_ok (T : List Nat) (eb : Nat) (ev : EVt) : Fn prog 41 [pV eb] [EVB T eb ev] (fun v H' => v = .int .i64 ev.td.n ∧ H' = [EVB T eb ev]) := by
 refine zo func41 rfl rfl rfl ?_
 intro w
 refine gg 16 ?_
 exact zm rfl rfl (Wk.to [eb] wlT) ⟨rfl, rfl⟩
theorem zd_ok (T : List Nat) (eb : Nat) (ev : EVt) (b c i : Nat) (es : List (Sl × Sl)) (e : Sl × Sl) (h : ev.td = ⟨some ⟨b, 0, none⟩, es.length, c⟩) (hi : es[i]? = some e) :
  Fn prog 42 [pV eb, .int .i64 (i : Int)] [EVB T eb ev, (b, .buf 134 (c * 2) (tdC es))]
   (fun v H' => v = .tuple #[e.1.v, e.2.v] ∧ H' = [EVB T eb ev, (b, .buf 134 (c * 2) (tdC es))]) := by
 obtain ⟨ev, rfl⟩ : ∃ z : EVt, ev = { z with td := ⟨some ⟨b, 0, none⟩, es.length, c⟩ } := ⟨ev, by rw [← h]⟩
 have hlt : i < es.length := (List.getElem?_eq_some_iff.1 hi).1
 have hg := tdC_get hi
 refine zo func42 rfl rfl rfl ?_
 intro w
 refine gg 13 ?_
 refine dqz (zy rfl rfl rfl omT rfl) (dfa ?_)
 refine dqz (q_ldbf (i := i * 2) rfl omT hg.1) (gg 5 ?_)
 refine dqz (zy rfl rfl rfl omT rfl) (dfa ?_)
 refine dqz (q_ldbf (i := i * 2 + 1) rfl omT hg.2) (gg 5 ?_)
 exact end2w rfl rfl rfl (Wk.to [eb, b] wlT) ⟨rfl, rfl⟩
theorem sty_ok (s : Int) (h : s = 2 ∨ s = 8) : Fn prog 38 [.int .i64 s] [] (fun v H' => v = .int .i64 (if s = 2 then 1 else 3) ∧ H' = []) := by
 rcases h with rfl | rfl
 · refine zo func38 rfl rfl rfl ?_
   intro w
   refine gg 27 ?_
   exact zm rfl rfl (Wk.to [] (by exact trivial)) ⟨rfl, rfl⟩
 · refine zo func38 rfl rfl rfl ?_
   intro w
   refine gg 41 ?_
   exact zm rfl rfl (Wk.to [] (by exact trivial)) ⟨rfl, rfl⟩
end Go.Proofs.YtnfbcfflkphbiaaGreatDoor
