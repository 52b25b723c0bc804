/-
  Texts of the proof, joined: F0 F1. No Go text.
-/
import Derived.Test.YtnfbcfflkphbiaaGreatDoorA01
import Derived.Test.YtnfbcfflkphbiaaGreatDoorA08
import Derived.Test.YtnfbcfflkphbiaaGreatDoorA09
import Derived.Test.YtnfbcfflkphbiaaGreatDoorA06
namespace Go.Proofs.YtnfbcfflkphbiaaGreatDoor
open Go Go.Proofs Tryz
set_option linter.all false
set_option maxRecDepth 100000
set_option maxHeartbeats 8000000
abbrev VL := List (Nat × Blk)
abbrev VE (b c : Nat) (X : List Nat) : Nat × Blk := (b, .buf 5 c (bytes X))
def VH (V : VL) : zl := V
def XH (V : VL) (J : JL) : zl := VH V ++ JH 5 J
instance {V : VL} {J : JL} : JT (XH V J) 5 J (fun J' => XH V J') := ⟨VH V, [], by simp [XH], fun J' => by simp [XH]⟩
class VT (H : zl) (V : outParam VL) : Prop where
 is : ∀ x ∈ VH V, x ∈ H
instance {V : VL} {J : JL} : VT (XH V J) V := ⟨fun _ h => List.mem_append_left _ h⟩
instance {x : Nat × Blk} {r : zl} {V : VL} [h : VT r V] : VT (x :: r) V := ⟨fun y hy => List.mem_cons_of_mem _ (h.is y hy)⟩
theorem vt_has {H : zl} {V : VL} [h : VT H V] {b c : Nat} {X : List Nat} (hm : VE b c X ∈ V) : Has H b (.buf 5 c (bytes X)) := ⟨h.is _ hm⟩
class qX (H tl : zl) (Hr : outParam zl) : Prop where
 is : H.Perm (tl ++ Hr)
instance {tl : zl} : qX tl tl [] := ⟨by simp⟩
instance {tl r : zl} : qX (tl ++ r) tl r := ⟨List.Perm.refl _⟩
instance {x : Nat × Blk} {r r' tl : zl} [h : qX r tl r'] : qX (x :: r) tl (x :: r') := ⟨(h.is.cons x).trans List.perm_middle.symm⟩
instance {H Hf : zl} {V : VL} {J : JL} [h : qX H (XH V J) Hf] : Sel H (XH V J) Hf := ⟨h.is⟩
instance {H Hf A : zl} {V : VL} {J : JL} [h : qX H (A ++ XH V J) Hf] : Sel H (A ++ XH V J) Hf := ⟨h.is⟩
theorem Wk.toT {H Hc H1 Hr H' : zl} (tl : zl) (bs : List Nat) [h : SelBR H bs Hc H1] [hj : qX H1 tl Hr] (hw : WlT tl Hc H') : Wk H H' := by
 intro pu w0 D w hk
 have hp : H.Perm ((Hc ++ tl) ++ Hr) := (h.is.trans (hj.is.append_left _)).trans (by rw [List.append_assoc])
 have h1 : WOK pu w0 D (Hc ++ tl) w := hk.mono (fun x hx => hp.mem_iff.2 (List.mem_append_left _ hx)) (hk.hok.perm hp).left.nodup
 exact WlT.wok (l := []) hw h1
def tokC (T : List Nat) (ty : Int) (a e : Nat) (enc : Int) (val pre : Value) (style maj min : Int) : List Value :=
 [.int .i64 ty, .int .i64 a, .int .i64 (lnT T a), .int .i64 (zH T a), .int .i64 e, .int .i64 (lnT T e), .int .i64 (zH T e), .int .i64 enc, val, zS, pre, .int .i8 style, .int .i8 maj, .int .i8 min]
def qx : List Value := [zI, zI, zI, zI, zI, zI, zI, zI, zS, zS, zS, .int .i8 0, .int .i8 0, .int .i8 0]
structure TV where
 typ : Int
 a : Nat
 e : Nat
 enc : Int
 val : Sl
 pre : Sl
 sty : Int
 maj : Int
 min : Int
def tvC (T : List Nat) (t : TV) : List Value := tokC T t.typ t.a t.e t.enc t.val.v t.pre.v t.sty t.maj t.min
def tlC (T : List Nat) (tl : List TV) : List Value := tl.flatMap (tvC T)
theorem wh (T : List Nat) (t : TV) : (tvC T t).length = 14 := rfl
theorem qV (T : List Nat) : ∀ tl : List TV, (tlC T tl).length = tl.length * 14
 | [] => rfl
 | t :: r => by
  have := qV T r
  simp only [tlC, List.flatMap_cons, List.length_append, wh, List.length_cons] at *
  omega
theorem tlC_get {T : List Nat} : ∀ {tl : List TV} {i : Nat} {t : TV} {j : Nat}, tl[i]? = some t → j < 14 → (tlC T tl)[i * 14 + j]? = (tvC T t)[j]?
 | [], i, t, j, h, _ => by simp at h
 | u :: r, 0, t, j, h, hj => by
  simp at h
  subst h
  simp only [tlC, List.flatMap_cons, Nat.zero_mul, Nat.zero_add]
  rw [List.getElem?_append_left (by simpa [wh] using hj)]
 | u :: r, i + 1, t, j, h, hj => by
  have ih := tlC_get (T := T) (tl := r) (i := i) (j := j) (by simpa using h) hj
  simp only [tlC, List.flatMap_cons]
  rw [List.getElem?_append_right (by simp only [wh]; omega), wh]
  rw [show (i + 1) * 14 + j - 14 = i * 14 + j by omega]
  exact ih
theorem tvC_one (T : List Nat) (t : TV) : ∀ u ∈ tvC T t, u.oneCell' = true := by
 intro u hu
 simp only [tvC, tokC, List.mem_cons, List.not_mem_nil, or_false] at hu
 rcases hu with rfl | rfl | rfl | rfl | rfl | rfl | rfl | rfl | rfl | rfl | rfl | rfl | rfl | rfl <;> rfl
section
variable {P : Program} {n : Nat} {ds : List Deferred} {pu : Bool} {w0 : World} {D : List Nat} {H H' : zl} {E : Env} {ops : Array Oper} {Q : Exit → Act → World → Prop} {Q' K : Act → World → Prop} {rest : List Oper}
variable {d : Option Nat} {ty : TypeId} {ps : String} {af : Array Edge} {g : Option (Nat × Bool)} {x y : Operand}
theorem q_ldtok {t b a i m : Nat} {e : TypeId} {T : List Nat} {tl : List TV} {tv : TV} [ht : qR P t 14] (h : opv E x = some (.pointer (some ⟨b, a, none⟩))) [hh : Has H b (.buf e m (tlC T tl))] (ha : a = i * 14) (hi : tl[i]? = some tv) :
  Q1 P n ds pu w0 D H E ⟨d, .load t x, ty, ps, af, g⟩ (.agg (tvC T tv).toArray) := by
 subst ha
 intro a w he hw
 obtain ⟨dd, ii, _, _, h5, h6⟩ := ht.is
 have hlt : i < tl.length := (List.getElem?_eq_some_iff.1 hi).1
 have hln := qV T tl
 have := we (P := P) (m := 14) (i := i * 14) (l := tvC T tv) hw.hok hh.mem (Nat.zero_le _) (by simp only [Blk.known]; omega) rfl (fun j hj => by simp only [Blk.cell, nth]; exact tlC_get hi hj)
 simp [execOp, he.eval h, Instr.loadAt, Instr.sureAddr, loadVar, kO, zX h5, h6, this]
theorem zz {t b a i j m : Nat} {e : TypeId} {T : List Nat} {tl : List TV} {tv : TV} {v : Value} [qn P t] (h : opv E x = some (.pointer (some ⟨b, a, none⟩))) [hh : Has H b (.buf e m (tlC T tl))] (ha : a = i * 14 + j) (hj : j < 14) (hi : tl[i]? = some tv) (hv : (tvC T tv)[j]? = some v) :
  Q1 P n ds pu w0 D H E ⟨d, .load t x, ty, ps, af, g⟩ v := by
 subst ha
 intro a w he hw
 have hlt : i < tl.length := (List.getElem?_eq_some_iff.1 hi).1
 have hln := qV T tl
 have hc := hw.hok.cell hh.mem (i := i * 14 + j) (Nat.zero_le _) (by simp only [Blk.known]; omega)
 simp only [Blk.cell, nth] at hc
 rw [tlC_get hi hj, hv] at hc
 simp [execOp, he.eval h, Instr.loadAt, Instr.sureAddr, loadVar, qj, hc]
theorem kU {t b a i j m : Nat} {e : TypeId} {T : List Nat} {tl : List TV} {tv : TV} {v1 v2 v3 : Value} [ht : qR P t 3] (h : opv E x = some (.pointer (some ⟨b, a, none⟩))) [hh : Has H b (.buf e m (tlC T tl))] (ha : a = i * 14 + j) (hj : j + 2 < 14) (hi : tl[i]? = some tv) (h1 : (tvC T tv)[j]? = some v1) (h2 : (tvC T tv)[j + 1]? = some v2) (h3 : (tvC T tv)[j + 2]? = some v3) :
  Q1 P n ds pu w0 D H E ⟨d, .load t x, ty, ps, af, g⟩ (.agg #[v1, v2, v3]) := by
 subst ha
 intro a w he hw
 obtain ⟨dd, ii, _, _, h5, h6⟩ := ht.is
 have hlt : i < tl.length := (List.getElem?_eq_some_iff.1 hi).1
 have hln := qV T tl
 have := we (P := P) (m := 3) (i := i * 14 + j) (l := [v1, v2, v3]) hw.hok hh.mem (Nat.zero_le _) (by simp only [Blk.known]; omega) rfl (fun k hk => by
  simp only [Blk.cell, nth]
  rw [show i * 14 + j + k = i * 14 + (j + k) by omega, tlC_get hi omT]
  rcases (show k = 0 ∨ k = 1 ∨ k = 2 by omega) with rfl | rfl | rfl
  · simpa using h1
  · simpa using h2
  · simpa using h3)
 simp [execOp, he.eval h, Instr.loadAt, Instr.sureAddr, loadVar, kO, zX h5, h6, this]
end
def CP (T : List Nat) (J : JL) (k : Nat) (v : Value) : Prop := (k % 15 < 12 → ∃ z, v = .int .i64 z) ∧ (12 ≤ k % 15 → ∃ s : Sl, v = s.v ∧ JSl J s ∧ s.n ≤ T.length)
theorem CP.mono {T : List Nat} {J J' : JL} (h : JLe J J') {k : Nat} {v : Value} (hp : CP T J k v) : CP T J' k v := ⟨hp.1, fun hk => by
 obtain ⟨s, h1, h2, h3⟩ := hp.2 hk
 exact ⟨s, h1, h2.mono h, h3⟩⟩
def CH (T : List Nat) (J : JL) : Option (Nat × Nat) → zl
 | none => []
 | some (b, c) => [(b, .obj (anyO 204 (c * 15) (CP T J)))]
def comS : Option (Nat × Nat) → Nat → Sl
 | none, _ => Sl.nil
 | some (b, c), n => ⟨some ⟨b, 0, none⟩, n, c⟩
theorem CH.mono {T : List Nat} {J J' : JL} {C : Option (Nat × Nat)} (h : JLe J J') {pu : Bool} {w0 w : World} {D : List Nat} {l r : zl} (hw : WOK pu w0 D (l ++ (CH T J C ++ r)) w) : WOK pu w0 D (l ++ (CH T J' C ++ r)) w := by
 rcases C with _ | ⟨b, c⟩
 · exact hw
 · exact WOK.like hw (like_any fun k v hp => hp.mono h)
theorem Wk.text {A : zl} {T : List Nat} {b cap : Nat} {X : List Nat} {C : Option (Nat × Nat)} {V : VL} {J : JL} (hX : ∀ c ∈ X, c < 256) :
  Wk (A ++ ((b, .buf 5 cap (bytes X)) :: (CH T J C ++ XH V J))) (A ++ (CH T ((b, cap, X.length) :: J) C ++ XH V ((b, cap, X.length) :: J))) := by
 intro pu w0 D w hk
 have h1 := WOK.like hk (like_jk hX)
 have hp : (A ++ ((b, Blk.obj (jkO 5 cap X.length)) :: (CH T J C ++ XH V J))).Perm (A ++ (CH T J C ++ XH V ((b, cap, X.length) :: J))) := by
  refine List.Perm.append_left _ ?_
  rw [XH, XH, jh_cons, ← List.append_assoc, ← List.append_assoc]
  exact List.perm_middle.symm
 have h2 : WOK pu w0 D (A ++ (CH T J C ++ XH V ((b, cap, X.length) :: J))) w := h1.mono (fun x hx => hp.mem_iff.2 hx) (h1.hok.perm hp).nodup
 exact CH.mono (JLe.cons _ _) h2
def SKP (pf : Bool) (k : Nat) (v : Value) : Prop := (k = 0 → pf = true → v = .bool false) ∧ (k % 6 = 0 → ∃ b, v = .bool b) ∧ (k % 6 = 1 → v = .bool false) ∧ (2 ≤ k % 6 → ∃ z, v = .int .i64 z)
structure SS where
 r : RS
 q : Nat
 nl : Nat
 head : Sl
 line : Sl
 foot : Sl
 C : Option (Nat × Nat)
 cn : Nat
 comh : Nat
 sep : Bool
 tkb : Nat
 tkc : Nat
 tl : List TV
 th : Nat
 tp : Nat
 ta : Bool
 ska : Bool
 skb : Nat
 skc : Nat
 pf : Bool
 mpb : Nat
 st : Nat
 stv : Sl
 tdv : Sl
 V : VL
 J : JL
abbrev zc (X : SS) : PS := { r := X.r, q := X.q, nl := X.nl, head := X.head, line := X.line, foot := X.foot, tail := Sl.nil, stem := Sl.nil, com := comS X.C X.cn, comh := X.comh, ssp := true, sep := X.sep, flow := 0, tok := ⟨some ⟨X.tkb, 0, none⟩, X.tl.length, X.tkc⟩, th := X.th, tp := X.tp, ta := X.ta, ind := -1, indv := Sl.nil, ska := X.ska, skv := ⟨some ⟨X.skb, 0, none⟩, 1, X.skc⟩, skm := some X.mpb, st := X.st, stv := X.stv, mkv := Sl.nil, tdv := X.tdv }
abbrev TKB (T : List Nat) (X : SS) : Nat × Blk := (X.tkb, .buf 163 (X.tkc * 14) (tlC T X.tl))
abbrev SKB (X : SS) : Nat × Blk := (X.skb, .obj (anyO 202 (X.skc * 6) (SKP X.pf)))
abbrev MPB (X : SS) : Nat × Blk := (X.mpb, .obj mapO)
abbrev SH (L : Lay) (T : List Nat) (X : SS) : zl := RH L T (zc X) (TKB T X :: SKB X :: MPB X :: (CH T X.J X.C ++ XH X.V X.J))
structure SI (L : Lay) (T : List Nat) (X : SS) : Prop where
 inv : Inv L T (zc X)
 sml : T.length ≤ 1000000
 tlc : X.tl.length ≤ X.tkc
 tkc : X.tkc ≤ 9223372036854775807
 thl : X.th ≤ X.tl.length
 tpl : X.tp ≤ 1000000 ∧ X.th ≤ X.tp
 skc : 1 ≤ X.skc ∧ X.skc ≤ 9223372036854775807
 cnq : X.cn ≤ X.q
 cmh : X.comh ≤ X.cn
 com : (X.C = none ∧ X.cn = 0) ∨ ∃ b c, X.C = some (b, c) ∧ X.cn ≤ c ∧ c ≤ 9223372036854775807
 jh : JSl X.J X.head ∧ X.head.n ≤ X.comh * (T.length + 1)
 jl : JSl X.J X.line ∧ X.line.n ≤ X.comh * (T.length + 1)
 jf : JSl X.J X.foot ∧ X.foot.n ≤ X.comh * (T.length + 1)
def eol (T : List Nat) (q : Nat) : Nat := if h : q < T.length ∧ at_ T q ≠ 10 then eol T (q + 1) else q
termination_by T.length - q
theorem eol_le (T : List Nat) (q : Nat) : q ≤ eol T q := by
 rw [eol]
 split
 · have := eol_le T (q + 1); omega
 · exact Nat.le_refl _
termination_by T.length - q
theorem eol_stop {T : List Nat} {q : Nat} (h : ¬ (q < T.length ∧ at_ T q ≠ 10)) : eol T q = q := by rw [eol, dif_neg h]
theorem eol_go {T : List Nat} {q : Nat} (h : q < T.length) (h2 : at_ T q ≠ 10) : eol T q = eol T (q + 1) := by rw [eol, dif_pos ⟨h, h2⟩]
theorem eol_len {T : List Nat} {q : Nat} (h : q ≤ T.length) : eol T q ≤ T.length := by
 rw [eol]
 split
 · rename_i hc; exact eol_len hc.1
 · exact h
termination_by T.length - q
theorem eol_in {T : List Nat} {q i : Nat} (h1 : q ≤ i) (h2 : i < eol T q) : i < T.length ∧ at_ T i ≠ 10 := by
 rw [eol] at h2
 split at h2
 · rename_i hc
   by_cases hq : i = q
   · subst hq; exact hc
   · exact eol_in omT h2
 · omega
termination_by T.length - q
theorem eol_at {T : List Nat} {q : Nat} : ¬ (eol T q < T.length ∧ at_ T (eol T q) ≠ 10) := by
 rw [eol]
 split
 · exact eol_at
 · assumption
termination_by T.length - q
def sk (T : List Nat) (q : Nat) : Nat :=
 if h : q < T.length then
  if at_ T q = 32 ∨ at_ T q = 10 then sk T (q + 1)
  else if at_ T q = 35 then sk T (eol T (q + 1))
  else q
 else q
termination_by T.length - q
decreasing_by
 · omega
 · have := eol_le T (q + 1); omega
theorem sk_step {T : List Nat} {q : Nat} (h : q < T.length) (hc : at_ T q = 32 ∨ at_ T q = 10) : sk T q = sk T (q + 1) := by
 rw [sk, dif_pos h, if_pos hc]
theorem sk_com {T : List Nat} {q : Nat} (h : q < T.length) (hc : at_ T q = 35) : sk T q = sk T (eol T q) := by
 rw [eol_go h omT]
 conv => lhs; rw [sk, dif_pos h, if_neg omT, if_pos hc]
theorem sk_stop {T : List Nat} {q : Nat} (h : at_ T q ≠ 32) (h2 : at_ T q ≠ 10) (h3 : at_ T q ≠ 35) : sk T q = q := by
 rw [sk]
 split
 · simp [h, h2, h3]
 · rfl
theorem sk_end {T : List Nat} {q : Nat} (h : T.length ≤ q) : sk T q = q := by
 rw [sk]
 split
 · omega
 · rfl
theorem sk_at {T : List Nat} {q : Nat} : at_ T (sk T q) ≠ 32 ∧ at_ T (sk T q) ≠ 10 ∧ at_ T (sk T q) ≠ 35 := by
 rw [sk]
 split
 · split
   · exact sk_at
   · split
     · have h1 := eol_le T (q + 1)
       exact sk_at
     · omega
 · rename_i h
   rw [qS omT]
   decide
termination_by T.length - q
decreasing_by all_goals omega
theorem SI.move {L : Lay} {T : List Nat} {X : SS} {r : RS} {nl q : Nat} (h : SI L T X) (hn : Inv L T (zc { X with r := r, nl := nl, q := q })) (hq : X.q ≤ q) : SI L T { X with r := r, nl := nl, q := q } :=
 ⟨hn, h.sml, h.tlc, h.tkc, h.thl, h.tpl, h.skc, by have := h.cnq; dsimp only; omega, h.cmh, h.com, h.jh, h.jl, h.jf⟩
theorem SI.comment {L : Lay} {T : List Nat} {X : SS} {r : RS} {nl q b c b1 c1 n1 : Nat} (h : SI L T X) (hn : Inv L T (zc { X with r := r, nl := nl, q := q })) (hq : X.q < q) (hc : X.cn + 1 ≤ c) (hm : c ≤ 9223372036854775807) :
  SI L T { X with r := r, nl := nl, q := q, C := some (b, c), cn := X.cn + 1, J := (b1, c1, n1) :: X.J } := by
 have hl := JLe.cons (b1, c1, n1) X.J
 obtain ⟨small, asc, icap, qlen, nlq, pq, pbl, slack, bl, unl, rp, rl, offl, ip, ipl, eofi, enc, e_⟩ := hn
 exact ⟨⟨small, asc, icap, qlen, nlq, pq, pbl, slack, bl, unl, rp, rl, offl, ip, ipl, eofi, enc, e_⟩, h.sml, h.tlc, h.tkc, h.thl, h.tpl, h.skc, by have := h.cnq; dsimp only; omega, by have := h.cmh; dsimp only; omega, .inr ⟨b, c, rfl, hc, hm⟩, ⟨h.jh.1.mono hl, h.jh.2⟩, ⟨h.jl.1.mono hl, h.jl.2⟩, ⟨h.jf.1.mono hl, h.jf.2⟩⟩
theorem sk_sp {T : List Nat} {q : Nat} (hq : ∀ i, q + i < T.length ∨ at_ T (q + i) ≠ 32) : ∀ p, (∀ i, i < p → at_ T (q + i) = 32) → sk T q = sk T (q + p)
 | 0, _ => rfl
 | p + 1, h => by
  have h1 := h p omT
  have h2 := hq p
  rw [sk_sp hq p (fun i hi => h i omT), sk_step omT (.inl h1)]
  rfl
theorem sp_lt {T : List Nat} (q : Nat) : ∀ i, q + i < T.length ∨ at_ T (q + i) ≠ 32 := fun i => by
 by_cases h : q + i < T.length
 · exact .inl h
 · right; rw [qS omT]; decide
theorem CP_ints {T : List Nat} {J : JL} {k : Nat} {z : Int} (h : k % 15 < 12) : CP T J k (.int .i64 z) := ⟨fun _ => ⟨z, rfl⟩, fun h' => by omega⟩
theorem CP_sl {T : List Nat} {J : JL} {k : Nat} {s : Sl} (h : 12 ≤ k % 15) (hs : JSl J s) (hn : s.n ≤ T.length) : CP T J k s.v := ⟨fun h' => by omega, fun _ => ⟨s, rfl, hs, hn⟩⟩
theorem CP_all {T : List Nat} {J : JL} {n : Nat} {z1 z2 z3 z4 z5 z6 z7 z8 z9 z10 z11 z12 : Int} {s1 s2 s3 : Sl} (h1 : JSl J s1 ∧ s1.n ≤ T.length) (h2 : JSl J s2 ∧ s2.n ≤ T.length) (h3 : JSl J s3 ∧ s3.n ≤ T.length) :
  ∀ j u, [Value.int .i64 z1, .int .i64 z2, .int .i64 z3, .int .i64 z4, .int .i64 z5, .int .i64 z6, .int .i64 z7, .int .i64 z8, .int .i64 z9, .int .i64 z10, .int .i64 z11, .int .i64 z12, s1.v, s2.v, s3.v][j]? = some u → CP T J (n * 15 + j) u := by
 intro j u hj
 have hlt := (List.getElem?_eq_some_iff.1 hj).1
 simp only [List.length_cons, List.length_nil] at hlt
 rcases (show j = 0 ∨ j = 1 ∨ j = 2 ∨ j = 3 ∨ j = 4 ∨ j = 5 ∨ j = 6 ∨ j = 7 ∨ j = 8 ∨ j = 9 ∨ j = 10 ∨ j = 11 ∨ j = 12 ∨ j = 13 ∨ j = 14 by omega) with rfl | rfl | rfl | rfl | rfl | rfl | rfl | rfl | rfl | rfl | rfl | rfl | rfl | rfl | rfl <;>
  (obtain rfl := (Option.some.inj hj).symm; first | exact CP_ints omT | exact CP_sl omT h1.1 h1.2 | exact CP_sl omT h2.1 h2.2 | exact CP_sl omT h3.1 h3.2)
theorem CP_zero {T : List Nat} {J : JL} : ∀ k v, (Value.agg #[zI, zI, zI, zI, zI, zI, zI, zI, zI, zI, zI, zI, zS, zS, zS]).cells[k % 15]? = some v → CP T J k v := by
 intro k v h
 have hk : k % 15 < 15 := Nat.mod_lt _ (by decide)
 have hz : JSl J Sl.nil ∧ Sl.nil.n ≤ T.length := ⟨JSl.nil J, Nat.zero_le _⟩
 have := CP_all (T := T) (n := k / 15) (z1 := 0) (z2 := 0) (z3 := 0) (z4 := 0) (z5 := 0) (z6 := 0) (z7 := 0) (z8 := 0) (z9 := 0) (z10 := 0) (z11 := 0) (z12 := 0) hz hz hz (k % 15) v (by simpa [Value.cells] using h)
 rwa [Nat.div_add_mod'] at this
theorem qE {T : List Nat} {J : JL} : JSl J Sl.nil ∧ Sl.nil.n ≤ T.length := ⟨JSl.nil J, Nat.zero_le _⟩
theorem qF {P : Program} {n : Nat} {ds : List Deferred} {pu : Bool} {w0 : World} {D : List Nat} {c : Code} {Q : Exit → Act → World → Prop} {H H' : zl} {E : Env} (hw : Wk H H') (h : EV P n ds pu w0 D c Q H' E) : EV P n ds pu w0 D c Q H E := fun a w he hk => h a w he (hw _ _ _ _ hk)
class CT (H : zl) (T : outParam (List Nat)) (J : outParam JL) (C : outParam (Option (Nat × Nat))) (V : outParam VL) (F : outParam (zl → zl)) : Prop where
 is : ∃ l, H = l ++ (CH T J C ++ XH V J) ∧ ∀ X, F X = l ++ X
instance {T : List Nat} {J : JL} {C : Option (Nat × Nat)} {V : VL} : CT (CH T J C ++ XH V J) T J C V (fun X => X) := ⟨[], rfl, fun _ => rfl⟩
instance {x : Nat × Blk} {r : zl} {T : List Nat} {J : JL} {C : Option (Nat × Nat)} {V : VL} {F : zl → zl} [h : CT r T J C V F] : CT (x :: r) T J C V (fun X => x :: F X) := ⟨by
 obtain ⟨l, h1, h2⟩ := h.is
 exact ⟨x :: l, by simp [h1], fun X => by simp [h2]⟩⟩
theorem wu {n : Nat} {ds : List Deferred} {w0 : World} {D : List Nat} {H : zl} {E : Env} {ops : Array Oper} {Q : Exit → Act → World → Prop} {K : Act → World → Prop} {rest : List Oper} {x y : Operand} {ty : TypeId} {ps : String} {af : Array Edge} {g : Option (Nat × Bool)}
   {dd cn b2 : Nat} {T : List Nat} {J : JL} {C : Option (Nat × Nat)} {V : VL} {F : zl → zl} {news : List Value} (hg : gd ops E g = some true) (hd : Nat.blt dd n = true)
   (hx : opv E x = some (comS C cn).v) [hc : CT H T J C V F] (hC : (C = none ∧ cn = 0) ∨ ∃ b c, C = some (b, c) ∧ cn ≤ c ∧ c ≤ 9223372036854775807)
   (hy : opv E y = some (.slice (some ⟨b2, 0, none⟩) 1 1)) (hh : Has H b2 (.cs 204 news [])) (hl : news.length = 15) (h1 : ∀ u ∈ news, u.oneCell' = true) (hp : ∀ j u, news[j]? = some u → CP T J (cn * 15 + j) u) (hcn : cn ≤ 1000000)
   (h : ∀ b' cap', cn + 1 ≤ cap' → cap' ≤ 9223372036854775807 → SQ prog n ds false w0 D ops Q K ((b', .obj (anyO 204 (cap' * 15) (CP T J))) :: F (XH V J)) ((dd, .slice (some ⟨b', 0, none⟩) (cn + 1) cap') :: E) rest) :
   SQ prog n ds false w0 D ops Q K H E (⟨some dd, .call ⟨.builtin .append, #[x, y], #[63, 63]⟩, ty, ps, af, g⟩ :: rest) := by
 obtain ⟨l, hH, hF⟩ := hc.is
 have hsrc : Src H b2 0 news := by
   refine zN (hh := hh) (Nat.zero_le _) (by simp [Blk.known]) fun j u hj => ?_
   simp only [Blk.cell, look, nth, Nat.zero_add]
   exact hj
 rcases hC with ⟨rfl, rfl⟩ | ⟨b, c, rfl, hc1, hc2⟩
 · have hFH : F (XH V J) = H := by rw [hF, hH]; rfl
   rw [hFH] at h
   refine s_append_anyn (sz := 15) (m := 1) (p := CP T J) (news := news) rfl hg hd hx hy hsrc (by rw [hl]) (by decide) (fun j u hj => by have := hp j u hj; simpa using this) CP_zero (by decide) (by decide) (by decide) fun b' cap' h2 h3 => ?_
   have := h b' cap' h2 h3
   simpa using this
 · have hr : Rem H b (.obj (anyO 204 (c * 15) (CP T J))) (F (XH V J)) := ⟨l, XH V J, by rw [hH]; rfl, by rw [hF]⟩
   exact s_append_any (sz := 15) (n0 := cn) (cap := c) (hr := hr) (p := CP T J) (news := news) rfl hg hd hx hc1 hc2 hy hsrc (by rw [hl]) h1 hp CP_zero omT omT (by decide) h
theorem slc_ok (L : Lay) (T : List Nat) (X : SS) (m1 m2 m3 : Int) (he : Eof L) (hi : SI L T X) :
  Fn prog 148 [pV L.p, .agg #[.int .i64 m1, .int .i64 m2, .int .i64 m3]] (SH L T X)
   (fun v H' => v = .bool true ∧ ∃ r nl q C cn J, H' = SH L T { X with r := r, nl := nl, q := q, C := C, cn := cn, J := J } ∧ SI L T { X with r := r, nl := nl, q := q, C := C, cn := cn, J := J } ∧ sk T q = sk T X.q ∧ X.q ≤ q ∧ JLe X.J J) := by
 have hsp := sp_lt (T := T) X.q
 have hsml := hi.sml
 refine zo func148 rfl rfl rfl ?_
 intro w
 refine zd (zi (ku rfl rfl rfl clT ?_))
 intro tb
 refine gg 10 ?_
 refine sqz (kw rfl rfl rfl) (ze ?_)
 refine zf ?_
 refine kg rfl (fun hc => ?_) (fun hc => ?_)
 ·
  refine gg 7 ?_
  exact zm rfl rfl (Wk.toT (CH T X.J X.C ++ XH X.V X.J) [L.p, L.bb, L.rb, L.ib, 0, X.tkb, X.skb, X.mpb] wlT) ⟨rfl, X.r, X.nl, X.q, X.C, X.cn, X.J, rfl, hi, rfl, Nat.le_refl _, JLe.refl _⟩
 ·
  refine gg 4 ?_
  refine zk rfl rfl clT ?_
  intro sb
  refine gg 14 ?_
  refine zw (σ := RS × Nat) (fun x => [(0, pV L.p), (3, pV tb), (5, pV sb), (6, zS), (7, .int .i64 (x.2 : Nat))]) (fun x => RH L T { zc X with r := x.1 } ((sb, .cs 57 [zI, zI, zI] []) :: (tb, .cs 57 [.int .i64 m1, .int .i64 m2, .int .i64 m3] []) :: TKB T X :: SKB X :: MPB X :: (CH T X.J X.C ++ XH X.V X.J))) (fun x => Inv L T { zc X with r := x.1 } ∧ x.2 ≤ 512 ∧ ∀ i, i < x.2 → at_ T (X.q + i) = 32) (fun x => 512 - x.2) (X.r, 0) ⟨hi.inv, omT, by intro i h; omega⟩ suT (Wk.toT (CH T X.J X.C ++ XH X.V X.J) [L.p, L.bb, L.rb, L.ib, 0, sb, tb, X.tkb, X.skb, X.mpb] wlT) ?_
  rintro ⟨r0, p⟩ ⟨hn0, hp1, hp2⟩
  dsimp only at hn0 hp1 hp2
  refine zd ?_
  by_cases hp : p < 512
  ·
   refine gg 11 ?_
   refine zR { zc X with r := r0, nl := X.nl, q := X.q } (p + 1) hn0 (fun hlt => ?_) (fun hlt => ?_) (fun r1 hn1 hb1 => ?_)
   ·
    refine gg 20 ?_
    exact zq hn0 hlt exT
   ·
    refine gg 13 ?_
    refine za rfl rfl rfl (kc L T { zc X with r := r0, nl := X.nl, q := X.q } (p + 1) he (.inl hn0) hlt omT) ?_
    rintro _ _ ⟨rfl, r1, h1, h2, h3, rfl⟩
    refine lS ?_
    refine gg 6 ?_
    exact zr h1 h2 h3 exT
   ·
    replace hn1 : Inv L T { zc X with r := r1, nl := X.nl, q := X.q } := hn1
    replace hb1 : Rdy T { zc X with r := r1, nl := X.nl, q := X.q } (p + 1) := hb1
    refine zt (RH L T { zc X with r := r1, nl := X.nl, q := X.q } _) _ rfl rfl ?_
    have hl1 : r1.pos + (p + 1) ≤ r1.blen := hb1.len
    have hpq1 : r1.pos ≤ X.q := hn1.pq
    have hbl1 : r1.blen ≤ 1536 := hn1.bl
    refine zd ?_
    by_cases h32 : at_ T (X.q + p) = 32
    ·
     refine gg 11 ?_
     refine dad ?_
     refine dca (k_blank (j := p) (b := true) hn1 (by have := hb1.len; exact omT) (by first | assumption | (unfold kj; first | exact decide_eq_true omT | exact decide_eq_false omT))) ?_
     refine gg 12 ?_
     exact zh (r1, p + 1) ⟨hn1, omT, by intro i h; by_cases hh : i = p; (subst hh; exact h32); exact hp2 i omT⟩ omT suT (Wk.toT (CH T X.J X.C ++ XH X.V X.J) [L.p, L.bb, L.rb, L.ib, 0, sb, tb, X.tkb, X.skb, X.mpb] wlT)
    ·
     have hasc := asc128 hn1.asc (X.q + p)
     have hn9 : at_ T (X.q + p) ≠ 9 := by
      by_cases hlt : X.q + p < T.length
      · have := hn1.asc _ (at_mem hlt); omega
      · rw [qS omT]; decide
     refine gg 11 ?_
     refine dad ?_
     refine dca (k_blank (j := p) (b := false) hn1 (by have := hb1.len; exact omT) (by first | assumption | (unfold kj; first | exact decide_eq_true omT | exact decide_eq_false omT))) ?_
     refine gg 6 ?_
     by_cases h35 : at_ T (X.q + p) = 35
     ·
      refine gg 11 ?_
      refine dad ?_
      refine dix ?_
      refine zn (bpk omT) rfl ?_
      refine gg 3 ?_
      have hql : X.q + p < T.length := kS omT
      have hsk1 := sk_sp hsp p hp2
      have hsk2 := sk_com hql h35
      have hel := eol_len (T := T) (q := X.q + p) omT
      have heo := eol_at (T := T) (q := X.q + p)
      refine gg 9 ?_
      refine sad ?_
      refine gg 4 ?_
      refine zw (σ := RS × Nat × Nat × Option (Nat × Nat) × Int × Int × Int) (fun x => [(0, pV L.p), (3, pV tb), (5, pV sb), (6, TXV (X.q + p) x.2.2.1 x.2.2.2.1), (8, .int .i64 ((X.q + p : Nat) : Int))]) (fun x => RH L T { zc X with r := x.1, nl := x.2.1, q := x.2.2.1 } ((sb, .cs 57 [.int .i64 x.2.2.2.2.1, .int .i64 x.2.2.2.2.2.1, .int .i64 x.2.2.2.2.2.2] []) :: (TXH T (X.q + p) x.2.2.1 x.2.2.2.1 ++ ((tb, .cs 57 [.int .i64 m1, .int .i64 m2, .int .i64 m3] []) :: TKB T X :: SKB X :: MPB X :: (CH T X.J X.C ++ XH X.V X.J))))) (fun x => Inv L T { zc X with r := x.1, nl := x.2.1, q := x.2.2.1 } ∧ X.q ≤ x.2.2.1 ∧ ((x.2.2.1 ≤ X.q + p ∧ x.2.2.2.1 = none) ∨ ∃ b c, x.2.2.2.1 = some (b, c) ∧ X.q + p < x.2.2.1 ∧ x.2.2.1 ≤ eol T (X.q + p) ∧ x.2.2.1 - (X.q + p) ≤ c ∧ c ≤ 9223372036854775807)) (fun x => T.length - x.2.2.1) (r1, X.nl, X.q, none, 0, 0, 0) ⟨hn1, omT, .inl ⟨omT, rfl⟩⟩ suT (Wk.toT (CH T X.J X.C ++ XH X.V X.J) [L.p, L.bb, L.rb, L.ib, 0, sb, tb, X.tkb, X.skb, X.mpb] wlT) ?_
      rintro ⟨r9, nl9, q9, o9, z1, z2, z3⟩ ⟨hn9', hq9, ho9⟩
      dsimp only at hn9' hq9 ho9
      rcases ho9 with ⟨hq9l, rfl⟩ | ⟨b9, c9, rfl, ho1, ho2, ho3, ho4⟩
      ·
        refine zt (RH L T { zc X with r := r9, nl := nl9, q := q9 } ((sb, .cs 57 [.int .i64 z1, .int .i64 z2, .int .i64 z3] []) :: (tb, .cs 57 [.int .i64 m1, .int .i64 m2, .int .i64 m3] []) :: TKB T X :: SKB X :: MPB X :: (CH T X.J X.C ++ XH X.V X.J))) [(0, pV L.p), (3, pV tb), (5, pV sb), (6, zS), (8, .int .i64 ((X.q + p : Nat) : Int))] rfl rfl ?_
        refine kf ?_
        refine zR { zc X with r := r9, nl := nl9, q := q9 } 1 hn9' (fun hlt => ?_) (fun hlt => ?_) (fun r2 hn2 hb2 => ?_)
        ·
         refine gg 16 ?_
         exact zq hn9' hlt exT
        ·
         refine gg 9 ?_
         refine za rfl rfl rfl (kc L T { zc X with r := r9, nl := nl9, q := q9 } 1 he (.inl hn9') hlt omT) ?_
         rintro _ _ ⟨rfl, r2, h1, h2, h3, rfl⟩
         refine lS ?_
         refine gg 6 ?_
         exact zr h1 h2 h3 exT
        ·
         replace hn2 : Inv L T { zc X with r := r2, nl := nl9, q := q9 } := hn2
         replace hb2 : Rdy T { zc X with r := r2, nl := nl9, q := q9 } 1 := hb2
         refine zt (RH L T { zc X with r := r2, nl := nl9, q := q9 } _) _ rfl rfl ?_
         have hl2 : r2.pos + 1 ≤ r2.blen := hb2.len
         have hpq2 : r2.pos ≤ q9 := hn2.pq
         have hbl2 : r2.blen ≤ 1536 := hn2.bl
         by_cases hlt9 : q9 < X.q + p
         ·
          have h32' : at_ T q9 = 32 := by
           have := hp2 (q9 - X.q) omT
           rwa [show X.q + (q9 - X.q) = q9 by omega] at this
          refine gg 10 ?_
          refine dca (qd (b := false) hn2 (hb2.lt omT) (by first | assumption | (unfold kE; first | exact decide_eq_true omT | exact decide_eq_false omT))) ?_
          refine gg 17 ?_
          refine za rfl rfl rfl (kG L T { zc X with r := r2, nl := nl9, q := q9 } 1 hn2 hb2 omT omT omT) ?_
          rintro _ _ ⟨rfl, r3, nl3, hn3, hb3, rfl⟩
          replace hn3 : Inv L T { zc X with r := r3, nl := nl3, q := (q9 + 1) } := hn3
          replace hb3 : Rdy T { zc X with r := r3, nl := nl3, q := (q9 + 1) } 0 := hb3
          refine lS ?_
          have hl3 : r3.pos + 0 ≤ r3.blen := hb3.len
          have hpq3 : r3.pos ≤ (q9 + 1) := hn3.pq
          have hbl3 : r3.blen ≤ 1536 := hn3.bl
          refine ze ?_
          refine kJ ?_
          exact zh (r3, nl3, (q9 + 1), none, z1, z2, z3) ⟨hn3, omT, .inl ⟨omT, rfl⟩⟩ omT suT (Wk.toT (CH T X.J X.C ++ XH X.V X.J) [L.p, L.bb, L.rb, L.ib, 0, sb, tb, X.tkb, X.skb, X.mpb] wlT)
         ·
          obtain rfl : q9 = X.q + p := by omega
          refine gg 10 ?_
          refine dca (qd (b := false) hn2 (hb2.lt omT) (by first | assumption | (unfold kE; first | exact decide_eq_true omT | exact decide_eq_false omT))) ?_
          refine gg 29 ?_
          first | refine stw rfl rfl ?_ | refine sts rfl rfl ?_
          refine gg 5 ?_
          refine za rfl rfl rfl (read_cut0 L T { zc X with r := r2, nl := nl9, q := (X.q + p) } 1 _ _ hn2 hb2 omT hql omT) ?_
          rintro _ _ ⟨r4, nl4, b8, hn4, hb4, rfl, rfl⟩
          replace hn4 : Inv L T { zc X with r := r4, nl := nl4, q := ((X.q + p) + 1) } := hn4
          replace hb4 : Rdy T { zc X with r := r4, nl := nl4, q := ((X.q + p) + 1) } 0 := hb4
          refine lS ?_
          have hl4 : r4.pos + 0 ≤ r4.blen := hb4.len
          have hpq4 : r4.pos ≤ ((X.q + p) + 1) := hn4.pq
          have hbl4 : r4.blen ≤ 1536 := hn4.bl
          refine gg 3 ?_
          exact zh (r4, nl4, ((X.q + p) + 1), some (b8, 32), ((X.q + p : Nat) : Int), (lnT T (X.q + p) : Int), (zH T (X.q + p) : Int)) ⟨hn4, omT, .inr ⟨b8, 32, rfl, omT, by have := eol_go hql omT; have := eol_le T (X.q + p + 1); exact omT, omT, omT⟩⟩ omT suT (Wk.toT (CH T X.J X.C ++ XH X.V X.J) [L.p, L.bb, L.rb, L.ib, 0, sb, b8, tb, X.tkb, X.skb, X.mpb] wlT)
      ·
        refine zt (RH L T { zc X with r := r9, nl := nl9, q := q9 } ((sb, .cs 57 [.int .i64 z1, .int .i64 z2, .int .i64 z3] []) :: (b9, .buf 5 c9 (bytes (kA T (X.q + p) q9))) :: (tb, .cs 57 [.int .i64 m1, .int .i64 m2, .int .i64 m3] []) :: TKB T X :: SKB X :: MPB X :: (CH T X.J X.C ++ XH X.V X.J))) [(0, pV L.p), (3, pV tb), (5, pV sb), (6, .slice (some ⟨b9, 0, none⟩) (q9 - (X.q + p)) c9), (8, .int .i64 ((X.q + p : Nat) : Int))] rfl rfl ?_
        refine kf ?_
        refine zR { zc X with r := r9, nl := nl9, q := q9 } 1 hn9' (fun hlt => ?_) (fun hlt => ?_) (fun r5 hn5 hb5 => ?_)
        ·
         refine gg 16 ?_
         exact zq hn9' hlt exT
        ·
         refine gg 9 ?_
         refine za rfl rfl rfl (kc L T { zc X with r := r9, nl := nl9, q := q9 } 1 he (.inl hn9') hlt omT) ?_
         rintro _ _ ⟨rfl, r5, h1, h2, h3, rfl⟩
         refine lS ?_
         refine gg 6 ?_
         exact zr h1 h2 h3 exT
        ·
         replace hn5 : Inv L T { zc X with r := r5, nl := nl9, q := q9 } := hn5
         replace hb5 : Rdy T { zc X with r := r5, nl := nl9, q := q9 } 1 := hb5
         refine zt (RH L T { zc X with r := r5, nl := nl9, q := q9 } _) _ rfl rfl ?_
         have hl5 : r5.pos + 1 ≤ r5.blen := hb5.len
         have hpq5 : r5.pos ≤ q9 := hn5.pq
         have hbl5 : r5.blen ≤ 1536 := hn5.bl
         by_cases hlt9 : q9 < eol T (X.q + p)
         ·
          obtain ⟨h9a, h9b⟩ := eol_in omT hlt9
          have h9c := hn5.asc _ (at_mem h9a)
          refine gg 10 ?_
          refine dca (qd (b := false) hn5 (hb5.lt omT) (by first | assumption | (unfold kE; first | exact decide_eq_true omT | exact decide_eq_false omT))) ?_
          refine gg 29 ?_
          refine za rfl rfl rfl (read_cut L T { zc X with r := r5, nl := nl9, q := q9 } 1 (X.q + p) b9 c9 omT ho3 ho4 hn5 hb5 omT h9a h9b) ?_
          rintro _ _ ⟨r6, nl6, b8, c8, hn6, hb6, hc1, hc2, rfl, rfl⟩
          replace hn6 : Inv L T { zc X with r := r6, nl := nl6, q := (q9 + 1) } := hn6
          replace hb6 : Rdy T { zc X with r := r6, nl := nl6, q := (q9 + 1) } 0 := hb6
          refine lS ?_
          have hl6 : r6.pos + 0 ≤ r6.blen := hb6.len
          have hpq6 : r6.pos ≤ (q9 + 1) := hn6.pq
          have hbl6 : r6.blen ≤ 1536 := hn6.bl
          refine gg 3 ?_
          exact zh (r6, nl6, (q9 + 1), some (b8, c8), z1, z2, z3) ⟨hn6, omT, .inr ⟨b8, c8, rfl, omT, omT, omT, omT⟩⟩ omT suT (Wk.toT (CH T X.J X.C ++ XH X.V X.J) [L.p, L.bb, L.rb, L.ib, 0, sb, b8, tb, X.tkb, X.skb, X.mpb] wlT)
         ·
          obtain rfl : q9 = eol T (X.q + p) := by omega
          have h10 : at_ T (eol T (X.q + p)) = 10 ∨ at_ T (eol T (X.q + p)) = 0 := by
           by_cases hx : eol T (X.q + p) < T.length
           · left
             by_cases hy : at_ T (eol T (X.q + p)) = 10
             · exact hy
             · exact absurd ⟨hx, hy⟩ heo
           · right; exact qS omT
          refine gg 10 ?_
          refine dca (qd (b := true) hn5 (hb5.lt omT) (by first | assumption | (unfold kE; first | exact decide_eq_true omT | exact decide_eq_false omT))) ?_
          refine gg 37 ?_
          refine qF (Wk.trans (Wk.toR [L.p, L.bb, L.rb, L.ib, 0, sb, tb, X.tkb, X.skb, X.mpb, b9] wlT) (Wk.text (A := [PB L T { zc X with r := r5, nl := nl9, q := (eol T (X.q + p)) }, BB L T { zc X with r := r5, nl := nl9, q := (eol T (X.q + p)) }, RB L T { zc X with r := r5, nl := nl9, q := (eol T (X.q + p)) }, IB L T, GE L, (sb, .cs 57 [.int .i64 z1, .int .i64 z2, .int .i64 z3] []), (tb, .cs 57 [.int .i64 m1, .int .i64 m2, .int .i64 m3] []), TKB T X, SKB X, MPB X]) (X := kA T (X.q + p) (eol T (X.q + p))) (cutT_lt hn5.lt128))) ?_
          refine lS ?_
          refine ke (fun i => i == 9 || i == 10 || i == 13) (fun i => i == 13) ([PB L T { zc X with r := r5, nl := nl9, q := (eol T (X.q + p)) }, (sb, .cs 57 [.int .i64 z1, .int .i64 z2, .int .i64 z3] []), (tb, .cs 57 [.int .i64 m1, .int .i64 m2, .int .i64 m3] [])]) zF ?_
          refine mqh 0 rfl kR rfl rfl (fun _ => zj rfl) ?_
          refine mqh 1 rfl kR rfl rfl (fun _ => zj rfl) ?_
          refine mqh 2 rfl kR rfl rfl (fun _ => zJ rfl) ?_
          refine mqh 3 rfl kR rfl rfl (fun _ => zM rfl) ?_
          refine mqh 4 rfl kR rfl rfl (fun _ => zp rfl rfl rfl rfl) ?_
          refine mq 5 rfl kR rfl rfl (zG rfl rfl rfl rfl) ?_
          refine mq 6 rfl kR rfl rfl (zG rfl rfl rfl rfl) ?_
          refine mq 7 rfl kR rfl rfl (zj rfl) ?_
          refine mq 8 rfl kR rfl rfl (zu (l := [_, _, _, _, _, _, _, _, _, _, _, _, _, _, _]) (zs := [zI, zI, zI, zI, zI, zI, zI, zI, zI, zI, zI, zI, zS, zS, zS]) [0, 3, 6, 9, 12, 13, 14] rfl rfl kR) ?_
          refine mql 9 rfl kR (fun hcl => ?_)
          refine kV (l := [_, _, _, _, _, _, _, _, _, _, _, _, _, _, _]) (zs := [zI, zI, zI, zI, zI, zI, zI, zI, zI, zI, zI, zI, zS, zS, zS]) [0] rfl rfl rfl rfl kR rfl rfl ?_
          intro cb
          refine mqn 9 hcl ?_
          refine mql 10 rfl kR (fun hcl => ?_)
          refine wu rfl rfl rfl (hi.com) rfl inferInstance rfl (kK rfl) (CP_all qE ⟨JSl.new _ _ _ _ _ (by simp) (by simp; exact omT), by simp; exact omT⟩ qE) (by have := hi.cnq; exact omT) ?_
          intro cb cc hcc1 hcc2
          refine mqn 10 hcl (mq 11 rfl kR rfl rfl (zJ rfl) ?_)
          refine mq 12 rfl kR rfl rfl (zM rfl) ?_
          refine mql 13 rfl kR (fun hcl => ?_)
          refine st1 rfl rfl ?_
          refine zO 13 rfl kR (gg 7 ?_)
          exact zm rfl rfl (Wk.toT (XH X.V ((b9, c9, (kA T (X.q + p) (eol T (X.q + p))).length) :: X.J)) [L.p, L.bb, L.rb, L.ib, 0, X.tkb, X.skb, X.mpb, cb] wlT) ⟨rfl, r5, nl9, eol T (X.q + p), some (cb, cc), X.cn + 1, _, rfl, hi.comment hn5 omT hcc1 hcc2, by rw [hsk1, hsk2], omT, JLe.cons _ _⟩
     ·
      refine gg 11 ?_
      refine dad ?_
      refine dix ?_
      refine zn (bpk omT) rfl ?_
      refine gg 29 ?_
      exact zm rfl rfl (Wk.toT (CH T X.J X.C ++ XH X.V X.J) [L.p, L.bb, L.rb, L.ib, 0, X.tkb, X.skb, X.mpb] wlT) ⟨rfl, r1, X.nl, X.q, X.C, X.cn, X.J, rfl, hi.move hn1 (Nat.le_refl _), rfl, Nat.le_refl _, JLe.refl _⟩
  ·
   refine gg 29 ?_
   exact zm rfl rfl (Wk.toT (CH T X.J X.C ++ XH X.V X.J) [L.p, L.bb, L.rb, L.ib, 0, X.tkb, X.skb, X.mpb] wlT) ⟨rfl, r0, X.nl, X.q, X.C, X.cn, X.J, rfl, hi.move hn0 (Nat.le_refl _), rfl, Nat.le_refl _, JLe.refl _⟩
end Go.Proofs.YtnfbcfflkphbiaaGreatDoor
