/-
  Texts of the proof, joined: F38 F39 E20 F40 F41 E21. No Go text.
-/
import Derived.Test.YtnfbcfflkphbiaaGreatDoorA01
import Derived.Test.YtnfbcfflkphbiaaGreatDoorA08
import Derived.Test.YtnfbcfflkphbiaaGreatDoorA29
import Derived.Test.YtnfbcfflkphbiaaGreatDoorA06
import Derived.Laws.Runes
import Derived.Test.YtnfbcfflkphbiaaGreatDoorA03
import Derived.Laws.RangeString
namespace Go.Proofs.YtnfbcfflkphbiaaGreatDoor
open Go Go.Proofs Tryz
set_option linter.all false
set_option maxRecDepth 100000
set_option maxHeartbeats 8000000
theorem InStr.len {V : VL} {s : Sl} {xs : List (List Nat)} (h : InStr V s xs) : s.n = xs.length := by
 rcases h with ⟨rfl, rfl⟩ | ⟨b, c, rfl, _⟩ <;> rfl
theorem InStr.blk {V : VL} {s : Sl} {xs : List (List Nat)} (h : InStr V s xs) (h0 : 0 < xs.length) : ∃ b c, s = ⟨some ⟨b, 0, none⟩, xs.length, c⟩ ∧ SRB b c xs ∈ V := by
 rcases h with ⟨rfl, rfl⟩ | ⟨b, c, h1, h2, _⟩
 · simp at h0
 · exact ⟨b, c, h1, h2⟩
theorem strs_get {xs : List (List Nat)} {i : Nat} {x : List Nat} (h : xs[i]? = some x) : (strs xs)[i]? = some (.string (sb x)) := by
 simp [strs, h]
theorem same_ok (V : VL) (s1 s2 : Sl) (xs : List (List Nat)) (h1 : InStr V s1 xs) (h2 : InStr V s2 xs) (hl : xs.length ≤ 1000000) :
  Fn prog 53 [s1.v, s2.v] (XH V []) (fun v H' => v = .bool true ∧ H' = XH V []) := by
 have e1 := h1.len
 have e2 := h2.len
 refine zo func53 rfl rfl rfl ?_
 intro w
 refine gg 12 ?_
 refine sne0 (h := ?_) (hc := by omega)
 refine gg 14 ?_
 refine zw (σ := Nat) (fun i => [(0, s1.v), (1, s2.v), (12, s1.v), (13, .int .i64 (s1.n : Nat)), (14, .int .i64 (i : Nat))]) (fun _ => XH V []) (fun i => i ≤ xs.length) (fun i => xs.length - i) 0 (Nat.zero_le _) suT (Wk.refl _) ?_
 rintro i hi
 change i ≤ xs.length at hi
 refine zt (XH V []) [(0, s1.v), (1, s2.v), (12, s1.v), (13, .int .i64 (s1.n : Nat)), (14, .int .i64 (i : Nat))] rfl rfl ?_
 by_cases hlt : i < xs.length
 ·
  refine zd (zi ?_)
  refine slt1 (h := ?_) (hc := by omega)
  refine ze ?_
  refine zf ?_
  obtain ⟨b1, c1, rfl, hm1⟩ := h1.blk omT
  obtain ⟨b2, c2, rfl, hm2⟩ := h2.blk omT
  obtain ⟨x, hx⟩ : ∃ x, xs[i]? = some x := ⟨xs[i], List.getElem?_eq_getElem hlt⟩
  refine gg 9 ?_
  refine sqz (zy (i := i) rfl rfl rfl omT rfl) (sqz (q_ldbf (hh := ⟨List.mem_append_left _ hm1⟩) (i := i) rfl omT (strs_get hx)) (gg 9 ?_))
  refine sqz (zy (i := i) rfl rfl rfl omT rfl) (sqz (q_ldbf (hh := ⟨List.mem_append_left _ hm2⟩) (i := i) rfl omT (strs_get hx)) ?_)
  refine sqz (q_sne (r := false) rfl rfl (by simp)) ?_
  refine gg 10 ?_
  exact zh (i + 1) (by show i + 1 ≤ xs.length; omega) omT suT (Wk.refl _)
 ·
  refine zd (zi ?_)
  refine slt0 (h := ?_) (hc := by omega)
  refine gg 15 ?_
  exact zm rfl rfl (Wk.refl _) ⟨rfl, rfl⟩
structure EQr (V : VL) (r s : ER) : Prop where
 k : r.k = s.k
 an : r.an = s.an
 tg : r.tg = s.tg
 va : r.va = s.va
 ver : r.ver = s.ver
 maj : r.maj = s.maj
 min : r.min = s.min
 hs : ∃ xs, InStr V r.hs xs ∧ InStr V s.hs xs ∧ xs.length ≤ 1000000
 ps : ∃ xs, InStr V r.ps xs ∧ InStr V s.ps xs ∧ xs.length ≤ 1000000
 sty : r.sty = s.sty
 im : r.k ≠ 3 → r.im = s.im
 qu : r.qu = s.qu
theorem EQr.clean {V : VL} {r s : ER} (h : EQr V r s) : EQr V (zZ r) (zZ s) := by
 obtain ⟨k, an, tg, va, ver, maj, min, hs, ps, sty, im, qu⟩ := h
 exact ⟨k, an, tg, va, ver, maj, min, hs, ps, sty, im, qu⟩
def EQs (V : VL) (rs ss : List ER) : Prop := rs.length = ss.length ∧ ∀ (i : Nat) (r s : ER), rs[i]? = some r → ss[i]? = some s → EQr V r s
theorem EQs.clean {V : VL} {rs ss : List ER} (h : EQs V rs ss) : EQs V (rs.map zZ) (ss.map zZ) := by
 refine ⟨by simp [h.1], fun i r s h1 h2 => ?_⟩
 rw [List.getElem?_map] at h1 h2
 cases g1 : rs[i]? with
 | none => rw [g1] at h1; cases h1
 | some r' =>
  cases g2 : ss[i]? with
  | none => rw [g2] at h2; cases h2
  | some s' =>
   rw [g1] at h1
   rw [g2] at h2
   cases h1
   cases h2
   exact (h.2 i r' s' g1 g2).clean
theorem no11 {rs : List ER} (h : ∀ r ∈ rs, r.k ≠ 11) : ∀ r ∈ rs.map zZ, r.k ≠ 11 := by
 intro r hr
 obtain ⟨r', h1, rfl⟩ := List.mem_map.1 hr
 exact h r' h1
theorem Same_ok (V : VL) (ab ac bb bc : Nat) (rs ss : List ER) (hE : EQs V rs ss) (h1 : ∀ r ∈ rs, r.k ≠ 11) (h2 : ∀ r ∈ ss, r.k ≠ 11) (hpos : 0 < rs.length) (hln : rs.length ≤ 1000) (hb1 : rs.length ≤ ac) (hb2 : ss.length ≤ bc) :
  Fn prog 24 [.slice (some ⟨ab, 0, none⟩) rs.length ac, .slice (some ⟨bb, 0, none⟩) ss.length bc, .int .i64 5] (ERB ab ac rs :: ERB bb bc ss :: XH V [])
   (fun v H' => v = .bool true ∧ H' = ERB ab ac rs :: ERB bb bc ss :: XH V []) := by
 have hlen := hE.1
 have hC := hE.clean
 refine zo func24 rfl rfl rfl ?_
 intro w
 refine gg 8 ?_
 refine za rfl rfl rfl (clean_ok ab ac rs h1 hpos hln) ?_
 rintro _ _ ⟨ca, cc, rfl, rfl, g1, g2⟩
 refine lS ?_
 refine smv ?_
 refine za rfl rfl rfl (clean_ok bb bc ss h2 omT omT) ?_
 rintro _ _ ⟨cb, cd, rfl, rfl, g3, g4⟩
 refine lS ?_
 refine gg 11 ?_
 refine sne0 (h := ?_) (hc := by omega)
 refine gg 14 ?_
 refine zw (σ := Nat) (fun i => [(0, .slice (some ⟨ca, 0, none⟩) rs.length cc), (1, .slice (some ⟨cb, 0, none⟩) ss.length cd), (2, .int .i64 5), (20, .slice (some ⟨ca, 0, none⟩) rs.length cc), (21, .int .i64 (rs.length : Nat)), (22, .int .i64 (i : Nat))]) (fun _ => ERB ab ac rs :: ERB bb bc ss :: ERB ca cc (rs.map zZ) :: ERB cb cd (ss.map zZ) :: XH V []) (fun i => i ≤ rs.length) (fun i => rs.length - i) 0 (Nat.zero_le _) suT (Wk.toT (XH V []) [ab, bb, ca, cb] wlT) ?_
 rintro i hi
 change i ≤ rs.length at hi
 refine zt (ERB ab ac rs :: ERB bb bc ss :: ERB ca cc (rs.map zZ) :: ERB cb cd (ss.map zZ) :: XH V []) ([(0, .slice (some ⟨ca, 0, none⟩) rs.length cc), (1, .slice (some ⟨cb, 0, none⟩) ss.length cd), (2, .int .i64 5), (20, .slice (some ⟨ca, 0, none⟩) rs.length cc), (21, .int .i64 (rs.length : Nat)), (22, .int .i64 (i : Nat))]) rfl rfl ?_
 by_cases hlt : i < rs.length
 ·
  refine gg 5 ?_
  obtain ⟨r, hr⟩ : ∃ r, (rs.map zZ)[i]? = some r := ⟨_, List.getElem?_eq_getElem (by simpa using hlt)⟩
  obtain ⟨s, hs⟩ : ∃ s, (ss.map zZ)[i]? = some s := ⟨_, List.getElem?_eq_getElem (by simp; omega)⟩
  have hq := hC.2 i r s hr hs
  obtain ⟨k, an, tg, va, ver, maj, min, ⟨xs, p1, p2, p3⟩, ⟨ys, p4, p5, p6⟩, sty, im, qu⟩ := hq
  refine gg 9 ?_
  refine sqz (zy (i := i) rfl rfl rfl omT rfl) (sqz (q_lder (i := i) rfl omT hr) (zk rfl rfl clT ?_))
  intro b8
  refine sas ?_
  first | refine stw rfl rfl ?_ | refine sts rfl rfl ?_
  refine gg 6 ?_
  refine sqz (zy (i := i) rfl rfl rfl omT rfl) (sqz (q_lder (i := i) rfl omT hs) (zk rfl rfl clT ?_))
  intro b9
  first | refine stw rfl rfl ?_ | refine sts rfl rfl ?_
  refine gg 9 ?_
  refine sne0 (h := ?_) (hc := k)
  refine gg 5 ?_
  refine sqz (q_sne (r := false) rfl rfl (by simp [an])) ?_
  refine gg 6 ?_
  refine sqz (q_sne (r := false) rfl rfl (by simp [tg])) ?_
  refine gg 6 ?_
  refine sqz (q_sne (r := false) rfl rfl (by simp [va])) ?_
  refine gg 6 ?_
  refine sqz (q_bne (r := false) underlying4 rfl rfl (by simp [ver])) ?_
  refine gg 6 ?_
  refine sne0 (h := ?_) (hc := maj)
  refine gg 6 ?_
  refine sne0 (h := ?_) (hc := min)
  refine gg 6 ?_
  refine za rfl rfl rfl (same_ok V r.hs s.hs xs p1 p2 p3) ?_
  rintro _ _ ⟨rfl, rfl⟩
  refine gg 7 ?_
  refine za rfl rfl rfl (same_ok V r.ps s.ps ys p4 p5 p6) ?_
  rintro _ _ ⟨rfl, rfl⟩
  refine gg 11 ?_
  refine sqz (q_and (r := 1) rfl rfl (by decide)) ?_
  refine sgt1 (h := ?_) (hc := by decide)
  refine gg 5 ?_
  refine sne0 (h := ?_) (hc := sty)
  refine gg 6 ?_
  rcases (show r.k = 3 ∨ r.k = 4 ∨ (r.k ≠ 3 ∧ r.k ≠ 4) by omega) with hk | hk | ⟨hk, hk2⟩
  ·
   refine gg 4 ?_
   refine seq1 (h := ?_) (hc := hk)
   refine gg 13 ?_
   refine sqz (q_and (r := 0) rfl rfl (by decide)) ?_
   refine sgt0 (h := ?_) (hc := by decide)
   refine gg 41 ?_
   exact zh (i + 1) (by show i + 1 ≤ rs.length; omega) omT suT (Wk.toT (XH V []) [ab, bb, ca, cb] wlT)
  ·
   refine gg 4 ?_
   refine kz (h := ?_) (hc := by omega)
   refine gg 3 ?_
   refine seq1 (h := ?_) (hc := hk)
   refine gg 9 ?_
   refine sqz (q_and (r := 0) rfl rfl (by decide)) ?_
   refine sgt0 (h := ?_) (hc := by decide)
   refine gg 41 ?_
   exact zh (i + 1) (by show i + 1 ≤ rs.length; omega) omT suT (Wk.toT (XH V []) [ab, bb, ca, cb] wlT)
  ·
   refine gg 4 ?_
   refine kz (h := ?_) (hc := hk)
   refine gg 3 ?_
   refine kz (h := ?_) (hc := hk2)
   refine gg 24 ?_
   refine sqz (q_and (r := 4) rfl rfl (by decide)) ?_
   refine sgt1 (h := ?_) (hc := by decide)
   refine gg 6 ?_
   refine sqz (q_bne (r := false) underlying4 rfl rfl (by simp [im hk])) ?_
   refine gg 5 ?_
   refine sqz (q_bne (r := false) underlying4 rfl rfl (by simp [qu])) ?_
   refine gg 13 ?_
   exact zh (i + 1) (by show i + 1 ≤ rs.length; omega) omT suT (Wk.toT (XH V []) [ab, bb, ca, cb] wlT)
 ·
  refine gg 18 ?_
  exact zm rfl rfl (Wk.toT (XH V []) [ab, bb] wlT) ⟨rfl, rfl⟩
theorem ndSame_ok (V : VL) (ab ac bb bc : Nat) (rs ss : List ER) (hE : EQs V rs ss) (h1 : ∀ r ∈ rs, r.k ≠ 11) (h2 : ∀ r ∈ ss, r.k ≠ 11) (hpos : 0 < rs.length) (hln : rs.length ≤ 1000) (hb1 : rs.length ≤ ac) (hb2 : ss.length ≤ bc) :
  Fn prog 9 [.slice (some ⟨ab, 0, none⟩) rs.length ac, .slice (some ⟨bb, 0, none⟩) ss.length bc] (ERB ab ac rs :: ERB bb bc ss :: XH V [])
   (fun v H' => v = .bool true ∧ H' = XH V []) := by
 have hlen := hE.1
 have hC := hE.clean
 have hl1 : (rs.map zZ).length = rs.length := List.length_map ..
 have hl2 : (ss.map zZ).length = ss.length := List.length_map ..
 refine zo func9 rfl rfl rfl ?_
 intro w
 refine gg 8 ?_
 refine za rfl rfl rfl (clean_ok ab ac rs h1 hpos hln) ?_
 rintro _ _ ⟨ca, cc, rfl, rfl, g1, g2⟩
 refine lS ?_
 refine smv ?_
 refine za rfl rfl rfl (clean_ok bb bc ss h2 omT omT) ?_
 rintro _ _ ⟨cb, cd, rfl, rfl, g3, g4⟩
 refine lS ?_
 refine gg 6 ?_
 rw [← hl1, ← hl2]
 have hSame := Same_ok V ca cc cb cd (rs.map zZ) (ss.map zZ) hC (no11 h1) (no11 h2) omT omT omT omT
 refine gg 3 ?_
 refine za rfl rfl rfl (hSame) ?_
 rintro _ _ ⟨rfl, rfl⟩
 refine lS ?_
 refine gg 15 ?_
 refine zw (σ := Nat) (fun i => [(0, .slice (some ⟨ca, 0, none⟩) (rs.map zZ).length cc), (1, .slice (some ⟨cb, 0, none⟩) (ss.map zZ).length cd), (15, .slice (some ⟨ca, 0, none⟩) (rs.map zZ).length cc), (16, .int .i64 ((rs.map zZ).length : Nat)), (17, .int .i64 (i : Nat))]) (fun _ => ERB ca cc (rs.map zZ) :: ERB cb cd (ss.map zZ) :: XH V []) (fun i => i ≤ rs.length) (fun i => rs.length - i) 0 (Nat.zero_le _) suT (Wk.toT (XH V []) [ca, cb] wlT) ?_
 rintro i hi
 change i ≤ rs.length at hi
 refine zt (ERB ca cc (rs.map zZ) :: ERB cb cd (ss.map zZ) :: XH V []) ([(0, .slice (some ⟨ca, 0, none⟩) (rs.map zZ).length cc), (1, .slice (some ⟨cb, 0, none⟩) (ss.map zZ).length cd), (15, .slice (some ⟨ca, 0, none⟩) (rs.map zZ).length cc), (16, .int .i64 ((rs.map zZ).length : Nat)), (17, .int .i64 (i : Nat))]) rfl rfl ?_
 by_cases hlt : i < rs.length
 ·
  refine zd (zi ?_)
  refine slt1 (h := ?_) (hc := by omega)
  refine ze ?_
  refine zf ?_
  obtain ⟨r, hr⟩ : ∃ r, (rs.map zZ)[i]? = some r := ⟨_, List.getElem?_eq_getElem (by simpa using hlt)⟩
  obtain ⟨s, hs⟩ : ∃ s, (ss.map zZ)[i]? = some s := ⟨_, List.getElem?_eq_getElem (by simp; omega)⟩
  have hq := hC.2 i r s hr hs
  have hk := hq.im
  refine gg 9 ?_
  refine sqz (zy (i := i) rfl rfl rfl omT rfl) (sqz (q_lder (i := i) rfl omT hr) (zk rfl rfl clT ?_))
  intro b6
  refine sas ?_
  first | refine stw rfl rfl ?_ | refine sts rfl rfl ?_
  refine ze ?_
  refine zf ?_
  by_cases h4 : r.k = 4
  ·
   refine gg 4 ?_
   refine deq1 (h := ?_) (hc := h4)
   refine gg 5 ?_
   refine dqz (zy (i := i) rfl rfl rfl omT rfl) (dfa ?_)
   refine dqz (q_lderf (i := i) (j := 16) rfl omT omT hs rfl) ?_
   refine dqz (q_bne (r := false) underlying4 rfl rfl (by simp [hk omT])) ?_
   refine gg 11 ?_
   exact zh (i + 1) (by show i + 1 ≤ rs.length; omega) omT suT (Wk.toT (XH V []) [ca, cb] wlT)
  ·
   refine gg 4 ?_
   refine deq0 (h := ?_) (hc := h4)
   refine gg 20 ?_
   exact zh (i + 1) (by show i + 1 ≤ rs.length; omega) omT suT (Wk.toT (XH V []) [ca, cb] wlT)
 ·
  refine zd (zi ?_)
  refine slt0 (h := ?_) (hc := by omega)
  refine gg 15 ?_
  exact zm rfl rfl (Wk.toT (XH V []) [] (by exact rfl)) ⟨rfl, rfl⟩
structure DR where
 k : Int
 va : List Nat
 an : List Nat
 tg : List Nat
 sty : Int
 kids : Sl
 ex : Bool
 en : Bool
 ver : Bool
 maj : Int
 min : Int
 hs : Sl
 ps : Sl
def drC (d : DR) : List Value := [.int .i64 d.k, .string (sb d.va), .string (sb d.an), .string (sb d.tg), .int .i64 d.sty, d.kids.v, .bool d.ex, .bool d.en, .bool d.ver, .int .i64 d.maj, .int .i64 d.min, d.hs.v, d.ps.v]
def drT (d : DR) : List Value := [.int .i64 d.k, .string (sb d.va), .string (sb d.an), .string (sb d.tg), .int .i64 d.sty, d.kids.v]
def drL (ds : List DR) : List Value := ds.flatMap drC
theorem wx (d : DR) : (drC d).length = 13 := rfl
theorem drL_length (ds : List DR) : (drL ds).length = ds.length * 13 := by
 induction ds with
 | nil => rfl
 | cons d ds ih =>
  have : drL (d :: ds) = drC d ++ drL ds := rfl
  rw [this, List.length_append, ih, wx, List.length_cons]
  omega
theorem drL_app (x y : List DR) : drL (x ++ y) = drL x ++ drL y := by simp [drL]
theorem drC_one (d : DR) : ∀ u ∈ drC d, u.oneCell' = true := by
 intro u hu
 simp only [drC, List.mem_cons, List.not_mem_nil, or_false] at hu
 rcases hu with rfl | rfl | rfl | rfl | rfl | rfl | rfl | rfl | rfl | rfl | rfl | rfl | rfl <;> rfl
theorem drL_get : ∀ {ds : List DR} {i : Nat} {d : DR} {j : Nat}, ds[i]? = some d → j < 13 → (drL ds)[i * 13 + j]? = (drC d)[j]?
 | [], i, d, j, h, _ => by simp at h
 | u :: ds, 0, d, j, h, hj => by
  obtain rfl : u = d := by simpa using h
  have : drL (u :: ds) = drC u ++ drL ds := rfl
  rw [this, Nat.zero_mul, Nat.zero_add, List.getElem?_append_left (by rw [wx]; exact hj)]
 | u :: ds, i + 1, d, j, h, hj => by
  have ih := drL_get (ds := ds) (i := i) (j := j) (by simpa using h) hj
  have : drL (u :: ds) = drC u ++ drL ds := rfl
  rw [this, List.getElem?_append_right (by rw [wx]; omega), wx, show (i + 1) * 13 + j - 13 = i * 13 + j by omega]
  exact ih
abbrev DRB (b c : Nat) (ds : List DR) : Nat × Blk := (b, .buf 29 (c * 13) (drL ds))
def DOH : Option (Nat × Nat) → List DR → zl
 | none, _ => []
 | some (b, c), ds => [DRB b c ds]
section
variable {P : Program} {n : Nat} {ds : List Deferred} {pu : Bool} {w0 : World} {D : List Nat} {H : zl} {E : Env}
variable {d : Option Nat} {ty : TypeId} {ps : String} {af : Array Edge} {g : Option (Nat × Bool)} {x y : Operand}
theorem q_lddr {t b a i m : Nat} {e : TypeId} {rs : List DR} {r : DR} [ht : qR P t 13] (h : opv E x = some (.pointer (some ⟨b, a, none⟩))) [hh : Has H b (.buf e m (drL rs))] (ha : a = i * 13) (hi : rs[i]? = some r) :
  Q1 P n ds pu w0 D H E ⟨d, .load t x, ty, ps, af, g⟩ (.agg (drC r).toArray) := by
 subst ha
 intro a w he hw
 obtain ⟨dd, ii, _, _, h5, h6⟩ := ht.is
 have hlt : i < rs.length := (List.getElem?_eq_some_iff.1 hi).1
 have hln := drL_length rs
 have := we (P := P) (m := 13) (i := i * 13) (l := drC r) hw.hok hh.mem (Nat.zero_le _) (by simp only [Blk.known]; omega) rfl (fun j hj => by simp only [Blk.cell, nth]; exact drL_get hi hj)
 simp [execOp, he.eval h, Instr.loadAt, Instr.sureAddr, loadVar, kO, zX h5, h6, this]
end
theorem like_csb {t : TypeId} {l : List Value} {n : Nat} (h : n = l.length) : (Blk.cs t l []).like (.buf t n l) := by
 subst h
 exact Blk.likeS ⟨rfl, rfl, rfl, rfl, rfl, Nat.le_refl _, fun i _ hi => ⟨Nat.zero_le _, hi, by simp [Blk.cell, look]⟩⟩
abbrev er0 : ER := { k := 0, a1 := 0, a2 := 0, a3 := 0, e1 := 0, e2 := 0, e3 := 0, enc := 0, ver := false, maj := 0, min := 0, hs := Sl.nil, ps := Sl.nil, an := [], tg := [], va := [], im := false, qu := false, sty := 0, c1 := [], c2 := [], c3 := [], c4 := [] }
abbrev erX (k : Int) : ER := { er0 with k := k }
abbrev erDS (d : DR) : ER := { er0 with k := 3, ver := d.ver, maj := d.maj, min := d.min, hs := d.hs, ps := d.ps, im := !d.ex }
abbrev erSC (d : DR) : ER := { er0 with k := 6, an := d.an, tg := d.tg, va := d.va, im := decide (d.sty = 1), qu := decide (d.sty = 3), sty := d.sty }
abbrev erDE (d : DR) : ER := { er0 with k := 4, im := !d.en }
def evD (ds : List DR) : List ER := ds.flatMap fun d => [erDS d, erSC d, erDE d]
theorem evD_len (ds : List DR) : (evD ds).length = 3 * ds.length := by
 induction ds with
 | nil => rfl
 | cons d ds ih =>
  have : evD (d :: ds) = [erDS d, erSC d, erDE d] ++ evD ds := rfl
  rw [this, List.length_append, ih]
  simp
  omega
theorem add_ok (d : DR) (ob oc : Nat) (rs : List ER) (hk : d.k = 1) (htg : d.tg = []) (hs : d.sty = 1 ∨ d.sty = 3) (h1 : rs.length ≤ oc) (h2 : oc ≤ 9223372036854775807) (hl : rs.length ≤ 1000) :
   Fn prog 25 [.agg (drT d).toArray, .slice (some ⟨ob, 0, none⟩) rs.length oc] [ERB ob oc rs]
    (fun v H' => ∃ cb cc, v = .slice (some ⟨cb, 0, none⟩) (rs.length + 1) cc ∧ H' = [ERB cb cc (rs ++ [erSC d])] ∧ rs.length + 1 ≤ cc ∧ cc ≤ 9223372036854775807) := by
 obtain ⟨k, va, an, tg, sty, kids, ex, en, ver, maj, min, hhs, hps⟩ := d
 dsimp only at hk htg hs
 subst hk htg
 rcases hs with rfl | rfl
 · refine zo func25 rfl rfl rfl ?_
   intro w
   refine zd (zi (ku rfl rfl rfl clT ?_))
   intro b2
   refine gg 7 ?_
   refine sqz (q_seq (r := true) rfl rfl (decide_eq_true rfl)) (gg 58 ?_)
   refine sqz (zu (l := [_, _, _, _, _, _, _, _, _, _, _, _, _, _, _, _, _, _, _, _, _, _, _]) (zs := [zI, zI, zI, zI, zI, zI, zI, zI, .bool false, zI, zI, zS, zS, .string ⟨#[]⟩, .string ⟨#[]⟩, .string ⟨#[]⟩, .bool false, .bool false, zI, .string ⟨#[]⟩, .string ⟨#[]⟩, .string ⟨#[]⟩, .string ⟨#[]⟩]) [0, 1, 4, 7, 8, 9, 10, 11, 12, 13, 14, 15, 16, 17, 18, 19, 20, 21, 22] rfl rfl kR) ?_
   refine s_bsw (sz := 23) (l := erC (erSC ⟨1, va, an, [], 1, kids, ex, en, ver, maj, min, hhs, hps⟩)) rfl rfl rfl rfl rfl rfl rfl ?_
   intro s1
   refine zY (b := ob) (n0 := rs.length) (cap := oc) (sz := 23) (bs := 264) (news := erC (erSC ⟨1, va, an, [], 1, kids, ex, en, ver, maj, min, hhs, hps⟩)) rfl rfl rfl rfl rfl (by rw [qt]) h1 h2 rfl (zN (k := .cs 91 (erC (erSC ⟨1, va, an, [], 1, kids, ex, en, ver, maj, min, hhs, hps⟩)) []) (Nat.le_refl _) (Nat.le_refl _) (fun j u hj => by simp only [Blk.cell, look, nth, Nat.zero_add]; exact hj)) rfl (erC_one _) omT omT ?_
   intro cb cc g1 g2
   refine gg 4 ?_
   exact zm rfl rfl (Wk.to [cb] (by exact ⟨rfl, .inl (by rw [erL_app]; simp [erL]), trivial⟩)) ⟨cb, cc, rfl, rfl, g1, g2⟩
 · refine zo func25 rfl rfl rfl ?_
   intro w
   refine zd (zi (ku rfl rfl rfl clT ?_))
   intro b2
   refine gg 7 ?_
   refine sqz (q_seq (r := true) rfl rfl (decide_eq_true rfl)) (gg 58 ?_)
   refine sqz (zu (l := [_, _, _, _, _, _, _, _, _, _, _, _, _, _, _, _, _, _, _, _, _, _, _]) (zs := [zI, zI, zI, zI, zI, zI, zI, zI, .bool false, zI, zI, zS, zS, .string ⟨#[]⟩, .string ⟨#[]⟩, .string ⟨#[]⟩, .bool false, .bool false, zI, .string ⟨#[]⟩, .string ⟨#[]⟩, .string ⟨#[]⟩, .string ⟨#[]⟩]) [0, 1, 4, 7, 8, 9, 10, 11, 12, 13, 14, 15, 16, 17, 18, 19, 20, 21, 22] rfl rfl kR) ?_
   refine s_bsw (sz := 23) (l := erC (erSC ⟨1, va, an, [], 3, kids, ex, en, ver, maj, min, hhs, hps⟩)) rfl rfl rfl rfl rfl rfl rfl ?_
   intro s1
   refine zY (b := ob) (n0 := rs.length) (cap := oc) (sz := 23) (bs := 264) (news := erC (erSC ⟨1, va, an, [], 3, kids, ex, en, ver, maj, min, hhs, hps⟩)) rfl rfl rfl rfl rfl (by rw [qt]) h1 h2 rfl (zN (k := .cs 91 (erC (erSC ⟨1, va, an, [], 3, kids, ex, en, ver, maj, min, hhs, hps⟩)) []) (Nat.le_refl _) (Nat.le_refl _) (fun j u hj => by simp only [Blk.cell, look, nth, Nat.zero_add]; exact hj)) rfl (erC_one _) omT omT ?_
   intro cb cc g1 g2
   refine gg 4 ?_
   exact zm rfl rfl (Wk.to [cb] (by exact ⟨rfl, .inl (by rw [erL_app]; simp [erL]), trivial⟩)) ⟨cb, cc, rfl, rfl, g1, g2⟩
theorem sevents_ok (db dc : Nat) (ds : List DR) (hk : ∀ d ∈ ds, d.k = 1 ∧ d.tg = [] ∧ (d.sty = 1 ∨ d.sty = 3)) (hl : ds.length ≤ 100) :
  Fn prog 10 [.slice (some ⟨db, 0, none⟩) ds.length dc] [DRB db dc ds]
   (fun v H' => ∃ ob oc ss, v = .slice (some ⟨ob, 0, none⟩) ss.length oc ∧ H' = [ERB ob oc ss] ∧ ss = erX 1 :: (evD ds ++ [erX 2]) ∧ ss.length ≤ oc ∧ oc ≤ 9223372036854775807) := by
 refine zo func10 rfl rfl rfl ?_
 intro w
 refine gg 7 ?_
 refine sqz (zu (l := [_, _, _, _, _, _, _, _, _, _, _, _, _, _, _, _, _, _, _, _, _, _, _]) (zs := [zI, zI, zI, zI, zI, zI, zI, zI, .bool false, zI, zI, zS, zS, .string ⟨#[]⟩, .string ⟨#[]⟩, .string ⟨#[]⟩, .bool false, .bool false, zI, .string ⟨#[]⟩, .string ⟨#[]⟩, .string ⟨#[]⟩, .string ⟨#[]⟩]) [0, 1, 4, 7, 8, 9, 10, 11, 12, 13, 14, 15, 16, 17, 18, 19, 20, 21, 22] rfl rfl kR) ?_
 refine s_bsw (sz := 23) (l := erC (erX 1)) rfl rfl rfl rfl rfl rfl rfl ?_
 intro s0
 refine gg 12 ?_
 refine zw (σ := Nat × Nat × Nat) (fun x => [(3, .slice (some ⟨x.2.1, 0, none⟩) (1 + 3 * x.1) x.2.2), (8, .slice (some ⟨db, 0, none⟩) ds.length dc), (9, .int .i64 (ds.length : Nat)), (10, .int .i64 (x.1 : Nat))]) (fun x => [DRB db dc ds, ERB x.2.1 x.2.2 (erX 1 :: evD (ds.take x.1))]) (fun x => x.1 ≤ ds.length ∧ 1 + 3 * x.1 ≤ x.2.2 ∧ x.2.2 ≤ 9223372036854775807) (fun x => ds.length - x.1) (0, s0, 1) ⟨Nat.zero_le _, by dsimp only; decide, by dsimp only; decide⟩ suT (Wk.to [db, s0] (by exact ⟨rfl, .inl rfl, rfl, .inr (like_csb rfl), trivial⟩)) ?_
 rintro ⟨i, ob, oc⟩ ⟨hi, h1, h2⟩
 dsimp only at hi h1 h2
 refine zt [DRB db dc ds, ERB ob oc (erX 1 :: evD (ds.take i))] [(3, .slice (some ⟨ob, 0, none⟩) (1 + 3 * i) oc), (8, .slice (some ⟨db, 0, none⟩) ds.length dc), (9, .int .i64 (ds.length : Nat)), (10, .int .i64 (i : Nat))] rfl rfl ?_
 by_cases hlt : i < ds.length
 ·
  refine gg 5 ?_
  obtain ⟨d, hd⟩ : ∃ d, ds[i]? = some d := ⟨_, List.getElem?_eq_getElem hlt⟩
  have hkd := hk d (List.mem_of_getElem? hd)
  generalize hA : (erX 1 :: evD (ds.take i)) = A
  have hAl : A.length = 1 + 3 * i := by rw [← hA, List.length_cons, evD_len, List.length_take]; omega
  have hA3 : (erX 1 :: evD (ds.take (i + 1))) = A ++ [erDS d, erSC d, erDE d] := by rw [← hA, List.take_add_one, hd]; simp [evD]
  rw [← hAl]
  refine gg 8 ?_
  refine sqz (zy (i := i) rfl rfl rfl omT rfl) (sqz (q_lddr (i := i) rfl omT hd) (zk rfl rfl clT ?_))
  intro b5
  first | refine stw rfl rfl ?_ | refine sts rfl rfl ?_
  refine gg 18 ?_
  refine sqz (zu (l := [_, _, _, _, _, _, _, _, _, _, _, _, _, _, _, _, _, _, _, _, _, _, _]) (zs := [zI, zI, zI, zI, zI, zI, zI, zI, .bool false, zI, zI, zS, zS, .string ⟨#[]⟩, .string ⟨#[]⟩, .string ⟨#[]⟩, .bool false, .bool false, zI, .string ⟨#[]⟩, .string ⟨#[]⟩, .string ⟨#[]⟩, .string ⟨#[]⟩]) [0, 1, 4, 7, 8, 9, 10, 11, 12, 13, 14, 15, 16, 17, 18, 19, 20, 21, 22] rfl rfl kR) ?_
  refine s_bsw (sz := 23) (l := erC (erDS d)) rfl rfl rfl rfl rfl rfl rfl ?_
  intro s1
  refine zY (b := ob) (n0 := A.length) (cap := oc) (sz := 23) (bs := 264) (news := erC (erDS d)) rfl rfl rfl rfl rfl (qt A) omT h2 rfl (zN (k := .cs 91 (erC (erDS d)) []) (Nat.le_refl _) (Nat.le_refl _) (fun j u hj => by simp only [Blk.cell, look, nth, Nat.zero_add]; exact hj)) rfl (erC_one _) omT omT ?_
  intro ob1 oc1 g1 g2
  refine gg 3 ?_
  refine kq (E' := [(3, .slice (some ⟨ob1, 0, none⟩) (A ++ [erDS d]).length oc1), (5, pV b5), (8, .slice (some ⟨db, 0, none⟩) ds.length dc), (9, .int .i64 (ds.length : Nat)), (10, .int .i64 (i : Nat))]) (H' := [(b5, .cs 29 (drC d) []), DRB db dc ds, ERB ob1 oc1 (A ++ [erDS d])]) (by rw [show (A ++ [erDS d]).length = A.length + 1 by simp]; repeat (first | exact trivial | refine ⟨rfl, ?_⟩)) (Wk.to [b5, db, ob1] (by exact ⟨rfl, .inl rfl, rfl, .inl rfl, rfl, .inl (by rw [erL_app]; simp [erL]), trivial⟩)) ?_
  refine ke (fun i => i == 3 || i == 8 || i == 9) (fun _ => false) ([(b5, .cs 29 (drC d) [])]) zF ?_
  refine mqh 0 rfl kR rfl rfl (fun _ => zM rfl) ?_
  refine mqh 1 rfl kR rfl rfl (fun _ => zG (l := drT d) rfl rfl rfl kR) ?_
  refine mqh 2 rfl kR rfl rfl (fun _ => zj rfl) ?_
  refine mqh 4 rfl kR rfl rfl (fun _ => zM rfl) ?_
  refine mqh 5 rfl kR rfl rfl (fun _ => zp rfl rfl rfl rfl) ?_
  refine mqh 6 rfl kR rfl rfl (fun _ => q_not rfl) ?_
  refine mqh 7 rfl kR rfl rfl (fun _ => zu (l := [_, _, _, _, _, _, _, _, _, _, _, _, _, _, _, _, _, _, _, _, _, _, _]) (zs := [zI, zI, zI, zI, zI, zI, zI, zI, .bool false, zI, zI, zS, zS, .string ⟨#[]⟩, .string ⟨#[]⟩, .string ⟨#[]⟩, .bool false, .bool false, zI, .string ⟨#[]⟩, .string ⟨#[]⟩, .string ⟨#[]⟩, .string ⟨#[]⟩]) [0, 1, 4, 7, 8, 9, 10, 11, 12, 13, 14, 15, 16, 17, 18, 19, 20, 21, 22] rfl rfl kR) ?_
  refine mqls [3, 8] kR ⟨fun hcl => ⟨_, rfl, ?_⟩, fun hcl => ⟨_, rfl, ?_⟩, trivial⟩
  ·
   refine za rfl rfl rfl (add_ok d ob1 oc1 (A ++ [erDS d]) hkd.1 hkd.2.1 hkd.2.2 (by simp; omega) g2 (by simp; omega)) ?_
   rintro _ _ ⟨ob2, oc2, rfl, rfl, g3, g4⟩
   refine lS ?_
   refine mqn 3 hcl ?_
   refine mql 8 rfl kR (fun hcl => ?_)
   refine s_bsw (sz := 23) (l := erC (erDE d)) rfl rfl rfl rfl rfl rfl rfl ?_
   intro s1
   refine mqn 8 hcl ?_
   refine mql 9 rfl kR (fun hcl => ?_)
   refine zY (b := ob2) (n0 := (A ++ [erDS d]).length + 1) (cap := oc2) (sz := 23) (bs := 264) (news := erC (erDE d)) rfl rfl rfl rfl rfl (by rw [qt]; simp) g3 g4 rfl (zN (k := .cs 91 (erC (erDE d)) []) (Nat.le_refl _) (Nat.le_refl _) (fun j u hj => by simp only [Blk.cell, look, nth, Nat.zero_add]; exact hj)) rfl (erC_one _) (by simp; omega) (by simp; omega) ?_
   intro ob3 oc3 g5 g6
   refine mqn 9 hcl (mq 10 rfl kR rfl rfl (kB rfl) ?_)
   refine qJ kR (gg 6 ?_)
   exact zh (i + 1, ob3, oc3) ⟨omT, by simp at g5 ⊢; omega, g6⟩ omT (by
   rw [show (A ++ [erDS d]).length + 1 + 1 = 1 + 3 * (i + 1) by simp; omega]
   repeat (first | exact trivial | refine ⟨rfl, ?_⟩)) (Wk.to [db, ob3] (by exact ⟨rfl, .inl rfl, rfl, .inl (by rw [hA3]; simp [erL]), trivial⟩))
  ·
   refine s_bsw (sz := 23) (l := erC (erDE d)) rfl rfl rfl rfl rfl rfl rfl ?_
   intro s1
   refine mqn 8 hcl ?_
   refine mql 3 rfl kR (fun hcl => ?_)
   refine za rfl rfl rfl (add_ok d ob1 oc1 (A ++ [erDS d]) hkd.1 hkd.2.1 hkd.2.2 (by simp; omega) g2 (by simp; omega)) ?_
   rintro _ _ ⟨ob2, oc2, rfl, rfl, g3, g4⟩
   refine lS ?_
   refine mqn 3 hcl ?_
   refine mql 9 rfl kR (fun hcl => ?_)
   refine zY (b := ob2) (n0 := (A ++ [erDS d]).length + 1) (cap := oc2) (sz := 23) (bs := 264) (news := erC (erDE d)) rfl rfl rfl rfl rfl (by rw [qt]; simp) g3 g4 rfl (zN (k := .cs 91 (erC (erDE d)) []) (Nat.le_refl _) (Nat.le_refl _) (fun j u hj => by simp only [Blk.cell, look, nth, Nat.zero_add]; exact hj)) rfl (erC_one _) (by simp; omega) (by simp; omega) ?_
   intro ob3 oc3 g5 g6
   refine mqn 9 hcl (mq 10 rfl kR rfl rfl (kB rfl) ?_)
   refine qJ kR (gg 6 ?_)
   exact zh (i + 1, ob3, oc3) ⟨omT, by simp at g5 ⊢; omega, g6⟩ omT (by
   rw [show (A ++ [erDS d]).length + 1 + 1 = 1 + 3 * (i + 1) by simp; omega]
   repeat (first | exact trivial | refine ⟨rfl, ?_⟩)) (Wk.to [db, ob3] (by exact ⟨rfl, .inl rfl, rfl, .inl (by rw [hA3]; simp [erL]), trivial⟩))
 ·
  refine gg 5 ?_
  obtain rfl : i = ds.length := by omega
  rw [List.take_length]
  generalize hA : (erX 1 :: evD ds) = A
  have hAl : A.length = 1 + 3 * ds.length := by rw [← hA, List.length_cons, evD_len]; omega
  rw [← hAl]
  refine gg 10 ?_
  refine sqz (zu (l := [_, _, _, _, _, _, _, _, _, _, _, _, _, _, _, _, _, _, _, _, _, _, _]) (zs := [zI, zI, zI, zI, zI, zI, zI, zI, .bool false, zI, zI, zS, zS, .string ⟨#[]⟩, .string ⟨#[]⟩, .string ⟨#[]⟩, .bool false, .bool false, zI, .string ⟨#[]⟩, .string ⟨#[]⟩, .string ⟨#[]⟩, .string ⟨#[]⟩]) [0, 1, 4, 7, 8, 9, 10, 11, 12, 13, 14, 15, 16, 17, 18, 19, 20, 21, 22] rfl rfl kR) ?_
  refine s_bsw (sz := 23) (l := erC (erX 2)) rfl rfl rfl rfl rfl rfl rfl ?_
  intro s1
  refine zY (b := ob) (n0 := A.length) (cap := oc) (sz := 23) (bs := 264) (news := erC (erX 2)) rfl rfl rfl rfl rfl (qt A) omT h2 rfl (zN (k := .cs 91 (erC (erX 2)) []) (Nat.le_refl _) (Nat.le_refl _) (fun j u hj => by simp only [Blk.cell, look, nth, Nat.zero_add]; exact hj)) rfl (erC_one _) omT omT ?_
  intro ob1 oc1 g1 g2
  refine gg 4 ?_
  exact zm (H' := [ERB ob1 oc1 (A ++ [erX 2])]) rfl rfl (Wk.to [ob1] (by exact ⟨rfl, .inl (by rw [erL_app]; simp [erL]), trivial⟩)) ⟨ob1, oc1, A ++ [erX 2], by rw [List.length_append]; rfl, rfl, by rw [← hA]; rfl, by rw [List.length_append]; exact g1, g2⟩
section
variable {P : Program} {n : Nat} {ds : List Deferred} {pu : Bool} {w0 : World} {D : List Nat} {H H' : zl} {E : Env} {ops : Array Oper} {Q : Exit → Act → World → Prop} {Q' K : Act → World → Prop} {rest : List Oper} {v : Value}
variable {d : Option Nat} {ty : TypeId} {ps : String} {af : Array Edge} {g : Option (Nat × Bool)} {x y : Operand}
theorem zT {t t2 : TypeId} {X Y : List Nat} (hx : opv E x = some (.string (sb X))) (hy : opv E y = some (.string (sb Y))) (h : X.length + Y.length ≤ 9000000000000000000) :
  Q1 P n ds pu w0 D H E ⟨d, .binOp .add t x y t2, ty, ps, af, g⟩ (.string (sb (X ++ Y))) := by
 intro a w he _
 have : ¬ ((((sb X).size + (sb Y).size : Nat) : Int) > IntKind.i64.max) := by
  rw [kF, kF]
  have : IntKind.i64.max = 9223372036854775807 := by decide
  rw [this]
  omega
 simp only [execOp, he.eval hx, he.eval hy]
 simp only [eqGuard, binOp, Op.stringOp, if_neg this, sb_app]
 simp
theorem q_remn {t t2 : TypeId} {k : IntKind} {p q : Nat} (hx : opv E x = some (.int k (p : Int))) (hy : opv E y = some (.int k (q : Int))) (h : 0 < q) :
  Q1 P n ds pu w0 D H E ⟨d, .binOp .rem t x y t2, ty, ps, af, g⟩ (.int k ((p % q : Nat) : Int)) := by
 intro a w he _
 have h1 : ((p : Int).tmod (q : Int)) = ((p % q : Nat) : Int) := by rw [Int.tmod_eq_emod_of_nonneg omT]; exact (Int.natCast_emod p q).symm
 simp [execOp, he.eval hx, he.eval hy, eqGuard, binOp, Op.intDiv, show ¬ q = 0 by omega, ← h1]
theorem q_max {t : TypeId} {tt : Array TypeId} {k : IntKind} {p q r : Int} (hx : opv E x = some (.int k p)) (hy : opv E y = some (.int k q)) (h : (if q > p then q else p) = r) :
  Q1 P n ds pu w0 D H E ⟨d, .call ⟨.builtin .max, #[x, y], tt⟩, ty, ps, af, g⟩ (.int k r) := by
 subst h
 intro a w he _
 simp [execOp, resolve, invoke, builtin, he.eval hx, he.eval hy, Builtin.max_, Builtin.max2]
theorem q_min {t : TypeId} {tt : Array TypeId} {k : IntKind} {p q r : Int} (hx : opv E x = some (.int k p)) (hy : opv E y = some (.int k q)) (h : (if q < p then q else p) = r) :
  Q1 P n ds pu w0 D H E ⟨d, .call ⟨.builtin .min, #[x, y], tt⟩, ty, ps, af, g⟩ (.int k r) := by
 subst h
 intro a w he _
 simp [execOp, resolve, invoke, builtin, he.eval hx, he.eval hy, Builtin.min_, Builtin.min2]
theorem q_sslh {t : TypeId} {k : IntKind} {X : List Nat} {m : Nat} {l : Operand} [hs : Strg P t] (hx : opv E x = some (.string (sb X))) (hl : opv E l = some (.int k (m : Int))) (h : m ≤ X.length) :
  Q1 P n ds pu w0 D H E ⟨d, .slice t x none (some l) none, ty, ps, af, g⟩ (.string (sb (X.take m))) := by
 intro a w he _
 have h2 := run_slice_string_h (P := P) w t (sb X) hs.is k (m : Int) omT (by rw [kF]; omega)
 have h3 : (sb X).extract 0 m = sb (X.take m) := by
  apply ByteArray.ext
  rw [ByteArray.data_extract]
  apply Array.toList_inj.1
  simp [sb]
 simp [execOp, he.eval hx, he.eval hl, Instr.sliceAt, zv hs.is, h2, h3]
theorem q_ssll {t : TypeId} {k : IntKind} {X : List Nat} {m : Nat} {l : Operand} [hs : Strg P t] (hx : opv E x = some (.string (sb X))) (hl : opv E l = some (.int k (m : Int))) (h : m ≤ X.length) :
  Q1 P n ds pu w0 D H E ⟨d, .slice t x (some l) none none, ty, ps, af, g⟩ (.string (sb (X.drop m))) := by
 intro a w he _
 have h2 := run_slice_string_l (P := P) w t (sb X) hs.is k (m : Int) omT (by rw [kF]; omega)
 have h3 : (sb X).extract m X.length = sb (X.drop m) := by
  apply ByteArray.ext
  rw [ByteArray.data_extract]
  apply Array.toList_inj.1
  simp only [sb, Array.toList_extract, List.extract_eq_take_drop, List.toList_toArray, List.map_drop]
  exact List.take_of_length_le (by simp)
 simp [execOp, he.eval hx, he.eval hl, Instr.sliceAt, zv hs.is, h2, h3]
theorem encode_asc {c : Nat} (h : c < 128) : Utf8.encode (c : Int) = sb [c] := by
 have hv : Utf8.valid (c : Int) = true := by
  simp only [Utf8.valid, Bool.and_eq_true, Bool.or_eq_true, decide_eq_true_eq]
  omega
 unfold Utf8.encode
 simp only [hv, if_true, Int.toNat_natCast, h]
 rfl
theorem q_runes {t t2 : TypeId} {k : IntKind} {c : Nat} (hs : (P.underlying t).isSome = true) (hd : P.underlying t2 = some .string) (hx : opv E x = some (.int k (c : Int))) (h : c < 128) :
  Q1 P n ds pu w0 D H E ⟨d, .convert t t2 x, ty, ps, af, g⟩ (.string (sb [c])) := by
 intro a w he _
 have := run_convert_int_string (P := P) w t t2 k (c : Int) hs hd
 rw [encode_asc h] at this
 simp [execOp, he.eval hx, this]
theorem q_sbi {X : List Nat} {t : TypeId} {i c : Nat} {k : IntKind} [hs : Strg P t] (hx : opv E x = some (.string (sb X))) (hy : opv E y = some (.int k (i : Int))) (h1 : X[i]? = some c) (h : c < 256) :
  Q1 P n ds pu w0 D H E ⟨d, .index t x y, ty, ps, af, g⟩ (.int .u8 (c : Int)) := by
 have := q_index (P := P) (n := n) (ds := ds) (pu := pu) (w0 := w0) (D := D) (H := H) (d := d) (ty := ty) (ps := ps) (af := af) (g := g) (t := t) (c := UInt8.ofNat c) (s := sb X) (i := (i : Int)) hx hy omT (by
  obtain ⟨hi, hc⟩ := List.getElem?_eq_some_iff.1 h1
  have hi' : i < (sb X).size := by rw [kF]; exact hi
  rw [Int.toNat_natCast]
  rw [getElem?_pos (sb X) i hi']
  congr 1
  have : (sb X)[i] = (sb X).data[i]'hi' := rfl
  rw [this]
  simp [sb, hc])
 have h2 : (UInt8.ofNat c).toNat = c := by simp [UInt8.toNat_ofNat, Nat.mod_eq_of_lt h]
 rwa [h2] at this
end
structure PKS (s : Sl) (C : VL) : Prop where
 n : s.n ≤ 2147483647
 get : ∀ i, i < s.n → ∃ b off o z, s.u = some ⟨b, off, none⟩ ∧ (b, .raw o) ∈ C ∧ z < 256 ∧ qz o (off + i) = some (.int .u8 ((z : Nat) : Int))
abbrev PKB (pb : Nat) (s : Sl) (a : Nat) : Nat × Blk := (pb, .cs 43 [s.v, .int .i64 (a : Nat)] [])
abbrev SCB (sc pb : Nat) (h p : Sl) : Nat × Blk := (sc, .cs 95 [pV pb, h.v, p.v] [])
theorem vt_raw {H : zl} {V : VL} [h : VT H V] {b : Nat} {o : Obj} (hm : (b, .raw o) ∈ V) : Has H b (.raw o) := ⟨h.is _ hm⟩
theorem qL (pb : Nat) (s : Sl) (C : VL) (hpk : PKS s C) (a m : Nat) (ha : a ≤ s.n) (hm : 0 < m) (hm2 : m ≤ 1000) :
  Fn prog 43 [pV pb, .int .i64 (m : Nat)] (PKB pb s a :: XH C [])
   (fun v H' => ∃ a' r : Nat, v = .int .i64 (r : Nat) ∧ H' = PKB pb s a' :: XH C [] ∧ a' ≤ s.n ∧ r < m) := by
 have hn := hpk.n
 refine zo func43 rfl rfl rfl ?_
 intro w
 refine gg 6 ?_
 by_cases h2 : m < 2
 ·
  refine gg 26 ?_
  exact zm (H' := PKB pb s a :: XH C []) rfl rfl (Wk.refl _) ⟨a, 0, rfl, rfl, ha, hm⟩
 ·
  by_cases h3 : a < s.n
  ·
   refine gg 18 ?_
   obtain ⟨b, off, o, z, hu, hC, hz, hg⟩ := hpk.get a h3
   haveI : Has (PKB pb s a :: XH C []) b (.raw o) := vt_raw hC
   obtain ⟨su, sn, sc⟩ := s
   dsimp only at hu hn h3 ha
   subst hu
   refine gg 13 ?_
   refine dqz (zy (i := a) rfl rfl rfl omT rfl) ?_
   refine dqz (q_loado (by rw [Nat.mul_one]; exact hg) rfl) ?_
   refine dqz (qP ⟨_, underlying5⟩ underlying3 rfl omT omT) (gg 19 ?_)
   refine sqz (q_remn (p := z) (q := m) rfl rfl hm) (gg 4 ?_)
   exact zm (H' := PKB pb ⟨_, sn, sc⟩ (a + 1) :: XH C []) rfl rfl (Wk.toT (XH C []) [pb] wlT) ⟨a + 1, z % m, rfl, rfl, omT, Nat.mod_lt _ hm⟩
  ·
   refine gg 26 ?_
   exact zm (H' := PKB pb s a :: XH C []) rfl rfl (Wk.refl _) ⟨a, 0, rfl, rfl, ha, hm⟩
theorem bytes_rep {m : Nat} : ∀ j u, (bytes (sps m))[j]? = some u → j < m ∧ u = Value.int .u8 32 := by
 intro j u h
 have hjm := (List.getElem?_eq_some_iff.1 h).1
 rw [kx, List.length_replicate] at hjm
 refine ⟨hjm, ?_⟩
 rw [bytes, List.getElem?_map] at h
 cases hj : (sps m)[j]? with
 | none => rw [hj] at h; cases h
 | some c =>
  rw [hj] at h
  have := List.mem_of_getElem? hj
  have := (List.mem_replicate.1 this).2
  subst this
  simpa using h.symm
theorem scSpaces_ok (m : Nat) (hm : m ≤ 1000) :
  Fn prog 60 [.int .i64 (m : Nat)] [] (fun v H' => v = .string (sb (sps m)) ∧ H' = []) := by
 refine zo func60 rfl rfl rfl ?_
 intro w
 refine gg 8 ?_
 refine sqz (q_max (t := 0) (r := (m : Nat)) rfl rfl (by split <;> omega)) ?_
 refine kL rfl rfl rfl (k1 := .i64) (k2 := .i64) (ln := m) (cp := m) rfl rfl (Nat.le_refl _) omT omT ?_
 intro b1
 refine gg 12 ?_
 refine zw (σ := Nat × (Nat → Value)) (fun x => [(3, .slice (some ⟨b1, 0, none⟩) m m), (9, .int .i64 (m : Nat)), (10, .int .i64 (x.1 : Nat))]) (fun x => [(b1, .row 5 (0, 0) m x.2)]) (fun x => x.1 ≤ m ∧ ∀ j, j < x.1 → x.2 j = .int .u8 32) (fun x => m - x.1) (0, _) ⟨Nat.zero_le _, fun j hj => (by dsimp only at hj; omega)⟩ suT (Wk.refl _) ?_
 rintro ⟨i, f⟩ ⟨hi, hf⟩
 dsimp only at hi hf
 by_cases hlt : i < m
 ·
  refine gg 21 ?_
  refine sln rfl (l_storer rfl rfl rfl hlt) ?_
  refine gg 7 ?_
  exact zh (i + 1, fun j => if j = i then .int .u8 32 else f j) ⟨omT, fun j hj => (by dsimp only at hj ⊢; by_cases e : j = i; (rw [if_pos e]); (rw [if_neg e]; exact hf j omT))⟩ omT suT (Wk.refl _)
 ·
  refine gg 5 ?_
  obtain rfl : i = m := by omega
  refine gg 10 ?_
  refine sqz (qw underlying23 underlying5 underlying9 rfl (bsrc_row (b := b1) (m := i) (f := f) (X := sps i) (by simp) (Nat.le_refl _) (fun x hx => by have := (List.mem_replicate.1 hx).2; omega) (fun j u h => by obtain ⟨h1, rfl⟩ := bytes_rep j u h; exact hf j h1))) ?_
  refine gg 4 ?_
  exact zm (H' := []) rfl rfl (Wk.to [] (by exact trivial)) ⟨rfl, rfl⟩
theorem qQ (pb : Nat) (s : Sl) (C : VL) (hpk : PKS s C) (a : Nat) (l : Int) (m : Nat) (ha : a ≤ s.n) (hl : -1 ≤ l ∧ l ≤ 10) (hm : m ≤ 10) :
  Fn prog 44 [pV pb, .int .i64 l, .int .i64 (m : Nat)] (PKB pb s a :: XH C [])
   (fun v H' => ∃ a' k : Nat, v = .string (sb (sps k)) ∧ H' = PKB pb s a' :: XH C [] ∧ a' ≤ s.n ∧ l.toNat ≤ k ∧ k ≤ l.toNat + m) := by
 refine zo func44 rfl rfl rfl ?_
 intro w
 refine gg 8 ?_
 refine sqz (q_max (t := 0) (r := (l.toNat : Nat)) rfl rfl (by split <;> omega)) ?_
 refine gg 3 ?_
 refine za rfl rfl rfl (qL pb s C hpk a (m + 1) ha omT omT) ?_
 rintro _ _ ⟨a', r, rfl, rfl, ha', hr⟩
 simp only [List.append_nil]
 refine sad ?_
 refine za rfl rfl rfl (scSpaces_ok (l.toNat + r) omT) ?_
 rintro _ _ ⟨rfl, rfl⟩
 simp only [List.nil_append]
 refine gg 4 ?_
 exact zm rfl rfl (Wk.refl _) ⟨a', l.toNat + r, rfl, rfl, ha', by omega, by omega⟩
def comsL : List (List Nat) := [[35], [35, 32, 110, 111, 116, 101], [35, 32, 97, 58, 32, 98], [35, 45, 32, 120], [35, 32, 91], [35, 32, 123], [35, 32, 34], [35, 32, 39], [35, 33, 116, 32, 38, 97], [35, 32, 45, 45, 45]]
def comsV : List Value := comsL.map fun c => .string (sb c)
theorem coms_ok : ∀ c ∈ comsL, ComT c ∧ c ≠ [] := by
 intro c hc
 simp only [comsL, List.mem_cons, List.not_mem_nil, or_false] at hc
 rcases hc with rfl | rfl | rfl | rfl | rfl | rfl | rfl | rfl | rfl | rfl <;> exact ⟨.inr ⟨⟨_, rfl⟩, by decide, by decide⟩, by decide⟩
theorem comment_ok (sc pb : Nat) (hh pp : Sl) (s : Sl) (C : VL) (hpk : PKS s C) (a : Nat) (ha : a ≤ s.n) :
  Fn prog 45 [pV sc] (SCB sc pb hh pp :: PKB pb s a :: XH C [])
   (fun v H' => ∃ (a' : Nat) (c : List Nat), v = .string (sb c) ∧ H' = SCB sc pb hh pp :: PKB pb s a' :: XH C [] ∧ a' ≤ s.n ∧ ComT c ∧ c ≠ []) := by
 refine zo func45 rfl rfl rfl ?_
 intro w
 refine gg 7 ?_
 refine kV (l := [_, _, _, _, _, _, _, _, _, _]) (zs := [.string ⟨#[]⟩, .string ⟨#[]⟩, .string ⟨#[]⟩, .string ⟨#[]⟩, .string ⟨#[]⟩, .string ⟨#[]⟩, .string ⟨#[]⟩, .string ⟨#[]⟩, .string ⟨#[]⟩, .string ⟨#[]⟩]) [0, 1, 2, 3, 4, 5, 6, 7, 8, 9] rfl rfl rfl rfl kR rfl rfl ?_
 intro lb
 refine gg 12 ?_
 refine za rfl rfl rfl (qL pb s C hpk a 10 ha omT omT) ?_
 rintro _ _ ⟨a', r, rfl, rfl, ha', hr⟩
 refine lS ?_
 obtain ⟨c, hc⟩ : ∃ c, comsL[r]? = some c := ⟨_, List.getElem?_eq_getElem hr⟩
 have hcv : comsV[r]? = some (.string (sb c)) := by rw [comsV, List.getElem?_map, hc]; rfl
 have hcm := coms_ok c (List.mem_of_getElem? hc)
 refine sqz (zy (i := r) rfl rfl rfl omT rfl) ?_
 refine sqz (zp (v := .string (sb c)) rfl rfl (by rw [Nat.zero_add, Nat.mul_one]; exact Nat.ble_eq_true_of_le hr) (by rw [Nat.zero_add, Nat.mul_one]; exact hcv)) ?_
 refine gg 4 ?_
 exact zm (H' := SCB sc pb hh pp :: PKB pb s a' :: XH C []) rfl rfl (Wk.toT (XH C []) [sc, pb] wlT) ⟨a', c, rfl, rfl, ha', hcm.1, hcm.2⟩
theorem end_ok (sc pb : Nat) (hh pp : Sl) (s : Sl) (C : VL) (hpk : PKS s C) (a : Nat) (ha : a ≤ s.n) :
  Fn prog 22 [pV sc] (SCB sc pb hh pp :: PKB pb s a :: XH C [])
   (fun v H' => ∃ (a' : Nat) (c : List Nat), v = .string (sb c) ∧ H' = SCB sc pb hh pp :: PKB pb s a' :: XH C [] ∧ a' ≤ s.n ∧ EndT c) := by
 refine zo func22 rfl rfl rfl ?_
 intro w
 refine gg 12 ?_
 refine za rfl rfl rfl (qL pb s C hpk a 4 ha omT omT) ?_
 rintro _ _ ⟨a1, r, rfl, rfl, ha1, hr⟩
 refine lS ?_
 refine gg 3 ?_
 by_cases h1 : r = 1
 ·
  refine gg 13 ?_
  refine za rfl rfl rfl (qQ pb s C hpk a1 1 2 ha1 omT omT) ?_
  rintro _ _ ⟨a2, k, rfl, rfl, ha2, hk1, hk2⟩
  refine lS ?_
  refine sqz (zT (X := sps k) (Y := [10]) rfl rfl lnZ) (gg 6 ?_)
  exact zm (H' := SCB sc pb hh pp :: PKB pb s a2 :: XH C []) rfl rfl (Wk.toT (XH C []) [sc, pb] wlT) ⟨a2, sps k ++ [10], rfl, rfl, ha2, k, [], rfl, .inl rfl, fun h => absurd rfl h, by omega⟩
 ·
  refine gg 7 ?_
  by_cases h2 : r = 2
  ·
   refine gg 13 ?_
   refine za rfl rfl rfl (qQ pb s C hpk a1 1 2 ha1 omT omT) ?_
   rintro _ _ ⟨a2, k, rfl, rfl, ha2, hk1, hk2⟩
   refine lS ?_
   refine smv ?_
   refine za rfl rfl rfl (comment_ok sc pb hh pp s C hpk a2 ha2) ?_
   rintro _ _ ⟨a3, c, rfl, rfl, ha3, hc, _⟩
   have hcl := hc.le
   refine lS ?_
   refine sqz (zT (X := sps k) (Y := c) rfl rfl lnZ) (sqz (zT (X := sps k ++ c) (Y := [10]) rfl rfl lnZ) (gg 6 ?_))
   exact zm (H' := SCB sc pb hh pp :: PKB pb s a3 :: XH C []) rfl rfl (Wk.toT (XH C []) [sc, pb] wlT) ⟨a3, sps k ++ (c ++ [10]), by rw [List.append_assoc], rfl, ha3, k, c, rfl, hc, fun _ => by omega, by omega⟩
  ·
   refine gg 16 ?_
   exact zm (H' := SCB sc pb hh pp :: PKB pb s a1 :: XH C []) rfl rfl (Wk.toT (XH C []) [sc, pb] wlT) ⟨a1, [10], rfl, rfl, ha1, 0, [], rfl, .inl rfl, fun h => absurd rfl h, by omega⟩
theorem lines_ok (sc pb : Nat) (hh pp : Sl) (s : Sl) (C : VL) (hpk : PKS s C) (a : Nat) (ha : a ≤ s.n) :
  Fn prog 20 [pV sc] (SCB sc pb hh pp :: PKB pb s a :: XH C [])
   (fun v H' => ∃ (a' : Nat) (c : List Nat), v = .string (sb c) ∧ H' = SCB sc pb hh pp :: PKB pb s a' :: XH C [] ∧ a' ≤ s.n ∧ LinesT c) := by
 refine zo func20 rfl rfl rfl ?_
 intro w
 refine gg 17 ?_
 refine za rfl rfl rfl (qL pb s C hpk a 3 ha omT omT) ?_
 rintro _ _ ⟨a1, r, rfl, rfl, ha1, hr⟩
 refine lS ?_
 refine gg 4 ?_
 refine zw (σ := Nat × Nat × List (List Nat)) (fun x => [(0, pV sc), (3, .string (sb x.2.2.flatten)), (4, .int .i64 (x.2.1 : Nat))]) (fun x => SCB sc pb hh pp :: PKB pb s x.1 :: XH C []) (fun x => x.1 ≤ s.n ∧ (∀ l ∈ x.2.2, LineT l) ∧ x.2.2.length + x.2.1 ≤ 2) (fun x => x.2.1) (a1, r, []) ⟨ha1, by simp, by simp; omega⟩ suT (Wk.toT (XH C []) [sc, pb] wlT) ?_
 rintro ⟨a, n, ls⟩ ⟨ha, hls, hn⟩
 dsimp only at ha hls hn
 refine zt (SCB sc pb hh pp :: PKB pb s a :: XH C []) [(0, pV sc), (3, .string (sb ls.flatten)), (4, .int .i64 (n : Nat))] rfl rfl (zd ?_)
 by_cases hlt : 0 < n
 ·
  refine gg 6 ?_
  have hfl := (LinesT.le ⟨ls, rfl, hls, by omega⟩).1
  refine gg 12 ?_
  refine za rfl rfl rfl (qQ pb s C hpk a 0 3 ha omT omT) ?_
  rintro _ _ ⟨a2, k, rfl, rfl, ha2, hk1, hk2⟩
  refine lS ?_
  refine sqz (zT (X := ls.flatten) (Y := sps k) rfl rfl lnZ) (gg 10 ?_)
  refine za rfl rfl rfl (qL pb s C hpk a2 2 ha2 omT omT) ?_
  rintro _ _ ⟨a3, r3, rfl, rfl, ha3, hr3⟩
  refine lS ?_
  by_cases h3 : r3 = 1
  ·
   refine gg 7 ?_
   refine za rfl rfl rfl (comment_ok sc pb hh pp s C hpk a3 ha3) ?_
   rintro _ _ ⟨a4, c, rfl, rfl, ha4, hc, _⟩
   have hcl := hc.le
   refine lS ?_
   refine sqz (zT (X := ls.flatten ++ sps k) (Y := c) rfl rfl lnZ) (gg 5 ?_)
   refine sqz (zT (X := ls.flatten ++ sps k ++ c) (Y := [10]) rfl rfl lnZ) (gg 9 ?_)
   exact zh (a4, n - 1, ls ++ [sps k ++ (c ++ [10])]) ⟨ha4, fun l hl => (by rcases List.mem_append.1 hl with hl | hl; (exact hls l hl); (rw [List.mem_singleton.1 hl]; exact ⟨k, c, rfl, hc, by omega⟩)), by simp; exact omT⟩ omT (by rw [List.flatten_append]; simp only [List.flatten_cons, List.flatten_nil, List.append_nil, List.append_assoc]; repeat (first | exact trivial | refine ⟨rfl, ?_⟩)) (Wk.toT (XH C []) [sc, pb] wlT)
  ·
   refine gg 8 ?_
   refine sqz (zT (X := ls.flatten ++ sps k) (Y := [10]) rfl rfl lnZ) (gg 9 ?_)
   exact zh (a3, n - 1, ls ++ [sps k ++ ([] ++ [10])]) ⟨ha3, fun l hl => (by rcases List.mem_append.1 hl with hl | hl; (exact hls l hl); (rw [List.mem_singleton.1 hl]; exact ⟨k, [], rfl, .inl rfl, by omega⟩)), by simp; exact omT⟩ omT (by rw [List.flatten_append]; simp only [List.flatten_cons, List.flatten_nil, List.append_nil, List.nil_append, List.append_assoc]; repeat (first | exact trivial | refine ⟨rfl, ?_⟩)) (Wk.toT (XH C []) [sc, pb] wlT)
 ·
  refine gg 19 ?_
  exact zm (H' := SCB sc pb hh pp :: PKB pb s a :: XH C []) rfl rfl (Wk.refl _) ⟨a, ls.flatten, rfl, rfl, ha, ls, rfl, hls, by omega⟩
abbrev TR (va : List Nat) (sty : Int) : List Value := [.int .i64 1, .string (sb va), .string (sb []), .string (sb []), .int .i64 sty, zS]
theorem endsl_ok (sty : Int) (hs : sty = 1 ∨ sty = 3) : Fn prog 61 [.int .i64 sty] [] (fun v H' => v = .bool false ∧ H' = []) := by
 refine zo func61 rfl rfl rfl ?_
 intro w
 refine gg 17 ?_
 exact zm (H' := []) rfl rfl (Wk.refl _) ⟨rfl, rfl⟩
theorem void_ok (va : List Nat) (sty : Int) (hs : sty = 1 ∨ sty = 3) (hva : va ≠ []) : Fn prog 13 [.agg (TR va sty).toArray] [] (fun v H' => v = .bool false ∧ H' = []) := by
 have hvn : sb va ≠ sb [] := fun h => by
  have := congrArg ByteArray.size h
  rw [kF, kF] at this
  exact hva (List.eq_nil_of_length_eq_zero this)
 refine zo func13 rfl rfl rfl ?_
 intro w
 refine zd (zi (ku rfl rfl rfl clT ?_))
 intro b
 refine gg 10 ?_
 by_cases h1 : sty = 1
 ·
  refine gg 6 ?_
  refine sqz (q_seq (q := sb []) rfl rfl (decide_eq_false hvn)) (gg 15 ?_)
  exact zm (H' := []) rfl rfl (Wk.to [] (by exact trivial)) ⟨rfl, rfl⟩
 ·
  refine gg 22 ?_
  exact zm (H' := []) rfl rfl (Wk.to [] (by exact trivial)) ⟨rfl, rfl⟩
theorem block_ok (va : List Nat) (sty : Int) : Fn prog 48 [.agg (TR va sty).toArray] [] (fun v H' => v = .bool false ∧ H' = []) := by
 refine zo func48 rfl rfl rfl ?_
 intro w
 refine zd (zi (ku rfl rfl rfl clT ?_))
 intro b
 refine gg 28 ?_
 exact zm (H' := []) rfl rfl (Wk.to [] (by exact trivial)) ⟨rfl, rfl⟩
theorem finish_ok (sc pb : Nat) (hh pp : Sl) (s : Sl) (C : VL) (hpk : PKS s C) (a : Nat) (ha : a ≤ s.n) (va : List Nat) (sty : Int) (hs : sty = 1 ∨ sty = 3) (x : List Nat) (hx : x.length ≤ 100000) :
  Fn prog 50 [pV sc, .agg (TR va sty).toArray, .string (sb x)] (SCB sc pb hh pp :: PKB pb s a :: XH C [])
   (fun v H' => ∃ (a' : Nat) (e : List Nat), v = .string (sb (x ++ e)) ∧ H' = SCB sc pb hh pp :: PKB pb s a' :: XH C [] ∧ a' ≤ s.n ∧ EndT e) := by
 refine zo func50 rfl rfl rfl ?_
 intro w
 refine zd (zi (ku rfl rfl rfl clT ?_))
 intro b
 refine gg 12 ?_
 refine za rfl rfl rfl (endsl_ok sty hs) ?_
 rintro _ _ ⟨rfl, rfl⟩
 simp only [List.nil_append]
 refine gg 10 ?_
 refine za rfl rfl rfl (end_ok sc pb hh pp s C hpk a ha) ?_
 rintro _ _ ⟨a2, e, rfl, rfl, ha2, he⟩
 have hel := he.line.le.1
 refine lS ?_
 refine sqz (zT (X := x) (Y := e) rfl rfl omT) (gg 4 ?_)
 exact zm (H' := SCB sc pb hh pp :: PKB pb s a2 :: XH C []) rfl rfl (Wk.toT (XH C []) [sc, pb] wlT) ⟨a2, e, rfl, rfl, ha2, he⟩
theorem props_ok (sc pb : Nat) (hh pp : Sl) (s : Sl) (C : VL) (a : Nat) (va : List Nat) (sty : Int) :
  Fn prog 51 [pV sc, .agg (TR va sty).toArray] (SCB sc pb hh pp :: PKB pb s a :: XH C [])
   (fun v H' => v = .string (sb []) ∧ H' = SCB sc pb hh pp :: PKB pb s a :: XH C []) := by
 refine zo func51 rfl rfl rfl ?_
 intro w
 refine zd (zi (ku rfl rfl rfl clT ?_))
 intro b
 refine gg 14 ?_
 refine sqz (q_sne (q := sb []) rfl rfl (decide_eq_false (by simp))) ?_
 refine gg 10 ?_
 refine sqz (q_sne (q := sb []) rfl rfl (decide_eq_false (by simp))) ?_
 refine gg 10 ?_
 refine sqz (q_seq (q := sb []) rfl rfl (decide_eq_true rfl)) (gg 12 ?_)
 refine sqz (zT (X := []) (Y := []) rfl rfl (by simp)) ?_
 refine gg 6 ?_
 exact zm (H' := SCB sc pb hh pp :: PKB pb s a :: XH C []) rfl rfl (Wk.toT (XH C []) [sc, pb] wlT) ⟨rfl, rfl⟩
def runes (X : List Nat) : List Value := X.map fun (c : Nat) => Value.int .i32 (c : Int)
@[simp] theorem runes_length (X : List Nat) : (runes X).length = X.length := by simp [runes]
theorem sb_at {X : List Nat} {i : Nat} (hi : i < X.length) (h : X[i] < 256) : ∃ hs : i < (sb X).size, ((sb X)[i]'hs).toNat = X[i] := by
 have hi' : i < (sb X).size := by rw [kF]; exact hi
 refine ⟨hi', ?_⟩
 have : (sb X)[i] = (sb X).data[i]'hi' := rfl
 rw [this]
 simp [sb, UInt8.toNat_ofNat, Nat.mod_eq_of_lt h]
theorem runesFrom_asc {X : List Nat} (hX : ∀ c ∈ X, c < 128) : ∀ (m i : Nat) (acc : Array Value), i + m = X.length → Conv.runesFrom (sb X) m i acc = acc ++ (runes (X.drop i)).toArray
 | 0, i, acc, h => by
  rw [List.drop_eq_nil_of_le omT]
  simp [Conv.runesFrom, runes]
 | m + 1, i, acc, h => by
  have hi : i < X.length := by omega
  have hc := hX X[i] (List.getElem_mem hi)
  obtain ⟨hs, hv⟩ := sb_at hi omT
  have hd := decode_ascii (sb X) i hs (by rw [hv]; exact hc)
  rw [hv] at hd
  unfold Conv.runesFrom
  rw [if_pos hs]
  simp only [hd]
  rw [runesFrom_asc hX m (i + 1) _ omT]
  have : runes (X.drop i) = Value.int .i32 (X[i] : Nat) :: runes (X.drop (i + 1)) := by rw [List.drop_eq_getElem_cons hi]; rfl
  rw [this]
  simp
section
variable {P : Program} {n : Nat} {ds : List Deferred} {pu : Bool} {w0 : World} {D : List Nat} {H H' : zl} {E : Env} {ops : Array Oper} {Q : Exit → Act → World → Prop} {Q' K : Act → World → Prop} {rest : List Oper} {v : Value}
variable {d : Option Nat} {ty : TypeId} {ps : String} {af : Array Edge} {g : Option (Nat × Bool)} {x y : Operand}
theorem s_runes {t t2 e dd : Nat} {X : List Nat} (hs : P.underlying t = some .string) (hd : P.underlying t2 = some (.slice e)) (he : P.underlying e = some (.int .i32)) (hg : gd ops E g = some true) (hdd : Nat.blt dd n = true)
   (hx : opv E x = some (.string (sb X))) (hX : ∀ c ∈ X, c < 128) (hl : X.length ≤ 100000)
   (h : ∀ b cap, X.length ≤ cap → SQ P n ds false w0 D ops Q K ((b, .buf e cap (runes X)) :: H) ((dd, .slice (some ⟨b, 0, none⟩) X.length cap) :: E) rest) :
   SQ P n ds false w0 D ops Q K H E (⟨some dd, .convert t t2 x, ty, ps, af, g⟩ :: rest) := by
 have hr : Conv.runesFrom (sb X) (sb X).size 0 #[] = (runes X).toArray := by
   rw [kF, runesFrom_asc hX _ 0 _ omT]
   simp
 refine s_gen hg hdd fun a w hE hw => ?_
 have hrun := run_runes_of_string (P := P) w t t2 e (sb X) hs hd he (by rw [hr]; simp; omega)
 rw [hr] at hrun
 have hsz : ((runes X).toArray).size = X.length := by simp
 rw [hsz] at hrun
 have hge := grownCap_ge w X.length 0 e
 have he2 : (execOp a.eval ⟨some dd, .convert t t2 x, ty, ps, af, g⟩).run P w = .ok (.value (.slice (some ⟨w.heap.size, 0, none⟩) X.length (grownCap w X.length 0 e))) (w.drew.alloc (.cells ((runes X).toArray ++ Array.replicate (grownCap w X.length 0 e - X.length) (.int .i32 0)) e)) := by
   simp only [execOp, hE.eval hx]
   simp [hrun]
 refine ⟨_, _, (w.heap.size, .buf e (grownCap w X.length 0 e) (runes X)) :: H, he2, WOK.alloc (w := w.drew) (WOK.drew hw) (Blk.ok.mk (b := .buf e _ _) rfl ?_ ?_ fun k _ hk => ?_), h w.heap.size _ hge⟩
 · simp [Blk.len]; omega
 · simp [Blk.len, Blk.known]; omega
 · simp only [Blk.known, runes_length] at hk
   simp [Blk.cell, nth, Array.getElem?_append, hk]
theorem zQ {t b a i m e c : Nat} {X : List Nat} [qn P t] (h : opv E x = some (.pointer (some ⟨b, a, none⟩))) [hh : Has H b (.buf e m (runes X))] (ha : a = i) (hc : X[i]? = some c) :
  Q1 P n ds pu w0 D H E ⟨d, .load t x, ty, ps, af, g⟩ (.int .i32 (c : Nat)) := by
 subst ha
 have hi := (List.getElem?_eq_some_iff.1 hc).1
 refine zp h rfl (by simp only [Blk.known, runes_length]; exact Nat.ble_eq_true_of_le hi) ?_
 simp [Blk.cell, nth, runes, hc]
end
end Go.Proofs.YtnfbcfflkphbiaaGreatDoor
