/-
  Texts of the proof, joined: F19 F20 F21. No Go text.
-/
import Derived.Test.YtnfbcfflkphbiaaGreatDoorA01
import Derived.Test.YtnfbcfflkphbiaaGreatDoorA08
import Derived.Test.YtnfbcfflkphbiaaGreatDoorA22
namespace Go.Proofs.YtnfbcfflkphbiaaGreatDoor
open Go Go.Proofs Tryz
set_option linter.all false
set_option maxRecDepth 100000
set_option maxHeartbeats 8000000
section
variable {P : Program} {n : Nat} {ds : List Deferred} {pu : Bool} {w0 : World} {D : List Nat} {H : zl} {E : Env}
variable {d : Option Nat} {ty : TypeId} {ps : String} {af : Array Edge} {g : Option (Nat × Bool)} {x : Operand}
theorem q_ldbf {t b a i m : Nat} {e : TypeId} {l : List Value} {v : Value} [qn P t] (h : opv E x = some (.pointer (some ⟨b, a, none⟩))) [hh : Has H b (.buf e m l)] (ha : a = i) (hi : l[i]? = some v) :
  Q1 P n ds pu w0 D H E ⟨d, .load t x, ty, ps, af, g⟩ v := by
 subst ha
 have hl := (List.getElem?_eq_some_iff.1 hi).1
 have hc : (Blk.buf e m l).cell a = some v := by simp only [Blk.cell, nth]; exact hi
 exact zp h (hh := hh) (by simp [Blk.lo]) (Nat.ble_eq_true_of_le (Nat.succ_le_of_lt hl)) hc
end
def tdC (es : List (Sl × Sl)) : List Value := es.flatMap fun e => [e.1.v, e.2.v]
theorem tdC_length : ∀ es : List (Sl × Sl), (tdC es).length = es.length * 2
 | [] => rfl
 | e :: r => by
  have := tdC_length r
  simp only [tdC, List.flatMap_cons, List.length_append, List.length_cons, List.length_nil] at *
  omega
theorem tdC_app (x y : List (Sl × Sl)) : tdC (x ++ y) = tdC x ++ tdC y := by simp [tdC]
theorem tdC_get : ∀ {es : List (Sl × Sl)} {i : Nat} {e : Sl × Sl}, es[i]? = some e → (tdC es)[i * 2]? = some e.1.v ∧ (tdC es)[i * 2 + 1]? = some e.2.v
 | [], i, e, h => by simp at h
 | u :: r, 0, e, h => by
  obtain rfl : u = e := by simpa using h
  exact ⟨rfl, rfl⟩
 | u :: r, i + 1, e, h => by
  have ih := tdC_get (es := r) (i := i) (e := e) (by simpa using h)
  have hc : tdC (u :: r) = u.1.v :: u.2.v :: tdC r := rfl
  rw [hc, show (i + 1) * 2 = i * 2 + 1 + 1 by omega, show i * 2 + 1 + 1 + 1 = i * 2 + 1 + 1 + 1 from rfl]
  exact ⟨by simpa using ih.1, by simpa using ih.2⟩
def TDH (o : Option (Nat × Nat)) (es : List (Sl × Sl)) : zl :=
 match o with
 | none => []
 | some (b, c) => [(b, .buf 134 (c * 2) (tdC es))]
def tdS (o : Option (Nat × Nat)) (n : Nat) : Sl :=
 match o with
 | none => Sl.nil
 | some (b, c) => ⟨some ⟨b, 0, none⟩, n, c⟩
structure TDR (V : VL) (o : Option (Nat × Nat)) (es : List (Sl × Sl)) (hs : List (List Nat)) : Prop where
 none_ : o = none → es = []
 cap : ∀ b c, o = some (b, c) → es.length ≤ c ∧ c ≤ 9223372036854775807
 len : es.length = hs.length
 get : ∀ (i : Nat) (e : Sl × Sl) (h : List Nat), es[i]? = some e → hs[i]? = some h → InV V e.1 h ∧ ∀ c ∈ h, c < 256
theorem TDR.mono {V V' : VL} {o : Option (Nat × Nat)} {es : List (Sl × Sl)} {hs : List (List Nat)} (hv : ∀ y ∈ V, y ∈ V') (h : TDR V o es hs) : TDR V' o es hs :=
 ⟨h.none_, h.cap, h.len, fun i e x h1 h2 => ⟨(h.get i e x h1 h2).1.mono hv, (h.get i e x h1 h2).2⟩⟩
instance {A : zl} {V : VL} {J : JL} : VT (A ++ XH V J) V := ⟨fun _ h => List.mem_append_right _ (List.mem_append_left _ h)⟩
theorem InV.bsrc {V : VL} {J : JL} {T : List Nat} {C : Option (Nat × Nat)} {s : Sl} {x : List Nat} (h : InV V s x) (hx : ∀ c ∈ x, c < 256) : BSrc (CH T J C ++ XH V J) s.v x := by
 obtain ⟨b, c, rfl, hm, _, _⟩ := h
 exact wm (hh := ⟨List.mem_append_right _ (vt_has (H := XH V J) hm).mem⟩) rfl hx
def InS (V : VL) (s : Sl) (x : List Nat) : Prop := ∃ b c k, s = ⟨some ⟨b, 0, none⟩, x.length, c⟩ ∧ (b, k) ∈ V ∧ k.lo = 0 ∧ x.length ≤ k.known ∧ ∀ j u, (bytes x)[j]? = some u → k.cell j = some u
theorem InV.inS {V : VL} {s : Sl} {x : List Nat} (h : InV V s x) : InS V s x := by
 obtain ⟨b, c, rfl, hm, _, _⟩ := h
 exact ⟨b, c, _, rfl, hm, rfl, by simp [Blk.known], fun j u hj => by simpa [Blk.cell, nth] using hj⟩
theorem ins_src {b : Nat} {k : Blk} {x : List Nat} {H : zl} (hm : (b, k) ∈ H) (h0 : k.lo = 0) (h1 : x.length ≤ k.known) (h2 : ∀ j u, (bytes x)[j]? = some u → k.cell j = some u) : Src H b 0 (bytes x) :=
 zN (hh := ⟨hm⟩) (Nat.le_of_eq h0) (by simpa using h1) (fun j u hj => by simpa using h2 j u hj)
theorem InS.bsrc {V : VL} {J : JL} {T : List Nat} {C : Option (Nat × Nat)} {s : Sl} {x : List Nat} (h : InS V s x) (hx : ∀ c ∈ x, c < 256) : BSrc (CH T J C ++ XH V J) s.v x := by
 obtain ⟨b, c, k, rfl, hm, h0, h1, h2⟩ := h
 exact .inr ⟨b, 0, c, rfl, hx, ins_src (List.mem_append_right _ (List.mem_append_left _ hm)) h0 h1 h2⟩
theorem ins_srcf {b : Nat} {k : Blk} {x : List Nat} {V H : zl} (hm : (b, k) ∈ V) (h0 : k.lo = 0) (h1 : x.length ≤ k.known) (h2 : ∀ j u, (bytes x)[j]? = some u → k.cell j = some u) (hV : ∀ y ∈ VH V, y ∈ H) : SrcF H b 0 x.length (fun j => Value.int .u8 ((x.getD j 0 : Nat) : Int)) := by
 intro w hw j hj
 refine ins_src (hV _ hm) h0 h1 h2 w hw j _ ?_
 simp [bytes, List.getElem?_eq_getElem hj, List.getD_eq_getElem?_getD]
theorem like_cpy {x : List Nat} {z : Value} : (Blk.row 5 (0, 0) x.length (fun j => if 0 ≤ j ∧ j < 0 + x.length then Value.int .u8 ((x.getD (j - 0) 0 : Nat) : Int) else z)).like (.buf 5 x.length (bytes x)) := by
 refine like_rb (by simp [bytes]) fun i v h => ?_
 have hi := (List.getElem?_eq_some_iff.1 h).1
 simp only [bytes, List.length_map] at hi
 rw [if_pos ⟨Nat.zero_le _, by omega⟩]
 simp [bytes, List.getElem?_eq_getElem hi] at h
 rw [← h]
 simp [List.getD_eq_getElem?_getD, List.getElem?_eq_getElem hi]
theorem atd_ok (L : Lay) (T : List Nat) (X : SS) (o : Option (Nat × Nat)) (es : List (Sl × Sl)) (hs : List (List Nat)) (s1 s2 : Sl) (h p : List Nat) (al : Bool) (m1 m2 m3 : Int) (htd : X.tdv = tdS o es.length) (hR : TDR X.V o es hs) (h1 : InS X.V s1 h) (h2 : InS X.V s2 p) (hh : ∀ c ∈ h, c < 256) (hp : ∀ c ∈ p, c < 256) (hdup : h ∈ hs → al = true) (hln : es.length < 1000) (hhl : h.length < 1000000) (hpl : p.length < 1000000) :
   Fn prog 129 [pV L.p, .agg #[s1.v, s2.v], .bool al, .agg #[.int .i64 m1, .int .i64 m2, .int .i64 m3]] (PB L T (zc X) :: (TDH o es ++ (CH T X.J X.C ++ XH X.V X.J)))
    (fun v H' => v = .bool true ∧ ((h ∈ hs ∧ H' = PB L T (zc X) :: (TDH o es ++ (CH T X.J X.C ++ XH X.V X.J))) ∨
     (h ∉ hs ∧ ∃ b c e1 e2 V', H' = PB L T (zc { X with tdv := tdS (some (b, c)) (es.length + 1), V := V' }) :: (TDH (some (b, c)) (es ++ [(e1, e2)]) ++ (CH T X.J X.C ++ XH V' X.J)) ∧ es.length + 1 ≤ c ∧ c ≤ 9223372036854775807 ∧ (∀ y ∈ X.V, y ∈ V') ∧ InV V' e1 h ∧ InV V' e2 p))) := by
 refine zo func129 rfl rfl rfl ?_
 intro w
 obtain ⟨b1, c1, k1, rfl, hm1, lo1, kn1, ce1⟩ := h1
 obtain ⟨b2, c2, k2, rfl, hm2, lo2, kn2, ce2⟩ := h2
 rcases o with _ | ⟨tb, tc⟩
 · have hes : es = [] := hR.none_ rfl
   subst hes
   have hhs : hs = [] := List.length_eq_zero_iff.1 hR.len.symm
   subst hhs
   obtain ⟨X, rfl⟩ : ∃ Y : SS, X = { Y with tdv := Sl.nil } := ⟨X, by rw [show (Sl.nil : Sl) = X.tdv from htd.symm]⟩
   refine zt (PB L T (zc { X with tdv := Sl.nil }) :: (CH T X.J X.C ++ XH X.V X.J)) _ rfl rfl (zd (zi (ku rfl rfl rfl clT ?_)))
   intro vb
   refine ku rfl rfl rfl clT ?_
   intro mb
   refine gg 15 ?_
   refine zw (σ := Unit) (fun _ => [(0, pV L.p), (2, .bool al), (5, pV vb), (7, pV mb), (8, .bool false), (15, zI), (16, zI)]) (fun _ => (mb, .cs 57 [.int .i64 m1, .int .i64 m2, .int .i64 m3] []) :: (vb, .cs 134 [.slice (some ⟨b1, 0, none⟩) h.length c1, .slice (some ⟨b2, 0, none⟩) p.length c2] []) :: PB L T (zc { X with tdv := Sl.nil }) :: (CH T X.J X.C ++ XH X.V X.J)) (fun _ => True) (fun _ => 0) () trivial suT (Wk.refl _) ?_
   rintro ⟨⟩ -
   refine gg 12 ?_
   refine zL (σ := Nat × Nat × Nat) (fun x => [(0, pV L.p), (5, pV vb), (10, pV x.2.2), (8, .bool false)]) (fun x => (x.2.2, .cs 134 [.slice (some ⟨x.1, 0, none⟩) h.length h.length, .slice (some ⟨x.2.1, 0, none⟩) p.length p.length] []) :: (x.1, .row 5 (0, 0) h.length (fun _ => .int .u8 0)) :: (x.2.1, .row 5 (0, 0) p.length (fun _ => .int .u8 0)) :: (vb, .cs 134 [.slice (some ⟨b1, 0, none⟩) h.length c1, .slice (some ⟨b2, 0, none⟩) p.length c2] []) :: PB L T (zc { X with tdv := Sl.nil }) :: (CH T X.J X.C ++ XH X.V X.J)) (fun _ => True) ?_ ?_
   ·
    refine ke (fun i => i == 3 || i == 7 || i == 9 || i == 10) (fun i => i == 10) ([(vb, .cs 134 [.slice (some ⟨b1, 0, none⟩) h.length c1, .slice (some ⟨b2, 0, none⟩) p.length c2] [])]) zF ?_
    refine mqh 0 rfl kR rfl rfl (fun _ => zM rfl) ?_
    refine mqh 1 rfl kR rfl rfl (fun _ => zp rfl rfl rfl rfl) ?_
    refine mqh 2 rfl kR rfl rfl (fun _ => q_len rfl) ?_
    refine mqh 4 rfl kR rfl rfl (fun _ => zM rfl) ?_
    refine mqh 5 rfl kR rfl rfl (fun _ => zp rfl rfl rfl rfl) ?_
    refine mqh 6 rfl kR rfl rfl (fun _ => q_len rfl) ?_
    refine mqls [3, 7, 9] kR ⟨fun hcl => ⟨_, rfl, ?_⟩, fun hcl => ⟨_, rfl, ?_⟩, fun hcl => ⟨_, rfl, ?_⟩, trivial⟩
    ·
     refine kL rfl rfl rfl (k1 := .i64) (k2 := .i64) (ln := h.length) (cp := h.length) rfl rfl (Nat.le_refl _) omT omT ?_
     intro hb
     refine mqn 3 hcl ?_
     refine mqls [7, 9] kR ⟨fun hcl => ⟨_, rfl, ?_⟩, fun hcl => ⟨_, rfl, ?_⟩, trivial⟩
     ·
      refine kL rfl rfl rfl (k1 := .i64) (k2 := .i64) (ln := p.length) (cp := p.length) rfl rfl (Nat.le_refl _) omT omT ?_
      intro pb
      refine mqn 7 hcl ?_
      refine mqh 8 rfl kR rfl rfl (fun _ => zu (l := [_, _]) (zs := [zS, zS]) [0, 1] rfl rfl kR) ?_
      refine mql 9 rfl kR (fun hcl => ?_)
      refine zk rfl rfl clT ?_
      intro ab
      refine mqn 9 hcl ?_
      refine mql 10 rfl kR (fun hcl => ?_)
      first | refine stw rfl rfl ?_ | refine sts rfl rfl ?_
      refine zO 10 rfl kR ?_
      exact zg (hb, pb, ab) trivial suT (Wk.toT (CH T X.J X.C ++ XH X.V X.J) [ab, hb, pb, vb, L.p] wlT)
     ·
      refine zk rfl rfl clT ?_
      intro ab
      refine mqn 9 hcl ?_
      refine mql 7 rfl kR (fun hcl => ?_)
      refine kL rfl rfl rfl (k1 := .i64) (k2 := .i64) (ln := p.length) (cp := p.length) rfl rfl (Nat.le_refl _) omT omT ?_
      intro pb
      refine mqn 7 hcl (mq 8 rfl kR rfl rfl (zu (l := [_, _]) (zs := [zS, zS]) [0, 1] rfl rfl kR) ?_)
      refine mql 10 rfl kR (fun hcl => ?_)
      first | refine stw rfl rfl ?_ | refine sts rfl rfl ?_
      refine zO 10 rfl kR ?_
      exact zg (hb, pb, ab) trivial suT (Wk.toT (CH T X.J X.C ++ XH X.V X.J) [ab, hb, pb, vb, L.p] wlT)
    ·
     refine kL rfl rfl rfl (k1 := .i64) (k2 := .i64) (ln := p.length) (cp := p.length) rfl rfl (Nat.le_refl _) omT omT ?_
     intro pb
     refine mqn 7 hcl ?_
     refine mqls [3, 9] kR ⟨fun hcl => ⟨_, rfl, ?_⟩, fun hcl => ⟨_, rfl, ?_⟩, trivial⟩
     ·
      refine kL rfl rfl rfl (k1 := .i64) (k2 := .i64) (ln := h.length) (cp := h.length) rfl rfl (Nat.le_refl _) omT omT ?_
      intro hb
      refine mqn 3 hcl ?_
      refine mqh 8 rfl kR rfl rfl (fun _ => zu (l := [_, _]) (zs := [zS, zS]) [0, 1] rfl rfl kR) ?_
      refine mql 9 rfl kR (fun hcl => ?_)
      refine zk rfl rfl clT ?_
      intro ab
      refine mqn 9 hcl ?_
      refine mql 10 rfl kR (fun hcl => ?_)
      first | refine stw rfl rfl ?_ | refine sts rfl rfl ?_
      refine zO 10 rfl kR ?_
      exact zg (hb, pb, ab) trivial suT (Wk.toT (CH T X.J X.C ++ XH X.V X.J) [ab, hb, pb, vb, L.p] wlT)
     ·
      refine zk rfl rfl clT ?_
      intro ab
      refine mqn 9 hcl ?_
      refine mql 3 rfl kR (fun hcl => ?_)
      refine kL rfl rfl rfl (k1 := .i64) (k2 := .i64) (ln := h.length) (cp := h.length) rfl rfl (Nat.le_refl _) omT omT ?_
      intro hb
      refine mqn 3 hcl (mq 8 rfl kR rfl rfl (zu (l := [_, _]) (zs := [zS, zS]) [0, 1] rfl rfl kR) ?_)
      refine mql 10 rfl kR (fun hcl => ?_)
      first | refine stw rfl rfl ?_ | refine sts rfl rfl ?_
      refine zO 10 rfl kR ?_
      exact zg (hb, pb, ab) trivial suT (Wk.toT (CH T X.J X.C ++ XH X.V X.J) [ab, hb, pb, vb, L.p] wlT)
    ·
     refine zk rfl rfl clT ?_
     intro ab
     refine mqn 9 hcl ?_
     refine mqls [3, 7] kR ⟨fun hcl => ⟨_, rfl, ?_⟩, fun hcl => ⟨_, rfl, ?_⟩, trivial⟩
     ·
      refine kL rfl rfl rfl (k1 := .i64) (k2 := .i64) (ln := h.length) (cp := h.length) rfl rfl (Nat.le_refl _) omT omT ?_
      intro hb
      refine mqn 3 hcl ?_
      refine mql 7 rfl kR (fun hcl => ?_)
      refine kL rfl rfl rfl (k1 := .i64) (k2 := .i64) (ln := p.length) (cp := p.length) rfl rfl (Nat.le_refl _) omT omT ?_
      intro pb
      refine mqn 7 hcl (mq 8 rfl kR rfl rfl (zu (l := [_, _]) (zs := [zS, zS]) [0, 1] rfl rfl kR) ?_)
      refine mql 10 rfl kR (fun hcl => ?_)
      first | refine stw rfl rfl ?_ | refine sts rfl rfl ?_
      refine zO 10 rfl kR ?_
      exact zg (hb, pb, ab) trivial suT (Wk.toT (CH T X.J X.C ++ XH X.V X.J) [ab, hb, pb, vb, L.p] wlT)
     ·
      refine kL rfl rfl rfl (k1 := .i64) (k2 := .i64) (ln := p.length) (cp := p.length) rfl rfl (Nat.le_refl _) omT omT ?_
      intro pb
      refine mqn 7 hcl ?_
      refine mql 3 rfl kR (fun hcl => ?_)
      refine kL rfl rfl rfl (k1 := .i64) (k2 := .i64) (ln := h.length) (cp := h.length) rfl rfl (Nat.le_refl _) omT omT ?_
      intro hb
      refine mqn 3 hcl (mq 8 rfl kR rfl rfl (zu (l := [_, _]) (zs := [zS, zS]) [0, 1] rfl rfl kR) ?_)
      refine mql 10 rfl kR (fun hcl => ?_)
      first | refine stw rfl rfl ?_ | refine sts rfl rfl ?_
      refine zO 10 rfl kR ?_
      exact zg (hb, pb, ab) trivial suT (Wk.toT (CH T X.J X.C ++ XH X.V X.J) [ab, hb, pb, vb, L.p] wlT)
   ·
    rintro ⟨hb, pb, ab⟩ -
    refine zt ((ab, .cs 134 [.slice (some ⟨hb, 0, none⟩) h.length h.length, .slice (some ⟨pb, 0, none⟩) p.length p.length] []) :: (hb, .row 5 (0, 0) h.length (fun _ => .int .u8 0)) :: (pb, .row 5 (0, 0) p.length (fun _ => .int .u8 0)) :: (vb, .cs 134 [.slice (some ⟨b1, 0, none⟩) h.length c1, .slice (some ⟨b2, 0, none⟩) p.length c2] []) :: PB L T (zc { X with tdv := Sl.nil }) :: (CH T X.J X.C ++ XH X.V X.J)) [(0, pV L.p), (5, pV vb), (10, pV ab), (8, .bool false)] rfl rfl ?_
    refine gg 6 ?_
    refine sl rfl rfl (l_copy (k := h.length) (gs := fun j => .int .u8 ((h.getD j 0 : Nat) : Int)) rfl rfl (Nat.min_self _).symm (ins_srcf hm1 lo1 kn1 ce1 VT.is) omT (fun _ => rfl)) ?_
    refine gg 3 ?_
    refine zA hb (.buf 5 h.length (bytes h)) like_cpy (gg 5 ?_)
    refine sl rfl rfl (l_copy (k := p.length) (gs := fun j => .int .u8 ((p.getD j 0 : Nat) : Int)) rfl rfl (Nat.min_self _).symm (ins_srcf hm2 lo2 kn2 ce2 VT.is) omT (fun _ => rfl)) ?_
    refine gg 3 ?_
    refine zA pb (.buf 5 p.length (bytes p)) like_cpy ?_
    refine ke (fun i => i == 6 || i == 7 || i == 10) (fun i => i == 10) ([PB L T (zc { X with tdv := Sl.nil }), (ab, .cs 134 [.slice (some ⟨hb, 0, none⟩) h.length h.length, .slice (some ⟨pb, 0, none⟩) p.length p.length] [])]) zF ?_
    refine mqh 0 rfl kR rfl rfl (fun _ => zj rfl) ?_
    refine mqh 1 rfl kR rfl rfl (fun _ => zj rfl) ?_
    refine mqh 2 rfl kR rfl rfl (fun _ => zJ rfl) ?_
    refine mqh 3 rfl kR rfl rfl (fun _ => zM rfl) ?_
    refine mqh 4 rfl kR rfl rfl (fun _ => zp rfl rfl rfl rfl) ?_
    refine mq 5 rfl kR rfl rfl (zG rfl rfl rfl rfl) ?_
    refine mql 6 rfl kR (fun hcl => ?_)
    refine kV (l := [_, _]) (zs := [zS, zS]) [0] rfl rfl rfl rfl kR rfl rfl ?_
    intro nb
    refine mqn 6 hcl ?_
    refine mql 7 rfl kR (fun hcl => ?_)
    refine kr (sz := 2) (news := [.slice (some ⟨hb, 0, none⟩) h.length h.length, .slice (some ⟨pb, 0, none⟩) p.length p.length]) rfl rfl rfl rfl rfl (zN (k := .cs 134 [.slice (some ⟨hb, 0, none⟩) h.length h.length, .slice (some ⟨pb, 0, none⟩) p.length p.length] []) (Nat.le_refl _) (Nat.le_refl _) (fun j u hj => by simp only [Blk.cell, look, nth, Nat.zero_add]; exact hj)) rfl (by decide) (by decide) (by decide) ?_
    intro nb2 nc hk1 hk2
    have hC : [.slice (some ⟨hb, 0, none⟩) h.length h.length, .slice (some ⟨pb, 0, none⟩) p.length p.length] = tdC ([] ++ [(⟨some ⟨hb, 0, none⟩, h.length, h.length⟩, ⟨some ⟨pb, 0, none⟩, p.length, p.length⟩)]) := by first | rfl | (rw [tdC_app]; rfl)
    rw [hC]
    refine mqn 7 hcl (mq 8 rfl kR rfl rfl (zJ rfl) ?_)
    refine mq 9 rfl kR rfl rfl (zM rfl) ?_
    refine mql 10 rfl kR (fun hcl => ?_)
    refine st1 rfl rfl ?_
    refine zO 10 rfl kR (gg 7 ?_)
    exact zm (H' := PB L T (zc { X with tdv := tdS (some (nb2, nc)) (0 + 1), V := VE pb p.length p :: VE hb h.length h :: X.V }) :: (nb2, .buf 134 (nc * 2) (tdC ([] ++ [(⟨some ⟨hb, 0, none⟩, h.length, h.length⟩, ⟨some ⟨pb, 0, none⟩, p.length, p.length⟩)]))) :: (CH T X.J X.C ++ XH (VE pb p.length p :: VE hb h.length h :: X.V) X.J)) rfl rfl (Wk.trans (Wk.pushV (b := hb)) (Wk.trans (Wk.pushV (b := pb)) (Wk.toT (CH T X.J X.C ++ XH (VE pb p.length p :: VE hb h.length h :: X.V) X.J) [L.p, nb2] wlT))) ⟨rfl, .inr ⟨by simp, nb2, nc, _, _, VE pb p.length p :: VE hb h.length h :: X.V, rfl, hk1, hk2, fun _ hy => List.mem_cons_of_mem _ (List.mem_cons_of_mem _ hy), ⟨hb, h.length, rfl, List.mem_cons_of_mem _ List.mem_cons_self, Nat.le_refl _, by omega⟩, ⟨pb, p.length, rfl, List.mem_cons_self, Nat.le_refl _, by omega⟩⟩⟩
 · have hcp := hR.cap tb tc rfl
   obtain ⟨X, rfl⟩ : ∃ Y : SS, X = { Y with tdv := ⟨some ⟨tb, 0, none⟩, es.length, tc⟩ } := ⟨X, by rw [show (⟨some ⟨tb, 0, none⟩, es.length, tc⟩ : Sl) = X.tdv from htd.symm]⟩
   refine zt (PB L T (zc { X with tdv := ⟨some ⟨tb, 0, none⟩, es.length, tc⟩ }) :: (tb, .buf 134 (tc * 2) (tdC es)) :: (CH T X.J X.C ++ XH X.V X.J)) _ rfl rfl (zd (zi (ku rfl rfl rfl clT ?_)))
   intro vb
   refine ku rfl rfl rfl clT ?_
   intro mb
   refine gg 3 ?_
   refine zL (σ := Unit) (fun _ => [(0, pV L.p), (5, pV vb), (8, .bool false)]) (fun _ => (vb, .cs 134 [.slice (some ⟨b1, 0, none⟩) h.length c1, .slice (some ⟨b2, 0, none⟩) p.length c2] []) :: PB L T (zc { X with tdv := ⟨some ⟨tb, 0, none⟩, es.length, tc⟩ }) :: (tb, .buf 134 (tc * 2) (tdC es)) :: (CH T X.J X.C ++ XH X.V X.J)) (fun _ => h ∉ hs) ?_ ?_
   ·
    refine gg 11 ?_
    refine zw (σ := Nat) (fun k => [(0, pV L.p), (2, .bool al), (5, pV vb), (7, pV mb), (8, .bool false), (15, .int .i64 es.length), (16, .int .i64 k)]) (fun _ => (mb, .cs 57 [.int .i64 m1, .int .i64 m2, .int .i64 m3] []) :: (vb, .cs 134 [.slice (some ⟨b1, 0, none⟩) h.length c1, .slice (some ⟨b2, 0, none⟩) p.length c2] []) :: PB L T (zc { X with tdv := ⟨some ⟨tb, 0, none⟩, es.length, tc⟩ }) :: (tb, .buf 134 (tc * 2) (tdC es)) :: (CH T X.J X.C ++ XH X.V X.J)) (fun k => k ≤ es.length ∧ ∀ i x, i < k → hs[i]? = some x → x ≠ h) (fun k => es.length - k) 0 ⟨Nat.zero_le _, fun i x hi => by omega⟩ suT (Wk.toT (CH T X.J X.C ++ XH X.V X.J) [mb, vb, L.p, tb] wlT) ?_
    rintro k ⟨hk, hkn⟩
    have hlen := hR.len
    by_cases hkl : k < es.length
    ·
     obtain ⟨e1, he1⟩ : ∃ e, es[k]? = some e := ⟨_, List.getElem?_eq_getElem hkl⟩
     obtain ⟨x1, hx1⟩ : ∃ x, hs[k]? = some x := ⟨_, List.getElem?_eq_getElem (by omega : k < hs.length)⟩
     obtain ⟨hv1, hlt1⟩ := hR.get k e1 x1 he1 hx1
     have htg := (tdC_get he1).1
     have hB1 : BSrc (CH T X.J X.C ++ XH X.V X.J) (.slice (some ⟨b1, 0, none⟩) h.length c1) h := InS.bsrc (s := ⟨some ⟨b1, 0, none⟩, h.length, c1⟩) ⟨b1, c1, k1, rfl, hm1, lo1, kn1, ce1⟩ hh
     have hB2 : BSrc (CH T X.J X.C ++ XH X.V X.J) e1.1.v x1 := InV.bsrc hv1 hlt1
     refine gg 17 ?_
     by_cases heq : h = x1
     ·
      refine gg 9 ?_
      refine dqz (zy rfl rfl rfl omT rfl) (dfa ?_)
      refine dqz (q_ldbf (i := k * 2) rfl omT htg) (dca (beq_ok (r := true) hB1 hB2 (decide_eq_true heq)) ?_)
      refine wg ?_
      refine zf ?_
      have hmem : h ∈ hs := by rw [heq]; exact List.mem_of_getElem? hx1
      have hal : al = true := hdup hmem
      subst hal
      refine gg 20 ?_
      exact zm (H' := PB L T (zc { X with tdv := ⟨some ⟨tb, 0, none⟩, es.length, tc⟩ }) :: (tb, .buf 134 (tc * 2) (tdC es)) :: (CH T X.J X.C ++ XH X.V X.J)) rfl rfl (Wk.toT (CH T X.J X.C ++ XH X.V X.J) [L.p, tb] wlT) ⟨rfl, .inl ⟨hmem, rfl⟩⟩
     ·
      refine gg 9 ?_
      refine dqz (zy rfl rfl rfl omT rfl) (dfa ?_)
      refine dqz (q_ldbf (i := k * 2) rfl omT htg) (dca (beq_ok (r := false) hB1 hB2 (decide_eq_false heq)) ?_)
      refine gg 10 ?_
      exact zh (k + 1) ⟨by omega, fun i x hi hx => by
      by_cases hik : i = k
      · subst hik
        rw [hx1] at hx
        cases hx
        exact fun e => heq e.symm
      · exact hkn i x omT hx⟩ omT suT (Wk.refl _)
    ·
     refine gg 11 ?_
     exact zg () (fun hm => by
     obtain ⟨i, hi, he⟩ := List.getElem_of_mem hm
     exact hkn i h omT (by rw [List.getElem?_eq_getElem hi, he]) rfl) suT (Wk.toT (CH T X.J X.C ++ XH X.V X.J) [vb, L.p, tb] wlT)
   ·
    rintro _ hno
    refine zt ((vb, .cs 134 [.slice (some ⟨b1, 0, none⟩) h.length c1, .slice (some ⟨b2, 0, none⟩) p.length c2] []) :: PB L T (zc { X with tdv := ⟨some ⟨tb, 0, none⟩, es.length, tc⟩ }) :: (tb, .buf 134 (tc * 2) (tdC es)) :: (CH T X.J X.C ++ XH X.V X.J)) [(0, pV L.p), (5, pV vb), (8, .bool false)] rfl rfl ?_
    refine zL (σ := Nat × Nat × Nat) (fun x => [(0, pV L.p), (5, pV vb), (10, pV x.2.2), (8, .bool false)]) (fun x => (x.2.2, .cs 134 [.slice (some ⟨x.1, 0, none⟩) h.length h.length, .slice (some ⟨x.2.1, 0, none⟩) p.length p.length] []) :: (x.1, .row 5 (0, 0) h.length (fun _ => .int .u8 0)) :: (x.2.1, .row 5 (0, 0) p.length (fun _ => .int .u8 0)) :: (vb, .cs 134 [.slice (some ⟨b1, 0, none⟩) h.length c1, .slice (some ⟨b2, 0, none⟩) p.length c2] []) :: PB L T (zc { X with tdv := ⟨some ⟨tb, 0, none⟩, es.length, tc⟩ }) :: (tb, .buf 134 (tc * 2) (tdC es)) :: (CH T X.J X.C ++ XH X.V X.J)) (fun _ => True) ?_ ?_
    ·
     refine ke (fun i => i == 3 || i == 7 || i == 9 || i == 10) (fun i => i == 10) ([(vb, .cs 134 [.slice (some ⟨b1, 0, none⟩) h.length c1, .slice (some ⟨b2, 0, none⟩) p.length c2] [])]) zF ?_
     refine mqh 0 rfl kR rfl rfl (fun _ => zM rfl) ?_
     refine mqh 1 rfl kR rfl rfl (fun _ => zp rfl rfl rfl rfl) ?_
     refine mqh 2 rfl kR rfl rfl (fun _ => q_len rfl) ?_
     refine mqh 4 rfl kR rfl rfl (fun _ => zM rfl) ?_
     refine mqh 5 rfl kR rfl rfl (fun _ => zp rfl rfl rfl rfl) ?_
     refine mqh 6 rfl kR rfl rfl (fun _ => q_len rfl) ?_
     refine mqls [3, 7, 9] kR ⟨fun hcl => ⟨_, rfl, ?_⟩, fun hcl => ⟨_, rfl, ?_⟩, fun hcl => ⟨_, rfl, ?_⟩, trivial⟩
     ·
      refine kL rfl rfl rfl (k1 := .i64) (k2 := .i64) (ln := h.length) (cp := h.length) rfl rfl (Nat.le_refl _) omT omT ?_
      intro hb
      refine mqn 3 hcl ?_
      refine mqls [7, 9] kR ⟨fun hcl => ⟨_, rfl, ?_⟩, fun hcl => ⟨_, rfl, ?_⟩, trivial⟩
      ·
        refine kL rfl rfl rfl (k1 := .i64) (k2 := .i64) (ln := p.length) (cp := p.length) rfl rfl (Nat.le_refl _) omT omT ?_
        intro pb
        refine mqn 7 hcl ?_
        refine mqh 8 rfl kR rfl rfl (fun _ => zu (l := [_, _]) (zs := [zS, zS]) [0, 1] rfl rfl kR) ?_
        refine mql 9 rfl kR (fun hcl => ?_)
        refine zk rfl rfl clT ?_
        intro ab
        refine mqn 9 hcl ?_
        refine mql 10 rfl kR (fun hcl => ?_)
        first | refine stw rfl rfl ?_ | refine sts rfl rfl ?_
        refine zO 10 rfl kR ?_
        exact zg (hb, pb, ab) trivial suT (Wk.toT (CH T X.J X.C ++ XH X.V X.J) [ab, hb, pb, vb, L.p, tb] wlT)
      ·
        refine zk rfl rfl clT ?_
        intro ab
        refine mqn 9 hcl ?_
        refine mql 7 rfl kR (fun hcl => ?_)
        refine kL rfl rfl rfl (k1 := .i64) (k2 := .i64) (ln := p.length) (cp := p.length) rfl rfl (Nat.le_refl _) omT omT ?_
        intro pb
        refine mqn 7 hcl (mq 8 rfl kR rfl rfl (zu (l := [_, _]) (zs := [zS, zS]) [0, 1] rfl rfl kR) ?_)
        refine mql 10 rfl kR (fun hcl => ?_)
        first | refine stw rfl rfl ?_ | refine sts rfl rfl ?_
        refine zO 10 rfl kR ?_
        exact zg (hb, pb, ab) trivial suT (Wk.toT (CH T X.J X.C ++ XH X.V X.J) [ab, hb, pb, vb, L.p, tb] wlT)
     ·
      refine kL rfl rfl rfl (k1 := .i64) (k2 := .i64) (ln := p.length) (cp := p.length) rfl rfl (Nat.le_refl _) omT omT ?_
      intro pb
      refine mqn 7 hcl ?_
      refine mqls [3, 9] kR ⟨fun hcl => ⟨_, rfl, ?_⟩, fun hcl => ⟨_, rfl, ?_⟩, trivial⟩
      ·
        refine kL rfl rfl rfl (k1 := .i64) (k2 := .i64) (ln := h.length) (cp := h.length) rfl rfl (Nat.le_refl _) omT omT ?_
        intro hb
        refine mqn 3 hcl ?_
        refine mqh 8 rfl kR rfl rfl (fun _ => zu (l := [_, _]) (zs := [zS, zS]) [0, 1] rfl rfl kR) ?_
        refine mql 9 rfl kR (fun hcl => ?_)
        refine zk rfl rfl clT ?_
        intro ab
        refine mqn 9 hcl ?_
        refine mql 10 rfl kR (fun hcl => ?_)
        first | refine stw rfl rfl ?_ | refine sts rfl rfl ?_
        refine zO 10 rfl kR ?_
        exact zg (hb, pb, ab) trivial suT (Wk.toT (CH T X.J X.C ++ XH X.V X.J) [ab, hb, pb, vb, L.p, tb] wlT)
      ·
        refine zk rfl rfl clT ?_
        intro ab
        refine mqn 9 hcl ?_
        refine mql 3 rfl kR (fun hcl => ?_)
        refine kL rfl rfl rfl (k1 := .i64) (k2 := .i64) (ln := h.length) (cp := h.length) rfl rfl (Nat.le_refl _) omT omT ?_
        intro hb
        refine mqn 3 hcl (mq 8 rfl kR rfl rfl (zu (l := [_, _]) (zs := [zS, zS]) [0, 1] rfl rfl kR) ?_)
        refine mql 10 rfl kR (fun hcl => ?_)
        first | refine stw rfl rfl ?_ | refine sts rfl rfl ?_
        refine zO 10 rfl kR ?_
        exact zg (hb, pb, ab) trivial suT (Wk.toT (CH T X.J X.C ++ XH X.V X.J) [ab, hb, pb, vb, L.p, tb] wlT)
     ·
      refine zk rfl rfl clT ?_
      intro ab
      refine mqn 9 hcl ?_
      refine mqls [3, 7] kR ⟨fun hcl => ⟨_, rfl, ?_⟩, fun hcl => ⟨_, rfl, ?_⟩, trivial⟩
      ·
        refine kL rfl rfl rfl (k1 := .i64) (k2 := .i64) (ln := h.length) (cp := h.length) rfl rfl (Nat.le_refl _) omT omT ?_
        intro hb
        refine mqn 3 hcl ?_
        refine mql 7 rfl kR (fun hcl => ?_)
        refine kL rfl rfl rfl (k1 := .i64) (k2 := .i64) (ln := p.length) (cp := p.length) rfl rfl (Nat.le_refl _) omT omT ?_
        intro pb
        refine mqn 7 hcl (mq 8 rfl kR rfl rfl (zu (l := [_, _]) (zs := [zS, zS]) [0, 1] rfl rfl kR) ?_)
        refine mql 10 rfl kR (fun hcl => ?_)
        first | refine stw rfl rfl ?_ | refine sts rfl rfl ?_
        refine zO 10 rfl kR ?_
        exact zg (hb, pb, ab) trivial suT (Wk.toT (CH T X.J X.C ++ XH X.V X.J) [ab, hb, pb, vb, L.p, tb] wlT)
      ·
        refine kL rfl rfl rfl (k1 := .i64) (k2 := .i64) (ln := p.length) (cp := p.length) rfl rfl (Nat.le_refl _) omT omT ?_
        intro pb
        refine mqn 7 hcl ?_
        refine mql 3 rfl kR (fun hcl => ?_)
        refine kL rfl rfl rfl (k1 := .i64) (k2 := .i64) (ln := h.length) (cp := h.length) rfl rfl (Nat.le_refl _) omT omT ?_
        intro hb
        refine mqn 3 hcl (mq 8 rfl kR rfl rfl (zu (l := [_, _]) (zs := [zS, zS]) [0, 1] rfl rfl kR) ?_)
        refine mql 10 rfl kR (fun hcl => ?_)
        first | refine stw rfl rfl ?_ | refine sts rfl rfl ?_
        refine zO 10 rfl kR ?_
        exact zg (hb, pb, ab) trivial suT (Wk.toT (CH T X.J X.C ++ XH X.V X.J) [ab, hb, pb, vb, L.p, tb] wlT)
    ·
     rintro ⟨hb, pb, ab⟩ -
     refine zt ((ab, .cs 134 [.slice (some ⟨hb, 0, none⟩) h.length h.length, .slice (some ⟨pb, 0, none⟩) p.length p.length] []) :: (hb, .row 5 (0, 0) h.length (fun _ => .int .u8 0)) :: (pb, .row 5 (0, 0) p.length (fun _ => .int .u8 0)) :: (vb, .cs 134 [.slice (some ⟨b1, 0, none⟩) h.length c1, .slice (some ⟨b2, 0, none⟩) p.length c2] []) :: PB L T (zc { X with tdv := ⟨some ⟨tb, 0, none⟩, es.length, tc⟩ }) :: (tb, .buf 134 (tc * 2) (tdC es)) :: (CH T X.J X.C ++ XH X.V X.J)) [(0, pV L.p), (5, pV vb), (10, pV ab), (8, .bool false)] rfl rfl ?_
     refine gg 6 ?_
     refine sl rfl rfl (l_copy (k := h.length) (gs := fun j => .int .u8 ((h.getD j 0 : Nat) : Int)) rfl rfl (Nat.min_self _).symm (ins_srcf hm1 lo1 kn1 ce1 VT.is) omT (fun _ => rfl)) ?_
     refine gg 3 ?_
     refine zA hb (.buf 5 h.length (bytes h)) like_cpy (gg 5 ?_)
     refine sl rfl rfl (l_copy (k := p.length) (gs := fun j => .int .u8 ((p.getD j 0 : Nat) : Int)) rfl rfl (Nat.min_self _).symm (ins_srcf hm2 lo2 kn2 ce2 VT.is) omT (fun _ => rfl)) ?_
     refine gg 3 ?_
     refine zA pb (.buf 5 p.length (bytes p)) like_cpy ?_
     refine ke (fun i => i == 6 || i == 7 || i == 10) (fun i => i == 10) ([PB L T (zc { X with tdv := ⟨some ⟨tb, 0, none⟩, es.length, tc⟩ }), (ab, .cs 134 [.slice (some ⟨hb, 0, none⟩) h.length h.length, .slice (some ⟨pb, 0, none⟩) p.length p.length] [])]) zF ?_
     refine mqh 0 rfl kR rfl rfl (fun _ => zj rfl) ?_
     refine mqh 1 rfl kR rfl rfl (fun _ => zj rfl) ?_
     refine mqh 2 rfl kR rfl rfl (fun _ => zJ rfl) ?_
     refine mqh 3 rfl kR rfl rfl (fun _ => zM rfl) ?_
     refine mqh 4 rfl kR rfl rfl (fun _ => zp rfl rfl rfl rfl) ?_
     refine mq 5 rfl kR rfl rfl (zG rfl rfl rfl rfl) ?_
     refine mql 6 rfl kR (fun hcl => ?_)
     refine kV (l := [_, _]) (zs := [zS, zS]) [0] rfl rfl rfl rfl kR rfl rfl ?_
     intro nb
     refine mqn 6 hcl ?_
     refine mql 7 rfl kR (fun hcl => ?_)
     refine zY (sz := 2) (n0 := es.length) (mm := tc * 2) (xs := tdC es) (news := [.slice (some ⟨hb, 0, none⟩) h.length h.length, .slice (some ⟨pb, 0, none⟩) p.length p.length]) rfl rfl rfl rfl rfl (tdC_length es) hcp.1 hcp.2 rfl (zN (k := .cs 134 [.slice (some ⟨hb, 0, none⟩) h.length h.length, .slice (some ⟨pb, 0, none⟩) p.length p.length] []) (Nat.le_refl _) (Nat.le_refl _) (fun j u hj => by simp only [Blk.cell, look, nth, Nat.zero_add]; exact hj)) rfl (kK rfl) omT omT ?_
     intro nb2 nc hk1 hk2
     have hC : tdC es ++ [.slice (some ⟨hb, 0, none⟩) h.length h.length, .slice (some ⟨pb, 0, none⟩) p.length p.length] = tdC (es ++ [(⟨some ⟨hb, 0, none⟩, h.length, h.length⟩, ⟨some ⟨pb, 0, none⟩, p.length, p.length⟩)]) := by first | rfl | (rw [tdC_app]; rfl)
     rw [hC]
     refine mqn 7 hcl (mq 8 rfl kR rfl rfl (zJ rfl) ?_)
     refine mq 9 rfl kR rfl rfl (zM rfl) ?_
     refine mql 10 rfl kR (fun hcl => ?_)
     refine st1 rfl rfl ?_
     refine zO 10 rfl kR (gg 7 ?_)
     exact zm (H' := PB L T (zc { X with tdv := tdS (some (nb2, nc)) (es.length + 1), V := VE pb p.length p :: VE hb h.length h :: X.V }) :: (nb2, .buf 134 (nc * 2) (tdC (es ++ [(⟨some ⟨hb, 0, none⟩, h.length, h.length⟩, ⟨some ⟨pb, 0, none⟩, p.length, p.length⟩)]))) :: (CH T X.J X.C ++ XH (VE pb p.length p :: VE hb h.length h :: X.V) X.J)) rfl rfl (Wk.trans (Wk.pushV (b := hb)) (Wk.trans (Wk.pushV (b := pb)) (Wk.toT (CH T X.J X.C ++ XH (VE pb p.length p :: VE hb h.length h :: X.V) X.J) [L.p, nb2] wlT))) ⟨rfl, .inr ⟨hno, nb2, nc, _, _, VE pb p.length p :: VE hb h.length h :: X.V, rfl, hk1, hk2, fun _ hy => List.mem_cons_of_mem _ (List.mem_cons_of_mem _ hy), ⟨hb, h.length, rfl, List.mem_cons_of_mem _ List.mem_cons_self, Nat.le_refl _, by omega⟩, ⟨pb, p.length, rfl, List.mem_cons_self, Nat.le_refl _, by omega⟩⟩⟩
theorem ct_perm {T : List Nat} {J : JL} {C : Option (Nat × Nat)} {V V' l : zl} {b : Nat} {k : Blk} (h : V.Perm ((b, k) :: V')) : (l ++ (CH T J C ++ XH V J)).Perm ((b, k) :: (l ++ (CH T J C ++ XH V' J))) := by
 have h1 : (XH V J).Perm ((b, k) :: XH V' J) := by
  show (V ++ JH 5 J).Perm ((b, k) :: (V' ++ JH 5 J))
  exact h.append_right _
 have h2 : (CH T J C ++ XH V J).Perm ((b, k) :: (CH T J C ++ XH V' J)) := (h1.append_left _).trans List.perm_middle
 exact (h2.append_left _).trans List.perm_middle
theorem Wk.push {H H1 : zl} {T : List Nat} {J : JL} {C : Option (Nat × Nat)} {V : VL} {F : zl → zl} {b : Nat} {k : Blk} [hr : Rem H b k H1] [hc : CT H1 T J C V F] : Wk H (F (CH T J C ++ XH ((b, k) :: V) J)) := by
 intro pu w0 D w hk
 obtain ⟨l, r, rfl, hH1⟩ := hr.is
 obtain ⟨l2, h2, hF⟩ := hc.is
 have hp : (l ++ (b, k) :: r).Perm (F (CH T J C ++ XH ((b, k) :: V) J)) := by
  refine List.perm_middle.trans ?_
  rw [← hH1, h2, hF]
  exact (ct_perm (List.Perm.refl _)).symm
 exact hk.mono (fun x hx => hp.mem_iff.2 hx) (hk.hok.perm hp).nodup
theorem mem_split {V : VL} {x : Nat × Blk} (h : x ∈ V) : ∃ V', V.Perm (x :: V') := by
 obtain ⟨a, b, rfl⟩ := List.append_of_mem h
 exact ⟨a ++ b, List.perm_middle⟩
theorem Fn.conv {P : Program} {f : Nat} {args : List Value} {H H2 : zl} {R R' : Value → zl → Prop} (hp : H2.Perm H) (h : Fn P f args H R) (k : ∀ v H', R v H' → ∃ H'', Wk H' H'' ∧ R' v H'') : Fn P f args H2 R' := by
 intro w hw
 refine (h w (hw.perm hp)).mono ?_
 rintro e w' ⟨v, H', he, h1, h2⟩
 obtain ⟨H'', hw2, h3⟩ := k v H' h2
 have h4 := hw2 _ _ _ _ h1
 have hm : ∀ b, b ∈ H.map (·.1) ↔ b ∈ H2.map (·.1) := fun b => ((hp.map _).mem_iff).symm
 exact ⟨v, H'', he, ⟨h4.hok, ⟨h4.kept.os, h4.kept.tape, h4.kept.output, h4.kept.size, fun b hb hd => h4.kept.block b hb (fun hc => hd ((hm b).1 hc))⟩, fun x hx => (h4.own x hx).imp (hm _).1 id, h4.pure⟩, h3⟩
theorem Fn.less {P : Program} {f : Nat} {args : List Value} {A B H : zl} {b : Nat} {k k' : Blk} {R R' : Value → zl → Prop} (hp : H.Perm (A ++ (b, k) :: B)) (hl : k.like k') (h : Fn P f args (A ++ (b, k') :: B) R) (kk : ∀ v H', R v H' → ∃ H'', Wk H' H'' ∧ R' v H'') : Fn P f args H R' := by
 have h2 : Fn P f args (A ++ (b, k) :: B) R := by
  intro w hw
  have hD : (A ++ (b, k') :: B).map (·.1) = (A ++ (b, k) :: B).map (·.1) := by simp
  have h3 : WOK false w ((A ++ (b, k) :: B).map (·.1)) (A ++ (b, k) :: B) w := ⟨hw, Kept.refl _ _, fun x hx => .inl (List.mem_map.2 ⟨x, hx, rfl⟩), fun e => by cases e⟩
  have h4 := (WOK.like h3 hl).hok
  have := h w h4
  rw [hD] at this
  exact this
 exact Fn.conv hp h2 kk
section
variable {P : Program} {n : Nat} {ds : List Deferred} {pu : Bool} {w0 : World} {D : List Nat} {H H' : zl} {E : Env} {ops : Array Oper} {Q : Exit → Act → World → Prop} {K : Act → World → Prop} {rest : List Oper} {lo la : Nat → Bool} {f : Nat} {listed : Array Bool} {Hs Hf : zl}
theorem sq_wkH (hw : Wk H H') (h : SQ P n ds pu w0 D ops Q K H' E rest) : SQ P n ds pu w0 D ops Q K H E rest := fun a w he hk => h a w he (hw _ _ _ _ hk)
end
abbrev RE (b : Nat) (l : List Value) : Nat × Blk := (b, .row 5 (l.length, l.length + 1) l.length (fun k => l.getD k undef))
theorem re_ins {V : VL} {b c : Nat} {x : List Nat} {l : List Value} (h : RE b l ∈ V) (hl : l = bytes x) : InS V ⟨some ⟨b, 0, none⟩, x.length, c⟩ x := by
 subst hl
 exact ⟨b, c, _, rfl, h, rfl, by simp [Blk.known], fun j u hj => by simp [Blk.cell, List.getD_eq_getElem?_getD, hj]⟩
abbrev dfE (a1 a2 a3 a4 : Nat) : List (Sl × Sl) := [(⟨some ⟨a1, 0, none⟩, 1, 1⟩, ⟨some ⟨a2, 0, none⟩, 1, 1⟩), (⟨some ⟨a3, 0, none⟩, 2, 2⟩, ⟨some ⟨a4, 0, none⟩, 18, 18⟩)]
abbrev tagV : List Value := [.int .u8 116, .int .u8 97, .int .u8 103, .int .u8 58, .int .u8 121, .int .u8 97, .int .u8 109, .int .u8 108, .int .u8 46, .int .u8 111, .int .u8 114, .int .u8 103, .int .u8 44, .int .u8 50, .int .u8 48, .int .u8 48, .int .u8 50, .int .u8 58]
abbrev tagP : List Nat := [116, 97, 103, 58, 121, 97, 109, 108, 46, 111, 114, 103, 44, 50, 48, 48, 50, 58]
theorem dtd_ok : Fn prog 130 [] []
  (fun v H' => ∃ tb a1 a2 a3 a4, v = .slice (some ⟨tb, 0, none⟩) 2 2 ∧ H' = [(tb, .cs 134 (tdC (dfE a1 a2 a3 a4)) []), RE a1 [.int .u8 33], RE a2 [.int .u8 33], RE a3 [.int .u8 33, .int .u8 33], RE a4 tagV]) := by
 refine zo func130 rfl rfl rfl ?_
 intro w
 refine gg 7 ?_
 refine kV (l := [_]) (zs := [.int .u8 0]) [0] rfl rfl rfl rfl kR rfl rfl ?_
 intro a1
 refine s_cvs underlying23 underlying5 rfl rfl rfl (kV (l := [_]) (zs := [.int .u8 0]) [0] rfl rfl rfl rfl kR rfl rfl ?_)
 intro a2
 refine s_cvs underlying23 underlying5 rfl rfl rfl (sqz (zu (l := [_, _]) (zs := [zS, zS]) [0, 1] rfl rfl kR) (kV (l := [_, _]) (zs := [.int .u8 0, .int .u8 0]) [0, 1] rfl rfl rfl rfl kR rfl rfl ?_))
 intro a3
 refine s_cvs underlying23 underlying5 rfl rfl rfl ?_
 refine kV (l := [_, _, _, _, _, _, _, _, _, _, _, _, _, _, _, _, _, _]) (zs := [.int .u8 0, .int .u8 0, .int .u8 0, .int .u8 0, .int .u8 0, .int .u8 0, .int .u8 0, .int .u8 0, .int .u8 0, .int .u8 0, .int .u8 0, .int .u8 0, .int .u8 0, .int .u8 0, .int .u8 0, .int .u8 0, .int .u8 0, .int .u8 0]) [0, 1, 2, 3, 4, 5, 6, 7, 8, 9, 10, 11, 12, 13, 14, 15, 16, 17] rfl rfl rfl rfl kR rfl rfl ?_
 intro a4
 refine s_cvs underlying23 underlying5 rfl rfl rfl (sqz (zu (l := [_, _]) (zs := [zS, zS]) [0, 1] rfl rfl kR) (kV (l := [_, _, _, _]) (zs := [zS, zS, zS, zS]) [0, 2] rfl rfl rfl rfl kR rfl rfl ?_))
 intro tb
 refine gg 4 ?_
 exact zm rfl rfl (Wk.to [tb, a1, a2, a3, a4] (by exact ⟨rfl, .inl rfl, rfl, .inl rfl, rfl, .inl rfl, rfl, .inl rfl, rfl, .inl rfl, trivial⟩)) ⟨tb, a1, a2, a3, a4, rfl, rfl⟩
def NTD (y : Nat × Blk) : Prop := ∀ n l, y.2 ≠ .buf 134 n l
theorem ntd_ve (b c : Nat) (x : List Nat) : NTD (VE b c x) := fun n l h => by
 injection h with h1
 exact absurd h1 (by decide)
theorem ntd_re (b : Nat) (l : List Value) : NTD (RE b l) := fun n l' h => by cases h
def InT (V : VL) (s : Sl) (x : List Nat) : Prop := InV V s x ∨ ∃ b c, s = ⟨some ⟨b, 0, none⟩, x.length, c⟩ ∧ RE b (bytes x) ∈ V
theorem InT.inS {V : VL} {s : Sl} {x : List Nat} (h : InT V s x) : InS V s x := by
 rcases h with h | ⟨b, c, rfl, h⟩
 · exact h.inS
 · exact re_ins h rfl
theorem InV.keep {V V' : VL} {s : Sl} {x : List Nat} (hv : ∀ y ∈ V, NTD y → y ∈ V') (h : InV V s x) : InV V' s x := by
 obtain ⟨b, c, h1, h2, h3⟩ := h
 exact ⟨b, c, h1, hv _ h2 (ntd_ve _ _ _), h3⟩
theorem InT.keep {V V' : VL} {s : Sl} {x : List Nat} (hv : ∀ y ∈ V, NTD y → y ∈ V') (h : InT V s x) : InT V' s x := by
 rcases h with h | ⟨b, c, h1, h2⟩
 · exact .inl (h.keep hv)
 · exact .inr ⟨b, c, h1, hv _ h2 (ntd_re _ _)⟩
theorem TVok.keep {V V' : VL} {tv : TV} {tk : Tk} (hv : ∀ y ∈ V, NTD y → y ∈ V') (h : TVok V tv tk) : TVok V' tv tk := by
 cases tk <;> simp only [TVok] at * <;> try exact h
 · exact ⟨h.1, h.2.1.keep hv, h.2.2.keep hv⟩
 · exact ⟨h.1, h.2.1, h.2.2.keep hv⟩
theorem TDR.keep {V V' : VL} {o : Option (Nat × Nat)} {es : List (Sl × Sl)} {hs : List (List Nat)} (hv : ∀ y ∈ V, NTD y → y ∈ V') (h : TDR V o es hs) : TDR V' o es hs :=
 ⟨h.none_, h.cap, h.len, fun i e x h1 h2 => ⟨(h.get i e x h1 h2).1.keep hv, (h.get i e x h1 h2).2⟩⟩
theorem QR.keep {L : Lay} {T : List Nat} {p : Nat → Nat} {f : Nat → Tk} {N : Nat} {X : SS} {i j : Nat} {s : Sl} {V' : VL} (hv : ∀ y ∈ X.V, NTD y → y ∈ V') (h : QR L T p f N X i j) : QR L T p f N { X with tdv := s, V := V' } i j :=
 ⟨(h.si.st (k := X.st) (s := X.stv) (t := s)).vs, h.cnt, fun k tv hk => (h.tok k tv hk).keep hv, h.pl, h.pf, h.tp, h.ty, h.ne, h.lj, h.jb, h.ib, h.av⟩
def TDV (V : VL) (s : Sl) (hs : List (List Nat)) : Prop := ∃ o es, s = tdS o es.length ∧ (∀ b c, o = some (b, c) → ∃ r, (b, Blk.buf 134 (c * 2) (tdC (es ++ r))) ∈ V) ∧ TDR V o es hs
theorem TDV.cut {V : VL} {s : Sl} {hs : List (List Nat)} (h : TDV V s hs) (hne : hs ≠ []) : ∃ b n c, s = ⟨some ⟨b, 0, none⟩, n, c⟩ ∧ n ≤ c ∧ TDV V ⟨some ⟨b, 0, none⟩, 0, c⟩ [] := by
 obtain ⟨o, es, h1, h2, h3⟩ := h
 rcases o with _ | ⟨b, c⟩
 · have := h3.len
   rw [h3.none_ rfl] at this
   exact absurd (List.length_eq_zero_iff.1 this.symm) hne
 · obtain ⟨r, hr⟩ := h2 b c rfl
   have hc := h3.cap b c rfl
   exact ⟨b, es.length, c, h1, hc.1, some (b, c), [], rfl, fun b' c' e => (by cases e; exact ⟨es ++ r, hr⟩), ⟨fun e => (by cases e), fun b' c' e => (by cases e; exact ⟨Nat.zero_le _, hc.2⟩), rfl, fun i e x h => (by simp at h)⟩⟩
def addH (hs : List (List Nat)) (h : List Nat) : List (List Nat) := if h ∈ hs then hs else hs ++ [h]
theorem TDR.add {V V' : VL} {o o' : Option (Nat × Nat)} {es : List (Sl × Sl)} {hs : List (List Nat)} {e1 e2 : Sl} {h : List Nat} {b c : Nat} (hv : ∀ y ∈ V, y ∈ V') (hR : TDR V o es hs) (ho : o' = some (b, c)) (h1 : es.length + 1 ≤ c) (h2 : c ≤ 9223372036854775807) (h3 : InV V' e1 h) (h4 : ∀ c ∈ h, c < 256) : TDR V' o' (es ++ [(e1, e2)]) (hs ++ [h]) := by
 subst ho
 have hl := hR.len
 refine ⟨fun e => (by cases e), fun b' c' e => ?_, by simp [hl], fun i e x he hx => ?_⟩
 · cases e
   exact ⟨by simpa using h1, h2⟩
 · rcases Nat.lt_or_ge i es.length with hlt | hge
   · rw [List.getElem?_append_left hlt] at he
     rw [List.getElem?_append_left omT] at hx
     exact ⟨(hR.get i e x he hx).1.mono hv, (hR.get i e x he hx).2⟩
   · have h0 : i - es.length = 0 := by
      have := (List.getElem?_eq_some_iff.1 he).1
      simp at this
      omega
     rw [List.getElem?_append_right hge, h0] at he
     rw [List.getElem?_append_right omT, show i - hs.length = 0 by omega] at hx
     obtain rfl : (e1, e2) = e := by simpa using he
     obtain rfl : h = x := by simpa using hx
     exact ⟨h3, h4⟩
theorem atdV_ok (L : Lay) (T : List Nat) (X : SS) (hs : List (List Nat)) (s1 s2 : Sl) (h p : List Nat) (al : Bool) (m1 m2 m3 : Int) (hR : TDV X.V X.tdv hs) (h1 : InT X.V s1 h) (h2 : InT X.V s2 p) (hh : ∀ c ∈ h, c < 256) (hp : ∀ c ∈ p, c < 256) (hdup : h ∈ hs → al = true) (hln : hs.length < 1000) (hhl : h.length < 1000000) (hpl : p.length < 1000000) :
   Fn prog 129 [pV L.p, .agg #[s1.v, s2.v], .bool al, .agg #[.int .i64 m1, .int .i64 m2, .int .i64 m3]] (PB L T (zc X) :: (CH T X.J X.C ++ XH X.V X.J))
     (fun v H' => v = .bool true ∧ ∃ s' V', H' = PB L T (zc { X with tdv := s', V := V' }) :: (CH T X.J X.C ++ XH V' X.J) ∧ TDV V' s' (addH hs h) ∧ (∀ y ∈ X.V, NTD y → y ∈ V')) := by
 obtain ⟨o, es, htd, hmem, hTR⟩ := hR
 rcases o with _ | ⟨tb, tc⟩
 · have hes : es = [] := hTR.none_ rfl
   subst hes
   refine Fn.conv (List.Perm.refl _) (atd_ok L T X none [] hs s1 s2 h p al m1 m2 m3 htd hTR h1.inS h2.inS hh hp hdup (by simp) hhl hpl) ?_
   rintro v H' ⟨rfl, hc⟩
   rcases hc with ⟨hm, rfl⟩ | ⟨hm, b, c, e1, e2, V', rfl, k1, k2, k3, k4, k5⟩
   · exact ⟨_, Wk.refl _, rfl, X.tdv, X.V, rfl, ⟨none, [], htd, hmem, by rw [addH, if_pos hm]; exact hTR⟩, fun y hy _ => hy⟩
   · refine ⟨PB L T (zc { X with tdv := tdS (some (b, c)) (0 + 1), V := V' }) :: (CH T X.J X.C ++ XH ((b, .buf 134 (c * 2) (tdC ([] ++ [(e1, e2)]))) :: V') X.J), ?_, rfl, _, _, rfl, ⟨some (b, c), [] ++ [(e1, e2)], rfl, fun b' c' e => (by cases e; exact ⟨[], by rw [List.append_nil]; exact List.mem_cons_self⟩), ?_⟩, fun y hy _ => List.mem_cons_of_mem _ (k3 y hy)⟩
     · exact Wk.push (H := PB L T (zc { X with tdv := tdS (some (b, c)) (0 + 1), V := V' }) :: (b, .buf 134 (c * 2) (tdC ([] ++ [(e1, e2)]))) :: (CH T X.J X.C ++ XH V' X.J)) (b := b)
     · rw [addH, if_neg hm]
       exact TDR.add (fun y hy => List.mem_cons_of_mem _ (k3 y hy)) hTR rfl k1 k2 (k4.mono (fun y hy => List.mem_cons_of_mem _ hy)) hh
 · obtain ⟨rr, hmr⟩ := hmem tb tc rfl
   obtain ⟨V1, hV1⟩ := mem_split hmr
   have hkeep : ∀ y ∈ X.V, NTD y → y ∈ V1 := fun y hy hn => by
     rcases List.mem_cons.1 (hV1.mem_iff.1 hy) with e | e
     · exact absurd (by rw [e]) (hn (tc * 2) (tdC (es ++ rr)))
     · exact e
   have hperm : (PB L T (zc X) :: (CH T X.J X.C ++ XH X.V X.J)).Perm ([PB L T (zc { X with V := V1 })] ++ (tb, Blk.buf 134 (tc * 2) (tdC (es ++ rr))) :: (CH T X.J X.C ++ XH V1 X.J)) :=
     (ct_perm (l := [PB L T (zc X)]) hV1).trans (List.Perm.swap _ _ _)
   have hl := hTR.len
   refine Fn.less (k' := .buf 134 (tc * 2) (tdC es)) hperm (wt (fun j u hj => by rw [tdC_app, List.getElem?_append_left (List.getElem?_eq_some_iff.1 hj).1]; exact hj)) (atd_ok L T { X with V := V1 } (some (tb, tc)) es hs s1 s2 h p al m1 m2 m3 htd (hTR.keep hkeep) (h1.keep hkeep).inS (h2.keep hkeep).inS hh hp hdup omT hhl hpl) ?_
   rintro v H' ⟨rfl, hc⟩
   rcases hc with ⟨hm, rfl⟩ | ⟨hm, b, c, e1, e2, V', rfl, k1, k2, k3, k4, k5⟩
   · refine ⟨PB L T (zc { X with V := V1 }) :: (CH T X.J X.C ++ XH ((tb, .buf 134 (tc * 2) (tdC es)) :: V1) X.J), ?_, rfl, X.tdv, _, rfl, ⟨some (tb, tc), es, htd, fun b' c' e => (by cases e; exact ⟨[], by rw [List.append_nil]; exact List.mem_cons_self⟩), ?_⟩, fun y hy hn => List.mem_cons_of_mem _ (hkeep y hy hn)⟩
     · exact Wk.push (H := PB L T (zc { X with V := V1 }) :: (tb, .buf 134 (tc * 2) (tdC es)) :: (CH T X.J X.C ++ XH V1 X.J)) (b := tb)
     · rw [addH, if_pos hm]
       exact (hTR.keep hkeep).mono (fun y hy => List.mem_cons_of_mem _ hy)
   · refine ⟨PB L T (zc { X with tdv := tdS (some (b, c)) (es.length + 1), V := V' }) :: (CH T X.J X.C ++ XH ((b, .buf 134 (c * 2) (tdC (es ++ [(e1, e2)]))) :: V') X.J), ?_, rfl, _, _, rfl, ⟨some (b, c), es ++ [(e1, e2)], by simp, fun b' c' e => (by cases e; exact ⟨[], by rw [List.append_nil]; exact List.mem_cons_self⟩), ?_⟩, fun y hy hn => List.mem_cons_of_mem _ (k3 y (hkeep y hy hn))⟩
     · exact Wk.push (H := PB L T (zc { X with tdv := tdS (some (b, c)) (es.length + 1), V := V' }) :: (b, .buf 134 (c * 2) (tdC (es ++ [(e1, e2)]))) :: (CH T X.J X.C ++ XH V' X.J)) (b := b)
     · rw [addH, if_neg hm]
       exact TDR.add (fun y hy => List.mem_cons_of_mem _ (k3 y hy)) (hTR.keep hkeep) rfl k1 k2 (k4.mono (fun y hy => List.mem_cons_of_mem _ hy)) hh
end Go.Proofs.YtnfbcfflkphbiaaGreatDoor
