/-
  Texts of the proof, joined: F30. No Go text.
-/
import Derived.Test.YtnfbcfflkphbiaaGreatDoorA01
import Derived.Test.YtnfbcfflkphbiaaGreatDoorA08
import Derived.Test.YtnfbcfflkphbiaaGreatDoorA09
import Derived.Test.YtnfbcfflkphbiaaGreatDoorA17
namespace Go.Proofs.YtnfbcfflkphbiaaGreatDoor
open Go Go.Proofs Tryz
set_option linter.all false
set_option maxRecDepth 100000
set_option maxHeartbeats 8000000
def OX : Option (Nat × Nat × List Nat) → List Nat
 | none => []
 | some (_, _, Y) => Y
def OKO : Option (Nat × Nat × List Nat) → Prop
 | none => True
 | some (_, c, Y) => 0 < Y.length ∧ Y.length ≤ c ∧ c ≤ 9223372036854775807
section
variable {P : Program} {n : Nat} {ds : List Deferred} {pu : Bool} {w0 : World} {D : List Nat} {H : zl} {E : Env}
variable {d : Option Nat} {ty : TypeId} {ps : String} {af : Array Edge} {g : Option (Nat × Bool)} {x y : Operand}
theorem q_append0o {t e sz bs c2 : Nat} {o : Option (Nat × Nat × List Nat)} [hs : Slc P t e sz bs] (hx : opv E x = some (TO o)) (ho : OKO o) (hy : opv E y = some (.slice none 0 c2)) :
   Q1 P n ds pu w0 D H E ⟨d, .call ⟨.builtin .append, #[x, y], #[t, t]⟩, ty, ps, af, g⟩ (TO o) := by
 rcases o with _ | ⟨b, c, Y⟩
 · exact q_append0 hx (Nat.le_refl _) hy
 · exact q_append0 hx ho.2.1 hy
end
theorem DQT.inv {T v : List Nat} {q e : Nat} (h : DQT T q v e) : (v = [] ∧ q = e ∧ at_ T q = 34) ∨ (∃ v', v = at_ T q :: v' ∧ zC (at_ T q) = true ∧ DQT T (q + 1) v' e) ∨
  (∃ n c v', v = c :: v' ∧ at_ T q = 92 ∧ ((at_ T (q + 1) = 120 ∧ n = 2) ∨ (at_ T (q + 1) = 117 ∧ n = 4) ∨ (at_ T (q + 1) = 85 ∧ n = 8)) ∧ (∀ i, i < n → hexB (at_ T (q + 2 + i)) = true) ∧ hexV T (q + 2) n = c ∧ zC c = true ∧ DQT T (q + 2 + n) v' e) ∨
  ∃ q', at_ T q = 92 ∧ at_ T (q + 1) = 10 ∧ q + 2 < q' ∧ (∀ i, q + 2 ≤ i → i < q' → at_ T i = 32) ∧ (at_ T q' ≠ 32 ∧ at_ T q' ≠ 10) ∧ DQT T q' v e := by
 cases h with
 | nil h => exact .inl ⟨rfl, rfl, h⟩
 | raw h k => exact .inr (.inl ⟨_, rfl, h, k⟩)
 | esc h0 hn hx hv hc k => exact .inr (.inr (.inl ⟨_, _, _, rfl, h0, hn, hx, hv, hc, k⟩))
 | brk h0 h1 hq hs hn k => exact .inr (.inr (.inr ⟨_, h0, h1, hq, hs, hn, k⟩))
theorem hexV_le {T : List Nat} {a n : Nat} (h : ∀ i, i < n → hexB (at_ T (a + i)) = true) : ∀ k, k ≤ n → hexV T a k < 16 ^ k
 | 0, _ => by simp [hexV]
 | k + 1, hk => by
  have h1 := hexV_le h k omT
  have h2 := hexD_lt (h k omT)
  rw [hexV, Nat.pow_succ]
  omega
theorem hexV_big {T : List Nat} {a n k : Nat} (h : ∀ i, i < n → hexB (at_ T (a + i)) = true) (hk : k ≤ n) (hn : n ≤ 8) : hexV T a k ≤ 4294967296 := by
 have h1 := hexV_le h k hk
 have h2 : 16 ^ k ≤ 16 ^ 8 := Nat.pow_le_pow_right (by decide) omT
 have h3 : (16 : Nat) ^ 8 = 4294967296 := by decide
 omega
theorem hexB_ne {c : Nat} (h : hexB c = true) : c ≠ 0 ∧ c ≠ 10 := by
 have := hexB_cases h
 omega
theorem dq_col {T : List Nat} {q i : Nat} (h : at_ T q ≠ 10) (hi : i = q + 1) : zH T i ≠ 0 := by
 subst hi
 rw [zH, if_neg h]
 omega
theorem sfs_ok (L : Lay) (T : List Nat) (X : SS) (tkb e k0 : Nat) (v0 : List Nat) (he : Eof L) (hi : SI L T X) (hr0 : Rdy T (zc X) k0) (hk0 : 1 ≤ k0) (h34 : at_ T X.q = 34) (hv0 : v0 ≠ []) (hlen : v0.length ≤ 1000) (hd : DQT T (X.q + 1) v0 e) :
  Fn prog 181 [pV L.p, pV tkb, .bool false] (RH L T (zc X) [(tkb, .cs 163 qx [])])
    (fun v H' => v = .bool true ∧ ∃ r nl b cap, Inv L T { zc X with r := r, nl := nl, q := e + 1 } ∧ v0.length ≤ cap ∧ cap ≤ 9223372036854775807 ∧
      H' = RH L T { zc X with r := r, nl := nl, q := e + 1 } [(tkb, .cs 163 (tokC T 21 X.q (e + 1) 0 (.slice (some ⟨b, 0, none⟩) v0.length cap) (zS) 8 0 0) []), (b, .buf 5 cap (bytes v0))]) := by
 have hsml := hi.sml
 have hl0 : X.q < T.length := kS omT
 refine zo func181 rfl rfl rfl ?_
 intro w
 refine gg 11 ?_
 refine zk rfl rfl clT ?_
 intro b7
 first | refine stw rfl rfl ?_ | refine sts rfl rfl ?_
 refine gg 5 ?_
 refine za rfl rfl rfl (kG L T { zc X with r := X.r, nl := X.nl, q := X.q } k0 hi.inv hr0 omT (hl0) omT) ?_
 rintro _ _ ⟨rfl, r1, nl1, hn1, hb1, rfl⟩
 replace hn1 : Inv L T { zc X with r := r1, nl := nl1, q := (X.q + 1) } := hn1
 replace hb1 : Rdy T { zc X with r := r1, nl := nl1, q := (X.q + 1) } (k0 - 1) := hb1
 refine lS ?_
 have hl1 : r1.pos + (k0 - 1) ≤ r1.blen := hb1.len
 have hpq1 : r1.pos ≤ (X.q + 1) := hn1.pq
 have hbl1 : r1.blen ≤ 1536 := hn1.bl
 refine ze ?_
 refine zf (zD L T { zc X with r := r1, nl := nl1, q := (X.q + 1) } (gg 10 ?_))
 refine zw (σ := RS × Nat × Nat × Option (Nat × Nat × List Nat) × List Nat) (fun x => [(0, pV L.p), (1, pV tkb), (2, .bool false), (7, pV b7), (8, TO x.2.2.2.1), (9, zS), (10, zS), (11, zS)]) (fun x => (RH L T { zc X with r := x.1, nl := x.2.1, q := x.2.2.1 } (TOH x.2.2.2.1 ++ ((b7, .cs 57 [.int .i64 (X.q : Nat), .int .i64 (lnT T X.q : Nat), .int .i64 (zH T X.q : Nat)] []) :: [(tkb, .cs 163 qx [])])))) (fun x => (Inv L T { zc X with r := x.1, nl := x.2.1, q := x.2.2.1 } ∧ Rdy T { zc X with r := x.1, nl := x.2.1, q := x.2.2.1 } 0 ∧ DQT T x.2.2.1 x.2.2.2.2 e ∧ zH T x.2.2.1 ≠ 0 ∧ (X.q < x.2.2.1 ∧ True) ∧ OKO x.2.2.2.1 ∧ OX x.2.2.2.1 ++ x.2.2.2.2 = v0)) (fun x => T.length - x.2.2.1) (r1, nl1, X.q + 1, none, v0) ⟨hn1, hb1.le omT, hd, dq_col (q := X.q) omT rfl, ⟨omT, trivial⟩, trivial, rfl⟩ suT (Wk.to [L.p, L.bb, L.rb, L.ib, 0, b7, tkb] wlT) ?_
 rintro ⟨rA, nlA, qA, oA, vA⟩ ⟨hnA, hbA, hdA, hcA, hgA, hoA, hxA⟩
 dsimp only at hdA hcA hgA hoA hxA
 replace hnA : Inv L T { zc X with r := rA, nl := nlA, q := qA } := hnA
 replace hbA : Rdy T { zc X with r := rA, nl := nlA, q := qA } 0 := hbA
 have hlA := hbA.len
 have hpqA := hnA.pq
 dsimp only at hlA hpqA
 have hfA := hdA.first
 have hzA : at_ T qA ≠ 0 ∧ at_ T qA ≠ 32 ∧ at_ T qA ≠ 9 ∧ at_ T qA ≠ 13 ∧ at_ T qA ≠ 10 := by
  rcases hfA with h | h | h
  · omega
  · omega
  · have := ky h; omega
 have hqAl : qA < T.length := kS hzA.1
 refine zt (RH L T { zc X with r := rA, nl := nlA, q := qA } (TOH oA ++ ((b7, .cs 57 [.int .i64 (X.q : Nat), .int .i64 (lnT T X.q : Nat), .int .i64 (zH T X.q : Nat)] []) :: [(tkb, .cs 163 qx [])]))) [(0, pV L.p), (1, pV tkb), (2, .bool false), (7, pV b7), (8, TO oA), (9, zS), (10, zS), (11, zS)] rfl rfl ?_
 refine kf ?_
 refine zR { zc X with r := rA, nl := nlA, q := qA } 4 hnA (fun hlt => ?_) (fun hlt => ?_) (fun r2 hn2 hb2 => ?_)
 ·
  refine gg 16 ?_
  exact zq hnA hlt exT
 ·
  refine gg 9 ?_
  refine za rfl rfl rfl (kc L T { zc X with r := rA, nl := nlA, q := qA } 4 he (.inl hnA) hlt omT) ?_
  rintro _ _ ⟨rfl, r2, h1, h2, h3, rfl⟩
  refine lS ?_
  refine gg 6 ?_
  exact zr h1 h2 h3 exT
 ·
  replace hn2 : Inv L T { zc X with r := r2, nl := nlA, q := qA } := hn2
  replace hb2 : Rdy T { zc X with r := r2, nl := nlA, q := qA } 4 := hb2
  refine zt (RH L T { zc X with r := r2, nl := nlA, q := qA } _) _ rfl rfl ?_
  have hl2 : r2.pos + 4 ≤ r2.blen := hb2.len
  have hpq2 : r2.pos ≤ qA := hn2.pq
  have hbl2 : r2.blen ≤ 1536 := hn2.bl
  refine zd (zd (kM zF kR ?_))
  dsimp only [List.append]
  refine gg 118 ?_
  refine dca (b_z (b := false) hn2 (hb2.lt omT) (by first | assumption | (unfold zB; first | exact decide_eq_true omT | exact decide_eq_false omT))) ?_
  refine gg 12 ?_
  refine zw (σ := RS × Nat × Nat × Option (Nat × Nat × List Nat) × List Nat) (fun x => [(0, pV L.p), (1, pV tkb), (2, .bool false), (7, pV b7), (8, TO x.2.2.2.1), (9, zS), (10, zS), (11, zS), (12, .bool false)]) (fun x => (RH L T { zc X with r := x.1, nl := x.2.1, q := x.2.2.1 } (TOH x.2.2.2.1 ++ ((b7, .cs 57 [.int .i64 (X.q : Nat), .int .i64 (lnT T X.q : Nat), .int .i64 (zH T X.q : Nat)] []) :: [(tkb, .cs 163 qx [])])))) (fun x => (Inv L T { zc X with r := x.1, nl := x.2.1, q := x.2.2.1 } ∧ Rdy T { zc X with r := x.1, nl := x.2.1, q := x.2.2.1 } 2 ∧ DQT T x.2.2.1 x.2.2.2.2 e ∧ zH T x.2.2.1 ≠ 0 ∧ (X.q < x.2.2.1 ∧ qA ≤ x.2.2.1) ∧ OKO x.2.2.2.1 ∧ OX x.2.2.2.1 ++ x.2.2.2.2 = v0)) (fun x => T.length - x.2.2.1) (r2, nlA, qA, oA, vA) ⟨hn2, hb2.le (by decide), hdA, hcA, ⟨hgA.1, Nat.le_refl _⟩, hoA, hxA⟩ suT (Wk.refl _) ?_
  rintro ⟨rB, nlB, qB, oB, vB⟩ ⟨hnB, hbB, hdB, hcB, hgB, hoB, hxB⟩
  dsimp only at hdB hcB hgB hoB hxB
  replace hnB : Inv L T { zc X with r := rB, nl := nlB, q := qB } := hnB
  replace hbB : Rdy T { zc X with r := rB, nl := nlB, q := qB } 2 := hbB
  have hlB := hbB.len
  have hpqB := hnB.pq
  dsimp only at hlB hpqB
  have hfB := hdB.first
  have hzB : at_ T qB ≠ 0 ∧ at_ T qB ≠ 32 ∧ at_ T qB ≠ 9 ∧ at_ T qB ≠ 13 ∧ at_ T qB ≠ 10 := by
    rcases hfB with h | h | h
    · omega
    · omega
    · have := ky h; omega
  have hqBl : qB < T.length := kS hzB.1
  refine zt (RH L T { zc X with r := rB, nl := nlB, q := qB } (TOH oB ++ ((b7, .cs 57 [.int .i64 (X.q : Nat), .int .i64 (lnT T X.q : Nat), .int .i64 (zH T X.q : Nat)] []) :: [(tkb, .cs 163 qx [])]))) [(0, pV L.p), (1, pV tkb), (2, .bool false), (7, pV b7), (8, TO oB), (9, zS), (10, zS), (11, zS), (12, .bool false)] rfl rfl ?_
  refine gg 11 ?_
  refine dca (qZ (b := false) hnB (hbB.lt omT) (by first | assumption | (unfold zK; first | exact decide_eq_true omT | exact decide_eq_false omT))) ?_
  refine gg 60 ?_
  rcases hdB.inv with ⟨rfl, rfl, e1⟩ | ⟨v7, rfl, e1, e2⟩ | ⟨n, c, v7, rfl, e1, hcn, hx, hv, hcc, e2⟩ | ⟨q', e1, e2, e3, e4, e5, e6⟩
  ·
    refine gg 14 ?_
    refine zn (bp0 omT) rfl ?_
    refine gg 11 ?_
    refine zR { zc X with r := rB, nl := nlB, q := qB } 1 hnB (fun hlt => ?_) (fun hlt => ?_) (fun r3 hn3 hb3 => ?_)
    ·
      refine gg 16 ?_
      exact zq hnB hlt exT
    ·
      refine gg 9 ?_
      refine za rfl rfl rfl (kc L T { zc X with r := rB, nl := nlB, q := qB } 1 he (.inl hnB) hlt omT) ?_
      rintro _ _ ⟨rfl, r3, h1, h2, h3, rfl⟩
      refine lS ?_
      refine gg 6 ?_
      exact zr h1 h2 h3 exT
    ·
      replace hn3 : Inv L T { zc X with r := r3, nl := nlB, q := qB } := hn3
      replace hb3 : Rdy T { zc X with r := r3, nl := nlB, q := qB } 1 := hb3
      refine zt (RH L T { zc X with r := r3, nl := nlB, q := qB } _) _ rfl rfl ?_
      have hl3 : r3.pos + 1 ≤ r3.blen := hb3.len
      have hpq3 : r3.pos ≤ qB := hn3.pq
      have hbl3 : r3.blen ≤ 1536 := hn3.bl
      refine gg 18 ?_
      refine zn (bp0 omT) rfl ?_
      refine gg 3 ?_
      obtain ⟨sb, sc, rfl⟩ : ∃ b c, oB = some (b, c, v0) := by
       rcases oB with _ | ⟨b, c, Y⟩
       · exact absurd (by simpa [OX] using hxB.symm) hv0
       · exact ⟨b, c, by simp only [OX, List.append_nil] at hxB; rw [hxB]⟩
      obtain ⟨g1, g2, g3⟩ := hoB
      refine gg 8 ?_
      refine kq (E' := [(0, pV L.p), (1, pV tkb), (2, .bool false), (7, pV b7), (8, .slice (some ⟨sb, 0, none⟩) v0.length sc), (9, zS), (10, zS), (11, zS)]) (H' := (RH L T { zc X with r := r3, nl := nlB, q := qB } ((sb, .buf 5 sc (bytes (v0))) :: (b7, .cs 57 [.int .i64 (X.q : Nat), .int .i64 (lnT T X.q : Nat), .int .i64 (zH T X.q : Nat)] []) :: [(tkb, .cs 163 qx [])]))) suT (Wk.refl _) ?_
      refine zi (smv ?_)
      refine za rfl rfl rfl (kG L T { zc X with r := r3, nl := nlB, q := qB } 1 hn3 hb3 omT omT omT) ?_
      rintro _ _ ⟨rfl, r4, nl4, hn4, hb4, rfl⟩
      replace hn4 : Inv L T { zc X with r := r4, nl := nl4, q := (qB + 1) } := hn4
      replace hb4 : Rdy T { zc X with r := r4, nl := nl4, q := (qB + 1) } 0 := hb4
      refine lS ?_
      have hl4 : r4.pos + 0 ≤ r4.blen := hb4.len
      have hpq4 : r4.pos ≤ (qB + 1) := hn4.pq
      have hbl4 : r4.blen ≤ 1536 := hn4.bl
      refine ze ?_
      refine zf (zD L T { zc X with r := r4, nl := nl4, q := (qB + 1) } (gg 6 ?_))
      refine zk rfl rfl clT ?_
      intro b17
      first | refine stw rfl rfl ?_ | refine sts rfl rfl ?_
      refine gg 8 ?_
      refine sqz (zu (l := [_, _, _, _, _, _, _, _, _, _, _, _, _, _]) (zs := [zI, zI, zI, zI, zI, zI, zI, zI, zS, zS, zS, .int .i8 0, .int .i8 0, .int .i8 0]) [0, 1, 4, 7, 8, 9, 10, 11, 12, 13] rfl rfl kR) ?_
      refine snc ?_
      first | refine stw rfl rfl ?_ | refine sts rfl rfl ?_
      refine gg 23 ?_
      exact zm rfl rfl (Wk.to [L.p, L.bb, L.rb, L.ib, 0, tkb, sb] wlT) ⟨rfl, r4, nl4, sb, sc, hn4, g2, g3, rfl⟩
  ·
    have ha := ky e1
    refine gg 14 ?_
    refine zn (bp0 omT) rfl ?_
    refine gg 19 ?_
    refine zn (bp0 omT) rfl ?_
    refine gg 31 ?_
    refine zn (bp0 omT) rfl ?_
    refine gg 5 ?_
    rcases oB with _ | ⟨ob, oc, oY⟩
    ·
      refine kq (E' := [(0, pV L.p), (1, pV tkb), (2, .bool false), (7, pV b7), (8, zS), (9, zS), (10, zS), (11, zS), (12, .bool false)]) (H' := (RH L T { zc X with r := rB, nl := nlB, q := qB } (((b7, .cs 57 [.int .i64 (X.q : Nat), .int .i64 (lnT T X.q : Nat), .int .i64 (zH T X.q : Nat)] []) :: [(tkb, .cs 163 qx [])])))) suT (Wk.refl _) ?_
      refine gg 3 ?_
      refine za rfl rfl rfl (read_go0 L T { zc X with r := rB, nl := nlB, q := qB } 2 none 0 hnB hbB omT hqBl omT) ?_
      rintro _ _ ⟨r5, nl5, nb, hn5, hb5, rfl, rfl⟩
      replace hn5 : Inv L T { zc X with r := r5, nl := nl5, q := (qB + 1) } := hn5
      replace hb5 : Rdy T { zc X with r := r5, nl := nl5, q := (qB + 1) } 1 := hb5
      refine lS ?_
      have hl5 : r5.pos + 1 ≤ r5.blen := hb5.len
      have hpq5 : r5.pos ≤ (qB + 1) := hn5.pq
      have hbl5 : r5.blen ≤ 1536 := hn5.bl
      refine gg 3 ?_
      refine zD L T { zc X with r := r5, nl := nl5, q := (qB + 1) } ?_
      refine ki { zc X with r := r5, nl := nl5, q := (qB + 1) } 2 hn5 (fun hlt => ?_) (fun hlt => ?_) (fun r6 hn6 hb6 => ?_)
      ·
       refine gg 16 ?_
       exact zq hn5 hlt exT
      ·
       refine gg 9 ?_
       refine za rfl rfl rfl (kc L T { zc X with r := r5, nl := nl5, q := (qB + 1) } 2 he (.inl hn5) hlt omT) ?_
       rintro _ _ ⟨rfl, r6, h1, h2, h3, rfl⟩
       refine lS ?_
       refine gg 6 ?_
       exact zr h1 h2 h3 exT
      ·
       replace hn6 : Inv L T { zc X with r := r6, nl := nl5, q := (qB + 1) } := hn6
       replace hb6 : Rdy T { zc X with r := r6, nl := nl5, q := (qB + 1) } 2 := hb6
       refine qH (RH L T { zc X with r := r6, nl := nl5, q := (qB + 1) } _) _ rfl rfl ?_
       have hl6 : r6.pos + 2 ≤ r6.blen := hb6.len
       have hpq6 : r6.pos ≤ (qB + 1) := hn6.pq
       have hbl6 : r6.blen ≤ 1536 := hn6.bl
       refine kJ ?_
       exact zh (r6, nl5, qB + 1, some (nb, 32, [at_ T qB]), v7) ⟨hn6, hb6, e2, dq_col (q := qB) omT rfl, ⟨omT, omT⟩, ⟨by simp, by simp, by decide⟩, by simpa [OX] using hxB⟩ omT suT (Wk.to [L.p, L.bb, L.rb, L.ib, 0, nb, b7, tkb] wlT)
    ·
      obtain ⟨g1, g2, g3⟩ := hoB
      have g4 : oY.length ≤ 1000 := by
       have := congrArg List.length hxB
       simp [OX] at this
       omega
      refine kq (E' := [(0, pV L.p), (1, pV tkb), (2, .bool false), (7, pV b7), (8, .slice (some ⟨ob, 0, none⟩) oY.length oc), (9, zS), (10, zS), (11, zS), (12, .bool false)]) (H' := (RH L T { zc X with r := rB, nl := nlB, q := qB } ((ob, .buf 5 oc (bytes (oY))) :: (b7, .cs 57 [.int .i64 (X.q : Nat), .int .i64 (lnT T X.q : Nat), .int .i64 (zH T X.q : Nat)] []) :: [(tkb, .cs 163 qx [])]))) suT (Wk.refl _) ?_
      refine gg 3 ?_
      refine za rfl rfl rfl (read_go L T { zc X with r := rB, nl := nlB, q := qB } 2 oY ob oc g1 g2 g3 omT hnB hbB omT hqBl omT) ?_
      rintro _ _ ⟨r7, nl7, nb, nc, hn7, hb7, hc1, hc2, rfl, rfl⟩
      replace hn7 : Inv L T { zc X with r := r7, nl := nl7, q := (qB + 1) } := hn7
      replace hb7 : Rdy T { zc X with r := r7, nl := nl7, q := (qB + 1) } 1 := hb7
      refine lS ?_
      have hl7 : r7.pos + 1 ≤ r7.blen := hb7.len
      have hpq7 : r7.pos ≤ (qB + 1) := hn7.pq
      have hbl7 : r7.blen ≤ 1536 := hn7.bl
      refine gg 3 ?_
      have hL : oY.length + 1 = (oY ++ [at_ T qB]).length := by simp
      rw [hL] at *
      refine zD L T { zc X with r := r7, nl := nl7, q := (qB + 1) } ?_
      refine ki { zc X with r := r7, nl := nl7, q := (qB + 1) } 2 hn7 (fun hlt => ?_) (fun hlt => ?_) (fun r8 hn8 hb8 => ?_)
      ·
       refine gg 16 ?_
       exact zq hn7 hlt exT
      ·
       refine gg 9 ?_
       refine za rfl rfl rfl (kc L T { zc X with r := r7, nl := nl7, q := (qB + 1) } 2 he (.inl hn7) hlt omT) ?_
       rintro _ _ ⟨rfl, r8, h1, h2, h3, rfl⟩
       refine lS ?_
       refine gg 6 ?_
       exact zr h1 h2 h3 exT
      ·
       replace hn8 : Inv L T { zc X with r := r8, nl := nl7, q := (qB + 1) } := hn8
       replace hb8 : Rdy T { zc X with r := r8, nl := nl7, q := (qB + 1) } 2 := hb8
       refine qH (RH L T { zc X with r := r8, nl := nl7, q := (qB + 1) } _) _ rfl rfl ?_
       have hl8 : r8.pos + 2 ≤ r8.blen := hb8.len
       have hpq8 : r8.pos ≤ (qB + 1) := hn8.pq
       have hbl8 : r8.blen ≤ 1536 := hn8.bl
       refine kJ ?_
       exact zh (r8, nl7, qB + 1, some (nb, nc, oY ++ [at_ T qB]), v7) ⟨hn8, hb8, e2, dq_col (q := qB) omT rfl, ⟨omT, omT⟩, ⟨by simp, by simpa using hc1, hc2⟩, by simpa [OX] using hxB⟩ omT suT (Wk.to [L.p, L.bb, L.rb, L.ib, 0, nb, b7, tkb] wlT)
  ·
    have hl1 : qB + 1 < T.length := kS (by rcases hcn with h | h | h <;> omega)
    have hnn : 2 ≤ n ∧ n ≤ 8 := by rcases hcn with h | h | h <;> omega
    have hbr : qo (at_ T (qB + 1)) = false := by rcases hcn with h | h | h <;> rw [h.1] <;> rfl
    have hca := ky hcc
    refine gg 14 ?_
    refine zn (bp0 omT) rfl ?_
    refine gg 19 ?_
    refine zn (bp0 omT) rfl ?_
    refine gg 12 ?_
    refine dca (k_break (j := 1) (b := false) hnB (by have := hbB.len; exact omT) (hbr)) ?_
    refine gg 18 ?_
    refine zn (bp0 omT) rfl ?_
    refine gg 10 ?_
    refine zL (σ := Unit) (fun _ => [(0, pV L.p), (1, pV tkb), (2, .bool false), (7, pV b7), (8, TO oB), (9, zS), (10, zS), (11, zS), (12, .bool false), (13, .int .i64 ((n : Nat) : Int))]) (fun _ => (RH L T { zc X with r := rB, nl := nlB, q := qB } (TOH oB ++ ((b7, .cs 57 [.int .i64 (X.q : Nat), .int .i64 (lnT T X.q : Nat), .int .i64 (zH T X.q : Nat)] []) :: [(tkb, .cs 163 qx [])])))) (fun _ => True) ?_ ?_
    ·
      rcases hcn with ⟨hh, rfl⟩ | ⟨hh, rfl⟩ | ⟨hh, rfl⟩
      ·
       refine gg 12 ?_
       refine zn (bpk omT) rfl ?_
       refine gg 140 ?_
       exact zg () trivial suT (Wk.refl _)
      ·
       refine gg 12 ?_
       refine zn (bpk omT) rfl ?_
       refine gg 147 ?_
       exact zg () trivial suT (Wk.refl _)
      ·
       refine gg 12 ?_
       refine zn (bpk omT) rfl ?_
       refine gg 154 ?_
       exact zg () trivial suT (Wk.refl _)
    ·
      rintro _ _
      refine zt (RH L T { zc X with r := rB, nl := nlB, q := qB } (TOH oB ++ ((b7, .cs 57 [.int .i64 (X.q : Nat), .int .i64 (lnT T X.q : Nat), .int .i64 (zH T X.q : Nat)] []) :: [(tkb, .cs 163 qx [])]))) [(0, pV L.p), (1, pV tkb), (2, .bool false), (7, pV b7), (8, TO oB), (9, zS), (10, zS), (11, zS), (12, .bool false), (13, .int .i64 ((n : Nat) : Int))] rfl rfl ?_
      refine gg 3 ?_
      refine za rfl rfl rfl (kG L T { zc X with r := rB, nl := nlB, q := qB } 2 hnB hbB omT omT omT) ?_
      rintro _ _ ⟨rfl, r9, nl9, hn9, hb9, rfl⟩
      replace hn9 : Inv L T { zc X with r := r9, nl := nl9, q := (qB + 1) } := hn9
      replace hb9 : Rdy T { zc X with r := r9, nl := nl9, q := (qB + 1) } 1 := hb9
      refine lS ?_
      have hl9 : r9.pos + 1 ≤ r9.blen := hb9.len
      have hpq9 : r9.pos ≤ (qB + 1) := hn9.pq
      have hbl9 : r9.blen ≤ 1536 := hn9.bl
      refine ze ?_
      refine zf (zD L T { zc X with r := r9, nl := nl9, q := (qB + 1) } (gg 3 ?_))
      refine za rfl rfl rfl (kG L T { zc X with r := r9, nl := nl9, q := (qB + 1) } 1 hn9 hb9 omT omT (by rcases hcn with h | h | h <;> exact omT)) ?_
      rintro _ _ ⟨rfl, r10, nl10, hn10, hb10, rfl⟩
      replace hn10 : Inv L T { zc X with r := r10, nl := nl10, q := ((qB + 1) + 1) } := hn10
      replace hb10 : Rdy T { zc X with r := r10, nl := nl10, q := ((qB + 1) + 1) } 0 := hb10
      refine lS ?_
      have hl10 : r10.pos + 0 ≤ r10.blen := hb10.len
      have hpq10 : r10.pos ≤ ((qB + 1) + 1) := hn10.pq
      have hbl10 : r10.blen ≤ 1536 := hn10.bl
      refine ze ?_
      refine zf (zD L T { zc X with r := r10, nl := nl10, q := ((qB + 1) + 1) } (gg 12 ?_))
      refine zR { zc X with r := r10, nl := nl10, q := ((qB + 1) + 1) } (n) hn10 (fun hlt => ?_) (fun hlt => ?_) (fun r11 hn11 hb11 => ?_)
      ·
       refine gg 18 ?_
       exact zq hn10 hlt exT
      ·
       refine gg 11 ?_
       refine za rfl rfl rfl (kc L T { zc X with r := r10, nl := nl10, q := ((qB + 1) + 1) } (n) he (.inl hn10) hlt omT) ?_
       rintro _ _ ⟨rfl, r11, h1, h2, h3, rfl⟩
       refine lS ?_
       refine gg 6 ?_
       exact zr h1 h2 h3 exT
      ·
       replace hn11 : Inv L T { zc X with r := r11, nl := nl10, q := ((qB + 1) + 1) } := hn11
       replace hb11 : Rdy T { zc X with r := r11, nl := nl10, q := ((qB + 1) + 1) } (n) := hb11
       refine zt (RH L T { zc X with r := r11, nl := nl10, q := ((qB + 1) + 1) } _) _ rfl rfl ?_
       have hl11 : r11.pos + (n) ≤ r11.blen := hb11.len
       have hpq11 : r11.pos ≤ ((qB + 1) + 1) := hn11.pq
       have hbl11 : r11.blen ≤ 1536 := hn11.bl
       skip
       refine gg 7 ?_
       refine zw (σ := Nat) (fun k => [(0, pV L.p), (1, pV tkb), (2, .bool false), (7, pV b7), (8, TO oB), (9, zS), (10, zS), (11, zS), (12, .bool false), (13, .int .i64 ((n : Nat) : Int)), (14, .int .i64 ((hexV T (qB + 2) k : Nat) : Int)), (15, .int .i64 ((k : Nat) : Int))]) (fun _ => (RH L T { zc X with r := r11, nl := nl10, q := (qB + 2) } (TOH oB ++ ((b7, .cs 57 [.int .i64 (X.q : Nat), .int .i64 (lnT T X.q : Nat), .int .i64 (zH T X.q : Nat)] []) :: [(tkb, .cs 163 qx [])])))) (fun k => k ≤ n) (fun k => n - k) 0 (Nat.zero_le _) suT (Wk.refl _) ?_
       rintro kD hkD
       change kD ≤ n at hkD
       have hvD := hexV_big hx hkD hnn.2
       refine zt (RH L T { zc X with r := r11, nl := nl10, q := (qB + 2) } (TOH oB ++ ((b7, .cs 57 [.int .i64 (X.q : Nat), .int .i64 (lnT T X.q : Nat), .int .i64 (zH T X.q : Nat)] []) :: [(tkb, .cs 163 qx [])]))) [(0, pV L.p), (1, pV tkb), (2, .bool false), (7, pV b7), (8, TO oB), (9, zS), (10, zS), (11, zS), (12, .bool false), (13, .int .i64 ((n : Nat) : Int)), (14, .int .i64 ((hexV T (qB + 2) kD : Nat) : Int)), (15, .int .i64 ((kD : Nat) : Int))] rfl rfl ?_
       refine zd ?_
       by_cases hk : kD < n
       ·
         have hdD := hexD_lt (hx kD hk)
         refine gg 24 ?_
         refine dad ?_
         refine dca (k_hex (j := kD) (b := true) hn11 (by have := hb11.len; exact omT) (hx kD hk)) ?_
         refine gg 8 ?_
         refine dqz (q_shl4 rfl rfl omT) (gg 9 ?_)
         refine dad ?_
         refine dca (k_as_hex (j := kD) (c := hexD (at_ T (qB + 2 + kD))) hn11 (by have := hb11.len; exact omT) (hx kD hk) rfl) ?_
         refine dad ?_
         refine gg 9 ?_
         exact zh (kD + 1) omT omT suT (Wk.refl _)
       ·
         obtain rfl : kD = n := by omega
         rw [hv]
         refine gg 31 ?_
         refine zL (σ := Nat × Nat × List Nat) (fun x => [(0, pV L.p), (1, pV tkb), (2, .bool false), (7, pV b7), (8, .slice (some ⟨x.1, 0, none⟩) x.2.2.length x.2.1), (9, zS), (10, zS), (11, zS), (12, .bool false), (13, .int .i64 ((kD : Nat) : Int))]) (fun x => (RH L T { zc X with r := r11, nl := nl10, q := (qB + 2) } ((x.1, .buf 5 x.2.1 (bytes (x.2.2))) :: (b7, .cs 57 [.int .i64 (X.q : Nat), .int .i64 (lnT T X.q : Nat), .int .i64 (zH T X.q : Nat)] []) :: [(tkb, .cs 163 qx [])]))) (fun x => OKO (some (x.1, x.2.1, x.2.2)) ∧ x.2.2 ++ v7 = v0) ?_ ?_
         ·
          refine gg 7 ?_
          rcases oB with _ | ⟨ob, oc, oY⟩
          ·
            refine kq (E' := [(0, pV L.p), (1, pV tkb), (2, .bool false), (7, pV b7), (8, zS), (9, zS), (10, zS), (11, zS), (12, .bool false), (13, .int .i64 ((kD : Nat) : Int)), (14, .int .i64 ((c : Nat) : Int))]) (H' := (RH L T { zc X with r := r11, nl := nl10, q := (qB + 2) } (((b7, .cs 57 [.int .i64 (X.q : Nat), .int .i64 (lnT T X.q : Nat), .int .i64 (zH T X.q : Nat)] []) :: [(tkb, .cs 163 qx [])])))) suT (Wk.refl _) ?_
            refine gg 3 ?_
            refine sqz (q_convu8 ⟨_, underlying3⟩ underlying5 rfl omT omT) (kV (l := [_]) (zs := [.int .u8 0]) [0] rfl rfl rfl rfl kR rfl rfl ?_)
            intro sb1
            refine kr (sz := 1) (news := bytes [c]) rfl rfl rfl rfl rfl (zN (k := .cs 5 [.int .u8 ((c : Nat) : Int)] []) (Nat.le_refl _) (Nat.le_refl _) (fun j u hj => by simp only [Blk.cell, look, nth, Nat.zero_add]; exact hj)) rfl (by decide) (by decide) (by decide) ?_
            intro nb nc g1 g2
            rw [Nat.mul_one]
            refine sas ?_
            refine ze ?_
            exact zg (nb, nc, [c]) ⟨⟨by simp, by simpa using g1, g2⟩, by simpa [OX] using hxB⟩ suT (Wk.to [L.p, L.bb, L.rb, L.ib, 0, nb, b7, tkb] wlT)
          ·
            obtain ⟨g1, g2, g3⟩ := hoB
            have g4 : oY.length ≤ 1000 := by
             have := congrArg List.length hxB
             simp [OX] at this
             omega
            refine kq (E' := [(0, pV L.p), (1, pV tkb), (2, .bool false), (7, pV b7), (8, .slice (some ⟨ob, 0, none⟩) oY.length oc), (9, zS), (10, zS), (11, zS), (12, .bool false), (13, .int .i64 ((kD : Nat) : Int)), (14, .int .i64 ((c : Nat) : Int))]) (H' := (RH L T { zc X with r := r11, nl := nl10, q := (qB + 2) } ((ob, .buf 5 oc (bytes (oY))) :: (b7, .cs 57 [.int .i64 (X.q : Nat), .int .i64 (lnT T X.q : Nat), .int .i64 (zH T X.q : Nat)] []) :: [(tkb, .cs 163 qx [])]))) suT (Wk.refl _) ?_
            refine gg 3 ?_
            refine sqz (q_convu8 ⟨_, underlying3⟩ underlying5 rfl omT omT) (kV (l := [_]) (zs := [.int .u8 0]) [0] rfl rfl rfl rfl kR rfl rfl ?_)
            intro sb1
            refine zY (z := .int .u8 0) (sz := 1) (bs := 1) rfl rfl rfl rfl omT (by rw [kx]; exact omT) g2 g3 rfl (news := bytes [c]) (zN (k := .cs 5 [.int .u8 ((c : Nat) : Int)] []) (Nat.le_refl _) (Nat.le_refl _) (fun j u hj => by simp only [Blk.cell, look, nth, Nat.zero_add]; exact hj)) rfl (ww _) omT omT ?_
            intro nb nc h1 h2
            rw [Nat.mul_one]
            refine sas ?_
            refine ze ?_
            have hL : oY.length + 1 = (oY ++ [c]).length := by simp
            rw [← qI, hL]
            exact zg (nb, nc, oY ++ [c]) ⟨⟨by simp, by simpa using h1, h2⟩, by simpa [OX] using hxB⟩ suT (Wk.to [L.p, L.bb, L.rb, L.ib, 0, nb, b7, tkb] wlT)
         ·
          rintro ⟨nb, nc, nY⟩ ⟨g1, g2⟩
          dsimp only at g1 g2
          refine zt (RH L T { zc X with r := r11, nl := nl10, q := (qB + 2) } ((nb, .buf 5 nc (bytes (nY))) :: (b7, .cs 57 [.int .i64 (X.q : Nat), .int .i64 (lnT T X.q : Nat), .int .i64 (zH T X.q : Nat)] []) :: [(tkb, .cs 163 qx [])])) [(0, pV L.p), (1, pV tkb), (2, .bool false), (7, pV b7), (8, .slice (some ⟨nb, 0, none⟩) nY.length nc), (9, zS), (10, zS), (11, zS), (12, .bool false), (13, .int .i64 ((kD : Nat) : Int))] rfl rfl ?_
          refine gg 6 ?_
          refine zw (σ := RS × Nat × Nat) (fun x => [(0, pV L.p), (1, pV tkb), (2, .bool false), (7, pV b7), (8, .slice (some ⟨nb, 0, none⟩) nY.length nc), (9, zS), (10, zS), (11, zS), (12, .bool false), (13, .int .i64 ((kD : Nat) : Int)), (16, .int .i64 ((x.2.2 : Nat) : Int))]) (fun x => (RH L T { zc X with r := x.1, nl := x.2.1, q := qB + 2 + x.2.2 } ((nb, .buf 5 nc (bytes (nY))) :: (b7, .cs 57 [.int .i64 (X.q : Nat), .int .i64 (lnT T X.q : Nat), .int .i64 (zH T X.q : Nat)] []) :: [(tkb, .cs 163 qx [])]))) (fun x => Inv L T { zc X with r := x.1, nl := x.2.1, q := qB + 2 + x.2.2 } ∧ Rdy T { zc X with r := x.1, nl := x.2.1, q := qB + 2 + x.2.2 } (kD - x.2.2) ∧ x.2.2 ≤ kD) (fun x => kD - x.2.2) (r11, nl10, 0) ⟨hn11, hb11, Nat.zero_le _⟩ suT (Wk.refl _) ?_
          rintro ⟨rC, nlC, kC⟩ ⟨hnC, hbC, hkC⟩
          dsimp only at hkC
          replace hnC : Inv L T { zc X with r := rC, nl := nlC, q := qB + 2 + kC } := hnC
          replace hbC : Rdy T { zc X with r := rC, nl := nlC, q := qB + 2 + kC } (kD - kC) := hbC
          refine zt (RH L T { zc X with r := rC, nl := nlC, q := qB + 2 + kC } ((nb, .buf 5 nc (bytes (nY))) :: (b7, .cs 57 [.int .i64 (X.q : Nat), .int .i64 (lnT T X.q : Nat), .int .i64 (zH T X.q : Nat)] []) :: [(tkb, .cs 163 qx [])])) [(0, pV L.p), (1, pV tkb), (2, .bool false), (7, pV b7), (8, .slice (some ⟨nb, 0, none⟩) nY.length nc), (9, zS), (10, zS), (11, zS), (12, .bool false), (13, .int .i64 ((kD : Nat) : Int)), (16, .int .i64 ((kC : Nat) : Int))] rfl rfl ?_
          refine zd ?_
          by_cases hk : kC < kD
          ·
            refine gg 14 ?_
            refine za rfl rfl rfl (kG L T { zc X with r := rC, nl := nlC, q := (qB + 2 + kC) } (kD - kC) hnC hbC omT (kS (hexB_ne (hx kC hk)).1) ((hexB_ne (hx kC hk)).2)) ?_
            rintro _ _ ⟨rfl, r12, nl12, hn12, hb12, rfl⟩
            replace hn12 : Inv L T { zc X with r := r12, nl := nl12, q := ((qB + 2 + kC) + 1) } := hn12
            replace hb12 : Rdy T { zc X with r := r12, nl := nl12, q := ((qB + 2 + kC) + 1) } ((kD - kC) - 1) := hb12
            refine lS ?_
            have hl12 : r12.pos + ((kD - kC) - 1) ≤ r12.blen := hb12.len
            have hpq12 : r12.pos ≤ ((qB + 2 + kC) + 1) := hn12.pq
            have hbl12 : r12.blen ≤ 1536 := hn12.bl
            refine gg 3 ?_
            refine zD L T { zc X with r := r12, nl := nl12, q := ((qB + 2 + kC) + 1) } (gg 5 ?_)
            exact zh (r12, nl12, kC + 1) ⟨hn12, by rw [show kD - (kC + 1) = kD - kC - 1 by omega]; exact hb12, omT⟩ omT suT (Wk.to [L.p, L.bb, L.rb, L.ib, 0, nb, b7, tkb] wlT)
          ·
            obtain rfl : kC = kD := by omega
            refine gg 13 ?_
            refine ki { zc X with r := rC, nl := nlC, q := (qB + 2 + kC) } 2 hnC (fun hlt => ?_) (fun hlt => ?_) (fun r13 hn13 hb13 => ?_)
            ·
             refine gg 16 ?_
             exact zq hnC hlt exT
            ·
             refine gg 9 ?_
             refine za rfl rfl rfl (kc L T { zc X with r := rC, nl := nlC, q := (qB + 2 + kC) } 2 he (.inl hnC) hlt omT) ?_
             rintro _ _ ⟨rfl, r13, h1, h2, h3, rfl⟩
             refine lS ?_
             refine gg 6 ?_
             exact zr h1 h2 h3 exT
            ·
             replace hn13 : Inv L T { zc X with r := r13, nl := nlC, q := (qB + 2 + kC) } := hn13
             replace hb13 : Rdy T { zc X with r := r13, nl := nlC, q := (qB + 2 + kC) } 2 := hb13
             refine qH (RH L T { zc X with r := r13, nl := nlC, q := (qB + 2 + kC) } _) _ rfl rfl ?_
             have hl13 : r13.pos + 2 ≤ r13.blen := hb13.len
             have hpq13 : r13.pos ≤ (qB + 2 + kC) := hn13.pq
             have hbl13 : r13.blen ≤ 1536 := hn13.bl
             refine kJ ?_
             exact zh (r13, nlC, qB + 2 + kC, some (nb, nc, nY), v7) ⟨hn13, hb13, e2, dq_col (q := qB + 2 + kC - 1) (by have := hexB_ne (hx (kC - 1) omT); rw [show qB + 2 + kC - 1 = qB + 2 + (kC - 1) by omega]; exact this.2) omT, ⟨omT, omT⟩, g1, by simpa [OX] using g2⟩ omT suT (Wk.to [L.p, L.bb, L.rb, L.ib, 0, nb, b7, tkb] wlT)
  ·
    have hbr : qo (at_ T (qB + 1)) = true := by rw [e2]; rfl
    have hl1 : qB + 1 < T.length := kS omT
    have h32 := e4 (qB + 2) (Nat.le_refl _) e3
    have h32' : at_ T (qB + 1 + 1) = 32 := h32
    refine gg 14 ?_
    refine zn (bp0 omT) rfl ?_
    refine gg 19 ?_
    refine zn (bp0 omT) rfl ?_
    refine gg 12 ?_
    refine dca (k_break (j := 1) (b := true) hnB (by have := hbB.len; exact omT) (hbr)) ?_
    refine gg 4 ?_
    refine zR { zc X with r := rB, nl := nlB, q := qB } 3 hnB (fun hlt => ?_) (fun hlt => ?_) (fun r14 hn14 hb14 => ?_)
    ·
      refine gg 16 ?_
      exact zq hnB hlt exT
    ·
      refine gg 9 ?_
      refine za rfl rfl rfl (kc L T { zc X with r := rB, nl := nlB, q := qB } 3 he (.inl hnB) hlt omT) ?_
      rintro _ _ ⟨rfl, r14, h1, h2, h3, rfl⟩
      refine lS ?_
      refine gg 6 ?_
      exact zr h1 h2 h3 exT
    ·
      replace hn14 : Inv L T { zc X with r := r14, nl := nlB, q := qB } := hn14
      replace hb14 : Rdy T { zc X with r := r14, nl := nlB, q := qB } 3 := hb14
      refine zt (RH L T { zc X with r := r14, nl := nlB, q := qB } _) _ rfl rfl ?_
      have hl14 : r14.pos + 3 ≤ r14.blen := hb14.len
      have hpq14 : r14.pos ≤ qB := hn14.pq
      have hbl14 : r14.blen ≤ 1536 := hn14.bl
      refine gg 3 ?_
      refine za rfl rfl rfl (kG L T { zc X with r := r14, nl := nlB, q := qB } 3 hn14 hb14 omT omT omT) ?_
      rintro _ _ ⟨rfl, r15, nl15, hn15, hb15, rfl⟩
      replace hn15 : Inv L T { zc X with r := r15, nl := nl15, q := (qB + 1) } := hn15
      replace hb15 : Rdy T { zc X with r := r15, nl := nl15, q := (qB + 1) } 2 := hb15
      refine lS ?_
      have hl15 : r15.pos + 2 ≤ r15.blen := hb15.len
      have hpq15 : r15.pos ≤ (qB + 1) := hn15.pq
      have hbl15 : r15.blen ≤ 1536 := hn15.bl
      refine ze ?_
      refine zf (zD L T { zc X with r := r15, nl := nl15, q := (qB + 1) } (gg 3 ?_))
      refine za rfl rfl rfl (qG L T { zc X with r := r15, nl := nl15, q := (qB + 1) } 2 hn15 hb15 omT omT omT) ?_
      rintro _ _ ⟨rfl, r16, nl16, hn16, hb16, rfl⟩
      replace hn16 : Inv L T { zc X with r := r16, nl := nl16, q := ((qB + 1) + 1) } := hn16
      replace hb16 : Rdy T { zc X with r := r16, nl := nl16, q := ((qB + 1) + 1) } 1 := hb16
      refine lS ?_
      have hl16 : r16.pos + 1 ≤ r16.blen := hb16.len
      have hpq16 : r16.pos ≤ ((qB + 1) + 1) := hn16.pq
      have hbl16 : r16.blen ≤ 1536 := hn16.bl
      refine ze ?_
      refine zf (zD L T { zc X with r := r16, nl := nl16, q := ((qB + 1) + 1) } (gg 11 ?_))
      refine zR { zc X with r := r16, nl := nl16, q := ((qB + 1) + 1) } 1 hn16 (fun hlt => ?_) (fun hlt => ?_) (fun r17 hn17 hb17 => ?_)
      ·
       refine gg 16 ?_
       exact zq hn16 hlt exT
      ·
       refine gg 9 ?_
       refine za rfl rfl rfl (kc L T { zc X with r := r16, nl := nl16, q := ((qB + 1) + 1) } 1 he (.inl hn16) hlt omT) ?_
       rintro _ _ ⟨rfl, r17, h1, h2, h3, rfl⟩
       refine lS ?_
       refine gg 6 ?_
       exact zr h1 h2 h3 exT
      ·
       replace hn17 : Inv L T { zc X with r := r17, nl := nl16, q := ((qB + 1) + 1) } := hn17
       replace hb17 : Rdy T { zc X with r := r17, nl := nl16, q := ((qB + 1) + 1) } 1 := hb17
       refine zt (RH L T { zc X with r := r17, nl := nl16, q := ((qB + 1) + 1) } _) _ rfl rfl ?_
       have hl17 : r17.pos + 1 ≤ r17.blen := hb17.len
       have hpq17 : r17.pos ≤ ((qB + 1) + 1) := hn17.pq
       have hbl17 : r17.blen ≤ 1536 := hn17.bl
       refine gg 18 ?_
       refine zn (bp0 omT) rfl ?_
       refine gg 8 ?_
       refine zw (σ := RS × Nat × Nat) (fun x => [(0, pV L.p), (1, pV tkb), (2, .bool false), (7, pV b7), (8, TO oB), (9, zS), (10, zS), (11, zS), (12, .bool true)]) (fun x => (RH L T { zc X with r := x.1, nl := x.2.1, q := x.2.2 } (TOH oB ++ ((b7, .cs 57 [.int .i64 (X.q : Nat), .int .i64 (lnT T X.q : Nat), .int .i64 (zH T X.q : Nat)] []) :: [(tkb, .cs 163 qx [])])))) (fun x => Inv L T { zc X with r := x.1, nl := x.2.1, q := x.2.2 } ∧ Rdy T { zc X with r := x.1, nl := x.2.1, q := x.2.2 } 1 ∧ qB + 2 ≤ x.2.2 ∧ x.2.2 ≤ q') (fun x => T.length - x.2.2) (r17, nl16, qB + 2) ⟨hn17, hb17, Nat.le_refl _, omT⟩ suT (Wk.refl _) ?_
       rintro ⟨rC, nlC, qC⟩ ⟨hnC, hbC, hqC, hqCC⟩
       dsimp only at hqC hqCC
       replace hnC : Inv L T { zc X with r := rC, nl := nlC, q := qC } := hnC
       replace hbC : Rdy T { zc X with r := rC, nl := nlC, q := qC } 1 := hbC
       refine zt (RH L T { zc X with r := rC, nl := nlC, q := qC } (TOH oB ++ ((b7, .cs 57 [.int .i64 (X.q : Nat), .int .i64 (lnT T X.q : Nat), .int .i64 (zH T X.q : Nat)] []) :: [(tkb, .cs 163 qx [])]))) [(0, pV L.p), (1, pV tkb), (2, .bool false), (7, pV b7), (8, TO oB), (9, zS), (10, zS), (11, zS), (12, .bool true)] rfl rfl ?_
       refine zd ?_
       by_cases hk : qC < q'
       ·
         have hC := e4 qC hqC hk
         have hlC := kS (T := T) (i := qC) omT
         refine gg 10 ?_
         refine dca (ks (b := true) hnC (hbC.lt omT) (by first | assumption | (unfold kj; first | exact decide_eq_true omT | exact decide_eq_false omT))) ?_
         refine gg 28 ?_
         refine dca (ks (b := true) hnC (hbC.lt omT) (by first | assumption | (unfold kj; first | exact decide_eq_true omT | exact decide_eq_false omT))) ?_
         refine gg 12 ?_
         refine za rfl rfl rfl (kG L T { zc X with r := rC, nl := nlC, q := qC } 1 hnC hbC omT (kS omT) omT) ?_
         rintro _ _ ⟨rfl, r18, nl18, hn18, hb18, rfl⟩
         replace hn18 : Inv L T { zc X with r := r18, nl := nl18, q := (qC + 1) } := hn18
         replace hb18 : Rdy T { zc X with r := r18, nl := nl18, q := (qC + 1) } 0 := hb18
         refine lS ?_
         have hl18 : r18.pos + 0 ≤ r18.blen := hb18.len
         have hpq18 : r18.pos ≤ (qC + 1) := hn18.pq
         have hbl18 : r18.blen ≤ 1536 := hn18.bl
         refine ze ?_
         refine zf (zD L T { zc X with r := r18, nl := nl18, q := (qC + 1) } ?_)
         refine ki { zc X with r := r18, nl := nl18, q := (qC + 1) } 1 hn18 (fun hlt => ?_) (fun hlt => ?_) (fun r19 hn19 hb19 => ?_)
         ·
          refine gg 16 ?_
          exact zq hn18 hlt exT
         ·
          refine gg 9 ?_
          refine za rfl rfl rfl (kc L T { zc X with r := r18, nl := nl18, q := (qC + 1) } 1 he (.inl hn18) hlt omT) ?_
          rintro _ _ ⟨rfl, r19, h1, h2, h3, rfl⟩
          refine lS ?_
          refine gg 6 ?_
          exact zr h1 h2 h3 exT
         ·
          replace hn19 : Inv L T { zc X with r := r19, nl := nl18, q := (qC + 1) } := hn19
          replace hb19 : Rdy T { zc X with r := r19, nl := nl18, q := (qC + 1) } 1 := hb19
          refine qH (RH L T { zc X with r := r19, nl := nl18, q := (qC + 1) } _) _ rfl rfl ?_
          have hl19 : r19.pos + 1 ≤ r19.blen := hb19.len
          have hpq19 : r19.pos ≤ (qC + 1) := hn19.pq
          have hbl19 : r19.blen ≤ 1536 := hn19.bl
          refine kJ ?_
          exact zh (r19, nl18, (qC + 1)) ⟨hn19, hb19, omT, omT⟩ omT suT (Wk.refl _)
       ·
         obtain rfl : qC = q' := by omega
         have hfC := e6.first
         have hzC : at_ T qC ≠ 9 ∧ at_ T qC ≠ 13 ∧ at_ T qC ≠ 32 ∧ at_ T qC ≠ 10 := by
          rcases hfC with h | h | h
          · omega
          · omega
          · have := ky h; omega
         have hCC := e4 (qC - 1) omT omT
         refine gg 10 ?_
         refine dca (ks (b := false) hnC (hbC.lt omT) (by first | assumption | (unfold kj; first | exact decide_eq_true omT | exact decide_eq_false omT))) ?_
         refine gg 9 ?_
         refine dca (qN (b := false) hnC (hbC.lt omT) (by first | assumption | (unfold qo; first | exact decide_eq_true omT | exact decide_eq_false omT))) ?_
         refine gg 34 ?_
         refine sqz (q_append0o rfl hoB rfl) (gg 6 ?_)
         refine sqz (q_append0o rfl hoB rfl) (gg 6 ?_)
         refine sqz (qc (c0 := 0) rfl rfl (by decide)) ?_
         refine gg 5 ?_
         refine sqz (qc (c0 := 0) rfl rfl (by decide)) ?_
         refine gg 3 ?_
         exact zh (rC, nlC, qC, oB, vB) ⟨hnC, hbC.le (by decide), e6, dq_col (q := qC - 1) omT omT, ⟨omT, trivial⟩, hoB, hxB⟩ omT suT (Wk.refl _)
end Go.Proofs.YtnfbcfflkphbiaaGreatDoor
