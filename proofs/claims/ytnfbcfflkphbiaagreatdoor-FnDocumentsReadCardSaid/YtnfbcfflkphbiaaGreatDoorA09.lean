/-
  Texts of the proof, joined: R4 B2 B3 ZX B4 E17. No Go text.
-/
import Derived.Test.YtnfbcfflkphbiaaGreatDoorA01
import Derived.Test.YtnfbcfflkphbiaaGreatDoorA08
import Derived.Test.YtnfbcfflkphbiaaGreatDoorA06
namespace Go.Proofs.YtnfbcfflkphbiaaGreatDoor
open Go Go.Proofs Tryz
set_option linter.all false
set_option maxRecDepth 100000
set_option maxHeartbeats 8000000
abbrev RS.got (n : Nat) (e : Bool) : RS := ⟨n, e, 0, 0, 0, n, 0, 1, 0⟩
structure UX where
 fst : Bool
 ip : Nat
 eof : Bool
 un : Nat
 rlen : Nat
 rpos : Nat
 off : Nat
 t5 : Nat
abbrev UX.r (X : UX) : RS := ⟨X.ip, X.eof, 1536, 0, X.un, X.rlen, X.rpos, 1, X.off⟩
abbrev UH (L : Lay) (T : List Nat) (s : PS) (X : UX) : zl := [PB L T { s with r := X.r }, (L.bb, .win 5 1536 0 X.t5 (bf T s.q 0)), RB L T { s with r := X.r }, IB L T, GE L]
structure UP (T : List Nat) (q m : Nat) (X : UX) : Prop where
 rp : X.rpos ≤ X.rlen
 rl : X.rlen ≤ 512
 offl : X.off ≤ T.length
 ip : X.ip = X.off + (X.rlen - X.rpos)
 ipl : X.ip ≤ T.length
 eofi : X.eof = true → X.ip = T.length
 un : X.un + (X.rlen - X.rpos) ≤ m
 fst : X.fst = false → X.rpos = X.rlen
 st : (q + X.un = X.off ∧ X.t5 = X.un) ∨ (X.off = T.length ∧ X.eof = true ∧ X.rpos = X.rlen ∧ T.length < q + X.un ∧ X.un ≤ X.t5 ∧ X.t5 ≤ X.un + 511)
theorem Inv.got {L : Lay} {T : List Nat} {s : PS} {n : Nat} {e : Bool} (h : Inv L T { s with r := .got 0 false }) (h1 : n ≤ T.length) (h2 : n ≤ 512) (h3 : e = true → n = T.length) : Inv L T { s with r := .got n e } := by
 obtain ⟨small, asc, icap, qlen, nlq, pq, pbl, slack, bl, unl, rp, rl, offl, ip, ipl, eofi, enc, e_⟩ := h
 dsimp only at *
 refine ⟨small, asc, icap, qlen, nlq, pq, pbl, slack, bl, unl, ?_, ?_, offl, ?_, h1, h3, rfl, .inl ?_⟩ <;> dsimp only <;> omega
theorem and_127 : ∀ c : Nat, c < 128 → IntKind.u8.wrap ((BitVec.ofInt 8 (c : Int) &&& BitVec.ofInt 8 127).toNat : Int) = c := by decide +kernel
theorem and_127k {c : Nat} (h : c < 128) : IntKind.u8.wrap ((BitVec.ofInt IntKind.u8.bits (c : Int) &&& BitVec.ofInt IntKind.u8.bits 127).toNat : Int) = c := and_127 c h
theorem UP.first {L : Lay} {T : List Nat} {s : PS} {ip blen pos un rlen rpos enc off : Nat} {eof : Bool} (h : Inv L T { s with r := ⟨ip, eof, blen, pos, un, rlen, rpos, enc, off⟩ }) (hun : un ≤ 511) : UP T s.q 1023 ⟨true, ip, eof, un, rlen, rpos, off, blen - pos⟩ := by
 obtain ⟨small, asc, icap, qlen, nlq, pq, pbl, slack, bl, unl, rp, rl, offl, ip, ipl, eofi, enc, e_⟩ := h
 dsimp only at *
 refine ⟨rp, rl, offl, ip, ipl, eofi, ?_, ?_, ?_⟩ <;> dsimp only
 · omega
 · intro h; cases h
 · rcases e_ with e | e
   · exact .inl omT
   · exact .inr (by refine ⟨e.1, e.2.1, e.2.2.1, e.2.2.2, ?_, ?_⟩ <;> omega)
theorem rb_step {T : List Nat} {e m off rpos rlen : Nat} (h : rlen ≤ m) : (Blk.win e m rpos rlen (bf T off rpos)).like (.win e m (rpos + 1) rlen (bf T (off + 1) (rpos + 1))) := by
 refine Blk.likeS ⟨rfl, rfl, rfl, rfl, rfl, h, fun i h0 h1 => ?_⟩
 simp only [Blk.lo, Blk.known, Blk.cell, bf] at *
 refine ⟨by omega, h1, ?_⟩
 rw [show off + 1 + (i - (rpos + 1)) = off + (i - rpos) by omega]
theorem bf_shift {T : List Nat} {q pos : Nat} (h : pos ≤ q) : (fun j => bf T (q - pos) 0 (pos + (j - 0))) = bf T q 0 := by
 funext j
 simp only [bf, Nat.sub_zero]
 rw [show q - pos + (pos + j) = q + j by omega]
theorem kc (L : Lay) (T : List Nat) (s : PS) (n : Nat) (he : Eof L) (h : Inv L T s ∨ (s.r = .new ∧ Inv L T { s with r := .got 0 false })) (hun : s.r.un < n) (hn : n ≤ 512) :
  Fn prog 138 [pV L.p, .int .i64 n] [PB L T s, BB L T s, RB L T s, IB L T, GE L]
   (fun u H' => u = .bool true ∧ ∃ r, Inv L T { s with r := r } ∧ n ≤ r.blen - r.pos ∧ (n ≤ r.un ∨ T.length < s.q + r.un) ∧ H' = [PB L T { s with r := r }, BB L T { s with r := r }, RB L T { s with r := r }, IB L T, GE L]) := by
 refine zo func138 rfl rfl rfl ?_
 intro w
 refine gg 12 ?_
 refine sqz (q_fn_nil underlying59 rfl rfl) (gg 6 ?_)
 refine zL (σ := Bool) (fun b => [(0, pV L.p), (1, .int .i64 n), (36, .bool b)]) (fun _ => [PB L T s, BB L T s, RB L T s, IB L T, GE L]) (fun _ => True) ?_ ?_
 ·
  cases hee : s.r.eof
  ·
   refine gg 4 ?_
   refine dlde (vb hee) rfl ?_
   refine gg 13 ?_
   exact zg false trivial ⟨rfl, rfl, rfl, trivial⟩ (Wk.refl _)
  ·
   refine gg 4 ?_
   refine dlde (vb hee) rfl ?_
   refine gg 10 ?_
   refine dqz (kw rfl rfl rfl) (dpt ?_)
   refine wg ?_
   exact zg _ trivial ⟨rfl, rfl, rfl, trivial⟩ (Wk.refl _)
 ·
  intro b36 _
  refine ev_same rfl (gg 16 ?_)
  refine zL (σ := RS) (fun _ => [(0, pV L.p), (1, .int .i64 n)]) (fun r => [PB L T { s with r := r }, BB L T { s with r := r }, RB L T { s with r := r }, IB L T, GE L]) (fun r => Inv L T { s with r := r } ∧ r.un < n) ?_ ?_
  ·
   refine zL (σ := Bool) (fun b => [(0, pV L.p), (1, .int .i64 n), (47, .bool b)]) (fun _ => [PB L T s, BB L T s, RB L T s, IB L T, GE L]) (fun b => (b = false → Inv L T s) ∧ (b = true → s.r = .new ∧ Inv L T { s with r := .got 0 false })) ?_ ?_
   ·
    rcases h with hi | hi
    ·
     refine gg 5 ?_
     refine kz (h := ?_) (hc := by have := hi.enc; omega)
     refine ze ?_
     exact zg false ⟨fun _ => hi, fun e => by cases e⟩ ⟨rfl, rfl, rfl, trivial⟩ (Wk.refl _)
    ·
     refine gg 5 ?_
     refine seq1 (h := ?_) (hc := by rw [hi.1]; rfl)
     refine ze ?_
     exact zg true ⟨fun e => (by cases e), fun _ => hi⟩ ⟨rfl, rfl, rfl, trivial⟩ (Wk.refl _)
   ·
    rintro b47 ⟨h47a, h47b⟩
    refine kg rfl (fun hc => ?_) (fun hc => ?_)
    ·
     obtain ⟨hs, hi⟩ := h47b hc
     have hs' : s = { s with r := .new } := by cases s; simp only at hs; rw [hs]
     refine zt [PB L T { s with r := .new }, BB L T { s with r := .new }, RB L T { s with r := .new }, IB L T, GE L] _ (by rw [← hs']) rfl ?_
     refine gg 3 ?_
     refine za rfl rfl rfl (de_ok L T s he hi.small hi.icap hi.lt128) ?_
     rintro _ _ ⟨rfl, n0, e, h1, h2, h3, rfl⟩
     refine lS ?_
     refine gg 5 ?_
     exact zg (.got n0 e) ⟨hi.got h1 h2 h3, by dsimp only; omega⟩ ⟨rfl, rfl, trivial⟩ (Wk.to [L.p, L.bb, L.rb, L.ib, 0] (by exact ⟨rfl, .inl rfl, rfl, .inl rfl, rfl, .inl rfl, rfl, .inl rfl, rfl, .inl rfl, trivial⟩))
    ·
     refine kQ ?_
     exact zg s.r ⟨h47a hc, hun⟩ ⟨rfl, rfl, trivial⟩ (Wk.refl _)
  ·
   rintro ⟨ip0, eof0, blen0, pos0, un0, rlen0, rpos0, enc0, off0⟩ ⟨hi, hun⟩
   obtain rfl : enc0 = 1 := hi.enc
   have hun : un0 < n := hun
   have hsm := hi.small
   have hasc := hi.asc
   have hic := hi.icap
   have hpbl : pos0 + un0 ≤ blen0 := hi.pbl
   have hbl : blen0 ≤ 1536 := hi.bl
   have hpq : pos0 ≤ s.q := hi.pq
   refine gg 10 ?_
   refine zL (σ := Unit) (fun _ => [(0, pV L.p), (1, .int .i64 n), (5, .int .i64 (blen0 - pos0 : Nat))]) (fun _ => [PB L T { s with r := ⟨ip0, eof0, blen0, 0, un0, rlen0, rpos0, 1, off0⟩ }, (L.bb, .win 5 1536 0 (blen0 - pos0) (bf T s.q 0)), RB L T { s with r := ⟨ip0, eof0, blen0, pos0, un0, rlen0, rpos0, 1, off0⟩ }, IB L T, GE L]) (fun _ => True) ?_ ?_
   ·
    refine zL (σ := Bool) (fun b => [(0, pV L.p), (1, .int .i64 n), (5, .int .i64 blen0), (68, .bool b)]) (fun _ => [PB L T { s with r := ⟨ip0, eof0, blen0, pos0, un0, rlen0, rpos0, 1, off0⟩ }, BB L T { s with r := ⟨ip0, eof0, blen0, pos0, un0, rlen0, rpos0, 1, off0⟩ }, RB L T { s with r := ⟨ip0, eof0, blen0, pos0, un0, rlen0, rpos0, 1, off0⟩ }, IB L T, GE L]) (fun b => b = decide (0 < pos0 ∧ pos0 < blen0)) ?_ ?_
    ·
     rcases (by omega : pos0 = 0 ∨ (0 < pos0 ∧ pos0 < blen0) ∨ (0 < pos0 ∧ pos0 = blen0)) with h0 | h0 | h0
     ·
       refine gg 5 ?_
       refine sgt0 (h := ?_) (hc := by dsimp only; omega)
       refine gg 9 ?_
       exact zg false (decide_eq_false omT).symm ⟨rfl, rfl, rfl, rfl, trivial⟩ (Wk.refl _)
     ·
       refine gg 5 ?_
       refine sgt1 (h := ?_) (hc := by dsimp only; omega)
       refine gg 6 ?_
       refine slt1 (h := ?_) (hc := by dsimp only; omega)
       refine spt ?_
       refine ze ?_
       exact zg true (decide_eq_true h0).symm ⟨rfl, rfl, rfl, rfl, trivial⟩ (Wk.refl _)
     ·
       refine gg 5 ?_
       refine sgt1 (h := ?_) (hc := by dsimp only; omega)
       refine gg 6 ?_
       refine slt0 (h := ?_) (hc := by dsimp only; omega)
       refine spt ?_
       refine ze ?_
       exact zg false (decide_eq_false omT).symm ⟨rfl, rfl, rfl, rfl, trivial⟩ (Wk.refl _)
    ·
     intro b68 h68
     refine kg rfl (fun hc => ?_) (fun hc => ?_)
     ·
       have h0 := of_decide_eq_true (h68.symm.trans hc)
       refine zd (zU 13 zF kR (gg 12 ?_))
       refine dqz (qto (q_sl_l rfl rfl omT omT) (sl_eq (o' := pos0) (n' := blen0 - pos0) (c' := 1536 - pos0) omT rfl rfl)) (qW ?_)
       refine sl rfl rfl (l_copyw rfl rfl (k := blen0 - pos0) (Nat.min_eq_left omT).symm (srcf_win omT omT) omT (fun _ => rfl)) ?_
       refine gg 9 ?_
       refine ssb ?_
       refine gg 9 ?_
       refine zg () trivial ⟨rfl, rfl, rfl, trivial⟩ (Wk.to [L.p, L.bb, L.rb, L.ib, 0] (by
       refine ⟨rfl, .inr (Blk.like_rec kR), rfl, .inl ?_, rfl, .inl rfl, rfl, .inl rfl, rfl, .inl rfl, trivial⟩
       show (Blk.win _ _ _ (0 + (blen0 - pos0)) fun j => bf T (s.q - pos0) 0 (pos0 + (j - 0))) = _
       rw [Nat.zero_add, bf_shift hpq]))
     ·
       refine gg 7 ?_
       refine sqz (kw rfl rfl rfl) (ze ?_)
       refine zf ?_
       refine kg rfl (fun hc => ?_) (fun hc => ?_)
       ·
         have h1 : pos0 = blen0 := by have := eq_of_beq hc; exact omT
         refine gg 11 ?_
         refine zg () trivial ⟨rfl, rfl, ?_, trivial⟩ (Wk.to [L.p, L.bb, L.rb, L.ib, 0] (by
           refine ⟨rfl, .inr (Blk.like_rec kR), rfl, .inr ?_, rfl, .inl rfl, rfl, .inl rfl, rfl, .inl rfl, trivial⟩
           exact Blk.likeS ⟨rfl, rfl, rfl, rfl, rfl, by simp only [Blk.known, Blk.len]; exact omT, fun i h0 h1 => by simp only [Blk.known] at h1; exact omT⟩))
         rw [h1, Nat.sub_self]; rfl
       ·
         have h0 : pos0 = 0 := by
           have h1 : ¬ pos0 = blen0 := fun e => by have h2 := ne_of_beq_false hc; apply h2; exact congrArg Int.ofNat e
           have h3 := of_decide_eq_false (h68.symm.trans (by assumption))
           omega
         refine kQ ?_
         refine zg () trivial ⟨rfl, rfl, ?_, trivial⟩ (Wk.to [L.p, L.bb, L.rb, L.ib, 0] (by
           refine ⟨rfl, .inl ?_, rfl, .inl ?_, rfl, .inl rfl, rfl, .inl rfl, rfl, .inl rfl, trivial⟩
           · rw [← h0]
           · rw [h0]; rfl))
         rw [h0]; rfl
   ·
    intro _ _
    refine zd (zU 13 zF kR (gg 10 ?_))
    refine dqz (qc rfl rfl omT) (gg 11 ?_)
    refine zL (σ := UX) (fun X => [(0, pV L.p), (1, .int .i64 n), (5, .int .i64 X.t5)]) (UH L T s) (fun X => UP T s.q 1024 X ∧ (n ≤ X.un ∨ T.length < s.q + X.un)) ?_ ?_
    ·
     refine kf ?_
     refine zw (σ := UX) (fun X => [(0, pV L.p), (1, .int .i64 n), (5, .int .i64 X.t5), (6, .bool X.fst)]) (UH L T s) (UP T s.q 1023) (fun X => 2 * (T.length - X.ip) + (if X.fst then 1 else 0)) ⟨true, ip0, eof0, un0, rlen0, rpos0, off0, blen0 - pos0⟩ ?_ ⟨rfl, rfl, rfl, rfl, trivial⟩ (Wk.to [L.p, L.bb, L.rb, L.ib, 0] (by exact ⟨rfl, .inr (Blk.like_rec kR), rfl, .inl rfl, rfl, .inl rfl, rfl, .inl rfl, rfl, .inl rfl, trivial⟩)) ?_
     · exact UP.first hi omT
     rintro ⟨fs, ip, eof, un, rlen, rpos, off, t5⟩ hp
     refine zt [PB L T { s with r := ⟨ip, eof, 1536, 0, un, rlen, rpos, 1, off⟩ }, (L.bb, .win 5 1536 0 t5 (bf T s.q 0)), RB L T { s with r := ⟨ip, eof, 1536, 0, un, rlen, rpos, 1, off⟩ }, IB L T, GE L] [(0, pV L.p), (1, .int .i64 n), (5, .int .i64 t5), (6, .bool fs)] rfl rfl ?_
     obtain ⟨rp, rl, offl, ip_, ipl, eofi, un_, fst, st⟩ := hp
     dsimp only at *
     refine gg 8 ?_
     refine sqz (kw rfl rfl rfl) (ze ?_)
     refine zf ?_
     refine kg rfl (fun hc => ?_) (fun hc => ?_)
     ·
       have hun' : un < n := by have := of_decide_eq_true hc; exact omT
       clear hc
       refine gg 4 ?_
       refine zL (σ := UX) (fun X => [(0, pV L.p), (1, .int .i64 n), (5, .int .i64 X.t5)]) (UH L T s) (fun X => UP T s.q 1023 X ∧ X.fst = true ∧ X.un = un ∧ (X.eof = true ∨ 2 * (T.length - X.ip) < 2 * (T.length - ip) + (if fs then 1 else 0))) ?_ ?_
       ·
         refine zL (σ := Bool) (fun b => [(0, pV L.p), (1, .int .i64 n), (5, .int .i64 t5), (133, .bool b)]) (fun _ => [PB L T { s with r := ⟨ip, eof, 1536, 0, un, rlen, rpos, 1, off⟩ }, (L.bb, .win 5 1536 0 t5 (bf T s.q 0)), RB L T { s with r := ⟨ip, eof, 1536, 0, un, rlen, rpos, 1, off⟩ }, IB L T, GE L]) (fun b => (b = true → rpos = rlen) ∧ (b = false → fs = true)) ?_ ?_
         ·
           cases fs
           ·
             have e0 := fst rfl
             refine gg 16 ?_
             exact zg true ⟨fun _ => fst rfl, nofun⟩ ⟨rfl, rfl, rfl, rfl, trivial⟩ (Wk.refl _)
           ·
             refine gg 13 ?_
             refine dqz (kw rfl rfl rfl) (dpf ?_)
             refine wg ?_
             exact zg _ ⟨fun e => by have := eq_of_beq e; exact omT, fun _ => rfl⟩ ⟨rfl, rfl, rfl, rfl, trivial⟩ (Wk.refl _)
         ·
           rintro b133 ⟨b133a, b133b⟩
           refine kg rfl (fun hc => ?_) (fun hc => ?_)
           ·
             have e0 : rpos = rlen := b133a hc
             rcases (show eof = true ∨ (eof = false ∧ ip < T.length) ∨ (eof = false ∧ ip = T.length) by cases eof <;> simp <;> omega) with h0 | h0 | h0
             ·
              refine gg 3 ?_
              refine za rfl rfl rfl (raw_none L T { s with r := ⟨ip, eof, 1536, 0, un, rlen, rpos, 1, off⟩ } h0 e0) ?_
              rintro _ _ ⟨rfl, rfl⟩
              refine lS ?_
              refine gg 5 ?_
              exact zg ⟨true, ip, eof, un, rlen, rpos, off, t5⟩ ⟨⟨rp, rl, offl, ip_, ipl, eofi, un_, nofun, st⟩, rfl, rfl, .inl h0⟩ ⟨rfl, rfl, rfl, trivial⟩ (Wk.to [L.p, L.bb, L.rb, L.ib, 0] (by exact ⟨rfl, .inl rfl, rfl, .inl rfl, rfl, .inl rfl, rfl, .inl rfl, rfl, .inl rfl, trivial⟩))
             ·
              obtain ⟨h0, h1⟩ := h0
              obtain ⟨m, hm⟩ : ∃ m, m = Nat.min (T.length - ip) 512 := ⟨_, rfl⟩
              have hm1 : m ≤ T.length - ip := by rw [hm]; exact Nat.min_le_left _ _
              have hm2 : m ≤ 512 := by rw [hm]; exact Nat.min_le_right _ _
              have hm3 : 1 ≤ m := by rw [hm]; exact Nat.le_min.2 ⟨by omega, by omega⟩
              subst h0
              obtain rfl : off = ip := by omega
              refine gg 3 ?_
              refine za rfl rfl rfl (raw_more L T { s with r := ⟨off, false, 1536, 0, un, rlen, rpos, 1, off⟩ } m he rfl e0 rl h1 hsm hic hm) ?_
              rintro _ _ ⟨rfl, rfl⟩
              refine lS ?_
              refine gg 5 ?_
              exact zg ⟨true, off + m, false, un, m, 0, off, t5⟩ ⟨⟨omT, omT, offl, omT, omT, nofun, omT, nofun, by
              rcases st with st | st
              · exact .inl st
              · cases st.2.1⟩, rfl, rfl, .inr (by dsimp only; split <;> omega)⟩ ⟨rfl, rfl, rfl, trivial⟩ (Wk.to [L.p, L.bb, L.rb, L.ib, 0] (by exact ⟨rfl, .inl rfl, rfl, .inl rfl, rfl, .inl rfl, rfl, .inl rfl, rfl, .inl rfl, trivial⟩))
             ·
              obtain ⟨h0, h1⟩ := h0
              subst h0
              refine gg 3 ?_
              refine za rfl rfl rfl (raw_end L T { s with r := ⟨ip, false, 1536, 0, un, rlen, rpos, 1, off⟩ } he rfl (.inl e0) rl h1) ?_
              rintro _ _ ⟨rfl, rfl⟩
              refine lS ?_
              refine gg 5 ?_
              exact zg ⟨true, ip, true, un, rlen - rpos, 0, off, t5⟩ ⟨⟨omT, omT, offl, omT, omT, fun _ => h1, omT, nofun, by
              rcases st with st | st
              · exact .inl st
              · cases st.2.1⟩, rfl, rfl, .inl rfl⟩ ⟨rfl, rfl, rfl, trivial⟩ (Wk.to [L.p, L.bb, L.rb, L.ib, 0] (by exact ⟨rfl, .inl rfl, rfl, .inl rfl, rfl, .inl rfl, rfl, .inl rfl, rfl, .inl rfl, trivial⟩))
           ·
             refine kQ ?_
             exact zg ⟨true, ip, eof, un, rlen, rpos, off, t5⟩ ⟨⟨rp, rl, offl, ip_, ipl, eofi, un_, nofun, st⟩, rfl, rfl, .inr (by rw [b133b hc]; simp)⟩ ⟨rfl, rfl, rfl, trivial⟩ (Wk.to [L.p, L.bb, L.rb, L.ib, 0] (by exact ⟨rfl, .inl rfl, rfl, .inl rfl, rfl, .inl rfl, rfl, .inl rfl, rfl, .inl rfl, trivial⟩))
       ·
         rintro ⟨_, ip', eof', un', rlen', rpos', off', t5'⟩ ⟨hp', ef1, eun, hmu⟩
         dsimp only at ef1 eun hmu
         subst ef1 eun
         refine zt [PB L T { s with r := ⟨ip', eof', 1536, 0, un', rlen', rpos', 1, off'⟩ }, (L.bb, .win 5 1536 0 t5' (bf T s.q 0)), RB L T { s with r := ⟨ip', eof', 1536, 0, un', rlen', rpos', 1, off'⟩ }, IB L T, GE L] [(0, pV L.p), (1, .int .i64 n), (5, .int .i64 t5')] rfl rfl ?_
         refine gg 8 ?_
         refine zL (σ := UX) (fun X => [(0, pV L.p), (1, .int .i64 n), (5, .int .i64 X.t5), (6, .bool false)]) (UH L T s) (fun X => UP T s.q 1023 X ∧ X.rpos = X.rlen ∧ X.eof = eof' ∧ X.ip = ip') ?_ ?_
         ·
           refine kf ?_
           refine zw (σ := UX) (fun X => [(0, pV L.p), (1, .int .i64 n), (5, .int .i64 X.t5), (6, .bool false)]) (UH L T s) (fun X => UP T s.q 1023 X ∧ X.fst = true ∧ X.eof = eof' ∧ X.ip = ip') (fun X => X.rlen - X.rpos) ⟨true, ip', eof', un', rlen', rpos', off', t5'⟩ ⟨hp', rfl, rfl, rfl⟩ ⟨rfl, rfl, rfl, rfl, trivial⟩ (Wk.refl _) ?_
           rintro ⟨f2, ip2, eof2, un2, rlen2, rpos2, off2, t52⟩ ⟨hp2, ef, ee, ei⟩
           dsimp only at ef ee ei
           subst ef ee ei
           refine zt [PB L T { s with r := ⟨ip2, eof2, 1536, 0, un2, rlen2, rpos2, 1, off2⟩ }, (L.bb, .win 5 1536 0 t52 (bf T s.q 0)), RB L T { s with r := ⟨ip2, eof2, 1536, 0, un2, rlen2, rpos2, 1, off2⟩ }, IB L T, GE L] [(0, pV L.p), (1, .int .i64 n), (5, .int .i64 t52), (6, .bool false)] rfl rfl ?_
           clear rp rl offl ip_ ipl eofi un_ fst st
           obtain ⟨rp, rl, offl, ip_, ipl, eofi, un_, fst, st⟩ := hp2
           dsimp only at rp rl offl ip_ ipl eofi un_ fst st
           refine gg 12 ?_
           refine dqz (kw rfl rfl rfl) (wg ?_)
           refine zf ?_
           refine kg rfl (fun hc => ?_) (fun hc => ?_)
           ·
             have h0 : rpos2 < rlen2 := by
              have h1 : rpos2 ≠ rlen2 := fun e => by subst e; simp at hc
              omega
             obtain ⟨c, hcc⟩ : ∃ c, at_ T off2 = c := ⟨_, rfl⟩
             have hca := hasc _ (at_mem (T := T) (i := off2) omT)
             rw [hcc] at hca
             have hl : s.q + un2 = off2 ∧ t52 = un2 := by
              rcases st with st | st
              · exact st
              · omega
             clear hc
             refine gg 24 ?_
             refine dsb ?_
             refine gg 31 ?_
             refine zn (show bf T off2 rpos2 rpos2 = .int .u8 (c : Int) by rw [bf0, hcc]) rfl ?_
             refine gg 8 ?_
             refine sqz (q_and rfl rfl (and_128k omT)) (gg 26 ?_)
             refine sqz (q_and rfl rfl (and_128k omT)) (gg 7 ?_)
             refine sqz (q_and rfl rfl (and_127k omT)) (sqz (q_convi32 ⟨_, underlying5⟩ underlying21 rfl omT omT) (gg 11 ?_))
             refine qg (1) (kn (gg 45 ?_))
             refine zL (σ := Unit) (fun _ => [(0, pV L.p), (1, .int .i64 n), (5, .int .i64 t52), (6, .bool false), (7, .int .i32 (c : Int)), (8, .int .i64 1)]) (fun _ => [PB L T { s with r := ⟨ip2, eof2, 1536, 0, un2, rlen2, rpos2, 1, off2⟩ }, (L.bb, .win 5 1536 0 t52 (bf T s.q 0)), RB L T { s with r := ⟨ip2, eof2, 1536, 0, un2, rlen2, rpos2, 1, off2⟩ }, IB L T, GE L]) (fun _ => True) ?_ ?_
             ·
              rcases hca with h1 | h1
              ·
                refine gg 19 ?_
                exact zg () trivial ⟨rfl, rfl, rfl, rfl, rfl, rfl, trivial⟩ (Wk.refl _)
              ·
                refine gg 39 ?_
                exact zg () trivial ⟨rfl, rfl, rfl, rfl, rfl, rfl, trivial⟩ (Wk.refl _)
             ·
              intro _ _
              refine gg 41 ?_
              refine sadc 0 ?_
              refine smv ?_
              refine sqz (q_convu8 ⟨_, underlying21⟩ underlying5 rfl omT omT) (six ?_)
              refine sln rfl (l_stwin rfl rfl rfl omT omT (show bf T s.q 0 (t52 + 0) = .int .u8 (c : Int) by simp only [bf, Nat.add_zero, Nat.sub_zero]; rw [hl.2, hl.1, hcc])) ?_
              refine gg 19 ?_
              exact zh ⟨true, ip2, eof2, un2 + 1, rlen2, rpos2 + 1, off2 + 1, t52 + 1⟩ ⟨⟨omT, omT, omT, omT, omT, eofi, omT, nofun, .inl omT⟩, rfl, rfl, rfl⟩ omT ⟨rfl, rfl, rfl, rfl, trivial⟩ (Wk.to [L.p, L.bb, L.rb, L.ib, 0] (by exact ⟨rfl, .inr (Blk.like_rec kR), rfl, .inl rfl, rfl, .inr (rb_step rl), rfl, .inl rfl, rfl, .inl rfl, trivial⟩))
           ·
             have h0 : rpos2 = rlen2 := by
              have h1 : ((rpos2 : Int) != (rlen2 : Int)) = false := hc
              have h2 : (rpos2 : Int) = (rlen2 : Int) := by simpa using h1
              exact Int.ofNat.inj h2
             refine gg 4 ?_
             exact zg ⟨true, ip2, eof2, un2, rlen2, rpos2, off2, t52⟩ ⟨⟨rp, rl, offl, ip_, ipl, eofi, un_, nofun, st⟩, h0, rfl, rfl⟩ ⟨rfl, rfl, rfl, rfl, trivial⟩ (Wk.refl _)
         ·
           rintro ⟨f3, ip3, eof3, un3, rlen3, rpos3, off3, t53⟩ ⟨hp3, er, ee, ei⟩
           dsimp only at er ee ei
           subst er ee ei
           refine zt [PB L T { s with r := ⟨ip3, eof3, 1536, 0, un3, rpos3, rpos3, 1, off3⟩ }, (L.bb, .win 5 1536 0 t53 (bf T s.q 0)), RB L T { s with r := ⟨ip3, eof3, 1536, 0, un3, rpos3, rpos3, 1, off3⟩ }, IB L T, GE L] [(0, pV L.p), (1, .int .i64 n), (5, .int .i64 t53), (6, .bool false)] rfl rfl ?_
           clear rp rl offl ip_ ipl eofi un_ fst st
           obtain ⟨rp, rl, offl, ip_, ipl, eofi, un_, fst, st⟩ := hp3
           dsimp only at rp rl offl ip_ ipl eofi un_ fst st
           refine gg 8 ?_
           refine kg rfl (fun hc => ?_) (fun hc => ?_)
           ·
             have h0 := eofi hc
             have hend : T.length ≤ s.q + t53 := by omega
             have ht5 : t53 ≤ 1534 := by omega
             have hz : bf T s.q 0 t53 = .int .u8 0 := by simp only [bf, Nat.sub_zero]; rw [qS hend]; rfl
             refine gg 8 ?_
             refine sln rfl (l_stwin rfl rfl rfl omT rfl hz) ?_
             refine gg 26 ?_
             exact zg ⟨true, ip3, eof3, un3 + 1, rpos3, rpos3, off3, t53 + 1⟩ ⟨⟨omT, omT, omT, omT, omT, eofi, omT, nofun, .inr ⟨omT, hc, rfl, omT, omT, omT⟩⟩, .inr omT⟩ ⟨rfl, rfl, rfl, trivial⟩ (Wk.to [L.p, L.bb, L.rb, L.ib, 0] (by exact ⟨rfl, .inr (Blk.like_rec kR), rfl, .inl rfl, rfl, .inl rfl, rfl, .inl rfl, rfl, .inl rfl, trivial⟩))
           ·
             refine gg 3 ?_
             exact zh ⟨false, ip3, eof3, un3, rpos3, rpos3, off3, t53⟩ ⟨omT, omT, omT, omT, omT, eofi, omT, fun _ => rfl, st⟩ (by dsimp only; simp only [Bool.false_eq_true, if_false, Nat.add_zero]; exact hmu.resolve_left (by have hf : eof3 = false := hc; rw [hf]; simp)) ⟨rfl, rfl, rfl, rfl, trivial⟩ (Wk.refl _)
     ·
       have hle : n ≤ un := by have := of_decide_eq_false (by assumption); exact omT
       refine gg 4 ?_
       exact zg ⟨fs, ip, eof, un, rlen, rpos, off, t5⟩ ⟨⟨rp, rl, offl, ip_, ipl, eofi, omT, fst, st⟩, .inl hle⟩ ⟨rfl, rfl, rfl, trivial⟩ (Wk.refl _)
    ·
     rintro ⟨fs, ip, eof, un, rlen, rpos, off, t5⟩ ⟨hp, hq⟩
     refine zt [PB L T { s with r := ⟨ip, eof, 1536, 0, un, rlen, rpos, 1, off⟩ }, (L.bb, .win 5 1536 0 t5 (bf T s.q 0)), RB L T { s with r := ⟨ip, eof, 1536, 0, un, rlen, rpos, 1, off⟩ }, IB L T, GE L] [(0, pV L.p), (1, .int .i64 n), (5, .int .i64 t5)] rfl rfl ?_
     obtain ⟨rp, rl, offl, ip_, ipl, eofi, un_, fst, st⟩ := hp
     dsimp only at *
     refine zd (kf ?_)
     refine zw (σ := Nat) (fun t => [(0, pV L.p), (1, .int .i64 n), (5, .int .i64 t)]) (fun t => [PB L T { s with r := ⟨ip, eof, 1536, 0, un, rlen, rpos, 1, off⟩ }, (L.bb, .win 5 1536 0 t (bf T s.q 0)), RB L T { s with r := ⟨ip, eof, 1536, 0, un, rlen, rpos, 1, off⟩ }, IB L T, GE L]) (fun t => t5 ≤ t ∧ (t ≤ n ∨ t = t5)) (fun t => n - t) t5 ⟨Nat.le_refl _, .inr rfl⟩ ⟨rfl, rfl, rfl, trivial⟩ (Wk.refl _) ?_
     rintro t ⟨ht1, ht2⟩
     refine gg 5 ?_
     refine sqz (kw rfl rfl rfl) (ze ?_)
     refine zf ?_
     refine kg rfl (fun hc => ?_) (fun hc => ?_)
     ·
       have hlt : t < n := by have := of_decide_eq_true hc; exact omT
       have hend : T.length ≤ s.q + t := by omega
       have hz : bf T s.q 0 t = .int .u8 0 := by simp only [bf, Nat.sub_zero]; rw [qS hend]; rfl
       refine gg 11 ?_
       refine sln rfl (l_stwin rfl rfl rfl omT rfl hz) ?_
       refine gg 8 ?_
       exact zh (t + 1) ⟨omT, omT⟩ omT ⟨rfl, rfl, rfl, trivial⟩ (Wk.refl _)
     ·
       have hge : n ≤ t := by have := of_decide_eq_false (by assumption); exact omT
       have ht : t ≤ 1536 := by omega
       refine gg 13 ?_
       refine sqz (qc rfl rfl omT) (gg 11 ?_)
       refine zm (H' := [PB L T { s with r := ⟨ip, eof, t, 0, un, rlen, rpos, 1, off⟩ }, BB L T { s with r := ⟨ip, eof, t, 0, un, rlen, rpos, 1, off⟩ }, RB L T { s with r := ⟨ip, eof, t, 0, un, rlen, rpos, 1, off⟩ }, IB L T, GE L]) rfl rfl (Wk.to [L.p, L.bb, L.rb, L.ib, 0] (by exact ⟨rfl, .inr (Blk.like_rec kR), rfl, .inl rfl, rfl, .inl rfl, rfl, .inl rfl, rfl, .inl rfl, trivial⟩)) ⟨rfl, ⟨ip, eof, t, 0, un, rlen, rpos, 1, off⟩, ?_, ?_, ?_, rfl⟩
       · obtain ⟨small, asc, icap, qlen, nlq⟩ := hi
         refine ⟨small, asc, icap, qlen, nlq, Nat.zero_le _, ?_, ?_, ht, ?_, rp, rl, offl, ip_, ipl, eofi, rfl, ?_⟩ <;> dsimp only at *
         · omega
         · omega
         · omega
         · rcases st with st | st
           · exact .inl omT
           · exact .inr ⟨st.1, st.2.1, st.2.2.1, st.2.2.2.1⟩
       · dsimp only; omega
       · dsimp only; omega
theorem like_rb {t n : Nat} {f : Nat → Value} {l : List Value} (h : l.length ≤ n) (hc : ∀ i v, l[i]? = some v → f i = v) : (Blk.row t (0, 0) n f).like (.buf t n l) := by
 refine Blk.likeS ⟨rfl, rfl, rfl, rfl, rfl, h, fun i _ h1 => ?_⟩
 simp only [Blk.known] at h1
 refine ⟨Nat.zero_le _, by simp only [Blk.known]; omega, ?_⟩
 simp only [Blk.cell, nth]
 rw [List.getElem?_eq_getElem h1]
 exact congrArg some (hc i _ (List.getElem?_eq_getElem h1)).symm
theorem skip_line_ok (L : Lay) (T : List Nat) (s : PS) (hn : Inv L T s) (hlt : s.r.pos < s.r.blen) (hu : 1 ≤ s.r.un) (hlf : at_ T s.q = 10) :
   Fn prog 169 [pV L.p] [PB L T s, BB L T s] (fun v H' => v = .tuple #[] ∧
    H' = [PB L T { s with r := { s.r with pos := s.r.pos + 1, un := s.r.un - 1 }, q := s.q + 1, nl := s.nl + 1 }, BB L T { s with r := { s.r with pos := s.r.pos + 1, un := s.r.un - 1 }, q := s.q + 1, nl := s.nl + 1 }]) := by
 have hn' := hn
 obtain ⟨small, asc, _, qlen, nlq, hpq, pbl, _, bl, unl⟩ := hn'
 have hlin := lnT_le T s.q
 have ha : at_ T s.q < 128 := hn.lt128 _
 refine zo func169 rfl rfl rfl ?_
 intro w
 refine gg 10 ?_
 refine dca (b_crlf hn hlt omT) ?_
 refine gg 13 ?_
 refine dca (qN hn hlt (by rw [hlf])) ?_
 refine gg 53 ?_
 refine zU 18 zF kR (gg 13 ?_)
 refine zn (bp0 omT) rfl ?_
 refine dca (wd ha) ?_
 refine gg 17 ?_
 refine end0nw (H' := [PB L T { s with r := { s.r with pos := s.r.pos + 1, un := s.r.un - 1 }, q := s.q + 1, nl := s.nl + 1 }, BB L T { s with r := { s.r with pos := s.r.pos + 1, un := s.r.un - 1 }, q := s.q + 1, nl := s.nl + 1 }]) rfl (Wk.list ⟨rfl, .inr (Blk.like_rec ?_), rfl, .inl ?_, trivial⟩) ⟨rfl, rfl⟩
 · simp only [qp, colT_nl hlf, lnT_nl hlf]; kernel_rfl
 · simp only [wa]
abbrev PS.read (T : List Nat) (s : PS) : PS := { s with nl := if kj (at_ T s.q) then s.nl else 0, r := { s.r with pos := s.r.pos + 1, un := s.r.un - 1 }, q := s.q + 1 }
theorem read_first (L : Lay) (T : List Nat) (s : PS) (u : Option Addr) (c0 : Nat) (hn : Inv L T s) (hlt : s.r.pos < s.r.blen) (hu : 1 ≤ s.r.un) (hlf : at_ T s.q ≠ 10) :
   Fn prog 173 [pV L.p, .slice u 0 c0] [PB L T s, BB L T s] (fun v H' => ∃ b, v = .slice (some ⟨b, 0, none⟩) 1 32 ∧
     H' = [PB L T (s.read T), BB L T (s.read T), (b, .buf 5 32 (bytes [at_ T s.q]))]) := by
 have hn' := hn
 obtain ⟨small, asc, _, qlen, nlq, hpq, pbl, _, bl, unl⟩ := hn'
 have hcol := colT_le T s.q
 have hlin := lnT_le T s.q
 have ha : at_ T s.q < 128 := hn.lt128 _
 cases hb : kj (at_ T s.q)
 · refine zo func173 rfl rfl rfl ?_
   intro w
   refine gg 16 ?_
   refine dca (ks hn hlt hb) ?_
   refine gg 22 ?_
   refine zn (bp0 hpq) rfl ?_
   refine dca (wd ha) ?_
   refine gg 23 ?_
   refine kL rfl rfl rfl (k1 := .i64) (k2 := .i64) (ln := 0) (cp := 32) rfl rfl omT omT omT ?_
   intro b
   refine gg 12 ?_
   refine sad ?_
   refine gg 13 ?_
   refine sqz (qc rfl rfl omT) (gg 4 ?_)
   refine zU 15 zF kR (gg 13 ?_)
   refine zn (bp0 hpq) rfl ?_
   refine dix ?_
   refine qW ?_
   refine sln rfl (l_storer rfl rfl rfl omT) ?_
   refine gg 60 ?_
   refine zm (H' := [PB L T (s.read T), BB L T (s.read T), (b, .buf 5 32 (bytes [at_ T s.q]))]) rfl rfl (Wk.to [L.p, L.bb, b] (by
   refine ⟨rfl, .inr (Blk.like_rec ?_), rfl, .inl ?_, rfl, .inr (like_rb (by simp) ?_), trivial⟩
   · simp only [qp, hb, wn hlf, lnT_one hlf]; kernel_rfl
   · simp only [wa]
   · intro i v h
     cases i with
     | zero => exact Option.some.inj h
     | succ i => cases h)) ⟨b, rfl, rfl⟩
 · refine zo func173 rfl rfl rfl ?_
   intro w
   refine gg 16 ?_
   refine dca (ks hn hlt hb) ?_
   refine gg 17 ?_
   refine zn (bp0 hpq) rfl ?_
   refine dca (wd ha) ?_
   refine gg 23 ?_
   refine kL rfl rfl rfl (k1 := .i64) (k2 := .i64) (ln := 0) (cp := 32) rfl rfl omT omT omT ?_
   intro b
   refine gg 12 ?_
   refine sad ?_
   refine gg 13 ?_
   refine sqz (qc rfl rfl omT) (gg 4 ?_)
   refine zU 15 zF kR (gg 13 ?_)
   refine zn (bp0 hpq) rfl ?_
   refine dix ?_
   refine qW ?_
   refine sln rfl (l_storer rfl rfl rfl omT) ?_
   refine gg 60 ?_
   refine zm (H' := [PB L T (s.read T), BB L T (s.read T), (b, .buf 5 32 (bytes [at_ T s.q]))]) rfl rfl (Wk.to [L.p, L.bb, b] (by
   refine ⟨rfl, .inr (Blk.like_rec ?_), rfl, .inl ?_, rfl, .inr (like_rb (by simp) ?_), trivial⟩
   · simp only [qp, hb, wn hlf, lnT_one hlf]; kernel_rfl
   · simp only [wa]
   · intro i v h
     cases i with
     | zero => exact Option.some.inj h
     | succ i => cases h)) ⟨b, rfl, rfl⟩
theorem read_more (L : Lay) (T : List Nat) (s : PS) (X : List Nat) (b cap : Nat) (hX : 0 < X.length) (hc : X.length ≤ cap) (hcap : cap ≤ 9223372036854775807) (hXs : X.length ≤ 1000000000) (hn : Inv L T s) (hlt : s.r.pos < s.r.blen) (hu : 1 ≤ s.r.un) (hlf : at_ T s.q ≠ 10) :
   Fn prog 173 [pV L.p, .slice (some ⟨b, 0, none⟩) X.length cap] [PB L T s, BB L T s, (b, .buf 5 cap (bytes X))] (fun v H' => ∃ b' cap', X.length + 1 ≤ cap' ∧ cap' ≤ 9223372036854775807 ∧ v = .slice (some ⟨b', 0, none⟩) (X.length + 1) cap' ∧
     H' = [PB L T (s.read T), BB L T (s.read T), (b', .buf 5 cap' (bytes (X ++ [at_ T s.q])))]) := by
 have hn' := hn
 obtain ⟨small, asc, _, qlen, nlq, hpq, pbl, _, bl, unl⟩ := hn'
 have hcol := colT_le T s.q
 have hlin := lnT_le T s.q
 have ha : at_ T s.q < 128 := hn.lt128 _
 cases hb : kj (at_ T s.q)
 · by_cases hfit : X.length + 1 ≤ cap
   · refine zo func173 rfl rfl rfl ?_
     intro w
     refine gg 16 ?_
     refine dca (ks hn hlt hb) ?_
     refine gg 22 ?_
     refine zn (bp0 hpq) rfl ?_
     refine dca (wd ha) ?_
     refine gg 18 ?_
     refine kz (h := ?_) (hc := by omega)
     refine gg 17 ?_
     refine sle1 (h := ?_) (hc := by omega)
     refine gg 10 ?_
     refine sqz (qc rfl rfl omT) (gg 4 ?_)
     refine zU 15 zF kR (gg 13 ?_)
     refine zn (bp0 hpq) rfl ?_
     refine dix ?_
     refine qW ?_
     refine sln rfl (l_storeb rfl rfl rfl omT (by rw [kx]; exact omT)) ?_
     refine gg 60 ?_
     refine zm (H' := [PB L T (s.read T), BB L T (s.read T), (b, .buf 5 cap (bytes (X ++ [at_ T s.q])))]) rfl rfl (Wk.to [L.p, L.bb, b] (by
     refine ⟨rfl, .inr (Blk.like_rec ?_), rfl, .inl ?_, rfl, .inl ?_, trivial⟩
     · simp only [qp, hb, wn hlf, lnT_one hlf]; kernel_rfl
     · simp only [wa]
     · rw [qI]; rfl)) ⟨b, cap, omT, hcap, rfl, rfl⟩
   · refine zo func173 rfl rfl rfl ?_
     intro w
     refine gg 16 ?_
     refine dca (ks hn hlt hb) ?_
     refine gg 22 ?_
     refine zn (bp0 hpq) rfl ?_
     refine dca (wd ha) ?_
     refine gg 18 ?_
     refine kz (h := ?_) (hc := by omega)
     refine gg 17 ?_
     refine sle0 (h := ?_) (hc := by omega)
     refine gg 5 ?_
     refine zU 16 zF kR (gg 15 ?_)
     refine dqz (qto (q_sl_lh rfl rfl rfl omT omT omT) (sl_eq (o' := s.r.pos) (n' := 1) (c' := 1536 - s.r.pos) omT omT rfl)) (qW ?_)
     refine zY (z := .int .u8 0) (sz := 1) (bs := 1) rfl rfl rfl rfl omT (by rw [kx]; exact omT) hc hcap rfl (news := bytes [at_ T s.q]) (zN (Nat.zero_le _) (by simp [Blk.known]; omega) (by
       intro j u h
       cases j with
       | zero => rw [← Option.some.inj h]; exact congrArg some (bp0 hpq)
       | succ j => cases h)) (by simp) (ww _) omT omT ?_
     intro b' cap' h1 h2
     refine gg 62 ?_
     refine zm (H' := [PB L T (s.read T), BB L T (s.read T), (b', .buf 5 cap' (bytes (X ++ [at_ T s.q])))]) rfl rfl (Wk.to [L.p, L.bb, b'] (by
     refine ⟨rfl, .inr (Blk.like_rec ?_), rfl, .inl ?_, rfl, .inl ?_, trivial⟩
     · simp only [qp, hb, wn hlf, lnT_one hlf]; kernel_rfl
     · simp only [wa]
     · rw [qI, Nat.mul_one])) ⟨b', cap', h1, h2, rfl, rfl⟩
 · by_cases hfit : X.length + 1 ≤ cap
   · refine zo func173 rfl rfl rfl ?_
     intro w
     refine gg 16 ?_
     refine dca (ks hn hlt hb) ?_
     refine gg 17 ?_
     refine zn (bp0 hpq) rfl ?_
     refine dca (wd ha) ?_
     refine gg 18 ?_
     refine kz (h := ?_) (hc := by omega)
     refine gg 17 ?_
     refine sle1 (h := ?_) (hc := by omega)
     refine gg 10 ?_
     refine sqz (qc rfl rfl omT) (gg 4 ?_)
     refine zU 15 zF kR (gg 13 ?_)
     refine zn (bp0 hpq) rfl ?_
     refine dix ?_
     refine qW ?_
     refine sln rfl (l_storeb rfl rfl rfl omT (by rw [kx]; exact omT)) ?_
     refine gg 60 ?_
     refine zm (H' := [PB L T (s.read T), BB L T (s.read T), (b, .buf 5 cap (bytes (X ++ [at_ T s.q])))]) rfl rfl (Wk.to [L.p, L.bb, b] (by
     refine ⟨rfl, .inr (Blk.like_rec ?_), rfl, .inl ?_, rfl, .inl ?_, trivial⟩
     · simp only [qp, hb, wn hlf, lnT_one hlf]; kernel_rfl
     · simp only [wa]
     · rw [qI]; rfl)) ⟨b, cap, omT, hcap, rfl, rfl⟩
   · refine zo func173 rfl rfl rfl ?_
     intro w
     refine gg 16 ?_
     refine dca (ks hn hlt hb) ?_
     refine gg 17 ?_
     refine zn (bp0 hpq) rfl ?_
     refine dca (wd ha) ?_
     refine gg 18 ?_
     refine kz (h := ?_) (hc := by omega)
     refine gg 17 ?_
     refine sle0 (h := ?_) (hc := by omega)
     refine gg 5 ?_
     refine zU 16 zF kR (gg 15 ?_)
     refine dqz (qto (q_sl_lh rfl rfl rfl omT omT omT) (sl_eq (o' := s.r.pos) (n' := 1) (c' := 1536 - s.r.pos) omT omT rfl)) (qW ?_)
     refine zY (z := .int .u8 0) (sz := 1) (bs := 1) rfl rfl rfl rfl omT (by rw [kx]; exact omT) hc hcap rfl (news := bytes [at_ T s.q]) (zN (Nat.zero_le _) (by simp [Blk.known]; omega) (by
       intro j u h
       cases j with
       | zero => rw [← Option.some.inj h]; exact congrArg some (bp0 hpq)
       | succ j => cases h)) (by simp) (ww _) omT omT ?_
     intro b' cap' h1 h2
     refine gg 62 ?_
     refine zm (H' := [PB L T (s.read T), BB L T (s.read T), (b', .buf 5 cap' (bytes (X ++ [at_ T s.q])))]) rfl rfl (Wk.to [L.p, L.bb, b'] (by
     refine ⟨rfl, .inr (Blk.like_rec ?_), rfl, .inl ?_, rfl, .inl ?_, trivial⟩
     · simp only [qp, hb, wn hlf, lnT_one hlf]; kernel_rfl
     · simp only [wa]
     · rw [qI, Nat.mul_one])) ⟨b', cap', h1, h2, rfl, rfl⟩
structure Rdy (T : List Nat) (s : PS) (k : Nat) : Prop where
 len : s.r.pos + k ≤ s.r.blen
 un : k ≤ s.r.un ∨ T.length < s.q + s.r.un
inductive Ext : Env → Env → Prop where
 | refl (E : Env) : Ext E E
 | cons {d : Nat} {v : Value} {E' E : Env} (h : look d E = none) (k : Ext E' E) : Ext ((d, v) :: E') E
theorem Ext.look {E' E : Env} (h : Ext E' E) {t : Nat} {v : Value} (hl : Go.Proofs.YtnfbcfflkphbiaaGreatDoor.look t E = some v) : Go.Proofs.YtnfbcfflkphbiaaGreatDoor.look t E' = some v := by
 induction h with
 | refl => exact hl
 | @cons d u E' E hn _ ih =>
  by_cases hd : d = t
  · subst hd; rw [hn] at hl; cases hl
  · simp only [Go.Proofs.YtnfbcfflkphbiaaGreatDoor.look, beqf hd]; exact ih hl
theorem EOK.ext {n : Nat} {ds : List Deferred} {E' E : Env} {a : Act} (h : EOK n ds E' a) (hx : Ext E' E) : EOK n ds E a := ⟨h.size, h.defers, fun t v ht => h.env t v (hx.look ht)⟩
section
variable {P : Program} {n : Nat} {ds : List Deferred} {pu : Bool} {w0 : World} {D : List Nat} {H : zl} {E E' : Env} {Q : Exit → Act → World → Prop}
theorem qm {x y : Code} (d : Nat) (p : Bool → Prop) (h : EV P n ds pu w0 D x (Exit.then (MidE n ds pu w0 D (fun b => (d, .bool b) :: E) (fun _ => H) p) Q) H E) (k : ∀ b, p b → EV P n ds pu w0 D y Q H ((d, .bool b) :: E)) : EV P n ds pu w0 D (.seq x y) Q H E :=
 zL (fun b => (d, .bool b) :: E) (fun _ => H) p h k
theorem zE {d : Nat} {p : Bool → Prop} {b : Bool} (hl : look d E' = some (.bool b)) (hx : Ext E' E) (hp : p b) : LF n ds pu w0 D (Exit.then (MidE n ds pu w0 D (fun b => (d, .bool b) :: E) (fun _ => H) p) Q) .normal H E' := by
 refine fun _ _ he hw => ⟨b, hp, ⟨he.size, he.defers, fun t v ht => ?_⟩, hw⟩
 rcases look_cons ht with ⟨rfl, rfl⟩ | ⟨_, ht⟩
 · exact he.env _ _ hl
 · exact he.env _ _ (hx.look ht)
end
abbrev RH (L : Lay) (T : List Nat) (S : PS) (Hf : zl) : zl := PB L T S :: BB L T S :: RB L T S :: IB L T :: GE L :: Hf
def MidC (n : Nat) (ds : List Deferred) (w0 : World) (D : List Nat) (L : Lay) (T : List Nat) (S : PS) (k : Nat) (E : Env) (Hf : zl) (a : Act) (w : World) : Prop :=
 ∃ r, Inv L T { S with r := r } ∧ Rdy T { S with r := r } k ∧ EOK n ds E a ∧ WOK false w0 D (RH L T { S with r := r } Hf) w
section
variable {P : Program} {n : Nat} {ds : List Deferred} {w0 : World} {D : List Nat} {H H' Hf : zl} {E E' : Env} {Q : Exit → Act → World → Prop} {L : Lay} {T : List Nat}
theorem zR {x y : Code} (S : PS) (k : Nat) (hn : Inv L T S) [hs : Sel H [PB L T S, BB L T S, RB L T S, IB L T, GE L] Hf]
   (h0 : ¬ S.r.un < k → EV P n ds false w0 D x (Exit.then (MidC n ds w0 D L T S k E Hf) Q) (RH L T S Hf) E)
   (h1 : S.r.un < k → EV P n ds false w0 D x (Exit.then (MidC n ds w0 D L T S k E Hf) Q) (RH L T S Hf) E)
   (h : ∀ r, Inv L T { S with r := r } → Rdy T { S with r := r } k → EV P n ds false w0 D y Q (RH L T { S with r := r } Hf) E) : EV P n ds false w0 D (.seq x y) Q H E := by
 intro a w he hw
 have hw' : WOK false w0 D (RH L T S Hf) w := hw.mono (fun x hx => hs.is.mem_iff.2 hx) ((hw.hok.perm hs.is).nodup)
 refine wp_seq (wp_mono (Q := Exit.then (MidC n ds w0 D L T S k E Hf) Q) ?_ ?_)
 · by_cases hc : S.r.un < k
   · exact h1 hc a w he hw'
   · exact h0 hc a w he hw'
 · intro e a' w' hq
   cases e <;> first | exact hq | skip
   obtain ⟨r, hr1, hr2, he', hw'⟩ := hq
   exact h r hr1 hr2 a' w' he' hw'
theorem ki {x : Code} (S : PS) (k : Nat) (hn : Inv L T S) [hs : Sel H [PB L T S, BB L T S, RB L T S, IB L T, GE L] Hf]
   (h0 : ¬ S.r.un < k → EV P n ds false w0 D x (Exit.then (MidC n ds w0 D L T S k E Hf) Q) (RH L T S Hf) E)
   (h1 : S.r.un < k → EV P n ds false w0 D x (Exit.then (MidC n ds w0 D L T S k E Hf) Q) (RH L T S Hf) E)
   (h : ∀ r, Inv L T { S with r := r } → Rdy T { S with r := r } k → LF n ds false w0 D Q .normal (RH L T { S with r := r } Hf) E) : EV P n ds false w0 D x Q H E := by
 intro a w he hw
 have hw' : WOK false w0 D (RH L T S Hf) w := hw.mono (fun x hx => hs.is.mem_iff.2 hx) ((hw.hok.perm hs.is).nodup)
 refine wp_mono (Q := Exit.then (MidC n ds w0 D L T S k E Hf) Q) ?_ ?_
 · by_cases hc : S.r.un < k
   · exact h1 hc a w he hw'
   · exact h0 hc a w he hw'
 · intro e a' w' hq
   cases e <;> first | exact hq | skip
   obtain ⟨r, hr1, hr2, he', hw'⟩ := hq
   exact h r hr1 hr2 a' w' he' hw'
theorem zq {S : PS} {k : Nat} (hn : Inv L T S) (hc : ¬ S.r.un < k) (hx : Ext E' E) : LF n ds false w0 D (Exit.then (MidC n ds w0 D L T S k E Hf) Q) .normal (RH L T S Hf) E' :=
 fun _ _ he hw => ⟨S.r, hn, ⟨by have := hn.pbl; dsimp only; omega, .inl (by dsimp only; omega)⟩, he.ext hx, hw⟩
theorem zr {S : PS} {k : Nat} {r : RS} (hn : Inv L T { S with r := r }) (h1 : k ≤ r.blen - r.pos) (h2 : k ≤ r.un ∨ T.length < S.q + r.un) (hx : Ext E' E) : LF n ds false w0 D (Exit.then (MidC n ds w0 D L T S k E Hf) Q) .normal (RH L T { S with r := r } Hf) E' :=
 fun _ _ he hw => ⟨r, hn, ⟨by have := hn.pbl; dsimp only at *; omega, h2⟩, he.ext hx, hw⟩
theorem zD {c : Code} (L : Lay) (T : List Nat) (S : PS) [hs : Sel H [PB L T S, BB L T S, RB L T S, IB L T, GE L] Hf] (h : EV P n ds false w0 D c Q (RH L T S Hf) E) : EV P n ds false w0 D c Q H E :=
 fun a w he hw => h a w he (hw.mono (fun x hx => hs.is.mem_iff.2 hx) ((hw.hok.perm hs.is).nodup))
end
theorem Inv.one {L : Lay} {T : List Nat} {s : PS} {nl : Nat} (h : Inv L T s) (hu : 1 ≤ s.r.un) (hq : s.q < T.length) (hnl : nl ≤ s.q + 1) : Inv L T { s with r := { s.r with pos := s.r.pos + 1, un := s.r.un - 1 }, nl := nl, q := s.q + 1 } := by
 obtain ⟨small, asc, icap, qlen, nlq, pq, pbl, slack, bl, unl, rp, rl, offl, ip, ipl, eofi, enc, e_⟩ := h
 refine ⟨small, asc, icap, ?_, ?_, ?_, ?_, ?_, bl, ?_, rp, rl, offl, ip, ipl, eofi, enc, ?_⟩ <;> dsimp only <;> try omega
 rcases e_ with e | e
 · exact .inl omT
 · exact .inr ⟨e.1, e.2.1, e.2.2.1, by omega⟩
theorem Rdy.un1 {T : List Nat} {s : PS} {k : Nat} (h : Rdy T s k) (hk : 1 ≤ k) (hq : s.q < T.length) (hun : s.q + s.r.un ≤ s.q + s.r.un := Nat.le_refl _) : 1 ≤ s.r.un := by
 rcases h.un with e | e <;> omega
theorem Rdy.one {T : List Nat} {s : PS} {k nl : Nat} (h : Rdy T s k) (hk : 1 ≤ k) (hq : s.q < T.length) : Rdy T { s with r := { s.r with pos := s.r.pos + 1, un := s.r.un - 1 }, nl := nl, q := s.q + 1 } (k - 1) := by
 have := h.un1 hk hq
 obtain ⟨h1, h2⟩ := h
 refine ⟨by dsimp only; omega, ?_⟩
 rcases h2 with h2 | h2
 · exact .inl (by dsimp only; omega)
 · exact .inr (by dsimp only; omega)
theorem Rdy.lt {T : List Nat} {s : PS} {k : Nat} (h : Rdy T s k) (hk : 1 ≤ k) : s.r.pos < s.r.blen := by have := h.len; omega
theorem Fn.mono {P : Program} {f : Nat} {args : List Value} {H : zl} {R R' : Value → zl → Prop} (h : Fn P f args H R) (k : ∀ v H', R v H' → R' v H') : Fn P f args H R' :=
 fun w hw => (h w hw).mono (by rintro e w' ⟨v, H', h1, h2, h3⟩; exact ⟨v, H', h1, h2, k v H' h3⟩)
theorem Fn.frame {P : Program} {f : Nat} {args : List Value} {H Hf : zl} {R : Value → zl → Prop} (h : Fn P f args H R) : Fn P f args (H ++ Hf) (fun v H' => ∃ H1, R v H1 ∧ H' = H1 ++ Hf) := by
 intro w hw
 refine (h w hw.left).mono ?_
 rintro e w' ⟨v, H', h1, h2, h3⟩
 refine ⟨v, H' ++ Hf, h1, ?_, H', h3, rfl⟩
 have h0 : WOK false w ((H ++ Hf).map (·.1)) (H ++ Hf) w := ⟨hw, Kept.refl _ _, fun x hx => .inl (List.mem_map.2 ⟨x, hx, rfl⟩), fun e => by cases e⟩
 exact h0.call (List.Perm.refl _) h2
theorem as_digit_pf {bb n m sz lo hi i c : Nat} {f : Nat → Value} (h0 : lo ≤ i) (h1 : i < hi) (h2 : i < n) (hc : f i = .int .u8 ((c : Nat) : Int)) (ha : 48 ≤ c) (hb : c < 128) :
  PF prog 192 [.slice (some ⟨bb, 0, none⟩) n m, .int .i64 (i : Int)] [(bb, .win 5 sz lo hi f)] (.int .i64 ((c - 48 : Nat) : Int)) := by
 refine zW func192 rfl rfl rfl ?_
 intro w
 refine gg 10 ?_
 refine zx hc rfl ?_
 refine sqz (qP ⟨_, underlying5⟩ underlying3 rfl omT omT) (ssbc 48 ?_)
 refine gg 4 ?_
 exact zV rfl rfl
theorem b_as_digit {L : Lay} {T : List Nat} {s : PS} (hn : Inv L T s) (hlt : s.r.pos < s.r.blen) (hb : 48 ≤ at_ T s.q) : PF prog 192 [.slice (some ⟨L.bb, 0, none⟩) s.r.blen 1536, .int .i64 (s.r.pos : Int)] [BB L T s] (.int .i64 ((at_ T s.q - 48 : Nat) : Int)) :=
 as_digit_pf (Nat.zero_le _) hlt hlt (bp0 hn.pq) hb (hn.lt128 _)
theorem kS {T : List Nat} {i : Nat} (h : at_ T i ≠ 0) : i < T.length := by
 by_cases hi : i < T.length
 · exact hi
 · exact absurd (qS omT) h
theorem kG (L : Lay) (T : List Nat) (s : PS) (k : Nat) (hn : Inv L T s) (hr : Rdy T s k) (hk : 1 ≤ k) (hq : s.q < T.length) (hlf : at_ T s.q ≠ 10) :
  Fn prog 166 [pV L.p] [PB L T s, BB L T s, RB L T s] (fun v H' => v = .tuple #[] ∧ ∃ r nl, Inv L T { s with r := r, nl := nl, q := s.q + 1 } ∧ Rdy T { s with r := r, nl := nl, q := s.q + 1 } (k - 1) ∧
   H' = [PB L T { s with r := r, nl := nl, q := s.q + 1 }, BB L T { s with r := r, nl := nl, q := s.q + 1 }, RB L T { s with r := r, nl := nl, q := s.q + 1 }]) := by
 have hu := hr.un1 hk hq
 have := (skip_ok L T s hn (hr.lt hk) hu hlf).frame (Hf := [RB L T s])
 refine this.mono ?_
 rintro v H' ⟨H1, ⟨rfl, rfl⟩, rfl⟩
 exact ⟨rfl, s.r.step, if kj (at_ T s.q) then s.nl else 0, hn.one hu hq (by have := hn.nlq; split <;> omega), hr.one hk hq, rfl⟩
theorem qG (L : Lay) (T : List Nat) (s : PS) (k : Nat) (hn : Inv L T s) (hr : Rdy T s k) (hk : 1 ≤ k) (hq : s.q < T.length) (hlf : at_ T s.q = 10) :
  Fn prog 169 [pV L.p] [PB L T s, BB L T s, RB L T s] (fun v H' => v = .tuple #[] ∧ ∃ r nl, Inv L T { s with r := r, nl := nl, q := s.q + 1 } ∧ Rdy T { s with r := r, nl := nl, q := s.q + 1 } (k - 1) ∧
   H' = [PB L T { s with r := r, nl := nl, q := s.q + 1 }, BB L T { s with r := r, nl := nl, q := s.q + 1 }, RB L T { s with r := r, nl := nl, q := s.q + 1 }]) := by
 have hu := hr.un1 hk hq
 have := (skip_line_ok L T s hn (hr.lt hk) hu hlf).frame (Hf := [RB L T s])
 refine this.mono ?_
 rintro v H' ⟨H1, ⟨rfl, rfl⟩, rfl⟩
 exact ⟨rfl, s.r.step, s.nl + 1, hn.one hu hq (by have := hn.nlq; omega), hr.one hk hq, rfl⟩
theorem exT {p : Prop} (h : p := by repeat (first | exact Ext.refl _ | refine Ext.cons rfl ?_)) : p := h
theorem kH {P : Program} {n : Nat} {ds : List Deferred} {pu : Bool} {w0 : World} {D : List Nat} {H : zl} {E : Env} {ops : Array Oper} {Q' : Act → World → Prop} {rest : List Oper} (E' : Env) (hs : Sub E E') (h : DQ P n ds pu w0 D ops Q' H E' rest) : DQ P n ds pu w0 D ops Q' H E rest :=
 fun a w he hw => h a w (he.sub hs) hw
def kA (T : List Nat) (a b : Nat) : List Nat := (List.range' a (b - a)).map (at_ T)
@[simp] theorem cutT_length (T : List Nat) (a b : Nat) : (kA T a b).length = b - a := by simp [kA]
theorem cutT_succ (T : List Nat) {a b : Nat} (h : a ≤ b) : kA T a (b + 1) = kA T a b ++ [at_ T b] := by
 unfold kA
 rw [show b + 1 - a = (b - a) + 1 by omega, List.range'_concat]
 simp only [List.map_append, List.map_cons, List.map_nil]
 rw [show a + 1 * (b - a) = b by omega]
theorem cutT_one (T : List Nat) (a : Nat) : kA T a (a + 1) = [at_ T a] := by simp [kA]
theorem read_go (L : Lay) (T : List Nat) (s : PS) (k : Nat) (X : List Nat) (b cap : Nat) (hX : 0 < X.length) (hc : X.length ≤ cap) (hcap : cap ≤ 9223372036854775807) (hXs : X.length ≤ 1000000000)
   (hn : Inv L T s) (hr : Rdy T s k) (hk : 1 ≤ k) (hq : s.q < T.length) (hlf : at_ T s.q ≠ 10) :
   Fn prog 173 [pV L.p, .slice (some ⟨b, 0, none⟩) X.length cap] [PB L T s, BB L T s, RB L T s, (b, .buf 5 cap (bytes X))]
    (fun v H' => ∃ r nl b' cap', Inv L T { s with r := r, nl := nl, q := s.q + 1 } ∧ Rdy T { s with r := r, nl := nl, q := s.q + 1 } (k - 1) ∧ X.length + 1 ≤ cap' ∧ cap' ≤ 9223372036854775807 ∧ v = .slice (some ⟨b', 0, none⟩) (X.length + 1) cap' ∧
     H' = [PB L T { s with r := r, nl := nl, q := s.q + 1 }, BB L T { s with r := r, nl := nl, q := s.q + 1 }, RB L T { s with r := r, nl := nl, q := s.q + 1 }, (b', .buf 5 cap' (bytes (X ++ [at_ T s.q])))]) := by
 have hu := hr.un1 hk hq
 have h := (read_more L T s X b cap hX hc hcap hXs hn (hr.lt hk) hu hlf).frame (Hf := [RB L T s])
 intro w hw
 have hp : ([PB L T s, BB L T s, RB L T s, (b, Blk.buf 5 cap (bytes X))] : zl).Perm ([PB L T s, BB L T s, (b, Blk.buf 5 cap (bytes X))] ++ [RB L T s]) :=
   .cons _ (.cons _ (.swap _ _ _))
 refine (h w (hw.perm hp)).mono ?_
 rintro e w' ⟨v, H', h1, h2, H1, ⟨b', cap', c1, c2, rfl, rfl⟩, rfl⟩
 refine ⟨_, [PB L T (s.read T), BB L T (s.read T), RB L T (s.read T), (b', .buf 5 cap' (bytes (X ++ [at_ T s.q])))], h1, ?_, _, _, b', cap', hn.one hu hq (by have := hn.nlq; split <;> omega), hr.one hk hq, c1, c2, rfl, rfl⟩
 have hD : ∀ x, x ∈ ([PB L T s, BB L T s, (b, Blk.buf 5 cap (bytes X))] ++ [RB L T s] : zl).map (·.1) ↔ x ∈ ([PB L T s, BB L T s, RB L T s, (b, Blk.buf 5 cap (bytes X))] : zl).map (·.1) := fun x => (hp.map (·.1)).symm.mem_iff
 have hp2 : ([PB L T (s.read T), BB L T (s.read T), (b', Blk.buf 5 cap' (bytes (X ++ [at_ T s.q])))] ++ [RB L T s] : zl).Perm [PB L T (s.read T), BB L T (s.read T), RB L T (s.read T), (b', .buf 5 cap' (bytes (X ++ [at_ T s.q])))] :=
   .cons _ (.cons _ (.swap _ _ _))
 refine ⟨h2.hok.perm hp2, ⟨h2.kept.os, h2.kept.tape, h2.kept.output, h2.kept.size, fun x hx hd => h2.kept.block x hx (fun hm => hd ((hD x).1 hm))⟩, fun x hx => ?_, fun e => by cases e⟩
 rcases h2.own x (hp2.mem_iff.2 hx) with h3 | h3
 · exact .inl ((hD _).1 h3)
 · exact .inr h3
theorem read_go0 (L : Lay) (T : List Nat) (s : PS) (k : Nat) (u : Option Addr) (c0 : Nat) (hn : Inv L T s) (hr : Rdy T s k) (hk : 1 ≤ k) (hq : s.q < T.length) (hlf : at_ T s.q ≠ 10) :
  Fn prog 173 [pV L.p, .slice u 0 c0] [PB L T s, BB L T s, RB L T s]
   (fun v H' => ∃ r nl b', Inv L T { s with r := r, nl := nl, q := s.q + 1 } ∧ Rdy T { s with r := r, nl := nl, q := s.q + 1 } (k - 1) ∧ v = .slice (some ⟨b', 0, none⟩) 1 32 ∧
    H' = [PB L T { s with r := r, nl := nl, q := s.q + 1 }, BB L T { s with r := r, nl := nl, q := s.q + 1 }, (b', .buf 5 32 (bytes [at_ T s.q])), RB L T { s with r := r, nl := nl, q := s.q + 1 }]) := by
 have hu := hr.un1 hk hq
 have h := (read_first L T s u c0 hn (hr.lt hk) hu hlf).frame (Hf := [RB L T s])
 refine h.mono ?_
 rintro v H' ⟨H1, ⟨b, rfl, rfl⟩, rfl⟩
 exact ⟨_, _, b, hn.one hu hq (by have := hn.nlq; split <;> omega), hr.one hk hq, rfl, rfl⟩
theorem read_cut (L : Lay) (T : List Nat) (s : PS) (k q0 b cap : Nat) (h0 : q0 < s.q) (hc : s.q - q0 ≤ cap) (hcap : cap ≤ 9223372036854775807)
  (hn : Inv L T s) (hr : Rdy T s k) (hk : 1 ≤ k) (hq : s.q < T.length) (hlf : at_ T s.q ≠ 10) :
  Fn prog 173 [pV L.p, .slice (some ⟨b, 0, none⟩) (s.q - q0) cap] [PB L T s, BB L T s, RB L T s, (b, .buf 5 cap (bytes (kA T q0 s.q)))]
   (fun v H' => ∃ r nl b' cap', Inv L T { s with r := r, nl := nl, q := s.q + 1 } ∧ Rdy T { s with r := r, nl := nl, q := s.q + 1 } (k - 1) ∧ s.q + 1 - q0 ≤ cap' ∧ cap' ≤ 9223372036854775807 ∧ v = .slice (some ⟨b', 0, none⟩) (s.q + 1 - q0) cap' ∧
    H' = [PB L T { s with r := r, nl := nl, q := s.q + 1 }, BB L T { s with r := r, nl := nl, q := s.q + 1 }, RB L T { s with r := r, nl := nl, q := s.q + 1 }, (b', .buf 5 cap' (bytes (kA T q0 (s.q + 1))))]) := by
 have hsm := hn.small
 have h := read_go L T s k (kA T q0 s.q) b cap (by simp; omega) (by simpa using hc) hcap (by simp; omega) hn hr hk hq hlf
 rw [cutT_length, ← cutT_succ T omT, show s.q - q0 + 1 = s.q + 1 - q0 by omega] at h
 exact h
theorem read_cut0 (L : Lay) (T : List Nat) (s : PS) (k : Nat) (u : Option Addr) (c0 : Nat) (hn : Inv L T s) (hr : Rdy T s k) (hk : 1 ≤ k) (hq : s.q < T.length) (hlf : at_ T s.q ≠ 10) :
  Fn prog 173 [pV L.p, .slice u 0 c0] [PB L T s, BB L T s, RB L T s]
   (fun v H' => ∃ r nl b', Inv L T { s with r := r, nl := nl, q := s.q + 1 } ∧ Rdy T { s with r := r, nl := nl, q := s.q + 1 } (k - 1) ∧ v = .slice (some ⟨b', 0, none⟩) (s.q + 1 - s.q) 32 ∧
    H' = [PB L T { s with r := r, nl := nl, q := s.q + 1 }, BB L T { s with r := r, nl := nl, q := s.q + 1 }, (b', .buf 5 32 (bytes (kA T s.q (s.q + 1)))), RB L T { s with r := r, nl := nl, q := s.q + 1 }]) := by
 have h := read_go0 L T s k u c0 hn hr hk hq hlf
 rw [show s.q + 1 - s.q = 1 by omega, cutT_one]
 exact h
abbrev TXH (T : List Nat) (q0 q : Nat) : Option (Nat × Nat) → zl
 | none => []
 | some (b, cap) => [(b, .buf 5 cap (bytes (kA T q0 q)))]
abbrev TXV (q0 q : Nat) : Option (Nat × Nat) → Value
 | none => zS
 | some (b, cap) => .slice (some ⟨b, 0, none⟩) (q - q0) cap
def TXP (q0 q : Nat) : Option (Nat × Nat) → Prop
 | none => q = q0
 | some (_, cap) => q0 < q ∧ q - q0 ≤ cap ∧ cap ≤ 9223372036854775807
theorem src_buf {H : zl} {b t m : Nat} {l : List Value} [hh : Has H b (.buf t m l)] : Src H b 0 l :=
 zN (Nat.zero_le _) (by simp [Blk.known]) (by intro j u h; simpa [Blk.cell, nth] using h)
theorem cutT_lt {T : List Nat} {a b : Nat} (h : ∀ i, at_ T i < 128) : ∀ c ∈ kA T a b, c < 256 := by
 intro c hc
 obtain ⟨i, _, rfl⟩ := List.mem_map.1 hc
 have := h i
 omega
theorem wv {c : Nat} (h : zC c = true) : c ≠ 0 ∧ c ≠ 10 := by simp [zC] at h; omega
theorem blankz_alpha {c : Nat} (h : zK c = true) : zC c = false := by simp [zC, zK] at *; omega
theorem Rdy.zero {L : Lay} {T : List Nat} {s : PS} (h : Inv L T s) : Rdy T s 0 := ⟨by have := h.pbl; omega, .inl (Nat.zero_le _)⟩
section
variable {P : Program} {n : Nat} {ds : List Deferred} {pu : Bool} {w0 : World} {D : List Nat} {H : zl} {E : Env}
variable {d : Option Nat} {ty : TypeId} {ps : String} {af : Array Edge} {g : Option (Nat × Bool)} {x y : Operand}
theorem q_shl4 {t t2 : TypeId} {p : Nat} {k2 : IntKind} (hx : opv E x = some (.int .i64 (p : Int))) (hy : opv E y = some (.int k2 4)) (h1 : p ≤ 500000000000000000) :
  Q1 P n ds pu w0 D H E ⟨d, .binOp .shl t x y t2, ty, ps, af, g⟩ (.int .i64 ((p * 16 : Nat) : Int)) := by
 intro a w he _
 have hw : IntKind.i64.wrap ((p : Int) * 16) = (p : Int) * 16 := IntWalk.i64_in _ ⟨by omega, by omega⟩
 simp [execOp, he.eval hx, he.eval hy, eqGuard, binOp, Op.shift, IntKind.bits, hw]
end
theorem hexB_cases {c : Nat} (h : hexB c = true) : (48 ≤ c ∧ c ≤ 57) ∨ (65 ≤ c ∧ c ≤ 70) ∨ (97 ≤ c ∧ c ≤ 102) := by
 simpa [hexB] using h
def hexD (c : Nat) : Nat := if c ≤ 57 then c - 48 else if c ≤ 70 then c - 65 + 10 else c - 97 + 10
theorem hexD_lt {c : Nat} (h : hexB c = true) : hexD c < 16 := by
 have := hexB_cases h
 unfold hexD
 split
 · omega
 · split <;> omega
theorem as_hex_pf {bb n m sz lo hi i c : Nat} {f : Nat → Value} (h0 : lo ≤ i) (h1 : i < hi) (h2 : i < n) (hc : f i = .int .u8 ((c : Nat) : Int)) (hx : hexB c = true) :
   PF prog 196 [.slice (some ⟨bb, 0, none⟩) n m, .int .i64 (i : Int)] [(bb, .win 5 sz lo hi f)] (.int .i64 ((hexD c : Nat) : Int)) := by
 rcases hexB_cases hx with h | h | h
 · rw [show hexD c = c - 48 by unfold hexD; rw [if_pos h.2]]
   refine zW func196 rfl rfl rfl ?_
   intro w
   refine zd ?_
   refine zi ?_
   refine sas ?_
   refine ze ?_
   refine zf ?_
   refine zd ?_
   refine zi ?_
   refine smv ?_
   refine smv ?_
   refine six ?_
   refine zx hc rfl ?_
   refine sas ?_
   refine ze ?_
   refine zf ?_
   refine zd ?_
   refine zd ?_
   refine zi ?_
   refine smv ?_
   refine sge0 ?_
   refine smv ?_
   first | refine ka 2 rfl ?_ | iterate 2 refine sun ?_
   refine spf ?_
   refine ze ?_
   refine zf ?_
   refine ev_cond0 rfl ?_
   refine kQ ?_
   refine zf ?_
   refine zd ?_
   refine zd ?_
   refine zi ?_
   refine smv ?_
   refine sge0 ?_
   refine smv ?_
   first | refine ka 2 rfl ?_ | iterate 2 refine sun ?_
   refine spf ?_
   refine ze ?_
   refine zf ?_
   refine ev_cond0 rfl ?_
   refine kQ ?_
   refine zf ?_
   refine zd ?_
   refine zi ?_
   refine smv ?_
   refine sqz (qP ⟨_, underlying5⟩ underlying3 rfl omT omT) ?_
   refine ssbc 48 ?_
   refine sas ?_
   refine ze ?_
   refine zf ?_
   refine km ?_
   exact zV rfl rfl
 · rw [show hexD c = c - 65 + 10 by unfold hexD; rw [if_neg omT, if_pos h.2]]
   refine zW func196 rfl rfl rfl ?_
   intro w
   refine zd ?_
   refine zi ?_
   refine sas ?_
   refine ze ?_
   refine zf ?_
   refine zd ?_
   refine zi ?_
   refine smv ?_
   refine smv ?_
   refine six ?_
   refine zx hc rfl ?_
   refine sas ?_
   refine ze ?_
   refine zf ?_
   refine zd ?_
   refine zd ?_
   refine zi ?_
   refine smv ?_
   refine sge1 ?_
   refine smv ?_
   refine smv ?_
   refine sle1 ?_
   refine spt ?_
   refine ze ?_
   refine zf ?_
   refine ev_cond1 rfl ?_
   refine zd ?_
   refine zi ?_
   refine smv ?_
   refine sqz (qP ⟨_, underlying5⟩ underlying3 rfl omT omT) ?_
   refine ssbc 65 ?_
   refine sadc 10 ?_
   refine sas ?_
   refine ze ?_
   refine zf ?_
   refine km ?_
   refine lf_seqr ?_
   exact zV rfl rfl
 · rw [show hexD c = c - 97 + 10 by unfold hexD; rw [if_neg omT, if_neg omT]]
   refine zW func196 rfl rfl rfl ?_
   intro w
   refine zd ?_
   refine zi ?_
   refine sas ?_
   refine ze ?_
   refine zf ?_
   refine zd ?_
   refine zi ?_
   refine smv ?_
   refine smv ?_
   refine six ?_
   refine zx hc rfl ?_
   refine sas ?_
   refine ze ?_
   refine zf ?_
   refine zd ?_
   refine zd ?_
   refine zi ?_
   refine smv ?_
   refine sge1 ?_
   refine smv ?_
   refine smv ?_
   refine sle0 ?_
   refine spt ?_
   refine ze ?_
   refine zf ?_
   refine ev_cond0 rfl ?_
   refine kQ ?_
   refine zf ?_
   refine zd ?_
   refine zd ?_
   refine zi ?_
   refine smv ?_
   refine sge1 ?_
   refine smv ?_
   refine smv ?_
   refine sle1 ?_
   refine spt ?_
   refine ze ?_
   refine zf ?_
   refine ev_cond1 rfl ?_
   refine zd ?_
   refine zi ?_
   refine smv ?_
   refine sqz (qP ⟨_, underlying5⟩ underlying3 rfl omT omT) ?_
   refine ssbc 97 ?_
   refine sadc 10 ?_
   refine sas ?_
   refine ze ?_
   refine zf ?_
   refine km ?_
   refine lf_seqr ?_
   exact zV rfl rfl
theorem k_as_hex {L : Lay} {T : List Nat} {s : PS} {j c : Nat} (hn : Inv L T s) (hlt : s.r.pos + j < s.r.blen) (hb : hexB (at_ T (s.q + j)) = true) (hc : hexD (at_ T (s.q + j)) = c) : PF prog 196 [.slice (some ⟨L.bb, 0, none⟩) s.r.blen 1536, .int .i64 ((s.r.pos + j : Nat) : Int)] [BB L T s] (.int .i64 ((c : Nat) : Int)) :=
 hc ▸ as_hex_pf (Nat.zero_le _) hlt hlt (bpk hn.pq) hb
end Go.Proofs.YtnfbcfflkphbiaaGreatDoor
