/-
  Texts of the proof, joined: F31. No Go text.
-/
import Derived.Test.YtnfbcfflkphbiaaGreatDoorA01
import Derived.Test.YtnfbcfflkphbiaaGreatDoorA08
import Derived.Test.YtnfbcfflkphbiaaGreatDoorA17
import Derived.Test.YtnfbcfflkphbiaaGreatDoorA18
namespace Go.Proofs.YtnfbcfflkphbiaaGreatDoor
open Go Go.Proofs Tryz
set_option linter.all false
set_option maxRecDepth 100000
set_option maxHeartbeats 8000000
theorem ffs_ok (L : Lay) (T : List Nat) (X : SS) (e k0 : Nat) (v0 : List Nat) (he : Eof L) (hi : SI L T X) (hr0 : Rdy T (zc X) k0) (hk0 : 1 ≤ k0) (h34 : at_ T X.q = 34) (hv0 : v0 ≠ []) (hlen : v0.length ≤ 1000) (hd : DQT T (X.q + 1) v0 e) (hln : X.tl.length < 1000000) :
  Fn prog 158 [pV L.p, .bool false] (SH L T X)
   (fun v H' => v = .bool true ∧ ∃ X' b c, H' = SH L T X' ∧ Fet L T X X' (tvSc X.q (e + 1) b v0.length c 8) ∧ X'.q = e + 1 ∧ VE b c v0 ∈ X'.V ∧ v0.length ≤ c ∧ c ≤ 9223372036854775807) := by
 have htlc := hi.tlc
 have hle := hd.le
 refine zo func158 rfl rfl rfl ?_
 intro w
 refine gg 9 ?_
 refine za rfl rfl rfl (ssk_ok L T X hi.skc.1 hi.thl omT) ?_
 rintro _ _ ⟨rfl, rfl⟩
 refine lS ?_
 refine gg 15 ?_
 refine zA L.p (.cs 75 (qp L T (zc { X with ska := false, pf := false })) []) (Blk.like_rec kR) ?_
 have hi2 : SI L T { X with ska := false, pf := false } := hi.flag
 have hr2 : Rdy T (zc { X with ska := false, pf := false }) k0 := ⟨hr0.len, hr0.un⟩
 refine zi (zk rfl rfl clT ?_)
 intro kb
 refine gg 4 ?_
 refine zA kb (.cs 163 qx []) (Blk.like_rec kR) (gg 3 ?_)
 refine za rfl rfl rfl (sfs_ok L T { X with ska := false, pf := false } kb e k0 v0 he hi2 hr2 hk0 h34 hv0 hlen hd) ?_
 rintro _ _ ⟨rfl, r2, nl2, b1, c1, hn2, k1, k2, rfl⟩
 refine lS ?_
 refine gg 7 ?_
 refine zA kb (.cs 163 (tvC T (tvSc X.q (e + 1) b1 v0.length c1 8)) []) (fun o h => h) ?_
 have hi3 : SI L T { X with r := r2, nl := nl2, q := e + 1, ska := false, pf := false } := (hi2.move hn2 omT).flag
 refine zA L.p (.cs 75 (qp L T (zc { X with r := r2, nl := nl2, q := e + 1, ska := false, pf := false })) []) (fun o h => h) ?_
 refine zi (smv ?_)
 refine za rfl rfl rfl (ins_ok L T { X with r := r2, nl := nl2, q := e + 1, ska := false, pf := false } kb (tvSc X.q (e + 1) b1 v0.length c1 8) hi.tlc hi.tkc hi.thl hln) ?_
 rintro _ _ ⟨rfl, tkb2, tkc2, tl2, th2, g1, g2, g3, g4, g5, g6, g7, g8, rfl⟩
 refine lS ?_
 refine gg 8 ?_
 exact zm rfl rfl (Wk.trans (Wk.pushV (b := b1)) (Wk.toT (CH T X.J X.C ++ XH (VE b1 c1 v0 :: X.V) X.J) [L.p, L.bb, L.rb, L.ib, 0, tkb2, X.skb, X.mpb] wlT)) ⟨rfl, { X with r := r2, nl := nl2, q := e + 1, ska := false, pf := false, tkb := tkb2, tkc := tkc2, tl := tl2, th := th2, V := VE b1 c1 v0 :: X.V }, b1, c1, rfl, ⟨(hi3.ins g2 g3 g4 g5).vs, g1, g2, g7, g8, JLe.refl _, fun _ h => List.mem_cons_of_mem _ h, rfl, rfl, rfl, rfl, rfl, rfl, rfl, rfl, rfl, rfl⟩, rfl, List.mem_cons_self, k1, k2⟩
end Go.Proofs.YtnfbcfflkphbiaaGreatDoor
