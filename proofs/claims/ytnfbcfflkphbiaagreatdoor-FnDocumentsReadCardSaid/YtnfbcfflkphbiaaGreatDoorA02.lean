/-
  Texts of the proof, joined: E2 E3 E4 E5. No Go text.
-/
import Derived.Test.YtnfbcfflkphbiaaGreatDoorA01
import Derived.Laws.CopyOwn
namespace Go.Proofs.YtnfbcfflkphbiaaGreatDoor
open Go Go.Proofs
set_option linter.all false
set_option maxRecDepth 100000
set_option maxHeartbeats 8000000
section
variable {P : Program} {n : Nat} {ds : List Deferred} {pu : Bool} {w0 : World} {D : List Nat} {H H' : zl} {E : Env} {ops : Array Oper} {Q : Exit → Act → World → Prop} {Q' K : Act → World → Prop} {rest : List Oper} {v : Value}
variable {d : Option Nat} {ty : TypeId} {ps : String} {af : Array Edge} {g : Option (Nat × Bool)} {x y : Operand}
theorem beqf {i j : Nat} (h : i ≠ j) : Nat.beq i j = false := by
 cases hb : Nat.beq i j
 · rfl
 · exact absurd (Nat.eq_of_beq_eq_true hb) h
theorem kZ {l r : zl} {b : Nat} {k k' : Blk} (hnd : ((l ++ (b, k) :: r).map (·.1)).Nodup) (hm : (b, k') ∈ l ++ (b, k) :: r) : k' = k := by
 rw [List.map_append, List.nodup_append] at hnd
 simp only [List.map_cons, List.nodup_cons] at hnd
 rcases List.mem_append.1 hm with hm | hm
 · exact absurd rfl (hnd.2.2 b (List.mem_map.2 ⟨_, hm, rfl⟩) b (by simp))
 · rcases List.mem_cons.1 hm with hm | hm
   · exact (Prod.mk.inj hm).2
   · exact absurd (List.mem_map.2 ⟨_, hm, rfl⟩) hnd.2.1.1
theorem wj {w : World} {t b i : Nat} {u : Value} [hs : qi P t 1] (hv : v.oneCell' = true) (hc : w.cell? ⟨b, i, none⟩ = some u) (hf : w.frozen? ⟨b, i, none⟩ = false) :
  (storeVar t ⟨b, i, none⟩ v).run P w = .ok () (w.setCell ⟨b, i, none⟩ v) := by
 have hcs : v.cells = #[v] := by cases v <;> first | rfl | (simp [Value.oneCell'] at hv)
 simp [storeVar, run_size, hcs, storeCells, kN, run_store P w _ v _ hv, hc, hf]
theorem l_store {t b i lt : Nat} {ll : List Value} {ov : List (Nat × Value)} [qi P t 1] (hx : opv E x = some (.pointer (some ⟨b, i, none⟩))) (hy : opv E y = some v) (hv : v.oneCell' = true)
   [hh : Has H b (.cs lt ll ov)] (hi : Nat.blt i ll.length = true) [hu : Upd H b (.cs lt ll ((i, v) :: ov)) H'] : L1 P n ds false w0 D H E ⟨d, .store t x y, ty, ps, af, g⟩ undef H' := by
 intro a w he hw
 obtain ⟨l, k0, r, rfl, rfl⟩ := hu.is
 have hk := kZ hw.hok.nodup hh.mem
 subst hk
 have hi' : i < ll.length := Nat.le_of_ble_eq_true hi
 obtain ⟨u, hc⟩ := hw.hok.there hh.mem (i := i) hi'
 have hf := hw.hok.frozen hh.mem (Nat.lt_of_le_of_lt (Nat.zero_le _) hi') rfl i
 refine ⟨w.setCell ⟨b, i, none⟩ v, .inr ⟨?_, rfl⟩, hw.set (v := v) (i := i) hi' rfl rfl rfl rfl (Nat.le_refl _) (fun _ _ => ?_) ?_⟩
 · simp [execOp, he.eval hx, he.eval hy, Instr.storeAt, Instr.sureAddr, wj hv hc hf]
 · simp [Blk.cell, look]
 · intro j h0 hj hji
   refine ⟨h0, hj, ?_⟩
   simp only [Blk.cell, look]
   rw [show Nat.beq i j = false from beqf (fun e => hji e.symm)]
theorem l_storer {t b i lt m : Nat} {f : Nat → Value} [qi P t 1] (hx : opv E x = some (.pointer (some ⟨b, i, none⟩))) (hy : opv E y = some v) (hv : v.oneCell' = true)
   [hh : Has H b (.row lt (0, 0) m f)] (hi : i < m) [hu : Upd H b (.row lt (0, 0) m (fun j => if j = i then v else f j)) H'] : L1 P n ds false w0 D H E ⟨d, .store t x y, ty, ps, af, g⟩ undef H' := by
 intro a w he hw
 obtain ⟨l, k0, r, rfl, rfl⟩ := hu.is
 have hk := kZ hw.hok.nodup hh.mem
 subst hk
 have hc := hw.hok.cell hh.mem (i := i) (Nat.zero_le _) hi
 have hf := hw.hok.frozen hh.mem (Nat.lt_of_le_of_lt (Nat.zero_le _) hi) rfl i
 refine ⟨w.setCell ⟨b, i, none⟩ v, .inr ⟨?_, rfl⟩, hw.set (v := v) (i := i) hi rfl rfl rfl rfl (Nat.le_refl _) (fun _ _ => ?_) ?_⟩
 · simp [execOp, he.eval hx, he.eval hy, Instr.storeAt, Instr.sureAddr, wj hv hc hf]
 · simp [Blk.cell]
 · intro j h0 hj hji
   exact ⟨h0, hj, by simp [Blk.cell, hji]⟩
theorem l_storeb {t b i lt m : Nat} {l : List Value} [qi P t 1] (hx : opv E x = some (.pointer (some ⟨b, i, none⟩))) (hy : opv E y = some v) (hv : v.oneCell' = true)
   [hh : Has H b (.buf lt m l)] (hi : i < m) (hl : l.length = i) [hu : Upd H b (.buf lt m (l ++ [v])) H'] : L1 P n ds false w0 D H E ⟨d, .store t x y, ty, ps, af, g⟩ undef H' := by
 intro a w he hw
 obtain ⟨l', k0, r, rfl, rfl⟩ := hu.is
 have hk := kZ hw.hok.nodup hh.mem
 subst hk
 obtain ⟨u, hc⟩ := hw.hok.there hh.mem (i := i) hi
 have hf := hw.hok.frozen hh.mem (Nat.lt_of_le_of_lt (Nat.zero_le _) hi) rfl i
 refine ⟨w.setCell ⟨b, i, none⟩ v, .inr ⟨?_, rfl⟩, hw.set (v := v) (i := i) hi rfl rfl rfl rfl (by simp only [Blk.known, Blk.len, List.length_append, List.length_singleton]; omega) (fun _ _ => ?_) ?_⟩
 · simp [execOp, he.eval hx, he.eval hy, Instr.storeAt, Instr.sureAddr, wj hv hc hf]
 · simp [Blk.cell, nth, ← hl]
 · intro j _ hj hji
   simp only [Blk.known, List.length_append, List.length_singleton] at hj
   refine ⟨Nat.zero_le _, by simp only [Blk.known]; omega, ?_⟩
   simp only [Blk.cell, nth]
   rw [List.getElem?_append_left omT]
def ovs : Nat → List Value → List (Nat × Value) → List (Nat × Value)
 | _, [], ov => ov
 | i, v :: r, ov => ovs (i + 1) r ((i, v) :: ov)
theorem wy {lt b : Nat} {ll : List Value} {l r : zl} {o : Nat} : ∀ (vs : List Value) (j : Nat) (ov : List (Nat × Value)) (w : World), WOK false w0 D (l ++ (b, .cs lt ll ov) :: r) w →
  (∀ v ∈ vs, v.oneCell' = true) → o + j + vs.length ≤ ll.length → ∃ w', (storeCells ⟨b, o, none⟩ vs j).run P w = .ok () w' ∧ WOK false w0 D (l ++ (b, .cs lt ll (ovs (o + j) vs ov)) :: r) w'
 | [], j, ov, w, hw, _, _ => ⟨w, rfl, hw⟩
 | v :: vs, j, ov, w, hw, h1, hl => by
  simp only [List.length_cons] at hl
  have hi' : o + j < ll.length := by omega
  have hm : (b, Blk.cs lt ll ov) ∈ l ++ (b, .cs lt ll ov) :: r := by simp
  obtain ⟨u, hc⟩ := hw.hok.there hm (i := o + j) hi'
  have hf := hw.hok.frozen hm (Nat.lt_of_le_of_lt (Nat.zero_le _) hi') rfl (o + j)
  have hw' : WOK false w0 D (l ++ (b, .cs lt ll ((o + j, v) :: ov)) :: r) (w.setCell ⟨b, o + j, none⟩ v) := by
   refine hw.set (v := v) (i := o + j) hi' rfl rfl rfl rfl (Nat.le_refl _) (fun _ _ => by simp [Blk.cell, look]) ?_
   intro k h0 hkl hk
   refine ⟨h0, hkl, ?_⟩
   simp only [Blk.cell, look]
   rw [show Nat.beq (o + j) k = false from beqf (fun e => hk e.symm)]
  obtain ⟨w2, h2, h3⟩ := wy (o := o) vs (j + 1) ((o + j, v) :: ov) _ hw' (fun u hu => h1 u (List.mem_cons_of_mem _ hu)) omT
  refine ⟨w2, ?_, by simpa [ovs, Nat.add_assoc] using h3⟩
  simp only [storeCells, Sem.run_bind, kN, run_store P w _ v _ (h1 v (List.mem_cons_self ..)), hc, hf]
  simpa using h2
def allOne : List Value → Bool
 | [] => true
 | v :: r => match v.oneCell' with | true => allOne r | false => false
theorem kK : ∀ {l : List Value}, allOne l = true → ∀ v ∈ l, v.oneCell' = true
 | [], _, v, hv => by cases hv
 | u :: r, h, v, hv => by
  simp only [allOne] at h
  split at h
  · rename_i hu
    rcases List.mem_cons.1 hv with rfl | hv
    · exact hu
    · exact kK h v hv
  · cases h
theorem l_stores {t b i m lt : Nat} {ll vs : List Value} {ov : List (Nat × Value)} [hs : qi P t m] (hx : opv E x = some (.pointer (some ⟨b, i, none⟩))) (hy : opv E y = some (.agg vs.toArray)) (hv : allOne vs = true)
  [hh : Has H b (.cs lt ll ov)] (hm : vs.length = m) (hi : Nat.ble (i + m) ll.length = true) [hu : Upd H b (.cs lt ll (ovs i vs ov)) H'] : L1 P n ds false w0 D H E ⟨d, .store t x y, ty, ps, af, g⟩ undef H' := by
 intro a w he hw
 obtain ⟨l, k0, r, rfl, rfl⟩ := hu.is
 have hk := kZ hw.hok.nodup hh.mem
 subst hk
 have hi' : i + m ≤ ll.length := Nat.le_of_ble_eq_true hi
 obtain ⟨w', h1, h2⟩ := wy (P := P) vs 0 ov w hw (kK hv) omT (o := i)
 refine ⟨w', .inr ⟨?_, rfl⟩, by simpa using h2⟩
 simp [execOp, he.eval hx, he.eval hy, Instr.storeAt, Instr.sureAddr, storeVar, run_size, Value.cells, hm, h1]
theorem ovs_look : ∀ (vs : List Value) (i : Nat) (ov : List (Nat × Value)) (k : Nat), look k (ovs i vs ov) = if i ≤ k ∧ k < i + vs.length then vs[k - i]? else look k ov
 | [], i, ov, k => by
  rw [if_neg (by simp)]
  rfl
 | v :: r, i, ov, k => by
  rw [ovs, ovs_look r (i + 1)]
  simp only [List.length_cons]
  by_cases h1 : i = k
  · subst h1
    rw [if_neg omT, if_pos omT]
    simp [look]
  · by_cases h2 : i + 1 ≤ k ∧ k < i + 1 + r.length
    · rw [if_pos h2, if_pos omT, show k - i = (k - (i + 1)) + 1 by omega, List.getElem?_cons_succ]
    · rw [if_neg h2, if_neg omT]
      simp only [look]
      rw [show Nat.beq i k = false from beqf h1]
theorem l_storew {t b m lt : Nat} {ll vs : List Value} {ov : List (Nat × Value)} [hs : qi P t m] (hx : opv E x = some (pV b)) (hy : opv E y = some (.agg vs.toArray)) (hv : allOne vs = true)
   [hh : Has H b (.cs lt ll ov)] (hm : vs.length = m) (hi : ll.length = m) [hu : Upd H b (.cs lt vs []) H'] : L1 P n ds false w0 D H E ⟨d, .store t x y, ty, ps, af, g⟩ undef H' := by
 intro a w he hw
 obtain ⟨l, k0, r, rfl, rfl⟩ := hu.is
 have hk := kZ hw.hok.nodup hh.mem
 subst hk
 obtain ⟨w', h1, h2⟩ := wy (P := P) vs 0 ov w hw (kK hv) omT (o := 0)
 refine ⟨w', .inr ⟨?_, rfl⟩, h2.like (Blk.likeS ⟨rfl, rfl, rfl, rfl, by simp only [Blk.len]; omega, Nat.le_refl _, fun i _ hi' => ?_⟩)⟩
 · simp [execOp, he.eval hx, he.eval hy, Instr.storeAt, Instr.sureAddr, storeVar, run_size, Value.cells, hm, h1]
 · have hlt : i < vs.length := by simp only [Blk.known] at hi'; omega
   refine ⟨Nat.zero_le _, by simp only [Blk.known]; omega, ?_⟩
   simp only [Blk.cell, look, nth]
   rw [ovs_look, if_pos omT]
   simp [hlt]
theorem ok_cs (t : TypeId) (l : List Value) : (Blk.cs t l []).ok (.cells l.toArray t (0, 0)) := Blk.ok.mk (b := .cs t l []) rfl (by simp [Blk.len]) (Nat.le_refl _) fun i _ _ => by simp [Blk.cell, look, nth]
theorem s_alloc {t dd : Nat} {z : Value} [hz : kI P t z] (hg : gd ops E g = some true) (hd : Nat.blt dd n = true)
  (h : ∀ b, SQ P n ds false w0 D ops Q K ((b, .cs t z.cells.toList []) :: H) ((dd, pV b) :: E) rest) : SQ P n ds false w0 D ops Q K H E (⟨some dd, .alloc t, ty, ps, af, g⟩ :: rest) := by
 intro a w he hw
 simp only [wpK]
 rw [if_pos (ko (o := ⟨some dd, .alloc t, ty, ps, af, g⟩) he hg)]
 obtain ⟨i, h1, h2⟩ := hz.is
 refine .inl ?_
 unfold Oper.wp
 have : (execOp a.eval ⟨some dd, .alloc t, ty, ps, af, g⟩).run P w = .ok (.value (pV w.heap.size)) (w.alloc (.cells z.cells t)) := by
  simp [execOp, Instr.alloc, zeroValue, wk h1, h2, newVar, newRow]
 rw [this]
 refine h w.heap.size _ _ (he.put hd _) (hw.alloc ?_)
 have := ok_cs t z.cells.toList
 simpa using this
theorem s_box {t dd : Nat} (hg : gd ops E g = some true) (hd : Nat.blt dd n = true) (hx : opv E x = some v)
  (h : ∀ b, SQ P n ds false w0 D ops Q K ((b, .cs t v.cells.toList []) :: H) ((dd, pV b) :: E) rest) : SQ P n ds false w0 D ops Q K H E (⟨some dd, .box t x, ty, ps, af, g⟩ :: rest) := by
 intro a w he hw
 simp only [wpK]
 rw [if_pos (ko (o := ⟨some dd, .box t x, ty, ps, af, g⟩) he hg)]
 refine .inl ?_
 unfold Oper.wp
 have : (execOp a.eval ⟨some dd, .box t x, ty, ps, af, g⟩).run P w = .ok (.value (pV w.heap.size)) (w.alloc (.cells v.cells t)) := by
  simp [execOp, Instr.box, newVar, newRow, he.eval hx]
 rw [this]
 refine h w.heap.size _ _ (he.put hd _) (hw.alloc ?_)
 have := ok_cs t v.cells.toList
 simpa using this
theorem s_bs1 {t dd e sz bs : Nat} [hs : Slc P t e sz bs] (hg : gd ops E g = some true) (hd : Nat.blt dd n = true) (hx : opv E x = some v) (hz : v.cells.size = sz) (hs0 : Nat.blt 0 sz = true) (hs1 : Nat.ble sz 1000 = true) (hze : ∃ z, kI P e z ∧ z.cells.size = sz)
  (h : ∀ b, SQ P n ds false w0 D ops Q K ((b, .cs e v.cells.toList []) :: H) ((dd, .slice (some ⟨b, 0, none⟩) 1 1) :: E) rest) : SQ P n ds false w0 D ops Q K H E (⟨some dd, .buildSlice t 1 #[(0, x)], ty, ps, af, g⟩ :: rest) := by
 intro a w he hw
 simp only [wpK]
 rw [if_pos (ko (o := ⟨some dd, .buildSlice t 1 #[(0, x)], ty, ps, af, g⟩) he hg)]
 refine .inl ?_
 unfold Oper.wp
 obtain ⟨hu, i, h1, h2, _⟩ := hs.is
 obtain ⟨z, hz0, hz1⟩ := hze
 obtain ⟨i', h1', h2'⟩ := hz0.is
 have hs0' : 0 < sz := Nat.le_of_ble_eq_true hs0
 have hs1' : sz ≤ 1000 := Nat.le_of_ble_eq_true hs1
 have hfold : ∀ (l : List Value) (k : Nat) (cs : Array Value), k + l.length ≤ cs.size → ((l.zipIdx k).foldl (fun (cs : Array Value) (p : Value × Nat) => cs.setIfInBounds p.2 p.1) cs).toList = cs.toList.take k ++ l ++ cs.toList.drop (k + l.length) := by
  intro l
  induction l with
  | nil => intro k cs _; simp
  | cons u r ih =>
   intro k cs hl
   simp only [List.length_cons] at hl
   simp only [List.zipIdx_cons, List.foldl_cons]
   rw [ih (k + 1) _ (by simp; omega)]
   simp only [Array.toList_setIfInBounds, List.length_cons]
   rw [List.take_set, List.drop_set]
   rw [if_pos omT]
   have : (cs.toList.take (k + 1)).set k u = cs.toList.take k ++ [u] := by
    rw [List.take_succ_eq_append_getElem (by simpa using (by omega : k < cs.size))]
    rw [List.set_append_right _ _ (by simp; omega)]
    simp [Nat.min_eq_left (by omega : k ≤ cs.size)]
   rw [this]
   simp [show k + 1 + r.length = k + (r.length + 1) by omega]
 have hfill : Instr.fill (fun i => some (i * sz, sz)) ((Array.range (1 * sz)).map (z.cells[· % z.cells.size]!)) [(0, v)] = some v.cells := by
  have hsz : ((Array.range (1 * sz)).map (z.cells[· % z.cells.size]!)).size = sz := by simp
  simp only [Instr.fill, hz, Nat.zero_mul, Nat.zero_add, ne_eq, not_true_eq_false, decide_false, Bool.false_or, hsz, gt_iff_lt, Nat.lt_irrefl]
  simp only [Bool.false_eq_true, if_false]
  congr 1
  apply Array.toList_inj.1
  rw [← Array.foldl_toList, Array.toList_zipIdx]
  have := hfold v.cells.toList 0 ((Array.range (1 * sz)).map (z.cells[· % z.cells.size]!)) (by simp [hz])
  simp only [List.take_zero, List.nil_append, Nat.zero_add] at this
  rw [this, List.drop_eq_nil_of_le (by simp [hz])]
  simp
 have : (execOp a.eval ⟨some dd, .buildSlice t 1 #[(0, x)], ty, ps, af, g⟩).run P w = .ok (.value (.slice (some ⟨w.heap.size, 0, none⟩) 1 1)) (w.alloc (.cells v.cells e)) := by
  have hne : sz ≠ 0 := by omega
  have hle : ¬ 2 ^ 24 < sz := by omega
  rw [Nat.one_mul] at hfill
  simp [execOp, Instr.buildSlice, zv hu, zX h1, h2, he.eval hx, hne, zeroValue, wk h1', h2', newRow, hfill, hle]
 rw [this]
 refine h w.heap.size _ _ (he.put hd _) (hw.alloc ?_)
 have := ok_cs e v.cells.toList
 simpa using this
end
section
variable {pu : Bool} {w0 w : World} {D : List Nat} {H H' : zl}
theorem WOK.mono (h : WOK pu w0 D H w) (hs : ∀ x ∈ H', x ∈ H) (hn : (H'.map (·.1)).Nodup) : WOK pu w0 D H' w :=
 ⟨⟨hn, fun b k hm => h.hok.ok b k (hs _ hm)⟩, h.kept, fun x hx => h.own x (hs x hx), h.pure⟩
theorem WOK.rem {b : Nat} {k : Blk} {l r : zl} (h : WOK pu w0 D (l ++ (b, k) :: r) w) : WOK pu w0 D (l ++ r) w := by
 refine h.mono (fun x hx => ?_) ?_
 · rcases List.mem_append.1 hx with hx | hx
   · exact List.mem_append_left _ hx
   · exact List.mem_append_right _ (List.mem_cons_of_mem _ hx)
 · have := h.hok.nodup
   simp only [List.map_append, List.map_cons] at this ⊢
   exact List.Nodup.sublist (List.Sublist.append (List.Sublist.refl _) (List.sublist_cons_self _ _)) this
theorem WOK.front {b : Nat} {k : Blk} {l r : zl} (h : WOK pu w0 D (l ++ (b, k) :: r) w) : WOK pu w0 D ((b, k) :: (l ++ r)) w := by
 refine h.mono (fun x hx => ?_) ?_
 · rcases List.mem_cons.1 hx with rfl | hx
   · simp
   · rcases List.mem_append.1 hx with hx | hx
     · exact List.mem_append_left _ hx
     · exact List.mem_append_right _ (List.mem_cons_of_mem _ hx)
 · have := h.hok.nodup
   simp only [List.map_append, List.map_cons] at this ⊢
   exact (List.perm_middle.nodup_iff).1 this
theorem WOK.repl {b : Nat} {k k0 : Blk} {l r : zl} {w' : World} {o : Obj} (h : WOK false w0 D (l ++ (b, k0) :: r) w) (h1 : w'.os = w.os) (h2 : w'.tape = w.tape) (h3 : w'.output = w.output) (h4 : w'.heap.size = w.heap.size)
   (h5 : ∀ c, c ≠ b → w'.heap[c]? = w.heap[c]?) (ho : w'.heap[b]? = some o) (hk : k.ok o) : WOK false w0 D (l ++ (b, k) :: r) w' := by
 have hmap : (l ++ (b, k) :: r).map (·.1) = (l ++ (b, k0) :: r).map (·.1) := by simp
 have hnd : ((l ++ (b, k) :: r).map (·.1)).Nodup := by rw [hmap]; exact h.hok.nodup
 refine ⟨⟨hnd, fun b' k' hm => ?_⟩, ⟨h1.trans h.kept.os, h2.trans h.kept.tape, h3.trans h.kept.output, by rw [h4]; exact h.kept.size, fun c hc hd => ?_⟩, fun x hx => ?_, fun e => by cases e⟩
 · by_cases hb : b' = b
   · subst hb
     have := kZ hnd hm
     subst this
     exact ⟨o, ho, hk⟩
   · have hm' : (b', k') ∈ l ++ (b, k0) :: r := by
       rcases List.mem_append.1 hm with hm | hm
       · exact List.mem_append_left _ hm
       · rcases List.mem_cons.1 hm with hm | hm
         · exact absurd (Prod.mk.inj hm).1 hb
         · exact List.mem_append_right _ (List.mem_cons_of_mem _ hm)
     obtain ⟨o', ho', hk'⟩ := h.hok.ok b' k' hm'
     exact ⟨o', (h5 b' hb).trans ho', hk'⟩
 · have hcb : c ≠ b := by
     intro e
     subst e
     rcases h.own (c, k0) (by simp) with h1 | h1
     · exact hd h1
     · simp at h1; omega
   exact (h5 c hcb).trans (h.kept.block c hc hd)
 · have : x.1 ∈ (l ++ (b, k0) :: r).map (·.1) := by rw [← hmap]; exact List.mem_map.2 ⟨x, hx, rfl⟩
   obtain ⟨y, hy, he⟩ := List.mem_map.1 this
   rw [← he]
   exact h.own y hy
def Src (H : zl) (b o : Nat) (l : List Value) : Prop := ∀ w, HOK H w → ∀ j u, l[j]? = some u → w.cell? ⟨b, o + j, none⟩ = some u
theorem zN {H : zl} {b o : Nat} {k : Blk} {l : List Value} [hh : Has H b k] (h0 : k.lo ≤ o) (hi : o + l.length ≤ k.known) (hl : ∀ j u, l[j]? = some u → k.cell (o + j) = some u) : Src H b o l := by
 intro w hw j u hj
 have hjl : j < l.length := (List.getElem?_eq_some_iff.1 hj).1
 rw [hw.cell hh.mem omT omT]
 exact hl j u hj
end
section
variable {P : Program} {n : Nat} {ds : List Deferred} {pu : Bool} {w0 : World} {D : List Nat} {H H' : zl} {E : Env} {ops : Array Oper} {Q : Exit → Act → World → Prop} {Q' K : Act → World → Prop} {rest : List Oper} {v : Value}
variable {d : Option Nat} {ty : TypeId} {ps : String} {af : Array Edge} {g : Option (Nat × Bool)} {x y : Operand}
theorem buf_ok {t m : Nat} {l : List Value} {c : Array Value} (h1 : c.size = m) (h2 : l.length ≤ m) (h3 : ∀ (j : Nat) (u : Value), l[j]? = some u → c[j]? = some u) : (Blk.buf t m l).ok (.cells c t (0, 0)) :=
 Blk.ok.mk (b := .buf t m l) rfl h1 h2 fun k _ hk => by
  simp only [Blk.known] at hk
  simp only [Blk.cell, nth]
  rw [List.getElem?_eq_getElem hk]
  exact h3 k _ (List.getElem?_eq_getElem hk)
theorem zY {t dd e sz bs b n0 cap mm m c b2 o2 : Nat} {z : Value} {xs news : List Value} {Hr : zl} [hs : Slc P t e sz bs] [hz : kI P e z] (hzs : z.cells.size = sz) (hg : gd ops E g = some true) (hd : Nat.blt dd n = true)
   (hx : opv E x = some (.slice (some ⟨b, 0, none⟩) n0 cap)) [hr : Rem H b (.buf e mm xs) Hr] (hmm : mm = cap * sz) (hxl : xs.length = n0 * sz) (hn : n0 ≤ cap) (hcap : cap ≤ 9223372036854775807)
   (hy : opv E y = some (.slice (some ⟨b2, o2, none⟩) m c)) (hnews : Src H b2 o2 news) (hl : news.length = m * sz) (h1 : ∀ u ∈ news, u.oneCell' = true)
   (h63 : n0 + m ≤ 9223372036854775807) (hb : (n0 + m) * bs ≤ 140737488355328)
   (h : ∀ b' cap', n0 + m ≤ cap' → cap' ≤ 9223372036854775807 → SQ P n ds false w0 D ops Q K ((b', .buf e (cap' * sz) (xs ++ news)) :: Hr) ((dd, .slice (some ⟨b', 0, none⟩) (n0 + m) cap') :: E) rest) :
   SQ P n ds false w0 D ops Q K H E (⟨some dd, .call ⟨.builtin .append, #[x, y], #[t, t]⟩, ty, ps, af, g⟩ :: rest) := by
 subst hmm
 intro a w he hw
 simp only [wpK]
 rw [if_pos (ko (o := ⟨some dd, .call ⟨.builtin .append, #[x, y], #[t, t]⟩, ty, ps, af, g⟩) he hg)]
 obtain ⟨l, r, rfl, rfl⟩ := hr.is
 obtain ⟨hu, i, hi, hsz, hbs⟩ := hs.is
 obtain ⟨i', hi', hz0⟩ := hz.is
 have e1 : i' = i := Option.some.inj (hi'.symm.trans hi)
 subst e1
 subst hsz hbs
 have hne : ∀ j u, news[j]? = some u → w.cell? ((⟨b2, o2, none⟩ : Addr).add j) = some u := fun j u hj => by rw [kN]; exact hnews w hw.hok j u hj
 refine .inl ?_
 unfold Oper.wp
 by_cases hroom : n0 + m ≤ cap
 · have hmem : (b, Blk.buf e (cap * i'.size) xs) ∈ l ++ (b, .buf e (cap * i'.size) xs) :: r := by simp
   obtain ⟨o, ho, hk⟩ := hw.hok.ok _ _ hmem
   unfold Blk.ok at hk
   simp only [Blk.isRaw, Blk.type, Blk.fr, Blk.len, Blk.known] at hk
   obtain ⟨cur, hcur, hcs, hkn, hcell⟩ := hk
   subst hcur
   have hfit : n0 * i'.size + news.length ≤ cur.size := by rw [hl, hcs, ← Nat.add_mul]; exact Nat.mul_le_mul_right _ hroom
   have hrun := run_append_room (P := P) w t ty e i' hu hi b n0 cap cur ho ⟨b2, o2, none⟩ m c news hl hne h1 hroom hfit
   have : (execOp a.eval ⟨some dd, .call ⟨.builtin .append, #[x, y], #[t, t]⟩, ty, ps, af, g⟩).run P w = .ok (.value (.slice (some ⟨b, 0, none⟩) (n0 + m) cap)) (w.setRow b (cur.toList.take (n0 * i'.size) ++ news ++ cur.toList.drop (n0 * i'.size + news.length)).toArray) := by
     simp [execOp, resolve, invoke, builtin, he.eval hx, he.eval hy, hrun]
   rw [this]
   refine h b cap hroom hcap _ _ (he.put hd _) (WOK.front (hw.repl rfl rfl rfl (by simp) (fun c' hc' => setRow_other _ _ _ _ hc') (setRow_heap _ _ _ _ _ _ ho) (buf_ok ?_ ?_ ?_)))
   · simp only [List.size_toArray, List.length_append, List.length_take, List.length_drop, Array.length_toList]; omega
   · rw [List.length_append, hxl, hl, ← Nat.add_mul]; exact Nat.mul_le_mul_right _ hroom
   · intro j u hj
     have htk : cur.toList.take (n0 * i'.size) = xs := by
      apply List.ext_getElem?
      intro k
      rw [List.getElem?_take]
      split
      · rename_i hk'
        have := hcell k (Nat.zero_le _) omT
        simp only [Blk.cell, nth] at this
        simpa using this
      · rename_i hk'
        rw [List.getElem?_eq_none omT]
     rw [htk, List.getElem?_toArray, List.append_assoc, ← List.append_assoc, List.getElem?_append_left (List.getElem?_eq_some_iff.1 hj).1]
     exact hj
 · have hmem : (b, Blk.buf e (cap * i'.size) xs) ∈ l ++ (b, .buf e (cap * i'.size) xs) :: r := by simp
   have holds : ∀ j u, xs[j]? = some u → w.cell? ((⟨b, 0, none⟩ : Addr).add j) = some u := fun j u hj => by
     rw [kN, Nat.zero_add, hw.hok.cell hmem (Nat.zero_le _) (by simp only [Blk.known]; exact (List.getElem?_eq_some_iff.1 hj).1)]
     exact hj
   have hrun := run_append_grow (P := P) w t ty e i' z hu hi hz0 ⟨b, 0, none⟩ n0 cap xs hxl holds ⟨b2, o2, none⟩ m c news hl hne omT omT (growslice_fits omT hb)
   have : (execOp a.eval ⟨some dd, .call ⟨.builtin .append, #[x, y], #[t, t]⟩, ty, ps, af, g⟩).run P w = .ok (.value (.slice (some ⟨w.heap.size, 0, none⟩) (n0 + m) (grownCap w (n0 + m) cap e)))
      (w.drew.alloc (.cells (xs.toArray ++ news.toArray ++ Builtin.zeroCells z.cells (grownCap w (n0 + m) cap e - (n0 + m))) e)) := by
     simp [execOp, resolve, invoke, builtin, he.eval hx, he.eval hy, hrun]
   rw [this]
   have hge := grownCap_ge w (n0 + m) cap e
   have hle := grownCap_le_maxLen w (n0 + m) cap e (by simp only [maxLen]; omega)
   refine h w.heap.size _ hge (by simp only [maxLen] at hle; omega) _ _ (he.put hd _) (WOK.alloc (w := w.drew) (WOK.drew (WOK.rem hw)) (buf_ok ?_ ?_ ?_))
   · simp only [Array.size_append, List.size_toArray, size_zeroCells, hzs, hxl, hl, ← Nat.add_mul]
     congr 1; omega
   · rw [List.length_append, hxl, hl, ← Nat.add_mul]; exact Nat.mul_le_mul_right _ hge
   · intro j u hj
     have hjl := (List.getElem?_eq_some_iff.1 hj).1
     rw [Array.getElem?_append_left (by simpa using hjl)]
     simpa using hj
theorem kr {t dd e sz bs m c b2 o2 : Nat} {z : Value} {news : List Value} [hs : Slc P t e sz bs] [hz : kI P e z] (hzs : z.cells.size = sz) (hg : gd ops E g = some true) (hd : Nat.blt dd n = true)
   (hx : opv E x = some (zS))
   (hy : opv E y = some (.slice (some ⟨b2, o2, none⟩) m c)) (hnews : Src H b2 o2 news) (hl : news.length = m * sz) (h0 : 0 < m)
   (h63 : m ≤ 9223372036854775807) (hb : m * bs ≤ 140737488355328)
   (h : ∀ b' cap', m ≤ cap' → cap' ≤ 9223372036854775807 → SQ P n ds false w0 D ops Q K ((b', .buf e (cap' * sz) news) :: H) ((dd, .slice (some ⟨b', 0, none⟩) m cap') :: E) rest) :
   SQ P n ds false w0 D ops Q K H E (⟨some dd, .call ⟨.builtin .append, #[x, y], #[t, t]⟩, ty, ps, af, g⟩ :: rest) := by
 intro a w he hw
 simp only [wpK]
 rw [if_pos (ko (o := ⟨some dd, .call ⟨.builtin .append, #[x, y], #[t, t]⟩, ty, ps, af, g⟩) he hg)]
 obtain ⟨hu, i, hi, hsz, hbs⟩ := hs.is
 obtain ⟨i', hi', hz0⟩ := hz.is
 have e1 : i' = i := Option.some.inj (hi'.symm.trans hi)
 subst e1
 subst hsz hbs
 have hne : ∀ j u, news[j]? = some u → w.cell? ((⟨b2, o2, none⟩ : Addr).add j) = some u := fun j u hj => by rw [kN]; exact hnews w hw.hok j u hj
 refine .inl ?_
 unfold Oper.wp
 have hrun := run_append_nil (P := P) w t ty e i' z hu hi hz0 ⟨b2, o2, none⟩ m c news hl hne h0 omT omT
 have : (execOp a.eval ⟨some dd, .call ⟨.builtin .append, #[x, y], #[t, t]⟩, ty, ps, af, g⟩).run P w = .ok (.value (.slice (some ⟨w.heap.size, 0, none⟩) m (grownCap w m 0 e)))
    (w.drew.alloc (.cells (news.toArray ++ Builtin.zeroCells z.cells (grownCap w m 0 e - m)) e)) := by
   simp [execOp, resolve, invoke, builtin, he.eval hx, he.eval hy, hrun]
 rw [this]
 have hge := grownCap_ge w m 0 e
 have hle := grownCap_le_maxLen w m 0 e (by simp only [maxLen]; omega)
 refine h w.heap.size _ hge (by simp only [maxLen] at hle; omega) _ _ (he.put hd _) (WOK.alloc (w := w.drew) (WOK.drew hw) (buf_ok ?_ ?_ ?_))
 · simp only [Array.size_append, List.size_toArray, size_zeroCells, hzs, hl, ← Nat.add_mul]
   congr 1; omega
 · rw [hl]; exact Nat.mul_le_mul_right _ hge
 · intro j u hj
   have hjl := (List.getElem?_eq_some_iff.1 hj).1
   rw [Array.getElem?_append_left (by simpa using hjl)]
   simpa using hj
theorem q_append0 {t e sz bs cap n0 c : Nat} {u : Option Addr} [hs : Slc P t e sz bs] (hx : opv E x = some (.slice u n0 cap)) (hn : n0 ≤ cap) (hy : opv E y = some (.slice none 0 c)) :
  Q1 P n ds pu w0 D H E ⟨d, .call ⟨.builtin .append, #[x, y], #[t, t]⟩, ty, ps, af, g⟩ (.slice u n0 cap) := by
 intro a w he hw
 obtain ⟨hu, i, hi, hsz, hbs⟩ := hs.is
 cases u <;> simp [execOp, resolve, invoke, builtin, he.eval hx, he.eval hy, Builtin.append_, zv hu, zX hi, Builtin.lenOf, Builtin.firstCells, hn, storeCells]
theorem kL {t dd e bs : Nat} {z : Value} {k1 k2 : IntKind} {ln cp : Nat} [hs : Slc P t e 1 bs] [hz : kI P e z] (hz1 : z.cells = #[z]) (hg : gd ops E g = some true) (hd : Nat.blt dd n = true)
  (hx : opv E x = some (.int k1 ln)) (hy : opv E y = some (.int k2 cp)) (hlc : ln ≤ cp) (hb : bs * cp ≤ 140737488355328) (hc : cp ≤ 140737488355328)
  (h : ∀ b, SQ P n ds false w0 D ops Q K ((b, .row e (0, 0) cp (fun _ => z)) :: H) ((dd, .slice (some ⟨b, 0, none⟩) ln cp) :: E) rest) :
  SQ P n ds false w0 D ops Q K H E (⟨some dd, .makeSlice t x y, ty, ps, af, g⟩ :: rest) := by
 intro a w he hw
 simp only [wpK]
 rw [if_pos (ko (o := ⟨some dd, .makeSlice t x y, ty, ps, af, g⟩) he hg)]
 obtain ⟨hu, i, hi, hsz, hbs⟩ := hs.is
 obtain ⟨i', hi', hz0⟩ := hz.is
 have e1 : i' = i := Option.some.inj (hi'.symm.trans hi)
 subst e1
 refine .inl ?_
 unfold Oper.wp
 have hbb : (i'.bytes : Int) * (cp : Int) ≤ 281474976710656 := by
  rw [hbs]
  have : (bs : Int) * (cp : Int) = ((bs * cp : Nat) : Int) := by simp
  rw [this]; omega
 have hmk := run_make (P := P) w t e i' z hu hi hz0 k1 k2 ln cp omT omT hbb omT
 rw [hsz, hz1] at hmk
 simp only [Int.toNat_natCast, Nat.mul_one] at hmk
 have : (execOp a.eval ⟨some dd, .makeSlice t x y, ty, ps, af, g⟩).run P w = .ok (.value (.slice (some ⟨w.heap.size, 0, none⟩) ln cp)) (w.alloc (.cells (madeCells #[z] cp) e)) := by
  simp [execOp, he.eval hx, he.eval hy, hmk]
 rw [this]
 refine h w.heap.size _ _ (he.put hd _) (hw.alloc (Blk.ok.mk (b := .row e (0, 0) cp (fun _ => z)) rfl (by simp [Blk.len, madeCells]) (Nat.le_refl _) fun k _ hk => ?_))
 simp only [Blk.known] at hk
 simp [Blk.cell, madeCells, hk, Nat.mod_one]
end
class Callee (P : Program) (f : Nat) : Prop where
 is : ∃ fn, P.funcs[f]? = some fn ∧ (fn.name == "runtime.NumGoroutine") = false ∧ fn.body.isNone = false
def Fn (P : Program) (f : Nat) (args : List Value) (H : zl) (R : Value → zl → Prop) : Prop :=
 ∀ w, HOK H w → Calls P f args.toArray w (fun e w' => ∃ v H', e = .returned v ∧ WOK false w (H.map (·.1)) H' w' ∧ R v H')
class Sel (H Hc : zl) (Hf : outParam zl) : Prop where
 is : H.Perm (Hc ++ Hf)
instance {H : zl} : Sel H [] H := ⟨List.Perm.refl _⟩
instance {H H1 r Hf : zl} {b : Nat} {k : Blk} [h : Rem H b k H1] [h2 : Sel H1 r Hf] : Sel H ((b, k) :: r) Hf := ⟨by
 obtain ⟨l, s, rfl, rfl⟩ := h.is
 exact List.perm_middle.trans (h2.is.cons _)⟩
section
variable {w : World} {H H' Hc Hf : zl}
theorem HOK.perm (h : HOK H w) (hp : H.Perm H') : HOK H' w := ⟨(hp.map _).nodup_iff.1 h.nodup, fun b k hm => h.ok b k (hp.mem_iff.2 hm)⟩
theorem HOK.left (h : HOK (Hc ++ Hf) w) : HOK Hc w := ⟨by have := h.nodup; rw [List.map_append] at this; exact (List.nodup_append.1 this).1, fun b k hm => h.ok b k (List.mem_append_left _ hm)⟩
theorem WOK.call {w0 w' : World} {D : List Nat} (h : WOK false w0 D H w) (hp : H.Perm (Hc ++ Hf)) (h' : WOK false w (Hc.map (·.1)) H' w') : WOK false w0 D (H' ++ Hf) w' := by
 have hk := h.hok.perm hp
 have hnd := hk.nodup
 rw [List.map_append, List.nodup_append] at hnd
 have old : ∀ b k, (b, k) ∈ Hf → b < w.heap.size ∧ b ∉ Hc.map (·.1) := fun b k hm =>
   ⟨hk.lt (List.mem_append_right _ hm), fun hc => hnd.2.2 b hc b (List.mem_map.2 ⟨_, hm, rfl⟩) rfl⟩
 refine ⟨⟨?_, fun b k hm => ?_⟩, ⟨h'.kept.os.trans h.kept.os, h'.kept.tape.trans h.kept.tape, h'.kept.output.trans h.kept.output, Nat.le_trans h.kept.size h'.kept.size, fun b hb hd => ?_⟩, fun x hx => ?_, fun e => by cases e⟩
 · rw [List.map_append, List.nodup_append]
   refine ⟨h'.hok.nodup, hnd.2.1, fun a ha b hb e => ?_⟩
   subst e
   obtain ⟨⟨x, k⟩, hx, rfl⟩ := List.mem_map.1 ha
   obtain ⟨⟨y, k'⟩, hy, he⟩ := List.mem_map.1 hb
   simp only at he
   subst he
   have h1 := old y k' hy
   rcases h'.own _ hx with h2 | h2
   · exact h1.2 h2
   · simp only at h2; omega
 · rcases List.mem_append.1 hm with hm | hm
   · exact h'.hok.ok b k hm
   · obtain ⟨o, ho, hok⟩ := hk.ok b k (List.mem_append_right _ hm)
     have h1 := old b k hm
     exact ⟨o, (h'.kept.block b h1.1 h1.2).trans ho, hok⟩
 · refine (h'.kept.block b (Nat.lt_of_lt_of_le hb h.kept.size) (fun hc => ?_)).trans (h.kept.block b hb hd)
   obtain ⟨⟨x, k⟩, hx, rfl⟩ := List.mem_map.1 hc
   rcases h.own (x, k) (hp.mem_iff.2 (List.mem_append_left _ hx)) with h1 | h1
   · exact hd h1
   · simp only at h1 hb; omega
 · rcases List.mem_append.1 hx with hx | hx
   · rcases h'.own x hx with h1 | h1
     · obtain ⟨⟨y, k⟩, hy, he⟩ := List.mem_map.1 h1
       have := h.own (y, k) (hp.mem_iff.2 (List.mem_append_left _ hy))
       simp only at he
       rw [← he]
       exact this
     · exact .inr (Nat.le_trans h.kept.size h1)
   · exact h.own x (hp.mem_iff.2 (List.mem_append_right _ hx))
end
section
variable {P : Program} {n : Nat} {ds : List Deferred} {pu : Bool} {w0 : World} {D : List Nat} {H H' : zl} {E : Env} {ops : Array Oper} {Q : Exit → Act → World → Prop} {Q' K : Act → World → Prop} {rest : List Oper} {v : Value}
variable {d : Option Nat} {ty : TypeId} {ps : String} {af : Array Edge} {g : Option (Nat × Bool)} {x y : Operand}
def SrcF (H : zl) (b o k : Nat) (f : Nat → Value) : Prop := ∀ w, HOK H w → ∀ j, j < k → w.cell? ⟨b, o + j, none⟩ = some (f j)
theorem l_copy {t t2 e bs b o dl dc m b2 o2 sl sc k : Nat} {f gs : Nat → Value} [hs : Slc P t e 1 bs] (hx : opv E x = some (.slice (some ⟨b, o, none⟩) dl dc)) [hh : Has H b (.row e (0, 0) m f)]
   (hy : opv E y = some (.slice (some ⟨b2, o2, none⟩) sl sc)) (hk : k = Nat.min sl dl) (hsrc : SrcF H b2 o2 k gs) (hfit : o + k ≤ m) (h1 : ∀ j, (gs j).oneCell' = true)
   [hu : Upd H b (.row e (0, 0) m (fun j => if o ≤ j ∧ j < o + k then gs (j - o) else f j)) H'] : L1 P n ds false w0 D H E ⟨d, .call ⟨.builtin .copy, #[x, y], #[t, t2]⟩, ty, ps, af, g⟩ (.int .i64 k) H' := by
 intro a w he hw
 obtain ⟨l, k0, r, rfl, rfl⟩ := hu.is
 have hk0 := kZ hw.hok.nodup hh.mem
 subst hk0
 obtain ⟨hut, i, hi, hsz, _⟩ := hs.is
 obtain ⟨ob, ho, hok⟩ := hw.hok.ok _ _ hh.mem
 unfold Blk.ok at hok
 simp only [Blk.isRaw, Blk.type, Blk.fr, Blk.len, Blk.known] at hok
 obtain ⟨cur, rfl, hcs, _, hcell⟩ := hok
 let news := (List.range k).map gs
 have hnl : news.length = k := by simp [news]
 have hnj : ∀ j, j < k → news[j]? = some (gs j) := fun j hj => by simp [news, hj]
 have hf := run_firstCells_some (P := P) w 1 k ⟨b2, o2, none⟩ sl sc news (by simp [hnl]) (fun j u hj => by
   have hj' : j < k := by rw [← hnl]; exact (List.getElem?_eq_some_iff.1 hj).1
   rw [kN, hsrc w hw.hok j hj', ← hj, hnj j hj'])
 have hst := run_storeCells_at P b o e news 0 cur w ho (by rw [hnl, hcs]; omega) (fun u hu => by
   obtain ⟨j, _, rfl⟩ := List.mem_map.1 hu
   exact h1 j)
 simp only [Nat.add_zero, hnl] at hst
 have hrun : (execOp a.eval ⟨d, .call ⟨.builtin .copy, #[x, y], #[t, t2]⟩, ty, ps, af, g⟩).run P w = .ok (.value (.int .i64 k)) (w.setRow b (cur.toList.take o ++ news ++ cur.toList.drop (o + k)).toArray) := by
   have hk' : sl.min dl = k := hk.symm
   simp [execOp, resolve, invoke, builtin, he.eval hx, he.eval hy, Builtin.copy_, zv hut, zX hi, hsz, Builtin.lenOf, hk', hf, goInt]
   simp only [List.append_assoc] at hst
   simp [hst]
 refine ⟨_, .inl hrun, hw.repl rfl rfl rfl (by simp) (fun c' hc' => setRow_other _ _ _ _ hc') (setRow_heap _ _ _ _ _ _ ho) (Blk.ok.mk (b := .row e (0, 0) m _) rfl ?_ (Nat.le_refl _) fun j _ hj => ?_)⟩
 · simp only [Blk.len, List.size_toArray, List.length_append, List.length_take, List.length_drop, Array.length_toList, hnl]; omega
 · simp only [Blk.known] at hj
   simp only [Blk.cell]
   have hol : (cur.toList.take o).length = o := by simp; omega
   rw [List.getElem?_toArray, List.append_assoc]
   by_cases h1 : j < o
   · rw [if_neg (by omega), List.getElem?_append_left (by omega), List.getElem?_take, if_pos h1]
     simpa [Blk.cell] using hcell j (Nat.zero_le _) (by omega)
   · rw [List.getElem?_append_right (by omega), hol]
     by_cases h2 : j < o + k
     · rw [if_pos (by omega), List.getElem?_append_left (by omega), hnj _ (by omega)]
     · rw [if_neg (by omega), List.getElem?_append_right (by omega), List.getElem?_drop, hnl, show o + k + (j - o - k) = j by omega]
       simpa [Blk.cell] using hcell j (Nat.zero_le _) (by omega)
theorem l_copyw {t t2 e bs b o dl dc m b2 o2 sl sc k lo hi : Nat} {f gs : Nat → Value} [hs : Slc P t e 1 bs] (hx : opv E x = some (.slice (some ⟨b, o, none⟩) dl dc)) [hh : Has H b (.win e m lo hi f)]
   (hy : opv E y = some (.slice (some ⟨b2, o2, none⟩) sl sc)) (hk : k = Nat.min sl dl) (hsrc : SrcF H b2 o2 k gs) (hfit : o + k ≤ m) (h1 : ∀ j, (gs j).oneCell' = true)
   [hu : Upd H b (.win e m o (o + k) (fun j => gs (j - o))) H'] : L1 P n ds false w0 D H E ⟨d, .call ⟨.builtin .copy, #[x, y], #[t, t2]⟩, ty, ps, af, g⟩ (.int .i64 k) H' := by
 intro a w he hw
 obtain ⟨l, k0, r, rfl, rfl⟩ := hu.is
 have hk0 := kZ hw.hok.nodup hh.mem
 subst hk0
 obtain ⟨hut, i, hi, hsz, _⟩ := hs.is
 obtain ⟨ob, ho, hok⟩ := hw.hok.ok _ _ hh.mem
 unfold Blk.ok at hok
 simp only [Blk.isRaw, Blk.type, Blk.fr, Blk.len, Blk.known] at hok
 obtain ⟨cur, rfl, hcs, _, hcell⟩ := hok
 let news := (List.range k).map gs
 have hnl : news.length = k := by simp [news]
 have hnj : ∀ j, j < k → news[j]? = some (gs j) := fun j hj => by simp [news, hj]
 have hf := run_firstCells_some (P := P) w 1 k ⟨b2, o2, none⟩ sl sc news (by simp [hnl]) (fun j u hj => by
   have hj' : j < k := by rw [← hnl]; exact (List.getElem?_eq_some_iff.1 hj).1
   rw [kN, hsrc w hw.hok j hj', ← hj, hnj j hj'])
 have hst := run_storeCells_at P b o e news 0 cur w ho (by rw [hnl, hcs]; omega) (fun u hu => by
   obtain ⟨j, _, rfl⟩ := List.mem_map.1 hu
   exact h1 j)
 simp only [Nat.add_zero, hnl] at hst
 have hrun : (execOp a.eval ⟨d, .call ⟨.builtin .copy, #[x, y], #[t, t2]⟩, ty, ps, af, g⟩).run P w = .ok (.value (.int .i64 k)) (w.setRow b (cur.toList.take o ++ news ++ cur.toList.drop (o + k)).toArray) := by
   have hk' : sl.min dl = k := hk.symm
   simp [execOp, resolve, invoke, builtin, he.eval hx, he.eval hy, Builtin.copy_, zv hut, zX hi, hsz, Builtin.lenOf, hk', hf, goInt]
   simp only [List.append_assoc] at hst
   simp [hst]
 refine ⟨_, .inl hrun, hw.repl rfl rfl rfl (by simp) (fun c' hc' => setRow_other _ _ _ _ hc') (setRow_heap _ _ _ _ _ _ ho) (Blk.ok.mk (b := .win e m o (o + k) _) rfl ?_ hfit fun j hl hj => ?_)⟩
 · simp only [Blk.len, List.size_toArray, List.length_append, List.length_take, List.length_drop, Array.length_toList, hnl]; omega
 · simp only [Blk.known] at hj
   simp only [Blk.lo] at hl
   simp only [Blk.cell]
   have hol : (cur.toList.take o).length = o := by simp; omega
   rw [List.getElem?_toArray, List.append_assoc, List.getElem?_append_right (by omega), hol, List.getElem?_append_left (by omega), hnj _ (by omega)]
theorem srcf_win {b o k m lo hi : Nat} {e : TypeId} {f : Nat → Value} [hh : Has H b (.win e m lo hi f)] (h0 : lo ≤ o) (h1 : o + k ≤ hi) : SrcF H b o k (fun j => f (o + j)) := by
 intro w hw j hj
 exact hw.cell hh.mem (by simp only [Blk.lo]; omega) (by simp only [Blk.known]; omega)
theorem exec_call {w : World} {a : Act} {f : Nat} {l : List Operand} {ats : Array TypeId} {args : List Value} {d : Option Nat} [hc : Callee P f] (he : EOK n ds E a) (hx : opvs E l = some args) :
  (execOp a.eval ⟨d, .call ⟨.value (.func f), l.toArray, ats⟩, ty, ps, af, g⟩).run P w = .ok (.enter f args.toArray) w := by
 obtain ⟨fn, h1, h2, h3⟩ := hc.is
 have h2' : ¬ fn.name = "runtime.NumGoroutine" := by simpa using h2
 have hb : ¬ fn.body = none := by intro e; rw [e] at h3; cases h3
 have hx' := he.evals hx
 simp [execOp, resolve, Deferred.ofValue, invoke, callFunc, h1, h2', hb, Act.eval] 
 exact hx'
theorem exec_callv {w : World} {a : Act} {f : Nat} {y : Operand} {l : List Operand} {ats : Array TypeId} {args : List Value} {d : Option Nat} [hc : Callee P f] (he : EOK n ds E a) (hy : opv E y = some (.func (.func f) #[] #[])) (hx : opvs E l = some args) :
  (execOp a.eval ⟨d, .call ⟨.value y, l.toArray, ats⟩, ty, ps, af, g⟩).run P w = .ok (.enter f args.toArray) w := by
 obtain ⟨fn, h1, h2, h3⟩ := hc.is
 have h2' : ¬ fn.name = "runtime.NumGoroutine" := by simpa using h2
 have hb : ¬ fn.body = none := by intro e; rw [e] at h3; cases h3
 have hx' := he.evals hx
 simp [execOp, resolve, Deferred.ofValue, invoke, callFunc, h1, h2', hb, he.eval hy]
 exact hx'
theorem s_callv {f dd : Nat} {l : List Operand} {ats : Array TypeId} {args : List Value} {Hc Hf : zl} {R : Value → zl → Prop} [Callee P f] (hg : gd ops E g = some true) (hd : Nat.blt dd n = true) (hy : opv E y = some (.func (.func f) #[] #[])) (hx : opvs E l = some args) (hf : Fn P f args Hc R) [hs : Sel H Hc Hf]
  (h : ∀ v H', R v H' → SQ P n ds false w0 D ops Q K (H' ++ Hf) ((dd, v) :: E) rest) : SQ P n ds false w0 D ops Q K H E (⟨some dd, .call ⟨.value y, l.toArray, ats⟩, ty, ps, af, g⟩ :: rest) := by
 intro a w he hw
 simp only [wpK]
 rw [if_pos (ko (o := ⟨some dd, .call ⟨.value y, l.toArray, ats⟩, ty, ps, af, g⟩) he hg)]
 refine .inl ?_
 unfold Oper.wp
 rw [exec_callv he hy hx]
 refine (hf w (hw.hok.perm hs.is).left).mono ?_
 rintro e w' ⟨v, H', rfl, h1, h2⟩
 exact h v H' h2 _ _ (he.put hd v) (hw.call hs.is h1)
theorem q_call {f : Nat} {l : List Operand} {ats : Array TypeId} {args : List Value} {Hc Hf : zl} [Callee P f] (hx : opvs E l = some args) (hf : PF P f args Hc v) [hs : Sel H Hc Hf] :
  QC P n ds pu w0 D H E ⟨d, .call ⟨.value (.func f), l.toArray, ats⟩, ty, ps, af, g⟩ v :=
 fun _ w he hw => .inr (.inr ⟨f, args.toArray, exec_call he hx, hf w (hw.hok.perm hs.is).left⟩)
theorem za {f dd : Nat} {l : List Operand} {ats : Array TypeId} {args : List Value} {Hc Hf : zl} {R : Value → zl → Prop} [Callee P f] (hg : gd ops E g = some true) (hd : Nat.blt dd n = true) (hx : opvs E l = some args) (hf : Fn P f args Hc R) [hs : Sel H Hc Hf]
  (h : ∀ v H', R v H' → SQ P n ds false w0 D ops Q K (H' ++ Hf) ((dd, v) :: E) rest) : SQ P n ds false w0 D ops Q K H E (⟨some dd, .call ⟨.value (.func f), l.toArray, ats⟩, ty, ps, af, g⟩ :: rest) := by
 intro a w he hw
 simp only [wpK]
 rw [if_pos (ko (o := ⟨some dd, .call ⟨.value (.func f), l.toArray, ats⟩, ty, ps, af, g⟩) he hg)]
 refine .inl ?_
 unfold Oper.wp
 rw [exec_call he hx]
 refine (hf w (hw.hok.perm hs.is).left).mono ?_
 rintro e w' ⟨v, H', rfl, h1, h2⟩
 exact h v H' h2 _ _ (he.put hd v) (hw.call hs.is h1)
end
section
variable (P : Program) (n : Nat) (ds : List Deferred) (pu : Bool) (w0 : World) (D : List Nat)
def EV (c : Code) (Q : Exit → Act → World → Prop) (H : zl) (E : Env) : Prop := ∀ a w, EOK n ds E a → WOK pu w0 D H w → c.wp P Q a w
def LF (Q : Exit → Act → World → Prop) (e : Exit) (H : zl) (E : Env) : Prop := ∀ a w, EOK n ds E a → WOK pu w0 D H w → Q e a w
end
section
variable {P : Program} {n : Nat} {ds : List Deferred} {pu : Bool} {w0 : World} {D : List Nat} {H H' : zl} {E : Env} {ops : Array Oper} {Q : Exit → Act → World → Prop} {rest : List Oper} {v : Value} {l : List Oper} {id id' : Nat} {x y c : Code} {K : Act → World → Prop}
theorem zd (h : EV P n ds pu w0 D x (Exit.then (y.wp P Q) Q) H E) : EV P n ds pu w0 D (.seq x y) Q H E := fun a w he hw => wp_seq (h a w he hw)
theorem kQ (h : LF n ds pu w0 D Q .normal H E) : EV P n ds pu w0 D .skip Q H E := fun a w he hw => wp_skip (h a w he hw)
theorem ev_label {k : Nat} (h : LF n ds pu w0 D Q .normal H E) : EV P n ds pu w0 D (.label k) Q H E := fun a w he hw => wp_label (h a w he hw)
theorem ev_exit (h : LF n ds pu w0 D Q (.exit id) H E) : EV P n ds pu w0 D (.exit id) Q H E := fun a w he hw => wp_exit (h a w he hw)
theorem km (h : LF n ds pu w0 D Q .ret H E) : EV P n ds pu w0 D .ret Q H E := fun a w he hw => wp_ret (h a w he hw)
theorem ev_cond1 {o : Operand} (ho : opv E o = some (.bool true)) (h : EV P n ds pu w0 D x Q H E) : EV P n ds pu w0 D (.cond o x y) Q H E := fun a w he hw => wp_cond_true (he.eval ho) (h a w he hw)
theorem ev_cond0 {o : Operand} (ho : opv E o = some (.bool false)) (h : EV P n ds pu w0 D y Q H E) : EV P n ds pu w0 D (.cond o x y) Q H E := fun a w he hw => wp_cond_false (he.eval ho) (h a w he hw)
theorem ev_cond1b {o : Operand} {b : Bool} (ho : opv E o = some (.bool b)) (hb : b = true) (h : EV P n ds pu w0 D x Q H E) : EV P n ds pu w0 D (.cond o x y) Q H E := by subst hb; exact ev_cond1 ho h
theorem qr {o : Operand} {b : Bool} (ho : opv E o = some (.bool b)) (hb : b = false) (h : EV P n ds pu w0 D y Q H E) : EV P n ds pu w0 D (.cond o x y) Q H E := by subst hb; exact ev_cond0 ho h
theorem kg {o : Operand} {b : Bool} (ho : opv E o = some (.bool b)) (h1 : b = true → EV P n ds pu w0 D x Q H E) (h0 : b = false → EV P n ds pu w0 D y Q H E) : EV P n ds pu w0 D (.cond o x y) Q H E :=
 fun a w he hw => wp_cond_split (he.eval ho) (fun e => h1 e a w he hw) (fun e => h0 e a w he hw)
theorem kf (h : EV P n ds pu w0 D c (Exit.inBlock id Q) H E) : EV P n ds pu w0 D (.block id c) Q H E := fun a w he hw => wp_block (h a w he hw)
theorem ev_scope (h : EV P n ds pu w0 D c (Exit.noGoto Q) H E) : EV P n ds pu w0 D (.scope c) Q H E := fun a w he hw => wp_scope_straight (h a w he hw)
theorem zi (h : SQ P n ds pu w0 D l.toArray Q (Q .normal) H E l) : EV P n ds pu w0 D (.region id l.toArray false) Q H E := fun a w he hw => wp_region_list (wpK_list _ _ _ (h a w he hw))
theorem ev_draw (hm : P.follows .mixedOrders = true) (hB : Region.lexB .any l.toArray = true) (h : DQ P n ds false w0 D l.toArray (fun a w => Q .normal a w) H E l) : EV P n ds false w0 D (.region id l.toArray true) Q H E :=
 fun a w he hw => wp_region_still_lit hm hB (h a _ he hw.drew)
theorem zU (k : Nat) (hm : P.follows .mixedOrders = true) (hB : Region.lexTailB .any l.toArray k = true) (h : DQ P n ds false w0 D l.toArray (fun a w => wpList P l.toArray Q (l.drop k) a w) H E (l.take k)) : EV P n ds false w0 D (.region id l.toArray true) Q H E :=
 fun a w he hw => wp_region_still_tail k hm hB (h a _ he hw.drew)
theorem qW (h : SQ P n ds pu w0 D ops Q (Q .normal) H E rest) : DQ P n ds pu w0 D ops (fun a w => wpList P ops Q rest a w) H E [] := wg fun a w he hw => wpK_list _ _ _ (h a w he hw)
theorem zf (h : EV P n ds pu w0 D y Q H E) : LF n ds pu w0 D (Exit.then (y.wp P Q) Q) .normal H E := h
theorem lf_seqx (h : LF n ds pu w0 D Q (.exit id) H E) : LF n ds pu w0 D (Exit.then K Q) (.exit id) H E := h
theorem lf_seqr (h : LF n ds pu w0 D Q .ret H E) : LF n ds pu w0 D (Exit.then K Q) .ret H E := h
theorem kJ (h : LF n ds pu w0 D Q .normal H E) : LF n ds pu w0 D (Exit.inBlock id Q) .normal H E := h
theorem lf_blkr (h : LF n ds pu w0 D Q .ret H E) : LF n ds pu w0 D (Exit.inBlock id Q) .ret H E := h
theorem lf_blkx (h : LF n ds pu w0 D Q .normal H E) : LF n ds pu w0 D (Exit.inBlock id Q) (.exit id) H E := fun a w he hw => by
 show (if id = id then Q .normal a w else _)
 rw [if_pos rfl]; exact h a w he hw
theorem lf_blko (hne : Nat.beq id' id = false) (h : LF n ds pu w0 D Q (.exit id') H E) : LF n ds pu w0 D (Exit.inBlock id Q) (.exit id') H E := fun a w he hw => by
 show (if id' = id then _ else Q (.exit id') a w)
 rw [if_neg (Nat.ne_of_beq_eq_false hne)]; exact h a w he hw
theorem lf_sc (h : LF n ds pu w0 D Q .normal H E) : LF n ds pu w0 D (Exit.noGoto Q) .normal H E := h
theorem lf_scx (h : LF n ds pu w0 D Q (.exit id) H E) : LF n ds pu w0 D (Exit.noGoto Q) (.exit id) H E := h
def Wk (H H' : zl) : Prop := ∀ pu w0 D w, WOK pu w0 D H w → WOK pu w0 D H' w
theorem Wk.refl (H : zl) : Wk H H := fun _ _ _ _ h => h
theorem Wk.trans {H1 H2 H3 : zl} (h : Wk H1 H2) (k : Wk H2 H3) : Wk H1 H3 := fun _ _ _ _ x => k _ _ _ _ (h _ _ _ _ x)
theorem Wk.like {b : Nat} {k k' : Blk} {H H' : zl} [hh : Has H b k] [hu : Upd H b k' H'] (hl : k.like k') : Wk H H' := by
 intro pu w0 D w hw
 obtain ⟨l, k0, r, rfl, rfl⟩ := hu.is
 have := kZ hw.hok.nodup hh.mem
 subst this
 exact hw.like hl
theorem Wk.sel {H Hc Hf : zl} [h : Sel H Hc Hf] : Wk H Hc := by
 intro pu w0 D w hw
 have hp := h.is
 refine hw.mono (fun x hx => hp.mem_iff.2 (List.mem_append_left _ hx)) (hw.hok.perm hp).left.nodup
theorem zA {k : Blk} (b : Nat) (k' : Blk) [hh : Has H b k] [hu : Upd H b k' H'] (hl : k.like k') (h : EV P n ds pu w0 D c Q H' E) : EV P n ds pu w0 D c Q H E := fun a w he hk => h a w he (Wk.like (hh := hh) (hu := hu) hl _ _ _ _ hk)
theorem kq {E' : Env} (hs : Sub E E') (hw : Wk H H') (h : EV P n ds pu w0 D c Q H' E') : EV P n ds pu w0 D c Q H E := fun a w he hk => h a w (he.sub hs) (hw _ _ _ _ hk)
theorem lf_wk {E' : Env} {e : Exit} (hs : Sub E E') (hw : Wk H H') (h : LF n ds pu w0 D Q e H' E') : LF n ds pu w0 D Q e H E := fun a w he hk => h a w (he.sub hs) (hw _ _ _ _ hk)
def Again (n : Nat) (ds : List Deferred) (pu : Bool) (w0 : World) (D : List Nat) {σ : Type} (mE : σ → Env) (mH : σ → zl) (p : σ → Prop) (μ : σ → Nat) (m : Nat) (a : Act) (w : World) : Prop :=
 ∃ s, p s ∧ μ s < m ∧ EOK n ds (mE s) a ∧ WOK pu w0 D (mH s) w
theorem zw {σ : Type} (mE : σ → Env) (mH : σ → zl) (p : σ → Prop) (μ : σ → Nat) (s0 : σ) (h0 : p s0) (hE : Sub E (mE s0)) (hH : Wk H (mH s0))
  (round : ∀ s, p s → EV P n ds pu w0 D c (Exit.then (Again n ds pu w0 D mE mH p μ (μ s)) Q) (mH s) (mE s)) : EV P n ds pu w0 D (.loop c) Q H E := by
 intro a w he hw
 have key : ∀ m s a w, μ s < m → p s → EOK n ds (mE s) a → WOK pu w0 D (mH s) w → Code.rounds P c Q m a w := by
  intro m
  induction m with
  | zero => intro s a w hm; omega
  | succ m ih =>
   intro s a w hm hp he hw
   rw [rounds_succ]
   refine wp_mono (round s hp a w he hw) ?_
   intro e a' w' h
   cases e <;> first | exact h | skip
   obtain ⟨s', hp', hlt, he', hw'⟩ := h
   exact ih s' a' w' (by omega) hp' he' hw'
 exact wp_loop_rounds _ (key (μ s0 + 1) s0 a w (by omega) h0 (he.sub hE) (hH _ _ _ _ hw))
theorem zh {σ : Type} {mE : σ → Env} {mH : σ → zl} {p : σ → Prop} {μ : σ → Nat} {m : Nat} (s : σ) (hp : p s) (hm : μ s < m) (hE : Sub E (mE s)) (hH : Wk H (mH s)) : LF n ds pu w0 D (Exit.then (Again n ds pu w0 D mE mH p μ m) Q) .normal H E :=
 fun _ _ he hw => ⟨s, hp, hm, he.sub hE, hH _ _ _ _ hw⟩
end
def argE : Nat → List Value → Env
 | _, [] => []
 | i, v :: r => (i, v) :: argE (i + 1) r
theorem argE_look : ∀ (l : List Value) (i t : Nat) (v : Value), look t (argE i l) = some v → i ≤ t ∧ l[t - i]? = some v
 | [], i, t, v, h => by simp [argE, look] at h
 | u :: r, i, t, v, h => by
  rcases look_cons h with ⟨rfl, rfl⟩ | ⟨hk, h⟩
  · simp
  · obtain ⟨h1, h2⟩ := argE_look r (i + 1) t v h
    refine ⟨by omega, ?_⟩
    rw [show t - i = (t - (i + 1)) + 1 by omega, List.getElem?_cons_succ]
    exact h2
theorem argE_ok {n : Nat} {l : List Value} (hl : l.length ≤ n) : EOK n [] (argE 0 l) { tmps := l.toArray ++ Array.replicate (n - l.toArray.size) undef, defers := [] } := by
 refine ⟨by simp; omega, rfl, fun t v ht => ?_⟩
 obtain ⟨_, h2⟩ := argE_look l 0 t v ht
 rw [Nat.sub_zero] at h2
 have := (List.getElem?_eq_some_iff.1 h2).1
 rw [Array.getElem?_append_left (by simpa using this)]
 simpa using h2
def RP (w0 : World) (D : List Nat) (R : Value → zl → Prop) : Ending → World → Prop := fun e w' => ∃ v H', e = .returned v ∧ WOK false w0 D H' w' ∧ R v H'
def PP (w0 : World) (v : Value) : Ending → World → Prop := fun e w' => e = .returned v ∧ w' = w0
section
variable {P : Program} {n : Nat} {w0 : World} {D : List Nat} {H : zl} {E : Env} {v : Value} {fn : Func} {c : Code} {f : Nat} {args : List Value} {R : Value → zl → Prop}
theorem zo (hf : P.funcs[f]? = some fn) (hb : fn.body = some c) (hn : fn.ntmps = n) (hl : Nat.ble args.length n = true)
  (h : ∀ w, EV P n [] false w (H.map (·.1)) c (bodyPost P fn (RP w (H.map (·.1)) R)) H (argE 0 args)) : Fn P f args H R := by
 intro w hw
 refine calls_of_wp hf hb ?_
 rw [hn]
 exact h w _ _ (argE_ok (Nat.le_of_ble_eq_true hl)) ⟨hw, Kept.refl _ _, fun x hx => .inl (List.mem_map.2 ⟨x, hx, rfl⟩), fun e => by cases e⟩
theorem zW (hf : P.funcs[f]? = some fn) (hb : fn.body = some c) (hn : fn.ntmps = n) (hl : Nat.ble args.length n = true)
  (h : ∀ w, EV P n [] true w (H.map (·.1)) c (bodyPost P fn (PP w v)) H (argE 0 args)) : PF P f args H v := by
 intro w hw
 refine calls_of_wp hf hb ?_
 rw [hn]
 exact h w _ _ (argE_ok (Nat.le_of_ble_eq_true hl)) ⟨hw, Kept.refl _ _, fun x hx => .inl (List.mem_map.2 ⟨x, hx, rfl⟩), fun _ => rfl⟩
theorem EOK.res {a : Act} (he : EOK n [] E a) {t : Nat} (h : look t E = some v) : a.tmps.getD t undef = v := by
 have := he.env t v h
 simp [this]
def Wl : zl → zl → Prop
 | [], [] => True
 | (b, k) :: r, (b', k') :: r' => b = b' ∧ (k = k' ∨ k.like k') ∧ Wl r r'
 | _, _ => False
theorem Wl.wok {pu : Bool} {w : World} : ∀ {H H' l : zl}, Wl H H' → WOK pu w0 D (l ++ H) w → WOK pu w0 D (l ++ H') w
 | [], [], l, _, hw => hw
 | (b, k) :: r, (b', k') :: r', l, h, hw => by
  obtain ⟨rfl, hk, hr⟩ := h
  have h1 : WOK pu w0 D (l ++ (b, k') :: r) w := by
   rcases hk with rfl | hk
   · exact hw
   · exact hw.like hk
  have h2 : WOK pu w0 D ((l ++ [(b, k')]) ++ r) w := by simpa using h1
  simpa using Wl.wok hr h2
 | [], _ :: _, _, h, _ => h.elim
 | _ :: _, [], _, h, _ => h.elim
theorem Wk.list {H H' : zl} (h : Wl H H') : Wk H H' := fun _ _ _ _ hw => Wl.wok (l := []) h hw
section
variable {pu : Bool}
theorem res0 {a : Act} {w : World} (hr : fn.results = #[]) : (results fn a.tmps).run P w = .ok (.tuple #[]) w := by simp [results, hr]
theorem res1 {a : Act} {w : World} {t : Nat} (he : EOK n [] E a) (hr : fn.results = #[.tmp t]) (h : look t E = some v) : (results fn a.tmps).run P w = .ok v w := by
 have := he.res h
 simp [results, hr]
 simpa using this
theorem res2 {a : Act} {w : World} {t1 t2 : Nat} {v1 v2 : Value} (he : EOK n [] E a) (hr : fn.results = #[.tmp t1, .tmp t2]) (h1 : look t1 E = some v1) (h2 : look t2 E = some v2) : (results fn a.tmps).run P w = .ok (.tuple #[v1, v2]) w := by
 have e1 := he.env _ _ h1
 have e2 := he.env _ _ h2
 simp [results, hr, e1, e2]
end
theorem end_ret {e : Exit} (hn : e = .normal ∨ e = .ret) (hres : ∀ a w, EOK n [] E a → WOK false w0 D H w → (results fn a.tmps).run P w = .ok v w) (h : R v H) : LF n [] false w0 D (bodyPost P fn (RP w0 D R)) e H E := by
 intro a w he hw
 rcases hn with rfl | rfl
 · exact ⟨he.defers, v, hres a w he hw, v, H, rfl, hw, h⟩
 · exact ⟨he.defers, v, hres a w he hw, v, H, rfl, hw, h⟩
theorem end_pp {e : Exit} (hn : e = .normal ∨ e = .ret) (hres : ∀ a w, EOK n [] E a → WOK true w0 D H w → (results fn a.tmps).run P w = .ok v w) : LF n [] true w0 D (bodyPost P fn (PP w0 v)) e H E := by
 intro a w he hw
 have hp := hw.pure rfl
 rcases hn with rfl | rfl
 · exact ⟨he.defers, v, hres a w he hw, rfl, hp⟩
 · exact ⟨he.defers, v, hres a w he hw, rfl, hp⟩
theorem end0 (hr : fn.results = #[]) (h : R (.tuple #[]) H) : LF n [] false w0 D (bodyPost P fn (RP w0 D R)) .ret H E := end_ret (.inr rfl) (fun _ _ _ _ => res0 hr) h
theorem end0n (hr : fn.results = #[]) (h : R (.tuple #[]) H) : LF n [] false w0 D (bodyPost P fn (RP w0 D R)) .normal H E := end_ret (.inl rfl) (fun _ _ _ _ => res0 hr) h
theorem end1 {t : Nat} (hr : fn.results = #[.tmp t]) (ht : look t E = some v) (h : R v H) : LF n [] false w0 D (bodyPost P fn (RP w0 D R)) .ret H E := end_ret (.inr rfl) (fun _ _ he _ => res1 he hr ht) h
theorem end2 {t1 t2 : Nat} {v1 v2 : Value} (hr : fn.results = #[.tmp t1, .tmp t2]) (h1 : look t1 E = some v1) (h2 : look t2 E = some v2) (h : R (.tuple #[v1, v2]) H) : LF n [] false w0 D (bodyPost P fn (RP w0 D R)) .ret H E :=
 end_ret (.inr rfl) (fun _ _ he _ => res2 he hr h1 h2) h
theorem zV {t : Nat} (hr : fn.results = #[.tmp t]) (ht : look t E = some v) : LF n [] true w0 D (bodyPost P fn (PP w0 v)) .ret H E := end_pp (.inr rfl) (fun _ _ he _ => res1 he hr ht)
theorem end0w {H' : zl} (hr : fn.results = #[]) (hw : Wk H H') (h : R (.tuple #[]) H') : LF n [] false w0 D (bodyPost P fn (RP w0 D R)) .ret H E := fun a w he hk => end0 (H := H') hr h a w he (hw _ _ _ _ hk)
theorem end0nw {H' : zl} (hr : fn.results = #[]) (hw : Wk H H') (h : R (.tuple #[]) H') : LF n [] false w0 D (bodyPost P fn (RP w0 D R)) .normal H E := fun a w he hk => end0n (H := H') hr h a w he (hw _ _ _ _ hk)
theorem zm {H' : zl} {t : Nat} (hr : fn.results = #[.tmp t]) (ht : look t E = some v) (hw : Wk H H') (h : R v H') : LF n [] false w0 D (bodyPost P fn (RP w0 D R)) .ret H E := fun a w he hk => end1 (H := H') hr ht h a w he (hw _ _ _ _ hk)
theorem end2w {H' : zl} {t1 t2 : Nat} {v1 v2 : Value} (hr : fn.results = #[.tmp t1, .tmp t2]) (h1 : look t1 E = some v1) (h2 : look t2 E = some v2) (hw : Wk H H') (h : R (.tuple #[v1, v2]) H') : LF n [] false w0 D (bodyPost P fn (RP w0 D R)) .ret H E :=
 fun a w he hk => end2 (H := H') hr h1 h2 h a w he (hw _ _ _ _ hk)
end
section
variable {P : Program} {n : Nat} {ds : List Deferred} {pu : Bool} {w0 : World} {D : List Nat} {H : zl} {E : Env} {ops : Array Oper} {Q : Exit → Act → World → Prop} {Q' K : Act → World → Prop}
def skipOK (ops : Array Oper) (E : Env) (n : Nat) : Nat → List Oper → Bool
 | 0, _ => true
 | _ + 1, [] => false
 | k + 1, o :: r => match o.dst with
  | none => false
  | some d => match gd ops E o.guard with
   | some false => match Nat.blt d n with
    | true => match look d E with
     | none => skipOK ops E n k r
     | some _ => false
    | false => false
   | _ => false
theorem EOK.drop1 {a : Act} {dd : Nat} {u : Value} (h : EOK n ds ((dd, u) :: E) a) (hl : look dd E = none) : EOK n ds E a :=
 ⟨h.size, h.defers, fun t v ht => h.env t v (by
  by_cases hd : dd = t
  · subst hd; rw [hl] at ht; cases ht
  · simp only [look, beqf hd]; exact ht)⟩
theorem duns : ∀ (k : Nat) {rest : List Oper}, skipOK ops E n k rest = true → DQ P n ds pu w0 D ops Q' H E (rest.drop k) → DQ P n ds pu w0 D ops Q' H E rest
 | 0, rest, _, h => h
 | k + 1, [], hk, _ => by simp [skipOK] at hk
 | k + 1, ⟨none, op, ty, ps, af, g⟩ :: r, hk, _ => by simp [skipOK] at hk
 | k + 1, ⟨some dd, op, ty, ps, af, g⟩ :: r, hk, h => by
  simp only [skipOK] at hk
  split at hk
  · rename_i hg
    split at hk
    · rename_i hb
      split at hk
      · rename_i hl
        refine dq0 hg hb ?_
        intro a w he hw
        exact duns k hk h a w (he.drop1 hl) hw
      · cases hk
    · cases hk
  · cases hk
theorem ka : ∀ (k : Nat) {rest : List Oper}, skipOK ops E n k rest = true → SQ P n ds pu w0 D ops Q K H E (rest.drop k) → SQ P n ds pu w0 D ops Q K H E rest
 | 0, rest, _, h => h
 | k + 1, [], hk, _ => by simp [skipOK] at hk
 | k + 1, ⟨none, op, ty, ps, af, g⟩ :: r, hk, _ => by simp [skipOK] at hk
 | k + 1, ⟨some dd, op, ty, ps, af, g⟩ :: r, hk, h => by
  simp only [skipOK] at hk
  split at hk
  · rename_i hg
    split at hk
    · rename_i hb
      split at hk
      · rename_i hl
        refine sq0 hg hb ?_
        intro a w he hw
        exact ka k hk h a w (he.drop1 hl) hw
      · cases hk
    · cases hk
  · cases hk
end
end Go.Proofs.YtnfbcfflkphbiaaGreatDoor
