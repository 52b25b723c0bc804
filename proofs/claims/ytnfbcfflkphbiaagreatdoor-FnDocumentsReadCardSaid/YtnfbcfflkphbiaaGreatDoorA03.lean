/-
  Texts of the proof, joined: EM E10 E11. No Go text.
-/
import Derived.Test.YtnfbcfflkphbiaaGreatDoorA02
import Derived.OrdersHeld
import Derived.Test.YtnfbcfflkphbiaaGreatDoorA01
import Derived.ArgAppend
namespace Go.Proofs.YtnfbcfflkphbiaaGreatDoor
open Go Go.Proofs
set_option linter.all false
set_option maxRecDepth 100000
set_option maxHeartbeats 8000000
section
variable {P : Program} {ops : Array Oper} {Q : Exit → Act → World → Prop} {lo la : Nat → Bool} {S : World → Prop}
def wpM (P : Program) (ops : Array Oper) (lo la : Nat → Bool) (Q : Exit → Act → World → Prop) (S : World → Prop) : Nat → Array Bool → Act → World → Prop
 | 0, listed, a, w => Region.ready .any ops listed = [] ∧ Q .normal a w
 | f + 1, listed, a, w => (Region.ready .any ops listed = [] → Q .normal a w) ∧
  ∀ i ∈ Region.ready .any ops listed, if lo i = true then wpOp P ops Q i (fun a' w' => (la i = true ∨ S w') ∧ wpM P ops lo la Q S f (listed.setIfInBounds i true) a' w') a w else stOp P ops w i (fun a' => wpM P ops lo la Q S f (listed.setIfInBounds i true) a' w) a
theorem wpAny_of_M : ∀ (f : Nat) (listed : Array Bool) (a : Act) (w : World), wpM P ops lo la Q S f listed a w → wpAny P .any ops Q f listed a w
 | 0, _, _, _, h => h
 | f + 1, listed, a, w, h => by
  refine ⟨h.1, fun i hi => ?_⟩
  have := h.2 i hi
  split at this
  · exact wpOp_mono (fun a' w' h' => wpAny_of_M f _ a' w' h'.2) this
  · exact wpOp_of_stOp (fun a' h' => wpAny_of_M f _ a' w h') this
structure Clo (ops : Array Oper) (listed : Array Bool) : Prop where
 size : listed.size = ops.size
 closed : ∀ j oj, ops[j]? = some oj → listed.getD j false = true → ∀ e ∈ oj.after, Region.binds .any e = true → listed.getD e.on false = true
theorem Clo.start : Clo ops (Array.replicate ops.size false) := ⟨by simp, fun j oj _ hl => by rw [getD_replicate_false] at hl; cases hl⟩
theorem Clo.set {i : Nat} {listed : Array Bool} (h : Clo ops listed) (hi : i ∈ Region.ready .any ops listed) : Clo ops (listed.setIfInBounds i true) := by
 obtain ⟨_, oi, hoi, hall⟩ := mem_ready.1 hi
 refine ⟨by simp [h.size], fun j oj hj hl e he hb => ?_⟩
 by_cases hij : i = j
 · subst hij
   have : oj = oi := Option.some.inj (hj.symm.trans hoi)
   subst this
   exact getD_set_true (hall e he hb)
 · rw [getD_set_ne false hij] at hl
   exact getD_set_true (h.closed j oj hj hl e he hb)
def waits (ops : Array Oper) (i : Nat) : Nat → Nat → Bool
 | 0, _ => false
 | f + 1, j => match ops[j]? with
  | some oj => oj.after.any fun e => Region.binds .any e && (e.on == i || waits ops i f e.on)
  | none => false
theorem waits_listed {i : Nat} {listed : Array Bool} (h : Clo ops listed) : ∀ (f j : Nat) (oj : Oper), ops[j]? = some oj → (∀ e ∈ oj.after, Region.binds .any e = true → listed.getD e.on false = true) → waits ops i f j = true → listed.getD i false = true
 | 0, _, _, _, _, hw => by cases hw
 | f + 1, j, oj, hj, hall, hw => by
  simp only [waits, hj] at hw
  obtain ⟨e, he, hb⟩ := Array.any_eq_true'.1 hw
  simp only [Bool.and_eq_true, Bool.or_eq_true, beq_iff_eq] at hb
  have hon := hall e he hb.1
  rcases hb.2 with h1 | h1
  · rw [← h1]; exact hon
  · cases hk : ops[e.on]? with
    | none =>
     have : waits ops i f e.on = false := by cases f <;> simp [waits, hk]
     rw [this] at h1; cases h1
    | some ok => exact waits_listed h f e.on ok hk (h.closed e.on ok hk hon) h1
def domA (ops : Array Oper) (la : Nat → Bool) (i : Nat) : Bool := (List.range ops.size).all fun j => !la j || waits ops i ops.size j
theorem domA_spec {ops : Array Oper} {la : Nat → Bool} {i : Nat} (h : domA ops la i = true) {j : Nat} {oj : Oper} (ho : ops[j]? = some oj) (hl : la j = true) : waits ops i ops.size j = true := by
 simp only [domA, List.all_eq_true, List.mem_range, Bool.or_eq_true, Bool.not_eq_true'] at h
 rcases h j (Array.getElem?_eq_some_iff.1 ho).1 with h | h
 · rw [hl] at h; cases h
 · exact h
def domB (ops : Array Oper) (lo : Nat → Bool) (listed : Array Bool) (i : Nat) : Bool :=
 (List.range ops.size).all fun j => !lo j || listed.getD j true || waits ops i ops.size j
theorem domB_spec {i : Nat} {listed : Array Bool} (h : domB ops lo listed i = true) {j : Nat} (hj : lo j = true) (hu : listed.getD j true = false) (hs : listed.size = ops.size) : waits ops i ops.size j = true := by
 have hlt : j < ops.size := by
  rcases Nat.lt_or_ge j ops.size with h' | h'
  · exact h'
  · simp [Array.getElem?_eq_none (show listed.size ≤ j by omega)] at hu
 have := List.all_eq_true.1 h j (List.mem_range.2 hlt)
 simpa [hj, hu] using this
theorem M_take {i : Nat} {oi : Oper} {v : Value} (hi : ops[i]? = some oi) (hlo : lo i = false) (hsel : ∀ (j : Nat) (o : Oper) cs b, ops[j]? = some o → o.op ≠ .select cs b) {w : World} :
  ∀ (f : Nat) (listed : Array Bool) (a : Act), Clo ops listed → (∀ j, lo j = true → listed.getD j true = false → waits ops i ops.size j = true) →
    (∀ j oj, ops[j]? = some oj → j ≠ i → listed.getD j true = false → (∀ e ∈ oj.after, Region.binds .any e = true → e.on ≠ i) → oi.apart ops oj = true) →
    i ∈ Region.ready .any ops listed → YieldsAt P ops w oi v a →
    wpM P ops lo la Q S f (listed.setIfInBounds i true) (a.put oi.dst v) w → wpM P ops lo la Q S (f + 1) listed a w := by
 intro f
 induction f with
 | zero =>
  intro listed a hc hdom hfree hr hy H
  refine ⟨fun h => (by rw [h] at hr; cases hr), fun j hj => ?_⟩
  by_cases hji : j = i
  · subst hji; rw [if_neg (by simp [hlo])]; exact hy.stOp hi H
  · have := ready_mono hj hji
    rw [H.1] at this
    cases this
 | succ f ih =>
  intro listed a hc hdom hfree hr hy H
  refine ⟨fun h => (by rw [h] at hr; cases hr), fun j hj => ?_⟩
  by_cases hji : j = i
  · subst hji; rw [if_neg (by simp [hlo])]; exact hy.stOp hi H
  · have h1 := H.2 j (ready_mono hj hji)
    obtain ⟨hjun, oj, hoj, hall⟩ := mem_ready.1 hj
    have hiun := getD_both (mem_ready.1 hr).1
    by_cases hlj : lo j = true
    · have := waits_listed hc _ j oj hoj hall (hdom j hlj hjun)
      rw [hiun] at this
      cases this
    · rw [if_neg hlj] at h1 ⊢
      have hnot : ∀ e ∈ oj.after, Region.binds .any e = true → e.on ≠ i := fun e he hb heq => by
       have h3 := hall e he hb
       rw [heq, hiun] at h3
       cases h3
      have h2 := stOp_put hoj (hfree j oj hoj hji hjun hnot) (fun cs b => hsel i oi cs b hi) (fun cs b => hsel j oj cs b hoj) hy h1
      have hdom' : ∀ k, lo k = true → (listed.setIfInBounds j true).getD k true = false → waits ops i ops.size k = true := fun k hk hun => by
       refine hdom k hk ?_
       by_cases hjk : j = k
       · subst hjk; exact hjun
       · rw [getD_set_ne true hjk] at hun; exact hun
      have hfree' : ∀ k ok, ops[k]? = some ok → k ≠ i → (listed.setIfInBounds j true).getD k true = false → (∀ e ∈ ok.after, Region.binds .any e = true → e.on ≠ i) → oi.apart ops ok = true := fun k ok hk hki hun hno => by
       refine hfree k ok hk hki ?_ hno
       by_cases hjk : j = k
       · subst hjk; exact hjun
       · rw [getD_set_ne true hjk] at hun; exact hun
      refine stOp_mono (fun a' h3 => ih (listed.setIfInBounds j true) a' (hc.set hj) hdom' hfree' (ready_mono hr (Ne.symm hji)) h3.1 ?_) h2
      rw [Array.setIfInBounds_comm _ _ hji]
      exact h3.2
theorem M_take' {i : Nat} {oi : Oper} {v : Value} (hi : ops[i]? = some oi) (hlo : lo i = false) (hsel : ∀ (j : Nat) (o : Oper) cs b, ops[j]? = some o → o.op ≠ .select cs b)
  (hQ : ∀ c a w, Q (.panic c) (a.put oi.dst v) w → Q (.panic c) a w) :
  (hA : domA ops la i = true) → ∀ (f : Nat) (listed : Array Bool) (a : Act) (w : World), Clo ops listed →
    (∀ j oj, ops[j]? = some oj → j ≠ i → listed.getD j true = false → (∀ e ∈ oj.after, Region.binds .any e = true → e.on ≠ i) → oi.apart ops oj = true) →
    i ∈ Region.ready .any ops listed → YieldsIf P ops S oi v a → S w →
    wpM P ops lo la Q S f (listed.setIfInBounds i true) (a.put oi.dst v) w → wpM P ops lo la Q S (f + 1) listed a w := by
 have here : ∀ {a : Act} {w : World}, YieldsIf P ops S oi v a → S w → YieldsAt P ops w oi v a := fun h hs => h.imp (fun ⟨hw, hv⟩ => ⟨hw, .inl (hv _ hs)⟩) id
 intro hA f
 induction f with
 | zero =>
  intro listed a w hc hfree hr hy hS H
  refine ⟨fun h => (by rw [h] at hr; cases hr), fun j hj => ?_⟩
  by_cases hji : j = i
  · subst hji; rw [if_neg (by simp [hlo])]; exact (here hy hS).stOp hi H
  · have := ready_mono hj hji
    rw [H.1] at this
    cases this
 | succ f ih =>
  intro listed a w hc hfree hr hy hS H
  refine ⟨fun h => (by rw [h] at hr; cases hr), fun j hj => ?_⟩
  by_cases hji : j = i
  · subst hji; rw [if_neg (by simp [hlo])]; exact (here hy hS).stOp hi H
  · have h1 := H.2 j (ready_mono hj hji)
    obtain ⟨hjun, oj, hoj, hall⟩ := mem_ready.1 hj
    have hnot : ∀ e ∈ oj.after, Region.binds .any e = true → e.on ≠ i := fun e he hb heq => by
      have h3 := hall e he hb
      rw [heq, getD_both (mem_ready.1 hr).1] at h3
      cases h3
    have hfree' : ∀ k ok, ops[k]? = some ok → k ≠ i → (listed.setIfInBounds j true).getD k true = false → (∀ e ∈ ok.after, Region.binds .any e = true → e.on ≠ i) → oi.apart ops ok = true := fun k ok hk hki hun hno => by
      refine hfree k ok hk hki ?_ hno
      by_cases hjk : j = k
      · subst hjk; exact hjun
      · rw [getD_set_ne true hjk] at hun; exact hun
    have hap := hfree j oj hoj hji hjun hnot
    by_cases hlj : lo j = true
    · rw [if_pos hlj] at h1 ⊢
      have h2 := wpOp_putIf hoj hap (fun cs b => hsel i oi cs b hi) (fun cs b => hsel j oj cs b hoj) hQ hy h1
      have hns : la j ≠ true := fun hlj' => by
        have h8 := waits_listed hc ops.size j oj hoj hall (domA_spec hA hoj hlj')
        rw [getD_both (mem_ready.1 hr).1] at h8
        cases h8
      refine wpOp_mono (fun a' w' h3 => ⟨h3.2.1, ih (listed.setIfInBounds j true) a' w' (hc.set hj) hfree' (ready_mono hr (Ne.symm hji)) h3.1 (h3.2.1.resolve_left hns) ?_⟩) h2
      rw [Array.setIfInBounds_comm _ _ hji]
      exact h3.2.2
    · rw [if_neg hlj] at h1 ⊢
      obtain ⟨h4, h5, h6⟩ := Oper.apart_spec hap
      have keep : ∀ (a : Act), YieldsIf P ops S oi v a → ∀ u, YieldsIf P ops S oi v (a.put oj.dst u) := fun a hy u =>
        hy.of_same (execOp_put oi (fun cs b => hsel i oi cs b hi) a oj.dst u h6) (wanted_put oi a oj.dst u h6)
      have h2 := stOp_put hoj hap (fun cs b => hsel i oi cs b hi) (fun cs b => hsel j oj cs b hoj) (here (w := w) hy hS) h1
      have h7 : stOp P ops w j (fun a' => YieldsIf P ops S oi v a' ∧ wpM P ops lo la Q S f ((listed.setIfInBounds i true).setIfInBounds j true) (a'.put oi.dst v) w) a := by
        unfold stOp at h2 ⊢
        simp only [hoj] at h2 ⊢
        split
        · rename_i hw
          rw [if_pos hw] at h2
          unfold Oper.still at h2 ⊢
          generalize (execOp a.eval oj).run P w = r at *
          cases r with
          | ok n w' =>
           cases n <;> simp only [Oper.stillUpon] at h2 ⊢
           case value u => exact ⟨h2.1, keep a hy u, h2.2.2⟩
           case skip => exact ⟨h2.1, keep a hy _, h2.2.2⟩
           case enter f' args => obtain ⟨hw', u, hc, hn⟩ := h2; exact ⟨hw', u, hc, keep a hy u, hn.2⟩
          | halt x w' => simp only [Oper.stillUpon] at h2
        · rename_i hw
          rw [if_neg hw] at h2
          exact ⟨keep a hy _, h2.2⟩
      refine stOp_mono (fun a' h3 => ih (listed.setIfInBounds j true) a' w (hc.set hj) hfree' (ready_mono hr (Ne.symm hji)) h3.1 hS ?_) h7
      rw [Array.setIfInBounds_comm _ _ hji]
      exact h3.2
end
class PQ (Q : Exit → Act → World → Prop) : Prop where
 is : ∀ c a d v w, Q (.panic c) (Act.put a d v) w → Q (.panic c) a w
instance {K : Act → World → Prop} {Q : Exit → Act → World → Prop} [h : PQ Q] : PQ (Exit.then K Q) := ⟨fun c a d v w x => h.is c a d v w x⟩
instance {id : Nat} {Q : Exit → Act → World → Prop} [h : PQ Q] : PQ (Exit.inBlock id Q) := ⟨fun c a d v w x => h.is c a d v w x⟩
instance {P : Program} {fn : Func} {R : Ending → World → Prop} : PQ (bodyPost P fn R) := ⟨fun c a d v w x => by
 obtain ⟨h1, h2⟩ := x
 refine ⟨?_, h2⟩
 cases d <;> exact h1⟩
section
variable {P : Program} {n : Nat} {ds : List Deferred} {w0 : World} {D : List Nat} {H H' : zl} {E : Env} {ops : Array Oper} {Q : Exit → Act → World → Prop} {l : List Oper} {v : Value} {lo la : Nat → Bool} {f : Nat} {listed : Array Bool} {id : Nat}
def Sok (la : Nat → Bool) (Hs : zl) (i : Nat) (w : World) : Prop := la i = true ∨ HOK Hs w
def MQ (P : Program) (n : Nat) (ds : List Deferred) (w0 : World) (D : List Nat) (ops : Array Oper) (lo la : Nat → Bool) (Q : Exit → Act → World → Prop) (Hs : zl) (f : Nat) (listed : Array Bool) (H : zl) (E : Env) : Prop :=
 Clo ops listed → ∀ a w, EOK n ds E a → WOK false w0 D H w → HOK Hs w → wpM P ops lo la Q (HOK Hs) f listed a w
variable {Hs Hf : zl}
theorem hok_sel {w : World} [h : Sel H Hs Hf] (hk : HOK H w) : HOK Hs w := (hk.perm h.is).left
theorem ke (lo la : Nat → Bool) (Hs : zl) {Hf : zl} [Sel H Hs Hf] (hm : P.follows .mixedOrders = true) (h : MQ P n ds w0 D l.toArray lo la Q Hs l.toArray.size (Array.replicate l.toArray.size false) H E) : EV P n ds false w0 D (.region id l.toArray true) Q H E :=
 fun a w he hw => wp_region_any hm (wpAny_of_M _ _ _ _ (h Clo.start a _ he hw.drew (hok_sel hw.drew.hok)))
theorem yat {o : Oper} {a : Act} {w : World} (hg : gd ops E o.guard = some true) (he : EOK n ds E a) (hy : Yq P o a w v) : YieldsAt P ops w o v a := .inl ⟨ko he hg, hy⟩
def takeB (ops : Array Oper) (lo : Nat → Bool) (listed : Array Bool) (i : Nat) : Bool := Region.noSelect ops && Region.free .any ops listed i && (Region.ready .any ops listed).contains i && !lo i
theorem mqy (i : Nat) {d : Nat} {op : Op} {ty : TypeId} {ps : String} {af : Array Edge} {g : Option (Nat × Bool)} (hi : ops[i]? = some ⟨some d, op, ty, ps, af, g⟩)
  (hB : (takeB ops lo listed i && domB ops lo listed i) = true) (hg : gd ops E g = some true) (hd : Nat.blt d n = true) (h1 : QC P n ds false w0 D H E ⟨some d, op, ty, ps, af, g⟩ v)
  (h : MQ P n ds w0 D ops lo la Q Hs f (listed.setIfInBounds i true) H ((d, v) :: E)) : MQ P n ds w0 D ops lo la Q Hs (f + 1) listed H E := by
 intro hc a w he hw hS
 simp only [takeB, Bool.and_eq_true, Bool.not_eq_true'] at hB
 obtain ⟨⟨⟨⟨b1, b2⟩, b3⟩, b4⟩, b5⟩ := hB
 have hr : i ∈ Region.ready .any ops listed := by simpa using b3
 exact M_take hi b4 (Region.noSelect_spec b1) f listed a hc (fun j hj hu => domB_spec b5 hj hu hc.size) (Region.free_spec hi b2) hr (yat (o := ⟨some d, op, ty, ps, af, g⟩) hg he (h1 a w he hw)) (h (hc.set hr) _ _ (he.put hd v) hw hS)
theorem mq (i : Nat) {d : Nat} {op : Op} {ty : TypeId} {ps : String} {af : Array Edge} {g : Option (Nat × Bool)} (hi : ops[i]? = some ⟨some d, op, ty, ps, af, g⟩)
  (hB : (takeB ops lo listed i && domB ops lo listed i) = true) (hg : gd ops E g = some true) (hd : Nat.blt d n = true) (h1 : Q1 P n ds false w0 D H E ⟨some d, op, ty, ps, af, g⟩ v)
  (h : MQ P n ds w0 D ops lo la Q Hs f (listed.setIfInBounds i true) H ((d, v) :: E)) : MQ P n ds w0 D ops lo la Q Hs (f + 1) listed H E :=
 mqy i hi hB hg hd (fun a w he hw => .inl (h1 a w he hw)) h
theorem mqh (i : Nat) [hQ : PQ Q] {d : Nat} {op : Op} {ty : TypeId} {ps : String} {af : Array Edge} {g : Option (Nat × Bool)} (hi : ops[i]? = some ⟨some d, op, ty, ps, af, g⟩)
  (hB : (takeB ops lo listed i && domA ops la i) = true) (hg : gd ops E g = some true) (hd : Nat.blt d n = true)
  (h1 : ∀ w, Q1 P n ds false w (Hs.map (·.1)) Hs E ⟨some d, op, ty, ps, af, g⟩ v)
  (h : MQ P n ds w0 D ops lo la Q Hs f (listed.setIfInBounds i true) H ((d, v) :: E)) : MQ P n ds w0 D ops lo la Q Hs (f + 1) listed H E := by
 intro hc a w he hw hS
 simp only [takeB, Bool.and_eq_true, Bool.not_eq_true'] at hB
 obtain ⟨⟨⟨⟨b1, b2⟩, b3⟩, b4⟩, b5⟩ := hB
 have hr : i ∈ Region.ready .any ops listed := by simpa using b3
 refine M_take' hi b4 (Region.noSelect_spec b1) (fun c a w x => hQ.is c a _ _ w x) b5 f listed a w hc (Region.free_spec hi b2) hr (.inl ⟨ko (o := ⟨some d, op, ty, ps, af, g⟩) he hg, fun w' hS' => ?_⟩) hS (h (hc.set hr) _ _ (he.put hd v) hw hS)
 exact h1 w' a w' he ⟨hS', Kept.refl _ _, fun x hx => .inl (List.mem_map.2 ⟨x, hx, rfl⟩), fun e => by cases e⟩
theorem mql (i : Nat) {o : Oper} (hi : ops[i]? = some o) (hB : (decide (Region.ready .any ops listed = [i]) && lo i) = true)
  (h : Clo ops (listed.setIfInBounds i true) → SQ P n ds false w0 D ops Q (fun a w => Sok la Hs i w ∧ wpM P ops lo la Q (HOK Hs) f (listed.setIfInBounds i true) a w) H E [o]) : MQ P n ds w0 D ops lo la Q Hs (f + 1) listed H E := by
 intro hc a w he hw hS
 simp only [Bool.and_eq_true, decide_eq_true_eq] at hB
 refine ⟨fun h0 => (by rw [hB.1] at h0; cases h0), fun j hj => ?_⟩
 rw [hB.1] at hj
 obtain rfl : j = i := by simpa using hj
 rw [if_pos hB.2]
 have hr : j ∈ Region.ready .any ops listed := by rw [hB.1]; simp
 have := h (hc.set hr) a w he hw
 unfold wpOp
 simp only [hi]
 exact this
theorem mqn (i : Nat) [Sel H Hs Hf] (hc : Clo ops listed) (h : MQ P n ds w0 D ops lo la Q Hs f listed H E) : SQ P n ds false w0 D ops Q (fun a w => Sok la Hs i w ∧ wpM P ops lo la Q (HOK Hs) f listed a w) H E [] :=
 fun a w he hw => ⟨.inr (hok_sel hw.hok), h hc a w he hw (hok_sel hw.hok)⟩
theorem qJ (hB : decide (Region.ready .any ops listed = []) = true) (h : LF n ds false w0 D Q .normal H E) : MQ P n ds w0 D ops lo la Q Hs f listed H E := by
 intro _ a w he hw _
 have hr : Region.ready .any ops listed = [] := by simpa using hB
 cases f with
 | zero => exact ⟨hr, h a w he hw⟩
 | succ f => exact ⟨fun _ => h a w he hw, fun i hi => by rw [hr] at hi; cases hi⟩
theorem zO (i : Nat) (hl : la i = true) (hB : decide (Region.ready .any ops listed = []) = true) (h : LF n ds false w0 D Q .normal H E) : SQ P n ds false w0 D ops Q (fun a w => Sok la Hs i w ∧ wpM P ops lo la Q (HOK Hs) f listed a w) H E [] := by
 intro a w he hw
 have hr : Region.ready .any ops listed = [] := by simpa using hB
 refine ⟨.inl hl, ?_⟩
 cases f with
 | zero => exact ⟨hr, h a w he hw⟩
 | succ f => exact ⟨fun _ => h a w he hw, fun i hi => by rw [hr] at hi; cases hi⟩
end
def maskL : List Nat → Nat
 | [] => 0
 | t :: r => Nat.lor (Nat.shiftLeft 1 t) (maskL r)
theorem maskL_bit : ∀ (l : List Nat) (t : Nat), (maskL l).testBit t = true ↔ t ∈ l
 | [], t => by simp [maskL]
 | u :: r, t => by
  have ih := maskL_bit r t
  simp only [maskL]
  show (Nat.shiftLeft 1 u ||| maskL r).testBit t = true ↔ _
  have e : Nat.shiftLeft 1 u = 2 ^ u := by show 1 <<< u = _; simp [Nat.shiftLeft_eq]
  rw [Nat.testBit_or, e, Nat.testBit_two_pow, Bool.or_eq_true, ih]
  simp [eq_comm]
def force {α : Type} (x : Nat) (k : Nat → α) : α := match x with
 | 0 => k 0
 | n + 1 => k (n + 1)
theorem force_eq {α : Type} (x : Nat) (k : Nat → α) : force x k = k x := by cases x <;> rfl
def looksL (l : List Oper) (o : Oper) : List Nat :=
 (o.op.operands.toList.filterMap fun | .tmp t => some t | _ => none) ++
 (match o.guard with
  | some (g, _) => match nthO l g with
   | some x => x.dst.toList
   | none => []
  | none => [])
theorem looksL_eq (l : List Oper) (o : Oper) : o.looksAt l.toArray = looksL l o := by
 unfold Oper.looksAt looksL
 congr 1
 cases o.guard with
 | none => rfl
 | some g =>
  obtain ⟨g, b⟩ := g
  simp only [List.getElem?_toArray, nthO_get]
  cases l[g]? <;> rfl
def onsL (o : Oper) : List Nat := o.after.toList.filterMap fun e => match Region.binds .any e with
 | true => some e.on
 | false => none
theorem onsL_mem {o : Oper} {k : Nat} : k ∈ onsL o ↔ ∃ e ∈ o.after, Region.binds .any e = true ∧ e.on = k := by
 simp only [onsL, List.mem_filterMap, Array.mem_toList_iff]
 constructor
 · rintro ⟨e, he, h⟩
   split at h
   · rename_i hb; exact ⟨e, he, hb, by simpa using h⟩
   · cases h
 · rintro ⟨e, he, hb, rfl⟩
   exact ⟨e, he, by rw [hb]⟩
def dstsL (l : List Oper) : List Nat → List Nat
 | [] => []
 | k :: r => match nthO l k with
  | some o => match o.dst with
   | some d => d :: dstsL l r
   | none => dstsL l r
  | none => dstsL l r
theorem dstsL_mem {l : List Oper} {t : Nat} : ∀ {r : List Nat}, t ∈ dstsL l r → ∃ k ∈ r, ∃ o, l[k]? = some o ∧ o.dst = some t
 | [], h => by simp [dstsL] at h
 | k :: r, h => by
  simp only [dstsL] at h
  split at h
  · rename_i o ho
    rw [nthO_get] at ho
    split at h
    · rename_i d hd
      rcases List.mem_cons.1 h with rfl | h
      · exact ⟨k, by simp, o, ho, hd⟩
      · obtain ⟨k', h1, h2⟩ := dstsL_mem h; exact ⟨k', by simp [h1], h2⟩
    · obtain ⟨k', h1, h2⟩ := dstsL_mem h; exact ⟨k', by simp [h1], h2⟩
  · obtain ⟨k', h1, h2⟩ := dstsL_mem h; exact ⟨k', by simp [h1], h2⟩
def allLt (j : Nat) : List Nat → Bool
 | [] => true
 | k :: r => match Nat.blt k j with
  | true => allLt j r
  | false => false
theorem allLt_spec {j : Nat} : ∀ {r : List Nat}, allLt j r = true → ∀ k ∈ r, k < j
 | [], _, k, hk => by simp at hk
 | u :: r, h, k, hk => by
  simp only [allLt] at h
  split at h
  · rename_i hu
    rcases List.mem_cons.1 hk with rfl | hk
    · exact Nat.le_of_ble_eq_true hu
    · exact allLt_spec h k hk
  · cases h
def lexGo (l0 : List Oper) : List Oper → Nat → Nat → Nat → Bool
 | [], _, _, _ => true
 | o :: r, j, DM, LM => match allLt j (onsL o) with
  | false => false
  | true => force (maskL (looksL l0 o)) fun lk => force (maskL (dstsL l0 (onsL o))) fun em =>
   match Nat.beq (Nat.lor (Nat.land lk DM) em) em with
   | false => false
   | true => force (Nat.lor LM lk) fun LM' => match o.dst with
    | none => lexGo l0 r (j + 1) DM LM'
    | some d => force (Nat.shiftLeft 1 d) fun dm => match Nat.beq (Nat.land dm (Nat.lor DM LM)) 0 with
     | false => false
     | true => force (Nat.lor DM dm) fun DM' => lexGo l0 r (j + 1) DM' LM'
def noSel : List Oper → Bool
 | [] => true
 | o :: r => match o.op with
  | .select _ _ => false
  | _ => noSel r
def lexL (l : List Oper) : Bool := match noSel l with
 | true => lexGo l l 0 0 0
 | false => false
section
variable {l0 : List Oper}
def PairOK (l0 : List Oper) (k j : Nat) : Prop := ∀ ok oj, l0[k]? = some ok → l0[j]? = some oj → (∃ e ∈ oj.after, Region.binds .any e = true ∧ e.on = k) ∨ ok.apart l0.toArray oj = true
structure Pre (l0 : List Oper) (j DM LM : Nat) : Prop where
 dm : ∀ k o t, k < j → l0[k]? = some o → o.dst = some t → DM.testBit t = true
 lm : ∀ k o t, k < j → l0[k]? = some o → t ∈ looksL l0 o → LM.testBit t = true
 uniq : ∀ k k' o o' t, k < j → k' < j → l0[k]? = some o → l0[k']? = some o' → o.dst = some t → o'.dst = some t → k = k'
theorem lor_le {a b : Nat} (h : Nat.beq (Nat.lor a b) b = true) {t : Nat} (ha : a.testBit t = true) : b.testBit t = true := by
 have e : a ||| b = b := Nat.eq_of_beq_eq_true h
 rw [← e, Nat.testBit_or, ha]; rfl
theorem land_bit {a b t : Nat} (ha : a.testBit t = true) (hb : b.testBit t = true) : (Nat.land a b).testBit t = true := by
 show (a &&& b).testBit t = true
 rw [Nat.testBit_and, ha, hb]; rfl
theorem lexGo_spec : ∀ (r : List Oper) (j DM LM : Nat), (∀ i, r[i]? = l0[j + i]?) → Pre l0 j DM LM → lexGo l0 r j DM LM = true → ∀ j', j ≤ j' → (∀ oj, l0[j']? = some oj → ∀ e ∈ oj.after, Region.binds .any e = true → e.on < j') ∧ ∀ k, k < j' → PairOK l0 k j'
 | [], j, DM, LM, hl, hp, _ => by
  intro j' hj
  have hn : l0[j']? = none := by
    have := hl (j' - j)
    rw [show j + (j' - j) = j' by omega] at this
    simpa using this.symm
  exact ⟨fun oj ho => (by rw [hn] at ho; cases ho), fun k hk ok oj _ ho => (by rw [hn] at ho; cases ho)⟩
 | o :: r, j, DM, LM, hl, hp, h => by
  have h0 : l0[j]? = some o := by simpa using (hl 0).symm
  have hl' : ∀ i, r[i]? = l0[j + 1 + i]? := fun i => by
    have := hl (i + 1)
    rw [List.getElem?_cons_succ] at this
    rw [this]; congr 1; omega
  simp only [lexGo, force_eq] at h
  split at h
  · cases h
  rename_i hlt
  have hlt := allLt_spec hlt
  split at h
  · cases h
  rename_i hem
  have hedge : ∀ k ok t, k < j → l0[k]? = some ok → ok.dst = some t → t ∈ looksL l0 o → ∃ e ∈ o.after, Region.binds .any e = true ∧ e.on = k := by
    intro k ok t hk hok ht htl
    have hb := lor_le hem (land_bit ((maskL_bit _ _).2 htl) (hp.dm k ok t hk hok ht))
    obtain ⟨k', hk', o', ho', hd'⟩ := dstsL_mem ((maskL_bit _ _).1 hb)
    have := hp.uniq k k' ok o' t hk (hlt k' hk') hok ho' ht hd'
    subst this
    exact onsL_mem.1 hk'
  have hon : ∀ e ∈ o.after, Region.binds .any e = true → e.on < j := fun e he hb => hlt _ (onsL_mem.2 ⟨e, he, hb, rfl⟩)
  have key : ∀ (DM' : Nat), (∀ k o' t, k < j → l0[k]? = some o' → o'.dst = some t → o.dst ≠ some t) → (∀ k o' t, k < j → l0[k]? = some o' → t ∈ looksL l0 o' → o.dst ≠ some t) →
      (∀ t, DM.testBit t = true → DM'.testBit t = true) → (∀ t, o.dst = some t → DM'.testBit t = true) → lexGo l0 r (j + 1) DM' (Nat.lor LM (maskL (looksL l0 o))) = true →
      ∀ j', j ≤ j' → (∀ oj, l0[j']? = some oj → ∀ e ∈ oj.after, Region.binds .any e = true → e.on < j') ∧ ∀ k, k < j' → PairOK l0 k j' := by
    intro DM' hd1 hd2 hm1 hm2 hgo j' hj
    by_cases hjj : j' = j
    · subst hjj
      refine ⟨fun oj ho => (by rw [h0] at ho; cases ho; exact hon), fun k hk ok oj hok hoj => ?_⟩
      rw [h0] at hoj; cases hoj
      by_cases hc : ∃ t, ok.dst = some t ∧ t ∈ looksL l0 o
      · obtain ⟨t, h1, h2⟩ := hc
        exact .inl (hedge k ok t hk hok h1 h2)
      · refine .inr ?_
        unfold Oper.apart
        rw [looksL_eq, looksL_eq]
        have e1 : ∀ t, ok.dst = some t → o.dst ≠ some t := fun t ht => hd1 k ok t hk hok ht
        have e2 : ∀ t, o.dst = some t → t ∉ looksL l0 ok := fun t ht hm => hd2 k ok t hk hok hm ht
        cases hkd : ok.dst with
        | none => cases hod : o.dst with
          | none => simp
          | some d => simp [e2 d hod]
        | some d' =>
          have e3 : d' ∉ looksL l0 o := fun hm => hc ⟨d', hkd, hm⟩
          have e4 := e1 d' hkd
          cases hod : o.dst with
          | none => simp [e3]
          | some d => 
            have e5 := e2 d hod
            rw [hod] at e4
            simp [e3, e5]
            simpa using e4
    · refine lexGo_spec r (j + 1) DM' _ hl' ⟨?_, ?_, ?_⟩ hgo j' omT
      · intro k o' t hk ho ht
        by_cases hkj : k = j
        · subst hkj; rw [h0] at ho; cases ho; exact hm2 t ht
        · exact hm1 t (hp.dm k o' t omT ho ht)
      · intro k o' t hk ho ht
        show (LM ||| maskL (looksL l0 o)).testBit t = true
        rw [Nat.testBit_or, Bool.or_eq_true]
        by_cases hkj : k = j
        · subst hkj; rw [h0] at ho; cases ho; exact .inr ((maskL_bit _ _).2 ht)
        · exact .inl (hp.lm k o' t omT ho ht)
      · intro k k' o1 o2 t hk hk' h1 h2 hd hd'
        by_cases hkj : k = j
        · subst hkj; rw [h0] at h1; cases h1
          by_cases hkj' : k' = k
          · exact hkj'.symm
          · exact absurd hd (hd1 k' o2 t omT h2 hd')
        · by_cases hkj' : k' = j
          · subst hkj'; rw [h0] at h2; cases h2
            exact absurd hd' (hd1 k o1 t omT h1 hd)
          · exact hp.uniq k k' o1 o2 t omT omT h1 h2 hd hd'
  split at h
  · rename_i hnd
    exact key DM (fun k o' t _ _ _ e => by rw [hnd] at e; cases e) (fun k o' t _ _ _ e => by rw [hnd] at e; cases e) (fun _ h => h) (fun t e => by rw [hnd] at e; cases e) h
  · rename_i d hod
    split at h
    · cases h
    rename_i hz
    have hz : Nat.shiftLeft 1 d &&& (DM ||| LM) = 0 := Nat.eq_of_beq_eq_true hz
    have e : Nat.shiftLeft 1 d = 2 ^ d := by show 1 <<< d = _; simp [Nat.shiftLeft_eq]
    have hbit : (Nat.shiftLeft 1 d &&& (DM ||| LM)).testBit d = false := by rw [hz]; simp
    rw [Nat.testBit_and, e, Nat.testBit_two_pow, Nat.testBit_or] at hbit
    simp only [decide_true, Bool.true_and, Bool.or_eq_false_iff] at hbit
    refine key (Nat.lor DM (Nat.shiftLeft 1 d)) (fun k o' t hk ho ht e => ?_) (fun k o' t hk ho ht e => ?_) (fun t ht => ?_) (fun t ht => ?_) h
    · rw [hod] at e; cases e
      rw [hp.dm k o' d hk ho ht] at hbit; exact absurd hbit.1 (by simp)
    · rw [hod] at e; cases e
      rw [hp.lm k o' d hk ho ht] at hbit; exact absurd hbit.2 (by simp)
    · show (DM ||| _).testBit t = true
      rw [Nat.testBit_or, ht]; rfl
    · rw [hod] at ht; cases ht
      show (DM ||| Nat.shiftLeft 1 d).testBit d = true
      rw [Nat.testBit_or, e, Nat.testBit_two_pow]; simp
theorem lexFrom_of {ops : Array Oper} (h : ∀ j, (∀ oj, ops[j]? = some oj → ∀ e ∈ oj.after, Region.binds .any e = true → e.on < j) ∧ ∀ k, k < j → ∀ ok oj, ops[k]? = some ok → ops[j]? = some oj → (∃ e ∈ oj.after, Region.binds .any e = true ∧ e.on = k) ∨ ok.apart ops oj = true) :
  ∀ (fuel k : Nat) (listed : Array Bool), fuel + k = ops.size → listed.size = ops.size → (∀ i, i < ops.size → listed[i]? = some (decide (i < k))) → Region.lexFrom .any ops fuel k listed = true
 | 0, k, listed, hf, hs, hl => by
  simp only [Region.lexFrom, List.isEmpty_iff, Region.ready, List.filter_eq_nil_iff, List.mem_range]
  intro i hi
  have := hl i hi
  simp [Array.getD_eq_getD_getElem?, this]
  intro hk
  omega
 | fuel + 1, k, listed, hf, hs, hl => by
  have hk : k < ops.size := by omega
  simp only [Region.lexFrom, Bool.and_eq_true]
  refine ⟨⟨?_, ?_⟩, ?_⟩
  · simp only [Region.ready, List.contains_eq_mem, decide_eq_true_eq, List.mem_filter, List.mem_range, Bool.and_eq_true]
    refine ⟨hk, ?_, ?_⟩
    · simp [Array.getD_eq_getD_getElem?, hl k hk]
    · rw [Array.getElem?_eq_getElem hk]
      simp only [Option.map_some, Option.getD_some, Array.all_eq_true_iff_forall_mem, Bool.or_eq_true, Bool.not_eq_true']
      intro e he
      by_cases hb : Region.binds .any e = true
      · right
        have hlt := (h k).1 _ (Array.getElem?_eq_getElem hk) e he hb
        simp [Array.getD_eq_getD_getElem?, hl e.on omT, hlt]
      · left; simpa using hb
  · simp only [Region.free]
    rw [Array.getElem?_eq_getElem hk]
    simp only [List.all_eq_true, List.mem_range, Bool.or_eq_true, beq_iff_eq]
    intro j hj
    by_cases hjk : j = k
    · exact .inl (.inl hjk)
    · by_cases hlt : j < k
      · left; right
        simp [Array.getD_eq_getD_getElem?, hl j hj, hlt]
      · right
        rw [Array.getElem?_eq_getElem hj]
        rcases (h j).2 k omT _ _ (Array.getElem?_eq_getElem hk) (Array.getElem?_eq_getElem hj) with ⟨e, he, hb, ho⟩ | ha
        · simp only [Bool.or_eq_true]
          left
          rw [Array.any_eq_true']
          exact ⟨e, he, by simp [hb, ho]⟩
        · simp [ha]
  · refine lexFrom_of h fuel (k + 1) _ omT (by simpa using hs) fun i hi => ?_
    by_cases hik : k = i
    · subst hik
      simp [hs, hi]
    · rw [Array.getElem?_setIfInBounds_ne hik, hl i hi]
      congr 1
      simp only [decide_eq_decide]
      omega
theorem noSel_spec : ∀ {l : List Oper}, noSel l = true → ∀ o ∈ l, ∀ cs b, o.op ≠ .select cs b
 | [], _, o, ho => by simp at ho
 | x :: r, h, o, ho => by
  intro cs b e
  rcases List.mem_cons.1 ho with rfl | ho
  · simp [noSel, e] at h
  · refine noSel_spec (l := r) ?_ o ho cs b e
    revert h
    simp only [noSel]
    split
    · intro h; cases h
    · exact id
theorem lexL_spec {l : List Oper} (h : lexL l = true) : Region.lexB .any l.toArray = true := by
 unfold lexL at h
 split at h
 · rename_i hn
   simp only [Region.lexB, Bool.and_eq_true]
   refine ⟨?_, ?_⟩
   · simp only [Region.noSelect, Array.all_eq_true_iff_forall_mem]
     intro o ho
     have := noSel_spec hn o (by simpa using ho)
     cases hop : o.op <;> simp_all
   · refine lexFrom_of (fun j => ?_) _ 0 _ (by simp) (by simp) (fun i hi => by simp at hi; simp [hi])
     have hs := lexGo_spec (l0 := l) l 0 0 0 (by simp) ⟨fun k _ _ hk => absurd hk (Nat.not_lt_zero _), fun k _ _ hk => absurd hk (Nat.not_lt_zero _), fun k _ _ _ _ hk => absurd hk (Nat.not_lt_zero _)⟩ h j (Nat.zero_le _)
     refine ⟨fun oj hoj => hs.1 oj (by simpa using hoj), fun k hk ok oj hok hoj => hs.2 k hk ok oj (by simpa using hok) (by simpa using hoj)⟩
 · cases h
end
section
variable {P : Program} {n : Nat} {ds : List Deferred} {w0 : World} {D : List Nat} {H : zl} {E : Env} {Q : Exit → Act → World → Prop}
theorem kM {id : Nat} {l : List Oper} (hm : P.follows .mixedOrders = true) (hB : lexL l = true) (h : DQ P n ds false w0 D l.toArray (fun a w => Q .normal a w) H E l) : EV P n ds false w0 D (.region id l.toArray true) Q H E :=
 ev_draw hm (lexL_spec hB) h
end
section
variable {P : Program} {n : Nat} {ds : List Deferred} {pu : Bool} {w0 : World} {D : List Nat} {H H' : zl} {E : Env} {ops : Array Oper} {Q : Exit → Act → World → Prop} {Q' K : Act → World → Prop} {rest : List Oper}
theorem s_gen {dd : Nat} {op : Op} {ty : TypeId} {ps : String} {af : Array Edge} {g : Option (Nat × Bool)} (hg : gd ops E g = some true) (hd : Nat.blt dd n = true)
  (h : ∀ a w, EOK n ds E a → WOK pu w0 D H w → ∃ v w' H', (execOp a.eval ⟨some dd, op, ty, ps, af, g⟩).run P w = .ok (.value v) w' ∧ WOK pu w0 D H' w' ∧ SQ P n ds pu w0 D ops Q K H' ((dd, v) :: E) rest) : SQ P n ds pu w0 D ops Q K H E (⟨some dd, op, ty, ps, af, g⟩ :: rest) := by
 intro a w he hw
 simp only [wpK]
 rw [if_pos (ko (o := ⟨some dd, op, ty, ps, af, g⟩) he hg)]
 refine .inl ?_
 obtain ⟨v, w', H', h1, h2, h3⟩ := h a w he hw
 unfold Oper.wp
 rw [h1]
 exact h3 _ _ (he.put hd v) h2
theorem s_genn {op : Op} {ty : TypeId} {ps : String} {af : Array Edge} {g : Option (Nat × Bool)} (hg : gd ops E g = some true)
   (h : ∀ a w, EOK n ds E a → WOK pu w0 D H w → ∃ w' H', ((execOp a.eval ⟨none, op, ty, ps, af, g⟩).run P w = .ok .skip w' ∨ ∃ v, (execOp a.eval ⟨none, op, ty, ps, af, g⟩).run P w = .ok (.value v) w') ∧ WOK pu w0 D H' w' ∧ SQ P n ds pu w0 D ops Q K H' E rest) : SQ P n ds pu w0 D ops Q K H E (⟨none, op, ty, ps, af, g⟩ :: rest) := by
 intro a w he hw
 simp only [wpK]
 rw [if_pos (ko (o := ⟨none, op, ty, ps, af, g⟩) he hg)]
 refine .inl ?_
 obtain ⟨w', H', h1, h2, h3⟩ := h a w he hw
 unfold Oper.wp
 rcases h1 with h1 | ⟨v, h1⟩
 · rw [h1]; exact h3 _ _ (he.put_none _) h2
 · rw [h1]; exact h3 _ _ (he.put_none _) h2
theorem d_gen {dd : Nat} {op : Op} {ty : TypeId} {ps : String} {af : Array Edge} {g : Option (Nat × Bool)} (hg : gd ops E g = some true) (hd : Nat.blt dd n = true)
  (h : ∀ a w, EOK n ds E a → WOK pu w0 D H w → ∃ v, (execOp a.eval ⟨some dd, op, ty, ps, af, g⟩).run P w = .ok (.value v) w ∧ DQ P n ds pu w0 D ops Q' H ((dd, v) :: E) rest) : DQ P n ds pu w0 D ops Q' H E (⟨some dd, op, ty, ps, af, g⟩ :: rest) := by
 intro a w he hw
 simp only [wpStill]
 rw [if_pos (ko (o := ⟨some dd, op, ty, ps, af, g⟩) he hg)]
 obtain ⟨v, h1, h3⟩ := h a w he hw
 exact still_Yq (.inl h1) (h3 _ _ (he.put hd v) hw)
end
def anyO (t n : Nat) (p : Nat → Value → Prop) (o : Obj) : Prop := ∃ c : Array Value, o = .cells c t (0, 0) ∧ c.size = n ∧ ∀ k v, c[k]? = some v → p k v
def jkO (e N M : Nat) (o : Obj) : Prop := ∃ c : Array Value, o = .cells c e (0, 0) ∧ c.size = N ∧ M ≤ N ∧ ∀ k, k < M → ∃ z : Nat, z < 256 ∧ c[k]? = some (.int .u8 (z : Int))
def mapO (o : Obj) : Prop := ∃ es clock, o = .map es clock ∧ ∀ e ∈ es.toList, (∃ z, e.key = .int .i64 z) ∧ e.val = .int .i64 0
theorem like_any {t n : Nat} {p q : Nat → Value → Prop} (h : ∀ k v, p k v → q k v) : (Blk.obj (anyO t n p)).like (.obj (anyO t n q)) := by
 rintro o ⟨c, h1, h2, h3⟩
 exact ⟨c, h1, h2, fun k v hk => h k v (h3 k v hk)⟩
section
variable {pu : Bool} {w0 w : World} {D : List Nat} {H : zl}
theorem any_cell {t m b i : Nat} {p : Nat → Value → Prop} (h : HOK H w) (hm : (b, Blk.obj (anyO t m p)) ∈ H) (hi : i < m) : ∃ v, w.cell? ⟨b, i, none⟩ = some v ∧ p i v := by
 obtain ⟨o, ho, hk⟩ := h.ok _ _ hm
 obtain ⟨c, h1, h2, h3⟩ := hk
 refine ⟨c[i]'omT, by simp [World.cell?, ho, h1], h3 i _ (Array.getElem?_eq_getElem _)⟩
theorem any_frozen {t m b i : Nat} {p : Nat → Value → Prop} (h : HOK H w) (hm : (b, Blk.obj (anyO t m p)) ∈ H) : w.frozen? ⟨b, i, none⟩ = false := by
 obtain ⟨o, ho, hk⟩ := h.ok _ _ hm
 obtain ⟨c, h1, h2, h3⟩ := hk
 simp [World.frozen?, ho, h1]
theorem jk_cell {e N M b i : Nat} (h : HOK H w) (hm : (b, Blk.obj (jkO e N M)) ∈ H) (hi : i < M) : ∃ z : Nat, z < 256 ∧ w.cell? ⟨b, i, none⟩ = some (.int .u8 (z : Int)) := by
 obtain ⟨o, ho, hk⟩ := h.ok _ _ hm
 obtain ⟨c, h1, h2, _, h3⟩ := hk
 obtain ⟨z, hz, hc⟩ := h3 i hi
 exact ⟨z, hz, by simp [World.cell?, ho, h1, hc]⟩
theorem jk_there {e N M b i : Nat} (h : HOK H w) (hm : (b, Blk.obj (jkO e N M)) ∈ H) (hi : i < N) : (w.cell? ⟨b, i, none⟩).isSome = true := by
 obtain ⟨o, ho, hk⟩ := h.ok _ _ hm
 obtain ⟨c, h1, h2, _, h3⟩ := hk
 simp [World.cell?, ho, h1, h2, hi]
theorem jk_frozen {e N M b i : Nat} (h : HOK H w) (hm : (b, Blk.obj (jkO e N M)) ∈ H) : w.frozen? ⟨b, i, none⟩ = false := by
 obtain ⟨o, ho, hk⟩ := h.ok _ _ hm
 obtain ⟨c, h1, h2, h3⟩ := hk
 simp [World.frozen?, ho, h1]
theorem WOK.setany {t m b i : Nat} {p : Nat → Value → Prop} {l r : zl} {v : Value} (h : WOK false w0 D (l ++ (b, .obj (anyO t m p)) :: r) w) (hp : p i v) : WOK false w0 D (l ++ (b, .obj (anyO t m p)) :: r) (w.setCell ⟨b, i, none⟩ v) := by
 obtain ⟨o, ho, c, h1, h2, h3⟩ := h.hok.ok b (.obj (anyO t m p)) (by simp)
 refine h.repl rfl rfl rfl (by simp) (fun c' hc' => heap_set hc') (o := .cells (c.setIfInBounds i v) t (0, 0)) ?_ ⟨_, rfl, by simp [h2], fun k u hk => ?_⟩
 · simp [World.setCell, Array.getElem?_modify, ho, h1]
 · by_cases hik : i = k
   · subst hik
     by_cases hi : i < c.size
     · simp [hi] at hk; subst hk; exact hp
     · rw [Array.getElem?_eq_none (by simpa using hi)] at hk; cases hk
   · rw [Array.getElem?_setIfInBounds_ne hik] at hk
     exact h3 k u hk
theorem WOK.setsany {t m b : Nat} {p : Nat → Value → Prop} {l r : zl} : ∀ (vs : List Value) (o : Nat) {w : World}, WOK false w0 D (l ++ (b, .obj (anyO t m p)) :: r) w → (∀ j u, vs[j]? = some u → p (o + j) u) →
  WOK false w0 D (l ++ (b, .obj (anyO t m p)) :: r) (w.setCells b o vs)
 | [], _, _, h, _ => h
 | v :: vs, o, w, h, hp => WOK.setsany vs (o + 1) (h.setany (hp 0 v rfl)) fun j u hj => by
  have := hp (j + 1) u (by simpa using hj)
  rwa [show o + 1 + j = o + (j + 1) by omega]
theorem WOK.setjk {e N b : Nat} {l r : zl} : ∀ (vs : List Value) (M : Nat) {w : World}, WOK false w0 D (l ++ (b, .obj (jkO e N M)) :: r) w → ∀ o, o ≤ M → o + vs.length ≤ N → (∀ u ∈ vs, ∃ z : Nat, z < 256 ∧ u = .int .u8 (z : Int)) →
  WOK false w0 D (l ++ (b, .obj (jkO e N (max M (o + vs.length)))) :: r) (w.setCells b o vs)
 | [], M, w, h, o, ho, _, _ => by rw [show max M (o + ([] : List Value).length) = M by simp; omega]; exact h
 | v :: vs, M, w, h, o, ho, hN, hp => by
  have h1 : WOK false w0 D (l ++ (b, .obj (jkO e N (max M (o + 1)))) :: r) (w.setCell ⟨b, o, none⟩ v) := by
   obtain ⟨ob, hob, c, h1, h2, h2', h3⟩ := h.hok.ok b (.obj (jkO e N M)) (by simp)
   simp only [List.length_cons] at hN
   refine h.repl rfl rfl rfl (by simp) (fun c' hc' => heap_set hc') (o := .cells (c.setIfInBounds o v) e (0, 0)) ?_ ⟨_, rfl, by simp [h2], by omega, fun k hk => ?_⟩
   · simp [World.setCell, Array.getElem?_modify, hob, h1]
   · by_cases hik : o = k
     · subst hik
       obtain ⟨z, hz, he⟩ := hp v (by simp)
       exact ⟨z, hz, by
        have hlt : o < c.size := by omega
        simp [he, hlt]⟩
     · rw [Array.getElem?_setIfInBounds_ne hik]
       exact h3 k omT
  have := WOK.setjk vs (max M (o + 1)) h1 (o + 1) omT (by simp only [List.length_cons] at hN; omega) (fun u hu => hp u (List.mem_cons_of_mem _ hu))
  rw [show max M (o + (v :: vs).length) = max (max M (o + 1)) (o + 1 + vs.length) by simp only [List.length_cons]; omega]
  exact this
end
section
variable {P : Program} {n : Nat} {ds : List Deferred} {pu : Bool} {w0 : World} {D : List Nat} {H H' : zl} {E : Env} {ops : Array Oper} {Q : Exit → Act → World → Prop} {Q' K : Act → World → Prop} {rest : List Oper}
variable {ty : TypeId} {ps : String} {af : Array Edge} {g : Option (Nat × Bool)} {x y : Operand}
theorem wz {b o m rt : Nat} {p : Nat → Value → Prop} {l r : zl} : ∀ (vs : List Value) (j : Nat) {w : World}, WOK false w0 D (l ++ (b, .obj (anyO rt m p)) :: r) w → (∀ v ∈ vs, v.oneCell' = true) → o + j + vs.length ≤ m → (∀ i u, vs[i]? = some u → p (o + j + i) u) →
  ∃ w', (storeCells ⟨b, o, none⟩ vs j).run P w = .ok () w' ∧ WOK false w0 D (l ++ (b, .obj (anyO rt m p)) :: r) w'
 | [], _, w, hw, _, _, _ => ⟨w, rfl, hw⟩
 | v :: vs, j, w, hw, h1, hl, hp => by
  simp only [List.length_cons] at hl
  obtain ⟨u, hc, _⟩ := any_cell (i := o + j) (t := rt) (m := m) (p := p) (b := b) hw.hok (by simp) omT
  have hf := any_frozen (i := o + j) hw.hok (b := b) (t := rt) (m := m) (p := p) (by simp)
  obtain ⟨w2, h2, h3⟩ := wz (o := o) vs (j + 1) (hw.setany (v := v) (i := o + j) (hp 0 v rfl)) (fun u hu => h1 u (List.mem_cons_of_mem _ hu)) omT (fun i u hi => by
   have := hp (i + 1) u (by simpa using hi)
   rwa [show o + (j + 1) + i = o + j + (i + 1) by omega])
  refine ⟨w2, ?_, h3⟩
  simp only [storeCells, Sem.run_bind, kN, run_store P w _ v _ (h1 v (List.mem_cons_self ..)), hc, hf]
  simpa using h2
theorem l_stsany {d : Option Nat} {t b i m k rt : Nat} {vs : List Value} {p : Nat → Value → Prop} [hs : qi P t k] (hx : opv E x = some (.pointer (some ⟨b, i, none⟩))) (hy : opv E y = some (.agg vs.toArray)) (hv : allOne vs = true) [hh : Has H b (.obj (anyO rt m p))] (hk : vs.length = k) (hi : i + k ≤ m) (hp : ∀ j u, vs[j]? = some u → p (i + j) u) :
  L1 P n ds false w0 D H E ⟨d, .store t x y, ty, ps, af, g⟩ undef H := by
 intro a w he hw
 have hm := hh.mem
 obtain ⟨l, r, rfl⟩ := List.append_of_mem hm
 obtain ⟨w', h1, h2⟩ := wz (P := P) (o := i) vs 0 hw (kK hv) omT (fun j u hj => by simpa using hp j u hj)
 exact ⟨w', .inr ⟨by simp [execOp, he.eval hx, he.eval hy, Instr.storeAt, Instr.sureAddr, storeVar, run_size, Value.cells, hk, h1], rfl⟩, h2⟩
theorem s_append_any {t dd e sz bs b n0 cap m c b2 o2 : Nat} {z : Value} {p : Nat → Value → Prop} {news : List Value} {Hr : zl} [hs : Slc P t e sz bs] [hz : kI P e z] (hzs : z.cells.size = sz) (hg : gd ops E g = some true) (hd : Nat.blt dd n = true)
   (hx : opv E x = some (.slice (some ⟨b, 0, none⟩) n0 cap)) [hr : Rem H b (.obj (anyO e (cap * sz) p)) Hr] (hn : n0 ≤ cap) (hcap : cap ≤ 9223372036854775807)
   (hy : opv E y = some (.slice (some ⟨b2, o2, none⟩) m c)) (hnews : Src H b2 o2 news) (hl : news.length = m * sz) (h1 : ∀ u ∈ news, u.oneCell' = true)
   (hp : ∀ j u, news[j]? = some u → p (n0 * sz + j) u) (hpz : ∀ k v, z.cells[k % sz]? = some v → p k v)
   (h63 : n0 + m ≤ 9223372036854775807) (hb : (n0 + m) * bs ≤ 140737488355328) (hsz0 : 0 < sz)
   (h : ∀ b' cap', n0 + m ≤ cap' → cap' ≤ 9223372036854775807 → SQ P n ds false w0 D ops Q K ((b', .obj (anyO e (cap' * sz) p)) :: Hr) ((dd, .slice (some ⟨b', 0, none⟩) (n0 + m) cap') :: E) rest) :
   SQ P n ds false w0 D ops Q K H E (⟨some dd, .call ⟨.builtin .append, #[x, y], #[t, t]⟩, ty, ps, af, g⟩ :: rest) := by
 obtain ⟨l, r, rfl, rfl⟩ := hr.is
 obtain ⟨hu, i, hi, hsz, hbs⟩ := hs.is
 obtain ⟨i', hi', hz0⟩ := hz.is
 have e1 : i' = i := Option.some.inj (hi'.symm.trans hi)
 subst e1
 subst hsz hbs
 refine s_gen hg hd fun a w he hw => ?_
 have hmem : (b, Blk.obj (anyO e (cap * i'.size) p)) ∈ l ++ (b, .obj (anyO e (cap * i'.size) p)) :: r := by simp
 have hne : ∀ j u, news[j]? = some u → w.cell? ((⟨b2, o2, none⟩ : Addr).add j) = some u := fun j u hj => by rw [kN]; exact hnews w hw.hok j u hj
 by_cases hroom : n0 + m ≤ cap
 · have hfit : n0 * i'.size + news.length ≤ cap * i'.size := by rw [hl, ← Nat.add_mul]; exact Nat.mul_le_mul_right _ hroom
   have hrun := run_append_room_cells (P := P) w t ty e i' hu hi b 0 n0 cap ⟨b2, o2, none⟩ m c news hl hne h1 hroom (fun j hj => by
     obtain ⟨v, hv, _⟩ := any_cell (i := 0 + n0 * i'.size + j) hw.hok hmem omT
     rw [hv]; rfl) (fun j hj => any_frozen hw.hok hmem)
   refine ⟨_, _, _, by simp only [execOp, resolve, invoke, builtin, he.eval hx, he.eval hy, hrun, List.map_toArray, List.map_cons, List.map_nil, Sem.run_bind, Result.andThen_ok, Sem.run_pure]; rfl, WOK.front (WOK.setsany news _ hw fun j u hj => ?_), h b cap hroom hcap⟩
   rw [Nat.zero_add]; exact hp j u hj
 · obtain ⟨ob, hob, cur, hc1, hc2, hc3⟩ := hw.hok.ok _ _ hmem
   have hole : ((cur.toList.take (n0 * i'.size)).length = n0 * i'.size) := by
     rw [List.length_take, Array.length_toList, hc2]; exact Nat.min_eq_left (Nat.mul_le_mul_right _ hn)
   have holds : ∀ j u, (cur.toList.take (n0 * i'.size))[j]? = some u → w.cell? ((⟨b, 0, none⟩ : Addr).add j) = some u := fun j u hj => by
     rw [kN, Nat.zero_add]
     rw [List.getElem?_take] at hj
     split at hj
     · simpa [World.cell?, hob, hc1] using hj
     · cases hj
   have hrun := run_append_grow (P := P) w t ty e i' z hu hi hz0 ⟨b, 0, none⟩ n0 cap _ hole holds ⟨b2, o2, none⟩ m c news hl hne omT omT (growslice_fits omT hb)
   have hge := grownCap_ge w (n0 + m) cap e
   have hle := grownCap_le_maxLen w (n0 + m) cap e (by simp only [maxLen]; omega)
   refine ⟨_, _, _, by simp only [execOp, resolve, invoke, builtin, he.eval hx, he.eval hy, hrun, List.map_toArray, List.map_cons, List.map_nil, Sem.run_bind, Result.andThen_ok, Sem.run_pure]; rfl, WOK.alloc (w := w.drew) (WOK.drew (WOK.rem hw)) (k := .obj (anyO e (grownCap w (n0 + m) cap e * i'.size) p)) ⟨_, rfl, ?_, ?_⟩, h w.heap.size _ hge (by simp only [maxLen] at hle; omega)⟩
   · simp only [Array.size_append, List.size_toArray, size_zeroCells, hzs, hole, hl, ← Nat.add_mul]
     congr 1; omega
   · intro k u hk
     by_cases hk1 : k < n0 * i'.size
     · rw [Array.getElem?_append_left (by simp only [Array.size_append, List.size_toArray, hole]; omega), Array.getElem?_append_left (by simpa [hole] using hk1)] at hk
       rw [List.getElem?_toArray, List.getElem?_take, if_pos hk1] at hk
       exact hc3 k u (by simpa using hk)
     · by_cases hk2 : k < n0 * i'.size + news.length
       · rw [Array.getElem?_append_left (by simp only [Array.size_append, List.size_toArray, hole]; omega), Array.getElem?_append_right (by simp only [List.size_toArray, hole]; omega)] at hk
         simp only [List.size_toArray, hole, List.getElem?_toArray] at hk
         have := hp _ u hk
         rwa [show n0 * i'.size + (k - n0 * i'.size) = k by omega] at this
       · rw [Array.getElem?_append_right (by simp only [Array.size_append, List.size_toArray, hole]; omega)] at hk
         simp only [Array.size_append, List.size_toArray, hole, hl, ← Nat.add_mul] at hk
         have hk' := hk
         simp only [Builtin.zeroCells, Array.getElem?_map] at hk
         rw [Option.map_eq_some_iff] at hk
         obtain ⟨q, hq, hq2⟩ := hk
         have hqe : q = k - (n0 + m) * i'.size := by
          have := (Array.getElem?_eq_some_iff.1 hq).2
          simpa using this.symm
         have hqm : q % i'.size = k % i'.size := by
          have h3 : (n0 + m) * i'.size ≤ k := by rw [Nat.add_mul, ← hl]; omega
          rw [hqe]
          conv => rhs; rw [show k = (k - (n0 + m) * i'.size) + i'.size * (n0 + m) by rw [Nat.mul_comm i'.size]; omega]
          rw [Nat.add_mul_mod_self_left]
         refine hpz k u ?_
         rw [← hq2, hzs, hqm]
         have hlt : k % i'.size < z.cells.size := by rw [hzs]; exact Nat.mod_lt _ hsz0
         rw [getElem!_pos z.cells _ hlt]
         exact Array.getElem?_eq_getElem hlt
theorem s_append_anyn {t dd e sz bs m c b2 o2 : Nat} {z : Value} {p : Nat → Value → Prop} {news : List Value} [hs : Slc P t e sz bs] [hz : kI P e z] (hzs : z.cells.size = sz) (hg : gd ops E g = some true) (hd : Nat.blt dd n = true)
   (hx : opv E x = some (zS))
   (hy : opv E y = some (.slice (some ⟨b2, o2, none⟩) m c)) (hnews : Src H b2 o2 news) (hl : news.length = m * sz) (h0 : 0 < m)
   (hp : ∀ j u, news[j]? = some u → p j u) (hpz : ∀ k v, z.cells[k % sz]? = some v → p k v)
   (h63 : m ≤ 9223372036854775807) (hb : m * bs ≤ 140737488355328) (hsz0 : 0 < sz)
   (h : ∀ b' cap', m ≤ cap' → cap' ≤ 9223372036854775807 → SQ P n ds false w0 D ops Q K ((b', .obj (anyO e (cap' * sz) p)) :: H) ((dd, .slice (some ⟨b', 0, none⟩) m cap') :: E) rest) :
   SQ P n ds false w0 D ops Q K H E (⟨some dd, .call ⟨.builtin .append, #[x, y], #[t, t]⟩, ty, ps, af, g⟩ :: rest) := by
 obtain ⟨hu, i, hi, hsz, hbs⟩ := hs.is
 obtain ⟨i', hi', hz0⟩ := hz.is
 have e1 : i' = i := Option.some.inj (hi'.symm.trans hi)
 subst e1
 subst hsz hbs
 refine s_gen hg hd fun a w he hw => ?_
 have hne : ∀ j u, news[j]? = some u → w.cell? ((⟨b2, o2, none⟩ : Addr).add j) = some u := fun j u hj => by rw [kN]; exact hnews w hw.hok j u hj
 have hrun := run_append_nil (P := P) w t ty e i' z hu hi hz0 ⟨b2, o2, none⟩ m c news hl hne h0 omT omT
 have hge := grownCap_ge w m 0 e
 have hle := grownCap_le_maxLen w m 0 e (by simp only [maxLen]; omega)
 refine ⟨_, _, _, by simp only [execOp, resolve, invoke, builtin, he.eval hx, he.eval hy, hrun, List.map_toArray, List.map_cons, List.map_nil, Sem.run_bind, Result.andThen_ok, Sem.run_pure]; rfl, WOK.alloc (w := w.drew) (WOK.drew hw) (k := .obj (anyO e (grownCap w m 0 e * i'.size) p)) ⟨_, rfl, ?_, ?_⟩, h w.heap.size _ hge (by simp only [maxLen] at hle; omega)⟩
 · simp only [Array.size_append, List.size_toArray, size_zeroCells, hzs, hl, ← Nat.add_mul]
   congr 1; omega
 · intro k u hk
   by_cases hk2 : k < news.length
   · rw [Array.getElem?_append_left (by simpa using hk2)] at hk
     exact hp _ u (by simpa using hk)
   · rw [Array.getElem?_append_right (by simpa using hk2)] at hk
     simp only [List.size_toArray, hl] at hk
     simp only [Builtin.zeroCells, Array.getElem?_map] at hk
     rw [Option.map_eq_some_iff] at hk
     obtain ⟨q, hq, hq2⟩ := hk
     have hqe : q = k - m * i'.size := by
      have := (Array.getElem?_eq_some_iff.1 hq).2
      simpa using this.symm
     have hqm : q % i'.size = k % i'.size := by
      have h3 : m * i'.size ≤ k := by rw [← hl]; omega
      rw [hqe]
      conv => rhs; rw [show k = (k - m * i'.size) + i'.size * m by rw [Nat.mul_comm i'.size]; omega]
      rw [Nat.add_mul_mod_self_left]
     refine hpz k u ?_
     rw [← hq2, hzs, hqm]
     have hlt : k % i'.size < z.cells.size := by rw [hzs]; exact Nat.mod_lt _ hsz0
     rw [getElem!_pos z.cells _ hlt]
     exact Array.getElem?_eq_getElem hlt
end
end Go.Proofs.YtnfbcfflkphbiaaGreatDoor
