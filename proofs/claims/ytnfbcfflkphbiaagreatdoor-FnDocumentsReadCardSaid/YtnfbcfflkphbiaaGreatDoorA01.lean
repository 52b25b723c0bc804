/-
  Texts of the proof, joined: E0 ZT E1. No Go text.
-/
import Derived.WalkKit
import Derived.StillTail
namespace Go.Proofs.YtnfbcfflkphbiaaGreatDoor
open Go Go.Proofs
set_option linter.all false
set_option maxRecDepth 100000
set_option maxHeartbeats 8000000
abbrev Env := List (Nat × Value)
def look (t : Nat) : Env → Option Value
 | [] => none
 | (k, v) :: r => match Nat.beq k t with | true => some v | false => look t r
def opv (E : Env) : Operand → Option Value
 | .tmp t => look t E
 | .const v => some v
 | .global g => some (.pointer (some ⟨g, 0, none⟩))
 | .func f => some (.func (.func f) #[] #[])
def opvs (E : Env) : List Operand → Option (List Value)
 | [] => some []
 | x :: r => match opv E x with
  | some v => match opvs E r with
   | some l => some (v :: l)
   | none => none
  | none => none
structure EOK (n : Nat) (ds : List Deferred) (E : Env) (a : Act) : Prop where
 size : a.tmps.size = n
 defers : a.defers = ds
 env : ∀ t v, look t E = some v → a.tmps[t]? = some v
section
variable {n : Nat} {ds : List Deferred} {E : Env} {a : Act}
theorem look_cons {t k : Nat} {u v : Value} (h : look t ((k, u) :: E) = some v) : (k = t ∧ u = v) ∨ (k ≠ t ∧ look t E = some v) := by
 simp only [look] at h
 split at h
 · rename_i hb; exact .inl ⟨Nat.eq_of_beq_eq_true hb, by simpa using h⟩
 · rename_i hb; exact .inr ⟨Nat.ne_of_beq_eq_false hb, h⟩
theorem EOK.eval (h : EOK n ds E a) {x : Operand} {v : Value} (hx : opv E x = some v) : a.eval x = v := by
 cases x with
 | tmp t =>
  have := h.env t v hx
  simp [Act.eval, this]
 | const c => simpa [opv, Act.eval] using hx
 | global g => simpa [opv, Act.eval] using hx
 | func f => simpa [opv, Act.eval] using hx
theorem EOK.evals (h : EOK n ds E a) : ∀ {l : List Operand} {vs : List Value}, opvs E l = some vs → l.map a.eval = vs
 | [], vs, hl => by simp [opvs] at hl; simp [hl]
 | x :: r, vs, hl => by
  simp only [opvs] at hl
  split at hl
  · rename_i v hv
    split at hl
    · rename_i l' hl'
      simp at hl
      subst hl
      simp [h.eval hv, h.evals hl']
    · cases hl
  · cases hl
theorem EOK.put (h : EOK n ds E a) {d : Nat} (hd : Nat.blt d n = true) (v : Value) : EOK n ds ((d, v) :: E) (a.put (some d) v) := by
 have hd' : d < n := Nat.le_of_ble_eq_true hd
 refine ⟨by simp [Act.put, h.size], by simp [Act.put, h.defers], fun t u ht => ?_⟩
 simp only [Act.put]
 rcases look_cons ht with ⟨rfl, rfl⟩ | ⟨hk, ht⟩
 · simp [h.size, hd']
 · rw [Array.getElem?_setIfInBounds_ne hk]; exact h.env t u ht
theorem EOK.put_none (h : EOK n ds E a) (v : Value) : EOK n ds E (a.put none v) := h
def Sub (E : Env) : Env → Prop
 | [] => True
 | (k, v) :: r => look k E = some v ∧ Sub E r
theorem Sub.look {E : Env} : ∀ {E' : Env}, Sub E E' → ∀ {t v}, Go.Proofs.YtnfbcfflkphbiaaGreatDoor.look t E' = some v → Go.Proofs.YtnfbcfflkphbiaaGreatDoor.look t E = some v
 | [], _, _, _, h => by simp [Go.Proofs.YtnfbcfflkphbiaaGreatDoor.look] at h
 | (k, u) :: r, hs, t, v, h => by
  rcases look_cons h with ⟨rfl, rfl⟩ | ⟨_, h⟩
  · exact hs.1
  · exact Sub.look hs.2 h
theorem EOK.sub (h : EOK n ds E a) {E' : Env} (hs : Sub E E') : EOK n ds E' a := ⟨h.size, h.defers, fun t v ht => h.env t v (hs.look ht)⟩
end
structure Kept (O : Nat → Prop) (w w' : World) : Prop where
 os : w'.os = w.os
 tape : w'.tape = w.tape
 output : w'.output = w.output
 size : w.heap.size ≤ w'.heap.size
 block : ∀ b, b < w.heap.size → ¬ O b → w'.heap[b]? = w.heap[b]?
theorem Kept.refl (O : Nat → Prop) (w : World) : Kept O w w := ⟨rfl, rfl, rfl, Nat.le_refl _, fun _ _ _ => rfl⟩
inductive Blk where
 | cs (t : TypeId) (l : List Value) (ov : List (Nat × Value))
 | row (t : TypeId) (fr : Nat × Nat) (n : Nat) (f : Nat → Value)
 | buf (t : TypeId) (n : Nat) (l : List Value)
 | win (t : TypeId) (n lo hi : Nat) (f : Nat → Value)
 | raw (o : Obj)
 | obj (p : Obj → Prop)
def Blk.type : Blk → TypeId
 | .cs t _ _ => t
 | .row t _ _ _ => t
 | .buf t _ _ => t
 | .win t _ _ _ _ => t
 | .raw _ => 0
 | .obj _ => 0
def Blk.fr : Blk → Nat × Nat
 | .cs _ _ _ => (0, 0)
 | .row _ fr _ _ => fr
 | .buf _ _ _ => (0, 0)
 | .win _ _ _ _ _ => (0, 0)
 | .raw _ => (0, 0)
 | .obj _ => (0, 0)
def Blk.len : Blk → Nat
 | .cs _ l _ => l.length
 | .row _ _ n _ => n
 | .buf _ n _ => n
 | .win _ n _ _ _ => n
 | .raw _ => 0
 | .obj _ => 0
def Blk.known : Blk → Nat
 | .cs _ l _ => l.length
 | .row _ _ n _ => n
 | .buf _ _ l => l.length
 | .win _ _ _ hi _ => hi
 | .raw _ => 0
 | .obj _ => 0
def Blk.lo : Blk → Nat
 | .win _ _ lo _ _ => lo
 | .cs _ _ _ => 0
 | .row _ _ _ _ => 0
 | .buf _ _ _ => 0
 | .raw _ => 0
 | .obj _ => 0
def nth (l : List Value) (k : Nat) : Option Value := l[k]?
def Blk.cell : Blk → Nat → Option Value
 | .cs _ l ov, k => match look k ov with | some v => some v | none => nth l k
 | .row _ _ _ f, k => some (f k)
 | .buf _ _ l, k => nth l k
 | .win _ _ _ _ f, k => some (f k)
 | .raw _, _ => none
 | .obj _, _ => none
def Blk.isRaw : Blk → Option (Obj → Prop)
 | .raw o => some (fun x => x = o)
 | .obj p => some p
 | _ => none
def Blk.ok (b : Blk) (o : Obj) : Prop :=
 match b.isRaw with
 | some p => p o
 | none => ∃ c : Array Value, o = .cells c b.type b.fr ∧ c.size = b.len ∧ b.known ≤ b.len ∧ ∀ k, b.lo ≤ k → k < b.known → c[k]? = b.cell k
theorem Blk.ok.cells {b : Blk} {o : Obj} (h : b.ok o) (hl : 0 < b.len) : ∃ c : Array Value, o = .cells c b.type b.fr ∧ c.size = b.len ∧ b.known ≤ b.len ∧ ∀ k, b.lo ≤ k → k < b.known → c[k]? = b.cell k := by
 unfold Blk.ok at h
 split at h
 · rename_i o' ho
   cases b <;> simp [Blk.isRaw] at ho <;> simp [Blk.len] at hl
 · exact h
theorem Blk.ok.mk {b : Blk} {c : Array Value} (hr : b.isRaw = none) (h1 : c.size = b.len) (h2 : b.known ≤ b.len) (h3 : ∀ k, b.lo ≤ k → k < b.known → c[k]? = b.cell k) : b.ok (.cells c b.type b.fr) := by
 unfold Blk.ok
 rw [hr]
 exact ⟨c, rfl, h1, h2, h3⟩
abbrev zl := List (Nat × Blk)
structure HOK (H : zl) (w : World) : Prop where
 nodup : (H.map (·.1)).Nodup
 ok : ∀ b k, (b, k) ∈ H → ∃ o, w.heap[b]? = some o ∧ k.ok o
structure WOK (pu : Bool) (w0 : World) (D : List Nat) (H : zl) (w : World) : Prop where
 hok : HOK H w
 kept : Kept (· ∈ D) w0 w
 own : ∀ x ∈ H, x.1 ∈ D ∨ w0.heap.size ≤ x.1
 pure : pu = true → w = w0
theorem heap_set {w : World} {a : Addr} {v : Value} {b : Nat} (h : b ≠ a.block) : (w.setCell a v).heap[b]? = w.heap[b]? := by
 simp [World.setCell, Array.getElem?_modify, Ne.symm h]
theorem heap_new {w : World} {o : Obj} {b : Nat} (h : b < w.heap.size) : (w.alloc o).heap[b]? = w.heap[b]? := by
 simp only [World.alloc, Array.getElem?_push]
 rw [if_neg (by omega)]
theorem heap_new_at {w : World} {o : Obj} : (w.alloc o).heap[w.heap.size]? = some o := by
 simp only [World.alloc, Array.getElem?_push]
 simp
section
variable {pu : Bool} {w0 w : World} {D : List Nat} {H : zl}
theorem HOK.lt (h : HOK H w) {b : Nat} {k : Blk} (hm : (b, k) ∈ H) : b < w.heap.size := by
 obtain ⟨o, ho, _⟩ := h.ok b k hm
 exact (Array.getElem?_eq_some_iff.1 ho).1
theorem HOK.there (h : HOK H w) {b : Nat} {k : Blk} (hm : (b, k) ∈ H) {i : Nat} (hi : i < k.len) : ∃ u, w.cell? ⟨b, i, none⟩ = some u := by
 obtain ⟨o, ho, hk⟩ := h.ok b k hm
 obtain ⟨c, hc, hs, _, _⟩ := hk.cells (by omega)
 exact ⟨c[i]'(by omega), by simp [World.cell?, ho, hc]⟩
theorem HOK.cell (h : HOK H w) {b : Nat} {k : Blk} (hm : (b, k) ∈ H) {i : Nat} (hl : k.lo ≤ i) (hi : i < k.known) : w.cell? ⟨b, i, none⟩ = k.cell i := by
 obtain ⟨o, ho, hk⟩ := h.ok b k hm
 unfold Blk.ok at hk
 split at hk
 · rename_i o' hr
   cases k <;> simp [Blk.isRaw] at hr <;> simp [Blk.known] at hi
 · obtain ⟨c, hc, _, _, hk⟩ := hk
   simp [World.cell?, ho, hc, hk i hl hi]
theorem HOK.frozen (h : HOK H w) {b : Nat} {k : Blk} (hm : (b, k) ∈ H) (hl : 0 < k.len) (hf : k.fr = (0, 0)) (i : Nat) : w.frozen? ⟨b, i, none⟩ = false := by
 obtain ⟨o, ho, hk⟩ := h.ok b k hm
 obtain ⟨c, hc, _, _, _⟩ := hk.cells hl
 simp [World.frozen?, ho, hc, hf]
theorem WOK.drew (h : WOK false w0 D H w) : WOK false w0 D H { w with drawn := w.drawn + 1 } :=
 ⟨⟨h.hok.nodup, h.hok.ok⟩, ⟨h.kept.os, h.kept.tape, h.kept.output, h.kept.size, h.kept.block⟩, h.own, fun e => by cases e⟩
class Has (H : zl) (b : Nat) (k : outParam Blk) : Prop where
 mem : (b, k) ∈ H
instance {b : Nat} {k : Blk} {r : zl} : Has ((b, k) :: r) b k := ⟨by simp⟩
instance {b : Nat} {k : Blk} {x : Nat × Blk} {r : zl} [h : Has r b k] : Has (x :: r) b k := ⟨List.mem_cons_of_mem _ h.mem⟩
class Upd (H : zl) (b : Nat) (k : Blk) (H' : outParam zl) : Prop where
 is : ∃ l k0 r, H = l ++ (b, k0) :: r ∧ H' = l ++ (b, k) :: r
instance {b : Nat} {k k0 : Blk} {r : zl} : Upd ((b, k0) :: r) b k ((b, k) :: r) := ⟨[], k0, r, rfl, rfl⟩
instance {b : Nat} {k : Blk} {x : Nat × Blk} {r r' : zl} [h : Upd r b k r'] : Upd (x :: r) b k (x :: r') := ⟨by
 obtain ⟨l, k0, s, h1, h2⟩ := h.is
 exact ⟨x :: l, k0, s, by simp [h1], by simp [h2]⟩⟩
class Rem (H : zl) (b : Nat) (k : outParam Blk) (H' : outParam zl) : Prop where
 is : ∃ l r, H = l ++ (b, k) :: r ∧ H' = l ++ r
instance {b : Nat} {k : Blk} {r : zl} : Rem ((b, k) :: r) b k r := ⟨[], r, rfl, rfl⟩
instance {b : Nat} {k : Blk} {x : Nat × Blk} {r r' : zl} [h : Rem r b k r'] : Rem (x :: r) b k (x :: r') := ⟨by
 obtain ⟨l, s, h1, h2⟩ := h.is
 exact ⟨x :: l, s, by simp [h1], by simp [h2]⟩⟩
theorem WOK.set {b i : Nat} {k k0 : Blk} {v : Value} {l r : zl} (h : WOK false w0 D (l ++ (b, k0) :: r) w) (hi : i < k0.len) (ht : k.type = k0.type) (hfr : k.fr = k0.fr) (hn : k.len = k0.len)
   (hr : k.isRaw = none) (hkn : k.known ≤ k.len)
   (hs : k.lo ≤ i → i < k.known → k.cell i = some v) (ho : ∀ j, k.lo ≤ j → j < k.known → j ≠ i → k0.lo ≤ j ∧ j < k0.known ∧ k.cell j = k0.cell j) : WOK false w0 D (l ++ (b, k) :: r) (w.setCell ⟨b, i, none⟩ v) := by
 have hnd := h.hok.nodup
 have hmap : (l ++ (b, k) :: r).map (·.1) = (l ++ (b, k0) :: r).map (·.1) := by simp
 refine ⟨⟨by rw [hmap]; exact hnd, fun b' k' hm => ?_⟩, ⟨h.kept.os, h.kept.tape, h.kept.output, by simpa using h.kept.size, fun c hc hd => ?_⟩, fun x hx => ?_, fun e => by cases e⟩
 · by_cases hb : b' = b
   · subst hb
     have hk : k' = k := by
       have hnd2 : ((l ++ (b', k) :: r).map (·.1)).Nodup := by rw [hmap]; exact hnd
       rw [List.map_append, List.nodup_append] at hnd2
       simp only [List.map_cons, List.nodup_cons] at hnd2
       rcases List.mem_append.1 hm with hm | hm
       · exact absurd rfl (hnd2.2.2 b' (List.mem_map.2 ⟨_, hm, rfl⟩) b' (by simp))
       · rcases List.mem_cons.1 hm with hm | hm
         · exact (Prod.mk.inj hm).2
         · exact absurd (List.mem_map.2 ⟨_, hm, rfl⟩) hnd2.2.1.1
     subst hk
     obtain ⟨o, ho', hk0⟩ := h.hok.ok b' k0 (by simp)
     obtain ⟨c, hc, hsz, _, hcell⟩ := hk0.cells (by omega)
     refine ⟨.cells (c.setIfInBounds i v) k'.type k'.fr, ?_, Blk.ok.mk hr (by simp [hsz, hn]) hkn fun j hl hj => ?_⟩
     · simp [World.setCell, Array.getElem?_modify, ho', hc, ht, hfr]
     · by_cases hji : j = i
       · subst hji; rw [hs hl hj]; simp [hsz, hi]
       · rw [Array.getElem?_setIfInBounds_ne (Ne.symm hji), hcell j (ho j hl hj hji).1 (ho j hl hj hji).2.1, (ho j hl hj hji).2.2]
   · have hm' : (b', k') ∈ l ++ (b, k0) :: r := by
       rcases List.mem_append.1 hm with hm | hm
       · exact List.mem_append_left _ hm
       · rcases List.mem_cons.1 hm with hm | hm
         · exact absurd (Prod.mk.inj hm).1 hb
         · exact List.mem_append_right _ (List.mem_cons_of_mem _ hm)
     obtain ⟨o, ho', hk⟩ := h.hok.ok b' k' hm'
     exact ⟨o, by rw [heap_set hb]; exact ho', hk⟩
 · have hcb : c ≠ b := by
     intro e
     subst e
     rcases h.own (c, k0) (by simp) with h1 | h1
     · exact hd h1
     · simp at h1; omega
   rw [heap_set hcb]
   exact h.kept.block c hc hd
 · have : x.1 ∈ (l ++ (b, k0) :: r).map (·.1) := by rw [← hmap]; exact List.mem_map.2 ⟨x, hx, rfl⟩
   obtain ⟨y, hy, he⟩ := List.mem_map.1 this
   rw [← he]
   exact h.own y hy
theorem WOK.alloc {k : Blk} {o : Obj} (h : WOK false w0 D H w) (hk : k.ok o) : WOK false w0 D ((w.heap.size, k) :: H) (w.alloc o) := by
 refine ⟨⟨?_, fun b k' hm => ?_⟩, ⟨h.kept.os, h.kept.tape, h.kept.output, by simpa using Nat.le_succ_of_le h.kept.size, fun c hc hd => ?_⟩, fun x hx => ?_, fun e => by cases e⟩
 · simp only [List.map_cons, List.nodup_cons]
   refine ⟨fun hm => ?_, h.hok.nodup⟩
   obtain ⟨⟨b, k'⟩, hy, he⟩ := List.mem_map.1 hm
   have := h.hok.lt hy
   simp at he
   omega
 · rcases List.mem_cons.1 hm with hm | hm
   · obtain ⟨rfl, rfl⟩ := Prod.mk.inj hm
     exact ⟨o, heap_new_at, hk⟩
   · obtain ⟨o', ho', hk'⟩ := h.hok.ok b k' hm
     exact ⟨o', by rw [heap_new (h.hok.lt hm)]; exact ho', hk'⟩
 · rw [heap_new (Nat.lt_of_lt_of_le hc h.kept.size)]
   exact h.kept.block c hc hd
 · rcases List.mem_cons.1 hx with rfl | hx
   · exact .inr h.kept.size
   · exact h.own x hx
def Blk.like (k k' : Blk) : Prop := ∀ o, k.ok o → k'.ok o
theorem Blk.ok.like {k k' : Blk} {o : Obj} (h : k.ok o) (hl : k.like k') : k'.ok o := hl o h
theorem Blk.likeS {k k' : Blk} (h : k.isRaw = none ∧ k'.isRaw = none ∧ k'.type = k.type ∧ k'.fr = k.fr ∧ k'.len = k.len ∧ k'.known ≤ k'.len ∧ ∀ i, k'.lo ≤ i → i < k'.known → k.lo ≤ i ∧ i < k.known ∧ k'.cell i = k.cell i) : k.like k' := by
 obtain ⟨r1, r2, l1, l2, l3, l4, l5⟩ := h
 intro o h
 unfold Blk.ok at *
 rw [r1] at h
 rw [r2]
 obtain ⟨c, h1, h2, h3, h4⟩ := h
 exact ⟨c, by rw [l1, l2]; exact h1, by rw [l3]; exact h2, l4, fun i h0 hi => by rw [(l5 i h0 hi).2.2]; exact h4 i (l5 i h0 hi).1 (l5 i h0 hi).2.1⟩
def flat (l : List Value) (ov : List (Nat × Value)) : Nat → List Value
 | 0 => []
 | n + 1 => match (Blk.cs 0 l ov).cell (l.length - (n + 1)) with
  | some v => v :: flat l ov n
  | none => flat l ov n
theorem flat_get {l : List Value} {ov : List (Nat × Value)} : ∀ (n i : Nat), n ≤ l.length → i < n → (flat l ov n)[i]? = (Blk.cs 0 l ov).cell (l.length - n + i)
 | 0, i, _, hi => by omega
 | n + 1, i, hn, hi => by
  have hc : ∃ v, (Blk.cs 0 l ov).cell (l.length - (n + 1)) = some v := by
   simp only [Blk.cell]
   split
   · exact ⟨_, rfl⟩
   · exact ⟨l[l.length - (n + 1)], by simp [nth]⟩
  obtain ⟨v, hv⟩ := hc
  simp only [flat, hv]
  cases i with
  | zero => simp [hv]
  | succ i =>
   rw [List.getElem?_cons_succ, flat_get n i (by omega) (by omega)]
   congr 1
   omega
theorem flat_length {l : List Value} {ov : List (Nat × Value)} : ∀ (n : Nat), n ≤ l.length → (flat l ov n).length = n
 | 0, _ => rfl
 | n + 1, hn => by
  have hc : ∃ v, (Blk.cs 0 l ov).cell (l.length - (n + 1)) = some v := by
   simp only [Blk.cell]
   split
   · exact ⟨_, rfl⟩
   · exact ⟨l[l.length - (n + 1)], by simp [nth]⟩
  obtain ⟨v, hv⟩ := hc
  simp only [flat, hv, List.length_cons]; rw [flat_length n (by omega)]
theorem Blk.like_rec {t : TypeId} {l l' : List Value} {ov : List (Nat × Value)} (h : flat l ov l.length = l') : (Blk.cs t l ov).like (Blk.cs t l' []) := by
 subst h
 have hfl := flat_length (l := l) (ov := ov) l.length (Nat.le_refl _)
 refine Blk.likeS ⟨rfl, rfl, rfl, rfl, hfl, Nat.le_refl _, fun i _ hi => ?_⟩
 simp only [Blk.known] at hi
 have := flat_get (l := l) (ov := ov) l.length i (Nat.le_refl _) (by omega)
 rw [Nat.sub_self, Nat.zero_add] at this
 exact ⟨Nat.zero_le _, by simp only [Blk.known]; omega, this⟩
theorem WOK.like {b : Nat} {k k0 : Blk} {l r : zl} (h : WOK pu w0 D (l ++ (b, k0) :: r) w) (hl : k0.like k) : WOK pu w0 D (l ++ (b, k) :: r) w := by
 have hmap : (l ++ (b, k) :: r).map (·.1) = (l ++ (b, k0) :: r).map (·.1) := by simp
 refine ⟨⟨by rw [hmap]; exact h.hok.nodup, fun b' k' hm => ?_⟩, h.kept, fun x hx => ?_, h.pure⟩
 · rcases List.mem_append.1 hm with hm | hm
   · exact h.hok.ok b' k' (List.mem_append_left _ hm)
   · rcases List.mem_cons.1 hm with hm | hm
     · obtain ⟨rfl, rfl⟩ := Prod.mk.inj hm
       obtain ⟨o, ho, hk⟩ := h.hok.ok b' k0 (by simp)
       exact ⟨o, ho, hk.like hl⟩
     · exact h.hok.ok b' k' (List.mem_append_right _ (List.mem_cons_of_mem _ hm))
 · have : x.1 ∈ (l ++ (b, k0) :: r).map (·.1) := by rw [← hmap]; exact List.mem_map.2 ⟨x, hx, rfl⟩
   obtain ⟨y, hy, he⟩ := List.mem_map.1 this
   rw [← he]
   exact h.own y hy
end
theorem omT {p : Prop} (h : p := by first | omega | (dsimp only; omega) | (dsimp only at *; omega)) : p := h
theorem suT {p : Prop} (h : p := by repeat (first | exact trivial | refine ⟨rfl, ?_⟩)) : p := h
theorem wlT {p : Prop} (h : p := by repeat (first | exact rfl | exact trivial | refine ⟨rfl, .inr (Blk.like_rec (by kernel_rfl)), ?_⟩ | refine ⟨rfl, .inl rfl, ?_⟩)) : p := h
theorem kR {p : Prop} (h : p := by kernel_rfl) : p := h
theorem lnZ {p : Prop} (h : p := by (try simp only [List.length_append, List.length_cons, List.length_nil, List.length_replicate]); omega) : p := h
theorem clT {p : Prop} (h : p := by dsimp only [Value.cells]; try exact rfl) : p := h
theorem roT {p : Prop} (h : p := by first | rfl | omega) : p := h
abbrev zI : Value := .int .i64 0
abbrev zS : Value := .slice none 0 0
abbrev pV (b : Nat) : Value := .pointer (some ⟨b, 0, none⟩)
structure Hid (p : Prop) : Prop where
  o : p
structure Fu (n : Nat) (p : Prop) : Prop where
  o : p
theorem Fu.nl {p : Prop} (h : p) : Fu 0 p := ⟨h⟩
theorem Fu.st {p q : Prop} {n : Nat} (f : q → p) (h : Fu n q) : Fu (n + 1) p := ⟨f h.o⟩
theorem lS {p q : Prop} (k : q) (h : Hid q → p := by intro h; simp only [List.cons_append, List.nil_append]; exact h.1) : p := h ⟨k⟩
class qn (P : Program) (t : Nat) : Prop where
 is : ∃ d, P.underlying t = some d ∧ (match d with | .struct _ | .array _ _ => false | _ => true) = true
class qR (P : Program) (t : Nat) (n : outParam Nat) : Prop where
 is : ∃ d i, P.underlying t = some d ∧ (match d with | .struct _ | .array _ _ => true | _ => false) = true ∧ P.info? t = some i ∧ i.size = n
class Fld (P : Program) (s f : Nat) (k : outParam Nat) : Prop where
 is : ∃ fs fd i, P.underlying s = some (.struct fs) ∧ fs[f]? = some fd ∧ fd.offset = k ∧ P.info? fd.type = some i ∧ i.size ≠ 0
class Slc (P : Program) (t : Nat) (e sz bs : outParam Nat) : Prop where
 is : P.underlying t = some (.slice e) ∧ ∃ i, P.info? e = some i ∧ i.size = sz ∧ i.bytes = bs
class qi (P : Program) (t : Nat) (n : outParam Nat) : Prop where
 is : ∃ i, P.info? t = some i ∧ i.size = n
class kI (P : Program) (t : Nat) (z : outParam Value) : Prop where
 is : ∃ i, P.info? t = some i ∧ i.zero = some z
class Strg (P : Program) (t : Nat) : Prop where
 is : P.underlying t = some .string
section
variable {P : Program} {w : World}
theorem zv {t : TypeId} {d : TypeDesc} (h : P.underlying t = some d) : (underlying t).run P w = .ok d w := by
 simp [underlying, h]
theorem wk {t : TypeId} {i : TypeInfo} (h : P.info? t = some i) : (typeInfo t).run P w = .ok i w := by
 simp [typeInfo, h]
theorem zX {t : TypeId} {i : TypeInfo} (h : P.info? t = some i) : (sizeOf t).run P w = .ok i.size w := by
 simp [sizeOf, wk h]
theorem qj {t : TypeId} [h : qn P t] : (isAgg t).run P w = .ok false w := by
 obtain ⟨d, h1, h2⟩ := h.is
 simp only [isAgg, Sem.run_bind, zv h1, Result.andThen_ok]
 cases d <;> first | rfl | (simp at h2)
theorem kO {t n : TypeId} [h : qR P t n] : (isAgg t).run P w = .ok true w := by
 obtain ⟨d, i, h1, h2, _⟩ := h.is
 simp only [isAgg, Sem.run_bind, zv h1, Result.andThen_ok]
 cases d <;> first | rfl | (simp at h2)
theorem run_size {t n : Nat} [h : qi P t n] : (sizeOf t).run P w = .ok n w := by
 obtain ⟨i, h1, h2⟩ := h.is
 rw [zX h1, h2]
theorem kN (b o k : Nat) : (⟨b, o, none⟩ : Addr).add k = ⟨b, o + k, none⟩ := by
 unfold Addr.add
 split <;> simp_all
end
theorem run_equalIn_nil_iface {P : Program} (w : World) (d : Nat) (t et : TypeId) (ea : Value) {ms : Array (String × TypeId)} (h : P.underlying t = some (.interface ms)) :
  (Op.equalIn (d + 1) t .nilIface (.iface et ea)).run P w = .ok false w := by
 simp [Op.equalIn, underlying, program, Sem.run, Bind.bind, Sem.bind, h, Pure.pure]
theorem run_equalIn_nil_nil {P : Program} (w : World) (d : Nat) (t : TypeId) {ms : Array (String × TypeId)} (h : P.underlying t = some (.interface ms)) :
  (Op.equalIn (d + 1) t .nilIface .nilIface).run P w = .ok true w := by
 simp [Op.equalIn, underlying, program, Sem.run, Bind.bind, Sem.bind, h, Pure.pure]
theorem run_eql_nil_iface {P : Program} (w : World) (t et : TypeId) (ea : Value) {ms : Array (String × TypeId)} (h : P.underlying t = some (.interface ms)) :
  (binOp .eql t .nilIface (.iface et ea)).run P w = .ok (.bool false) w := by
 simp [binOp, Op.equal, Op.maxDepth, run_equalIn_nil_iface w 9999 t et ea h]
theorem run_neq_nil_nil {P : Program} (w : World) (t : TypeId) {ms : Array (String × TypeId)} (h : P.underlying t = some (.interface ms)) :
  (binOp .neq t .nilIface .nilIface).run P w = .ok (.bool false) w := by
 simp [binOp, Op.equal, Op.maxDepth, run_equalIn_nil_nil w 9999 t h]
theorem run_equalIn_func_nil {P : Program} (w : World) (d : Nat) (t : TypeId) (f : Fn) (x y : Array Value) {ps rs : Array TypeId} {v : Bool} (h : P.underlying t = some (.func ps rs v)) :
  (Op.equalIn (d + 1) t (.func f x y) .nilFunc).run P w = .ok false w := by
 simp [Op.equalIn, underlying, program, Sem.run, Bind.bind, Sem.bind, h, Pure.pure]
theorem run_eql_func_nil {P : Program} (w : World) (t : TypeId) (f : Fn) (x y : Array Value) {ps rs : Array TypeId} {v : Bool} (h : P.underlying t = some (.func ps rs v)) :
  (binOp .eql t (.func f x y) .nilFunc).run P w = .ok (.bool false) w := by
 simp [binOp, Op.equal, Op.maxDepth, run_equalIn_func_nil w 9999 t f x y h]
def Yq (P : Program) (o : Oper) (a : Act) (w : World) (v : Value) : Prop :=
 (execOp a.eval o).run P w = .ok (.value v) w ∨ ((execOp a.eval o).run P w = .ok .skip w ∧ v = undef) ∨
 ∃ f args, (execOp a.eval o).run P w = .ok (.enter f args) w ∧ Calls P f args w (fun e w'' => e = .returned v ∧ w'' = w)
def wpK (P : Program) (ops : Array Oper) (Q : Exit → Act → World → Prop) (K : Act → World → Prop) : List Oper → Act → World → Prop
 | [], a, w => K a w
 | o :: rest, a, w => if Region.wanted o (yielded ops a.tmps) then o.wp P a w (wpK P ops Q K rest) Q ∨ (o.asks P a w ∧ LetsOut Q) else wpK P ops Q K rest (a.put o.dst undef) w
theorem wpK_list {P : Program} {ops : Array Oper} {Q : Exit → Act → World → Prop} : ∀ (l : List Oper) (a : Act) (w : World), wpK P ops Q (Q .normal) l a w → wpList P ops Q l a w
 | [], _, _, h => h
 | o :: r, a, w, h => by
  simp only [wpK] at h
  simp only [wpList]
  split
  · rename_i hw
    rw [if_pos hw] at h
    exact h.imp (Oper.wp_mono fun a w h => wpK_list r a w h) id
  · rename_i hw
    rw [if_neg hw] at h
    exact wpK_list r _ _ h
section
variable (P : Program) (n : Nat) (ds : List Deferred) (pu : Bool) (w0 : World) (D : List Nat)
def Q1 (H : zl) (E : Env) (o : Oper) (v : Value) : Prop := ∀ a w, EOK n ds E a → WOK pu w0 D H w → (execOp a.eval o).run P w = .ok (.value v) w
def QC (H : zl) (E : Env) (o : Oper) (v : Value) : Prop := ∀ a w, EOK n ds E a → WOK pu w0 D H w → Yq P o a w v
def L1 (H : zl) (E : Env) (o : Oper) (v : Value) (H' : zl) : Prop := ∀ a w, EOK n ds E a → WOK pu w0 D H w →
 ∃ w', ((execOp a.eval o).run P w = .ok (.value v) w' ∨ ((execOp a.eval o).run P w = .ok .skip w' ∧ v = undef)) ∧ WOK pu w0 D H' w'
def SQ (ops : Array Oper) (Q : Exit → Act → World → Prop) (K : Act → World → Prop) (H : zl) (E : Env) (l : List Oper) : Prop := ∀ a w, EOK n ds E a → WOK pu w0 D H w → wpK P ops Q K l a w
def DQ (ops : Array Oper) (Q : Act → World → Prop) (H : zl) (E : Env) (l : List Oper) : Prop := ∀ a w, EOK n ds E a → WOK pu w0 D H w → wpStill P ops w (fun a' => Q a' w) l a
end
def nthO : List Oper → Nat → Option Oper
 | [], _ => none
 | o :: _, 0 => some o
 | _ :: r, k + 1 => nthO r k
theorem nthO_get : ∀ (l : List Oper) (j : Nat), nthO l j = l[j]?
 | [], _ => rfl
 | _ :: _, 0 => rfl
 | _ :: r, k + 1 => by simp [nthO, nthO_get r k]
def gd (ops : Array Oper) (E : Env) (g : Option (Nat × Bool)) : Option Bool :=
 match g with
 | none => some true
 | some (j, want) => match nthO ops.toList j with
  | some o => match o.dst with
   | some t => match look t E with
    | some (.bool b) => match b, want with
     | true, true => some true
     | false, false => some true
     | true, false => some false
     | false, true => some false
    | some (.tuple _) => some false
    | _ => none
   | none => none
  | none => none
section
variable {P : Program} {n : Nat} {ds : List Deferred} {pu : Bool} {w0 : World} {D : List Nat} {H : zl} {E : Env} {ops : Array Oper} {Q : Exit → Act → World → Prop} {Q' K : Act → World → Prop} {rest : List Oper} {v : Value}
theorem ko {o : Oper} {a : Act} {b : Bool} (he : EOK n ds E a) (h : gd ops E o.guard = some b) : Region.wanted o (yielded ops a.tmps) = b := by
 unfold gd at h
 unfold Region.wanted
 split at h
 · rename_i hg; simp at h; simp [hg, h]
 · rename_i j want hg
   simp only [hg]
   split at h
   · rename_i o' ho0
     have ho' : ops[j]? = some o' := by rw [← Array.getElem?_toList, ← nthO_get]; exact ho0
     split at h
     · rename_i t ht
       split at h
       · rename_i c hc
         have hy : yielded ops a.tmps j = some c := by simp [yielded, ho', ht, he.env _ _ hc]
         rw [hy]
         cases c <;> cases want <;> simp_all <;> (first | exact h.symm | exact h)
       · rename_i vs hc
         have hy : yielded ops a.tmps j = none := by simp [yielded, ho', ht, he.env _ _ hc]
         rw [hy]
         simp_all
       · cases h
     · cases h
   · cases h
theorem ze (h : ∀ a w, EOK n ds E a → WOK pu w0 D H w → K a w) : SQ P n ds pu w0 D ops Q K H E [] := fun a w he hw => h a w he hw
theorem wg (h : ∀ a w, EOK n ds E a → WOK pu w0 D H w → Q' a w) : DQ P n ds pu w0 D ops Q' H E [] := fun a w he hw => wpStill_nil (h a w he hw)
theorem upon_Yq {o : Oper} {a : Act} {w : World} {K : Act → World → Prop} (hy : Yq P o a w v) (h : K (a.put o.dst v) w) : o.wp P a w K Q := by
 unfold Oper.wp
 rcases hy with hv | ⟨hv, rfl⟩ | ⟨f, args, hv, hc⟩
 · rw [hv]; exact h
 · rw [hv]; exact h
 · rw [hv]
   exact hc.mono fun e w'' ⟨he, hw⟩ => by subst he; subst hw; exact h
theorem still_Yq {o : Oper} {a : Act} {w : World} {K : Act → Prop} (hy : Yq P o a w v) (h : K (a.put o.dst v)) : o.still P a w K := by
 unfold Oper.still
 rcases hy with hv | ⟨hv, rfl⟩ | ⟨f, args, hv, hc⟩
 · rw [hv]; exact ⟨rfl, h⟩
 · rw [hv]; exact ⟨rfl, h⟩
 · rw [hv]; exact ⟨rfl, v, hc, h⟩
theorem sq {d : Nat} {op : Op} {ty : TypeId} {ps : String} {af : Array Edge} {g : Option (Nat × Bool)} (hg : gd ops E g = some true) (hd : Nat.blt d n = true)
  (h1 : Q1 P n ds pu w0 D H E ⟨some d, op, ty, ps, af, g⟩ v) (h : SQ P n ds pu w0 D ops Q K H ((d, v) :: E) rest) : SQ P n ds pu w0 D ops Q K H E (⟨some d, op, ty, ps, af, g⟩ :: rest) := by
 intro a w he hw
 simp only [wpK]
 rw [if_pos (ko (o := ⟨some d, op, ty, ps, af, g⟩) he hg)]
 exact .inl (upon_Yq (.inl (h1 a w he hw)) (h _ _ (he.put hd v) hw))
theorem sq0 {d : Nat} {op : Op} {ty : TypeId} {ps : String} {af : Array Edge} {g : Option (Nat × Bool)} (hg : gd ops E g = some false) (hd : Nat.blt d n = true)
  (h : SQ P n ds pu w0 D ops Q K H ((d, undef) :: E) rest) : SQ P n ds pu w0 D ops Q K H E (⟨some d, op, ty, ps, af, g⟩ :: rest) := by
 intro a w he hw
 simp only [wpK]
 rw [if_neg (by rw [ko (o := ⟨some d, op, ty, ps, af, g⟩) he hg]; simp)]
 exact h _ _ (he.put hd _) hw
theorem dq {d : Nat} {op : Op} {ty : TypeId} {ps : String} {af : Array Edge} {g : Option (Nat × Bool)} (hg : gd ops E g = some true) (hd : Nat.blt d n = true)
  (h1 : Q1 P n ds pu w0 D H E ⟨some d, op, ty, ps, af, g⟩ v) (h : DQ P n ds pu w0 D ops Q' H ((d, v) :: E) rest) : DQ P n ds pu w0 D ops Q' H E (⟨some d, op, ty, ps, af, g⟩ :: rest) := by
 intro a w he hw
 simp only [wpStill]
 rw [if_pos (ko (o := ⟨some d, op, ty, ps, af, g⟩) he hg)]
 exact still_Yq (.inl (h1 a w he hw)) (h _ _ (he.put hd v) hw)
theorem sqc {d : Nat} {op : Op} {ty : TypeId} {ps : String} {af : Array Edge} {g : Option (Nat × Bool)} (hg : gd ops E g = some true) (hd : Nat.blt d n = true)
  (h1 : QC P n ds pu w0 D H E ⟨some d, op, ty, ps, af, g⟩ v) (h : SQ P n ds pu w0 D ops Q K H ((d, v) :: E) rest) : SQ P n ds pu w0 D ops Q K H E (⟨some d, op, ty, ps, af, g⟩ :: rest) := by
 intro a w he hw
 simp only [wpK]
 rw [if_pos (ko (o := ⟨some d, op, ty, ps, af, g⟩) he hg)]
 exact .inl (upon_Yq (h1 a w he hw) (h _ _ (he.put hd v) hw))
theorem dqc {d : Nat} {op : Op} {ty : TypeId} {ps : String} {af : Array Edge} {g : Option (Nat × Bool)} (hg : gd ops E g = some true) (hd : Nat.blt d n = true)
  (h1 : QC P n ds pu w0 D H E ⟨some d, op, ty, ps, af, g⟩ v) (h : DQ P n ds pu w0 D ops Q' H ((d, v) :: E) rest) : DQ P n ds pu w0 D ops Q' H E (⟨some d, op, ty, ps, af, g⟩ :: rest) := by
 intro a w he hw
 simp only [wpStill]
 rw [if_pos (ko (o := ⟨some d, op, ty, ps, af, g⟩) he hg)]
 exact still_Yq (h1 a w he hw) (h _ _ (he.put hd v) hw)
theorem dq0 {d : Nat} {op : Op} {ty : TypeId} {ps : String} {af : Array Edge} {g : Option (Nat × Bool)} (hg : gd ops E g = some false) (hd : Nat.blt d n = true)
  (h : DQ P n ds pu w0 D ops Q' H ((d, undef) :: E) rest) : DQ P n ds pu w0 D ops Q' H E (⟨some d, op, ty, ps, af, g⟩ :: rest) := by
 intro a w he hw
 simp only [wpStill]
 rw [if_neg (by rw [ko (o := ⟨some d, op, ty, ps, af, g⟩) he hg]; simp)]
 exact h _ _ (he.put hd _) hw
theorem sl {d : Nat} {op : Op} {ty : TypeId} {ps : String} {af : Array Edge} {g : Option (Nat × Bool)} {H' : zl} (hg : gd ops E g = some true) (hd : Nat.blt d n = true)
   (h1 : L1 P n ds pu w0 D H E ⟨some d, op, ty, ps, af, g⟩ v H') (h : SQ P n ds pu w0 D ops Q K H' ((d, v) :: E) rest) : SQ P n ds pu w0 D ops Q K H E (⟨some d, op, ty, ps, af, g⟩ :: rest) := by
 intro a w he hw
 simp only [wpK]
 rw [if_pos (ko (o := ⟨some d, op, ty, ps, af, g⟩) he hg)]
 obtain ⟨w', hv, hw'⟩ := h1 a w he hw
 refine .inl ?_
 unfold Oper.wp
 rcases hv with hv | ⟨hv, rfl⟩
 · rw [hv]; exact h _ _ (he.put hd v) hw'
 · rw [hv]; exact h _ _ (he.put hd _) hw'
theorem sln {op : Op} {ty : TypeId} {ps : String} {af : Array Edge} {g : Option (Nat × Bool)} {H' : zl} (hg : gd ops E g = some true)
   (h1 : L1 P n ds pu w0 D H E ⟨none, op, ty, ps, af, g⟩ v H') (h : SQ P n ds pu w0 D ops Q K H' E rest) : SQ P n ds pu w0 D ops Q K H E (⟨none, op, ty, ps, af, g⟩ :: rest) := by
 intro a w he hw
 simp only [wpK]
 rw [if_pos (ko (o := ⟨none, op, ty, ps, af, g⟩) he hg)]
 obtain ⟨w', hv, hw'⟩ := h1 a w he hw
 refine .inl ?_
 unfold Oper.wp
 rcases hv with hv | ⟨hv, rfl⟩
 · rw [hv]; exact h _ _ (he.put_none v) hw'
 · rw [hv]; exact h _ _ (he.put_none _) hw'
variable {d : Option Nat} {ty : TypeId} {ps : String} {af : Array Edge} {g : Option (Nat × Bool)} {x y : Operand}
theorem zj (h : opv E x = some v) : Q1 P n ds pu w0 D H E ⟨d, .move x, ty, ps, af, g⟩ v := fun a w he _ => (by simp [execOp, he.eval h])
theorem kB (h : opv E x = some v) : Q1 P n ds pu w0 D H E ⟨d, .assign x, ty, ps, af, g⟩ v := fun a w he _ => (by simp [execOp, he.eval h])
theorem q_pick_t {c : Operand} (hc : opv E c = some (.bool true)) (h : opv E x = some v) : Q1 P n ds pu w0 D H E ⟨d, .pick c x y, ty, ps, af, g⟩ v :=
 fun a w he _ => (by simp [execOp, he.eval h, he.eval hc, asBool])
theorem q_pick_f {c : Operand} (hc : opv E c = some (.bool false)) (h : opv E y = some v) : Q1 P n ds pu w0 D H E ⟨d, .pick c x y, ty, ps, af, g⟩ v :=
 fun a w he _ => (by simp [execOp, he.eval h, he.eval hc, asBool])
theorem zJ {p : Addr} (h : opv E x = some (.pointer (some p))) : Q1 P n ds pu w0 D H E ⟨d, .nilCheck x, ty, ps, af, g⟩ (.pointer (some p)) :=
 fun a w he _ => (by simp [execOp, he.eval h])
theorem zM {s f k b o : Nat} [hf : Fld P s f k] (h : opv E x = some (.pointer (some ⟨b, o, none⟩))) : Q1 P n ds pu w0 D H E ⟨d, .fieldAddr s x f, ty, ps, af, g⟩ (.pointer (some ⟨b, o + k, none⟩)) := by
 intro a w he _
 obtain ⟨fs, fd, i, h1, h2, h3, h4, h5⟩ := hf.is
 simp [execOp, he.eval h, Instr.fieldAt, zv h1, h2, Instr.sureAddr, fieldPlace, zX h4, h5, h3, kN]
theorem qto {o : Oper} {v' : Value} (h : Q1 P n ds pu w0 D H E o v) (e : v = v') : Q1 P n ds pu w0 D H E o v' := e ▸ h
theorem vb {b c : Bool} (h : b = c) : Value.bool b = .bool c := h ▸ rfl
theorem vi {k : IntKind} {a b : Int} (h : a = b) : Value.int k a = .int k b := h ▸ rfl
theorem sl_eq {b o n c o' n' c' : Nat} (h1 : o = o') (h2 : n = n') (h3 : c = c') : Value.slice (some ⟨b, o, none⟩) n c = .slice (some ⟨b, o', none⟩) n' c' := by subst h1 h2 h3; rfl
theorem q_not {b : Bool} {ty' : TypeId} (h : opv E x = some (.bool b)) : Q1 P n ds pu w0 D H E ⟨d, .unOp .not ty' x, ty, ps, af, g⟩ (.bool (!b)) :=
 fun a w he _ => (by simp [execOp, he.eval h, Op.unary])
theorem kY {t : Operand} {i : Nat} {vs : Array Value} (h : opv E t = some (.tuple vs)) (hv : vs[i]? = some v) : Q1 P n ds pu w0 D H E ⟨d, .extract t i, ty, ps, af, g⟩ v :=
 fun a w he _ => (by simp [execOp, he.eval h, Instr.extract, hv])
theorem zp {t b i : Nat} {k : Blk} [qn P t] (h : opv E x = some (.pointer (some ⟨b, i, none⟩))) [hh : Has H b k] (h0 : Nat.ble k.lo i = true) (hi : Nat.blt i k.known = true) (hv : k.cell i = some v) : Q1 P n ds pu w0 D H E ⟨d, .load t x, ty, ps, af, g⟩ v := by
 intro a w he hw
 have hc := (hw.hok.cell hh.mem (Nat.le_of_ble_eq_true h0) (Nat.le_of_ble_eq_true hi)).trans hv
 exact (by simp [execOp, he.eval h, Instr.loadAt, Instr.sureAddr, loadVar, qj, hc])
theorem q_loadw {t b i m lo hi : Nat} {rt : TypeId} {f : Nat → Value} [qn P t] (h : opv E x = some (.pointer (some ⟨b, i, none⟩))) [hh : Has H b (.win rt m lo hi f)] (h0 : lo ≤ i) (h1 : i < hi) (hv : f i = v) : Q1 P n ds pu w0 D H E ⟨d, .load t x, ty, ps, af, g⟩ v := by
 intro a w he hw
 have hc := hw.hok.cell hh.mem (i := i) h0 h1
 simp only [Blk.cell] at hc
 rw [hv] at hc
 exact (by simp [execOp, he.eval h, Instr.loadAt, Instr.sureAddr, loadVar, qj, hc])
def qz : Obj → Nat → Option Value
 | .cells c _ _, i => c[i]?
 | _, _ => none
theorem q_loado {t b i : Nat} {o : Obj} [qn P t] (hv : qz o i = some v) (h : opv E x = some (.pointer (some ⟨b, i, none⟩))) [hh : Has H b (.raw o)] : Q1 P n ds pu w0 D H E ⟨d, .load t x, ty, ps, af, g⟩ v := by
 intro a w he hw
 obtain ⟨o', ho', hk⟩ := hw.hok.ok _ _ hh.mem
 simp only [Blk.ok, Blk.isRaw] at hk
 subst hk
 have hc : w.cell? ⟨b, i, none⟩ = some v := by
  cases o' <;> simp [qz] at hv
  simp [World.cell?, ho', hv]
 simp [execOp, he.eval h, Instr.loadAt, Instr.sureAddr, loadVar, qj, hc]
theorem we {w : World} {H : zl} (hw : HOK H w) {b i m : Nat} {k : Blk} {l : List Value} (hm : (b, k) ∈ H) (h0 : k.lo ≤ i) (hi : i + m ≤ k.known) (hl : l.length = m) (hv : ∀ j, j < m → k.cell (i + j) = l[j]?) :
  (loadCells ⟨b, i, none⟩ m).run P w = .ok l.toArray w := by
 have := run_loadCells_list (P := P) (w := w) (⟨b, i, none⟩ : Addr) l (fun j v hj => by
  have hj' : j < l.length := (List.getElem?_eq_some_iff.1 hj).1
  rw [kN, hw.cell hm omT omT, hv j omT]; exact hj)
 rw [hl] at this
 exact this
def cut (k : Blk) (i : Nat) : Nat → Option (List Value)
 | 0 => some []
 | m + 1 => match k.cell i with
  | some v => match cut k (i + 1) m with
   | some l => some (v :: l)
   | none => none
  | none => none
theorem cut_spec {k : Blk} : ∀ {m i : Nat} {l : List Value}, cut k i m = some l → l.length = m ∧ ∀ j, j < m → k.cell (i + j) = l[j]?
 | 0, i, l, h => by simp [cut] at h; subst h; simp
 | m + 1, i, l, h => by
  simp only [cut] at h
  split at h
  · rename_i v hv
    split at h
    · rename_i l' hl'
      simp at h
      subst h
      obtain ⟨h1, h2⟩ := cut_spec hl'
      refine ⟨by simp [h1], fun j hj => ?_⟩
      cases j with
      | zero => simpa using hv
      | succ j => rw [List.getElem?_cons_succ, ← h2 j omT]; congr 1; omega
    · cases h
  · cases h
theorem zG {t b i m : Nat} {k : Blk} {l : List Value} [ht : qR P t m] (h : opv E x = some (.pointer (some ⟨b, i, none⟩))) [hh : Has H b k] (h0 : Nat.ble k.lo i = true) (hi : Nat.ble (i + m) k.known = true) (hv : cut k i m = some l) :
  Q1 P n ds pu w0 D H E ⟨d, .load t x, ty, ps, af, g⟩ (.agg l.toArray) := by
 intro a w he hw
 obtain ⟨h1, h2⟩ := cut_spec hv
 obtain ⟨dd, ii, _, _, h5, h6⟩ := ht.is
 have := we (P := P) hw.hok hh.mem (Nat.le_of_ble_eq_true h0) (Nat.le_of_ble_eq_true hi) h1 h2
 exact (by simp [execOp, he.eval h, Instr.loadAt, Instr.sureAddr, loadVar, kO, zX h5, h6, this])
variable {k : IntKind} {p q : Int} {t t2 : TypeId}
theorem q_add (hx : opv E x = some (.int k p)) (hy : opv E y = some (.int k q)) : Q1 P n ds pu w0 D H E ⟨d, .binOp .add t x y t2, ty, ps, af, g⟩ (.int k (k.wrap (p + q))) :=
 fun a w he _ => (by simp [execOp, he.eval hx, he.eval hy, eqGuard, binOp, Op.intArith])
theorem q_sub (hx : opv E x = some (.int k p)) (hy : opv E y = some (.int k q)) : Q1 P n ds pu w0 D H E ⟨d, .binOp .sub t x y t2, ty, ps, af, g⟩ (.int k (k.wrap (p - q))) :=
 fun a w he _ => (by simp [execOp, he.eval hx, he.eval hy, eqGuard, binOp, Op.intArith])
theorem q_mul (hx : opv E x = some (.int k p)) (hy : opv E y = some (.int k q)) : Q1 P n ds pu w0 D H E ⟨d, .binOp .mul t x y t2, ty, ps, af, g⟩ (.int k (k.wrap (p * q))) :=
 fun a w he _ => (by simp [execOp, he.eval hx, he.eval hy, eqGuard, binOp, Op.intArith])
theorem q_addi (hx : opv E x = some (.int .i64 p)) (hy : opv E y = some (.int .i64 q)) (h1 : -9223372036854775808 ≤ p + q) (h2 : p + q ≤ 9223372036854775807) : Q1 P n ds pu w0 D H E ⟨d, .binOp .add t x y t2, ty, ps, af, g⟩ (.int .i64 (p + q)) := by
 have := q_add (P := P) (n := n) (ds := ds) (pu := pu) (w0 := w0) (D := D) (H := H) (d := d) (ty := ty) (ps := ps) (af := af) (g := g) (t := t) (t2 := t2) hx hy
 rwa [IntWalk.i64_in _ ⟨h1, h2⟩] at this
theorem qT (hx : opv E x = some (.int .i64 p)) (hy : opv E y = some (.int .i64 q)) (h1 : -9223372036854775808 ≤ p - q) (h2 : p - q ≤ 9223372036854775807) : Q1 P n ds pu w0 D H E ⟨d, .binOp .sub t x y t2, ty, ps, af, g⟩ (.int .i64 (p - q)) := by
 have := q_sub (P := P) (n := n) (ds := ds) (pu := pu) (w0 := w0) (D := D) (H := H) (d := d) (ty := ty) (ps := ps) (af := af) (g := g) (t := t) (t2 := t2) hx hy
 rwa [IntWalk.i64_in _ ⟨h1, h2⟩] at this
theorem q_addn {a b : Nat} (hx : opv E x = some (.int .i64 (a : Int))) (hy : opv E y = some (.int .i64 (b : Int))) (h : (a : Int) + b ≤ 9223372036854775807) : Q1 P n ds pu w0 D H E ⟨d, .binOp .add t x y t2, ty, ps, af, g⟩ (.int .i64 ((a + b : Nat) : Int)) := by
 rw [Int.natCast_add]
 exact q_addi hx hy omT h
theorem q_subn {a b : Nat} (hx : opv E x = some (.int .i64 (a : Int))) (hy : opv E y = some (.int .i64 (b : Int))) (h : b ≤ a ∧ (a : Int) ≤ 9223372036854775807) : Q1 P n ds pu w0 D H E ⟨d, .binOp .sub t x y t2, ty, ps, af, g⟩ (.int .i64 ((a - b : Nat) : Int)) := by
 rw [Int.natCast_sub h.1]
 exact qT hx hy omT omT
theorem q_and {r : Int} (hx : opv E x = some (.int k p)) (hy : opv E y = some (.int k q)) (h : k.wrap ((BitVec.ofInt k.bits p &&& BitVec.ofInt k.bits q).toNat : Int) = r) : Q1 P n ds pu w0 D H E ⟨d, .binOp .and t x y t2, ty, ps, af, g⟩ (.int k r) := by
 subst h
 exact fun a w he _ => (by simp [execOp, he.eval hx, he.eval hy, eqGuard, binOp, Op.intBits])
def cmpB : BinOp → Int → Int → Option Bool
 | .eql, x, y => some (x == y)
 | .neq, x, y => some (x != y)
 | .lss, x, y => some (decide (x < y))
 | .leq, x, y => some (decide (x ≤ y))
 | .gtr, x, y => some (decide (x > y))
 | .geq, x, y => some (decide (x ≥ y))
 | _, _, _ => none
theorem kw {op : BinOp} {b : Bool} (hx : opv E x = some (.int k p)) (hy : opv E y = some (.int k q)) (hb : cmpB op p q = some b) : Q1 P n ds pu w0 D H E ⟨d, .binOp op t x y t2, ty, ps, af, g⟩ (.bool b) := by
 intro a w he _
 cases op <;> simp [cmpB] at hb <;> subst hb <;> simp [execOp, he.eval hx, he.eval hy, eqGuard, binOp, Op.intCmp]
theorem q_eq1 (hx : opv E x = some (.int k p)) (hy : opv E y = some (.int k q)) (h : p = q) : Q1 P n ds pu w0 D H E ⟨d, .binOp .eql t x y t2, ty, ps, af, g⟩ (.bool true) := kw hx hy (by simp [cmpB, h])
theorem q_eq0 (hx : opv E x = some (.int k p)) (hy : opv E y = some (.int k q)) (h : p ≠ q) : Q1 P n ds pu w0 D H E ⟨d, .binOp .eql t x y t2, ty, ps, af, g⟩ (.bool false) := kw hx hy (by simp [cmpB, h])
theorem q_ne1 (hx : opv E x = some (.int k p)) (hy : opv E y = some (.int k q)) (h : p ≠ q) : Q1 P n ds pu w0 D H E ⟨d, .binOp .neq t x y t2, ty, ps, af, g⟩ (.bool true) := kw hx hy (by simp [cmpB, h])
theorem q_ne0 (hx : opv E x = some (.int k p)) (hy : opv E y = some (.int k q)) (h : p = q) : Q1 P n ds pu w0 D H E ⟨d, .binOp .neq t x y t2, ty, ps, af, g⟩ (.bool false) := kw hx hy (by simp [cmpB, h])
theorem q_lt1 (hx : opv E x = some (.int k p)) (hy : opv E y = some (.int k q)) (h : p < q) : Q1 P n ds pu w0 D H E ⟨d, .binOp .lss t x y t2, ty, ps, af, g⟩ (.bool true) := kw hx hy (by simp [cmpB, h])
theorem q_lt0 (hx : opv E x = some (.int k p)) (hy : opv E y = some (.int k q)) (h : ¬ p < q) : Q1 P n ds pu w0 D H E ⟨d, .binOp .lss t x y t2, ty, ps, af, g⟩ (.bool false) := kw hx hy (by simp only [cmpB, decide_eq_false h])
theorem q_le1 (hx : opv E x = some (.int k p)) (hy : opv E y = some (.int k q)) (h : p ≤ q) : Q1 P n ds pu w0 D H E ⟨d, .binOp .leq t x y t2, ty, ps, af, g⟩ (.bool true) := kw hx hy (by simp [cmpB, h])
theorem q_le0 (hx : opv E x = some (.int k p)) (hy : opv E y = some (.int k q)) (h : ¬ p ≤ q) : Q1 P n ds pu w0 D H E ⟨d, .binOp .leq t x y t2, ty, ps, af, g⟩ (.bool false) := kw hx hy (by simp only [cmpB, decide_eq_false h])
theorem q_gt1 (hx : opv E x = some (.int k p)) (hy : opv E y = some (.int k q)) (h : q < p) : Q1 P n ds pu w0 D H E ⟨d, .binOp .gtr t x y t2, ty, ps, af, g⟩ (.bool true) := kw hx hy (by simp [cmpB, h])
theorem q_gt0 (hx : opv E x = some (.int k p)) (hy : opv E y = some (.int k q)) (h : ¬ q < p) : Q1 P n ds pu w0 D H E ⟨d, .binOp .gtr t x y t2, ty, ps, af, g⟩ (.bool false) := kw hx hy (by simp only [cmpB, gt_iff_lt, decide_eq_false h])
theorem q_ge1 (hx : opv E x = some (.int k p)) (hy : opv E y = some (.int k q)) (h : q ≤ p) : Q1 P n ds pu w0 D H E ⟨d, .binOp .geq t x y t2, ty, ps, af, g⟩ (.bool true) := kw hx hy (by simp [cmpB, h])
theorem q_ge0 (hx : opv E x = some (.int k p)) (hy : opv E y = some (.int k q)) (h : ¬ q ≤ p) : Q1 P n ds pu w0 D H E ⟨d, .binOp .geq t x y t2, ty, ps, af, g⟩ (.bool false) := kw hx hy (by simp only [cmpB, ge_iff_le, decide_eq_false h])
theorem q_conv {s1 s2 : TypeId} {k' : IntKind} (hu1 : ∃ d1, P.underlying s1 = some d1) (hu : P.underlying s2 = some (.int k')) (hx : opv E x = some (.int k p)) : Q1 P n ds pu w0 D H E ⟨d, .convert s1 s2 x, ty, ps, af, g⟩ (.int k' (k'.wrap p)) := by
 intro a w he _
 obtain ⟨d1, hu1⟩ := hu1
 simp [execOp, he.eval hx, convert, zv hu, zv hu1, Conv.intToInt]
theorem qP {s1 s2 : TypeId} (hu1 : ∃ d1, P.underlying s1 = some d1) (hu : P.underlying s2 = some (.int .i64)) (hx : opv E x = some (.int k p)) (h0 : -9223372036854775808 ≤ p) (h1 : p ≤ 9223372036854775807) : Q1 P n ds pu w0 D H E ⟨d, .convert s1 s2 x, ty, ps, af, g⟩ (.int .i64 p) := by
 have := q_conv (n := n) (ds := ds) (pu := pu) (w0 := w0) (D := D) (H := H) (d := d) (ty := ty) (ps := ps) (af := af) (g := g) hu1 hu hx
 rwa [IntWalk.i64_in _ ⟨h0, h1⟩] at this
theorem q_if_ne {t : TypeId} {ms : Array (String × TypeId)} {et : TypeId} {u : Value} (hu : P.underlying t = some (.interface ms)) (hx : opv E x = some .nilIface) (hy : opv E y = some (.iface et u)) : Q1 P n ds pu w0 D H E ⟨d, .binOp .eql t x y t2, ty, ps, af, g⟩ (.bool false) := by
 intro a w he _
 simp [execOp, he.eval hx, he.eval hy, eqGuard, run_eql_nil_iface w t et u hu]
theorem q_if_nn {t : TypeId} {ms : Array (String × TypeId)} (hu : P.underlying t = some (.interface ms)) (hx : opv E x = some .nilIface) : Q1 P n ds pu w0 D H E ⟨d, .binOp .neq t x (.const .nilIface) t2, ty, ps, af, g⟩ (.bool false) := by
 intro a w he _
 have hy : a.eval (.const .nilIface) = .nilIface := rfl
 simp [execOp, he.eval hx, hy, eqGuard, run_neq_nil_nil w t hu]
theorem q_fn_nil {t : TypeId} {f : Fn} {a1 a2 : Array Value} {ps' rs : Array TypeId} {vr : Bool} (hu : P.underlying t = some (.func ps' rs vr)) (hx : opv E x = some (.func f a1 a2)) (hy : opv E y = some .nilFunc) : Q1 P n ds pu w0 D H E ⟨d, .binOp .eql t x y t2, ty, ps, af, g⟩ (.bool false) := by
 intro a w he _
 simp [execOp, he.eval hx, he.eval hy, eqGuard, run_eql_func_nil w t f a1 a2 hu]
theorem q_if_ee {t : TypeId} {et : TypeId} {u : Value} {b : Bool} (hx : opv E x = some (.iface et u)) (hy : opv E y = some (.iface et u)) (hb : ∀ w, (binOp .eql t (.iface et u) (.iface et u)).run P w = .ok (.bool b) w) : Q1 P n ds pu w0 D H E ⟨d, .binOp .eql t x y t2, ty, ps, af, g⟩ (.bool b) := by
 intro a w he _
 simp [execOp, he.eval hx, he.eval hy, eqGuard, hb]
theorem q_ix {e sz bs b o len cap : Nat} {s : TypeId} {i : Int} [hs : Slc P s e sz bs] (hx : opv E x = some (.slice (some ⟨b, o, none⟩) len cap)) (hy : opv E y = some (.int k i)) (h0 : 0 ≤ i) (h1 : i < len) :
  Q1 P n ds pu w0 D H E ⟨d, .indexAddr s x y, ty, ps, af, g⟩ (.pointer (some ⟨b, o + i.toNat * sz, none⟩)) := by
 intro a w he _
 obtain ⟨hu, ii, h2, h3, _⟩ := hs.is
 simp [execOp, he.eval hx, he.eval hy, Instr.indexAt, asIntOf, zv hu, h0, h1, zX h2, h3, kN]
theorem zy {e sz bs b o len cap i r : Nat} {s : TypeId} {p : Int} [hs : Slc P s e sz bs] (hx : opv E x = some (.slice (some ⟨b, o, none⟩) len cap)) (hy : opv E y = some (.int k p)) (hp : p = i) (h1 : i < len) (hr : o + i * sz = r) :
  Q1 P n ds pu w0 D H E ⟨d, .indexAddr s x y, ty, ps, af, g⟩ (.pointer (some ⟨b, r, none⟩)) := by
 subst hp hr
 exact q_ix hx hy omT omT
theorem q_ix1 {e bs b len cap i : Nat} {s : TypeId} [hs : Slc P s e 1 bs] (hx : opv E x = some (.slice (some ⟨b, 0, none⟩) len cap)) (hy : opv E y = some (.int k (i : Int))) (h1 : i < len) :
  Q1 P n ds pu w0 D H E ⟨d, .indexAddr s x y, ty, ps, af, g⟩ (.pointer (some ⟨b, i, none⟩)) :=
 zy hx hy rfl h1 omT
theorem q_len {u : Option Addr} {len cap e sz bs : Nat} {s : TypeId} [hs : Slc P s e sz bs] (h : opv E x = some (.slice u len cap)) : Q1 P n ds pu w0 D H E ⟨d, .call ⟨.builtin .len, #[x], #[s]⟩, ty, ps, af, g⟩ (.int .i64 len) :=
 fun a w he _ => (by simp [execOp, resolve, invoke, builtin, he.eval h, Builtin.len_, goInt, zv hs.is.1])
theorem q_lens {s : ByteArray} {t : TypeId} [hs : Strg P t] (h : opv E x = some (.string s)) : Q1 P n ds pu w0 D H E ⟨d, .call ⟨.builtin .len, #[x], #[t]⟩, ty, ps, af, g⟩ (.int .i64 s.size) :=
 fun a w he _ => (by simp [execOp, resolve, invoke, builtin, he.eval h, Builtin.len_, goInt, zv hs.is])
theorem q_cap {u : Option Addr} {len cap e sz bs : Nat} {s : TypeId} [hs : Slc P s e sz bs] (h : opv E x = some (.slice u len cap)) : Q1 P n ds pu w0 D H E ⟨d, .call ⟨.builtin .cap, #[x], #[s]⟩, ty, ps, af, g⟩ (.int .i64 cap) :=
 fun a w he _ => (by simp [execOp, resolve, invoke, builtin, he.eval h, Builtin.cap_, goInt, zv hs.is.1])
theorem q_index {s : ByteArray} {t : TypeId} {i : Int} {c : UInt8} [hs : Strg P t] (hx : opv E x = some (.string s)) (hy : opv E y = some (.int k i)) (h0 : 0 ≤ i) (h1 : s[i.toNat]? = some c) :
  Q1 P n ds pu w0 D H E ⟨d, .index t x y, ty, ps, af, g⟩ (.int .u8 c.toNat) :=
 fun a w he _ => (by simp [execOp, he.eval hx, he.eval hy, Instr.index, asIntOf, zv hs.is, h0, h1])
theorem q_slice {u : Option Addr} {len cap e sz bs : Nat} {s : TypeId} {kl kh : IntKind} {lo hi : Int} [hs : Slc P s e sz bs] {l h : Operand} (hx : opv E x = some (.slice u len cap)) (hl : opv E l = some (.int kl lo)) (hh : opv E h = some (.int kh hi))
  (h0 : 0 ≤ lo) (h1 : lo ≤ hi) (h2 : hi ≤ cap) : Q1 P n ds pu w0 D H E ⟨d, .slice s x (some l) (some h) none, ty, ps, af, g⟩ (.slice (if cap = lo.toNat then u else u.map (·.add (lo.toNat * sz))) (hi.toNat - lo.toNat) (cap - lo.toNat)) := by
 intro a w he _
 obtain ⟨hu, ii, h3, h4, _⟩ := hs.is
 simp [execOp, he.eval hx, he.eval hl, he.eval hh, Instr.sliceAt, Instr.slice, Instr.sliceBounds, Instr.sliceBound, asIntOf, zv hu, show (0 : Int) ≤ hi by omega, h2, h0, zX h3, h4]
 intro hc
 omega
theorem q_sliceh {u : Option Addr} {len cap e sz bs : Nat} {s : TypeId} {kh : IntKind} {hi : Int} [hs : Slc P s e sz bs] {h : Operand} (hx : opv E x = some (.slice u len cap)) (hh : opv E h = some (.int kh hi))
  (h0 : 0 ≤ hi) (h2 : hi ≤ cap) : Q1 P n ds pu w0 D H E ⟨d, .slice s x none (some h) none, ty, ps, af, g⟩ (.slice (if cap = 0 then u else u.map (·.add 0)) hi.toNat cap) := by
 intro a w he _
 obtain ⟨hu, ii, h3, h4, _⟩ := hs.is
 simp [execOp, he.eval hx, he.eval hh, Instr.sliceAt, Instr.slice, Instr.sliceBounds, Instr.sliceBound, asIntOf, zv hu, h0, h2, zX h3, h4]
theorem q_slicel {u : Option Addr} {len cap e sz bs : Nat} {s : TypeId} {kl : IntKind} {lo : Int} [hs : Slc P s e sz bs] {l : Operand} (hx : opv E x = some (.slice u len cap)) (hl : opv E l = some (.int kl lo))
  (h0 : 0 ≤ lo) (h1 : lo ≤ len) : Q1 P n ds pu w0 D H E ⟨d, .slice s x (some l) none none, ty, ps, af, g⟩ (.slice (if cap = lo.toNat then u else u.map (·.add (lo.toNat * sz))) (len - lo.toNat) (cap - lo.toNat)) := by
 intro a w he _
 obtain ⟨hu, ii, h3, h4, _⟩ := hs.is
 simp [execOp, he.eval hx, he.eval hl, Instr.sliceAt, Instr.slice, Instr.sliceBounds, Instr.sliceBound, asIntOf, zv hu, h0, h1, zX h3, h4]
theorem q_sl_l {b o len cap e sz bs a0 : Nat} {s : TypeId} {kl : IntKind} [hs : Slc P s e sz bs] {l : Operand} (hx : opv E x = some (.slice (some ⟨b, o, none⟩) len cap)) (hl : opv E l = some (.int kl (a0 : Int)))
  (h1 : a0 ≤ len) (hne : cap ≠ a0) : Q1 P n ds pu w0 D H E ⟨d, .slice s x (some l) none none, ty, ps, af, g⟩ (.slice (some ⟨b, o + a0 * sz, none⟩) (len - a0) (cap - a0)) := by
 have := q_slicel (P := P) (s := s) (n := n) (ds := ds) (pu := pu) (w0 := w0) (D := D) (H := H) (d := d) (ty := ty) (ps := ps) (af := af) (g := g) hx hl omT omT
 simpa [hne, kN] using this
theorem qc {u : Option Addr} {len cap e sz bs c0 : Nat} {s : TypeId} {kh : IntKind} [hs : Slc P s e sz bs] {h : Operand} (hx : opv E x = some (.slice u len cap)) (hh : opv E h = some (.int kh (c0 : Int))) (h2 : c0 ≤ cap) :
  Q1 P n ds pu w0 D H E ⟨d, .slice s x none (some h) none, ty, ps, af, g⟩ (.slice u c0 cap) := by
 have := q_sliceh (P := P) (s := s) (n := n) (ds := ds) (pu := pu) (w0 := w0) (D := D) (H := H) (d := d) (ty := ty) (ps := ps) (af := af) (g := g) hx hh omT omT
 have e : u.map (·.add 0) = u := by cases u <;> simp [Addr.add]
 simpa [e] using this
theorem q_sl_lh {b o len cap e sz bs a0 c0 : Nat} {s : TypeId} {kl kh : IntKind} [hs : Slc P s e sz bs] {l h : Operand} (hx : opv E x = some (.slice (some ⟨b, o, none⟩) len cap)) (hl : opv E l = some (.int kl (a0 : Int))) (hh : opv E h = some (.int kh (c0 : Int)))
  (h1 : a0 ≤ c0) (h2 : c0 ≤ cap) (hne : cap ≠ a0) : Q1 P n ds pu w0 D H E ⟨d, .slice s x (some l) (some h) none, ty, ps, af, g⟩ (.slice (some ⟨b, o + a0 * sz, none⟩) (c0 - a0) (cap - a0)) := by
 have := q_slice (P := P) (s := s) (n := n) (ds := ds) (pu := pu) (w0 := w0) (D := D) (H := H) (d := d) (ty := ty) (ps := ps) (af := af) (g := g) hx hl hh omT omT omT
 simpa [hne, kN] using this
def PF (P : Program) (f : Nat) (args : List Value) (H : zl) (v : Value) : Prop := ∀ w, HOK H w → Calls P f args.toArray w (fun e w' => e = .returned v ∧ w' = w)
end
end Go.Proofs.YtnfbcfflkphbiaaGreatDoor
