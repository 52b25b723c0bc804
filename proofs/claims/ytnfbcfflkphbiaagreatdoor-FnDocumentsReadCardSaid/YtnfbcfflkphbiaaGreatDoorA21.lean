/-
  Texts of the proof, joined: P1 F12. No Go text.
-/
import Derived.Test.YtnfbcfflkphbiaaGreatDoorA01
import Derived.Test.YtnfbcfflkphbiaaGreatDoorA20
import Derived.Test.YtnfbcfflkphbiaaGreatDoorA08
namespace Go.Proofs.YtnfbcfflkphbiaaGreatDoor
open Go Go.Proofs Tryz
set_option linter.all false
set_option maxRecDepth 100000
set_option maxHeartbeats 8000000
inductive DQb : List Nat → List Nat → Prop
 | nil : DQb [] []
 | raw {c : Nat} {v y : List Nat} (h : zC c = true) (k : DQb v y) : DQb (c :: v) (c :: y)
 | esc {c n l : Nat} {v y ds : List Nat} (hn : (l = 120 ∧ n = 2) ∨ (l = 117 ∧ n = 4) ∨ (l = 85 ∧ n = 8)) (hl : ds.length = n) (hx : ∀ d ∈ ds, hexB d = true) (hv : ds.foldl (fun a d => a * 16 + hexD d) 0 = c) (hc : zC c = true) (k : DQb v y) : DQb (c :: v) (92 :: l :: (ds ++ y))
 | brk {k : Nat} {v y : List Nat} (h : 1 ≤ k) (d : DQb v y) : DQb v (92 :: 10 :: (sps k ++ y))
theorem DQb.asc {v y : List Nat} (h : DQb v y) : ∀ c ∈ y, c = 10 ∨ (32 ≤ c ∧ c ≤ 126) := by
 have hal : ∀ c, zC c = true → 32 ≤ c ∧ c ≤ 126 := by
  intro c hc
  simp [zC] at hc
  omega
 have hhx : ∀ c, hexB c = true → 32 ≤ c ∧ c ≤ 126 := by
  intro c hc
  simp [hexB] at hc
  omega
 induction h with
 | nil => intro c hc; cases hc
 | raw h _ ih =>
  intro c hc
  rcases List.mem_cons.1 hc with rfl | hc
  · exact .inr (hal _ h)
  · exact ih c hc
 | esc hn _ hx _ _ _ ih =>
  intro c hc
  simp only [List.mem_cons, List.mem_append] at hc
  rcases hc with rfl | rfl | hc | hc
  · omega
  · omega
  · exact .inr (hhx _ (hx c hc))
  · exact ih c hc
 | brk _ _ ih =>
  intro c hc
  simp only [List.mem_cons, List.mem_append, List.mem_replicate] at hc
  rcases hc with rfl | rfl | ⟨_, rfl⟩ | hc
  · omega
  · omega
  · omega
  · exact ih c hc
theorem hexV_foldl {T ds r : List Nat} {a : Nat} (h : Rest T a (ds ++ r)) : ∀ n, n ≤ ds.length → hexV T a n = (ds.take n).foldl (fun a d => a * 16 + hexD d) 0
 | 0, _ => by simp [hexV]
 | n + 1, hn => by
  rw [hexV, hexV_foldl h n omT, h.get omT, List.take_succ_eq_append_getElem omT, List.foldl_append, List.getD_eq_getElem?_getD, List.getElem?_eq_getElem omT]
  rfl
theorem DQb.dqt {T v y : List Nat} (h : DQb v y) : ∀ {a : Nat} {r : List Nat}, Rest T a (y ++ 34 :: r) → DQT T a v (a + y.length) := by
 induction h with
 | nil =>
  intro a r hr
  exact .nil hr.at
 | @raw c v y h _ ih =>
  intro a r hr
  have hr' : Rest T a (c :: (y ++ 34 :: r)) := hr
  have hc := hr'.at
  have := ih hr'.one.2.2
  rw [show a + (c :: y).length = a + 1 + y.length by simp; omega, ← hc]
  exact .raw (by rw [hc]; exact h) this
 | @esc c n l v y ds hn hl hx hv hc _ ih =>
  intro a r hr
  have h1 : Rest T a (92 :: (l :: (ds ++ y) ++ 34 :: r)) := hr
  have h2 : Rest T (a + 1) (l :: (ds ++ (y ++ 34 :: r))) := by simpa using h1.one.2.2
  have h3 : Rest T (a + 2) (ds ++ (y ++ 34 :: r)) := h2.one.2.2
  have h4 : Rest T (a + 2 + n) (y ++ 34 :: r) := by rw [← hl]; exact h3.app
  rw [show a + (92 :: l :: (ds ++ y)).length = a + 2 + n + y.length by simp; omega]
  refine .esc h1.at (n := n) (by rw [h2.at]; exact hn) (fun i hi => ?_) ?_ hc (ih h4)
  · have := h3.get (i := i) omT
    rw [this, List.getD_eq_getElem?_getD, List.getElem?_eq_getElem omT]
    exact hx _ (List.getElem_mem _)
  · rw [hexV_foldl h3 n omT, ← hl, List.take_length]
    exact hv
 | @brk k v y h _ ih =>
  intro a r hr
  have h1 : Rest T a (92 :: (10 :: (sps k ++ y) ++ 34 :: r)) := hr
  have h2 : Rest T (a + 1) (10 :: (sps k ++ (y ++ 34 :: r))) := by simpa using h1.one.2.2
  have h3 : Rest T (a + 2) (sps k ++ (y ++ 34 :: r)) := h2.one.2.2
  have h4 : Rest T (a + 2 + k) (y ++ 34 :: r) := by simpa using h3.app
  rw [show a + (92 :: 10 :: (sps k ++ y)).length = a + 2 + k + y.length by simp; omega]
  have hd := ih h4
  refine .brk h1.at h2.at omT (h3.all (p := fun c => c = 32) (fun c hc => (List.mem_replicate.1 hc).2) |> fun g i hi hj => g i hi (by simpa using hj)) ?_ hd
  rcases hd.first with e | e | e
  · omega
  · omega
  · have := ky e; omega
def kT (nm : List Nat) : Bool := !(decide (nm = [45]) || decide (nm.take 3 = [45, 45, 45]))
def styOf (nm : List Nat) : Int := if kT nm then 2 else 8
def NameT (nm : List Nat) : Prop := 1 ≤ nm.length ∧ nm.length ≤ 8 ∧ ∀ c ∈ nm, zC c = true
def SclT (nm x : List Nat) : Prop := (kT nm = true ∧ x = nm) ∨ (kT nm = false ∧ ∃ y, x = 34 :: (y ++ [34]) ∧ DQb nm y ∧ y.length ≤ 1000)
def LeadT (x : List Nat) : Prop := (∃ k, 1 ≤ k ∧ k ≤ 10 ∧ x = sps k) ∨ ∃ e ls k, EndT e ∧ LinesT ls ∧ k ≤ 10 ∧ x = e ++ (ls ++ sps k)
def HanT (h : List Nat) : Prop := h = [33] ∨ ∃ w, (∀ c ∈ w, zC c = true) ∧ w.length ≤ 8 ∧ h = 33 :: (w ++ [33])
def PreT (p : List Nat) : Prop := p ≠ [] ∧ p.length ≤ 20 ∧ ∀ c ∈ p, uriB c = true
inductive DirT : Tk → List Nat → Prop
 | ver {k : Nat} {e ls : List Nat} (hk : 1 ≤ k ∧ k ≤ 10) (he : EndT e) (hl : LinesT ls) : DirT .ver (37 :: 89 :: 65 :: 77 :: 76 :: (sps k ++ (49 :: 46 :: 49 :: (e ++ ls))))
 | tag {k j : Nat} {h p e ls : List Nat} (hk : 1 ≤ k ∧ k ≤ 10) (hh : HanT h) (hj : 1 ≤ j ∧ j ≤ 10) (hp : PreT p) (he : EndT e) (hl : LinesT ls) : DirT (.tag h p) (37 :: 84 :: 65 :: 71 :: (sps k ++ (h ++ (sps j ++ (p ++ (e ++ ls))))))
inductive DirsT : List Tk → List Nat → Prop
 | nil : DirsT [] []
 | cons {t : Tk} {ts : List Tk} {x y : List Nat} (h : DirT t x) (k : DirsT ts y) : DirsT (t :: ts) (x ++ y)
inductive BodyT (nm : List Nat) : Bool → List Tk → List Nat → Prop
 | exp {dt : List Tk} {dx lead sx e : List Nat} (hd : DirsT dt dx) (hl : LeadT lead) (hs : SclT nm sx) (he : EndT e) : BodyT nm true dt (dx ++ (45 :: 45 :: 45 :: (lead ++ (sx ++ e))))
 | imp {k : Nat} {sx e : List Nat} (hk : k ≤ 10) (hs : SclT nm sx) (he : EndT e) : BodyT nm false [] (sps k ++ (sx ++ e))
inductive TailT : Bool → List Nat → Prop
 | none : TailT false []
 | dots {e ls : List Nat} (he : EndT e) (hl : LinesT ls) : TailT true (46 :: 46 :: 46 :: (e ++ ls))
structure kP where
 nm : List Nat
 ex : Bool
 en : Bool
 dt : List Tk
def qO (d : kP) : List Tk := (if d.ex then d.dt ++ [.ds] else []) ++ ([.sc (styOf d.nm) d.nm] ++ (if d.en then [.de] else []))
inductive DocsT : List kP → List Nat → Prop
 | nil : DocsT [] []
 | cons {d : kP} {ds : List kP} {x y z : List Nat} (hn : NameT d.nm) (hb : BodyT d.nm d.ex d.dt x) (ht : TailT d.en y) (hz : DocsT ds z) (hnx : d.en = false → ∀ d' ∈ ds.head?, d'.ex = true ∧ d'.dt = []) (hex : ∀ d' ∈ ds, d'.ex = true) : DocsT (d :: ds) (x ++ (y ++ z))
inductive Ch (T : List Nat) : Nat → List Tk → Prop
 | nil {a : Nat} (h0 : zH T a = 0) (h : T.length ≤ a) : Ch T a []
 | cons {a n : Nat} {t : Tk} {ts : List Tk} (h : NxAt T a t n) (k : Ch T n ts) : Ch T a (t :: ts)
theorem Ch.str {T : List Nat} {a : Nat} {ts : List Tk} (h : Ch T a ts) : ∃ p : Nat → Nat, p 0 = a ∧ ∀ j, NxAt T (p j) (ts[j]?.getD .se) (p (j + 1)) := by
 induction h with
 | @nil a h0 h => exact ⟨fun _ => a, rfl, fun j => by simpa using NxAt.se h0 h⟩
 | @cons a n t ts h _ ih =>
  obtain ⟨p, h1, h2⟩ := ih
  refine ⟨fun j => match j with | 0 => a | j + 1 => p j, rfl, fun j => ?_⟩
  cases j with
  | zero => simpa [h1] using h
  | succ j => simpa using h2 j
theorem EndT.dir {T r x : List Nat} {a : Nat} (hx : EndT x) (h : Rest T a (x ++ r)) : ∃ qb ql, DirEnd T a qb ql ∧ ql + 1 = a + x.length ∧ (a = qb → at_ T qb = 10) := by
 obtain ⟨k, c, rfl, hc, hk, _⟩ := hx
 have h1 : Rest T a (sps k ++ (c ++ 10 :: r)) := by simpa using h
 have h2 : Rest T (a + k) (c ++ 10 :: r) := by simpa using h1.app
 have h3 : Rest T (a + k + c.length) (10 :: r) := h2.app
 refine ⟨a + k, a + k + c.length, ⟨by omega, by omega, ?_, ?_, ?_, h3.at⟩, by simp; omega, fun e => ?_⟩
 · intro i hi hj
   exact h1.all (p := fun c => c = 32) (fun c hc => (List.mem_replicate.1 hc).2) i hi (by simpa using hj)
 · rcases hc with rfl | ⟨⟨d, rfl⟩, _⟩
   · exact .inl (by simp)
   · exact .inr (Rest.at (r := d ++ 10 :: r) h2)
 · intro i hi hj
   have h4 := h2.all (p := fun c => 32 ≤ c) (fun b hb => (hc.asc b hb).1) i hi hj
   have := h3.len
   exact ⟨by omega, by simp at this; omega⟩
 · have hk0 : k = 0 := by omega
   subst hk0
   by_cases h0 : c = []
   · subst h0; simpa using h3.at
   · have := hk h0; omega
theorem EndT.blankz {T r x : List Nat} {a : Nat} (hx : EndT x) (h : Rest T a (x ++ r)) : zK (at_ T a) = true := by
 obtain ⟨k, c, rfl, hc, hk, _⟩ := hx
 have h1 : Rest T a (sps k ++ (c ++ 10 :: r)) := by simpa using h
 cases k with
 | succ k =>
  have : at_ T a = 32 := Rest.at (r := sps k ++ (c ++ 10 :: r)) h1
  simp [zK, this]
 | zero =>
  by_cases h0 : c = []
  · subst h0
    have : at_ T a = 10 := Rest.at (r := r) h1
    simp [zK, this]
  · have := hk h0; omega
theorem LeadT.blankz {T r x : List Nat} {a : Nat} (hx : LeadT x) (h : Rest T a (x ++ r)) : zK (at_ T a) = true := by
 rcases hx with ⟨k, h1, _, rfl⟩ | ⟨e, ls, k, he, _, _, rfl⟩
 · cases k with
   | zero => omega
   | succ k =>
    have : at_ T a = 32 := Rest.at (r := sps k ++ r) h
    simp [zK, this]
 · exact he.blankz (r := ls ++ sps k ++ r) (by simpa using h)
theorem LeadT.sk {T r x : List Nat} {a : Nat} (hx : LeadT x) (h : Rest T a (x ++ r)) : Go.Proofs.YtnfbcfflkphbiaaGreatDoor.sk T a = Go.Proofs.YtnfbcfflkphbiaaGreatDoor.sk T (a + x.length) := by
 rcases hx with ⟨k, h1, _, rfl⟩ | ⟨e, ls, k, he, hl, _, rfl⟩
 · simpa using sk_sps h
 · have h1 : Rest T a (e ++ (ls ++ (sps k ++ r))) := by simpa using h
   have h2 := he.line.sk h1
   have h3 := hl.sk h1.app h2.2
   have h4 := sk_sps (k := k) h1.app.app
   rw [h2.1, h3.1, h4]
   congr 1
   simp
   omega
theorem LeadT.le {x : List Nat} (h : LeadT x) : x.length ≤ 400 ∧ (∀ c ∈ x, c = 10 ∨ (32 ≤ c ∧ c ≤ 126)) := by
 rcases h with ⟨k, _, h2, rfl⟩ | ⟨e, ls, k, he, hl, hk, rfl⟩
 · refine ⟨by simp; omega, fun c hc => ?_⟩
   have := (List.mem_replicate.1 hc).2
   omega
 · have h1 := he.line.le
   have h2 := hl.le
   refine ⟨by simp; omega, fun c hc => ?_⟩
   simp only [List.mem_append] at hc
   rcases hc with hc | hc | hc
   · exact h1.2 c hc
   · exact h2.2 c hc
   · have := (List.mem_replicate.1 hc).2
     omega
theorem SclT.sk0 {T r x nm : List Nat} {a : Nat} (hn : NameT nm) (hx : SclT nm x) (h : Rest T a (x ++ r)) : Go.Proofs.YtnfbcfflkphbiaaGreatDoor.sk T a = a := by
 rcases hx with ⟨_, rfl⟩ | ⟨_, y, rfl, _⟩
 · match x, hn, h with
   | [], hn, _ => simp [NameT] at hn
   | c :: x, hn, h =>
    have h' : Rest T a (c :: (x ++ r)) := h
    have := alpha_ne (hn.2.2 c (by simp))
    rw [← h'.at] at this
    exact sk_stop omT omT omT
 · have : at_ T a = 34 := Rest.at (r := y ++ [34] ++ r) (by simpa using h)
   exact sk_stop omT omT omT
def NextT (T : List Nat) (a : Nat) : Prop := T.length ≤ a ∨ DI T a
theorem scl_nx {T r x e nm : List Nat} {a : Nat} (hn : NameT nm) (hx : SclT nm x) (he : EndT e) (h : Rest T a (x ++ (e ++ r))) (hr : NextT T (a + (x ++ e).length)) : NxAt T a (.sc (styOf nm) nm) (sk T (a + (x ++ e).length)) := by
 have hr2 : Rest T (a + x.length) (e ++ r) := h.app
 have hl : a + (x ++ e).length = a + x.length + e.length := by simp; omega
 have hsk := (he.line.sk hr2).1
 rcases hx with ⟨hp, rfl⟩ | ⟨hp, y, rfl, hd, _⟩
 · rw [show styOf x = 2 by simp [styOf, hp]]
   have hcut := h.cut
   have hbz := he.blankz hr2
   obtain ⟨k, c, rfl, hc, hk, _⟩ := he
   have h1 : Rest T (a + x.length) (sps k ++ (c ++ 10 :: r)) := by simpa using hr2
   have h2 : Rest T (a + x.length + k) (c ++ 10 :: r) := by simpa using h1.app
   have hall := h1.all (p := fun c => c = 32) (fun c hc => (List.mem_replicate.1 hc).2)
   have hal := h.all (p := fun c => zC c = true) hn.2.2
   have hx1 := hn.1
   have hpl : ¬ (x = [45]) ∧ ¬ (x.take 3 = [45, 45, 45]) := by
     simp [kT] at hp
     exact hp
   have hdi : ¬ (zH T a = 0 ∧ at_ T a = 45 ∧ at_ T (a + 1) = 45 ∧ at_ T (a + 2) = 45 ∧ zK (at_ T (a + 3)) = true) := by
     rintro ⟨_, g0, g1, g2, g3⟩
     match x, hx1, hpl, hal, h, hbz with
     | [c0], _, hpl, _, h, _ =>
       have h' : Rest T a (c0 :: ((sps k ++ (c ++ [10])) ++ r)) := h
       rw [h'.at] at g0
       exact hpl.1 (by rw [g0])
     | [c0, c1], _, _, hal, h, hbz =>
       have : zK (at_ T (a + 2)) = true := by simpa using hbz
       rw [g2] at this
       simp [zK] at this
     | c0 :: c1 :: c2 :: t, _, hpl, _, h, _ =>
       have h0 : Rest T a (c0 :: (c1 :: c2 :: t ++ ((sps k ++ (c ++ [10])) ++ r))) := h
       have h1 : Rest T (a + 1) (c1 :: (c2 :: t ++ ((sps k ++ (c ++ [10])) ++ r))) := h0.one.2.2
       have h2 : Rest T (a + 2) (c2 :: (t ++ ((sps k ++ (c ++ [10])) ++ r))) := h1.one.2.2
       rw [h0.at] at g0
       rw [h1.at] at g1
       rw [h2.at] at g2
       exact hpl.2 (by rw [g0, g1, g2]; rfl)
   have h45 : at_ T a = 45 → zK (at_ T (a + 1)) = false := by
     intro g0
     match x, hx1, hpl, hal, h with
     | [c0], _, hpl, _, h =>
       have h' : Rest T a (c0 :: ((sps k ++ (c ++ [10])) ++ r)) := h
       rw [h'.at] at g0
       exact absurd (by rw [g0]) hpl.1
     | c0 :: c1 :: t, _, _, hal, h =>
       have := hal (a + 1) omT (by simp)
       have := ky this
       simp [zK]
       omega
   have hbig : ∀ q', a + x.length ≤ q' → (∀ i, a + x.length ≤ i → i < q' → at_ T i = 32 ∨ at_ T i = 10) → (at_ T q' = 0 ∨ at_ T q' = 35 ∨ DI T q') → sk T q' = sk T (a + (x ++ (sps k ++ (c ++ [10]))).length) → NxAt T a (.sc 2 x) (sk T (a + (x ++ (sps k ++ (c ++ [10]))).length)) := by
     intro q' g1 g2 g3 g4
     rw [← g4]
     have := NxAt.pl (T := T) (a := a) (a + x.length) q' omT hal hbz hdi h45 g1 g2 g3
     rw [hcut] at this
     exact this
   rcases hc with rfl | ⟨⟨d, rfl⟩, hc2⟩
   · have h3 : Rest T (a + x.length + k) (10 :: r) := h2
     refine hbig (a + x.length + k + 1) omT (fun i hi hj => ?_) ?_ (by rw [hl]; congr 1; simp; omega)
     · by_cases hq : i < a + x.length + k
       · exact .inl (hall i hi (by simpa using hq))
       · rw [show i = a + x.length + k by omega]
         exact .inr h3.at
     · have e1 : a + (x ++ (sps k ++ ([] ++ [10]))).length = a + x.length + k + 1 := by simp; omega
       rw [e1] at hr
       rcases hr with hr | hr
       · exact .inl (qS hr)
       · exact .inr (.inr hr)
   · refine hbig (a + x.length + k) omT (fun i hi hj => .inl (hall i hi (by simpa using hj))) (.inr (.inl (Rest.at (r := d ++ 10 :: r) h2))) ?_
     rw [hl, ← hsk]
     have := sk_sps h1
     rw [this]
 · rw [show styOf nm = 8 by simp [styOf, hp]]
   have h0 : Rest T a (34 :: (y ++ 34 :: (e ++ r))) := by simpa using h
   have h1 := h0.one.2.2
   have h2 := hd.dqt h1
   have := NxAt.dq (T := T) (a := a) (a + 1 + y.length) nm h0.at (by intro e; subst e; simp [NameT] at hn) (by have := hn.2.1; omega) h2
   rw [show a + 1 + y.length + 1 = a + (34 :: (y ++ [34])).length by simp; omega, hsk] at this
   rw [hl]
   exact this
theorem dir_nx {T r x : List Nat} {a : Nat} {t : Tk} (hx : DirT t x) (h : Rest T a (x ++ r)) (h0 : zH T a = 0) : NxAt T a t (sk T (a + x.length)) ∧ zH T (a + x.length) = 0 ∧ sk T a = a := by
 cases hx with
 | @ver k e ls hk he hl =>
  have g0 : Rest T a (37 :: (89 :: 65 :: 77 :: 76 :: (sps k ++ (49 :: 46 :: 49 :: (e ++ (ls ++ r)))))) := by simpa using h
  have g1 := g0.one.2.2
  have g2 := g1.one.2.2
  have g3 := g2.one.2.2
  have g4 := g3.one.2.2
  have g5 := g4.one.2.2
  have g6 : Rest T (a + 5 + k) (49 :: 46 :: 49 :: (e ++ (ls ++ r))) := by simpa using g5.app
  have g7 := g6.one.2.2
  have g8 := g7.one.2.2
  have g9 := g8.one.2.2
  have s1 := he.line.sk g9
  have s2 := hl.sk g9.app s1.2
  have hlen : a + (37 :: 89 :: 65 :: 77 :: 76 :: (sps k ++ (49 :: 46 :: 49 :: (e ++ ls)))).length = a + 5 + k + 1 + 1 + 1 + e.length + ls.length := by simp; omega
  obtain ⟨qb, ql, hd, hql, _⟩ := he.dir g9
  have hsp := g5.all (p := fun c => c = 32) (fun c hc => (List.mem_replicate.1 hc).2)
  have hh := g0.at
  rw [hlen]
  refine ⟨?_, s2.2, sk_stop omT omT omT⟩
  have := NxAt.yaml (T := T) (a := a) (a + 5 + k) qb ql h0 g0.at g1.at g2.at g3.at g4.at omT (fun i hi hj => hsp i omT (by simpa using hj)) g6.at g7.at g8.at hd
  rw [hql, s2.1] at this
  exact this
 | @tag k j hn p e ls hk hh hj hp he hl =>
  have g0 : Rest T a (37 :: (84 :: 65 :: 71 :: (sps k ++ (hn ++ (sps j ++ (p ++ (e ++ (ls ++ r)))))))) := by simpa using h
  have g1 := g0.one.2.2
  have g2 := g1.one.2.2
  have g3 := g2.one.2.2
  have g4 := g3.one.2.2
  have g5 : Rest T (a + 4 + k) (hn ++ (sps j ++ (p ++ (e ++ (ls ++ r))))) := by simpa using g4.app
  have g6 : Rest T (a + 4 + k + hn.length) (sps j ++ (p ++ (e ++ (ls ++ r)))) := g5.app
  have g7 : Rest T (a + 4 + k + hn.length + j) (p ++ (e ++ (ls ++ r))) := by simpa using g6.app
  have g8 : Rest T (a + 4 + k + hn.length + j + p.length) (e ++ (ls ++ r)) := g7.app
  have s1 := he.line.sk g8
  have s2 := hl.sk g8.app s1.2
  have hlen : a + (37 :: 84 :: 65 :: 71 :: (sps k ++ (hn ++ (sps j ++ (p ++ (e ++ ls)))))).length = a + 4 + k + hn.length + j + p.length + e.length + ls.length := by simp; omega
  obtain ⟨qb, ql, hd, hql, hqe⟩ := he.dir g8
  have hsp := g4.all (p := fun c => c = 32) (fun c hc => (List.mem_replicate.1 hc).2)
  have hsp2 := g6.all (p := fun c => c = 32) (fun c hc => (List.mem_replicate.1 hc).2)
  have hpre := g7.all (p := fun c => uriB c = true) hp.2.2
  have hpl : 1 ≤ p.length := by
   rcases p with _ | ⟨c, p⟩
   · exact absurd rfl hp.1
   · simp
  have hc1 := g5.cut
  have hc2 := g7.cut
  have hh0 := g0.at
  rw [hlen]
  refine ⟨?_, s2.2, sk_stop omT omT omT⟩
  have hz : ∃ qa, a + 4 + k < qa ∧ at_ T (a + 4 + k) = 33 ∧ (∀ i, a + 4 + k < i → i < qa → zC (at_ T i) = true) ∧ ((at_ T qa = 33 ∧ a + 4 + k + hn.length = qa + 1) ∨ (at_ T qa = 32 ∧ qa = a + 4 + k + 1 ∧ a + 4 + k + hn.length = qa)) := by
   rcases hh with rfl | ⟨w, hw, _, rfl⟩
   · refine ⟨a + 4 + k + 1, by omega, Rest.at (r := sps j ++ (p ++ (e ++ (ls ++ r)))) g5, fun i hi hj => by omega, .inr ⟨hsp2 _ (by simp) (by simp; omega), rfl, by simp⟩⟩
   · have g5' : Rest T (a + 4 + k) (33 :: (w ++ (33 :: (sps j ++ (p ++ (e ++ (ls ++ r))))))) := by simpa using g5
     have g5'' := g5'.one.2.2
     have g5a := g5''.app
     exact ⟨a + 4 + k + 1 + w.length, by omega, g5'.at, fun i hi hj => g5''.all (p := fun c => zC c = true) hw i omT hj, .inl ⟨g5a.at, by simp; omega⟩⟩
  obtain ⟨qa, hq1, hq2, hq3, hq4⟩ := hz
  have := NxAt.tag (T := T) (a := a) (a + 4 + k) qa (a + 4 + k + hn.length) (a + 4 + k + hn.length + j) (a + 4 + k + hn.length + j + p.length) qb ql h0 g0.at g1.at g2.at g3.at omT (fun i hi hj => hsp i omT (by simpa using hj)) hq2 hq1 hq3 hq4 omT (fun i hi hj => hsp2 i hi (by simpa using hj)) omT hpre hd hqe
  rw [hql, s2.1, hc1, hc2] at this
  exact this
theorem dirs_ch {T r x : List Nat} {dt ts : List Tk} (hx : DirsT dt x) : ∀ {a : Nat}, Rest T a (x ++ r) → zH T a = 0 → zH T (a + x.length) = 0 ∧ (Ch T (sk T (a + x.length)) ts → Ch T (sk T a) (dt ++ ts)) := by
 induction hx with
 | nil =>
  intro a _ h0
  exact ⟨h0, fun h => h⟩
 | @cons t dt x y hd _ ih =>
  intro a h h0
  have h1 : Rest T a (x ++ (y ++ r)) := by simpa using h
  obtain ⟨g1, g2, g3⟩ := dir_nx hd h1 h0
  obtain ⟨g4, g5⟩ := ih h1.app g2
  have hl : a + (x ++ y).length = a + x.length + y.length := by simp; omega
  rw [hl]
  refine ⟨g4, fun h => ?_⟩
  rw [g3]
  exact .cons g1 (g5 h)
theorem body_ch {T r x nm : List Nat} {dt ts : List Tk} {ex : Bool} {a : Nat} (hn : NameT nm) (hx : BodyT nm ex dt x) (h : Rest T a (x ++ r)) (h0 : zH T a = 0) (hr : zH T (a + x.length) = 0 → NextT T (a + x.length)) : zH T (a + x.length) = 0 ∧ (Ch T (sk T (a + x.length)) ts → Ch T (sk T a) ((if ex then dt ++ [.ds] else []) ++ (.sc (styOf nm) nm :: ts))) := by
 cases hx with
 | @exp _ dx lead sx e hd hl hs he =>
  have h1 : Rest T a (dx ++ (45 :: (45 :: 45 :: (lead ++ (sx ++ (e ++ r)))))) := by simpa using h
  have g0 : Rest T (a + dx.length) (45 :: (45 :: 45 :: (lead ++ (sx ++ (e ++ r))))) := h1.app
  have g1 := g0.one.2.2
  have g2 := g1.one.2.2
  have g3 : Rest T (a + dx.length + 1 + 1 + 1) (lead ++ (sx ++ (e ++ r))) := g2.one.2.2
  have g4 := g3.app
  have g5 := g4.app
  have hlen : a + (dx ++ (45 :: 45 :: 45 :: (lead ++ (sx ++ e)))).length = a + dx.length + 1 + 1 + 1 + lead.length + (sx ++ e).length := by simp; omega
  have hlen2 : a + dx.length + 1 + 1 + 1 + lead.length + (sx ++ e).length = a + dx.length + 1 + 1 + 1 + lead.length + sx.length + e.length := by simp; omega
  have hc := (he.line.sk g5).2
  rw [hlen] at hr ⊢
  rw [← hlen2] at hc
  have k1 := scl_nx hn hs he g4 (hr hc)
  have k2 : NxAt T (a + dx.length) .ds (sk T (a + dx.length + 1 + 1 + 1)) := .ds (dirs_ch (ts := []) hd h1 h0).1 g0.at g1.at g2.at (hl.blankz g3)
  rw [hl.sk g3, hs.sk0 hn g4] at k2
  have k3 : sk T (a + dx.length) = a + dx.length := by
   have := g0.at
   exact sk_stop omT omT omT
  refine ⟨hc, fun hk => ?_⟩
  have := (dirs_ch (ts := .ds :: .sc (styOf nm) nm :: ts) hd h1 h0).2 (by rw [k3]; exact .cons k2 (.cons k1 hk))
  simpa using this
 | @imp k sx e hk hs he =>
  have h1 : Rest T a (sps k ++ (sx ++ (e ++ r))) := by simpa using h
  have g1 : Rest T (a + k) (sx ++ (e ++ r)) := by simpa using h1.app
  have g2 := g1.app
  have hlen : a + (sps k ++ (sx ++ e)).length = a + k + (sx ++ e).length := by simp; omega
  have hlen2 : a + k + (sx ++ e).length = a + k + sx.length + e.length := by simp; omega
  have hc := (he.line.sk g2).2
  rw [hlen] at hr ⊢
  rw [← hlen2] at hc
  have k1 := scl_nx hn hs he g1 (hr hc)
  have k2 := sk_sps h1
  rw [hs.sk0 hn g1] at k2
  refine ⟨hc, fun hk => ?_⟩
  rw [k2]
  exact .cons k1 hk
theorem body_di {T r x nm : List Nat} {a : Nat} (hx : BodyT nm true [] x) (h : Rest T a (x ++ r)) (h0 : zH T a = 0) : DI T a := by
 cases hx with
 | @exp _ dx lead sx e hd hl hs he =>
  cases hd
  have g0 : Rest T a (45 :: (45 :: 45 :: (lead ++ (sx ++ (e ++ r))))) := by simpa using h
  have g1 := g0.one.2.2
  have g2 := g1.one.2.2
  have g3 : Rest T (a + 1 + 1 + 1) (lead ++ (sx ++ (e ++ r))) := g2.one.2.2
  exact ⟨h0, .inl ⟨g0.at, g1.at, g2.at⟩, hl.blankz g3⟩
theorem docs_ch {T x : List Nat} {ds : List kP} (hx : DocsT ds x) : ∀ {a : Nat}, Rest T a x → zH T a = 0 → Ch T (sk T a) (ds.flatMap qO) := by
 induction hx with
 | nil =>
  intro a h h0
  have := h.nil
  rw [sk_end omT]
  exact .nil h0 omT
 | @cons d ds x y z hn hb ht hz hnx hex ih =>
  intro a h h0
  have h1 := h.app
  obtain ⟨nm, ex, en, dt⟩ := d
  dsimp only at hn hb ht hnx
  cases ht with
  | none =>
   have h1' : Rest T (a + x.length) z := by simpa using h1
   have hh : Rest T a (x ++ z) := by simpa using h
   have hr : zH T (a + x.length) = 0 → NextT T (a + x.length) := by
    intro h0
    cases hz with
    | nil => exact .inl (by have := h1'.nil; omega)
    | @cons d' ds' x' y' z' hn' hb' ht' hz' hnx' hex' =>
     have := hnx rfl d' (by simp)
     rw [this.1, this.2] at hb'
     exact .inr (body_di hb' h1' h0)
   obtain ⟨g1, g2⟩ := body_ch (ts := ds.flatMap qO) hn hb hh h0 hr
   have := g2 (ih h1' g1)
   simpa [qO] using this
  | @dots e ls he hl =>
   have g0 : Rest T (a + x.length) (46 :: (46 :: 46 :: (e ++ (ls ++ z)))) := by simpa using h1
   have g1 := g0.one.2.2
   have g2 := g1.one.2.2
   have g3 : Rest T (a + x.length + 1 + 1 + 1) (e ++ (ls ++ z)) := g2.one.2.2
   have s1 := he.line.sk g3
   have s2 := hl.sk g3.app s1.2
   have g4 : Rest T (a + x.length + 1 + 1 + 1 + e.length + ls.length) z := g3.app.app
   have hr : zH T (a + x.length) = 0 → NextT T (a + x.length) := fun h0 => .inr ⟨h0, .inr ⟨g0.at, g1.at, g2.at⟩, he.blankz g3⟩
   obtain ⟨k1, k2⟩ := body_ch (ts := .de :: ds.flatMap qO) hn hb (r := 46 :: 46 :: 46 :: (e ++ ls) ++ z) h h0 hr
   have k3 : sk T (a + x.length) = a + x.length := by
    have := g0.at
    exact sk_stop omT omT omT
   have k4 : NxAt T (a + x.length) .de (sk T (a + x.length + 1 + 1 + 1)) := .de k1 g0.at g1.at g2.at (he.blankz g3)
   rw [s1.1, s2.1] at k4
   have := k2 (by rw [k3]; exact .cons k4 (ih g4 s2.2))
   simpa [qO] using this
abbrev Asc (x : List Nat) : Prop := ∀ c ∈ x, c = 10 ∨ (32 ≤ c ∧ c ≤ 126)
theorem Asc.app {x y : List Nat} (hx : Asc x) (hy : Asc y) : Asc (x ++ y) := fun c hc => (List.mem_append.1 hc).elim (hx c) (hy c)
theorem Asc.cons {c : Nat} {y : List Nat} (hc : c = 10 ∨ (32 ≤ c ∧ c ≤ 126)) (hy : Asc y) : Asc (c :: y) := fun b hb => by
 rcases List.mem_cons.1 hb with rfl | hb
 · exact hc
 · exact hy b hb
theorem asc_nil : Asc [] := fun _ h => by cases h
theorem asc_sps (k : Nat) : Asc (sps k) := fun c hc => by
 have := (List.mem_replicate.1 hc).2
 omega
theorem asc_alpha {x : List Nat} (h : ∀ c ∈ x, zC c = true) : Asc x := fun c hc => by
 have := ky (h c hc)
 omega
theorem asc_uri {x : List Nat} (h : ∀ c ∈ x, uriB c = true) : Asc x := fun c hc => by
 rcases (wA (h c hc)).1 with e | e | e | e | e
 · have := ky e; omega
 · omega
 · omega
 · omega
 · omega
theorem SclT.le {nm x : List Nat} (hn : NameT nm) (h : SclT nm x) : x.length ≤ 1002 ∧ Asc x := by
 rcases h with ⟨_, rfl⟩ | ⟨_, y, rfl, hd, hy⟩
 · have := hn.2.1
   exact ⟨by omega, asc_alpha hn.2.2⟩
 · exact ⟨by simp; omega, .cons omT (.app hd.asc (.cons omT asc_nil))⟩
theorem HanT.le {h : List Nat} (hh : HanT h) : h.length ≤ 10 ∧ Asc h ∧ ∀ c ∈ h, c < 256 := by
 rcases hh with rfl | ⟨w, hw, hl, rfl⟩
 · exact ⟨by simp, .cons omT asc_nil, by simp⟩
 · refine ⟨by simp; omega, .cons omT (.app (asc_alpha hw) (.cons omT asc_nil)), fun c hc => ?_⟩
   simp only [List.mem_cons, List.mem_append, List.not_mem_nil, or_false] at hc
   rcases hc with rfl | hc | rfl
   · omega
   · have := ky (hw c hc); omega
   · omega
theorem PreT.lt {p : List Nat} (hp : PreT p) : ∀ c ∈ p, c < 256 := fun c hc => by
 have := asc_uri hp.2.2 c hc
 omega
theorem DirT.le {t : Tk} {x : List Nat} (h : DirT t x) : x.length ≤ 500 ∧ Asc x := by
 cases h with
 | @ver k e ls hk he hl =>
  have h1 := he.line.le
  have h2 := hl.le
  refine ⟨by simp; omega, ?_⟩
  exact .cons omT (.cons omT (.cons omT (.cons omT (.cons omT (.app (asc_sps k) (.cons omT (.cons omT (.cons omT (.app h1.2 h2.2)))))))))
 | @tag k j hn p e ls hk hh hj hp he hl =>
  have h1 := he.line.le
  have h2 := hl.le
  have h3 := hh.le
  have h4 := hp.2.1
  refine ⟨by simp; omega, ?_⟩
  exact .cons omT (.cons omT (.cons omT (.cons omT (.app (asc_sps k) (.app h3.2.1 (.app (asc_sps j) (.app (asc_uri hp.2.2) (.app h1.2 h2.2))))))))
theorem DirsT.le {dt : List Tk} {x : List Nat} (h : DirsT dt x) : x.length ≤ dt.length * 500 ∧ Asc x := by
 induction h with
 | nil => exact ⟨by simp, asc_nil⟩
 | cons h _ ih =>
  have := h.le
  refine ⟨by simp; omega, .app this.2 ih.2⟩
theorem BodyT.le {nm x : List Nat} {ex : Bool} {dt : List Tk} (hn : NameT nm) (h : BodyT nm ex dt x) : x.length ≤ dt.length * 500 + 2000 ∧ Asc x := by
 cases h with
 | exp hd hl hs he =>
  have h1 := hd.le
  have h2 := hl.le
  have h3 := hs.le hn
  have h4 := he.line.le
  exact ⟨by simp; omega, .app h1.2 (.cons omT (.cons omT (.cons omT (.app h2.2 (.app h3.2 h4.2)))))⟩
 | imp hk hs he =>
  have h3 := hs.le hn
  have h4 := he.line.le
  exact ⟨by simp; omega, .app (asc_sps _) (.app h3.2 h4.2)⟩
theorem TailT.le {en : Bool} {x : List Nat} (h : TailT en x) : x.length ≤ 400 ∧ Asc x := by
 cases h with
 | none => exact ⟨by simp, asc_nil⟩
 | dots he hl =>
  have h1 := he.line.le
  have h2 := hl.le
  exact ⟨by simp; omega, .cons omT (.cons omT (.cons omT (.app h1.2 h2.2)))⟩
theorem DocsT.le {ds : List kP} {x : List Nat} (h : DocsT ds x) (hd : ∀ d ∈ ds, d.dt.length ≤ 10) : x.length ≤ ds.length * 8000 ∧ Asc x := by
 induction h with
 | nil => exact ⟨by simp, asc_nil⟩
 | @cons d ds x y z hn hb ht hz hnx hex ih =>
  have h1 := hb.le hn
  have h2 := ht.le
  have h3 := ih (fun d hd' => hd d (by simp [hd']))
  have h4 := hd d (by simp)
  exact ⟨by simp; omega, .app h1.2 (.app h2.2 h3.2)⟩
def StreamT (ds : List kP) (T : List Nat) : Prop := ∃ l x, T = l ++ x ∧ LinesT l ∧ DocsT ds x
theorem stream_ch {T : List Nat} {ds : List kP} (h : StreamT ds T) : Ch T (sk T 0) (ds.flatMap qO) := by
 obtain ⟨l, x, rfl, hl, hd⟩ := h
 have h1 : Rest (l ++ x) 0 (l ++ x) := Rest.start _
 have h2 := hl.sk h1 rfl
 rw [h2.1]
 exact docs_ch hd h1.app h2.2
theorem stream_le {T : List Nat} {ds : List kP} (h : StreamT ds T) (hd : ∀ d ∈ ds, d.dt.length ≤ 10) (hn : ds.length ≤ 3) : T.length ≤ 100000 ∧ Asc T := by
 obtain ⟨l, x, rfl, hl, hx⟩ := h
 have h1 := hl.le
 have h2 := hx.le hd
 exact ⟨by simp; omega, .app h1.2 h2.2⟩
section
variable {P : Program} {n : Nat} {ds : List Deferred} {pu : Bool} {w0 : World} {D : List Nat} {H : zl} {E : Env}
variable {d : Option Nat} {ty : TypeId} {ps : String} {af : Array Edge} {g : Option (Nat × Bool)} {x : Operand}
theorem q_ldcs {t b a i : Nat} {e : TypeId} {l : List Value} {v : Value} [qn P t] (h : opv E x = some (.pointer (some ⟨b, a, none⟩))) [hh : Has H b (.cs e l [])] (ha : a = i) (hi : l[i]? = some v) :
  Q1 P n ds pu w0 D H E ⟨d, .load t x, ty, ps, af, g⟩ v := by
 subst ha
 have hl := (List.getElem?_eq_some_iff.1 hi).1
 have hc : (Blk.cs e l []).cell a = some v := by simp only [Blk.cell, look, nth]; exact hi
 exact zp h (hh := hh) (by simp [Blk.lo]) (Nat.ble_eq_true_of_le (Nat.succ_le_of_lt hl)) hc
end
theorem CP.int {T : List Nat} {J : JL} {k : Nat} {v : Value} (h : CP T J k v) (hk : k % 15 < 12) : ∃ z, v = .int .i64 z := h.1 hk
theorem CP.sl {T : List Nat} {J : JL} {k : Nat} {v : Value} (h : CP T J k v) (hk : 12 ≤ k % 15) : ∃ s : Sl, v = s.v ∧ JSl J s ∧ s.n ≤ T.length := h.2 hk
theorem SI.unf {L : Lay} {T : List Nat} {X : SS} {a b c : Sl} {k : Nat} {J : JL} (h : SI L T X) (hk : k ≤ X.cn) (h1 : JSl J a ∧ a.n ≤ k * (T.length + 1)) (h2 : JSl J b ∧ b.n ≤ k * (T.length + 1)) (h3 : JSl J c ∧ c.n ≤ k * (T.length + 1)) :
  SI L T { X with head := a, line := b, foot := c, comh := k, J := J } := by
 have hi := h.inv
 obtain ⟨small, asc, icap, qlen, nlq, pq, pbl, slack, bl, unl, rp, rl, offl, ip, ipl, eofi, enc, e_⟩ := hi
 exact ⟨⟨small, asc, icap, qlen, nlq, pq, pbl, slack, bl, unl, rp, rl, offl, ip, ipl, eofi, enc, e_⟩, h.sml, h.tlc, h.tkc, h.thl, h.tpl, h.skc, h.cnq, hk, h.com, h1, h2, h3⟩
theorem mul_big {k n : Nat} (h1 : k ≤ 1000000) (h2 : n ≤ 1000000) : k * (n + 1) ≤ 1000001000000 := by
 have := Nat.mul_le_mul h1 (Nat.succ_le_succ h2)
 exact this
theorem unf_ok (L : Lay) (T : List Nat) (X : SS) (tv : TV) (hi : SI L T X) (htv : X.tl[X.th]? = some tv) (hty : tv.typ ≠ 9) :
   Fn prog 128 [pV L.p, .pointer (some ⟨X.tkb, X.th * 14, none⟩)] (SH L T X)
    (fun v H' => v = .tuple #[] ∧ ∃ a b c k J, H' = SH L T { X with head := a, line := b, foot := c, comh := k, J := J } ∧ SI L T { X with head := a, line := b, foot := c, comh := k, J := J } ∧ JLe X.J J) := by
 have hcom := hi.com
 have hcn : X.cn ≤ T.length := Nat.le_trans hi.cnq hi.inv.qlen
 have hsml := hi.sml
 refine zo func128 rfl rfl rfl ?_
 intro w
 rcases hcom with ⟨hC, hc0⟩ | ⟨cb, ck, hC, hck, hck2⟩
 · obtain ⟨X0, rfl⟩ : ∃ X0 : SS, X = { X0 with C := none } := ⟨X, by rw [← hC]⟩
   have hcomh := hi.cmh
   dsimp only at hc0 hcomh
   refine qF (H' := RH L T (zc { X0 with C := none }) (TKB T X0 :: SKB X0 :: MPB X0 :: (CH T X0.J none ++ XH X0.V X0.J))) (Wk.toT (CH T X0.J none ++ XH X0.V X0.J) [L.p, L.bb, L.rb, L.ib, 0, X0.tkb, X0.skb, X0.mpb] wlT) (kf ?_)
   refine zw (σ := Unit) (fun _ => [(0, pV L.p), (1, .pointer (some ⟨X0.tkb, X0.th * 14, none⟩))]) (fun _ => RH L T (zc { X0 with C := none }) (TKB T X0 :: SKB X0 :: MPB X0 :: (CH T X0.J none ++ XH X0.V X0.J))) (fun _ => True) (fun _ => 0) () trivial suT (Wk.refl _) ?_
   rintro ⟨⟩ -
   refine gg 12 ?_
   refine dlt0 (h := ?_) (hc := by dsimp only [comS]; omega)
   refine gg 27 ?_
   exact end0nw rfl (Wk.toT (CH T X0.J none ++ XH X0.V X0.J) [L.p, L.bb, L.rb, L.ib, 0, X0.tkb, X0.skb, X0.mpb] wlT) ⟨rfl, X0.head, X0.line, X0.foot, X0.comh, X0.J, rfl, hi, JLe.refl _⟩
 · obtain ⟨X0, rfl⟩ : ∃ X0 : SS, X = { X0 with C := some (cb, ck) } := ⟨X, by rw [← hC]⟩
   have hcomh := hi.cmh
   have hcnq := hi.cnq
   dsimp only at hck hcomh hcn htv hcnq
   have hthl : X0.th < X0.tl.length := (List.getElem?_eq_some_iff.1 htv).1
   refine zt (RH L T (zc { X0 with C := some (cb, ck) }) (TKB T X0 :: SKB X0 :: MPB X0 :: (cb, .obj (anyO 204 (ck * 15) (CP T X0.J))) :: XH X0.V X0.J)) _ rfl rfl ?_
   refine qF (H' := RH L T (zc { X0 with C := some (cb, ck), head := X0.head, line := X0.line, foot := X0.foot, comh := X0.comh, J := X0.J }) ((cb, .obj (anyO 204 (ck * 15) (CP T X0.J))) :: TKB T X0 :: SKB X0 :: MPB X0 :: XH X0.V X0.J)) (Wk.toT (XH X0.V X0.J) [L.p, L.bb, L.rb, L.ib, 0, cb, X0.tkb, X0.skb, X0.mpb] wlT) ?_
   refine kf ?_
   refine zw (σ := Sl × Sl × Sl × Nat × JL) (fun _ => [(0, pV L.p), (1, .pointer (some ⟨X0.tkb, X0.th * 14, none⟩))]) (fun x => RH L T (zc { X0 with C := some (cb, ck), head := x.1, line := x.2.1, foot := x.2.2.1, comh := x.2.2.2.1, J := x.2.2.2.2 }) ((cb, .obj (anyO 204 (ck * 15) (CP T x.2.2.2.2))) :: TKB T X0 :: SKB X0 :: MPB X0 :: XH X0.V x.2.2.2.2)) (fun x => SI L T { X0 with C := some (cb, ck), head := x.1, line := x.2.1, foot := x.2.2.1, comh := x.2.2.2.1, J := x.2.2.2.2 } ∧ JLe X0.J x.2.2.2.2) (fun x => X0.cn - x.2.2.2.1) (X0.head, X0.line, X0.foot, X0.comh, X0.J) ⟨hi, JLe.refl _⟩ suT (Wk.refl _) ?_
   rintro ⟨sh, sl, sf, k, J⟩ ⟨hs, hj⟩
   dsimp only at hs hj
   have hk := hs.cmh
   have hjh := hs.jh
   have hjl := hs.jl
   have hjf := hs.jf
   dsimp only at hk hjh hjl hjf
   have hmb := mul_big (k := k) (n := T.length) omT omT
   have hms : (k + 1) * (T.length + 1) = k * (T.length + 1) + (T.length + 1) := by rw [Nat.add_mul, Nat.one_mul]
   refine zt (RH L T (zc { X0 with C := some (cb, ck), head := sh, line := sl, foot := sf, comh := k, J := J }) ((cb, .obj (anyO 204 (ck * 15) (CP T J))) :: TKB T X0 :: SKB X0 :: MPB X0 :: XH X0.V J)) [(0, pV L.p), (1, .pointer (some ⟨X0.tkb, X0.th * 14, none⟩))] rfl rfl ?_
   by_cases hkc : k < X0.cn
   ·
    refine ev_open cb fun cl hcl hcp => ?_
    have hget : ∀ j, j < 15 → ∃ v, cl[k * 15 + j]? = some v ∧ CP T J (k * 15 + j) v := fun j hj => by
     have hlt : k * 15 + j < cl.length := by rw [hcl]; omega
     exact ⟨cl[k * 15 + j], List.getElem?_eq_getElem hlt, hcp _ _ (List.getElem?_eq_getElem hlt)⟩
    obtain ⟨v3, hv3, hp3⟩ := hget 3 omT
    obtain ⟨z3, rfl⟩ := hp3.int omT
    obtain ⟨v12, hv12, hp12⟩ := hget 12 omT
    obtain ⟨s12, rfl, hq12, hn12⟩ := hp12.sl omT
    obtain ⟨v13, hv13, hp13⟩ := hget 13 omT
    obtain ⟨s13, rfl, hq13, hn13⟩ := hp13.sl omT
    obtain ⟨v14, hv14, hp14⟩ := hget 14 omT
    obtain ⟨s14, rfl, hq14, hn14⟩ := hp14.sl omT
    have hback : ∀ J', JLe J J' → (Blk.cs 204 cl []).like (.obj (anyO 204 (ck * 15) (CP T J'))) := fun J' hJ => like_cso_any hcl (fun k' v hk' hv => (hcp k' v (by simpa only [Blk.cell, look, nth] using hv)).mono hJ)
    refine gg 12 ?_
    refine dlt1 (h := ?_) (hc := by dsimp only [comS]; omega)
    refine gg 5 ?_
    refine dqz (zz (T := T) (tl := X0.tl) (i := X0.th) (j := 1) rfl omT omT htv rfl) (gg 8 ?_)
    refine dqz (zy rfl rfl rfl (by dsimp only [comS]; omega) rfl) ?_
    refine dfa ?_
    refine dfa ?_
    refine dqz (q_ldcs (i := k * 15 + 3) rfl omT hv3) (dqz (kw rfl rfl rfl) (gg 3 ?_))
    refine kg rfl (fun hc => ?_) (fun hc => ?_)
    ·
     refine gg 13 ?_
     refine dqz (zy rfl rfl rfl (by dsimp only [comS]; omega) rfl) ?_
     refine gg 3 ?_
     have ha0 : JSl J sh := hjh.1
     have hb0 : JSl J s12 := hq12
     refine zL (σ := Sl × JL) (fun _ => [(0, pV L.p), (1, .pointer (some ⟨X0.tkb, X0.th * 14, none⟩)), (4, .pointer (some ⟨cb, 0 + k * 15, none⟩))]) (fun x => RH L T (zc { X0 with C := some (cb, ck), head := x.1, line := sl, foot := sf, comh := k, J := x.2 }) ((cb, .cs 204 cl []) :: TKB T X0 :: SKB X0 :: MPB X0 :: XH X0.V x.2)) (fun x => JLe J x.2 ∧ JSl x.2 x.1 ∧ x.1.n ≤ (k + 1) * (T.length + 1)) ?_ ?_
     ·
      refine zd (kq (E' := [(0, pV L.p), (1, .pointer (some ⟨X0.tkb, X0.th * 14, none⟩)), (4, .pointer (some ⟨cb, 0 + k * 15, none⟩))]) suT (Wk.refl _) (gg 4 ?_))
      refine sqz (q_ldcs (i := k * 15 + 12) rfl omT hv12) (slg ?_)
      refine sqz (kw rfl rfl rfl) (ze ?_)
      refine zf ?_
      refine kg rfl (fun hc => ?_) (fun hc => ?_)
      ·
       refine gg 6 ?_
       refine sqz (zz (T := T) (tl := X0.tl) (i := X0.th) (j := 0) rfl omT omT htv rfl) (gg 6 ?_)
       refine zL (σ := Sl × JL) (fun _ => [(0, pV L.p), (1, .pointer (some ⟨X0.tkb, X0.th * 14, none⟩)), (4, .pointer (some ⟨cb, 0 + k * 15, none⟩))]) (fun x => RH L T (zc { X0 with C := some (cb, ck), head := x.1, line := sl, foot := sf, comh := k, J := x.2 }) ((cb, .cs 204 cl []) :: TKB T X0 :: SKB X0 :: MPB X0 :: XH X0.V x.2)) (fun x => JLe J x.2 ∧ JSl x.2 x.1 ∧ x.1.n ≤ k * (T.length + 1) + 1) ?_ ?_
       ·
        refine gg 7 ?_
        refine sqz (kw rfl rfl rfl) (ze ?_)
        refine zf ?_
        refine kg rfl (fun hc => ?_) (fun hc => ?_)
        ·
         refine gg 6 ?_
         refine kV (l := [_]) (zs := [.int .u8 0]) [0] rfl rfl rfl rfl kR rfl rfl ?_
         intro nb0
         refine s_append_jb (s1 := sh) (X := [10]) rfl rfl rfl rfl rfl ha0 rfl (by decide) (zN (by decide) (by decide) fun j u hj => by simpa [Blk.cell, look, nth] using hj) omT ?_
         intro J0b s0b hj0b hs0b hn0b
         refine gg 4 ?_
         exact zg (s0b, J0b) ⟨hj0b, hs0b, omT⟩ suT (Wk.toT (XH X0.V J0b) [L.p, L.bb, L.rb, L.ib, 0, cb, X0.tkb, X0.skb, X0.mpb] (by exact ⟨rfl, .inr (Blk.like_rec kR), rfl, .inl rfl, rfl, .inl rfl, rfl, .inl rfl, rfl, .inl rfl, rfl, .inl rfl, rfl, .inl rfl, rfl, .inl rfl, rfl, .inl rfl, rfl⟩))
        ·
         refine kQ ?_
         exact zg (sh, J) ⟨JLe.refl _, ha0, omT⟩ suT (Wk.toT (XH X0.V J) [L.p, L.bb, L.rb, L.ib, 0, cb, X0.tkb, X0.skb, X0.mpb] (by exact ⟨rfl, .inr (Blk.like_rec kR), rfl, .inl rfl, rfl, .inl rfl, rfl, .inl rfl, rfl, .inl rfl, rfl, .inl rfl, rfl, .inl rfl, rfl, .inl rfl, rfl, .inl rfl, rfl⟩))
       ·
        rintro ⟨s0a, J0a⟩ ⟨hj0a, hs0a, hn0a⟩
        dsimp only at hj0a hs0a hn0a
        refine zt (RH L T (zc { X0 with C := some (cb, ck), head := s0a, line := sl, foot := sf, comh := k, J := J0a }) ((cb, .cs 204 cl []) :: TKB T X0 :: SKB X0 :: MPB X0 :: XH X0.V J0a)) [(0, pV L.p), (1, .pointer (some ⟨X0.tkb, X0.th * 14, none⟩)), (4, .pointer (some ⟨cb, 0 + k * 15, none⟩))] rfl rfl ?_
        refine ke (fun i => i == 9 || i == 12) (fun i => i == 12) ([]) zF ?_
        refine mqh 0 rfl kR rfl rfl (fun _ => zj rfl) ?_
        refine mq 1 rfl kR rfl rfl (zj rfl) ?_
        refine mq 2 rfl kR rfl rfl (zJ rfl) ?_
        refine mq 3 rfl kR rfl rfl (zM rfl) ?_
        refine mq 4 rfl kR rfl rfl (zp rfl rfl rfl rfl) ?_
        refine mq 5 rfl kR rfl rfl (zj rfl) ?_
        refine mq 6 rfl kR rfl rfl (zJ rfl) ?_
        refine mq 7 rfl kR rfl rfl (zM rfl) ?_
        refine mq 8 rfl kR rfl rfl (q_ldcs (i := k * 15 + 12) rfl omT hv12) ?_
        refine mql 9 rfl kR (fun hcl => ?_)
        refine s_append_jj (s1 := s0a) (s2 := s12) rfl rfl rfl rfl rfl hs0a (hb0.mono hj0a) omT ?_
        intro J0c s0c hj0c hs0c hn0c
        refine mqn 9 hcl (mq 10 rfl kR rfl rfl (zJ rfl) ?_)
        refine mq 11 rfl kR rfl rfl (zM rfl) ?_
        refine mql 12 rfl kR (fun hcl => ?_)
        refine st1 rfl rfl ?_
        refine zO 12 rfl kR ?_
        exact zg (s0c, J0c) ⟨hj0a.trans hj0c, hs0c, omT⟩ suT (Wk.toT (XH X0.V J0c) [L.p, L.bb, L.rb, L.ib, 0, cb, X0.tkb, X0.skb, X0.mpb] (by exact ⟨rfl, .inr (Blk.like_rec kR), rfl, .inl rfl, rfl, .inl rfl, rfl, .inl rfl, rfl, .inl rfl, rfl, .inl rfl, rfl, .inl rfl, rfl, .inl rfl, rfl, .inl rfl, rfl⟩))
      ·
       refine kQ ?_
       exact zg (sh, J) ⟨JLe.refl _, ha0, omT⟩ suT (Wk.toT (XH X0.V J) [L.p, L.bb, L.rb, L.ib, 0, cb, X0.tkb, X0.skb, X0.mpb] (by exact ⟨rfl, .inr (Blk.like_rec kR), rfl, .inl rfl, rfl, .inl rfl, rfl, .inl rfl, rfl, .inl rfl, rfl, .inl rfl, rfl, .inl rfl, rfl, .inl rfl, rfl, .inl rfl, rfl⟩))
     ·
      rintro ⟨sh1, J1⟩ ⟨hj1, hh1, hh2⟩
      dsimp only at hj1 hh1 hh2
      refine zt (RH L T (zc { X0 with C := some (cb, ck), head := sh1, line := sl, foot := sf, comh := k, J := J1 }) ((cb, .cs 204 cl []) :: TKB T X0 :: SKB X0 :: MPB X0 :: XH X0.V J1)) [(0, pV L.p), (1, .pointer (some ⟨X0.tkb, X0.th * 14, none⟩)), (4, .pointer (some ⟨cb, 0 + k * 15, none⟩))] rfl rfl ?_
      have ha1 : JSl J1 sf := hjf.1.mono hj1
      have hb1 : JSl J1 s14 := hq14.mono hj1
      refine zL (σ := Sl × JL) (fun _ => [(0, pV L.p), (1, .pointer (some ⟨X0.tkb, X0.th * 14, none⟩)), (4, .pointer (some ⟨cb, 0 + k * 15, none⟩))]) (fun x => RH L T (zc { X0 with C := some (cb, ck), head := sh1, line := sl, foot := x.1, comh := k, J := x.2 }) ((cb, .cs 204 cl []) :: TKB T X0 :: SKB X0 :: MPB X0 :: XH X0.V x.2)) (fun x => JLe J1 x.2 ∧ JSl x.2 x.1 ∧ x.1.n ≤ (k + 1) * (T.length + 1)) ?_ ?_
      ·
       refine gg 5 ?_
       refine sqz (q_ldcs (i := k * 15 + 14) rfl omT hv14) (slg ?_)
       refine sqz (kw rfl rfl rfl) (ze ?_)
       refine zf ?_
       refine kg rfl (fun hc => ?_) (fun hc => ?_)
       ·
        refine zL (σ := Sl × JL) (fun _ => [(0, pV L.p), (1, .pointer (some ⟨X0.tkb, X0.th * 14, none⟩)), (4, .pointer (some ⟨cb, 0 + k * 15, none⟩))]) (fun x => RH L T (zc { X0 with C := some (cb, ck), head := sh1, line := sl, foot := x.1, comh := k, J := x.2 }) ((cb, .cs 204 cl []) :: TKB T X0 :: SKB X0 :: MPB X0 :: XH X0.V x.2)) (fun x => JLe J1 x.2 ∧ JSl x.2 x.1 ∧ x.1.n ≤ k * (T.length + 1) + 1) ?_ ?_
        ·
         refine gg 7 ?_
         refine sqz (kw rfl rfl rfl) (ze ?_)
         refine zf ?_
         refine kg rfl (fun hc => ?_) (fun hc => ?_)
         ·
          refine gg 6 ?_
          refine kV (l := [_]) (zs := [.int .u8 0]) [0] rfl rfl rfl rfl kR rfl rfl ?_
          intro nb1
          refine s_append_jb (s1 := sf) (X := [10]) rfl rfl rfl rfl rfl ha1 rfl (by decide) (zN (by decide) (by decide) fun j u hj => by simpa [Blk.cell, look, nth] using hj) omT ?_
          intro J1b s1b hj1b hs1b hn1b
          refine gg 4 ?_
          exact zg (s1b, J1b) ⟨hj1b, hs1b, omT⟩ suT (Wk.toT (XH X0.V J1b) [L.p, L.bb, L.rb, L.ib, 0, cb, X0.tkb, X0.skb, X0.mpb] (by exact ⟨rfl, .inr (Blk.like_rec kR), rfl, .inl rfl, rfl, .inl rfl, rfl, .inl rfl, rfl, .inl rfl, rfl, .inl rfl, rfl, .inl rfl, rfl, .inl rfl, rfl, .inl rfl, rfl⟩))
         ·
          refine kQ ?_
          exact zg (sf, J1) ⟨JLe.refl _, ha1, omT⟩ suT (Wk.toT (XH X0.V J1) [L.p, L.bb, L.rb, L.ib, 0, cb, X0.tkb, X0.skb, X0.mpb] (by exact ⟨rfl, .inr (Blk.like_rec kR), rfl, .inl rfl, rfl, .inl rfl, rfl, .inl rfl, rfl, .inl rfl, rfl, .inl rfl, rfl, .inl rfl, rfl, .inl rfl, rfl, .inl rfl, rfl⟩))
        ·
         rintro ⟨s1a, J1a⟩ ⟨hj1a, hs1a, hn1a⟩
         dsimp only at hj1a hs1a hn1a
         refine zt (RH L T (zc { X0 with C := some (cb, ck), head := sh1, line := sl, foot := s1a, comh := k, J := J1a }) ((cb, .cs 204 cl []) :: TKB T X0 :: SKB X0 :: MPB X0 :: XH X0.V J1a)) [(0, pV L.p), (1, .pointer (some ⟨X0.tkb, X0.th * 14, none⟩)), (4, .pointer (some ⟨cb, 0 + k * 15, none⟩))] rfl rfl ?_
         refine ke (fun i => i == 9 || i == 12) (fun i => i == 12) ([]) zF ?_
         refine mqh 0 rfl kR rfl rfl (fun _ => zj rfl) ?_
         refine mq 1 rfl kR rfl rfl (zj rfl) ?_
         refine mq 2 rfl kR rfl rfl (zJ rfl) ?_
         refine mq 3 rfl kR rfl rfl (zM rfl) ?_
         refine mq 4 rfl kR rfl rfl (zp rfl rfl rfl rfl) ?_
         refine mq 5 rfl kR rfl rfl (zj rfl) ?_
         refine mq 6 rfl kR rfl rfl (zJ rfl) ?_
         refine mq 7 rfl kR rfl rfl (zM rfl) ?_
         refine mq 8 rfl kR rfl rfl (q_ldcs (i := k * 15 + 14) rfl omT hv14) ?_
         refine mql 9 rfl kR (fun hcl => ?_)
         refine s_append_jj (s1 := s1a) (s2 := s14) rfl rfl rfl rfl rfl hs1a (hb1.mono hj1a) omT ?_
         intro J1c s1c hj1c hs1c hn1c
         refine mqn 9 hcl (mq 10 rfl kR rfl rfl (zJ rfl) ?_)
         refine mq 11 rfl kR rfl rfl (zM rfl) ?_
         refine mql 12 rfl kR (fun hcl => ?_)
         refine st1 rfl rfl ?_
         refine zO 12 rfl kR ?_
         exact zg (s1c, J1c) ⟨hj1a.trans hj1c, hs1c, omT⟩ suT (Wk.toT (XH X0.V J1c) [L.p, L.bb, L.rb, L.ib, 0, cb, X0.tkb, X0.skb, X0.mpb] (by exact ⟨rfl, .inr (Blk.like_rec kR), rfl, .inl rfl, rfl, .inl rfl, rfl, .inl rfl, rfl, .inl rfl, rfl, .inl rfl, rfl, .inl rfl, rfl, .inl rfl, rfl, .inl rfl, rfl⟩))
       ·
        refine kQ ?_
        exact zg (sf, J1) ⟨JLe.refl _, ha1, omT⟩ suT (Wk.toT (XH X0.V J1) [L.p, L.bb, L.rb, L.ib, 0, cb, X0.tkb, X0.skb, X0.mpb] (by exact ⟨rfl, .inr (Blk.like_rec kR), rfl, .inl rfl, rfl, .inl rfl, rfl, .inl rfl, rfl, .inl rfl, rfl, .inl rfl, rfl, .inl rfl, rfl, .inl rfl, rfl, .inl rfl, rfl⟩))
      ·
       rintro ⟨sf2, J2⟩ ⟨hj2, hf1, hf2⟩
       dsimp only at hj2 hf1 hf2
       refine zt (RH L T (zc { X0 with C := some (cb, ck), head := sh1, line := sl, foot := sf2, comh := k, J := J2 }) ((cb, .cs 204 cl []) :: TKB T X0 :: SKB X0 :: MPB X0 :: XH X0.V J2)) [(0, pV L.p), (1, .pointer (some ⟨X0.tkb, X0.th * 14, none⟩)), (4, .pointer (some ⟨cb, 0 + k * 15, none⟩))] rfl rfl ?_
       have ha2 : JSl J2 sl := hjl.1.mono (hj1.trans hj2)
       have hb2 : JSl J2 s13 := hq13.mono (hj1.trans hj2)
       refine zL (σ := Sl × JL) (fun _ => [(0, pV L.p), (1, .pointer (some ⟨X0.tkb, X0.th * 14, none⟩)), (4, .pointer (some ⟨cb, 0 + k * 15, none⟩))]) (fun x => RH L T (zc { X0 with C := some (cb, ck), head := sh1, line := x.1, foot := sf2, comh := k, J := x.2 }) ((cb, .cs 204 cl []) :: TKB T X0 :: SKB X0 :: MPB X0 :: XH X0.V x.2)) (fun x => JLe J2 x.2 ∧ JSl x.2 x.1 ∧ x.1.n ≤ (k + 1) * (T.length + 1)) ?_ ?_
       ·
        refine gg 5 ?_
        refine sqz (q_ldcs (i := k * 15 + 13) rfl omT hv13) (slg ?_)
        refine sqz (kw rfl rfl rfl) (ze ?_)
        refine zf ?_
        refine kg rfl (fun hc => ?_) (fun hc => ?_)
        ·
         refine zL (σ := Sl × JL) (fun _ => [(0, pV L.p), (1, .pointer (some ⟨X0.tkb, X0.th * 14, none⟩)), (4, .pointer (some ⟨cb, 0 + k * 15, none⟩))]) (fun x => RH L T (zc { X0 with C := some (cb, ck), head := sh1, line := x.1, foot := sf2, comh := k, J := x.2 }) ((cb, .cs 204 cl []) :: TKB T X0 :: SKB X0 :: MPB X0 :: XH X0.V x.2)) (fun x => JLe J2 x.2 ∧ JSl x.2 x.1 ∧ x.1.n ≤ k * (T.length + 1) + 1) ?_ ?_
         ·
          refine gg 7 ?_
          refine sqz (kw rfl rfl rfl) (ze ?_)
          refine zf ?_
          refine kg rfl (fun hc => ?_) (fun hc => ?_)
          ·
           refine gg 6 ?_
           refine kV (l := [_]) (zs := [.int .u8 0]) [0] rfl rfl rfl rfl kR rfl rfl ?_
           intro nb2
           refine s_append_jb (s1 := sl) (X := [10]) rfl rfl rfl rfl rfl ha2 rfl (by decide) (zN (by decide) (by decide) fun j u hj => by simpa [Blk.cell, look, nth] using hj) omT ?_
           intro J2b s2b hj2b hs2b hn2b
           refine gg 4 ?_
           exact zg (s2b, J2b) ⟨hj2b, hs2b, omT⟩ suT (Wk.toT (XH X0.V J2b) [L.p, L.bb, L.rb, L.ib, 0, cb, X0.tkb, X0.skb, X0.mpb] (by exact ⟨rfl, .inr (Blk.like_rec kR), rfl, .inl rfl, rfl, .inl rfl, rfl, .inl rfl, rfl, .inl rfl, rfl, .inl rfl, rfl, .inl rfl, rfl, .inl rfl, rfl, .inl rfl, rfl⟩))
          ·
           refine kQ ?_
           exact zg (sl, J2) ⟨JLe.refl _, ha2, omT⟩ suT (Wk.toT (XH X0.V J2) [L.p, L.bb, L.rb, L.ib, 0, cb, X0.tkb, X0.skb, X0.mpb] (by exact ⟨rfl, .inr (Blk.like_rec kR), rfl, .inl rfl, rfl, .inl rfl, rfl, .inl rfl, rfl, .inl rfl, rfl, .inl rfl, rfl, .inl rfl, rfl, .inl rfl, rfl, .inl rfl, rfl⟩))
         ·
          rintro ⟨s2a, J2a⟩ ⟨hj2a, hs2a, hn2a⟩
          dsimp only at hj2a hs2a hn2a
          refine zt (RH L T (zc { X0 with C := some (cb, ck), head := sh1, line := s2a, foot := sf2, comh := k, J := J2a }) ((cb, .cs 204 cl []) :: TKB T X0 :: SKB X0 :: MPB X0 :: XH X0.V J2a)) [(0, pV L.p), (1, .pointer (some ⟨X0.tkb, X0.th * 14, none⟩)), (4, .pointer (some ⟨cb, 0 + k * 15, none⟩))] rfl rfl ?_
          refine ke (fun i => i == 9 || i == 12) (fun i => i == 12) ([]) zF ?_
          refine mqh 0 rfl kR rfl rfl (fun _ => zj rfl) ?_
          refine mq 1 rfl kR rfl rfl (zj rfl) ?_
          refine mq 2 rfl kR rfl rfl (zJ rfl) ?_
          refine mq 3 rfl kR rfl rfl (zM rfl) ?_
          refine mq 4 rfl kR rfl rfl (zp rfl rfl rfl rfl) ?_
          refine mq 5 rfl kR rfl rfl (zj rfl) ?_
          refine mq 6 rfl kR rfl rfl (zJ rfl) ?_
          refine mq 7 rfl kR rfl rfl (zM rfl) ?_
          refine mq 8 rfl kR rfl rfl (q_ldcs (i := k * 15 + 13) rfl omT hv13) ?_
          refine mql 9 rfl kR (fun hcl => ?_)
          refine s_append_jj (s1 := s2a) (s2 := s13) rfl rfl rfl rfl rfl hs2a (hb2.mono hj2a) omT ?_
          intro J2c s2c hj2c hs2c hn2c
          refine mqn 9 hcl (mq 10 rfl kR rfl rfl (zJ rfl) ?_)
          refine mq 11 rfl kR rfl rfl (zM rfl) ?_
          refine mql 12 rfl kR (fun hcl => ?_)
          refine st1 rfl rfl ?_
          refine zO 12 rfl kR ?_
          exact zg (s2c, J2c) ⟨hj2a.trans hj2c, hs2c, omT⟩ suT (Wk.toT (XH X0.V J2c) [L.p, L.bb, L.rb, L.ib, 0, cb, X0.tkb, X0.skb, X0.mpb] (by exact ⟨rfl, .inr (Blk.like_rec kR), rfl, .inl rfl, rfl, .inl rfl, rfl, .inl rfl, rfl, .inl rfl, rfl, .inl rfl, rfl, .inl rfl, rfl, .inl rfl, rfl, .inl rfl, rfl⟩))
        ·
         refine kQ ?_
         exact zg (sl, J2) ⟨JLe.refl _, ha2, omT⟩ suT (Wk.toT (XH X0.V J2) [L.p, L.bb, L.rb, L.ib, 0, cb, X0.tkb, X0.skb, X0.mpb] (by exact ⟨rfl, .inr (Blk.like_rec kR), rfl, .inl rfl, rfl, .inl rfl, rfl, .inl rfl, rfl, .inl rfl, rfl, .inl rfl, rfl, .inl rfl, rfl, .inl rfl, rfl, .inl rfl, rfl⟩))
       ·
        rintro ⟨sl3, J3⟩ ⟨hj3, hl1, hl2⟩
        dsimp only at hj3 hl1 hl2
        refine zt (RH L T (zc { X0 with C := some (cb, ck), head := sh1, line := sl3, foot := sf2, comh := k, J := J3 }) ((cb, .cs 204 cl []) :: TKB T X0 :: SKB X0 :: MPB X0 :: XH X0.V J3)) [(0, pV L.p), (1, .pointer (some ⟨X0.tkb, X0.th * 14, none⟩)), (4, .pointer (some ⟨cb, 0 + k * 15, none⟩))] rfl rfl ?_
        refine zd (zA cb (.obj (anyO 204 (ck * 15) (CP T J3))) (hback J3 ((hj1.trans hj2).trans hj3)) (zi (smv ?_)))
        refine sqz (zu (l := [_, _, _, _, _, _, _, _, _, _, _, _, _, _, _]) (zs := [zI, zI, zI, zI, zI, zI, zI, zI, zI, zI, zI, zI, zS, zS, zS]) [0, 3, 6, 9, 12, 13, 14] rfl rfl kR) ?_
        refine snc ?_
        refine sln rfl (l_stsany (p := CP T J3) (i := 0 + k * 15) (k := 15) rfl rfl rfl rfl omT (fun j u hj => by have := CP_all (T := T) (J := J3) (n := k) qE qE qE j u hj; simpa using this)) ?_
        refine gg 13 ?_
        exact zh (sh1, sl3, sf2, k + 1, J3) ⟨hs.unf omT ⟨hh1.mono (hj2.trans hj3), hh2⟩ ⟨hl1, hl2⟩ ⟨hf1.mono hj3, hf2⟩, hj.trans ((hj1.trans hj2).trans hj3)⟩ omT suT (Wk.toT (XH X0.V J3) [L.p, L.bb, L.rb, L.ib, 0, cb, X0.tkb, X0.skb, X0.mpb] wlT)
    ·
     refine zA cb (.obj (anyO 204 (ck * 15) (CP T J))) (hback J (JLe.refl _)) (gg 4 ?_)
     exact end0nw (H' := RH L T (zc { X0 with C := some (cb, ck), head := sh, line := sl, foot := sf, comh := k, J := J }) (TKB T X0 :: SKB X0 :: MPB X0 :: (cb, .obj (anyO 204 (ck * 15) (CP T J))) :: XH X0.V J)) rfl (Wk.toT (XH X0.V J) [L.p, L.bb, L.rb, L.ib, 0, X0.tkb, X0.skb, X0.mpb, cb] wlT) ⟨rfl, sh, sl, sf, k, J, rfl, hs, hj⟩
   ·
    refine gg 12 ?_
    refine dlt0 (h := ?_) (hc := by dsimp only [comS]; omega)
    refine gg 27 ?_
    exact end0nw (H' := RH L T (zc { X0 with C := some (cb, ck), head := sh, line := sl, foot := sf, comh := k, J := J }) (TKB T X0 :: SKB X0 :: MPB X0 :: (cb, .obj (anyO 204 (ck * 15) (CP T J))) :: XH X0.V J)) rfl (Wk.toT (XH X0.V J) [L.p, L.bb, L.rb, L.ib, 0, X0.tkb, X0.skb, X0.mpb, cb] wlT) ⟨rfl, sh, sl, sf, k, J, rfl, hs, hj⟩
end Go.Proofs.YtnfbcfflkphbiaaGreatDoor
