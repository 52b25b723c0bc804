/-
  Texts of the proof, joined: E12. No Go text.
-/
import Derived.Test.YtnfbcfflkphbiaaGreatDoorA01
import Derived.Test.YtnfbcfflkphbiaaGreatDoorA03
import Derived.MapKept
import Derived.Laws.IdiomStrings
namespace Go.Proofs.YtnfbcfflkphbiaaGreatDoor
open Go Go.Proofs
set_option linter.all false
set_option maxRecDepth 100000
set_option maxHeartbeats 8000000
structure Sl where
 u : Option Addr
 n : Nat
 c : Nat
abbrev Sl.v (s : Sl) : Value := .slice s.u s.n s.c
abbrev Sl.nil : Sl := ⟨none, 0, 0⟩
abbrev JL := List (Nat × Nat × Nat)
def JH (e : Nat) (J : JL) : zl := J.map fun x => (x.1, .obj (jkO e x.2.1 x.2.2))
def JLe (J J' : JL) : Prop := ∀ b N M, (b, N, M) ∈ J → ∃ M', (b, N, M') ∈ J' ∧ M ≤ M'
theorem JLe.refl (J : JL) : JLe J J := fun _ _ M h => ⟨M, h, Nat.le_refl _⟩
theorem JLe.trans {J1 J2 J3 : JL} (h : JLe J1 J2) (k : JLe J2 J3) : JLe J1 J3 := fun b N M hm => by
 obtain ⟨M', h1, h2⟩ := h b N M hm
 obtain ⟨M2, h3, h4⟩ := k b N M' h1
 exact ⟨M2, h3, Nat.le_trans h2 h4⟩
theorem JLe.cons (x : Nat × Nat × Nat) (J : JL) : JLe J (x :: J) := fun _ _ M h => ⟨M, List.mem_cons_of_mem _ h, Nat.le_refl _⟩
def JSl (J : JL) (s : Sl) : Prop := (s = Sl.nil) ∨ ∃ b N M o, (b, N, M) ∈ J ∧ s.u = some ⟨b, o, none⟩ ∧ s.n ≤ s.c ∧ o + s.c ≤ N ∧ o + s.n ≤ M
theorem JSl.mono {J J' : JL} {s : Sl} (h : JSl J s) (k : JLe J J') : JSl J' s := by
 rcases h with h | ⟨b, N, M, o, h1, h2, h3, h4, h5⟩
 · exact .inl h
 · obtain ⟨M', h6, h7⟩ := k b N M h1
   exact .inr ⟨b, N, M', o, h6, h2, h3, h4, by omega⟩
theorem JSl.nil (J : JL) : JSl J Sl.nil := .inl rfl
theorem JSl.le {J : JL} {s : Sl} (h : JSl J s) : s.n ≤ s.c := by
 rcases h with rfl | ⟨b, N, M, o, h1, h2, h3, h4, h5⟩
 · exact Nat.le_refl _
 · exact h3
theorem JSl.new (b N M n : Nat) (J : JL) (h : n ≤ M) (hM : M ≤ N) : JSl ((b, N, M) :: J) ⟨some ⟨b, 0, none⟩, n, N⟩ := .inr ⟨b, N, M, 0, by simp, rfl, by dsimp only; omega, by simp, by simpa using h⟩
class JT (H : zl) (e : outParam Nat) (J : outParam JL) (F : outParam (JL → zl)) : Prop where
 is : ∃ l r, H = l ++ (JH e J ++ r) ∧ ∀ J', F J' = l ++ (JH e J' ++ r)
instance {x : Nat × Blk} {r : zl} {e : Nat} {J : JL} {F : JL → zl} [h : JT r e J F] : JT (x :: r) e J (fun J' => x :: F J') := ⟨by
 obtain ⟨l, s, h1, h2⟩ := h.is
 exact ⟨x :: l, s, by simp [h1], fun X => by simp [h2]⟩⟩
instance {A r : zl} {b : Nat} {k : Blk} [h : Has r b k] : Has (A ++ r) b k := ⟨List.mem_append_right _ h.mem⟩
instance {A r r' : zl} {b : Nat} {k : Blk} [h : Upd r b k r'] : Upd (A ++ r) b k (A ++ r') := ⟨by
 obtain ⟨l, k0, s, h1, h2⟩ := h.is
 exact ⟨A ++ l, k0, s, by simp [h1], by simp [h2]⟩⟩
instance {A r r' : zl} {b : Nat} {k : Blk} [h : Rem r b k r'] : Rem (A ++ r) b k (A ++ r') := ⟨by
 obtain ⟨l, s, h1, h2⟩ := h.is
 exact ⟨A ++ l, s, by simp [h1], by simp [h2]⟩⟩
class SelBR (H : zl) (bs : List Nat) (Hc Hf : outParam zl) : Prop where
 is : H.Perm (Hc ++ Hf)
instance {H : zl} : SelBR H [] [] H := ⟨List.Perm.refl _⟩
instance {H H1 r Hf : zl} {b : Nat} {bs : List Nat} {k : Blk} [h : Rem H b k H1] [h2 : SelBR H1 bs r Hf] : SelBR H (b :: bs) ((b, k) :: r) Hf := ⟨by
 obtain ⟨l, s, rfl, rfl⟩ := h.is
 exact List.perm_middle.trans (h2.is.cons _)⟩
def WlT (tl : zl) : zl → zl → Prop
 | [], H' => H' = tl
 | (b, k) :: r, (b', k') :: r' => b = b' ∧ (k = k' ∨ k.like k') ∧ WlT tl r r'
 | _ :: _, [] => False
theorem WlT.wok {pu : Bool} {w0 w : World} {D : List Nat} {tl : zl} : ∀ {H H' l : zl}, WlT tl H H' → WOK pu w0 D (l ++ (H ++ tl)) w → WOK pu w0 D (l ++ H') w
 | [], H', l, h, hw => by
  have : H' = tl := h
  subst this
  exact hw
 | (b, k) :: r, (b', k') :: r', l, h, hw => by
  obtain ⟨rfl, hk, hr⟩ := h
  have h1 : WOK pu w0 D (l ++ (b, k') :: (r ++ tl)) w := by
   rcases hk with rfl | hk
   · exact hw
   · exact WOK.like (by simpa using hw) hk
  have h2 : WOK pu w0 D ((l ++ [(b, k')]) ++ (r ++ tl)) w := by simpa using h1
  simpa using WlT.wok hr h2
 | _ :: _, [], _, h, _ => h.elim
theorem Wk.toR {H Hc H1 H' : zl} (bs : List Nat) [h : SelBR H bs Hc H1] (hw : WlT H1 Hc H') : Wk H H' := by
 intro pu w0 D w hk
 have h1 : WOK pu w0 D (Hc ++ H1) w := hk.mono (fun x hx => h.is.mem_iff.2 hx) (hk.hok.perm h.is).nodup
 exact WlT.wok (l := []) hw h1
theorem jh_cons {e : Nat} {x : Nat × Nat × Nat} {J : JL} : JH e (x :: J) = (x.1, .obj (jkO e x.2.1 x.2.2)) :: JH e J := rfl
theorem jh_app {e : Nat} {J J' : JL} : JH e (J ++ J') = JH e J ++ JH e J' := by simp [JH]
theorem jt_has {H : zl} {e : Nat} {J : JL} {F : JL → zl} [h : JT H e J F] {b N M : Nat} (hm : (b, N, M) ∈ J) : Has H b (.obj (jkO e N M)) := ⟨by
 obtain ⟨l, r, rfl, _⟩ := h.is
 refine List.mem_append_right _ (List.mem_append_left _ ?_)
 exact List.mem_map.2 ⟨(b, N, M), hm, rfl⟩⟩
section
variable {pu : Bool} {w0 w : World} {D : List Nat} {H : zl}
theorem jsl_news {e N M b o m : Nat} (h : HOK H w) (hm : (b, Blk.obj (jkO e N M)) ∈ H) (hM : o + m ≤ M) : ∃ X : List Nat, X.length = m ∧ (∀ c ∈ X, c < 256) ∧ ∀ j u, (X.map fun (c : Nat) => Value.int .u8 (c : Int))[j]? = some u → w.cell? ⟨b, o + j, none⟩ = some u := by
 induction m with
 | zero => exact ⟨[], rfl, by simp, by simp⟩
 | succ m ih =>
  obtain ⟨X, h1, h2, h3⟩ := ih omT
  obtain ⟨z, hz, hc⟩ := jk_cell (i := o + m) h hm omT
  refine ⟨X ++ [z], by simp [h1], ?_, ?_⟩
  · intro c hc
    rcases List.mem_append.1 hc with hc | hc
    · exact h2 c hc
    · simp at hc; omega
  · intro j u hj
    rw [List.map_append] at hj
    by_cases hjm : j < m
    · rw [List.getElem?_append_left (by simpa [h1] using hjm)] at hj
      exact h3 j u hj
    · rw [List.getElem?_append_right (by simpa [h1] using hjm)] at hj
      simp only [List.length_map, h1, List.map_cons, List.map_nil] at hj
      have : j - m = 0 := by
       have := (List.getElem?_eq_some_iff.1 hj).1
       simpa using this
      have hjm' : j = m := by omega
      subst hjm'
      simp at hj
      rw [hc, hj]
end
section
variable {P : Program} {n : Nat} {ds : List Deferred} {pu : Bool} {w0 : World} {D : List Nat} {H H' : zl} {E : Env} {ops : Array Oper} {Q : Exit → Act → World → Prop} {Q' K : Act → World → Prop} {rest : List Oper}
variable {ty : TypeId} {ps : String} {af : Array Edge} {g : Option (Nat × Bool)} {x y : Operand}
theorem s_append_j {t dd e m c : Nat} {u2 : Option Addr} {s1 : Sl} {z : Value} {J : JL} {F : JL → zl} [hs : Slc P t e 1 1] [hz : kI P e z] (hzs : z.cells.size = 1) (hg : gd ops E g = some true) (hd : Nat.blt dd n = true)
   (hx : opv E x = some s1.v) [hj : JT H e J F] (h1 : JSl J s1)
   (hy : opv E y = some (.slice u2 m c)) (hsrc : (u2 = none ∧ m = 0) ∨ ∃ b2 o2, u2 = some ⟨b2, o2, none⟩ ∧ ∀ w, HOK H w → ∃ X : List Nat, X.length = m ∧ (∀ c ∈ X, c < 256) ∧ ∀ j u, (X.map fun (c : Nat) => Value.int .u8 (c : Int))[j]? = some u → w.cell? ⟨b2, o2 + j, none⟩ = some u)
   (hb : s1.n + m ≤ 140737488355328)
   (h : ∀ J' s', JLe J J' → JSl J' s' → s'.n = s1.n + m → SQ P n ds false w0 D ops Q K (F J') ((dd, s'.v) :: E) rest) :
   SQ P n ds false w0 D ops Q K H E (⟨some dd, .call ⟨.builtin .append, #[x, y], #[t, t]⟩, ty, ps, af, g⟩ :: rest) := by
 obtain ⟨l, r, rfl, hF⟩ := hj.is
 obtain ⟨hu, i, hi, hsz, hbs⟩ := hs.is
 obtain ⟨i', hi', hz0⟩ := hz.is
 have e1 : i' = i := Option.some.inj (hi'.symm.trans hi)
 subst e1
 refine s_gen hg hd fun a w he hw => ?_
 rcases hsrc with ⟨rfl, rfl⟩ | ⟨b2, o2, rfl, hsrc⟩
 · refine ⟨s1.v, w, F J, ?_, by rw [hF]; exact hw, h J s1 (JLe.refl _) h1 (by simp)⟩
   have hle := h1.le
   obtain ⟨u, n0, cap⟩ := s1
   dsimp only at hle
   cases u <;> simp [execOp, resolve, invoke, builtin, he.eval hx, he.eval hy, Builtin.append_, zv hu, zX hi, Builtin.lenOf, Builtin.firstCells, hle, storeCells]
 obtain ⟨X, hX1, hX2, hX3⟩ := hsrc w hw.hok
 have hne : ∀ j u, (X.map fun (c : Nat) => Value.int .u8 (c : Int))[j]? = some u → w.cell? ((⟨b2, o2, none⟩ : Addr).add j) = some u := fun j u hj => by rw [kN]; exact hX3 j u hj
 have hl : (X.map fun (c : Nat) => Value.int .u8 (c : Int)).length = m * i'.size := by simp [hX1, hsz]
 have hbyte : ∀ u ∈ (X.map fun (c : Nat) => Value.int .u8 (c : Int)), ∃ z : Nat, z < 256 ∧ u = .int .u8 (z : Int) := fun u hu => by
   obtain ⟨z, hz, rfl⟩ := List.mem_map.1 hu
   exact ⟨z, hX2 z hz, rfl⟩
 have hone : ∀ u ∈ (X.map fun (c : Nat) => Value.int .u8 (c : Int)), u.oneCell' = true := fun u hu => by
   obtain ⟨z, hz, rfl⟩ := hbyte u hu; rfl
 generalize hNE : (X.map fun (c : Nat) => Value.int .u8 (c : Int)) = news at *
 have hnl : news.length = m := by rw [hl, hsz, Nat.mul_one]
 have fresh : ∀ (b' cap' M' : Nat) (w' : World), WOK false w0 D ((b', .obj (jkO e cap' M')) :: (l ++ (JH e J ++ r))) w' → WOK false w0 D (F (((b', cap', M') :: J))) w' := by
   intro b' cap' M' w' hk
   rw [hF, jh_cons]
   have hp : ((b', Blk.obj (jkO e cap' M')) :: (l ++ (JH e J ++ r))).Perm (l ++ ((b', .obj (jkO e cap' M')) :: JH e J ++ r)) := by
     rw [List.cons_append]
     exact List.perm_middle.symm
   exact hk.mono (fun x hx => hp.mem_iff.2 hx) (hk.hok.perm hp).nodup
 rcases h1 with rfl | ⟨b, N, M, o, hm, hu1, hnc, hoc, hon⟩
 · by_cases hm0 : m = 0
   · subst hm0
     refine ⟨Sl.nil.v, w, F J, ?_, by rw [hF]; exact hw, h J Sl.nil (JLe.refl _) (JSl.nil _) rfl⟩
     have hfc := run_firstCells_some (P := P) w i'.size 0 ⟨b2, o2, none⟩ 0 c news hl hne
     simp [execOp, resolve, invoke, builtin, he.eval hx, he.eval hy, Builtin.append_, zv hu, zX hi, Builtin.lenOf, hfc, storeCells]
   · have hrun := run_append_nil (P := P) w t ty e i' z hu hi hz0 ⟨b2, o2, none⟩ m c news hl hne omT (by simp only [Sl.nil] at hb; omega) (by rw [hbs]; simp only [Sl.nil] at hb; omega)
     have hge := grownCap_ge w m 0 e
     refine ⟨_, _, _, by simp only [execOp, resolve, invoke, builtin, he.eval hx, he.eval hy, hrun, List.map_toArray, List.map_cons, List.map_nil, Sem.run_bind, Result.andThen_ok, Sem.run_pure]; rfl, fresh w.heap.size (grownCap w m 0 e) m _ (WOK.alloc (w := w.drew) (WOK.drew hw) (k := .obj (jkO e (grownCap w m 0 e) m)) ⟨_, rfl, ?_, hge, ?_⟩), h _ ⟨some ⟨w.heap.size, 0, none⟩, m, _⟩ (JLe.cons _ _) (JSl.new _ _ _ _ _ (Nat.le_refl _) hge) (by simp)⟩
     · simp only [Array.size_append, List.size_toArray, size_zeroCells, hzs, hnl]
       omega
     · intro k hk
       have hk' : k < news.length := by omega
       obtain ⟨z', hz1, hz2⟩ := hbyte news[k] (List.getElem_mem hk')
       refine ⟨z', hz1, ?_⟩
       rw [Array.getElem?_append_left (by simpa using hk')]
       simp [hk', hz2]
 · obtain ⟨u, n0, cap⟩ := s1
   dsimp only at hu1 hnc hoc hon hb
   subst hu1
   have hmem : (b, Blk.obj (jkO e N M)) ∈ l ++ (JH e J ++ r) := List.mem_append_right _ (List.mem_append_left _ (List.mem_map.2 ⟨(b, N, M), hm, rfl⟩))
   by_cases hroom : n0 + m ≤ cap
   · have hrun := run_append_room_cells (P := P) w t ty e i' hu hi b o n0 cap ⟨b2, o2, none⟩ m c news hl hne hone hroom (fun j hj => jk_there hw.hok hmem (by rw [hsz]; omega)) (fun j hj => jk_frozen hw.hok hmem)
     obtain ⟨J1, J2, rfl⟩ := List.append_of_mem hm
     have hH : l ++ (JH e (J1 ++ (b, N, M) :: J2) ++ r) = (l ++ JH e J1) ++ (b, .obj (jkO e N M)) :: (JH e J2 ++ r) := by rw [jh_app, jh_cons]; simp
     have hset := WOK.setjk (e := e) (N := N) (b := b) (l := l ++ JH e J1) (r := JH e J2 ++ r) news M (by rw [← hH]; exact hw) (o + n0 * i'.size) (by rw [hsz]; omega) (by rw [hsz]; omega) hbyte
     refine ⟨_, _, F (J1 ++ (b, N, max M (o + n0 * i'.size + news.length)) :: J2), by simp only [execOp, resolve, invoke, builtin, he.eval hx, he.eval hy, hrun, List.map_toArray, List.map_cons, List.map_nil, Sem.run_bind, Result.andThen_ok, Sem.run_pure]; rfl, ?_, h _ ⟨some ⟨b, o, none⟩, n0 + m, cap⟩ ?_ ?_ rfl⟩
     · rw [hF, jh_app, jh_cons]
       simpa using hset
     · intro b' N' M' hm'
       rcases List.mem_append.1 hm' with hm' | hm'
       · exact ⟨M', List.mem_append_left _ hm', Nat.le_refl _⟩
       · rcases List.mem_cons.1 hm' with hm' | hm'
         · cases hm'
           exact ⟨_, List.mem_append_right _ (List.mem_cons_self ..), Nat.le_max_left _ _⟩
         · exact ⟨M', List.mem_append_right _ (List.mem_cons_of_mem _ hm'), Nat.le_refl _⟩
     · exact .inr ⟨b, N, _, o, List.mem_append_right _ (List.mem_cons_self ..), rfl, hroom, hoc, by rw [hsz]; dsimp only; omega⟩
   · obtain ⟨Y, hY1, hY2, hY3⟩ := jsl_news (o := o) (m := n0) hw.hok hmem hon
     have hole : (Y.map fun (c : Nat) => Value.int .u8 (c : Int)).length = n0 * i'.size := by simp [hY1, hsz]
     have hrun := run_append_grow (P := P) w t ty e i' z hu hi hz0 ⟨b, o, none⟩ n0 cap _ hole (fun j u hj => by rw [kN]; exact hY3 j u hj) ⟨b2, o2, none⟩ m c news hl hne omT omT (growslice_fits omT (by rw [hbs]; omega))
     have hge := grownCap_ge w (n0 + m) cap e
     refine ⟨_, _, _, by simp only [execOp, resolve, invoke, builtin, he.eval hx, he.eval hy, hrun, List.map_toArray, List.map_cons, List.map_nil, Sem.run_bind, Result.andThen_ok, Sem.run_pure]; rfl, fresh w.heap.size (grownCap w (n0 + m) cap e) (n0 + m) _ (WOK.alloc (w := w.drew) (WOK.drew hw) (k := .obj (jkO e (grownCap w (n0 + m) cap e) (n0 + m))) ⟨_, rfl, ?_, hge, ?_⟩), h _ ⟨some ⟨w.heap.size, 0, none⟩, n0 + m, _⟩ (JLe.cons _ _) (JSl.new _ _ _ _ _ (Nat.le_refl _) hge) rfl⟩
     · simp only [Array.size_append, List.size_toArray, size_zeroCells, hzs, hnl, List.length_map, hY1]
       omega
     · intro k hk
       have hall : ∀ u ∈ (Y.map fun (c : Nat) => Value.int .u8 (c : Int)) ++ news, ∃ z : Nat, z < 256 ∧ u = .int .u8 (z : Int) := fun u hu => by
         rcases List.mem_append.1 hu with hu | hu
         · obtain ⟨z, hz, rfl⟩ := List.mem_map.1 hu
           exact ⟨z, hY2 z hz, rfl⟩
         · exact hbyte u hu
       have hk' : k < ((Y.map fun (c : Nat) => Value.int .u8 (c : Int)) ++ news).length := by simp [hY1, hnl]; omega
       obtain ⟨z', hz1, hz2⟩ := hall _ (List.getElem_mem hk')
       refine ⟨z', hz1, ?_⟩
       rw [Array.getElem?_append_left (by simp [hY1, hnl]; omega)]
       have ea : (List.map (fun (c : Nat) => Value.int IntKind.u8 (c : Int)) Y).toArray ++ news.toArray = ((List.map (fun (c : Nat) => Value.int IntKind.u8 (c : Int)) Y) ++ news).toArray := by simp
       rw [ea, List.getElem?_toArray, List.getElem?_eq_getElem hk', hz2]
theorem s_append_jj {t dd e : Nat} {s1 s2 : Sl} {z : Value} {J : JL} {F : JL → zl} [hs : Slc P t e 1 1] [hz : kI P e z] (hzs : z.cells.size = 1) (hg : gd ops E g = some true) (hd : Nat.blt dd n = true)
   (hx : opv E x = some s1.v) (hy : opv E y = some s2.v) [hj : JT H e J F] (h1 : JSl J s1) (h2 : JSl J s2) (hb : s1.n + s2.n ≤ 140737488355328)
   (h : ∀ J' s', JLe J J' → JSl J' s' → s'.n = s1.n + s2.n → SQ P n ds false w0 D ops Q K (F J') ((dd, s'.v) :: E) rest) :
   SQ P n ds false w0 D ops Q K H E (⟨some dd, .call ⟨.builtin .append, #[x, y], #[t, t]⟩, ty, ps, af, g⟩ :: rest) := by
 refine s_append_j hzs hg hd hx (hj := hj) h1 hy ?_ hb h
 rcases h2 with rfl | ⟨b, N, M, o, hm, hu1, hnc, hoc, hon⟩
 · exact .inl ⟨rfl, rfl⟩
 · exact .inr ⟨b, o, hu1, fun w hk => jsl_news hk (jt_has (h := hj) hm).mem hon⟩
theorem s_append_jb {t dd e b2 o2 m c : Nat} {X : List Nat} {s1 : Sl} {z : Value} {J : JL} {F : JL → zl} [hs : Slc P t e 1 1] [hz : kI P e z] (hzs : z.cells.size = 1) (hg : gd ops E g = some true) (hd : Nat.blt dd n = true)
  (hx : opv E x = some s1.v) (hy : opv E y = some (.slice (some ⟨b2, o2, none⟩) m c)) [hj : JT H e J F] (h1 : JSl J s1) (hm : X.length = m) (hX : ∀ c ∈ X, c < 256) (hsrc : Src H b2 o2 (X.map fun (c : Nat) => Value.int .u8 (c : Int))) (hb : s1.n + m ≤ 140737488355328)
  (h : ∀ J' s', JLe J J' → JSl J' s' → s'.n = s1.n + m → SQ P n ds false w0 D ops Q K (F J') ((dd, s'.v) :: E) rest) :
  SQ P n ds false w0 D ops Q K H E (⟨some dd, .call ⟨.builtin .append, #[x, y], #[t, t]⟩, ty, ps, af, g⟩ :: rest) :=
 s_append_j hzs hg hd hx (hj := hj) h1 hy (.inr ⟨b2, o2, rfl, fun w hk => ⟨X, hm, hX, hsrc w hk⟩⟩) hb h
theorem s_ldjk {t b i N M dd e : Nat} [qn P t] (hg : gd ops E g = some true) (hd : Nat.blt dd n = true) (hx : opv E x = some (.pointer (some ⟨b, i, none⟩))) (hh : Has H b (.obj (jkO e N M))) (hi : i < M)
  (h : ∀ z : Nat, z < 256 → SQ P n ds pu w0 D ops Q K H ((dd, .int .u8 (z : Int)) :: E) rest) : SQ P n ds pu w0 D ops Q K H E (⟨some dd, .load t x, ty, ps, af, g⟩ :: rest) := by
 refine s_gen hg hd fun a w he hw => ?_
 obtain ⟨z, hz, hv⟩ := jk_cell hw.hok hh.mem hi
 exact ⟨_, w, H, by simp [execOp, he.eval hx, Instr.loadAt, Instr.sureAddr, loadVar, qj, hv], hw, h z hz⟩
theorem mapO_keys {es : Array MapEntry} (h : ∀ e ∈ es.toList, (∃ z, e.key = .int .i64 z) ∧ e.val = zI) : ∀ x ∈ es.toList, MapKept.IsKey (.int .i64) x.key := fun x hx => by
 obtain ⟨⟨z, hz⟩, _⟩ := h x hx
 rw [hz]; simp [MapKept.IsKey]
theorem s_makeMap {t dd : Nat} (hg : gd ops E g = some true) (hd : Nat.blt dd n = true)
  (h : ∀ b, SQ P n ds false w0 D ops Q K ((b, .obj mapO) :: H) ((dd, .map (some b)) :: E) rest) : SQ P n ds false w0 D ops Q K H E (⟨some dd, .makeMap t none, ty, ps, af, g⟩ :: rest) := by
 refine s_gen hg hd fun a w he hw => ?_
 refine ⟨.map (some w.heap.size), w.alloc (.map #[] 0), _, ?_, hw.alloc (k := .obj mapO) ⟨#[], 0, rfl, by simp⟩, h _⟩
 simp [execOp, Instr.makeMap]
theorem run_mlook {w : World} {t kt et b : Nat} {z : Int} (ht : P.underlying t = some (.map kt et)) (hk : P.underlying kt = some (.int .i64)) (hz : kI P et (zI)) (hm : (b, Blk.obj mapO) ∈ H) (hw : HOK H w) :
   ∃ c : Bool, (Instr.lookup t (.map (some b)) (.int .i64 z) true).run P w = .ok (.tuple #[zI, .bool c]) w := by
 obtain ⟨o, ho, es, clock, rfl, hes⟩ := hw.ok _ _ hm
 have hkey : MapKept.IsKey (.int .i64) (.int .i64 z) := by simp [MapKept.IsKey]
 obtain ⟨i, h1, h2⟩ := hz.is
 rcases MapKept.findNow_spec hkey es.toList 0 (mapO_keys hes) with ⟨h3, _⟩ | ⟨j, e, h3, h4, h5⟩
 · exact ⟨false, by simp [Instr.lookup, run_underlying ht, MapKept.run_getObj_map ho, MapKept.run_checkKey hk hkey, MapKept.run_findKey hk h3, Result.andThen, zeroValue, wk h1, h2]⟩
 · have hv := (hes e (List.mem_of_getElem? h4)).2
   exact ⟨true, by simp [Instr.lookup, run_underlying ht, MapKept.run_getObj_map ho, MapKept.run_checkKey hk hkey, MapKept.run_findKey hk h3, Result.andThen, hv]⟩
theorem d_mlook {t kt et b dd : Nat} {z : Int} (ht : P.underlying t = some (.map kt et)) (hk : P.underlying kt = some (.int .i64)) [hz : kI P et (zI)] (hg : gd ops E g = some true) (hd : Nat.blt dd n = true) (hx : opv E x = some (.map (some b))) (hy : opv E y = some (.int .i64 z)) [hh : Has H b (.obj mapO)]
  (h : ∀ c : Bool, DQ P n ds pu w0 D ops Q' H ((dd, .tuple #[zI, .bool c]) :: E) rest) : DQ P n ds pu w0 D ops Q' H E (⟨some dd, .lookup t x y true, ty, ps, af, g⟩ :: rest) := by
 refine d_gen hg hd fun a w he hw => ?_
 obtain ⟨c, hc⟩ := run_mlook (z := z) ht hk hz hh.mem hw.hok
 exact ⟨_, by simp [execOp, he.eval hx, he.eval hy, hc], h c⟩
theorem mapO_set {w : World} {b clock : Nat} {es es' : Array MapEntry} {clock' : Nat} (h : WOK false w0 D H w) (hm : (b, Blk.obj mapO) ∈ H) (hb : w.heap[b]? = some (.map es clock)) (hes : ∀ e ∈ es'.toList, (∃ z, e.key = .int .i64 z) ∧ e.val = zI) :
  WOK false w0 D H { w with heap := w.heap.setIfInBounds b (.map es' clock') } := by
 obtain ⟨l, r, rfl⟩ := List.append_of_mem hm
 refine h.repl rfl rfl rfl (by simp) (fun c hc => (MapKept.heap_set hb).2 c hc) (o := .map es' clock') (MapKept.heap_set hb).1 ⟨es', clock', rfl, hes⟩
theorem s_mupd {t kt et b : Nat} {z : Int} {v : Operand} (ht : P.underlying t = some (.map kt et)) (hk : P.underlying kt = some (.int .i64)) (hg : gd ops E g = some true) (hx : opv E x = some (.map (some b))) (hy : opv E y = some (.int .i64 z)) (hv : opv E v = some (zI)) [hh : Has H b (.obj mapO)]
   (h : SQ P n ds false w0 D ops Q K H E rest) : SQ P n ds false w0 D ops Q K H E (⟨none, .mapUpdate t x y v, ty, ps, af, g⟩ :: rest) := by
 refine s_genn hg fun a w he hw => ?_
 obtain ⟨o, ho, es, clock, rfl, hes⟩ := hw.hok.ok _ _ hh.mem
 have hkey : MapKept.IsKey (.int .i64) (.int .i64 z) := by simp [MapKept.IsKey]
 rcases MapKept.findNow_spec hkey es.toList 0 (mapO_keys hes) with ⟨h3, _⟩ | ⟨j, e, h3, h4, h5⟩
 · refine ⟨_, H, .inl (by simp [execOp, he.eval hx, he.eval hy, he.eval hv, Instr.mapUpdate, run_underlying ht, MapKept.run_getObj_map ho, MapKept.run_checkKey hk hkey, MapKept.run_findKey hk h3, MapKept.run_setObj_map _ ho, Result.andThen]; rfl), mapO_set hw hh.mem ho ?_, h⟩
   intro e he'
   simp only [Array.toList_push, List.mem_append, List.mem_singleton] at he'
   rcases he' with he' | rfl
   · exact hes e he'
   · exact ⟨⟨z, rfl⟩, rfl⟩
 · have hj : es[j]? = some e := by simpa using h4
   refine ⟨_, H, .inl (by simp [execOp, he.eval hx, he.eval hy, he.eval hv, Instr.mapUpdate, run_underlying ht, MapKept.run_getObj_map ho, MapKept.run_checkKey hk hkey, MapKept.run_findKey hk h3, hj, h5, MapKept.run_keyThatStays hkey, MapKept.run_setObj_map _ ho, Result.andThen]; rfl), mapO_set hw hh.mem ho ?_, h⟩
   intro e' he'
   rw [Array.mem_toList_iff] at he'
   obtain ⟨i, hi, rfl⟩ := Array.mem_iff_getElem.1 he'
   rw [Array.getElem_modify]
   have hi' : i < es.size := by simpa using hi
   split
   · exact ⟨⟨z, rfl⟩, rfl⟩
   · exact hes _ (by rw [Array.mem_toList_iff]; exact Array.getElem_mem hi')
end
end Go.Proofs.YtnfbcfflkphbiaaGreatDoor
