/-
  Texts of the proof, joined: F42 F43 F44 F45 F46. No Go text.
-/
import Derived.Test.YtnfbcfflkphbiaaGreatDoorA01
import Derived.Test.YtnfbcfflkphbiaaGreatDoorA08
import Derived.Test.YtnfbcfflkphbiaaGreatDoorA30
namespace Go.Proofs.YtnfbcfflkphbiaaGreatDoor
open Go Go.Proofs Tryz
set_option linter.all false
set_option maxRecDepth 100000
set_option maxHeartbeats 8000000
theorem qY {c : Nat} (h : zC c = true) : 48 ≤ c ∧ c ≤ 57 ∨ 65 ≤ c ∧ c ≤ 90 ∨ 97 ≤ c ∧ c ≤ 122 ∨ c = 95 ∨ c = 45 := of_decide_eq_true h
theorem qk {c : Nat} (h : 32 < c) : PF prog 101 [.int .i32 (c : Nat)] [] (.bool false) := by
 refine zW func101 rfl rfl rfl ?_
 intro w
 refine gg 17 ?_
 exact zV rfl rfl
theorem content_pf {c : Nat} (h : 32 ≤ c ∧ c ≤ 126) : PF prog 120 [.int .i32 (c : Nat)] [] (.bool true) := by
 refine zW func120 rfl rfl rfl ?_
 intro w
 refine gg 45 ?_
 exact zV rfl rfl
theorem flowsign_pf {c : Nat} (h : zC c = true) : PF prog 126 [.int .i32 (c : Nat)] [] (.bool false) := by
 have hc := qY h
 refine zW func126 rfl rfl rfl ?_
 intro w
 refine gg 29 ?_
 exact zV rfl rfl
theorem indic_pf {c : Nat} (h : zC c = true) (h2 : c ≠ 45) : PF prog 103 [.int .i32 (c : Nat)] [] (.bool false) := by
 have hc := qY h
 refine zW func103 rfl rfl rfl ?_
 intro w
 refine gg 116 ?_
 refine sca (flowsign_pf h) ?_
 refine gg 4 ?_
 exact zV rfl rfl
theorem indic1_pf : PF prog 103 [.int .i32 45] [] (.bool true) := by
 refine zW func103 rfl rfl rfl ?_
 intro w
 refine gg 31 ?_
 exact zV rfl rfl
theorem key_pf : PF prog 99 [zI] [] (.bool false) := by
 refine zW func99 rfl rfl rfl ?_
 intro w
 refine gg 17 ?_
 exact zV rfl rfl
theorem flow_pf : PF prog 104 [zI] [] (.bool false) := by
 refine zW func104 rfl rfl rfl ?_
 intro w
 refine gg 17 ?_
 exact zV rfl rfl
abbrev RUB (b cap : Nat) (X : List Nat) : Nat × Blk := (b, .buf 21 cap (runes X))
def mkB (X : List Nat) : Bool := decide (X.take 3 = [45, 45, 45])
theorem marker_ok {b cap n c : Nat} {X : List Nat} (hX : ∀ c ∈ X, zC c = true) (hn : X.length = n) : Fn prog 102 [.slice (some ⟨b, 0, none⟩) n c] [RUB b cap X] (fun v H' => v = .bool (mkB X) ∧ H' = [RUB b cap X]) := by
 by_cases h3 : n < 3
 · have e0 : mkB X = false := decide_eq_false (fun h => by have := congrArg List.length h; simp at this; omega)
   rw [e0]
   refine zo func102 rfl rfl rfl ?_
   intro w
   refine gg 6 ?_
   refine kM zF kR (gg 37 ?_)
   exact zm rfl rfl (Wk.refl _) ⟨rfl, rfl⟩
 · match X, hn with
   | [], hn => exact absurd hn (by simp; omega)
   | [_], hn => exact absurd hn (by simp; omega)
   | [_, _], hn => exact absurd hn (by simp; omega)
   | x0 :: x1 :: x2 :: r, hn =>
    have a0 := qY (hX x0 (by simp))
    have i0 : (x0 :: x1 :: x2 :: r)[0]? = some x0 := rfl
    have i1 : (x0 :: x1 :: x2 :: r)[1]? = some x1 := rfl
    have i2 : (x0 :: x1 :: x2 :: r)[2]? = some x2 := rfl
    by_cases h0 : x0 = 45
    · by_cases h1 : x1 = x0
      · by_cases h2 : x2 = x0
        · have e0 : mkB (x0 :: x1 :: x2 :: r) = true := decide_eq_true (by simp; omega)
          rw [e0]
          refine zo func102 rfl rfl rfl ?_
          intro w
          refine gg 6 ?_
          refine kM zF kR (gg 5 ?_)
          refine dqz (zy (i := 0) rfl rfl rfl omT rfl) (dqz (zQ rfl omT i0) (gg 10 ?_))
          refine dqz (zy (i := 1) rfl rfl rfl omT rfl) (dqz (zQ rfl omT i1) (dmv ?_))
          refine dqz (zy (i := 0) rfl rfl rfl omT rfl) (dqz (zQ rfl omT i0) (gg 4 ?_))
          refine dqz (zy (i := 2) rfl rfl rfl omT rfl) (dqz (zQ rfl omT i2) (dmv ?_))
          refine dqz (zy (i := 0) rfl rfl rfl omT rfl) (dqz (zQ rfl omT i0) (gg 6 ?_))
          exact zm rfl rfl (Wk.refl _) ⟨rfl, rfl⟩
        · have e0 : mkB (x0 :: x1 :: x2 :: r) = false := decide_eq_false (by simp; omega)
          rw [e0]
          refine zo func102 rfl rfl rfl ?_
          intro w
          refine gg 6 ?_
          refine kM zF kR (gg 5 ?_)
          refine dqz (zy (i := 0) rfl rfl rfl omT rfl) (dqz (zQ rfl omT i0) (gg 10 ?_))
          refine dqz (zy (i := 1) rfl rfl rfl omT rfl) (dqz (zQ rfl omT i1) (dmv ?_))
          refine dqz (zy (i := 0) rfl rfl rfl omT rfl) (dqz (zQ rfl omT i0) (gg 4 ?_))
          refine dqz (zy (i := 2) rfl rfl rfl omT rfl) (dqz (zQ rfl omT i2) (dmv ?_))
          refine dqz (zy (i := 0) rfl rfl rfl omT rfl) (dqz (zQ rfl omT i0) (gg 6 ?_))
          exact zm rfl rfl (Wk.refl _) ⟨rfl, rfl⟩
      · have e0 : mkB (x0 :: x1 :: x2 :: r) = false := decide_eq_false (by simp; omega)
        rw [e0]
        refine zo func102 rfl rfl rfl ?_
        intro w
        refine gg 6 ?_
        refine kM zF kR (gg 5 ?_)
        refine dqz (zy (i := 0) rfl rfl rfl omT rfl) (dqz (zQ rfl omT i0) (gg 10 ?_))
        refine dqz (zy (i := 1) rfl rfl rfl omT rfl) (dqz (zQ rfl omT i1) (dmv ?_))
        refine dqz (zy (i := 0) rfl rfl rfl omT rfl) (dqz (zQ rfl omT i0) (gg 15 ?_))
        exact zm rfl rfl (Wk.refl _) ⟨rfl, rfl⟩
    · have e0 : mkB (x0 :: x1 :: x2 :: r) = false := decide_eq_false (by simp; omega)
      rw [e0]
      refine zo func102 rfl rfl rfl ?_
      intro w
      refine gg 6 ?_
      refine kM zF kR (gg 5 ?_)
      refine dqz (zy (i := 0) rfl rfl rfl omT rfl) (dqz (zQ rfl omT i0) (gg 3 ?_))
      refine dqz (zy (i := 0) rfl rfl rfl omT rfl) (dqz (zQ rfl omT i0) (gg 25 ?_))
      exact zm rfl rfl (Wk.refl _) ⟨rfl, rfl⟩
theorem psign_pf {b cap n c i : Nat} {X : List Nat} (hX : ∀ c ∈ X, zC c = true) (hn : X.length = n) (hi : i < n) (hl : n ≤ 100) : PF prog 106 [.slice (some ⟨b, 0, none⟩) n c, .int .i64 (i : Nat), .bool false] [RUB b cap X] (.bool true) := by
 have g0 : X[i]? = some X[i] := List.getElem?_eq_getElem omT
 have a0 := qY (hX X[i] (List.getElem_mem _))
 refine zW func106 rfl rfl rfl ?_
 intro w
 refine gg 9 ?_
 refine sqz (zy (i := i) rfl rfl rfl omT rfl) (sqz (zQ rfl omT g0) (gg 3 ?_))
 by_cases h1 : i + 1 = n
 ·
  refine gg 71 ?_
  exact zV rfl rfl
 ·
  have g1 : X[i + 1]? = some X[i + 1] := List.getElem?_eq_getElem omT
  have a1 := qY (hX X[i + 1] (List.getElem_mem _))
  refine gg 11 ?_
  refine sqz (zy (i := i + 1) rfl rfl rfl omT rfl) (sqz (zQ rfl omT g1) (sca (qk (c := X[i + 1]) omT) ?_))
  refine gg 5 ?_
  refine sqz (zy (i := i + 1) rfl rfl rfl omT rfl) (sqz (zQ rfl omT g1) (gg 50 ?_))
  exact zV rfl rfl
theorem feeds_pf {b cap n c i : Nat} {X : List Nat} (hX : ∀ c ∈ X, zC c = true) (hn : X.length = n) (hi : i < n) (hl : n ≤ 100) : PF prog 118 [.slice (some ⟨b, 0, none⟩) n c, .int .i64 (i : Nat)] [RUB b cap X] (zI) := by
 have g0 : X[i]? = some X[i] := List.getElem?_eq_getElem omT
 have a0 := qY (hX X[i] (List.getElem_mem _))
 refine zW func118 rfl rfl rfl ?_
 intro w
 refine gg 12 ?_
 refine zw (σ := Unit) (fun _ => [(0, .slice (some ⟨b, 0, none⟩) n c), (1, .int .i64 (i : Nat)), (5, zI)]) (fun _ => [RUB b cap X]) (fun _ => True) (fun _ => 0) () trivial suT (Wk.refl _) ?_
 rintro ⟨⟩ _
 refine gg 5 ?_
 refine sqz (q_addn (b := 0) rfl rfl omT) (gg 7 ?_)
 refine sqz (q_addn (b := 0) rfl rfl omT) (sqz (zy (i := i) rfl rfl rfl omT rfl) (sqz (zQ rfl omT g0) (gg 17 ?_)))
 exact zV rfl rfl
theorem lone_pf {b cap n c i : Nat} {X : List Nat} (hX : ∀ c ∈ X, zC c = true) (hn : X.length = n) (hi : i < n) (hl : n ≤ 100) : PF prog 132 [.slice (some ⟨b, 0, none⟩) n c, .int .i64 (i : Nat)] [RUB b cap X] (.bool false) := by
 have g0 : X[i]? = some X[i] := List.getElem?_eq_getElem omT
 have a0 := qY (hX X[i] (List.getElem_mem _))
 refine zW func132 rfl rfl rfl ?_
 intro w
 refine gg 10 ?_
 refine sqz (zy (i := i) rfl rfl rfl omT rfl) (sqz (zQ rfl omT g0) (gg 22 ?_))
 exact zV rfl rfl
theorem valid_pf {X : List Nat} (hX : ∀ c ∈ X, zC c = true) (hl : X.length ≤ 8) : PF prog 116 [.string (sb X)] [] (.bool true) := by
 refine zW func116 rfl rfl rfl ?_
 intro w
 refine gg 7 ?_
 refine zw (σ := List Nat) (fun x => [(0, .string (sb x))]) (fun _ => []) (fun x => (∀ c ∈ x, zC c = true) ∧ x.length ≤ 8) (fun x => x.length) X ⟨hX, hl⟩ suT (Wk.refl _) ?_
 rintro x ⟨hx, hxl⟩
 refine zd ?_
 rcases x with _ | ⟨c, x⟩
 ·
  refine gg 4 ?_
  refine sgt0 (h := ?_) (hc := by simp)
  refine gg 14 ?_
  exact zV rfl rfl
 ·
  have hc := qY (hx c (by simp))
  rw [List.length_cons] at hxl
  refine gg 4 ?_
  refine sgt1 (h := ?_) (hc := by simp)
  refine gg 9 ?_
  refine sqz (q_sbi (X := c :: x) (i := 0) (c := c) rfl rfl rfl omT) (gg 14 ?_)
  refine sqz (q_ssll (X := c :: x) (m := 1) rfl rfl (by simp)) ?_
  refine gg 8 ?_
  refine sgt0 (h := ?_) (hc := by simp; omega)
  refine gg 14 ?_
  exact zh x ⟨fun d hd => hx d (by simp [hd]), omT⟩ (by simp) suT (Wk.refl _)
theorem asc_of {X : List Nat} (hX : ∀ c ∈ X, zC c = true) : ∀ c ∈ X, c < 128 := fun c hc => by have := ky (hX c hc); omega
theorem qU {X : List Nat} (hX : ∀ c ∈ X, zC c = true) (hl : X.length ≤ 8) : Fn prog 91 [.string (sb X)] []
  (fun v H' => ∃ b cap, v = .tuple #[.slice (some ⟨b, 0, none⟩) X.length cap, .bool true] ∧ H' = [RUB b cap X] ∧ X.length ≤ cap) := by
 refine zo func91 rfl rfl rfl ?_
 intro w
 refine gg 11 ?_
 refine sgt0 (h := ?_) (hc := by simp; omega)
 refine smv ?_
 refine smv ?_
 refine sca (valid_pf hX hl) ?_
 refine gg 10 ?_
 refine s_runes underlying9 underlying148 underlying21 rfl rfl rfl (asc_of hX) omT ?_
 intro b cap hcap
 refine gg 5 ?_
 exact end2w rfl rfl rfl (Wk.refl _) ⟨b, cap, rfl, rfl, hcap⟩
theorem all_pf {b cap n c : Nat} {X : List Nat} (hX : ∀ c ∈ X, zC c = true) (hn : X.length = n) (hl : n ≤ 100) : PF prog 98 [.slice (some ⟨b, 0, none⟩) n c, .bool true] [RUB b cap X] (.bool true) := by
 refine zW func98 rfl rfl rfl ?_
 intro w
 refine gg 14 ?_
 refine zw (σ := Nat) (fun x => [(1, .bool true), (7, .slice (some ⟨b, 0, none⟩) n c), (8, .int .i64 (n : Nat)), (9, .int .i64 (x : Nat))]) (fun _ => [RUB b cap X]) (fun x => x ≤ n) (fun x => n - x) 0 (Nat.zero_le _) suT (Wk.refl _) ?_
 intro i hi
 by_cases h1 : i < n
 ·
  refine gg 5 ?_
  have g0 : X[i]? = some X[i] := List.getElem?_eq_getElem omT
  have a0 := ky (hX X[i] (List.getElem_mem _))
  refine gg 8 ?_
  refine sqz (zy (i := i) rfl rfl rfl omT rfl) (sqz (zQ rfl omT g0) (gg 6 ?_))
  refine sca (content_pf (c := X[i]) omT) ?_
  refine gg 19 ?_
  exact zh (i + 1) omT omT suT (Wk.refl _)
 ·
  refine gg 18 ?_
  exact zV rfl rfl
theorem apart_pf {b cap n c : Nat} {X : List Nat} (hX : ∀ c ∈ X, zC c = true) (hn : X.length = n) (hl : n ≤ 100) : PF prog 100 [.slice (some ⟨b, 0, none⟩) n c] [RUB b cap X] (.bool true) := by
 refine zW func100 rfl rfl rfl ?_
 intro w
 refine gg 14 ?_
 refine zw (σ := Nat) (fun x => [(0, .slice (some ⟨b, 0, none⟩) n c), (5, .slice (some ⟨b, 0, none⟩) n c), (6, .int .i64 (n : Nat)), (7, .int .i64 (x : Nat))]) (fun _ => [RUB b cap X]) (fun x => x ≤ n) (fun x => n - x) 0 (Nat.zero_le _) suT (Wk.refl _) ?_
 intro i hi
 by_cases h1 : i < n
 ·
  refine gg 5 ?_
  have g0 : X[i]? = some X[i] := List.getElem?_eq_getElem omT
  have a0 := ky (hX X[i] (List.getElem_mem _))
  refine gg 9 ?_
  refine sqz (zy (i := i) rfl rfl rfl omT rfl) (sqz (zQ rfl omT g0) (gg 45 ?_))
  exact zh (i + 1) omT omT suT (Wk.refl _)
 ·
  refine gg 18 ?_
  exact zV rfl rfl
theorem marker_ok' {b cap n c : Nat} {X : List Nat} {r : Bool} (h : mkB X = r) (hX : ∀ c ∈ X, zC c = true) (hn : X.length = n) : Fn prog 102 [.slice (some ⟨b, 0, none⟩) n c] [RUB b cap X] (fun v H' => v = .bool r ∧ H' = [RUB b cap X]) := h ▸ marker_ok hX hn
theorem mayPlain_ok {X : List Nat} (hX : NameT X) : Fn prog 68 [.string (sb X), zI] [] (fun v H' => v = .bool (kT X) ∧ H' = []) := by
 obtain ⟨h1, h8, hX⟩ := hX
 have g0 : X[0]? = some X[0] := List.getElem?_eq_getElem omT
 have a0 := ky (hX X[0] (List.getElem_mem _))
 have g9 : X[X.length - 1]? = some X[X.length - 1] := List.getElem?_eq_getElem omT
 have a9 := ky (hX X[X.length - 1] (List.getElem_mem _))
 cases hm : mkB X with
 | true =>
  have hp : kT X = false := by
    have := of_decide_eq_true hm
    simp [kT, this]
  rw [hp]
  refine zo func68 rfl rfl rfl ?_
  intro w
  refine gg 8 ?_
  refine za rfl rfl rfl (qU hX h8) ?_
  rintro _ _ ⟨b, cap, rfl, rfl, hcap⟩
  simp only [List.nil_append, List.append_nil]
  refine gg 20 ?_
  refine sca (key_pf) ?_
  refine snt ?_
  refine sca (all_pf (cap := cap) hX rfl omT) ?_
  refine gg 4 ?_
  refine sca (apart_pf (cap := cap) hX rfl omT) ?_
  refine gg 10 ?_
  refine dqz (zy (i := 0) rfl rfl rfl omT rfl) (dqz (zQ rfl omT g0) (gg 4 ?_))
  refine dqz (zy (i := X.length - 1) rfl rfl rfl omT rfl) (dqz (zQ rfl omT g9) (gg 8 ?_))
  refine sca (qk (c := X[0]) omT) ?_
  refine gg 6 ?_
  refine sca (qk (c := X[X.length - 1]) omT) ?_
  refine gg 7 ?_
  refine za rfl rfl rfl (marker_ok' (cap := cap) hm hX rfl) ?_
  rintro _ _ ⟨rfl, rfl⟩
  simp only [List.nil_append, List.append_nil]
  refine gg 11 ?_
  exact zm (H' := []) rfl rfl (Wk.to [] (by exact trivial)) ⟨rfl, rfl⟩
 | false =>
  have hm' := of_decide_eq_false hm
  by_cases h45 : X[0] = 45
  · by_cases hl1 : X.length = 1
    · have hp : kT X = false := by
       have : X = [45] := List.ext_getElem (by simpa using hl1) fun i h1 h2 => by
        have : i = 0 := by simpa using h2
        subst this
        simpa using h45
       rw [this]
       rfl
      rw [hp]
      refine zo func68 rfl rfl rfl ?_
      intro w
      refine gg 8 ?_
      refine za rfl rfl rfl (qU hX h8) ?_
      rintro _ _ ⟨b, cap, rfl, rfl, hcap⟩
      simp only [List.nil_append, List.append_nil]
      refine gg 20 ?_
      refine sca (key_pf) ?_
      refine snt ?_
      refine sca (all_pf (cap := cap) hX rfl omT) ?_
      refine gg 4 ?_
      refine sca (apart_pf (cap := cap) hX rfl omT) ?_
      refine gg 10 ?_
      refine dqz (zy (i := 0) rfl rfl rfl omT rfl) (dqz (zQ rfl omT g0) (gg 4 ?_))
      refine dqz (zy (i := X.length - 1) rfl rfl rfl omT rfl) (dqz (zQ rfl omT g9) (gg 8 ?_))
      refine sca (qk (c := X[0]) omT) ?_
      refine gg 6 ?_
      refine sca (qk (c := X[X.length - 1]) omT) ?_
      refine gg 7 ?_
      refine za rfl rfl rfl (marker_ok' (cap := cap) hm hX rfl) ?_
      rintro _ _ ⟨rfl, rfl⟩
      simp only [List.nil_append, List.append_nil]
      rw [h45]
      refine gg 10 ?_
      refine sca (indic1_pf) ?_
      refine gg 44 ?_
      exact zm (H' := []) rfl rfl (Wk.to [] (by exact trivial)) ⟨rfl, rfl⟩
    · have hp : kT X = true := by
       have : X ≠ [45] := fun h => hl1 (by rw [h]; rfl)
       simp [kT, this, hm']
      rw [hp]
      have g1 : X[1]? = some X[1] := List.getElem?_eq_getElem omT
      have a1 := ky (hX X[1] (List.getElem_mem _))
      refine zo func68 rfl rfl rfl ?_
      intro w
      refine gg 8 ?_
      refine za rfl rfl rfl (qU hX h8) ?_
      rintro _ _ ⟨b, cap, rfl, rfl, hcap⟩
      simp only [List.nil_append, List.append_nil]
      refine gg 20 ?_
      refine sca (key_pf) ?_
      refine snt ?_
      refine sca (all_pf (cap := cap) hX rfl omT) ?_
      refine gg 4 ?_
      refine sca (apart_pf (cap := cap) hX rfl omT) ?_
      refine gg 10 ?_
      refine dqz (zy (i := 0) rfl rfl rfl omT rfl) (dqz (zQ rfl omT g0) (gg 4 ?_))
      refine dqz (zy (i := X.length - 1) rfl rfl rfl omT rfl) (dqz (zQ rfl omT g9) (gg 8 ?_))
      refine sca (qk (c := X[0]) omT) ?_
      refine gg 6 ?_
      refine sca (qk (c := X[X.length - 1]) omT) ?_
      refine gg 7 ?_
      refine za rfl rfl rfl (marker_ok' (cap := cap) hm hX rfl) ?_
      rintro _ _ ⟨rfl, rfl⟩
      simp only [List.nil_append, List.append_nil]
      rw [h45]
      refine gg 10 ?_
      refine sca (indic1_pf) ?_
      refine gg 23 ?_
      refine sqz (zy (i := 1) rfl rfl rfl omT rfl) (sqz (zQ rfl omT g1) (sca (qk (c := X[1]) omT) ?_))
      refine gg 3 ?_
      refine sqz (zy (i := 1) rfl rfl rfl omT rfl) (sqz (zQ rfl omT g1) (gg 10 ?_))
      refine sca (flow_pf) ?_
      refine gg 25 ?_
      refine zw (σ := Nat) (fun x => [(1, zI), (5, .slice (some ⟨b, 0, none⟩) X.length cap), (7, .int .i32 45), (105, .int .i64 (X.length : Nat)), (106, .int .i64 (x : Nat))]) (fun _ => [RUB b cap X]) (fun x => x ≤ X.length) (fun x => X.length - x) 0 (Nat.zero_le _) suT (Wk.refl _) ?_
      intro i hi
      by_cases h1 : i < X.length
      ·
       refine gg 17 ?_
       by_cases h0 : 0 < i
       ·
        refine gg 13 ?_
        refine sca (flow_pf) ?_
        refine sca (psign_pf (cap := cap) hX rfl h1 omT) ?_
        refine gg 12 ?_
        exact zh (i + 1) omT omT suT (Wk.refl _)
       ·
        refine gg 6 ?_
        refine sca (indic1_pf) ?_
        refine gg 20 ?_
        exact zh (i + 1) omT omT suT (Wk.refl _)
      ·
       refine gg 15 ?_
       refine sca (key_pf) ?_
       refine gg 10 ?_
       exact zm (H' := []) rfl rfl (Wk.to [] (by exact trivial)) ⟨rfl, rfl⟩
  · have hp : kT X = true := by
      have : X ≠ [45] := fun h => h45 (by simp [h])
      simp [kT, this, hm']
    rw [hp]
    refine zo func68 rfl rfl rfl ?_
    intro w
    refine gg 8 ?_
    refine za rfl rfl rfl (qU hX h8) ?_
    rintro _ _ ⟨b, cap, rfl, rfl, hcap⟩
    simp only [List.nil_append, List.append_nil]
    refine gg 20 ?_
    refine sca (key_pf) ?_
    refine snt ?_
    refine sca (all_pf (cap := cap) hX rfl omT) ?_
    refine gg 4 ?_
    refine sca (apart_pf (cap := cap) hX rfl omT) ?_
    refine gg 10 ?_
    refine dqz (zy (i := 0) rfl rfl rfl omT rfl) (dqz (zQ rfl omT g0) (gg 4 ?_))
    refine dqz (zy (i := X.length - 1) rfl rfl rfl omT rfl) (dqz (zQ rfl omT g9) (gg 8 ?_))
    refine sca (qk (c := X[0]) omT) ?_
    refine gg 6 ?_
    refine sca (qk (c := X[X.length - 1]) omT) ?_
    refine gg 7 ?_
    refine za rfl rfl rfl (marker_ok' (cap := cap) hm hX rfl) ?_
    rintro _ _ ⟨rfl, rfl⟩
    simp only [List.nil_append, List.append_nil]
    refine gg 10 ?_
    refine sca (indic_pf (c := X[0]) (hX _ (List.getElem_mem _)) h45) ?_
    refine gg 14 ?_
    refine zw (σ := Nat) (fun x => [(1, zI), (5, .slice (some ⟨b, 0, none⟩) X.length cap), (7, .int .i32 (X[0] : Nat)), (105, .int .i64 (X.length : Nat)), (106, .int .i64 (x : Nat))]) (fun _ => [RUB b cap X]) (fun x => x ≤ X.length) (fun x => X.length - x) 0 (Nat.zero_le _) suT (Wk.refl _) ?_
    intro i hi
    by_cases h1 : i < X.length
    ·
      refine gg 17 ?_
      by_cases h0 : 0 < i
      ·
       refine gg 13 ?_
       refine sca (flow_pf) ?_
       refine sca (psign_pf (cap := cap) hX rfl h1 omT) ?_
       refine gg 12 ?_
       exact zh (i + 1) omT omT suT (Wk.refl _)
      ·
       refine gg 6 ?_
       refine sca (indic_pf (c := X[0]) (hX _ (List.getElem_mem _)) h45) ?_
       refine gg 6 ?_
       refine sca (flow_pf) ?_
       refine sca (psign_pf (cap := cap) hX rfl h1 omT) ?_
       refine gg 12 ?_
       exact zh (i + 1) omT omT suT (Wk.refl _)
    ·
      refine gg 15 ?_
      refine sca (key_pf) ?_
      refine gg 10 ?_
      exact zm (H' := []) rfl rfl (Wk.to [] (by exact trivial)) ⟨rfl, rfl⟩
theorem mayDouble_ok {X : List Nat} (hX : NameT X) : Fn prog 70 [.string (sb X), zI] [] (fun v H' => v = .bool true ∧ H' = []) := by
 obtain ⟨h1, h8, hX⟩ := hX
 refine zo func70 rfl rfl rfl ?_
 intro w
 refine gg 8 ?_
 refine za rfl rfl rfl (qU hX h8) ?_
 rintro _ _ ⟨b, cap, rfl, rfl, hcap⟩
 simp only [List.nil_append, List.append_nil]
 refine gg 12 ?_
 refine sca (key_pf) ?_
 refine gg 11 ?_
 exact zm (H' := []) rfl rfl (Wk.to [] (by exact trivial)) ⟨rfl, rfl⟩
theorem mayScalar1_ok {X : List Nat} (hX : NameT X) : Fn prog 55 [.string (sb X), .int .i64 1, zI] [] (fun v H' => v = .bool (kT X) ∧ H' = []) := by
 refine zo func55 rfl rfl rfl ?_
 intro w
 refine gg 23 ?_
 refine za rfl rfl rfl (mayPlain_ok hX) ?_
 rintro _ _ ⟨rfl, rfl⟩
 simp only [List.nil_append]
 refine gg 6 ?_
 exact zm (H' := []) rfl rfl (Wk.refl _) ⟨rfl, rfl⟩
theorem mayScalar3_ok {X : List Nat} (hX : NameT X) : Fn prog 55 [.string (sb X), .int .i64 3, zI] [] (fun v H' => v = .bool true ∧ H' = []) := by
 refine zo func55 rfl rfl rfl ?_
 intro w
 refine gg 37 ?_
 refine za rfl rfl rfl (mayDouble_ok hX) ?_
 rintro _ _ ⟨rfl, rfl⟩
 simp only [List.nil_append]
 refine gg 6 ?_
 exact zm (H' := []) rfl rfl (Wk.refl _) ⟨rfl, rfl⟩
def hval (ds : List Nat) : Nat := ds.foldl (fun a d => a * 16 + hexD d) 0
theorem hval_from (ds : List Nat) : ∀ a, ds.foldl (fun a d => a * 16 + hexD d) a = a * 16 ^ ds.length + hval ds := by
 induction ds with
 | nil => intro a; simp [hval]
 | cons d ds ih =>
  intro a
  have e1 : hval (d :: ds) = hexD d * 16 ^ ds.length + hval ds := by
   have := ih (0 * 16 + hexD d)
   simpa [hval] using this
  rw [e1]
  have := ih (a * 16 + hexD d)
  simp only [List.foldl_cons, List.length_cons] at this ⊢
  rw [this, Nat.add_mul, Nat.pow_succ, Nat.mul_assoc, Nat.mul_comm 16, ← Nat.add_assoc]
theorem hval_cons (d : Nat) (ds : List Nat) : hval (d :: ds) = hexD d * 16 ^ ds.length + hval ds := by
 have := hval_from ds (0 * 16 + hexD d)
 simpa [hval] using this
def hexLo : List Nat := [48, 49, 50, 51, 52, 53, 54, 55, 56, 57, 97, 98, 99, 100, 101, 102]
def hexHi : List Nat := [48, 49, 50, 51, 52, 53, 54, 55, 56, 57, 65, 66, 67, 68, 69, 70]
theorem hexLo_ok : ∀ i, i < 16 → ∃ d, hexLo[i]? = some d ∧ d < 256 ∧ hexB d = true ∧ hexD d = i := by decide
theorem hexHi_ok : ∀ i, i < 16 → ∃ d, hexHi[i]? = some d ∧ d < 256 ∧ hexB d = true ∧ hexD d = i := by decide
section
variable {P : Program} {n : Nat} {ds : List Deferred} {pu : Bool} {w0 : World} {D : List Nat} {H : zl} {E : Env}
variable {d : Option Nat} {ty : TypeId} {ps : String} {af : Array Edge} {g : Option (Nat × Bool)} {x y : Operand}
theorem q_quo16 {t t2 : TypeId} {p : Nat} (hx : opv E x = some (.int .i32 (p : Int))) (hy : opv E y = some (.int .i32 16)) (h : p ≤ 1000000) :
  Q1 P n ds pu w0 D H E ⟨d, .binOp .quo t x y t2, ty, ps, af, g⟩ (.int .i32 ((p / 16 : Nat) : Int)) := by
 intro a w he _
 have h1 : ((p : Int).tdiv 16) = ((p / 16 : Nat) : Int) := by rw [Int.tdiv_eq_ediv_of_nonneg omT]; exact (Int.natCast_ediv p 16).symm
 simp [execOp, he.eval hx, he.eval hy, eqGuard, binOp, Op.intDiv, h1]
 exact IntWalk.i32_in _ ⟨by omega, by omega⟩
end
theorem short_pf {c : Nat} (h : zC c = true) : PF prog 133 [.int .i32 (c : Nat)] [] (.int .i32 0) := by
 have hc := qY h
 refine zW func133 rfl rfl rfl ?_
 intro w
 refine gg 133 ?_
 exact zV rfl rfl
theorem hex_ok (pb : Nat) (s : Sl) (C : VL) (hpk : PKS s C) (a : Nat) (ha : a ≤ s.n) (c m : Nat) (hc : c < 16 ^ m) (hm : 1 ≤ m) (hm8 : m ≤ 8) (hc2 : c ≤ 255) :
  Fn prog 134 [pV pb, .int .i32 (c : Nat), .int .i64 (m : Nat)] (PKB pb s a :: XH C [])
   (fun v H' => ∃ (a' : Nat) (ds : List Nat), v = .string (sb ds) ∧ H' = PKB pb s a' :: XH C [] ∧ a' ≤ s.n ∧ ds.length = m ∧ (∀ d ∈ ds, hexB d = true) ∧ hval ds = c) := by
 refine zo func134 rfl rfl rfl ?_
 intro w
 refine gg 8 ?_
 refine kL rfl rfl rfl (k1 := .i64) (k2 := .i64) (ln := m) (cp := m) rfl rfl (Nat.le_refl _) omT omT ?_
 intro b1
 refine gg 12 ?_
 refine zw (σ := Nat × Nat × List Nat × (Nat → Value)) (fun x => [(0, pV pb), (1, .int .i32 (x.2.1 : Nat)), (7, .slice (some ⟨b1, 0, none⟩) m m), (8, .int .i64 ((m : Int) - x.2.2.1.length - 1))]) (fun x => (b1, .row 5 (0, 0) m x.2.2.2) :: PKB pb s x.1 :: XH C []) (fun x => x.1 ≤ s.n ∧ x.2.2.1.length ≤ m ∧ (∀ d ∈ x.2.2.1, hexB d = true) ∧ (∀ k d, x.2.2.1[k]? = some d → x.2.2.2 (m - x.2.2.1.length + k) = .int .u8 (d : Nat)) ∧ x.2.1 * 16 ^ x.2.2.1.length + hval x.2.2.1 = c) (fun x => m - x.2.2.1.length) (a, c, [], _) ⟨ha, by simp, by simp, by simp, by simp [hval]⟩ (by rw [show ((m : Int) - ((a, c, ([] : List Nat), fun _ : Nat => Value.int .u8 0).2.2.1.length : Nat) - 1) = ((m - 1 : Nat) : Int) by simp; omega]; repeat (first | exact trivial | refine ⟨rfl, ?_⟩)) (Wk.refl _) ?_
 rintro ⟨a, q, ds, f⟩ ⟨ha, hdl, hdh, hdf, hv⟩
 dsimp only at ha hdl hdh hdf hv
 have hq : q ≤ c := by
  have h1 : q * 1 ≤ q * 16 ^ ds.length := Nat.mul_le_mul_left q (Nat.pow_pos omT)
  omega
 refine zt ((b1, .row 5 (0, 0) m f) :: PKB pb s a :: XH C []) [(0, pV pb), (1, .int .i32 (q : Nat)), (7, .slice (some ⟨b1, 0, none⟩) m m), (8, .int .i64 ((m : Int) - ds.length - 1))] rfl rfl (zd ?_)
 by_cases hlt : ds.length < m
 ·
  refine gg 20 ?_
  refine za rfl rfl rfl (qL pb s C hpk a 2 ha omT omT) ?_
  rintro _ _ ⟨a1, r, rfl, rfl, ha1, hr⟩
  refine lS ?_
  obtain ⟨d, hd1, hd2, hd3, hd4⟩ := hexLo_ok (q % 16) (Nat.mod_lt _ omT)
  obtain ⟨d', hd1', hd2', hd3', hd4'⟩ := hexHi_ok (q % 16) (Nat.mod_lt _ omT)
  have hnew : ∀ d, hexD d = q % 16 → q / 16 * 16 ^ (d :: ds).length + hval (d :: ds) = c := fun d hd => by
   rw [hval_cons, hd, List.length_cons, Nat.pow_succ, Nat.mul_comm (16 ^ ds.length) 16, ← Nat.mul_assoc, ← Nat.add_assoc, ← Nat.add_mul]
   have : q / 16 * 16 + q % 16 = q := by omega
   rw [this]
   exact hv
  have hcell : ∀ d k e, (d :: ds)[k]? = some e → (fun j => if j = m - ds.length - 1 then Value.int .u8 (d : Nat) else f j) (m - (d :: ds).length + k) = .int .u8 (e : Nat) := fun d k e hk => by
   have hkl := (List.getElem?_eq_some_iff.1 hk).1
   rw [List.length_cons] at hkl ⊢
   dsimp only
   cases k with
   | zero =>
     rw [if_pos omT]
     simp at hk
     rw [hk]
   | succ k =>
     rw [if_neg omT]
     have := hdf k e (by simpa using hk)
     rw [show m - (ds.length + 1) + (k + 1) = m - ds.length + k by omega]
     exact this
  by_cases h1 : r = 1
  ·
   refine gg 14 ?_
   refine sqz (q_remn (p := q) (q := 16) rfl rfl omT) (sqz (q_sbi (X := hexHi) (i := q % 16) (c := d') rfl rfl hd1' hd2') (sqz (zy (i := m - ds.length - 1) rfl rfl omT omT rfl) ?_))
   refine sln rfl (l_storer (m := m) (i := m - ds.length - 1) (by rw [Nat.zero_add, Nat.mul_one]; rfl) rfl rfl omT) ?_
   refine gg 4 ?_
   refine sqz (q_quo16 rfl rfl omT) (gg 6 ?_)
   refine sqz (qT rfl rfl omT omT) (sas ?_)
   refine ze ?_
   exact zh (a1, q / 16, d' :: ds, fun j => if j = m - ds.length - 1 then .int .u8 (d' : Nat) else f j) ⟨ha1, by simp; omega, fun e he => (by rcases List.mem_cons.1 he with rfl | he; (exact hd3'); (exact hdh e he)), hcell d', hnew d' hd4'⟩ (by simp; omega) (by rw [show (m : Int) - (d' :: ds).length - 1 = (m : Int) - ds.length - 1 - 1 by simp; omega]; repeat (first | exact trivial | refine ⟨rfl, ?_⟩)) (Wk.toT (XH C []) [b1, pb] wlT)
  ·
   refine gg 12 ?_
   refine sqz (q_remn (p := q) (q := 16) rfl rfl omT) (sqz (q_sbi (X := hexLo) (i := q % 16) (c := d) rfl rfl hd1 hd2) (sqz (zy (i := m - ds.length - 1) rfl rfl omT omT rfl) ?_))
   refine sln rfl (l_storer (m := m) (i := m - ds.length - 1) (by rw [Nat.zero_add, Nat.mul_one]; rfl) rfl rfl omT) ?_
   refine gg 4 ?_
   refine sqz (q_quo16 rfl rfl omT) (gg 6 ?_)
   refine sqz (qT rfl rfl omT omT) (sas ?_)
   refine ze ?_
   exact zh (a1, q / 16, d :: ds, fun j => if j = m - ds.length - 1 then .int .u8 (d : Nat) else f j) ⟨ha1, by simp; omega, fun e he => (by rcases List.mem_cons.1 he with rfl | he; (exact hd3); (exact hdh e he)), hcell d, hnew d hd4⟩ (by simp; omega) (by rw [show (m : Int) - (d :: ds).length - 1 = (m : Int) - ds.length - 1 - 1 by simp; omega]; repeat (first | exact trivial | refine ⟨rfl, ?_⟩)) (Wk.toT (XH C []) [b1, pb] wlT)
 ·
  refine gg 6 ?_
  have hdm : ds.length = m := by omega
  have hq0 : hval ds = c := by
   rcases Nat.eq_zero_or_pos q with h | h
   · rw [h] at hv; simpa using hv
   · have : 1 * 16 ^ m ≤ q * 16 ^ m := Nat.mul_le_mul_right _ h
     rw [hdm] at hv
     omega
  have hlt : ∀ d ∈ ds, d < 256 := fun d hd => by have := hexB_cases (hdh d hd); omega
  refine gg 9 ?_
  refine sqz (qw underlying23 underlying5 underlying9 rfl (bsrc_row (b := b1) (m := m) (f := f) (X := ds) hdm (Nat.le_refl _) hlt (fun j u h => by rw [bytes, List.getElem?_map] at h; cases hj : ds[j]? with | none => rw [hj] at h; cases h | some e => have := hdf j e hj; rw [hdm, Nat.sub_self, Nat.zero_add] at this; rw [this]; rw [hj] at h; exact Option.some.inj h))) ?_
  refine gg 4 ?_
  exact zm (H' := PKB pb s a :: XH C []) rfl rfl (Wk.toT (XH C []) [pb] wlT) ⟨a, ds, rfl, rfl, ha, hdm, hdh, hq0⟩
def EscT (c : Nat) (x : List Nat) : Prop := ∃ l n ds, ((l = 120 ∧ n = 2) ∨ (l = 117 ∧ n = 4) ∨ (l = 85 ∧ n = 8)) ∧ x = 92 :: l :: ds ∧ ds.length = n ∧ (∀ d ∈ ds, hexB d = true) ∧ hval ds = c
theorem escape_ok (pb : Nat) (s : Sl) (C : VL) (hpk : PKS s C) (a : Nat) (ha : a ≤ s.n) (c : Nat) (hc : zC c = true) :
  Fn prog 121 [pV pb, .int .i32 (c : Nat)] (PKB pb s a :: XH C [])
   (fun v H' => ∃ (a' : Nat) (x : List Nat), v = .string (sb x) ∧ H' = PKB pb s a' :: XH C [] ∧ a' ≤ s.n ∧ EscT c x ∧ x.length ≤ 10) := by
 have hb := ky hc
 refine zo func121 rfl rfl rfl ?_
 intro w
 refine gg 8 ?_
 refine za rfl rfl rfl (qL pb s C hpk a 4 ha omT omT) ?_
 rintro _ _ ⟨a1, r, rfl, rfl, ha1, hr⟩
 simp only [List.append_nil]
 refine gg 6 ?_
 refine sca (short_pf hc) ?_
 refine gg 5 ?_
 by_cases h0 : r = 0
 ·
  refine gg 28 ?_
  refine za rfl rfl rfl (hex_ok pb s C hpk a1 ha1 c 2 omT omT omT omT) ?_
  rintro _ _ ⟨a2, ds, rfl, rfl, ha2, hdl, hdh, hdv⟩
  simp only [List.append_nil]
  refine sqz (zT (X := [92, 120]) (Y := ds) rfl rfl lnZ) (gg 6 ?_)
  exact zm (H' := PKB pb s a2 :: XH C []) rfl rfl (Wk.refl _) ⟨a2, 92 :: 120 :: ds, rfl, rfl, ha2, ⟨120, 2, ds, .inl ⟨rfl, rfl⟩, rfl, hdl, hdh, hdv⟩, by simp; omega⟩
 ·
  refine gg 12 ?_
  by_cases h1 : r < 2
  ·
   refine gg 16 ?_
   refine za rfl rfl rfl (hex_ok pb s C hpk a1 ha1 c 2 omT omT omT omT) ?_
   rintro _ _ ⟨a2, ds, rfl, rfl, ha2, hdl, hdh, hdv⟩
   simp only [List.append_nil]
   refine sqz (zT (X := [92, 120]) (Y := ds) rfl rfl lnZ) (gg 6 ?_)
   exact zm (H' := PKB pb s a2 :: XH C []) rfl rfl (Wk.refl _) ⟨a2, 92 :: 120 :: ds, rfl, rfl, ha2, ⟨120, 2, ds, .inl ⟨rfl, rfl⟩, rfl, hdl, hdh, hdv⟩, by simp; omega⟩
  ·
   refine gg 12 ?_
   by_cases h2 : r < 3
   ·
    refine gg 16 ?_
    refine za rfl rfl rfl (hex_ok pb s C hpk a1 ha1 c 4 omT omT omT omT) ?_
    rintro _ _ ⟨a2, ds, rfl, rfl, ha2, hdl, hdh, hdv⟩
    simp only [List.append_nil]
    refine sqz (zT (X := [92, 117]) (Y := ds) rfl rfl lnZ) (gg 6 ?_)
    exact zm (H' := PKB pb s a2 :: XH C []) rfl rfl (Wk.refl _) ⟨a2, 92 :: 117 :: ds, rfl, rfl, ha2, ⟨117, 4, ds, .inr (.inl ⟨rfl, rfl⟩), rfl, hdl, hdh, hdv⟩, by simp; omega⟩
   ·
    refine gg 19 ?_
    refine za rfl rfl rfl (hex_ok pb s C hpk a1 ha1 c 8 omT omT omT omT) ?_
    rintro _ _ ⟨a2, ds, rfl, rfl, ha2, hdl, hdh, hdv⟩
    simp only [List.append_nil]
    refine sqz (zT (X := [92, 85]) (Y := ds) rfl rfl lnZ) (gg 4 ?_)
    exact zm (H' := PKB pb s a2 :: XH C []) rfl rfl (Wk.refl _) ⟨a2, 92 :: 85 :: ds, rfl, rfl, ha2, ⟨85, 8, ds, .inr (.inr ⟨rfl, rfl⟩), rfl, hdl, hdh, hdv⟩, by simp; omega⟩
theorem folded_ok (pb b cap : Nat) (X : List Nat) (hX : NameT X) :
  Fn prog 117 [pV pb, .slice (some ⟨b, 0, none⟩) X.length cap, .int .i64 (-1), zI, .int .i32 0] [RUB b cap X] (fun v H' => v = .string (sb X) ∧ H' = [RUB b cap X]) := by
 obtain ⟨h1, h8, hX⟩ := hX
 refine zo func117 rfl rfl rfl ?_
 intro w
 refine gg 17 ?_
 refine zw (σ := Nat) (fun x => [(0, pV pb), (1, .slice (some ⟨b, 0, none⟩) X.length cap), (2, .int .i64 (-1)), (3, zI), (4, .int .i32 0), (11, .string (sb (X.take x))), (12, .int .i64 (x : Nat))]) (fun _ => [RUB b cap X]) (fun x => x ≤ X.length) (fun x => X.length - x) 0 (Nat.zero_le _) suT (Wk.refl _) ?_
 intro i hi
 refine zd ?_
 by_cases hlt : i < X.length
 ·
  refine gg 8 ?_
  have g0 : X[i]? = some X[i] := List.getElem?_eq_getElem omT
  have a0 := ky (hX X[i] (List.getElem_mem _))
  have htk : X.take (i + 1) = X.take i ++ [X[i]] := by rw [List.take_add_one, g0]; rfl
  have htl : (X.take i).length ≤ 8 := by rw [List.length_take]; omega
  refine gg 9 ?_
  refine sca (feeds_pf (cap := cap) hX rfl hlt omT) ?_
  refine gg 16 ?_
  refine sca (lone_pf (cap := cap) hX rfl hlt omT) ?_
  refine gg 26 ?_
  refine sqz (zy (i := i) rfl rfl rfl omT rfl) (sqz (zQ rfl omT g0) (gg 10 ?_))
  refine sqz (zy (i := i) rfl rfl rfl omT rfl) (sqz (zQ rfl omT g0) (sqz (q_runes (c := X[i]) rfl underlying9 rfl omT) ?_))
  refine sqz (zT (X := X.take i) (Y := [X[i]]) rfl rfl (by simp only [List.length_cons, List.length_nil]; omega)) ?_
  refine gg 10 ?_
  exact zh (i + 1) omT omT (by rw [htk]; repeat (first | exact trivial | refine ⟨rfl, ?_⟩)) (Wk.refl _)
 ·
  refine gg 8 ?_
  obtain rfl : i = X.length := by omega
  rw [List.take_length]
  refine gg 13 ?_
  exact zm rfl rfl (Wk.refl _) ⟨rfl, rfl⟩
theorem plainText_ok (pb b cap : Nat) (X : List Nat) (hX : NameT X) :
  Fn prog 92 [pV pb, .slice (some ⟨b, 0, none⟩) X.length cap, .int .i64 (-1), zI] [RUB b cap X] (fun v H' => v = .string (sb X) ∧ H' = [RUB b cap X]) := by
 refine zo func92 rfl rfl rfl ?_
 intro w
 refine gg 11 ?_
 refine za rfl rfl rfl (folded_ok pb b cap X hX) ?_
 rintro _ _ ⟨rfl, rfl⟩
 simp only [List.append_nil]
 refine gg 4 ?_
 exact zm rfl rfl (Wk.refl _) ⟨rfl, rfl⟩
theorem DQb.app {v v' y y' : List Nat} (h : DQb v y) (h' : DQb v' y') : DQb (v ++ v') (y ++ y') := by
 induction h with
 | nil => exact h'
 | raw h _ ih => exact .raw h ih
 | @esc c n l v y ds hn hl hx hv hc _ ih =>
  have : 92 :: l :: (ds ++ y) ++ y' = 92 :: l :: (ds ++ (y ++ y')) := by simp
  rw [this]
  exact .esc hn hl hx hv hc ih
 | @brk k v y h _ ih =>
  have : 92 :: 10 :: (sps k ++ y) ++ y' = 92 :: 10 :: (sps k ++ (y ++ y')) := by simp
  rw [this]
  exact .brk h ih
theorem EscT.dqb {c : Nat} {x : List Nat} (h : EscT c x) (hc : zC c = true) : DQb [c] x := by
 obtain ⟨l, n, ds, hn, rfl, hl, hx, hv⟩ := h
 have := DQb.esc (v := []) (y := []) hn hl hx hv hc .nil
 simpa using this
theorem dqb_brk {k : Nat} (h : 1 ≤ k) : DQb [] (92 :: 10 :: sps k) := by
 have := DQb.brk (v := []) (y := []) h .nil
 simpa using this
theorem doubleText_ok (pb b cap : Nat) (X : List Nat) (hX : NameT X) (s : Sl) (C : VL) (hpk : PKS s C) (a : Nat) (ha : a ≤ s.n) :
  Fn prog 94 [pV pb, .slice (some ⟨b, 0, none⟩) X.length cap, .int .i64 (-1), zI] (RUB b cap X :: PKB pb s a :: XH C [])
   (fun v H' => ∃ (a' : Nat) (y : List Nat), v = .string (sb (34 :: (y ++ [34]))) ∧ H' = RUB b cap X :: PKB pb s a' :: XH C [] ∧ a' ≤ s.n ∧ DQb X y ∧ y.length ≤ 1000) := by
 obtain ⟨h1, h8, hX⟩ := hX
 refine zo func94 rfl rfl rfl ?_
 intro w
 refine gg 23 ?_
 refine zw (σ := Nat × Nat × Bool × List Nat) (fun x => [(0, pV pb), (1, .slice (some ⟨b, 0, none⟩) X.length cap), (2, .int .i64 (-1)), (3, zI), (9, .string (sb (34 :: x.2.2.2))), (10, .bool false), (11, .bool x.2.2.1), (12, .int .i64 (x.2.1 : Nat))]) (fun x => RUB b cap X :: PKB pb s x.1 :: XH C []) (fun x => x.1 ≤ s.n ∧ x.2.1 ≤ X.length ∧ DQb (X.take x.2.1) x.2.2.2 ∧ x.2.2.2.length ≤ 20 * x.2.1) (fun x => X.length - x.2.1) (a, 0, false, []) ⟨ha, Nat.zero_le _, .nil, by simp⟩ suT (Wk.refl _) ?_
 rintro ⟨a, i, tt, y⟩ ⟨ha, hi, hd, hyl⟩
 dsimp only at ha hi hd hyl
 refine zt (RUB b cap X :: PKB pb s a :: XH C []) [(0, pV pb), (1, .slice (some ⟨b, 0, none⟩) X.length cap), (2, .int .i64 (-1)), (3, zI), (9, .string (sb (34 :: y))), (10, .bool false), (11, .bool tt), (12, .int .i64 (i : Nat))] rfl rfl ?_
 refine zd ?_
 by_cases hlt : i < X.length
 ·
  refine gg 8 ?_
  have g0 : X[i]? = some X[i] := List.getElem?_eq_getElem omT
  have hal := hX X[i] (List.getElem_mem _)
  have a0 := ky hal
  have htk : X.take (i + 1) = X.take i ++ [X[i]] := by rw [List.take_add_one, g0]; rfl
  refine gg 9 ?_
  refine sca (key_pf) ?_
  refine snt ?_
  refine smv ?_
  rcases tt with _ | _
  ·
   refine gg 5 ?_
   refine za rfl rfl rfl (qL pb s C hpk a 16 ha omT omT) ?_
   rintro _ _ ⟨a1, r1, rfl, rfl, ha1, hr1⟩
   refine lS ?_
   by_cases h15 : r1 = 15
   ·
    refine gg 8 ?_
    refine sqz (zT (X := 34 :: y) (Y := [92]) rfl rfl lnZ) (sqz (zT (X := 34 :: y ++ [92]) (Y := [10]) rfl rfl lnZ) (smv ?_))
    refine sqz (q_addi (p := -1) (q := 1) rfl rfl omT omT) (sqz (q_max (t := 0) (r := ((1 : Nat) : Int)) rfl rfl rfl) (smv ?_))
    refine za rfl rfl rfl (qL pb s C hpk a1 4 ha1 omT omT) ?_
    rintro _ _ ⟨a2, r2, rfl, rfl, ha2, hr2⟩
    refine lS ?_
    refine sad ?_
    refine za rfl rfl rfl (scSpaces_ok (1 + r2) omT) ?_
    rintro _ _ ⟨rfl, rfl⟩
    simp only [List.nil_append]
    refine sqz (zT (X := 34 :: y ++ [92] ++ [10]) (Y := sps (1 + r2)) rfl rfl lnZ) (gg 12 ?_)
    refine sca (feeds_pf (cap := cap) hX rfl hlt omT) ?_
    refine gg 6 ?_
    refine sca (key_pf) ?_
    refine gg 33 ?_
    refine sqz (zy (i := i) rfl rfl rfl omT rfl) (sqz (zQ rfl omT g0) (gg 17 ?_))
    refine sqz (zy (i := i) rfl rfl rfl omT rfl) (sqz (zQ rfl omT g0) (sca (content_pf (c := X[i]) omT) ?_))
    refine gg 3 ?_
    refine sqz (zy (i := i) rfl rfl rfl omT rfl) (sqz (zQ rfl omT g0) (gg 5 ?_))
    refine sqz (zy (i := i) rfl rfl rfl omT rfl) (sqz (zQ rfl omT g0) (gg 7 ?_))
    refine sqz (zy (i := i) rfl rfl rfl omT rfl) (sqz (zQ rfl omT g0) (sca (qk (c := X[i]) omT) ?_))
    refine gg 5 ?_
    refine za rfl rfl rfl (qL pb s C hpk a2 4 ha2 omT omT) ?_
    rintro _ _ ⟨a3, r3, rfl, rfl, ha3, hr3⟩
    refine lS ?_
    by_cases h3 : r3 = 3
    ·
     refine gg 12 ?_
     refine sqz (zy (i := i) rfl rfl rfl omT rfl) (sqz (zQ rfl omT g0) (za rfl rfl rfl (escape_ok pb s C hpk a3 ha3 X[i] hal) ?_))
     rintro _ _ ⟨a4, x, rfl, rfl, ha4, hx, hxl⟩
     refine lS ?_
     refine sqz (zT (X := 34 :: y ++ [92] ++ [10] ++ sps (1 + r2)) (Y := x) rfl rfl lnZ) (gg 15 ?_)
     exact zh (a4, i + 1, false, y ++ ((92 :: 10 :: sps (1 + r2)) ++ x)) ⟨ha4, omT, (by rw [htk]; exact hd.app (DQb.app (v := []) (dqb_brk omT) (hx.dqb hal))), (by simp; omega)⟩ omT (by rw [show 34 :: y ++ [92] ++ [10] ++ sps (1 + r2) ++ x = 34 :: (y ++ ((92 :: 10 :: sps (1 + r2)) ++ x)) by simp]; repeat (first | exact trivial | refine ⟨rfl, ?_⟩)) (Wk.toT (XH C []) [b, pb] wlT)
    ·
     refine gg 11 ?_
     refine sqz (zy (i := i) rfl rfl rfl omT rfl) (sqz (zQ rfl omT g0) (sqz (q_runes (c := X[i]) rfl underlying9 rfl omT) (sqz (zT (X := 34 :: y ++ [92] ++ [10] ++ sps (1 + r2)) (Y := [X[i]]) rfl rfl lnZ) (gg 6 ?_))))
     refine sqz (zy (i := i) rfl rfl rfl omT rfl) (sqz (zQ rfl omT g0) (sca (qk (c := X[i]) omT) ?_))
     refine gg 11 ?_
     exact zh (a3, i + 1, false, y ++ ((92 :: 10 :: sps (1 + r2)) ++ [X[i]])) ⟨ha3, omT, (by rw [htk]; exact hd.app (DQb.app (v := []) (dqb_brk omT) (.raw hal .nil))), (by simp; omega)⟩ omT (by rw [show 34 :: y ++ [92] ++ [10] ++ sps (1 + r2) ++ [X[i]] = 34 :: (y ++ ((92 :: 10 :: sps (1 + r2)) ++ [X[i]])) by simp]; repeat (first | exact trivial | refine ⟨rfl, ?_⟩)) (Wk.toT (XH C []) [b, pb] wlT)
   ·
    refine gg 11 ?_
    refine sca (feeds_pf (cap := cap) hX rfl hlt omT) ?_
    refine gg 6 ?_
    refine sca (key_pf) ?_
    refine gg 33 ?_
    refine sqz (zy (i := i) rfl rfl rfl omT rfl) (sqz (zQ rfl omT g0) (gg 17 ?_))
    refine sqz (zy (i := i) rfl rfl rfl omT rfl) (sqz (zQ rfl omT g0) (sca (content_pf (c := X[i]) omT) ?_))
    refine gg 3 ?_
    refine sqz (zy (i := i) rfl rfl rfl omT rfl) (sqz (zQ rfl omT g0) (gg 5 ?_))
    refine sqz (zy (i := i) rfl rfl rfl omT rfl) (sqz (zQ rfl omT g0) (gg 15 ?_))
    refine za rfl rfl rfl (qL pb s C hpk a1 4 ha1 omT omT) ?_
    rintro _ _ ⟨a3, r3, rfl, rfl, ha3, hr3⟩
    refine lS ?_
    by_cases h3 : r3 = 3
    ·
     refine gg 12 ?_
     refine sqz (zy (i := i) rfl rfl rfl omT rfl) (sqz (zQ rfl omT g0) (za rfl rfl rfl (escape_ok pb s C hpk a3 ha3 X[i] hal) ?_))
     rintro _ _ ⟨a4, x, rfl, rfl, ha4, hx, hxl⟩
     refine lS ?_
     refine sqz (zT (X := 34 :: y) (Y := x) rfl rfl lnZ) (gg 15 ?_)
     exact zh (a4, i + 1, false, y ++ x) ⟨ha4, omT, (by rw [htk]; exact hd.app (hx.dqb hal)), (by simp; omega)⟩ omT (by rw [show 34 :: y ++ x = 34 :: (y ++ x) by simp]; repeat (first | exact trivial | refine ⟨rfl, ?_⟩)) (Wk.toT (XH C []) [b, pb] wlT)
    ·
     refine gg 11 ?_
     refine sqz (zy (i := i) rfl rfl rfl omT rfl) (sqz (zQ rfl omT g0) (sqz (q_runes (c := X[i]) rfl underlying9 rfl omT) (sqz (zT (X := 34 :: y) (Y := [X[i]]) rfl rfl lnZ) (gg 6 ?_))))
     refine sqz (zy (i := i) rfl rfl rfl omT rfl) (sqz (zQ rfl omT g0) (sca (qk (c := X[i]) omT) ?_))
     refine gg 11 ?_
     exact zh (a3, i + 1, false, y ++ [X[i]]) ⟨ha3, omT, (by rw [htk]; exact hd.app (.raw hal .nil)), (by simp; omega)⟩ omT (by rw [show 34 :: y ++ [X[i]] = 34 :: (y ++ [X[i]]) by simp]; repeat (first | exact trivial | refine ⟨rfl, ?_⟩)) (Wk.toT (XH C []) [b, pb] wlT)
  ·
   refine gg 17 ?_
   refine sca (feeds_pf (cap := cap) hX rfl hlt omT) ?_
   refine gg 6 ?_
   refine sca (key_pf) ?_
   refine gg 33 ?_
   refine sqz (zy (i := i) rfl rfl rfl omT rfl) (sqz (zQ rfl omT g0) (gg 17 ?_))
   refine sqz (zy (i := i) rfl rfl rfl omT rfl) (sqz (zQ rfl omT g0) (sca (content_pf (c := X[i]) omT) ?_))
   refine gg 3 ?_
   refine sqz (zy (i := i) rfl rfl rfl omT rfl) (sqz (zQ rfl omT g0) (gg 5 ?_))
   refine sqz (zy (i := i) rfl rfl rfl omT rfl) (sqz (zQ rfl omT g0) (gg 7 ?_))
   refine sqz (zy (i := i) rfl rfl rfl omT rfl) (sqz (zQ rfl omT g0) (sca (qk (c := X[i]) omT) ?_))
   refine gg 5 ?_
   refine za rfl rfl rfl (qL pb s C hpk a 4 ha omT omT) ?_
   rintro _ _ ⟨a3, r3, rfl, rfl, ha3, hr3⟩
   refine lS ?_
   by_cases h3 : r3 = 3
   ·
    refine gg 12 ?_
    refine sqz (zy (i := i) rfl rfl rfl omT rfl) (sqz (zQ rfl omT g0) (za rfl rfl rfl (escape_ok pb s C hpk a3 ha3 X[i] hal) ?_))
    rintro _ _ ⟨a4, x, rfl, rfl, ha4, hx, hxl⟩
    refine lS ?_
    refine sqz (zT (X := 34 :: y) (Y := x) rfl rfl lnZ) (gg 15 ?_)
    exact zh (a4, i + 1, false, y ++ x) ⟨ha4, omT, (by rw [htk]; exact hd.app (hx.dqb hal)), (by simp; omega)⟩ omT (by rw [show 34 :: y ++ x = 34 :: (y ++ x) by simp]; repeat (first | exact trivial | refine ⟨rfl, ?_⟩)) (Wk.toT (XH C []) [b, pb] wlT)
   ·
    refine gg 11 ?_
    refine sqz (zy (i := i) rfl rfl rfl omT rfl) (sqz (zQ rfl omT g0) (sqz (q_runes (c := X[i]) rfl underlying9 rfl omT) (sqz (zT (X := 34 :: y) (Y := [X[i]]) rfl rfl lnZ) (gg 6 ?_))))
    refine sqz (zy (i := i) rfl rfl rfl omT rfl) (sqz (zQ rfl omT g0) (sca (qk (c := X[i]) omT) ?_))
    refine gg 11 ?_
    exact zh (a3, i + 1, false, y ++ [X[i]]) ⟨ha3, omT, (by rw [htk]; exact hd.app (.raw hal .nil)), (by simp; omega)⟩ omT (by rw [show 34 :: y ++ [X[i]] = 34 :: (y ++ [X[i]]) by simp]; repeat (first | exact trivial | refine ⟨rfl, ?_⟩)) (Wk.toT (XH C []) [b, pb] wlT)
 ·
  refine gg 8 ?_
  obtain rfl : i = X.length := by omega
  rw [List.take_length] at hd
  refine gg 9 ?_
  refine sqz (zT (X := 34 :: y) (Y := [34]) rfl rfl lnZ) (gg 4 ?_)
  exact zm (H' := RUB b cap X :: PKB pb s a :: XH C []) rfl rfl (Wk.refl _) ⟨a, y, rfl, rfl, ha, hd, by omega⟩
def StyT (X : List Nat) (sty : Int) : Prop := (sty = 1 ∧ kT X = true) ∨ (sty = 3 ∧ kT X = false)
theorem wc {X : List Nat} {r : Bool} (h : kT X = r) (hX : NameT X) : Fn prog 55 [.string (sb X), .int .i64 1, zI] [] (fun v H' => v = .bool r ∧ H' = []) := h ▸ mayScalar1_ok hX
theorem present_ok (pb : Nat) (X : List Nat) (hX : NameT X) (sty : Int) (hs : StyT X sty) (s : Sl) (C : VL) (hpk : PKS s C) (a : Nat) (ha : a ≤ s.n) :
   Fn prog 63 [.string (sb X), .int .i64 sty, .int .i64 (-1), zI, pV pb] (PKB pb s a :: XH C [])
    (fun v H' => ∃ (a' : Nat) (x : List Nat), v = .tuple #[.string (sb x), .bool true] ∧ H' = PKB pb s a' :: XH C [] ∧ a' ≤ s.n ∧ SclT X x) := by
 rcases hs with ⟨rfl, hp⟩ | ⟨rfl, hp⟩
 · refine zo func63 rfl rfl rfl ?_
   intro w
   refine gg 12 ?_
   refine za rfl rfl rfl (wc hp hX) ?_
   rintro _ _ ⟨rfl, rfl⟩
   simp only [List.nil_append]
   refine gg 9 ?_
   refine za rfl rfl rfl (qU hX.2.2 hX.2.1) ?_
   rintro _ _ ⟨b, cap, rfl, rfl, hcap⟩
   refine lS ?_
   refine gg 10 ?_
   refine sqz (q_max (t := 0) (r := -1) rfl rfl rfl) (sqz (q_min (t := 0) (r := -1) rfl rfl rfl) (gg 42 ?_))
   refine za rfl rfl rfl (plainText_ok pb b cap X hX) ?_
   rintro _ _ ⟨rfl, rfl⟩
   refine lS ?_
   refine gg 7 ?_
   exact end2w (H' := PKB pb s a :: XH C []) rfl rfl rfl (Wk.toT (XH C []) [pb] wlT) ⟨a, X, rfl, rfl, ha, .inl ⟨hp, rfl⟩⟩
 · refine zo func63 rfl rfl rfl ?_
   intro w
   refine gg 12 ?_
   refine za rfl rfl rfl (mayScalar3_ok hX) ?_
   rintro _ _ ⟨rfl, rfl⟩
   simp only [List.nil_append]
   refine gg 9 ?_
   refine za rfl rfl rfl (qU hX.2.2 hX.2.1) ?_
   rintro _ _ ⟨b, cap, rfl, rfl, hcap⟩
   refine lS ?_
   refine gg 10 ?_
   refine sqz (q_max (t := 0) (r := -1) rfl rfl rfl) (sqz (q_min (t := 0) (r := -1) rfl rfl rfl) (gg 56 ?_))
   refine za rfl rfl rfl (doubleText_ok pb b cap X hX s C hpk a ha) ?_
   rintro _ _ ⟨a2, y, rfl, rfl, ha2, hd, hyl⟩
   simp only [List.append_nil]
   refine gg 7 ?_
   exact end2w (H' := PKB pb s a2 :: XH C []) rfl rfl rfl (Wk.toT (XH C []) [pb] wlT) ⟨a2, 34 :: (y ++ [34]), rfl, rfl, ha2, .inr ⟨hp, y, rfl, hd, hyl⟩⟩
theorem StyT.two {X : List Nat} {sty : Int} (h : StyT X sty) : sty = 1 ∨ sty = 3 := h.imp (·.1) (·.1)
theorem NameT.ne {X : List Nat} (h : NameT X) : X ≠ [] := fun e => by have := h.1; rw [e] at this; simp at this
theorem NameT.sne {X : List Nat} (h : NameT X) : sb X ≠ sb [] := fun e => by
 have := congrArg ByteArray.size e
 rw [kF, kF] at this
 exact h.ne (List.eq_nil_of_length_eq_zero this)
theorem node_ok (sc pb : Nat) (hh pp : Sl) (X : List Nat) (hX : NameT X) (sty : Int) (hs : StyT X sty) (s : Sl) (C : VL) (hpk : PKS s C) (a : Nat) (ha : a ≤ s.n) :
  Fn prog 49 [pV sc, .agg (TR X sty).toArray, .int .i64 (-1), zI] (SCB sc pb hh pp :: PKB pb s a :: XH C [])
   (fun v H' => ∃ (a' : Nat) (x : List Nat), v = .tuple #[.string (sb x), .bool true] ∧ H' = SCB sc pb hh pp :: PKB pb s a' :: XH C [] ∧ a' ≤ s.n ∧ SclT X x) := by
 have h2 := hs.two
 refine zo func49 rfl rfl rfl ?_
 intro w
 refine zd (zi (ku rfl rfl rfl clT ?_))
 intro bx
 refine gg 32 ?_
 rcases h2 with h1 | h1
 ·
  refine gg 8 ?_
  refine sqz (q_sne (q := sb []) rfl rfl (decide_eq_true hX.sne)) (gg 5 ?_)
  refine ke (fun i => i == 10) (fun _ => false) ([]) zF ?_
  refine mq 0 rfl kR rfl rfl (zM rfl) ?_
  refine mq 1 rfl kR rfl rfl (zp rfl rfl rfl rfl) ?_
  refine mq 2 rfl kR rfl rfl (zM rfl) ?_
  refine mq 3 rfl kR rfl rfl (zp rfl rfl rfl rfl) ?_
  refine mq 4 rfl kR rfl rfl (zj rfl) ?_
  refine mq 5 rfl kR rfl rfl (zj rfl) ?_
  refine mq 6 rfl kR rfl rfl (zj rfl) ?_
  refine mq 7 rfl kR rfl rfl (zJ rfl) ?_
  refine mq 8 rfl kR rfl rfl (zM rfl) ?_
  refine mq 9 rfl kR rfl rfl (zp rfl rfl rfl rfl) ?_
  refine mql 10 rfl kR (fun hcl => ?_)
  refine za rfl rfl rfl (present_ok pb X hX sty hs s C hpk a ha) ?_
  rintro _ _ ⟨a2, x, rfl, rfl, ha2, hx⟩
  have hxl := (hx.le hX).1
  refine lS ?_
  refine mqn 10 hcl (mq 11 rfl kR rfl rfl (zj rfl) ?_)
  refine mq 12 rfl kR rfl rfl (kY rfl rfl) ?_
  refine mq 13 rfl kR rfl rfl (kY rfl rfl) ?_
  refine mq 14 rfl kR rfl rfl (kB rfl) ?_
  refine mq 15 rfl kR rfl rfl (kB rfl) ?_
  refine qJ kR (gg 5 ?_)
  refine sqz (zG (l := TR X sty) rfl rfl rfl kR) (za rfl rfl rfl (props_ok sc pb hh pp s C a2 X sty) ?_)
  rintro _ _ ⟨rfl, rfl⟩
  refine lS ?_
  refine gg 7 ?_
  refine sqz (q_sne (q := sb []) rfl rfl (decide_eq_false (by simp))) ?_
  refine gg 13 ?_
  refine sqz (zT (X := []) (Y := x) rfl rfl lnZ) (gg 6 ?_)
  exact end2w (H' := SCB sc pb hh pp :: PKB pb s a2 :: XH C []) rfl rfl rfl (Wk.toT (XH C []) [sc, pb] wlT) ⟨a2, x, rfl, rfl, ha2, hx⟩
 ·
  refine gg 14 ?_
  refine ke (fun i => i == 10) (fun _ => false) ([]) zF ?_
  refine mq 0 rfl kR rfl rfl (zM rfl) ?_
  refine mq 1 rfl kR rfl rfl (zp rfl rfl rfl rfl) ?_
  refine mq 2 rfl kR rfl rfl (zM rfl) ?_
  refine mq 3 rfl kR rfl rfl (zp rfl rfl rfl rfl) ?_
  refine mq 4 rfl kR rfl rfl (zj rfl) ?_
  refine mq 5 rfl kR rfl rfl (zj rfl) ?_
  refine mq 6 rfl kR rfl rfl (zj rfl) ?_
  refine mq 7 rfl kR rfl rfl (zJ rfl) ?_
  refine mq 8 rfl kR rfl rfl (zM rfl) ?_
  refine mq 9 rfl kR rfl rfl (zp rfl rfl rfl rfl) ?_
  refine mql 10 rfl kR (fun hcl => ?_)
  refine za rfl rfl rfl (present_ok pb X hX sty hs s C hpk a ha) ?_
  rintro _ _ ⟨a2, x, rfl, rfl, ha2, hx⟩
  have hxl := (hx.le hX).1
  refine lS ?_
  refine mqn 10 hcl (mq 11 rfl kR rfl rfl (zj rfl) ?_)
  refine mq 12 rfl kR rfl rfl (kY rfl rfl) ?_
  refine mq 13 rfl kR rfl rfl (kY rfl rfl) ?_
  refine mq 14 rfl kR rfl rfl (kB rfl) ?_
  refine mq 15 rfl kR rfl rfl (kB rfl) ?_
  refine qJ kR (gg 5 ?_)
  refine sqz (zG (l := TR X sty) rfl rfl rfl kR) (za rfl rfl rfl (props_ok sc pb hh pp s C a2 X sty) ?_)
  rintro _ _ ⟨rfl, rfl⟩
  refine lS ?_
  refine gg 7 ?_
  refine sqz (q_sne (q := sb []) rfl rfl (decide_eq_false (by simp))) ?_
  refine gg 13 ?_
  refine sqz (zT (X := []) (Y := x) rfl rfl lnZ) (gg 6 ?_)
  exact end2w (H' := SCB sc pb hh pp :: PKB pb s a2 :: XH C []) rfl rfl rfl (Wk.toT (XH C []) [sc, pb] wlT) ⟨a2, x, rfl, rfl, ha2, hx⟩
theorem behind_ok (sc pb : Nat) (hh pp : Sl) (X : List Nat) (hX : NameT X) (sty : Int) (hs : StyT X sty) (s : Sl) (C : VL) (hpk : PKS s C) (a : Nat) (ha : a ≤ s.n) :
  Fn prog 47 [pV sc, .agg (TR X sty).toArray, .int .i64 (-1), zI, .int .i64 (-1)] (SCB sc pb hh pp :: PKB pb s a :: XH C [])
   (fun v H' => ∃ (a' : Nat) (l x e : List Nat), v = .string (sb (l ++ (x ++ e))) ∧ H' = SCB sc pb hh pp :: PKB pb s a' :: XH C [] ∧ a' ≤ s.n ∧ LeadT l ∧ SclT X x ∧ EndT e) := by
 have h2 := hs.two
 refine zo func47 rfl rfl rfl ?_
 intro w
 refine zd (zi (ku rfl rfl rfl clT ?_))
 intro bx
 refine gg 6 ?_
 refine sqz (zG (l := TR X sty) rfl rfl rfl kR) (za rfl rfl rfl (void_ok X sty h2 hX.ne) ?_)
 rintro _ _ ⟨rfl, rfl⟩
 simp only [List.nil_append]
 refine gg 8 ?_
 refine sqz (zG (l := TR X sty) rfl rfl rfl kR) (za rfl rfl rfl (block_ok X sty) ?_)
 rintro _ _ ⟨rfl, rfl⟩
 simp only [List.nil_append]
 refine gg 10 ?_
 refine za rfl rfl rfl (qQ pb s C hpk a 1 2 ha omT omT) ?_
 rintro _ _ ⟨a1, k, rfl, rfl, ha1, hk1, hk2⟩
 refine lS ?_
 refine gg 12 ?_
 refine za rfl rfl rfl (endsl_ok sty h2) ?_
 rintro _ _ ⟨rfl, rfl⟩
 simp only [List.nil_append]
 refine gg 7 ?_
 refine za rfl rfl rfl (qL pb s C hpk a1 4 ha1 omT omT) ?_
 rintro _ _ ⟨a2, r, rfl, rfl, ha2, hr⟩
 refine lS ?_
 by_cases h3 : r = 3
 ·
  refine gg 5 ?_
  refine ke (fun i => i == 1 || i == 3 || i == 11) (fun _ => false) ([SCB sc pb hh pp]) zF ?_
  refine mq 0 rfl kR rfl rfl (zj rfl) ?_
  refine mqh 2 rfl kR rfl rfl (fun _ => zj rfl) ?_
  refine mqh 5 rfl kR rfl rfl (fun _ => zj rfl) ?_
  refine mqh 6 rfl kR rfl rfl (fun _ => zJ rfl) ?_
  refine mqh 7 rfl kR rfl rfl (fun _ => zM rfl) ?_
  refine mqh 8 rfl kR rfl rfl (fun _ => zp rfl rfl rfl rfl) ?_
  refine mqh 9 rfl kR rfl rfl (fun _ => zj rfl) ?_
  refine mqh 10 rfl kR rfl rfl (fun _ => q_addi (p := -1) (q := 1) rfl rfl omT omT) ?_
  refine mql 1 rfl kR (fun hcl => ?_)
  refine za rfl rfl rfl (end_ok sc pb hh pp s C hpk a2 ha2) ?_
  rintro _ _ ⟨a3, e, rfl, rfl, ha3, he⟩
  have hel := he.line.le.1
  refine lS ?_
  refine mqn 1 hcl ?_
  refine mql 3 rfl kR (fun hcl => ?_)
  refine za rfl rfl rfl (lines_ok sc pb hh pp s C hpk a3 ha3) ?_
  rintro _ _ ⟨a4, ls, rfl, rfl, ha4, hls⟩
  have hll := hls.le.1
  refine lS ?_
  refine mqn 3 hcl ?_
  refine mqh 4 rfl kR rfl rfl (fun _ => zT (X := e) (Y := ls) rfl rfl lnZ) ?_
  refine mql 11 rfl kR (fun hcl => ?_)
  refine za rfl rfl rfl (qQ pb s C hpk a4 0 2 ha4 omT omT) ?_
  rintro _ _ ⟨a5, k2, rfl, rfl, ha5, hk3, hk4⟩
  refine lS ?_
  refine mqn 11 hcl (mq 12 rfl kR rfl rfl (zT (X := e ++ ls) (Y := sps k2) rfl rfl lnZ) ?_)
  refine mq 13 rfl kR rfl rfl (kB rfl) ?_
  refine qJ kR (gg 21 ?_)
  refine sqz (zG (l := TR X sty) rfl rfl rfl kR) (smv ?_)
  refine smv ?_
  refine za rfl rfl rfl (node_ok sc pb hh pp X hX sty hs s C hpk a5 ha5) ?_
  rintro _ _ ⟨a6, x, rfl, rfl, ha6, hx⟩
  have hxl := (hx.le hX).1
  refine lS ?_
  refine gg 11 ?_
  refine sqz (zG (l := TR X sty) rfl rfl rfl kR) (smv ?_)
  refine za rfl rfl rfl (finish_ok sc pb hh pp s C hpk a6 ha6 X sty h2 x omT) ?_
  rintro _ _ ⟨a7, e2, rfl, rfl, ha7, he2⟩
  have hel2 := he2.line.le.1
  refine lS ?_
  refine sqz (zT (X := e ++ ls ++ sps k2) (Y := x ++ e2) rfl rfl lnZ) (gg 5 ?_)
  exact zm (H' := SCB sc pb hh pp :: PKB pb s a7 :: XH C []) rfl rfl (Wk.toT (XH C []) [sc, pb] wlT) ⟨a7, e ++ (ls ++ sps k2), x, e2, by simp only [List.append_assoc], rfl, ha7, .inr ⟨e, ls, k2, he, hls, by omega, rfl⟩, hx, he2⟩
 ·
  refine gg 27 ?_
  refine sqz (zG (l := TR X sty) rfl rfl rfl kR) (smv ?_)
  refine smv ?_
  refine za rfl rfl rfl (node_ok sc pb hh pp X hX sty hs s C hpk a2 ha2) ?_
  rintro _ _ ⟨a6, x, rfl, rfl, ha6, hx⟩
  have hxl := (hx.le hX).1
  refine lS ?_
  refine gg 11 ?_
  refine sqz (zG (l := TR X sty) rfl rfl rfl kR) (smv ?_)
  refine za rfl rfl rfl (finish_ok sc pb hh pp s C hpk a6 ha6 X sty h2 x omT) ?_
  rintro _ _ ⟨a7, e2, rfl, rfl, ha7, he2⟩
  have hel2 := he2.line.le.1
  refine lS ?_
  refine sqz (zT (X := sps k) (Y := x ++ e2) rfl rfl lnZ) (gg 5 ?_)
  exact zm (H' := SCB sc pb hh pp :: PKB pb s a7 :: XH C []) rfl rfl (Wk.toT (XH C []) [sc, pb] wlT) ⟨a7, sps k, x, e2, rfl, rfl, ha7, .inl ⟨k, by omega, by omega, rfl⟩, hx, he2⟩
end Go.Proofs.YtnfbcfflkphbiaaGreatDoor
