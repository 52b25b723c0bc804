/-
  Texts of the proof, joined: B0. No Go text.
-/
import Derived.Test.YtnfbcfflkphbiaaGreatDoorA01
import Derived.Test.YtnfbcfflkphbiaaGreatDoorA06
import Derived.Test.YtnfbcfflkphbiaaGreatDoorA03
import Derived.KernelRfl
namespace Go.Proofs.YtnfbcfflkphbiaaGreatDoor
open Go Go.Proofs Tryz
set_option linter.all false
set_option maxRecDepth 100000
set_option maxHeartbeats 8000000
def at_ (T : List Nat) (i : Nat) : Nat := T.getD i 0
def bf (T : List Nat) (q pos : Nat) : Nat → Value := fun k => .int .u8 ((at_ T (q + (k - pos)) : Nat) : Int)
theorem bf0 {T : List Nat} {q pos : Nat} : bf T q pos pos = .int .u8 ((at_ T q : Nat) : Int) := by simp [bf]
theorem bp0 {T : List Nat} {q pos : Nat} (h : pos ≤ q) : bf T (q - pos) 0 pos = .int .u8 ((at_ T q : Nat) : Int) := by simp [bf, Nat.sub_add_cancel h]
theorem bpk {T : List Nat} {q pos j : Nat} (h : pos ≤ q) : bf T (q - pos) 0 (pos + j) = .int .u8 ((at_ T (q + j) : Nat) : Int) := by
 simp only [bf, Nat.sub_zero]
 rw [show q - pos + (pos + j) = q + j by omega]
def zH (T : List Nat) : Nat → Nat
 | 0 => 0
 | q + 1 => if at_ T q = 10 then 0 else zH T q + 1
def lnT (T : List Nat) : Nat → Nat
 | 0 => 0
 | q + 1 => if at_ T q = 10 then lnT T q + 1 else lnT T q
theorem colT_le (T : List Nat) : ∀ q, zH T q ≤ q
 | 0 => Nat.le_refl _
 | q + 1 => by have := colT_le T q; rw [zH]; split <;> omega
theorem lnT_le (T : List Nat) : ∀ q, lnT T q ≤ q
 | 0 => Nat.le_refl _
 | q + 1 => by have := lnT_le T q; rw [lnT]; split <;> omega
theorem wn {T : List Nat} {q : Nat} (h : at_ T q ≠ 10) : zH T (q + 1) = zH T q + 1 := by rw [zH, if_neg h]
theorem lnT_one {T : List Nat} {q : Nat} (h : at_ T q ≠ 10) : lnT T (q + 1) = lnT T q := by rw [lnT, if_neg h]
theorem colT_nl {T : List Nat} {q : Nat} (h : at_ T q = 10) : zH T (q + 1) = 0 := by rw [zH, if_pos h]
theorem lnT_nl {T : List Nat} {q : Nat} (h : at_ T q = 10) : lnT T (q + 1) = lnT T q + 1 := by rw [lnT, if_pos h]
structure Lay where
 p : Nat
 bb : Nat
 rb : Nat
 ib : Nat
 isz : Nat
 icap : Nat
 ig : Nat → Value
 eo : Obj
 ev : Value
structure RS where
 ipos : Nat
 eof : Bool
 blen : Nat
 pos : Nat
 un : Nat
 rlen : Nat
 rpos : Nat
 enc : Nat
 off : Nat
structure PS where
 r : RS
 q : Nat
 nl : Nat
 head : Sl
 line : Sl
 foot : Sl
 tail : Sl
 stem : Sl
 com : Sl
 comh : Nat
 ssp : Bool
 sep : Bool
 flow : Nat
 tok : Sl
 th : Nat
 tp : Nat
 ta : Bool
 ind : Int
 indv : Sl
 ska : Bool
 skv : Sl
 skm : Option Nat
 st : Nat
 stv : Sl
 mkv : Sl
 tdv : Sl
def qp (L : Lay) (T : List Nat) (s : PS) : List Value :=
 [zI, .string ⟨#[]⟩, zI, zI, zI, zI, zI, .string ⟨#[]⟩, zI, zI, zI,
  .func (.func 72) #[] #[], .nilIface, .slice (some ⟨L.ib, 0, none⟩) T.length L.icap, .int .i64 s.r.ipos, .bool s.r.eof,
  .slice (some ⟨L.bb, 0, none⟩) s.r.blen 1536, .int .i64 s.r.pos, .int .i64 s.r.un, .int .i64 s.nl,
  .slice (some ⟨L.rb, 0, none⟩) s.r.rlen 512, .int .i64 s.r.rpos, .int .i64 s.r.enc, .int .i64 s.r.off,
  .int .i64 s.q, .int .i64 (lnT T s.q), .int .i64 (zH T s.q),
  s.head.v, s.line.v, s.foot.v, s.tail.v, s.stem.v, s.com.v, .int .i64 s.comh, .bool s.ssp, .bool s.sep, .int .i64 s.flow,
  s.tok.v, .int .i64 s.th, .int .i64 s.tp, .bool s.ta, .int .i64 s.ind, s.indv.v, .bool s.ska, s.skv.v, .map s.skm, .int .i64 s.st, s.stv.v, s.mkv.v, s.tdv.v, zS, .pointer none]
abbrev PB (L : Lay) (T : List Nat) (s : PS) : Nat × Blk := (L.p, .cs 75 (qp L T s) [])
abbrev BB (L : Lay) (T : List Nat) (s : PS) : Nat × Blk := (L.bb, .win 5 1536 0 s.r.blen (bf T (s.q - s.r.pos) 0))
abbrev RB (L : Lay) (T : List Nat) (s : PS) : Nat × Blk := (L.rb, .win 5 512 s.r.rpos s.r.rlen (bf T s.r.off s.r.rpos))
def inF (T : List Nat) (g : Nat → Value) : Nat → Value := fun j => if j < T.length then .int .u8 ((at_ T j : Nat) : Int) else g j
abbrev IB (L : Lay) (T : List Nat) : Nat × Blk := (L.ib, .row 5 (L.isz, L.isz + 1) L.isz (inF T L.ig))
abbrev GE (L : Lay) : Nat × Blk := (0, .raw L.eo)
structure Inv (L : Lay) (T : List Nat) (s : PS) : Prop where
 small : T.length ≤ 1000000000
 asc : ∀ c ∈ T, c = 10 ∨ (32 ≤ c ∧ c ≤ 126)
 icap : T.length ≤ L.icap ∧ L.icap ≤ L.isz
 qlen : s.q ≤ T.length
 nlq : s.nl ≤ s.q
 pq : s.r.pos ≤ s.q
 pbl : s.r.pos + s.r.un ≤ s.r.blen
 slack : s.r.blen ≤ s.r.pos + s.r.un + 511
 bl : s.r.blen ≤ 1536
 unl : s.r.un ≤ 1024
 rp : s.r.rpos ≤ s.r.rlen
 rl : s.r.rlen ≤ 512
 offl : s.r.off ≤ T.length
 ip : s.r.ipos = s.r.off + (s.r.rlen - s.r.rpos)
 ipl : s.r.ipos ≤ T.length
 eofi : s.r.eof = true → s.r.ipos = T.length
 enc : s.r.enc = 1
 end_ : (s.q + s.r.un = s.r.off ∧ s.r.blen = s.r.pos + s.r.un) ∨ (s.r.off = T.length ∧ s.r.eof = true ∧ s.r.rpos = s.r.rlen ∧ T.length < s.q + s.r.un)
theorem at_mem {T : List Nat} {i : Nat} (h : i < T.length) : at_ T i ∈ T := by
 unfold at_
 rw [List.getD_eq_getElem?_getD, List.getElem?_eq_getElem h]
 exact List.getElem_mem h
theorem qS {T : List Nat} {i : Nat} (h : T.length ≤ i) : at_ T i = 0 := by
 unfold at_
 rw [List.getD_eq_getElem?_getD, List.getElem?_eq_none h]
 rfl
theorem asc128 {T : List Nat} (h : ∀ c ∈ T, c = 10 ∨ (32 ≤ c ∧ c ≤ 126)) (i : Nat) : at_ T i < 128 := by
 by_cases hi : i < T.length
 · rcases h _ (at_mem hi) with e | e <;> omega
 · rw [qS omT]; omega
theorem Inv.lt128 {L : Lay} {T : List Nat} {s : PS} (h : Inv L T s) (i : Nat) : at_ T i < 128 := asc128 h.asc i
theorem wa {T : List Nat} {q pos : Nat} {k : Nat} : bf T (q + k - (pos + k)) 0 = bf T (q - pos) 0 := by rw [Nat.add_sub_add_right]
theorem and_128 : ∀ c : Nat, c < 128 → IntKind.u8.wrap ((BitVec.ofInt 8 (c : Int) &&& BitVec.ofInt 8 128).toNat : Int) = 0 := by decide +kernel
def kj (c : Nat) : Bool := decide (c = 32 ∨ c = 9)
def qo (c : Nat) : Bool := decide (c = 13 ∨ c = 10)
def kE (c : Nat) : Bool := decide (c = 13 ∨ c = 10 ∨ c = 0)
def zK (c : Nat) : Bool := decide (c = 32 ∨ c = 9 ∨ c = 13 ∨ c = 10 ∨ c = 0)
def zB (c : Nat) : Bool := decide (c = 0)
def digitB (c : Nat) : Bool := decide (48 ≤ c ∧ c ≤ 57)
def zC (c : Nat) : Bool := decide (48 ≤ c ∧ c ≤ 57 ∨ 65 ≤ c ∧ c ≤ 90 ∨ 97 ≤ c ∧ c ≤ 122 ∨ c = 95 ∨ c = 45)
def hexB (c : Nat) : Bool := decide (48 ≤ c ∧ c ≤ 57 ∨ 65 ≤ c ∧ c ≤ 70 ∨ 97 ≤ c ∧ c ≤ 102)
section
variable {bb n m sz lo hi i c : Nat} {f : Nat → Value}
theorem is_blank_pf {b : Bool} (h0 : lo ≤ i) (h1 : i < hi) (h2 : i < n) (hc : f i = .int .u8 ((c : Nat) : Int)) (ha : c < 128) (hb : kj c = b) :
  PF prog 159 [.slice (some ⟨bb, 0, none⟩) n m, .int .i64 (i : Int)] [(bb, .win 5 sz lo hi f)] (.bool b) := by
 by_cases g0 : c = 32
 ·
  obtain rfl : b = true := by rw [← hb]; simp [kj]; omega
  refine zW func159 rfl rfl rfl ?_
  intro w
  refine zd ?_
  refine zi ?_
  refine sas ?_
  refine ze ?_
  refine zf ?_
  refine zd ?_
  refine zi ?_
  refine smv ?_
  refine smv ?_
  refine six ?_
  refine zx hc rfl ?_
  refine seq1 ?_
  refine smv ?_
  first | refine ka 5 rfl ?_ | iterate 5 refine sun ?_
  refine spt ?_
  refine sas ?_
  refine ze ?_
  refine zf ?_
  refine km ?_
  exact zV rfl rfl
 by_cases g1 : c = 9
 ·
  obtain rfl : b = true := by rw [← hb]; simp [kj]; omega
  refine zW func159 rfl rfl rfl ?_
  intro w
  refine zd ?_
  refine zi ?_
  refine sas ?_
  refine ze ?_
  refine zf ?_
  refine zd ?_
  refine zi ?_
  refine smv ?_
  refine smv ?_
  refine six ?_
  refine zx hc rfl ?_
  refine kz ?_
  refine smv ?_
  refine smv ?_
  refine smv ?_
  refine six ?_
  refine zx hc rfl ?_
  refine seq1 ?_
  refine spf ?_
  refine sas ?_
  refine ze ?_
  refine zf ?_
  refine km ?_
  exact zV rfl rfl
 obtain rfl : b = false := by rw [← hb]; simp [kj]; omega
 refine zW func159 rfl rfl rfl ?_
 intro w
 refine zd ?_
 refine zi ?_
 refine sas ?_
 refine ze ?_
 refine zf ?_
 refine zd ?_
 refine zi ?_
 refine smv ?_
 refine smv ?_
 refine six ?_
 refine zx hc rfl ?_
 refine kz ?_
 refine smv ?_
 refine smv ?_
 refine smv ?_
 refine six ?_
 refine zx hc rfl ?_
 refine kz ?_
 refine spf ?_
 refine sas ?_
 refine ze ?_
 refine zf ?_
 refine km ?_
 exact zV rfl rfl
theorem is_break_pf {b : Bool} (h0 : lo ≤ i) (h1 : i < hi) (h2 : i < n) (hc : f i = .int .u8 ((c : Nat) : Int)) (ha : c < 128) (hb : qo c = b) :
  PF prog 167 [.slice (some ⟨bb, 0, none⟩) n m, .int .i64 (i : Int)] [(bb, .win 5 sz lo hi f)] (.bool b) := by
 by_cases g0 : c = 13
 ·
  obtain rfl : b = true := by rw [← hb]; simp [qo]; omega
  refine zW func167 rfl rfl rfl ?_
  intro w
  refine zd ?_
  refine zi ?_
  refine sas ?_
  refine ze ?_
  refine zf ?_
  refine zd ?_
  refine zi ?_
  dsimp only [List.append]
  refine smv ?_
  refine smv ?_
  refine six ?_
  refine zx hc rfl ?_
  refine seq1 ?_
  refine smv ?_
  first | refine ka 5 rfl ?_ | iterate 5 refine sun ?_
  refine spt ?_
  refine smv ?_
  first | refine ka 5 rfl ?_ | iterate 5 refine sun ?_
  refine sun ?_
  refine sun ?_
  refine sun ?_
  refine sun ?_
  refine sun ?_
  refine sun ?_
  refine sun ?_
  refine sun ?_
  refine spt ?_
  refine smv ?_
  first | refine ka 5 rfl ?_ | iterate 5 refine sun ?_
  refine sun ?_
  refine sun ?_
  refine sun ?_
  refine sun ?_
  refine sun ?_
  refine sun ?_
  refine sun ?_
  refine sun ?_
  refine sun ?_
  refine sun ?_
  refine sun ?_
  refine sun ?_
  refine sun ?_
  refine sun ?_
  refine sun ?_
  refine sun ?_
  refine spt ?_
  refine smv ?_
  first | refine ka 5 rfl ?_ | iterate 5 refine sun ?_
  refine sun ?_
  refine sun ?_
  refine sun ?_
  refine sun ?_
  refine sun ?_
  refine sun ?_
  refine sun ?_
  refine sun ?_
  refine sun ?_
  refine sun ?_
  refine sun ?_
  refine sun ?_
  refine sun ?_
  refine sun ?_
  refine sun ?_
  refine sun ?_
  refine spt ?_
  refine sas ?_
  refine ze ?_
  refine zf ?_
  refine km ?_
  exact zV rfl rfl
 by_cases g1 : c = 10
 ·
  obtain rfl : b = true := by rw [← hb]; simp [qo]; omega
  refine zW func167 rfl rfl rfl ?_
  intro w
  refine zd ?_
  refine zi ?_
  refine sas ?_
  refine ze ?_
  refine zf ?_
  refine zd ?_
  refine zi ?_
  dsimp only [List.append]
  refine smv ?_
  refine smv ?_
  refine six ?_
  refine zx hc rfl ?_
  refine kz ?_
  refine smv ?_
  refine smv ?_
  refine smv ?_
  refine six ?_
  refine zx hc rfl ?_
  refine seq1 ?_
  refine spf ?_
  refine smv ?_
  first | refine ka 5 rfl ?_ | iterate 5 refine sun ?_
  refine sun ?_
  refine sun ?_
  refine sun ?_
  refine sun ?_
  refine sun ?_
  refine sun ?_
  refine sun ?_
  refine sun ?_
  refine spt ?_
  refine smv ?_
  first | refine ka 5 rfl ?_ | iterate 5 refine sun ?_
  refine sun ?_
  refine sun ?_
  refine sun ?_
  refine sun ?_
  refine sun ?_
  refine sun ?_
  refine sun ?_
  refine sun ?_
  refine sun ?_
  refine sun ?_
  refine sun ?_
  refine sun ?_
  refine sun ?_
  refine sun ?_
  refine sun ?_
  refine sun ?_
  refine spt ?_
  refine smv ?_
  first | refine ka 5 rfl ?_ | iterate 5 refine sun ?_
  refine sun ?_
  refine sun ?_
  refine sun ?_
  refine sun ?_
  refine sun ?_
  refine sun ?_
  refine sun ?_
  refine sun ?_
  refine sun ?_
  refine sun ?_
  refine sun ?_
  refine sun ?_
  refine sun ?_
  refine sun ?_
  refine sun ?_
  refine sun ?_
  refine spt ?_
  refine sas ?_
  refine ze ?_
  refine zf ?_
  refine km ?_
  exact zV rfl rfl
 obtain rfl : b = false := by rw [← hb]; simp [qo]; omega
 refine zW func167 rfl rfl rfl ?_
 intro w
 refine zd ?_
 refine zi ?_
 refine sas ?_
 refine ze ?_
 refine zf ?_
 refine zd ?_
 refine zi ?_
 dsimp only [List.append]
 refine smv ?_
 refine smv ?_
 refine six ?_
 refine zx hc rfl ?_
 refine kz ?_
 refine smv ?_
 refine smv ?_
 refine smv ?_
 refine six ?_
 refine zx hc rfl ?_
 refine kz ?_
 refine spf ?_
 refine smv ?_
 refine smv ?_
 refine smv ?_
 refine six ?_
 refine zx hc rfl ?_
 refine kz ?_
 refine smv ?_
 first | refine ka 6 rfl ?_ | iterate 6 refine sun ?_
 refine spf ?_
 refine spf ?_
 refine smv ?_
 refine smv ?_
 refine smv ?_
 refine six ?_
 refine zx hc rfl ?_
 refine kz ?_
 refine smv ?_
 first | refine ka 6 rfl ?_ | iterate 6 refine sun ?_
 refine spf ?_
 refine smv ?_
 first | refine ka 6 rfl ?_ | iterate 6 refine sun ?_
 refine spf ?_
 refine spf ?_
 refine smv ?_
 refine smv ?_
 refine smv ?_
 refine six ?_
 refine zx hc rfl ?_
 refine kz ?_
 refine smv ?_
 first | refine ka 6 rfl ?_ | iterate 6 refine sun ?_
 refine spf ?_
 refine smv ?_
 first | refine ka 6 rfl ?_ | iterate 6 refine sun ?_
 refine spf ?_
 refine spf ?_
 refine sas ?_
 refine ze ?_
 refine zf ?_
 refine km ?_
 exact zV rfl rfl
theorem is_breakz_pf {b : Bool} (h0 : lo ≤ i) (h1 : i < hi) (h2 : i < n) (hc : f i = .int .u8 ((c : Nat) : Int)) (ha : c < 128) (hb : kE c = b) :
  PF prog 172 [.slice (some ⟨bb, 0, none⟩) n m, .int .i64 (i : Int)] [(bb, .win 5 sz lo hi f)] (.bool b) := by
 by_cases g0 : c = 13
 ·
  obtain rfl : b = true := by rw [← hb]; simp [kE]; omega
  refine zW func172 rfl rfl rfl ?_
  intro w
  refine zd ?_
  refine zi ?_
  refine sas ?_
  refine ze ?_
  refine zf ?_
  refine zd ?_
  refine zi ?_
  dsimp only [List.append]
  refine smv ?_
  refine smv ?_
  refine six ?_
  refine zx hc rfl ?_
  refine seq1 ?_
  refine smv ?_
  first | refine ka 5 rfl ?_ | iterate 5 refine sun ?_
  refine spt ?_
  refine smv ?_
  first | refine ka 5 rfl ?_ | iterate 5 refine sun ?_
  refine sun ?_
  refine sun ?_
  refine sun ?_
  refine sun ?_
  refine sun ?_
  refine sun ?_
  refine sun ?_
  refine sun ?_
  refine spt ?_
  refine smv ?_
  first | refine ka 5 rfl ?_ | iterate 5 refine sun ?_
  refine sun ?_
  refine sun ?_
  refine sun ?_
  refine sun ?_
  refine sun ?_
  refine sun ?_
  refine sun ?_
  refine sun ?_
  refine sun ?_
  refine sun ?_
  refine sun ?_
  refine sun ?_
  refine sun ?_
  refine sun ?_
  refine sun ?_
  refine sun ?_
  refine spt ?_
  refine smv ?_
  first | refine ka 5 rfl ?_ | iterate 5 refine sun ?_
  refine sun ?_
  refine sun ?_
  refine sun ?_
  refine sun ?_
  refine sun ?_
  refine sun ?_
  refine sun ?_
  refine sun ?_
  refine sun ?_
  refine sun ?_
  refine sun ?_
  refine sun ?_
  refine sun ?_
  refine sun ?_
  refine sun ?_
  refine sun ?_
  refine spt ?_
  refine smv ?_
  first | refine ka 5 rfl ?_ | iterate 5 refine sun ?_
  refine spt ?_
  refine sas ?_
  refine ze ?_
  refine zf ?_
  refine km ?_
  exact zV rfl rfl
 by_cases g1 : c = 10
 ·
  obtain rfl : b = true := by rw [← hb]; simp [kE]; omega
  refine zW func172 rfl rfl rfl ?_
  intro w
  refine zd ?_
  refine zi ?_
  refine sas ?_
  refine ze ?_
  refine zf ?_
  refine zd ?_
  refine zi ?_
  dsimp only [List.append]
  refine smv ?_
  refine smv ?_
  refine six ?_
  refine zx hc rfl ?_
  refine kz ?_
  refine smv ?_
  refine smv ?_
  refine smv ?_
  refine six ?_
  refine zx hc rfl ?_
  refine seq1 ?_
  refine spf ?_
  refine smv ?_
  first | refine ka 5 rfl ?_ | iterate 5 refine sun ?_
  refine sun ?_
  refine sun ?_
  refine sun ?_
  refine sun ?_
  refine sun ?_
  refine sun ?_
  refine sun ?_
  refine sun ?_
  refine spt ?_
  refine smv ?_
  first | refine ka 5 rfl ?_ | iterate 5 refine sun ?_
  refine sun ?_
  refine sun ?_
  refine sun ?_
  refine sun ?_
  refine sun ?_
  refine sun ?_
  refine sun ?_
  refine sun ?_
  refine sun ?_
  refine sun ?_
  refine sun ?_
  refine sun ?_
  refine sun ?_
  refine sun ?_
  refine sun ?_
  refine sun ?_
  refine spt ?_
  refine smv ?_
  first | refine ka 5 rfl ?_ | iterate 5 refine sun ?_
  refine sun ?_
  refine sun ?_
  refine sun ?_
  refine sun ?_
  refine sun ?_
  refine sun ?_
  refine sun ?_
  refine sun ?_
  refine sun ?_
  refine sun ?_
  refine sun ?_
  refine sun ?_
  refine sun ?_
  refine sun ?_
  refine sun ?_
  refine sun ?_
  refine spt ?_
  refine smv ?_
  first | refine ka 5 rfl ?_ | iterate 5 refine sun ?_
  refine spt ?_
  refine sas ?_
  refine ze ?_
  refine zf ?_
  refine km ?_
  exact zV rfl rfl
 by_cases g2 : c = 0
 ·
  obtain rfl : b = true := by rw [← hb]; simp [kE]; omega
  refine zW func172 rfl rfl rfl ?_
  intro w
  refine zd ?_
  refine zi ?_
  refine sas ?_
  refine ze ?_
  refine zf ?_
  refine zd ?_
  refine zi ?_
  dsimp only [List.append]
  refine smv ?_
  refine smv ?_
  refine six ?_
  refine zx hc rfl ?_
  refine kz ?_
  refine smv ?_
  refine smv ?_
  refine smv ?_
  refine six ?_
  refine zx hc rfl ?_
  refine kz ?_
  refine spf ?_
  refine smv ?_
  refine smv ?_
  refine smv ?_
  refine six ?_
  refine zx hc rfl ?_
  refine kz ?_
  refine smv ?_
  first | refine ka 6 rfl ?_ | iterate 6 refine sun ?_
  refine spf ?_
  refine spf ?_
  refine smv ?_
  refine smv ?_
  refine smv ?_
  refine six ?_
  refine zx hc rfl ?_
  refine kz ?_
  refine smv ?_
  first | refine ka 6 rfl ?_ | iterate 6 refine sun ?_
  refine spf ?_
  refine smv ?_
  first | refine ka 6 rfl ?_ | iterate 6 refine sun ?_
  refine spf ?_
  refine spf ?_
  refine smv ?_
  refine smv ?_
  refine smv ?_
  refine six ?_
  refine zx hc rfl ?_
  refine kz ?_
  refine smv ?_
  first | refine ka 6 rfl ?_ | iterate 6 refine sun ?_
  refine spf ?_
  refine smv ?_
  first | refine ka 6 rfl ?_ | iterate 6 refine sun ?_
  refine spf ?_
  refine spf ?_
  refine smv ?_
  refine smv ?_
  refine smv ?_
  refine six ?_
  refine zx hc rfl ?_
  refine seq1 ?_
  refine spf ?_
  refine sas ?_
  refine ze ?_
  refine zf ?_
  refine km ?_
  exact zV rfl rfl
 obtain rfl : b = false := by rw [← hb]; simp [kE]; omega
 refine zW func172 rfl rfl rfl ?_
 intro w
 refine zd ?_
 refine zi ?_
 refine sas ?_
 refine ze ?_
 refine zf ?_
 refine zd ?_
 refine zi ?_
 dsimp only [List.append]
 refine smv ?_
 refine smv ?_
 refine six ?_
 refine zx hc rfl ?_
 refine kz ?_
 refine smv ?_
 refine smv ?_
 refine smv ?_
 refine six ?_
 refine zx hc rfl ?_
 refine kz ?_
 refine spf ?_
 refine smv ?_
 refine smv ?_
 refine smv ?_
 refine six ?_
 refine zx hc rfl ?_
 refine kz ?_
 refine smv ?_
 first | refine ka 6 rfl ?_ | iterate 6 refine sun ?_
 refine spf ?_
 refine spf ?_
 refine smv ?_
 refine smv ?_
 refine smv ?_
 refine six ?_
 refine zx hc rfl ?_
 refine kz ?_
 refine smv ?_
 first | refine ka 6 rfl ?_ | iterate 6 refine sun ?_
 refine spf ?_
 refine smv ?_
 first | refine ka 6 rfl ?_ | iterate 6 refine sun ?_
 refine spf ?_
 refine spf ?_
 refine smv ?_
 refine smv ?_
 refine smv ?_
 refine six ?_
 refine zx hc rfl ?_
 refine kz ?_
 refine smv ?_
 first | refine ka 6 rfl ?_ | iterate 6 refine sun ?_
 refine spf ?_
 refine smv ?_
 first | refine ka 6 rfl ?_ | iterate 6 refine sun ?_
 refine spf ?_
 refine spf ?_
 refine smv ?_
 refine smv ?_
 refine smv ?_
 refine six ?_
 refine zx hc rfl ?_
 refine kz ?_
 refine spf ?_
 refine sas ?_
 refine ze ?_
 refine zf ?_
 refine km ?_
 exact zV rfl rfl
theorem is_blankz_pf {b : Bool} (h0 : lo ≤ i) (h1 : i < hi) (h2 : i < n) (hc : f i = .int .u8 ((c : Nat) : Int)) (ha : c < 128) (hb : zK c = b) :
  PF prog 145 [.slice (some ⟨bb, 0, none⟩) n m, .int .i64 (i : Int)] [(bb, .win 5 sz lo hi f)] (.bool b) := by
 by_cases g0 : c = 32
 ·
  obtain rfl : b = true := by rw [← hb]; simp [zK]; omega
  refine zW func145 rfl rfl rfl ?_
  intro w
  refine zd ?_
  refine zi ?_
  refine sas ?_
  refine ze ?_
  refine zf ?_
  refine zd ?_
  refine zi ?_
  dsimp only [List.append]
  refine smv ?_
  refine smv ?_
  refine six ?_
  refine zx hc rfl ?_
  refine seq1 ?_
  refine smv ?_
  first | refine ka 5 rfl ?_ | iterate 5 refine sun ?_
  refine spt ?_
  refine smv ?_
  first | refine ka 5 rfl ?_ | iterate 5 refine sun ?_
  refine spt ?_
  refine smv ?_
  first | refine ka 5 rfl ?_ | iterate 5 refine sun ?_
  refine spt ?_
  refine smv ?_
  first | refine ka 5 rfl ?_ | iterate 5 refine sun ?_
  refine sun ?_
  refine sun ?_
  refine sun ?_
  refine sun ?_
  refine sun ?_
  refine sun ?_
  refine sun ?_
  refine sun ?_
  refine spt ?_
  refine smv ?_
  first | refine ka 5 rfl ?_ | iterate 5 refine sun ?_
  refine sun ?_
  refine sun ?_
  refine sun ?_
  refine sun ?_
  refine sun ?_
  refine sun ?_
  refine sun ?_
  refine sun ?_
  refine sun ?_
  refine sun ?_
  refine sun ?_
  refine sun ?_
  refine sun ?_
  refine sun ?_
  refine sun ?_
  refine sun ?_
  refine spt ?_
  refine smv ?_
  first | refine ka 5 rfl ?_ | iterate 5 refine sun ?_
  refine sun ?_
  refine sun ?_
  refine sun ?_
  refine sun ?_
  refine sun ?_
  refine sun ?_
  refine sun ?_
  refine sun ?_
  refine sun ?_
  refine sun ?_
  refine sun ?_
  refine sun ?_
  refine sun ?_
  refine sun ?_
  refine sun ?_
  refine sun ?_
  refine spt ?_
  refine smv ?_
  first | refine ka 5 rfl ?_ | iterate 5 refine sun ?_
  refine spt ?_
  refine sas ?_
  refine ze ?_
  refine zf ?_
  refine km ?_
  exact zV rfl rfl
 by_cases g1 : c = 9
 ·
  obtain rfl : b = true := by rw [← hb]; simp [zK]; omega
  refine zW func145 rfl rfl rfl ?_
  intro w
  refine zd ?_
  refine zi ?_
  refine sas ?_
  refine ze ?_
  refine zf ?_
  refine zd ?_
  refine zi ?_
  dsimp only [List.append]
  refine smv ?_
  refine smv ?_
  refine six ?_
  refine zx hc rfl ?_
  refine kz ?_
  refine smv ?_
  refine smv ?_
  refine smv ?_
  refine six ?_
  refine zx hc rfl ?_
  refine seq1 ?_
  refine spf ?_
  refine smv ?_
  first | refine ka 5 rfl ?_ | iterate 5 refine sun ?_
  refine spt ?_
  refine smv ?_
  first | refine ka 5 rfl ?_ | iterate 5 refine sun ?_
  refine spt ?_
  refine smv ?_
  first | refine ka 5 rfl ?_ | iterate 5 refine sun ?_
  refine sun ?_
  refine sun ?_
  refine sun ?_
  refine sun ?_
  refine sun ?_
  refine sun ?_
  refine sun ?_
  refine sun ?_
  refine spt ?_
  refine smv ?_
  first | refine ka 5 rfl ?_ | iterate 5 refine sun ?_
  refine sun ?_
  refine sun ?_
  refine sun ?_
  refine sun ?_
  refine sun ?_
  refine sun ?_
  refine sun ?_
  refine sun ?_
  refine sun ?_
  refine sun ?_
  refine sun ?_
  refine sun ?_
  refine sun ?_
  refine sun ?_
  refine sun ?_
  refine sun ?_
  refine spt ?_
  refine smv ?_
  first | refine ka 5 rfl ?_ | iterate 5 refine sun ?_
  refine sun ?_
  refine sun ?_
  refine sun ?_
  refine sun ?_
  refine sun ?_
  refine sun ?_
  refine sun ?_
  refine sun ?_
  refine sun ?_
  refine sun ?_
  refine sun ?_
  refine sun ?_
  refine sun ?_
  refine sun ?_
  refine sun ?_
  refine sun ?_
  refine spt ?_
  refine smv ?_
  first | refine ka 5 rfl ?_ | iterate 5 refine sun ?_
  refine spt ?_
  refine sas ?_
  refine ze ?_
  refine zf ?_
  refine km ?_
  exact zV rfl rfl
 by_cases g2 : c = 13
 ·
  obtain rfl : b = true := by rw [← hb]; simp [zK]; omega
  refine zW func145 rfl rfl rfl ?_
  intro w
  refine zd ?_
  refine zi ?_
  refine sas ?_
  refine ze ?_
  refine zf ?_
  refine zd ?_
  refine zi ?_
  dsimp only [List.append]
  refine smv ?_
  refine smv ?_
  refine six ?_
  refine zx hc rfl ?_
  refine kz ?_
  refine smv ?_
  refine smv ?_
  refine smv ?_
  refine six ?_
  refine zx hc rfl ?_
  refine kz ?_
  refine spf ?_
  refine smv ?_
  refine smv ?_
  refine smv ?_
  refine six ?_
  refine zx hc rfl ?_
  refine seq1 ?_
  refine spf ?_
  refine smv ?_
  first | refine ka 5 rfl ?_ | iterate 5 refine sun ?_
  refine spt ?_
  refine smv ?_
  first | refine ka 5 rfl ?_ | iterate 5 refine sun ?_
  refine sun ?_
  refine sun ?_
  refine sun ?_
  refine sun ?_
  refine sun ?_
  refine sun ?_
  refine sun ?_
  refine sun ?_
  refine spt ?_
  refine smv ?_
  first | refine ka 5 rfl ?_ | iterate 5 refine sun ?_
  refine sun ?_
  refine sun ?_
  refine sun ?_
  refine sun ?_
  refine sun ?_
  refine sun ?_
  refine sun ?_
  refine sun ?_
  refine sun ?_
  refine sun ?_
  refine sun ?_
  refine sun ?_
  refine sun ?_
  refine sun ?_
  refine sun ?_
  refine sun ?_
  refine spt ?_
  refine smv ?_
  first | refine ka 5 rfl ?_ | iterate 5 refine sun ?_
  refine sun ?_
  refine sun ?_
  refine sun ?_
  refine sun ?_
  refine sun ?_
  refine sun ?_
  refine sun ?_
  refine sun ?_
  refine sun ?_
  refine sun ?_
  refine sun ?_
  refine sun ?_
  refine sun ?_
  refine sun ?_
  refine sun ?_
  refine sun ?_
  refine spt ?_
  refine smv ?_
  first | refine ka 5 rfl ?_ | iterate 5 refine sun ?_
  refine spt ?_
  refine sas ?_
  refine ze ?_
  refine zf ?_
  refine km ?_
  exact zV rfl rfl
 by_cases g3 : c = 10
 ·
  obtain rfl : b = true := by rw [← hb]; simp [zK]; omega
  refine zW func145 rfl rfl rfl ?_
  intro w
  refine zd ?_
  refine zi ?_
  refine sas ?_
  refine ze ?_
  refine zf ?_
  refine zd ?_
  refine zi ?_
  dsimp only [List.append]
  refine smv ?_
  refine smv ?_
  refine six ?_
  refine zx hc rfl ?_
  refine kz ?_
  refine smv ?_
  refine smv ?_
  refine smv ?_
  refine six ?_
  refine zx hc rfl ?_
  refine kz ?_
  refine spf ?_
  refine smv ?_
  refine smv ?_
  refine smv ?_
  refine six ?_
  refine zx hc rfl ?_
  refine kz ?_
  refine spf ?_
  refine smv ?_
  refine smv ?_
  refine smv ?_
  refine six ?_
  refine zx hc rfl ?_
  refine seq1 ?_
  refine spf ?_
  refine smv ?_
  first | refine ka 5 rfl ?_ | iterate 5 refine sun ?_
  refine sun ?_
  refine sun ?_
  refine sun ?_
  refine sun ?_
  refine sun ?_
  refine sun ?_
  refine sun ?_
  refine sun ?_
  refine spt ?_
  refine smv ?_
  first | refine ka 5 rfl ?_ | iterate 5 refine sun ?_
  refine sun ?_
  refine sun ?_
  refine sun ?_
  refine sun ?_
  refine sun ?_
  refine sun ?_
  refine sun ?_
  refine sun ?_
  refine sun ?_
  refine sun ?_
  refine sun ?_
  refine sun ?_
  refine sun ?_
  refine sun ?_
  refine sun ?_
  refine sun ?_
  refine spt ?_
  refine smv ?_
  first | refine ka 5 rfl ?_ | iterate 5 refine sun ?_
  refine sun ?_
  refine sun ?_
  refine sun ?_
  refine sun ?_
  refine sun ?_
  refine sun ?_
  refine sun ?_
  refine sun ?_
  refine sun ?_
  refine sun ?_
  refine sun ?_
  refine sun ?_
  refine sun ?_
  refine sun ?_
  refine sun ?_
  refine sun ?_
  refine spt ?_
  refine smv ?_
  first | refine ka 5 rfl ?_ | iterate 5 refine sun ?_
  refine spt ?_
  refine sas ?_
  refine ze ?_
  refine zf ?_
  refine km ?_
  exact zV rfl rfl
 by_cases g4 : c = 0
 ·
  obtain rfl : b = true := by rw [← hb]; simp [zK]; omega
  refine zW func145 rfl rfl rfl ?_
  intro w
  refine zd ?_
  refine zi ?_
  refine sas ?_
  refine ze ?_
  refine zf ?_
  refine zd ?_
  refine zi ?_
  dsimp only [List.append]
  refine smv ?_
  refine smv ?_
  refine six ?_
  refine zx hc rfl ?_
  refine kz ?_
  refine smv ?_
  refine smv ?_
  refine smv ?_
  refine six ?_
  refine zx hc rfl ?_
  refine kz ?_
  refine spf ?_
  refine smv ?_
  refine smv ?_
  refine smv ?_
  refine six ?_
  refine zx hc rfl ?_
  refine kz ?_
  refine spf ?_
  refine smv ?_
  refine smv ?_
  refine smv ?_
  refine six ?_
  refine zx hc rfl ?_
  refine kz ?_
  refine spf ?_
  refine smv ?_
  refine smv ?_
  refine smv ?_
  refine six ?_
  refine zx hc rfl ?_
  refine kz ?_
  refine smv ?_
  first | refine ka 6 rfl ?_ | iterate 6 refine sun ?_
  refine spf ?_
  refine spf ?_
  refine smv ?_
  refine smv ?_
  refine smv ?_
  refine six ?_
  refine zx hc rfl ?_
  refine kz ?_
  refine smv ?_
  first | refine ka 6 rfl ?_ | iterate 6 refine sun ?_
  refine spf ?_
  refine smv ?_
  first | refine ka 6 rfl ?_ | iterate 6 refine sun ?_
  refine spf ?_
  refine spf ?_
  refine smv ?_
  refine smv ?_
  refine smv ?_
  refine six ?_
  refine zx hc rfl ?_
  refine kz ?_
  refine smv ?_
  first | refine ka 6 rfl ?_ | iterate 6 refine sun ?_
  refine spf ?_
  refine smv ?_
  first | refine ka 6 rfl ?_ | iterate 6 refine sun ?_
  refine spf ?_
  refine spf ?_
  refine smv ?_
  refine smv ?_
  refine smv ?_
  refine six ?_
  refine zx hc rfl ?_
  refine seq1 ?_
  refine spf ?_
  refine sas ?_
  refine ze ?_
  refine zf ?_
  refine km ?_
  exact zV rfl rfl
 obtain rfl : b = false := by rw [← hb]; simp [zK]; omega
 refine zW func145 rfl rfl rfl ?_
 intro w
 refine zd ?_
 refine zi ?_
 refine sas ?_
 refine ze ?_
 refine zf ?_
 refine zd ?_
 refine zi ?_
 dsimp only [List.append]
 refine smv ?_
 refine smv ?_
 refine six ?_
 refine zx hc rfl ?_
 refine kz ?_
 refine smv ?_
 refine smv ?_
 refine smv ?_
 refine six ?_
 refine zx hc rfl ?_
 refine kz ?_
 refine spf ?_
 refine smv ?_
 refine smv ?_
 refine smv ?_
 refine six ?_
 refine zx hc rfl ?_
 refine kz ?_
 refine spf ?_
 refine smv ?_
 refine smv ?_
 refine smv ?_
 refine six ?_
 refine zx hc rfl ?_
 refine kz ?_
 refine spf ?_
 refine smv ?_
 refine smv ?_
 refine smv ?_
 refine six ?_
 refine zx hc rfl ?_
 refine kz ?_
 refine smv ?_
 first | refine ka 6 rfl ?_ | iterate 6 refine sun ?_
 refine spf ?_
 refine spf ?_
 refine smv ?_
 refine smv ?_
 refine smv ?_
 refine six ?_
 refine zx hc rfl ?_
 refine kz ?_
 refine smv ?_
 first | refine ka 6 rfl ?_ | iterate 6 refine sun ?_
 refine spf ?_
 refine smv ?_
 first | refine ka 6 rfl ?_ | iterate 6 refine sun ?_
 refine spf ?_
 refine spf ?_
 refine smv ?_
 refine smv ?_
 refine smv ?_
 refine six ?_
 refine zx hc rfl ?_
 refine kz ?_
 refine smv ?_
 first | refine ka 6 rfl ?_ | iterate 6 refine sun ?_
 refine spf ?_
 refine smv ?_
 first | refine ka 6 rfl ?_ | iterate 6 refine sun ?_
 refine spf ?_
 refine spf ?_
 refine smv ?_
 refine smv ?_
 refine smv ?_
 refine six ?_
 refine zx hc rfl ?_
 refine kz ?_
 refine spf ?_
 refine sas ?_
 refine ze ?_
 refine zf ?_
 refine km ?_
 exact zV rfl rfl
theorem is_z_pf {b : Bool} (h0 : lo ≤ i) (h1 : i < hi) (h2 : i < n) (hc : f i = .int .u8 ((c : Nat) : Int)) (ha : c < 128) (hb : zB c = b) :
  PF prog 142 [.slice (some ⟨bb, 0, none⟩) n m, .int .i64 (i : Int)] [(bb, .win 5 sz lo hi f)] (.bool b) := by
 by_cases g0 : c = 0
 ·
  obtain rfl : b = true := by rw [← hb]; simp [zB]; omega
  refine zW func142 rfl rfl rfl ?_
  intro w
  refine zd ?_
  refine zi ?_
  refine sas ?_
  refine ze ?_
  refine zf ?_
  refine zd ?_
  refine zi ?_
  refine smv ?_
  refine smv ?_
  refine six ?_
  refine zx hc rfl ?_
  refine seq1 ?_
  refine sas ?_
  refine ze ?_
  refine zf ?_
  refine km ?_
  exact zV rfl rfl
 obtain rfl : b = false := by rw [← hb]; simp [zB]; omega
 refine zW func142 rfl rfl rfl ?_
 intro w
 refine zd ?_
 refine zi ?_
 refine sas ?_
 refine ze ?_
 refine zf ?_
 refine zd ?_
 refine zi ?_
 refine smv ?_
 refine smv ?_
 refine six ?_
 refine zx hc rfl ?_
 refine kz ?_
 refine sas ?_
 refine ze ?_
 refine zf ?_
 refine km ?_
 exact zV rfl rfl
theorem is_digit_pf {b : Bool} (h0 : lo ≤ i) (h1 : i < hi) (h2 : i < n) (hc : f i = .int .u8 ((c : Nat) : Int)) (ha : c < 128) (hb : digitB c = b) :
  PF prog 191 [.slice (some ⟨bb, 0, none⟩) n m, .int .i64 (i : Int)] [(bb, .win 5 sz lo hi f)] (.bool b) := by
 by_cases g0 : c < 48
 ·
  obtain rfl : b = false := by rw [← hb]; simp [digitB]; omega
  refine zW func191 rfl rfl rfl ?_
  intro w
  refine zd ?_
  refine zi ?_
  refine sas ?_
  refine ze ?_
  refine zf ?_
  refine zd ?_
  refine zi ?_
  refine smv ?_
  refine smv ?_
  refine six ?_
  refine zx hc rfl ?_
  refine sge0 ?_
  refine smv ?_
  first | refine ka 5 rfl ?_ | iterate 5 refine sun ?_
  refine spf ?_
  refine sas ?_
  refine ze ?_
  refine zf ?_
  refine km ?_
  exact zV rfl rfl
 by_cases g1 : c ≤ 57
 ·
  obtain rfl : b = true := by rw [← hb]; simp [digitB]; omega
  refine zW func191 rfl rfl rfl ?_
  intro w
  refine zd ?_
  refine zi ?_
  refine sas ?_
  refine ze ?_
  refine zf ?_
  refine zd ?_
  refine zi ?_
  refine smv ?_
  refine smv ?_
  refine six ?_
  refine zx hc rfl ?_
  refine sge1 ?_
  refine smv ?_
  refine smv ?_
  refine smv ?_
  refine six ?_
  refine zx hc rfl ?_
  refine sle1 ?_
  refine spt ?_
  refine sas ?_
  refine ze ?_
  refine zf ?_
  refine km ?_
  exact zV rfl rfl
 obtain rfl : b = false := by rw [← hb]; simp [digitB]; omega
 refine zW func191 rfl rfl rfl ?_
 intro w
 refine zd ?_
 refine zi ?_
 refine sas ?_
 refine ze ?_
 refine zf ?_
 refine zd ?_
 refine zi ?_
 refine smv ?_
 refine smv ?_
 refine six ?_
 refine zx hc rfl ?_
 refine sge1 ?_
 refine smv ?_
 refine smv ?_
 refine smv ?_
 refine six ?_
 refine zx hc rfl ?_
 refine sle0 ?_
 refine spt ?_
 refine sas ?_
 refine ze ?_
 refine zf ?_
 refine km ?_
 exact zV rfl rfl
theorem is_alpha_pf {b : Bool} (h0 : lo ≤ i) (h1 : i < hi) (h2 : i < n) (hc : f i = .int .u8 ((c : Nat) : Int)) (ha : c < 128) (hb : zC c = b) :
  PF prog 188 [.slice (some ⟨bb, 0, none⟩) n m, .int .i64 (i : Int)] [(bb, .win 5 sz lo hi f)] (.bool b) := by
 by_cases g0 : c = 45
 ·
  obtain rfl : b = true := by rw [← hb]; simp [zC]; omega
  refine zW func188 rfl rfl rfl ?_
  intro w
  refine zd ?_
  refine zi ?_
  refine sas ?_
  refine ze ?_
  refine zf ?_
  refine zd ?_
  refine zi ?_
  refine smv ?_
  refine smv ?_
  refine six ?_
  refine zx hc rfl ?_
  refine sge0 ?_
  refine smv ?_
  first | refine ka 5 rfl ?_ | iterate 5 refine sun ?_
  refine spf ?_
  refine smv ?_
  refine smv ?_
  refine smv ?_
  refine six ?_
  refine zx hc rfl ?_
  refine sge0 ?_
  refine smv ?_
  first | refine ka 5 rfl ?_ | iterate 5 refine sun ?_
  refine spf ?_
  refine spf ?_
  refine smv ?_
  refine smv ?_
  refine smv ?_
  refine six ?_
  refine zx hc rfl ?_
  refine sge0 ?_
  refine smv ?_
  first | refine ka 5 rfl ?_ | iterate 5 refine sun ?_
  refine spf ?_
  refine spf ?_
  refine smv ?_
  refine smv ?_
  refine smv ?_
  refine six ?_
  refine zx hc rfl ?_
  refine kz ?_
  refine spf ?_
  refine smv ?_
  refine smv ?_
  refine smv ?_
  refine six ?_
  refine zx hc rfl ?_
  refine seq1 ?_
  refine spf ?_
  refine sas ?_
  refine ze ?_
  refine zf ?_
  refine km ?_
  exact zV rfl rfl
 by_cases g1 : c = 95
 ·
  obtain rfl : b = true := by rw [← hb]; simp [zC]; omega
  refine zW func188 rfl rfl rfl ?_
  intro w
  refine zd ?_
  refine zi ?_
  refine sas ?_
  refine ze ?_
  refine zf ?_
  refine zd ?_
  refine zi ?_
  refine smv ?_
  refine smv ?_
  refine six ?_
  refine zx hc rfl ?_
  refine sge1 ?_
  refine smv ?_
  refine smv ?_
  refine smv ?_
  refine six ?_
  refine zx hc rfl ?_
  refine sle0 ?_
  refine spt ?_
  refine smv ?_
  refine smv ?_
  refine smv ?_
  refine six ?_
  refine zx hc rfl ?_
  refine sge1 ?_
  refine smv ?_
  refine smv ?_
  refine smv ?_
  refine six ?_
  refine zx hc rfl ?_
  refine sle0 ?_
  refine spt ?_
  refine spf ?_
  refine smv ?_
  refine smv ?_
  refine smv ?_
  refine six ?_
  refine zx hc rfl ?_
  refine sge0 ?_
  refine smv ?_
  first | refine ka 5 rfl ?_ | iterate 5 refine sun ?_
  refine spf ?_
  refine spf ?_
  refine smv ?_
  refine smv ?_
  refine smv ?_
  refine six ?_
  refine zx hc rfl ?_
  refine seq1 ?_
  refine spf ?_
  refine smv ?_
  first | refine ka 5 rfl ?_ | iterate 5 refine sun ?_
  refine spt ?_
  refine sas ?_
  refine ze ?_
  refine zf ?_
  refine km ?_
  exact zV rfl rfl
 by_cases g2 : c < 48
 ·
  obtain rfl : b = false := by rw [← hb]; simp [zC]; omega
  refine zW func188 rfl rfl rfl ?_
  intro w
  refine zd ?_
  refine zi ?_
  refine sas ?_
  refine ze ?_
  refine zf ?_
  refine zd ?_
  refine zi ?_
  refine smv ?_
  refine smv ?_
  refine six ?_
  refine zx hc rfl ?_
  refine sge0 ?_
  refine smv ?_
  first | refine ka 5 rfl ?_ | iterate 5 refine sun ?_
  refine spf ?_
  refine smv ?_
  refine smv ?_
  refine smv ?_
  refine six ?_
  refine zx hc rfl ?_
  refine sge0 ?_
  refine smv ?_
  first | refine ka 5 rfl ?_ | iterate 5 refine sun ?_
  refine spf ?_
  refine spf ?_
  refine smv ?_
  refine smv ?_
  refine smv ?_
  refine six ?_
  refine zx hc rfl ?_
  refine sge0 ?_
  refine smv ?_
  first | refine ka 5 rfl ?_ | iterate 5 refine sun ?_
  refine spf ?_
  refine spf ?_
  refine smv ?_
  refine smv ?_
  refine smv ?_
  refine six ?_
  refine zx hc rfl ?_
  refine kz ?_
  refine spf ?_
  refine smv ?_
  refine smv ?_
  refine smv ?_
  refine six ?_
  refine zx hc rfl ?_
  refine kz ?_
  refine spf ?_
  refine sas ?_
  refine ze ?_
  refine zf ?_
  refine km ?_
  exact zV rfl rfl
 by_cases g3 : c ≤ 57
 ·
  obtain rfl : b = true := by rw [← hb]; simp [zC]; omega
  refine zW func188 rfl rfl rfl ?_
  intro w
  refine zd ?_
  refine zi ?_
  refine sas ?_
  refine ze ?_
  refine zf ?_
  refine zd ?_
  refine zi ?_
  refine smv ?_
  refine smv ?_
  refine six ?_
  refine zx hc rfl ?_
  refine sge1 ?_
  refine smv ?_
  refine smv ?_
  refine smv ?_
  refine six ?_
  refine zx hc rfl ?_
  refine sle1 ?_
  refine spt ?_
  refine smv ?_
  first | refine ka 5 rfl ?_ | iterate 5 refine sun ?_
  refine sun ?_
  refine sun ?_
  refine sun ?_
  refine sun ?_
  refine sun ?_
  refine sun ?_
  refine sun ?_
  refine spt ?_
  refine smv ?_
  first | refine ka 5 rfl ?_ | iterate 5 refine sun ?_
  refine sun ?_
  refine sun ?_
  refine sun ?_
  refine sun ?_
  refine sun ?_
  refine sun ?_
  refine sun ?_
  refine spt ?_
  refine smv ?_
  first | refine ka 5 rfl ?_ | iterate 5 refine sun ?_
  refine spt ?_
  refine smv ?_
  first | refine ka 5 rfl ?_ | iterate 5 refine sun ?_
  refine spt ?_
  refine sas ?_
  refine ze ?_
  refine zf ?_
  refine km ?_
  exact zV rfl rfl
 by_cases g4 : c < 65
 ·
  obtain rfl : b = false := by rw [← hb]; simp [zC]; omega
  refine zW func188 rfl rfl rfl ?_
  intro w
  refine zd ?_
  refine zi ?_
  refine sas ?_
  refine ze ?_
  refine zf ?_
  refine zd ?_
  refine zi ?_
  refine smv ?_
  refine smv ?_
  refine six ?_
  refine zx hc rfl ?_
  refine sge1 ?_
  refine smv ?_
  refine smv ?_
  refine smv ?_
  refine six ?_
  refine zx hc rfl ?_
  refine sle0 ?_
  refine spt ?_
  refine smv ?_
  refine smv ?_
  refine smv ?_
  refine six ?_
  refine zx hc rfl ?_
  refine sge0 ?_
  refine smv ?_
  first | refine ka 5 rfl ?_ | iterate 5 refine sun ?_
  refine spf ?_
  refine spf ?_
  refine smv ?_
  refine smv ?_
  refine smv ?_
  refine six ?_
  refine zx hc rfl ?_
  refine sge0 ?_
  refine smv ?_
  first | refine ka 5 rfl ?_ | iterate 5 refine sun ?_
  refine spf ?_
  refine spf ?_
  refine smv ?_
  refine smv ?_
  refine smv ?_
  refine six ?_
  refine zx hc rfl ?_
  refine kz ?_
  refine spf ?_
  refine smv ?_
  refine smv ?_
  refine smv ?_
  refine six ?_
  refine zx hc rfl ?_
  refine kz ?_
  refine spf ?_
  refine sas ?_
  refine ze ?_
  refine zf ?_
  refine km ?_
  exact zV rfl rfl
 by_cases g5 : c ≤ 90
 ·
  obtain rfl : b = true := by rw [← hb]; simp [zC]; omega
  refine zW func188 rfl rfl rfl ?_
  intro w
  refine zd ?_
  refine zi ?_
  refine sas ?_
  refine ze ?_
  refine zf ?_
  refine zd ?_
  refine zi ?_
  refine smv ?_
  refine smv ?_
  refine six ?_
  refine zx hc rfl ?_
  refine sge1 ?_
  refine smv ?_
  refine smv ?_
  refine smv ?_
  refine six ?_
  refine zx hc rfl ?_
  refine sle0 ?_
  refine spt ?_
  refine smv ?_
  refine smv ?_
  refine smv ?_
  refine six ?_
  refine zx hc rfl ?_
  refine sge1 ?_
  refine smv ?_
  refine smv ?_
  refine smv ?_
  refine six ?_
  refine zx hc rfl ?_
  refine sle1 ?_
  refine spt ?_
  refine spf ?_
  refine smv ?_
  first | refine ka 5 rfl ?_ | iterate 5 refine sun ?_
  refine sun ?_
  refine sun ?_
  refine sun ?_
  refine sun ?_
  refine sun ?_
  refine sun ?_
  refine sun ?_
  refine spt ?_
  refine smv ?_
  first | refine ka 5 rfl ?_ | iterate 5 refine sun ?_
  refine spt ?_
  refine smv ?_
  first | refine ka 5 rfl ?_ | iterate 5 refine sun ?_
  refine spt ?_
  refine sas ?_
  refine ze ?_
  refine zf ?_
  refine km ?_
  exact zV rfl rfl
 by_cases g6 : c < 97
 ·
  obtain rfl : b = false := by rw [← hb]; simp [zC]; omega
  refine zW func188 rfl rfl rfl ?_
  intro w
  refine zd ?_
  refine zi ?_
  refine sas ?_
  refine ze ?_
  refine zf ?_
  refine zd ?_
  refine zi ?_
  refine smv ?_
  refine smv ?_
  refine six ?_
  refine zx hc rfl ?_
  refine sge1 ?_
  refine smv ?_
  refine smv ?_
  refine smv ?_
  refine six ?_
  refine zx hc rfl ?_
  refine sle0 ?_
  refine spt ?_
  refine smv ?_
  refine smv ?_
  refine smv ?_
  refine six ?_
  refine zx hc rfl ?_
  refine sge1 ?_
  refine smv ?_
  refine smv ?_
  refine smv ?_
  refine six ?_
  refine zx hc rfl ?_
  refine sle0 ?_
  refine spt ?_
  refine spf ?_
  refine smv ?_
  refine smv ?_
  refine smv ?_
  refine six ?_
  refine zx hc rfl ?_
  refine sge0 ?_
  refine smv ?_
  first | refine ka 5 rfl ?_ | iterate 5 refine sun ?_
  refine spf ?_
  refine spf ?_
  refine smv ?_
  refine smv ?_
  refine smv ?_
  refine six ?_
  refine zx hc rfl ?_
  refine kz ?_
  refine spf ?_
  refine smv ?_
  refine smv ?_
  refine smv ?_
  refine six ?_
  refine zx hc rfl ?_
  refine kz ?_
  refine spf ?_
  refine sas ?_
  refine ze ?_
  refine zf ?_
  refine km ?_
  exact zV rfl rfl
 by_cases g7 : c ≤ 122
 ·
  obtain rfl : b = true := by rw [← hb]; simp [zC]; omega
  refine zW func188 rfl rfl rfl ?_
  intro w
  refine zd ?_
  refine zi ?_
  refine sas ?_
  refine ze ?_
  refine zf ?_
  refine zd ?_
  refine zi ?_
  refine smv ?_
  refine smv ?_
  refine six ?_
  refine zx hc rfl ?_
  refine sge1 ?_
  refine smv ?_
  refine smv ?_
  refine smv ?_
  refine six ?_
  refine zx hc rfl ?_
  refine sle0 ?_
  refine spt ?_
  refine smv ?_
  refine smv ?_
  refine smv ?_
  refine six ?_
  refine zx hc rfl ?_
  refine sge1 ?_
  refine smv ?_
  refine smv ?_
  refine smv ?_
  refine six ?_
  refine zx hc rfl ?_
  refine sle0 ?_
  refine spt ?_
  refine spf ?_
  refine smv ?_
  refine smv ?_
  refine smv ?_
  refine six ?_
  refine zx hc rfl ?_
  refine sge1 ?_
  refine smv ?_
  refine smv ?_
  refine smv ?_
  refine six ?_
  refine zx hc rfl ?_
  refine sle1 ?_
  refine spt ?_
  refine spf ?_
  refine smv ?_
  first | refine ka 5 rfl ?_ | iterate 5 refine sun ?_
  refine spt ?_
  refine smv ?_
  first | refine ka 5 rfl ?_ | iterate 5 refine sun ?_
  refine spt ?_
  refine sas ?_
  refine ze ?_
  refine zf ?_
  refine km ?_
  exact zV rfl rfl
 obtain rfl : b = false := by rw [← hb]; simp [zC]; omega
 refine zW func188 rfl rfl rfl ?_
 intro w
 refine zd ?_
 refine zi ?_
 refine sas ?_
 refine ze ?_
 refine zf ?_
 refine zd ?_
 refine zi ?_
 refine smv ?_
 refine smv ?_
 refine six ?_
 refine zx hc rfl ?_
 refine sge1 ?_
 refine smv ?_
 refine smv ?_
 refine smv ?_
 refine six ?_
 refine zx hc rfl ?_
 refine sle0 ?_
 refine spt ?_
 refine smv ?_
 refine smv ?_
 refine smv ?_
 refine six ?_
 refine zx hc rfl ?_
 refine sge1 ?_
 refine smv ?_
 refine smv ?_
 refine smv ?_
 refine six ?_
 refine zx hc rfl ?_
 refine sle0 ?_
 refine spt ?_
 refine spf ?_
 refine smv ?_
 refine smv ?_
 refine smv ?_
 refine six ?_
 refine zx hc rfl ?_
 refine sge1 ?_
 refine smv ?_
 refine smv ?_
 refine smv ?_
 refine six ?_
 refine zx hc rfl ?_
 refine sle0 ?_
 refine spt ?_
 refine spf ?_
 refine smv ?_
 refine smv ?_
 refine smv ?_
 refine six ?_
 refine zx hc rfl ?_
 refine kz ?_
 refine spf ?_
 refine smv ?_
 refine smv ?_
 refine smv ?_
 refine six ?_
 refine zx hc rfl ?_
 refine kz ?_
 refine spf ?_
 refine sas ?_
 refine ze ?_
 refine zf ?_
 refine km ?_
 exact zV rfl rfl
theorem is_hex_pf {b : Bool} (h0 : lo ≤ i) (h1 : i < hi) (h2 : i < n) (hc : f i = .int .u8 ((c : Nat) : Int)) (ha : c < 128) (hb : hexB c = b) :
  PF prog 195 [.slice (some ⟨bb, 0, none⟩) n m, .int .i64 (i : Int)] [(bb, .win 5 sz lo hi f)] (.bool b) := by
 by_cases g0 : c < 48
 ·
  obtain rfl : b = false := by rw [← hb]; simp [hexB]; omega
  refine zW func195 rfl rfl rfl ?_
  intro w
  refine zd ?_
  refine zi ?_
  refine sas ?_
  refine ze ?_
  refine zf ?_
  refine zd ?_
  refine zi ?_
  refine smv ?_
  refine smv ?_
  refine six ?_
  refine zx hc rfl ?_
  refine sge0 ?_
  refine smv ?_
  first | refine ka 5 rfl ?_ | iterate 5 refine sun ?_
  refine spf ?_
  refine smv ?_
  refine smv ?_
  refine smv ?_
  refine six ?_
  refine zx hc rfl ?_
  refine sge0 ?_
  refine smv ?_
  first | refine ka 5 rfl ?_ | iterate 5 refine sun ?_
  refine spf ?_
  refine spf ?_
  refine smv ?_
  refine smv ?_
  refine smv ?_
  refine six ?_
  refine zx hc rfl ?_
  refine sge0 ?_
  refine smv ?_
  first | refine ka 5 rfl ?_ | iterate 5 refine sun ?_
  refine spf ?_
  refine spf ?_
  refine sas ?_
  refine ze ?_
  refine zf ?_
  refine km ?_
  exact zV rfl rfl
 by_cases g1 : c ≤ 57
 ·
  obtain rfl : b = true := by rw [← hb]; simp [hexB]; omega
  refine zW func195 rfl rfl rfl ?_
  intro w
  refine zd ?_
  refine zi ?_
  refine sas ?_
  refine ze ?_
  refine zf ?_
  refine zd ?_
  refine zi ?_
  refine smv ?_
  refine smv ?_
  refine six ?_
  refine zx hc rfl ?_
  refine sge1 ?_
  refine smv ?_
  refine smv ?_
  refine smv ?_
  refine six ?_
  refine zx hc rfl ?_
  refine sle1 ?_
  refine spt ?_
  refine smv ?_
  first | refine ka 5 rfl ?_ | iterate 5 refine sun ?_
  refine sun ?_
  refine sun ?_
  refine sun ?_
  refine sun ?_
  refine sun ?_
  refine sun ?_
  refine sun ?_
  refine spt ?_
  refine smv ?_
  first | refine ka 5 rfl ?_ | iterate 5 refine sun ?_
  refine sun ?_
  refine sun ?_
  refine sun ?_
  refine sun ?_
  refine sun ?_
  refine sun ?_
  refine sun ?_
  refine spt ?_
  refine sas ?_
  refine ze ?_
  refine zf ?_
  refine km ?_
  exact zV rfl rfl
 by_cases g2 : c < 65
 ·
  obtain rfl : b = false := by rw [← hb]; simp [hexB]; omega
  refine zW func195 rfl rfl rfl ?_
  intro w
  refine zd ?_
  refine zi ?_
  refine sas ?_
  refine ze ?_
  refine zf ?_
  refine zd ?_
  refine zi ?_
  refine smv ?_
  refine smv ?_
  refine six ?_
  refine zx hc rfl ?_
  refine sge1 ?_
  refine smv ?_
  refine smv ?_
  refine smv ?_
  refine six ?_
  refine zx hc rfl ?_
  refine sle0 ?_
  refine spt ?_
  refine smv ?_
  refine smv ?_
  refine smv ?_
  refine six ?_
  refine zx hc rfl ?_
  refine sge0 ?_
  refine smv ?_
  first | refine ka 5 rfl ?_ | iterate 5 refine sun ?_
  refine spf ?_
  refine spf ?_
  refine smv ?_
  refine smv ?_
  refine smv ?_
  refine six ?_
  refine zx hc rfl ?_
  refine sge0 ?_
  refine smv ?_
  first | refine ka 5 rfl ?_ | iterate 5 refine sun ?_
  refine spf ?_
  refine spf ?_
  refine sas ?_
  refine ze ?_
  refine zf ?_
  refine km ?_
  exact zV rfl rfl
 by_cases g3 : c ≤ 70
 ·
  obtain rfl : b = true := by rw [← hb]; simp [hexB]; omega
  refine zW func195 rfl rfl rfl ?_
  intro w
  refine zd ?_
  refine zi ?_
  refine sas ?_
  refine ze ?_
  refine zf ?_
  refine zd ?_
  refine zi ?_
  refine smv ?_
  refine smv ?_
  refine six ?_
  refine zx hc rfl ?_
  refine sge1 ?_
  refine smv ?_
  refine smv ?_
  refine smv ?_
  refine six ?_
  refine zx hc rfl ?_
  refine sle0 ?_
  refine spt ?_
  refine smv ?_
  refine smv ?_
  refine smv ?_
  refine six ?_
  refine zx hc rfl ?_
  refine sge1 ?_
  refine smv ?_
  refine smv ?_
  refine smv ?_
  refine six ?_
  refine zx hc rfl ?_
  refine sle1 ?_
  refine spt ?_
  refine spf ?_
  refine smv ?_
  first | refine ka 5 rfl ?_ | iterate 5 refine sun ?_
  refine sun ?_
  refine sun ?_
  refine sun ?_
  refine sun ?_
  refine sun ?_
  refine sun ?_
  refine sun ?_
  refine spt ?_
  refine sas ?_
  refine ze ?_
  refine zf ?_
  refine km ?_
  exact zV rfl rfl
 by_cases g4 : c < 97
 ·
  obtain rfl : b = false := by rw [← hb]; simp [hexB]; omega
  refine zW func195 rfl rfl rfl ?_
  intro w
  refine zd ?_
  refine zi ?_
  refine sas ?_
  refine ze ?_
  refine zf ?_
  refine zd ?_
  refine zi ?_
  refine smv ?_
  refine smv ?_
  refine six ?_
  refine zx hc rfl ?_
  refine sge1 ?_
  refine smv ?_
  refine smv ?_
  refine smv ?_
  refine six ?_
  refine zx hc rfl ?_
  refine sle0 ?_
  refine spt ?_
  refine smv ?_
  refine smv ?_
  refine smv ?_
  refine six ?_
  refine zx hc rfl ?_
  refine sge1 ?_
  refine smv ?_
  refine smv ?_
  refine smv ?_
  refine six ?_
  refine zx hc rfl ?_
  refine sle0 ?_
  refine spt ?_
  refine spf ?_
  refine smv ?_
  refine smv ?_
  refine smv ?_
  refine six ?_
  refine zx hc rfl ?_
  refine sge0 ?_
  refine smv ?_
  first | refine ka 5 rfl ?_ | iterate 5 refine sun ?_
  refine spf ?_
  refine spf ?_
  refine sas ?_
  refine ze ?_
  refine zf ?_
  refine km ?_
  exact zV rfl rfl
 by_cases g5 : c ≤ 102
 ·
  obtain rfl : b = true := by rw [← hb]; simp [hexB]; omega
  refine zW func195 rfl rfl rfl ?_
  intro w
  refine zd ?_
  refine zi ?_
  refine sas ?_
  refine ze ?_
  refine zf ?_
  refine zd ?_
  refine zi ?_
  refine smv ?_
  refine smv ?_
  refine six ?_
  refine zx hc rfl ?_
  refine sge1 ?_
  refine smv ?_
  refine smv ?_
  refine smv ?_
  refine six ?_
  refine zx hc rfl ?_
  refine sle0 ?_
  refine spt ?_
  refine smv ?_
  refine smv ?_
  refine smv ?_
  refine six ?_
  refine zx hc rfl ?_
  refine sge1 ?_
  refine smv ?_
  refine smv ?_
  refine smv ?_
  refine six ?_
  refine zx hc rfl ?_
  refine sle0 ?_
  refine spt ?_
  refine spf ?_
  refine smv ?_
  refine smv ?_
  refine smv ?_
  refine six ?_
  refine zx hc rfl ?_
  refine sge1 ?_
  refine smv ?_
  refine smv ?_
  refine smv ?_
  refine six ?_
  refine zx hc rfl ?_
  refine sle1 ?_
  refine spt ?_
  refine spf ?_
  refine sas ?_
  refine ze ?_
  refine zf ?_
  refine km ?_
  exact zV rfl rfl
 obtain rfl : b = false := by rw [← hb]; simp [hexB]; omega
 refine zW func195 rfl rfl rfl ?_
 intro w
 refine zd ?_
 refine zi ?_
 refine sas ?_
 refine ze ?_
 refine zf ?_
 refine zd ?_
 refine zi ?_
 refine smv ?_
 refine smv ?_
 refine six ?_
 refine zx hc rfl ?_
 refine sge1 ?_
 refine smv ?_
 refine smv ?_
 refine smv ?_
 refine six ?_
 refine zx hc rfl ?_
 refine sle0 ?_
 refine spt ?_
 refine smv ?_
 refine smv ?_
 refine smv ?_
 refine six ?_
 refine zx hc rfl ?_
 refine sge1 ?_
 refine smv ?_
 refine smv ?_
 refine smv ?_
 refine six ?_
 refine zx hc rfl ?_
 refine sle0 ?_
 refine spt ?_
 refine spf ?_
 refine smv ?_
 refine smv ?_
 refine smv ?_
 refine six ?_
 refine zx hc rfl ?_
 refine sge1 ?_
 refine smv ?_
 refine smv ?_
 refine smv ?_
 refine six ?_
 refine zx hc rfl ?_
 refine sle0 ?_
 refine spt ?_
 refine spf ?_
 refine sas ?_
 refine ze ?_
 refine zf ?_
 refine km ?_
 exact zV rfl rfl
end
end Go.Proofs.YtnfbcfflkphbiaaGreatDoor
