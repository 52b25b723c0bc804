/-
  Texts of the proof, joined: E7 E8 E9 E13 E14. No Go text.
-/
import Derived.Test.YtnfbcfflkphbiaaGreatDoorA01
import Derived.Test.YtnfbcfflkphbiaaGreatDoorA05
import Derived.LoopN
import Derived.Laws.IdiomStrings
import Derived.Laws.Strings
import Derived.Test.YtnfbcfflkphbiaaGreatDoorA04
import Derived.KernelRfl
import Derived.Laws.Tables
import Derived.Great.BuildSlice
namespace Go.Proofs.YtnfbcfflkphbiaaGreatDoor
open Go Go.Proofs Tryz
set_option linter.all false
set_option maxRecDepth 100000
set_option maxHeartbeats 8000000
section
variable {P : Program} {n : Nat} {ds : List Deferred} {pu : Bool} {w0 : World} {D : List Nat} {H H' : zl} {E : Env} {ops : Array Oper} {Q : Exit → Act → World → Prop} {Q' K : Act → World → Prop} {rest : List Oper} {v : Value}
variable {ty : TypeId} {ps : String} {af : Array Edge} {g : Option (Nat × Bool)} {x y z : Operand} {d : Nat} {k : IntKind} {p q : Int} {t t2 : TypeId}
theorem smv   (h : SQ P n ds pu w0 D ops Q K H ((d, v) :: E) rest) (hx : opv E x = some v := by rfl) (hg : gd ops E g = some true := by rfl) (hd : Nat.blt d n = true := by rfl) : SQ P n ds pu w0 D ops Q K H E (⟨some d, .move x, ty, ps, af, g⟩ :: rest) := sq hg hd (zj hx) h
theorem dmv   (h : DQ P n ds pu w0 D ops Q' H ((d, v) :: E) rest) (hx : opv E x = some v := by rfl) (hg : gd ops E g = some true := by rfl) (hd : Nat.blt d n = true := by rfl) : DQ P n ds pu w0 D ops Q' H E (⟨some d, .move x, ty, ps, af, g⟩ :: rest) := dq hg hd (zj hx) h
theorem sas   (h : SQ P n ds pu w0 D ops Q K H ((d, v) :: E) rest) (hx : opv E x = some v := by rfl) (hg : gd ops E g = some true := by rfl) (hd : Nat.blt d n = true := by rfl) : SQ P n ds pu w0 D ops Q K H E (⟨some d, .assign x, ty, ps, af, g⟩ :: rest) := sq hg hd (kB hx) h
theorem das   (h : DQ P n ds pu w0 D ops Q' H ((d, v) :: E) rest) (hx : opv E x = some v := by rfl) (hg : gd ops E g = some true := by rfl) (hd : Nat.blt d n = true := by rfl) : DQ P n ds pu w0 D ops Q' H E (⟨some d, .assign x, ty, ps, af, g⟩ :: rest) := dq hg hd (kB hx) h
theorem snc  {p : Addr} (h : SQ P n ds pu w0 D ops Q K H ((d, .pointer (some p)) :: E) rest)  (hx : opv E x = some (.pointer (some p)) := by rfl) (hg : gd ops E g = some true := by rfl) (hd : Nat.blt d n = true := by rfl) : SQ P n ds pu w0 D ops Q K H E (⟨some d, .nilCheck x, ty, ps, af, g⟩ :: rest) := sq hg hd (zJ hx) h
theorem dnc  {p : Addr} (h : DQ P n ds pu w0 D ops Q' H ((d, .pointer (some p)) :: E) rest)  (hx : opv E x = some (.pointer (some p)) := by rfl) (hg : gd ops E g = some true := by rfl) (hd : Nat.blt d n = true := by rfl) : DQ P n ds pu w0 D ops Q' H E (⟨some d, .nilCheck x, ty, ps, af, g⟩ :: rest) := dq hg hd (zJ hx) h
theorem sfa  {s f kk b o : Nat} [hf : Fld P s f kk] (h : SQ P n ds pu w0 D ops Q K H ((d, .pointer (some ⟨b, o + kk, none⟩)) :: E) rest)  (hx : opv E x = some (.pointer (some ⟨b, o, none⟩)) := by rfl) (hg : gd ops E g = some true := by rfl) (hd : Nat.blt d n = true := by rfl) : SQ P n ds pu w0 D ops Q K H E (⟨some d, .fieldAddr s x f, ty, ps, af, g⟩ :: rest) := sq hg hd (zM hx) h
theorem dfa  {s f kk b o : Nat} [hf : Fld P s f kk] (h : DQ P n ds pu w0 D ops Q' H ((d, .pointer (some ⟨b, o + kk, none⟩)) :: E) rest)  (hx : opv E x = some (.pointer (some ⟨b, o, none⟩)) := by rfl) (hg : gd ops E g = some true := by rfl) (hd : Nat.blt d n = true := by rfl) : DQ P n ds pu w0 D ops Q' H E (⟨some d, .fieldAddr s x f, ty, ps, af, g⟩ :: rest) := dq hg hd (zM hx) h
theorem sld {b i : Nat} {kb : Blk} [qn P t] (hx : opv E x = some (.pointer (some ⟨b, i, none⟩))) [hh : Has H b kb]  (h : SQ P n ds pu w0 D ops Q K H ((d, v) :: E) rest)  (h0 : Nat.ble kb.lo i = true := by rfl) (hi : Nat.blt i kb.known = true := by rfl) (hv : kb.cell i = some v := by rfl) (hg : gd ops E g = some true := by rfl) (hd : Nat.blt d n = true := by rfl) : SQ P n ds pu w0 D ops Q K H E (⟨some d, .load t x, ty, ps, af, g⟩ :: rest) := sq hg hd (zp hx h0 hi hv) h
theorem dld {b i : Nat} {kb : Blk} [qn P t] (hx : opv E x = some (.pointer (some ⟨b, i, none⟩))) [hh : Has H b kb]  (h : DQ P n ds pu w0 D ops Q' H ((d, v) :: E) rest)  (h0 : Nat.ble kb.lo i = true := by rfl) (hi : Nat.blt i kb.known = true := by rfl) (hv : kb.cell i = some v := by rfl) (hg : gd ops E g = some true := by rfl) (hd : Nat.blt d n = true := by rfl) : DQ P n ds pu w0 D ops Q' H E (⟨some d, .load t x, ty, ps, af, g⟩ :: rest) := dq hg hd (zp hx h0 hi hv) h
theorem slds {b i m : Nat} {kb : Blk} {l : List Value} [qR P t m] (hx : opv E x = some (.pointer (some ⟨b, i, none⟩))) [hh : Has H b kb]  (h : SQ P n ds pu w0 D ops Q K H ((d, .agg l.toArray) :: E) rest)  (h0 : Nat.ble kb.lo i = true := by rfl) (hi : Nat.ble (i + m) kb.known = true := by rfl) (hv : cut kb i m = some l := by rfl) (hg : gd ops E g = some true := by rfl) (hd : Nat.blt d n = true := by rfl) : SQ P n ds pu w0 D ops Q K H E (⟨some d, .load t x, ty, ps, af, g⟩ :: rest) := sq hg hd (zG hx h0 hi hv) h
theorem dlds {b i m : Nat} {kb : Blk} {l : List Value} [qR P t m] (hx : opv E x = some (.pointer (some ⟨b, i, none⟩))) [hh : Has H b kb]  (h : DQ P n ds pu w0 D ops Q' H ((d, .agg l.toArray) :: E) rest)  (h0 : Nat.ble kb.lo i = true := by rfl) (hi : Nat.ble (i + m) kb.known = true := by rfl) (hv : cut kb i m = some l := by rfl) (hg : gd ops E g = some true := by rfl) (hd : Nat.blt d n = true := by rfl) : DQ P n ds pu w0 D ops Q' H E (⟨some d, .load t x, ty, ps, af, g⟩ :: rest) := dq hg hd (zG hx h0 hi hv) h
theorem slde {b i : Nat} {kb : Blk} {u : Value} (e : u = v) [qn P t] (hx : opv E x = some (.pointer (some ⟨b, i, none⟩))) [hh : Has H b kb]  (h : SQ P n ds pu w0 D ops Q K H ((d, v) :: E) rest)  (h0 : Nat.ble kb.lo i = true := by rfl) (hi : Nat.blt i kb.known = true := by rfl) (hv : kb.cell i = some u := by rfl) (hg : gd ops E g = some true := by rfl) (hd : Nat.blt d n = true := by rfl) : SQ P n ds pu w0 D ops Q K H E (⟨some d, .load t x, ty, ps, af, g⟩ :: rest) := sq hg hd (qto (zp hx h0 hi hv) e) h
theorem dlde {b i : Nat} {kb : Blk} {u : Value} (e : u = v) [qn P t] (hx : opv E x = some (.pointer (some ⟨b, i, none⟩))) [hh : Has H b kb]  (h : DQ P n ds pu w0 D ops Q' H ((d, v) :: E) rest)  (h0 : Nat.ble kb.lo i = true := by rfl) (hi : Nat.blt i kb.known = true := by rfl) (hv : kb.cell i = some u := by rfl) (hg : gd ops E g = some true := by rfl) (hd : Nat.blt d n = true := by rfl) : DQ P n ds pu w0 D ops Q' H E (⟨some d, .load t x, ty, ps, af, g⟩ :: rest) := dq hg hd (qto (zp hx h0 hi hv) e) h
theorem zx {b i m lo hi : Nat} {rt : TypeId} {f : Nat → Value} (hv : f i = v) [qn P t] (hx : opv E x = some (.pointer (some ⟨b, i, none⟩))) [hh : Has H b (.win rt m lo hi f)]  (h : SQ P n ds pu w0 D ops Q K H ((d, v) :: E) rest)  (h0 : lo ≤ i := by first | omega | (dsimp only; omega)) (h1 : i < hi := by first | omega | (dsimp only; omega)) (hg : gd ops E g = some true := by rfl) (hd : Nat.blt d n = true := by rfl) : SQ P n ds pu w0 D ops Q K H E (⟨some d, .load t x, ty, ps, af, g⟩ :: rest) := sq hg hd (q_loadw hx h0 h1 hv) h
theorem zn {b i m lo hi : Nat} {rt : TypeId} {f : Nat → Value} (hv : f i = v) [qn P t] (hx : opv E x = some (.pointer (some ⟨b, i, none⟩))) [hh : Has H b (.win rt m lo hi f)]  (h : DQ P n ds pu w0 D ops Q' H ((d, v) :: E) rest)  (h0 : lo ≤ i := by first | omega | (dsimp only; omega)) (h1 : i < hi := by first | omega | (dsimp only; omega)) (hg : gd ops E g = some true := by rfl) (hd : Nat.blt d n = true := by rfl) : DQ P n ds pu w0 D ops Q' H E (⟨some d, .load t x, ty, ps, af, g⟩ :: rest) := dq hg hd (q_loadw hx h0 h1 hv) h
theorem six  {e bs b len cap i s : Nat} [hs : Slc P s e 1 bs] (h : SQ P n ds pu w0 D ops Q K H ((d, .pointer (some ⟨b, i, none⟩)) :: E) rest)  (hx : opv E x = some (.slice (some ⟨b, 0, none⟩) len cap) := by rfl) (hy : opv E y = some (.int k (i : Int)) := by rfl) (h1 : i < len := by first | omega | (dsimp only; omega)) (hg : gd ops E g = some true := by rfl) (hd : Nat.blt d n = true := by rfl) : SQ P n ds pu w0 D ops Q K H E (⟨some d, .indexAddr s x y, ty, ps, af, g⟩ :: rest) := sq hg hd (q_ix1 hx hy h1) h
theorem dix  {e bs b len cap i s : Nat} [hs : Slc P s e 1 bs] (h : DQ P n ds pu w0 D ops Q' H ((d, .pointer (some ⟨b, i, none⟩)) :: E) rest)  (hx : opv E x = some (.slice (some ⟨b, 0, none⟩) len cap) := by rfl) (hy : opv E y = some (.int k (i : Int)) := by rfl) (h1 : i < len := by first | omega | (dsimp only; omega)) (hg : gd ops E g = some true := by rfl) (hd : Nat.blt d n = true := by rfl) : DQ P n ds pu w0 D ops Q' H E (⟨some d, .indexAddr s x y, ty, ps, af, g⟩ :: rest) := dq hg hd (q_ix1 hx hy h1) h
theorem slg  {u : Option Addr} {len cap e sz bs s : Nat} [hs : Slc P s e sz bs] (h : SQ P n ds pu w0 D ops Q K H ((d, .int .i64 len) :: E) rest)  (hx : opv E x = some (.slice u len cap) := by rfl) (hg : gd ops E g = some true := by rfl) (hd : Nat.blt d n = true := by rfl) : SQ P n ds pu w0 D ops Q K H E (⟨some d, .call ⟨.builtin .len, #[x], #[s]⟩, ty, ps, af, g⟩ :: rest) := sq hg hd (q_len hx) h
theorem dlg  {u : Option Addr} {len cap e sz bs s : Nat} [hs : Slc P s e sz bs] (h : DQ P n ds pu w0 D ops Q' H ((d, .int .i64 len) :: E) rest)  (hx : opv E x = some (.slice u len cap) := by rfl) (hg : gd ops E g = some true := by rfl) (hd : Nat.blt d n = true := by rfl) : DQ P n ds pu w0 D ops Q' H E (⟨some d, .call ⟨.builtin .len, #[x], #[s]⟩, ty, ps, af, g⟩ :: rest) := dq hg hd (q_len hx) h
theorem slgs  {ba : ByteArray} {s : Nat} [hs : Strg P s] (h : SQ P n ds pu w0 D ops Q K H ((d, .int .i64 ba.size) :: E) rest)  (hx : opv E x = some (.string ba) := by rfl) (hg : gd ops E g = some true := by rfl) (hd : Nat.blt d n = true := by rfl) : SQ P n ds pu w0 D ops Q K H E (⟨some d, .call ⟨.builtin .len, #[x], #[s]⟩, ty, ps, af, g⟩ :: rest) := sq hg hd (q_lens hx) h
theorem scp  {u : Option Addr} {len cap e sz bs s : Nat} [hs : Slc P s e sz bs] (h : SQ P n ds pu w0 D ops Q K H ((d, .int .i64 cap) :: E) rest)  (hx : opv E x = some (.slice u len cap) := by rfl) (hg : gd ops E g = some true := by rfl) (hd : Nat.blt d n = true := by rfl) : SQ P n ds pu w0 D ops Q K H E (⟨some d, .call ⟨.builtin .cap, #[x], #[s]⟩, ty, ps, af, g⟩ :: rest) := sq hg hd (q_cap hx) h
theorem dcp  {u : Option Addr} {len cap e sz bs s : Nat} [hs : Slc P s e sz bs] (h : DQ P n ds pu w0 D ops Q' H ((d, .int .i64 cap) :: E) rest)  (hx : opv E x = some (.slice u len cap) := by rfl) (hg : gd ops E g = some true := by rfl) (hd : Nat.blt d n = true := by rfl) : DQ P n ds pu w0 D ops Q' H E (⟨some d, .call ⟨.builtin .cap, #[x], #[s]⟩, ty, ps, af, g⟩ :: rest) := dq hg hd (q_cap hx) h
theorem spt   (h : SQ P n ds pu w0 D ops Q K H ((d, v) :: E) rest) (hz : opv E z = some (.bool true) := by rfl) (hx : opv E x = some v := by rfl) (hg : gd ops E g = some true := by rfl) (hd : Nat.blt d n = true := by rfl) : SQ P n ds pu w0 D ops Q K H E (⟨some d, .pick z x y, ty, ps, af, g⟩ :: rest) := sq hg hd (q_pick_t hz hx) h
theorem dpt   (h : DQ P n ds pu w0 D ops Q' H ((d, v) :: E) rest) (hz : opv E z = some (.bool true) := by rfl) (hx : opv E x = some v := by rfl) (hg : gd ops E g = some true := by rfl) (hd : Nat.blt d n = true := by rfl) : DQ P n ds pu w0 D ops Q' H E (⟨some d, .pick z x y, ty, ps, af, g⟩ :: rest) := dq hg hd (q_pick_t hz hx) h
theorem spf   (h : SQ P n ds pu w0 D ops Q K H ((d, v) :: E) rest) (hz : opv E z = some (.bool false) := by rfl) (hy : opv E y = some v := by rfl) (hg : gd ops E g = some true := by rfl) (hd : Nat.blt d n = true := by rfl) : SQ P n ds pu w0 D ops Q K H E (⟨some d, .pick z x y, ty, ps, af, g⟩ :: rest) := sq hg hd (q_pick_f hz hy) h
theorem dpf   (h : DQ P n ds pu w0 D ops Q' H ((d, v) :: E) rest) (hz : opv E z = some (.bool false) := by rfl) (hy : opv E y = some v := by rfl) (hg : gd ops E g = some true := by rfl) (hd : Nat.blt d n = true := by rfl) : DQ P n ds pu w0 D ops Q' H E (⟨some d, .pick z x y, ty, ps, af, g⟩ :: rest) := dq hg hd (q_pick_f hz hy) h
theorem snt  {b : Bool} (h : SQ P n ds pu w0 D ops Q K H ((d, .bool (!b)) :: E) rest)  (hx : opv E x = some (.bool b) := by rfl) (hg : gd ops E g = some true := by rfl) (hd : Nat.blt d n = true := by rfl) : SQ P n ds pu w0 D ops Q K H E (⟨some d, .unOp .not t x, ty, ps, af, g⟩ :: rest) := sq hg hd (q_not hx) h
theorem dnt  {b : Bool} (h : DQ P n ds pu w0 D ops Q' H ((d, .bool (!b)) :: E) rest)  (hx : opv E x = some (.bool b) := by rfl) (hg : gd ops E g = some true := by rfl) (hd : Nat.blt d n = true := by rfl) : DQ P n ds pu w0 D ops Q' H E (⟨some d, .unOp .not t x, ty, ps, af, g⟩ :: rest) := dq hg hd (q_not hx) h
theorem sex  {i : Nat} {vs : Array Value} (h : SQ P n ds pu w0 D ops Q K H ((d, v) :: E) rest)  (hx : opv E x = some (.tuple vs) := by rfl) (hv : vs[i]? = some v := by rfl) (hg : gd ops E g = some true := by rfl) (hd : Nat.blt d n = true := by rfl) : SQ P n ds pu w0 D ops Q K H E (⟨some d, .extract x i, ty, ps, af, g⟩ :: rest) := sq hg hd (kY hx hv) h
theorem dex  {i : Nat} {vs : Array Value} (h : DQ P n ds pu w0 D ops Q' H ((d, v) :: E) rest)  (hx : opv E x = some (.tuple vs) := by rfl) (hv : vs[i]? = some v := by rfl) (hg : gd ops E g = some true := by rfl) (hd : Nat.blt d n = true := by rfl) : DQ P n ds pu w0 D ops Q' H E (⟨some d, .extract x i, ty, ps, af, g⟩ :: rest) := dq hg hd (kY hx hv) h
theorem seq1   (h : SQ P n ds pu w0 D ops Q K H ((d, .bool true) :: E) rest) (hx : opv E x = some (.int k p) := by rfl) (hy : opv E y = some (.int k q) := by rfl) (hc : p = q := by first | omega | (dsimp only; omega)) (hg : gd ops E g = some true := by rfl) (hd : Nat.blt d n = true := by rfl) : SQ P n ds pu w0 D ops Q K H E (⟨some d, .binOp .eql t x y t2, ty, ps, af, g⟩ :: rest) := sq hg hd (q_eq1 hx hy hc) h
theorem deq1   (h : DQ P n ds pu w0 D ops Q' H ((d, .bool true) :: E) rest) (hx : opv E x = some (.int k p) := by rfl) (hy : opv E y = some (.int k q) := by rfl) (hc : p = q := by first | omega | (dsimp only; omega)) (hg : gd ops E g = some true := by rfl) (hd : Nat.blt d n = true := by rfl) : DQ P n ds pu w0 D ops Q' H E (⟨some d, .binOp .eql t x y t2, ty, ps, af, g⟩ :: rest) := dq hg hd (q_eq1 hx hy hc) h
theorem kz   (h : SQ P n ds pu w0 D ops Q K H ((d, .bool false) :: E) rest) (hx : opv E x = some (.int k p) := by rfl) (hy : opv E y = some (.int k q) := by rfl) (hc : p ≠ q := by first | omega | (dsimp only; omega)) (hg : gd ops E g = some true := by rfl) (hd : Nat.blt d n = true := by rfl) : SQ P n ds pu w0 D ops Q K H E (⟨some d, .binOp .eql t x y t2, ty, ps, af, g⟩ :: rest) := sq hg hd (q_eq0 hx hy hc) h
theorem deq0   (h : DQ P n ds pu w0 D ops Q' H ((d, .bool false) :: E) rest) (hx : opv E x = some (.int k p) := by rfl) (hy : opv E y = some (.int k q) := by rfl) (hc : p ≠ q := by first | omega | (dsimp only; omega)) (hg : gd ops E g = some true := by rfl) (hd : Nat.blt d n = true := by rfl) : DQ P n ds pu w0 D ops Q' H E (⟨some d, .binOp .eql t x y t2, ty, ps, af, g⟩ :: rest) := dq hg hd (q_eq0 hx hy hc) h
theorem sne1   (h : SQ P n ds pu w0 D ops Q K H ((d, .bool true) :: E) rest) (hx : opv E x = some (.int k p) := by rfl) (hy : opv E y = some (.int k q) := by rfl) (hc : p ≠ q := by first | omega | (dsimp only; omega)) (hg : gd ops E g = some true := by rfl) (hd : Nat.blt d n = true := by rfl) : SQ P n ds pu w0 D ops Q K H E (⟨some d, .binOp .neq t x y t2, ty, ps, af, g⟩ :: rest) := sq hg hd (q_ne1 hx hy hc) h
theorem dne1   (h : DQ P n ds pu w0 D ops Q' H ((d, .bool true) :: E) rest) (hx : opv E x = some (.int k p) := by rfl) (hy : opv E y = some (.int k q) := by rfl) (hc : p ≠ q := by first | omega | (dsimp only; omega)) (hg : gd ops E g = some true := by rfl) (hd : Nat.blt d n = true := by rfl) : DQ P n ds pu w0 D ops Q' H E (⟨some d, .binOp .neq t x y t2, ty, ps, af, g⟩ :: rest) := dq hg hd (q_ne1 hx hy hc) h
theorem sne0   (h : SQ P n ds pu w0 D ops Q K H ((d, .bool false) :: E) rest) (hx : opv E x = some (.int k p) := by rfl) (hy : opv E y = some (.int k q) := by rfl) (hc : p = q := by first | omega | (dsimp only; omega)) (hg : gd ops E g = some true := by rfl) (hd : Nat.blt d n = true := by rfl) : SQ P n ds pu w0 D ops Q K H E (⟨some d, .binOp .neq t x y t2, ty, ps, af, g⟩ :: rest) := sq hg hd (q_ne0 hx hy hc) h
theorem dne0   (h : DQ P n ds pu w0 D ops Q' H ((d, .bool false) :: E) rest) (hx : opv E x = some (.int k p) := by rfl) (hy : opv E y = some (.int k q) := by rfl) (hc : p = q := by first | omega | (dsimp only; omega)) (hg : gd ops E g = some true := by rfl) (hd : Nat.blt d n = true := by rfl) : DQ P n ds pu w0 D ops Q' H E (⟨some d, .binOp .neq t x y t2, ty, ps, af, g⟩ :: rest) := dq hg hd (q_ne0 hx hy hc) h
theorem slt1   (h : SQ P n ds pu w0 D ops Q K H ((d, .bool true) :: E) rest) (hx : opv E x = some (.int k p) := by rfl) (hy : opv E y = some (.int k q) := by rfl) (hc : p < q := by first | omega | (dsimp only; omega)) (hg : gd ops E g = some true := by rfl) (hd : Nat.blt d n = true := by rfl) : SQ P n ds pu w0 D ops Q K H E (⟨some d, .binOp .lss t x y t2, ty, ps, af, g⟩ :: rest) := sq hg hd (q_lt1 hx hy hc) h
theorem dlt1   (h : DQ P n ds pu w0 D ops Q' H ((d, .bool true) :: E) rest) (hx : opv E x = some (.int k p) := by rfl) (hy : opv E y = some (.int k q) := by rfl) (hc : p < q := by first | omega | (dsimp only; omega)) (hg : gd ops E g = some true := by rfl) (hd : Nat.blt d n = true := by rfl) : DQ P n ds pu w0 D ops Q' H E (⟨some d, .binOp .lss t x y t2, ty, ps, af, g⟩ :: rest) := dq hg hd (q_lt1 hx hy hc) h
theorem slt0   (h : SQ P n ds pu w0 D ops Q K H ((d, .bool false) :: E) rest) (hx : opv E x = some (.int k p) := by rfl) (hy : opv E y = some (.int k q) := by rfl) (hc : ¬ p < q := by first | omega | (dsimp only; omega)) (hg : gd ops E g = some true := by rfl) (hd : Nat.blt d n = true := by rfl) : SQ P n ds pu w0 D ops Q K H E (⟨some d, .binOp .lss t x y t2, ty, ps, af, g⟩ :: rest) := sq hg hd (q_lt0 hx hy hc) h
theorem dlt0   (h : DQ P n ds pu w0 D ops Q' H ((d, .bool false) :: E) rest) (hx : opv E x = some (.int k p) := by rfl) (hy : opv E y = some (.int k q) := by rfl) (hc : ¬ p < q := by first | omega | (dsimp only; omega)) (hg : gd ops E g = some true := by rfl) (hd : Nat.blt d n = true := by rfl) : DQ P n ds pu w0 D ops Q' H E (⟨some d, .binOp .lss t x y t2, ty, ps, af, g⟩ :: rest) := dq hg hd (q_lt0 hx hy hc) h
theorem sle1   (h : SQ P n ds pu w0 D ops Q K H ((d, .bool true) :: E) rest) (hx : opv E x = some (.int k p) := by rfl) (hy : opv E y = some (.int k q) := by rfl) (hc : p ≤ q := by first | omega | (dsimp only; omega)) (hg : gd ops E g = some true := by rfl) (hd : Nat.blt d n = true := by rfl) : SQ P n ds pu w0 D ops Q K H E (⟨some d, .binOp .leq t x y t2, ty, ps, af, g⟩ :: rest) := sq hg hd (q_le1 hx hy hc) h
theorem sle0   (h : SQ P n ds pu w0 D ops Q K H ((d, .bool false) :: E) rest) (hx : opv E x = some (.int k p) := by rfl) (hy : opv E y = some (.int k q) := by rfl) (hc : ¬ p ≤ q := by first | omega | (dsimp only; omega)) (hg : gd ops E g = some true := by rfl) (hd : Nat.blt d n = true := by rfl) : SQ P n ds pu w0 D ops Q K H E (⟨some d, .binOp .leq t x y t2, ty, ps, af, g⟩ :: rest) := sq hg hd (q_le0 hx hy hc) h
theorem sgt1   (h : SQ P n ds pu w0 D ops Q K H ((d, .bool true) :: E) rest) (hx : opv E x = some (.int k p) := by rfl) (hy : opv E y = some (.int k q) := by rfl) (hc : q < p := by first | omega | (dsimp only; omega)) (hg : gd ops E g = some true := by rfl) (hd : Nat.blt d n = true := by rfl) : SQ P n ds pu w0 D ops Q K H E (⟨some d, .binOp .gtr t x y t2, ty, ps, af, g⟩ :: rest) := sq hg hd (q_gt1 hx hy hc) h
theorem dgt1   (h : DQ P n ds pu w0 D ops Q' H ((d, .bool true) :: E) rest) (hx : opv E x = some (.int k p) := by rfl) (hy : opv E y = some (.int k q) := by rfl) (hc : q < p := by first | omega | (dsimp only; omega)) (hg : gd ops E g = some true := by rfl) (hd : Nat.blt d n = true := by rfl) : DQ P n ds pu w0 D ops Q' H E (⟨some d, .binOp .gtr t x y t2, ty, ps, af, g⟩ :: rest) := dq hg hd (q_gt1 hx hy hc) h
theorem sgt0   (h : SQ P n ds pu w0 D ops Q K H ((d, .bool false) :: E) rest) (hx : opv E x = some (.int k p) := by rfl) (hy : opv E y = some (.int k q) := by rfl) (hc : ¬ q < p := by first | omega | (dsimp only; omega)) (hg : gd ops E g = some true := by rfl) (hd : Nat.blt d n = true := by rfl) : SQ P n ds pu w0 D ops Q K H E (⟨some d, .binOp .gtr t x y t2, ty, ps, af, g⟩ :: rest) := sq hg hd (q_gt0 hx hy hc) h
theorem dgt0   (h : DQ P n ds pu w0 D ops Q' H ((d, .bool false) :: E) rest) (hx : opv E x = some (.int k p) := by rfl) (hy : opv E y = some (.int k q) := by rfl) (hc : ¬ q < p := by first | omega | (dsimp only; omega)) (hg : gd ops E g = some true := by rfl) (hd : Nat.blt d n = true := by rfl) : DQ P n ds pu w0 D ops Q' H E (⟨some d, .binOp .gtr t x y t2, ty, ps, af, g⟩ :: rest) := dq hg hd (q_gt0 hx hy hc) h
theorem sge1   (h : SQ P n ds pu w0 D ops Q K H ((d, .bool true) :: E) rest) (hx : opv E x = some (.int k p) := by rfl) (hy : opv E y = some (.int k q) := by rfl) (hc : q ≤ p := by first | omega | (dsimp only; omega)) (hg : gd ops E g = some true := by rfl) (hd : Nat.blt d n = true := by rfl) : SQ P n ds pu w0 D ops Q K H E (⟨some d, .binOp .geq t x y t2, ty, ps, af, g⟩ :: rest) := sq hg hd (q_ge1 hx hy hc) h
theorem dge1   (h : DQ P n ds pu w0 D ops Q' H ((d, .bool true) :: E) rest) (hx : opv E x = some (.int k p) := by rfl) (hy : opv E y = some (.int k q) := by rfl) (hc : q ≤ p := by first | omega | (dsimp only; omega)) (hg : gd ops E g = some true := by rfl) (hd : Nat.blt d n = true := by rfl) : DQ P n ds pu w0 D ops Q' H E (⟨some d, .binOp .geq t x y t2, ty, ps, af, g⟩ :: rest) := dq hg hd (q_ge1 hx hy hc) h
theorem sge0   (h : SQ P n ds pu w0 D ops Q K H ((d, .bool false) :: E) rest) (hx : opv E x = some (.int k p) := by rfl) (hy : opv E y = some (.int k q) := by rfl) (hc : ¬ q ≤ p := by first | omega | (dsimp only; omega)) (hg : gd ops E g = some true := by rfl) (hd : Nat.blt d n = true := by rfl) : SQ P n ds pu w0 D ops Q K H E (⟨some d, .binOp .geq t x y t2, ty, ps, af, g⟩ :: rest) := sq hg hd (q_ge0 hx hy hc) h
theorem dge0   (h : DQ P n ds pu w0 D ops Q' H ((d, .bool false) :: E) rest) (hx : opv E x = some (.int k p) := by rfl) (hy : opv E y = some (.int k q) := by rfl) (hc : ¬ q ≤ p := by first | omega | (dsimp only; omega)) (hg : gd ops E g = some true := by rfl) (hd : Nat.blt d n = true := by rfl) : DQ P n ds pu w0 D ops Q' H E (⟨some d, .binOp .geq t x y t2, ty, ps, af, g⟩ :: rest) := dq hg hd (q_ge0 hx hy hc) h
theorem sad  {a b : Nat} (h : SQ P n ds pu w0 D ops Q K H ((d, .int .i64 ((a + b : Nat) : Int)) :: E) rest)  (hx : opv E x = some (.int .i64 (a : Int)) := by rfl) (hy : opv E y = some (.int .i64 (b : Int)) := by rfl) (hc : (a : Int) + b ≤ 9223372036854775807 := by first | omega | (dsimp only; omega)) (hg : gd ops E g = some true := by rfl) (hd : Nat.blt d n = true := by rfl) : SQ P n ds pu w0 D ops Q K H E (⟨some d, .binOp .add t x y t2, ty, ps, af, g⟩ :: rest) := sq hg hd (q_addn hx hy hc) h
theorem dad  {a b : Nat} (h : DQ P n ds pu w0 D ops Q' H ((d, .int .i64 ((a + b : Nat) : Int)) :: E) rest)  (hx : opv E x = some (.int .i64 (a : Int)) := by rfl) (hy : opv E y = some (.int .i64 (b : Int)) := by rfl) (hc : (a : Int) + b ≤ 9223372036854775807 := by first | omega | (dsimp only; omega)) (hg : gd ops E g = some true := by rfl) (hd : Nat.blt d n = true := by rfl) : DQ P n ds pu w0 D ops Q' H E (⟨some d, .binOp .add t x y t2, ty, ps, af, g⟩ :: rest) := dq hg hd (q_addn hx hy hc) h
theorem ssb  {a b : Nat} (h : SQ P n ds pu w0 D ops Q K H ((d, .int .i64 ((a - b : Nat) : Int)) :: E) rest)  (hx : opv E x = some (.int .i64 (a : Int)) := by rfl) (hy : opv E y = some (.int .i64 (b : Int)) := by rfl) (hc : b ≤ a ∧ (a : Int) ≤ 9223372036854775807 := by first | omega | (dsimp only; omega)) (hg : gd ops E g = some true := by rfl) (hd : Nat.blt d n = true := by rfl) : SQ P n ds pu w0 D ops Q K H E (⟨some d, .binOp .sub t x y t2, ty, ps, af, g⟩ :: rest) := sq hg hd (q_subn hx hy hc) h
theorem dsb  {a b : Nat} (h : DQ P n ds pu w0 D ops Q' H ((d, .int .i64 ((a - b : Nat) : Int)) :: E) rest)  (hx : opv E x = some (.int .i64 (a : Int)) := by rfl) (hy : opv E y = some (.int .i64 (b : Int)) := by rfl) (hc : b ≤ a ∧ (a : Int) ≤ 9223372036854775807 := by first | omega | (dsimp only; omega)) (hg : gd ops E g = some true := by rfl) (hd : Nat.blt d n = true := by rfl) : DQ P n ds pu w0 D ops Q' H E (⟨some d, .binOp .sub t x y t2, ty, ps, af, g⟩ :: rest) := dq hg hd (q_subn hx hy hc) h
theorem sadc (b : Nat)  {a : Nat} (h : SQ P n ds pu w0 D ops Q K H ((d, .int .i64 ((a + b : Nat) : Int)) :: E) rest)  (hx : opv E x = some (.int .i64 (a : Int)) := by rfl) (hy : opv E y = some (.int .i64 (b : Int)) := by rfl) (hc : (a : Int) + b ≤ 9223372036854775807 := by first | omega | (dsimp only; omega)) (hg : gd ops E g = some true := by rfl) (hd : Nat.blt d n = true := by rfl) : SQ P n ds pu w0 D ops Q K H E (⟨some d, .binOp .add t x y t2, ty, ps, af, g⟩ :: rest) := sq hg hd (q_addn hx hy hc) h
theorem dadc (b : Nat)  {a : Nat} (h : DQ P n ds pu w0 D ops Q' H ((d, .int .i64 ((a + b : Nat) : Int)) :: E) rest)  (hx : opv E x = some (.int .i64 (a : Int)) := by rfl) (hy : opv E y = some (.int .i64 (b : Int)) := by rfl) (hc : (a : Int) + b ≤ 9223372036854775807 := by first | omega | (dsimp only; omega)) (hg : gd ops E g = some true := by rfl) (hd : Nat.blt d n = true := by rfl) : DQ P n ds pu w0 D ops Q' H E (⟨some d, .binOp .add t x y t2, ty, ps, af, g⟩ :: rest) := dq hg hd (q_addn hx hy hc) h
theorem ssbc (b : Nat)  {a : Nat} (h : SQ P n ds pu w0 D ops Q K H ((d, .int .i64 ((a - b : Nat) : Int)) :: E) rest)  (hx : opv E x = some (.int .i64 (a : Int)) := by rfl) (hy : opv E y = some (.int .i64 (b : Int)) := by rfl) (hc : b ≤ a ∧ (a : Int) ≤ 9223372036854775807 := by first | omega | (dsimp only; omega)) (hg : gd ops E g = some true := by rfl) (hd : Nat.blt d n = true := by rfl) : SQ P n ds pu w0 D ops Q K H E (⟨some d, .binOp .sub t x y t2, ty, ps, af, g⟩ :: rest) := sq hg hd (q_subn hx hy hc) h
theorem dsbc (b : Nat)  {a : Nat} (h : DQ P n ds pu w0 D ops Q' H ((d, .int .i64 ((a - b : Nat) : Int)) :: E) rest)  (hx : opv E x = some (.int .i64 (a : Int)) := by rfl) (hy : opv E y = some (.int .i64 (b : Int)) := by rfl) (hc : b ≤ a ∧ (a : Int) ≤ 9223372036854775807 := by first | omega | (dsimp only; omega)) (hg : gd ops E g = some true := by rfl) (hd : Nat.blt d n = true := by rfl) : DQ P n ds pu w0 D ops Q' H E (⟨some d, .binOp .sub t x y t2, ty, ps, af, g⟩ :: rest) := dq hg hd (q_subn hx hy hc) h
theorem sca {f : Nat} {l : List Operand} {ats : Array TypeId} {args : List Value} {Hc Hf : zl} [Callee P f] (hf : PF P f args Hc v)  [hs : Sel H Hc Hf] (h : SQ P n ds pu w0 D ops Q K H ((d, v) :: E) rest)  (hx : opvs E l = some args := by rfl) (hg : gd ops E g = some true := by rfl) (hd : Nat.blt d n = true := by rfl) : SQ P n ds pu w0 D ops Q K H E (⟨some d, .call ⟨.value (.func f), l.toArray, ats⟩, ty, ps, af, g⟩ :: rest) := sqc hg hd (q_call hx hf) h
theorem dca {f : Nat} {l : List Operand} {ats : Array TypeId} {args : List Value} {Hc Hf : zl} [Callee P f] (hf : PF P f args Hc v)  [hs : Sel H Hc Hf] (h : DQ P n ds pu w0 D ops Q' H ((d, v) :: E) rest)  (hx : opvs E l = some args := by rfl) (hg : gd ops E g = some true := by rfl) (hd : Nat.blt d n = true := by rfl) : DQ P n ds pu w0 D ops Q' H E (⟨some d, .call ⟨.value (.func f), l.toArray, ats⟩, ty, ps, af, g⟩ :: rest) := dqc hg hd (q_call hx hf) h
theorem sun {op : Op} (h : SQ P n ds pu w0 D ops Q K H ((d, undef) :: E) rest) (hg : gd ops E g = some false := by rfl) (hd : Nat.blt d n = true := by rfl) : SQ P n ds pu w0 D ops Q K H E (⟨some d, op, ty, ps, af, g⟩ :: rest) := sq0 hg hd h
theorem dun {op : Op} (h : DQ P n ds pu w0 D ops Q' H ((d, undef) :: E) rest) (hg : gd ops E g = some false := by rfl) (hd : Nat.blt d n = true := by rfl) : DQ P n ds pu w0 D ops Q' H E (⟨some d, op, ty, ps, af, g⟩ :: rest) := dq0 hg hd h
theorem srd {d1 d2 d3 d4 : Nat} {ty2 ty3 ty4 : TypeId} {ps2 ps3 ps4 : String} {af2 af3 af4 : Array Edge} {g2 g3 g4 : Option (Nat × Bool)} {s f kk b o : Nat} {kb : Blk} [hf : Fld P s f kk] [qn P t] (hx : opv E x = some (.pointer (some ⟨b, o, none⟩))) [hh : Has H b kb]
 (h : SQ P n ds pu w0 D ops Q K H ((d4, v) :: (d3, .pointer (some ⟨b, o + kk, none⟩)) :: (d2, .pointer (some ⟨b, o, none⟩)) :: (d1, .pointer (some ⟨b, o, none⟩)) :: E) rest) (h0 : Nat.ble kb.lo (o + kk) = true := by rfl) (hi : Nat.blt (o + kk) kb.known = true := by rfl) (hv : kb.cell (o + kk) = some v := by rfl)
 (hg1 : gd ops E g = some true := by rfl) (hg2 : gd ops ((d1, .pointer (some ⟨b, o, none⟩)) :: E) g2 = some true := by rfl) (hg3 : gd ops ((d2, .pointer (some ⟨b, o, none⟩)) :: (d1, .pointer (some ⟨b, o, none⟩)) :: E) g3 = some true := by rfl) (hg4 : gd ops ((d3, .pointer (some ⟨b, o + kk, none⟩)) :: (d2, .pointer (some ⟨b, o, none⟩)) :: (d1, .pointer (some ⟨b, o, none⟩)) :: E) g4 = some true := by rfl)
 (hd1 : Nat.blt d1 n = true := by rfl) (hd2 : Nat.blt d2 n = true := by rfl) (hd3 : Nat.blt d3 n = true := by rfl) (hd4 : Nat.blt d4 n = true := by rfl) :
 SQ P n ds pu w0 D ops Q K H E (⟨some d1, .move x, ty, ps, af, g⟩ :: ⟨some d2, .nilCheck (.tmp d1), ty2, ps2, af2, g2⟩ :: ⟨some d3, .fieldAddr s (.tmp d2) f, ty3, ps3, af3, g3⟩ :: ⟨some d4, .load t (.tmp d3), ty4, ps4, af4, g4⟩ :: rest) := by
 have lk : ∀ (d : Nat) (v : Value) (E : Env), opv ((d, v) :: E) (.tmp d) = some v := fun d v E => by simp [opv, look, show Nat.beq d d = true from Nat.beq_refl d]
 refine smv ?_ hx hg1 hd1
 refine snc ?_ (lk _ _ _) hg2 hd2
 refine sfa ?_ (lk _ _ _) hg3 hd3
 exact sld (lk _ _ _) h h0 hi hv hg4 hd4
theorem drd {d1 d2 d3 d4 : Nat} {ty2 ty3 ty4 : TypeId} {ps2 ps3 ps4 : String} {af2 af3 af4 : Array Edge} {g2 g3 g4 : Option (Nat × Bool)} {s f kk b o : Nat} {kb : Blk} [hf : Fld P s f kk] [qn P t] (hx : opv E x = some (.pointer (some ⟨b, o, none⟩))) [hh : Has H b kb]
 (h : DQ P n ds pu w0 D ops Q' H ((d4, v) :: (d3, .pointer (some ⟨b, o + kk, none⟩)) :: (d2, .pointer (some ⟨b, o, none⟩)) :: (d1, .pointer (some ⟨b, o, none⟩)) :: E) rest) (h0 : Nat.ble kb.lo (o + kk) = true := by rfl) (hi : Nat.blt (o + kk) kb.known = true := by rfl) (hv : kb.cell (o + kk) = some v := by rfl)
 (hg1 : gd ops E g = some true := by rfl) (hg2 : gd ops ((d1, .pointer (some ⟨b, o, none⟩)) :: E) g2 = some true := by rfl) (hg3 : gd ops ((d2, .pointer (some ⟨b, o, none⟩)) :: (d1, .pointer (some ⟨b, o, none⟩)) :: E) g3 = some true := by rfl) (hg4 : gd ops ((d3, .pointer (some ⟨b, o + kk, none⟩)) :: (d2, .pointer (some ⟨b, o, none⟩)) :: (d1, .pointer (some ⟨b, o, none⟩)) :: E) g4 = some true := by rfl)
 (hd1 : Nat.blt d1 n = true := by rfl) (hd2 : Nat.blt d2 n = true := by rfl) (hd3 : Nat.blt d3 n = true := by rfl) (hd4 : Nat.blt d4 n = true := by rfl) :
 DQ P n ds pu w0 D ops Q' H E (⟨some d1, .move x, ty, ps, af, g⟩ :: ⟨some d2, .nilCheck (.tmp d1), ty2, ps2, af2, g2⟩ :: ⟨some d3, .fieldAddr s (.tmp d2) f, ty3, ps3, af3, g3⟩ :: ⟨some d4, .load t (.tmp d3), ty4, ps4, af4, g4⟩ :: rest) := by
 have lk : ∀ (d : Nat) (v : Value) (E : Env), opv ((d, v) :: E) (.tmp d) = some v := fun d v E => by simp [opv, look, show Nat.beq d d = true from Nat.beq_refl d]
 refine dmv ?_ hx hg1 hd1
 refine dnc ?_ (lk _ _ _) hg2 hd2
 refine dfa ?_ (lk _ _ _) hg3 hd3
 exact dld (lk _ _ _) h h0 hi hv hg4 hd4
theorem st1 {b i lt : Nat} {ll : List Value} {ov : List (Nat × Value)} (hx : opv E x = some (.pointer (some ⟨b, i, none⟩))) (hy : opv E y = some v) [qi P t 1] [hh : Has H b (.cs lt ll ov)] [hu : Upd H b (.cs lt ll ((i, v) :: ov)) H'] (h : SQ P n ds false w0 D ops Q K H' E rest) (hv : v.oneCell' = true := by rfl)
 (hi : Nat.blt i ll.length = true := by rfl) (hg : gd ops E g = some true := by rfl) : SQ P n ds false w0 D ops Q K H E (⟨none, .store t x y, ty, ps, af, g⟩ :: rest) := sln hg (l_store hx hy hv hi) h
theorem str {b i lt m : Nat} {f : Nat → Value} (hx : opv E x = some (.pointer (some ⟨b, i, none⟩))) (hy : opv E y = some v) [qi P t 1] [hh : Has H b (.row lt (0, 0) m f)] [hu : Upd H b (.row lt (0, 0) m (fun j => if j = i then v else f j)) H'] (h : SQ P n ds false w0 D ops Q K H' E rest) (hv : v.oneCell' = true := by rfl)
 (hi : i < m := by first | omega | (dsimp only; omega)) (hg : gd ops E g = some true := by rfl) : SQ P n ds false w0 D ops Q K H E (⟨none, .store t x y, ty, ps, af, g⟩ :: rest) := sln hg (l_storer hx hy hv hi) h
theorem stb {b i lt m : Nat} {l : List Value} (hx : opv E x = some (.pointer (some ⟨b, i, none⟩))) (hy : opv E y = some v) [qi P t 1] [hh : Has H b (.buf lt m l)] [hu : Upd H b (.buf lt m (l ++ [v])) H'] (h : SQ P n ds false w0 D ops Q K H' E rest) (hv : v.oneCell' = true := by rfl)
 (hi : i < m := by first | omega | (dsimp only; omega)) (hl : l.length = i := by first | omega | (dsimp only; omega)) (hg : gd ops E g = some true := by rfl) : SQ P n ds false w0 D ops Q K H E (⟨none, .store t x y, ty, ps, af, g⟩ :: rest) := sln hg (l_storeb hx hy hv hi hl) h
theorem stw {b m lt : Nat} {ll vs : List Value} {ov : List (Nat × Value)} (hx : opv E x = some (pV b)) (hy : opv E y = some (.agg vs.toArray)) [hs : qi P t m] [hh : Has H b (.cs lt ll ov)] [hu : Upd H b (.cs lt vs []) H'] (h : SQ P n ds false w0 D ops Q K H' E rest) (hv : allOne vs = true := by rfl)
 (hm : vs.length = m := by rfl) (hi : ll.length = m := by rfl) (hg : gd ops E g = some true := by rfl) : SQ P n ds false w0 D ops Q K H E (⟨none, .store t x y, ty, ps, af, g⟩ :: rest) := sln hg (l_storew hx hy hv hm hi) h
theorem sts {b i m lt : Nat} {ll vs : List Value} {ov : List (Nat × Value)} (hx : opv E x = some (.pointer (some ⟨b, i, none⟩))) (hy : opv E y = some (.agg vs.toArray)) [hs : qi P t m] [hh : Has H b (.cs lt ll ov)] [hu : Upd H b (.cs lt ll (ovs i vs ov)) H'] (h : SQ P n ds false w0 D ops Q K H' E rest) (hv : allOne vs = true := by rfl)
 (hm : vs.length = m := by rfl) (hi : Nat.ble (i + m) ll.length = true := by rfl) (hg : gd ops E g = some true := by rfl) : SQ P n ds false w0 D ops Q K H E (⟨none, .store t x y, ty, ps, af, g⟩ :: rest) := sln hg (l_stores hx hy hv hm hi) h
end
section
variable {P : Program} {n : Nat} {ds : List Deferred} {pu : Bool} {w0 : World} {D : List Nat} {H H' : zl} {E E' : Env} {ops : Array Oper} {Q : Exit → Act → World → Prop} {Q' K : Act → World → Prop} {rest : List Oper} {v : Value} {c : Code}
variable {ty : TypeId} {ps : String} {af : Array Edge} {g : Option (Nat × Bool)} {x y : Operand} {d : Option Nat} {k : IntKind} {p : Int}
def EVR (P : Program) (n : Nat) (ds : List Deferred) (pu : Bool) (w0 : World) (D : List Nat) (m : Nat) (c : Code) (Q : Exit → Act → World → Prop) (H : zl) (E : Env) : Prop := ∀ a w, EOK n ds E a → WOK pu w0 D H w → Code.rounds P c Q m a w
theorem qg (m : Nat) (h : EVR P n ds pu w0 D m c Q H E) : EV P n ds pu w0 D (.loop c) Q H E := fun a w he hw => wp_loop_rounds m (h a w he hw)
theorem kn {m : Nat} (h : EV P n ds pu w0 D c (Exit.then (Code.rounds P c Q m) Q) H E) : EVR P n ds pu w0 D (m + 1) c Q H E := fun a w he hw => (rounds_succ (P := P)).mpr (h a w he hw)
theorem kX {m : Nat} (h : EVR P n ds pu w0 D m c Q H E) : LF n ds pu w0 D (Exit.then (Code.rounds P c Q m) Q) .normal H E := h
theorem zt (H' : zl) (E' : Env) (hH : H = H') (hE : E = E') (h : EV P n ds pu w0 D c Q H' E') : EV P n ds pu w0 D c Q H E := by subst hH hE; exact h
theorem qH {e : Exit} (H' : zl) (E' : Env) (hH : H = H') (hE : E = E') (h : LF n ds pu w0 D Q e H' E') : LF n ds pu w0 D Q e H E := by subst hH hE; exact h
def MidE (n : Nat) (ds : List Deferred) (pu : Bool) (w0 : World) (D : List Nat) {σ : Type} (mE : σ → Env) (mH : σ → zl) (p : σ → Prop) (a : Act) (w : World) : Prop := ∃ s, p s ∧ EOK n ds (mE s) a ∧ WOK pu w0 D (mH s) w
theorem zL {σ : Type} (mE : σ → Env) (mH : σ → zl) (p : σ → Prop) {c c' : Code} (h : EV P n ds pu w0 D c (Exit.then (MidE n ds pu w0 D mE mH p) Q) H E) (k : ∀ s, p s → EV P n ds pu w0 D c' Q (mH s) (mE s)) : EV P n ds pu w0 D (.seq c c') Q H E := fun a w he hw => wp_seq (wp_mono (h a w he hw) (by
 intro e a' w' hq
 cases e <;> first | exact hq | skip
 obtain ⟨s, hp, he', hw'⟩ := hq
 exact k s hp a' w' he' hw'))
theorem zg {σ : Type} {mE : σ → Env} {mH : σ → zl} {p : σ → Prop} (s : σ) (hp : p s) (hE : Sub E (mE s)) (hH : Wk H (mH s)) : LF n ds pu w0 D (Exit.then (MidE n ds pu w0 D mE mH p) Q) .normal H E :=
 fun _ _ he hw => ⟨s, hp, he.sub hE, hH _ _ _ _ hw⟩
class SelB (H : zl) (bs : List Nat) (Hc : outParam zl) where
 is : ∃ Hf, H.Perm (Hc ++ Hf)
instance {H : zl} : SelB H [] [] := ⟨H, List.Perm.refl _⟩
instance {H H1 r : zl} {b : Nat} {bs : List Nat} {k : Blk} [h : Rem H b k H1] [h2 : SelB H1 bs r] : SelB H (b :: bs) ((b, k) :: r) := ⟨by
 obtain ⟨Hf, hp⟩ := h2.is
 obtain ⟨l, s, rfl, rfl⟩ := h.is
 exact ⟨Hf, List.perm_middle.trans (hp.cons _)⟩⟩
theorem Wk.to {H Hc H' : zl} (bs : List Nat) [h : SelB H bs Hc] (hw : Wl Hc H') : Wk H H' := by
 refine Wk.trans ?_ (Wk.list hw)
 intro pu w0 D w hw
 obtain ⟨Hf, hp⟩ := h.is
 exact hw.mono (fun x hx => hp.mem_iff.2 (List.mem_append_left _ hx)) (hw.hok.perm hp).left.nodup
theorem ev_same {o : Operand} {b : Bool} (ho : opv E o = some (.bool b)) (h : EV P n ds pu w0 D c Q H E) : EV P n ds pu w0 D (.cond o c c) Q H E := kg ho (fun _ => h) (fun _ => h)
theorem q_convi32 {s1 s2 : TypeId} (hu1 : ∃ d1, P.underlying s1 = some d1) (hu : P.underlying s2 = some (.int .i32)) (hx : opv E x = some (.int k p)) (h0 : -2147483648 ≤ p) (h1 : p ≤ 2147483647) : Q1 P n ds pu w0 D H E ⟨d, .convert s1 s2 x, ty, ps, af, g⟩ (.int .i32 p) := by
 have := q_conv (n := n) (ds := ds) (pu := pu) (w0 := w0) (D := D) (H := H) (d := d) (ty := ty) (ps := ps) (af := af) (g := g) hu1 hu hx
 rwa [IntWalk.i32_in _ ⟨h0, h1⟩] at this
theorem q_convu8 {s1 s2 : TypeId} (hu1 : ∃ d1, P.underlying s1 = some d1) (hu : P.underlying s2 = some (.int .u8)) (hx : opv E x = some (.int k p)) (h0 : 0 ≤ p) (h1 : p ≤ 255) : Q1 P n ds pu w0 D H E ⟨d, .convert s1 s2 x, ty, ps, af, g⟩ (.int .u8 p) := by
 have := q_conv (n := n) (ds := ds) (pu := pu) (w0 := w0) (D := D) (H := H) (d := d) (ty := ty) (ps := ps) (af := af) (g := g) hu1 hu hx
 rwa [IntWalk.u8_in _ ⟨h0, h1⟩] at this
theorem l_stwin {t b i lt m lo hi : Nat} {f : Nat → Value} [qi P t 1] (hx : opv E x = some (.pointer (some ⟨b, i, none⟩))) (hy : opv E y = some v) (hv : v.oneCell' = true)
   [hh : Has H b (.win lt m lo hi f)] (hi' : i < m) (he : i = hi) (hf : f i = v) [hu : Upd H b (.win lt m lo (hi + 1) f) H'] : L1 P n ds false w0 D H E ⟨d, .store t x y, ty, ps, af, g⟩ undef H' := by
 subst he
 intro a w he hw
 obtain ⟨l', k0, r, rfl, rfl⟩ := hu.is
 have hk := kZ hw.hok.nodup hh.mem
 subst hk
 obtain ⟨u, hc⟩ := hw.hok.there hh.mem (i := i) hi'
 have hfr := hw.hok.frozen hh.mem (Nat.lt_of_le_of_lt (Nat.zero_le _) hi') rfl i
 refine ⟨w.setCell ⟨b, i, none⟩ v, .inr ⟨?_, rfl⟩, hw.set (v := v) (i := i) hi' rfl rfl rfl rfl (by simp only [Blk.known, Blk.len]; omega) (fun _ _ => ?_) ?_⟩
 · simp [execOp, he.eval hx, he.eval hy, Instr.storeAt, Instr.sureAddr, wj hv hc hfr]
 · simp [Blk.cell, hf]
 · intro j h0 hj hji
   simp only [Blk.known, Blk.lo] at *
   exact ⟨h0, by omega, rfl⟩
end
def bytes (X : List Nat) : List Value := X.map fun (c : Nat) => Value.int .u8 (c : Int)
def sb (X : List Nat) : ByteArray := ⟨(X.map UInt8.ofNat).toArray⟩
@[simp] theorem kx (X : List Nat) : (bytes X).length = X.length := by simp [bytes]
theorem ww (X : List Nat) : ∀ u ∈ bytes X, u.oneCell' = true := by
 intro u hu
 obtain ⟨c, _, rfl⟩ := List.mem_map.1 hu
 rfl
theorem qI (X Y : List Nat) : bytes (X ++ Y) = bytes X ++ bytes Y := by simp [bytes]
@[simp] theorem kF (X : List Nat) : (sb X).size = X.length := by simp [sb, ByteArray.size]
theorem sb_app (X Y : List Nat) : sb (X ++ Y) = sb X ++ sb Y := by
 apply ByteArray.ext
 simp [sb, ByteArray.data_append]
def sbl (s : ByteArray) : List Nat := s.data.toList.map UInt8.toNat
theorem sb_sbl (s : ByteArray) : sb (sbl s) = s := by
 apply ByteArray.ext
 apply Array.toList_inj.1
 simp [sb, sbl, Function.comp_def]
@[simp] theorem sbl_length (s : ByteArray) : (sbl s).length = s.size := by rw [sbl, List.length_map, Array.length_toList]; rfl
theorem sbl_lt (s : ByteArray) : ∀ c ∈ sbl s, c < 256 := by
 intro c hc
 obtain ⟨u, _, rfl⟩ := List.mem_map.1 hc
 exact u.toNat_lt
theorem sb_inj {X Y : List Nat} (hX : ∀ c ∈ X, c < 256) (hY : ∀ c ∈ Y, c < 256) (h : sb X = sb Y) : X = Y := by
 have h1 : (X.map UInt8.ofNat) = (Y.map UInt8.ofNat) := by
  have := congrArg (fun b => b.data.toList) h
  simpa [sb] using this
 have key : ∀ Z : List Nat, (∀ c ∈ Z, c < 256) → (Z.map UInt8.ofNat).map UInt8.toNat = Z := by
  intro Z hZ
  rw [List.map_map]
  conv => rhs; rw [← List.map_id Z]
  exact List.map_congr_left (fun c hc => by simp [UInt8.toNat_ofNat, Nat.mod_eq_of_lt (hZ c hc)])
 rw [← key X hX, ← key Y hY, h1]
section
variable {P : Program} {n : Nat} {ds : List Deferred} {pu : Bool} {w0 : World} {D : List Nat} {H H' : zl} {E : Env} {ops : Array Oper} {Q : Exit → Act → World → Prop} {Q' K : Act → World → Prop} {rest : List Oper} {v : Value}
variable {d : Option Nat} {ty : TypeId} {ps : String} {af : Array Edge} {g : Option (Nat × Bool)} {x y : Operand}
theorem q_bstr {t t2 e bs b o m c : Nat} {X : List Nat} [hs : Slc P t e 1 bs] (he : P.underlying e = some (.int .u8)) (hd : P.underlying t2 = some .string) (hx : opv E x = some (.slice (some ⟨b, o, none⟩) m c)) (hm : X.length = m) (hX : ∀ c ∈ X, c < 256)
  (hsrc : Src H b o (bytes X)) : Q1 P n ds pu w0 D H E ⟨d, .convert t t2 x, ty, ps, af, g⟩ (.string (sb X)) := by
 intro a w hE hw
 subst hm
 have h := run_convert_bytes_back (P := P) w t t2 e ⟨b, o, none⟩ c (X.map UInt8.ofNat) hs.is.1 he hd (fun j hj => by
  have hj' : j < X.length := by simpa using hj
  rw [kN]
  have := hsrc w hw.hok j (.int .u8 ((X[j] : Nat) : Int)) (by simp [bytes, hj'])
  rw [this]
  have hlt := hX X[j] (List.getElem_mem hj')
  simp only [List.getElem_map, UInt8.toNat_ofNat']
  rw [Nat.mod_eq_of_lt hlt])
 simp only [List.length_map] at h
 simp [execOp, hE.eval hx, h, sb]
theorem toList_beq (p q : ByteArray) : (p.toList == q.toList) = decide (p = q) := by
 rw [ByteArray.toList_eq, ByteArray.toList_eq]
 rw [Bool.eq_iff_iff, beq_iff_eq, decide_eq_true_iff]
 constructor
 · intro h; exact ByteArray.ext (Array.toList_inj.1 h)
 · intro h; rw [h]
theorem q_seq {t t2 : TypeId} {p q : ByteArray} {r : Bool} (hx : opv E x = some (.string p)) (hy : opv E y = some (.string q)) (h : decide (p = q) = r) : Q1 P n ds pu w0 D H E ⟨d, .binOp .eql t x y t2, ty, ps, af, g⟩ (.bool r) := by
 subst h
 intro a w he _
 simp [execOp, he.eval hx, he.eval hy, eqGuard, binOp, Op.stringOp, toList_beq]
theorem q_sne {t t2 : TypeId} {p q : ByteArray} {r : Bool} (hx : opv E x = some (.string p)) (hy : opv E y = some (.string q)) (h : decide (p ≠ q) = r) : Q1 P n ds pu w0 D H E ⟨d, .binOp .neq t x y t2, ty, ps, af, g⟩ (.bool r) := by
 subst h
 intro a w he _
 simp [execOp, he.eval hx, he.eval hy, eqGuard, binOp, Op.stringOp, bne, toList_beq]
theorem s_sbytes {t t2 e dd : Nat} {s : ByteArray} (hs : P.underlying t = some .string) (hd : P.underlying t2 = some (.slice e)) (he : P.underlying e = some (.int .u8)) (hg : gd ops E g = some true) (hdd : Nat.blt dd n = true)
   (hx : opv E x = some (.string s))
   (h : ∀ b cap m f, s.size ≤ cap → cap ≤ m → (∀ j, j < s.size → f j = .int .u8 (((sbl s).getD j 0 : Nat) : Int)) → SQ P n ds false w0 D ops Q K ((b, .row e (m, m + 1) m f) :: H) ((dd, .slice (some ⟨b, 0, none⟩) s.size cap) :: E) rest) :
   SQ P n ds false w0 D ops Q K H E (⟨some dd, .convert t t2 x, ty, ps, af, g⟩ :: rest) := by
 intro a w hE hw
 simp only [wpK]
 rw [if_pos (ko (o := ⟨some dd, .convert t t2 x, ty, ps, af, g⟩) hE hg)]
 refine .inl ?_
 unfold Oper.wp
 have hrun := run_bytes_of_string (P := P) w t t2 e s hs hd he
 have : (execOp a.eval ⟨some dd, .convert t t2 x, ty, ps, af, g⟩).run P w = .ok (.value (.slice (some ⟨w.heap.size, 0, none⟩) s.size (grownCap w s.size 0 e)))
    (w.drew.alloc (.cells (bytesRow s (grownCap w s.size 0 e)) e ((bytesRow s (grownCap w s.size 0 e)).size, (bytesRow s (grownCap w s.size 0 e)).size + 1))) := by
   simp [execOp, hE.eval hx, hrun]
 rw [this]
 have hge := grownCap_ge w s.size 0 e
 have hsz : (bytesRow s (grownCap w s.size 0 e)).size = grownCap w s.size 0 e := by
   simp only [bytesRow, Array.size_append, Array.size_map, Array.size_replicate]
   have : s.data.size = s.size := rfl
   omega
 refine h w.heap.size (grownCap w s.size 0 e) (bytesRow s (grownCap w s.size 0 e)).size (fun j => (bytesRow s (grownCap w s.size 0 e)).getD j (.int .u8 0)) hge omT (fun j hj => ?_) _ _ (hE.put hdd _) (WOK.alloc (w := w.drew) (WOK.drew hw) (Blk.ok.mk (b := .row e _ _ _) rfl rfl (Nat.le_refl _) fun k _ hk => ?_))
 · have hj' : j < s.data.size := hj
   have h1 : s.data[j]? = some s.data[j] := by simp [hj']
   simp [bytesRow, sbl, Array.getD_eq_getD_getElem?, Array.getElem?_append, hj', hj, h1]
 · simp only [Blk.known] at hk
   simp [Blk.cell, Array.getD_eq_getD_getElem?, hk]
end
theorem like_jk {e cap : Nat} {X : List Nat} (h : ∀ c ∈ X, c < 256) : (Blk.buf e cap (bytes X)).like (.obj (jkO e cap X.length)) := by
 intro o ho
 unfold Blk.ok at ho
 simp only [Blk.isRaw, Blk.type, Blk.fr, Blk.len, Blk.known] at ho
 obtain ⟨c, h1, h2, h3, h4⟩ := ho
 refine ⟨c, h1, h2, by simpa using h3, fun k hk => ?_⟩
 refine ⟨X[k], h _ (List.getElem_mem hk), ?_⟩
 rw [h4 k (Nat.zero_le _) (by simpa using hk)]
 simp [Blk.cell, nth, bytes, hk]
section
variable {P : Program} {n : Nat} {ds : List Deferred} {w0 : World} {D : List Nat} {H : zl} {E : Env} {ops : Array Oper} {Q : Exit → Act → World → Prop} {K : Act → World → Prop} {rest : List Oper} {ty : TypeId} {ps : String} {af : Array Edge} {g : Option (Nat × Bool)} {x : Operand} {v : Value}
theorem EOK.twice {a : Act} {t : Nat} {b : Bool} (h : EOK n ds E a) (hl : look t E = some (.bool b)) : EOK n ds ((t, .bool b) :: E) a :=
 ⟨h.size, h.defers, fun k v hk => by
  rcases look_cons hk with ⟨rfl, rfl⟩ | ⟨_, hk⟩
  · exact h.env _ _ hl
  · exact h.env _ _ hk⟩
theorem dq_split {pu : Bool} {Q' : Act → World → Prop} (t : Nat) {b : Bool} (hl : look t E = some (.bool b)) (h1 : b = true → DQ P n ds pu w0 D ops Q' H ((t, .bool true) :: E) rest) (h0 : b = false → DQ P n ds pu w0 D ops Q' H ((t, .bool false) :: E) rest) : DQ P n ds pu w0 D ops Q' H E rest := by
 intro a w he hw
 cases b
 · exact h0 rfl a w (he.twice hl) hw
 · exact h1 rfl a w (he.twice hl) hw
theorem wq {pu : Bool} (t : Nat) {b : Bool} (hl : look t E = some (.bool b)) (h1 : b = true → SQ P n ds pu w0 D ops Q K H ((t, .bool true) :: E) rest) (h0 : b = false → SQ P n ds pu w0 D ops Q K H ((t, .bool false) :: E) rest) : SQ P n ds pu w0 D ops Q K H E rest := by
 intro a w he hw
 cases b
 · exact h0 rfl a w (he.twice hl) hw
 · exact h1 rfl a w (he.twice hl) hw
theorem zk {t dd : Nat} {z : Value} {l : List Value} [hz : kI P t z] (hg : gd ops E g = some true) (hd : Nat.blt dd n = true) (hl : z.cells.toList = l)
 (h : ∀ b, SQ P n ds false w0 D ops Q K ((b, .cs t l []) :: H) ((dd, pV b) :: E) rest) : SQ P n ds false w0 D ops Q K H E (⟨some dd, .alloc t, ty, ps, af, g⟩ :: rest) := s_alloc hg hd (by rw [hl]; exact h)
theorem ku {t dd : Nat} {l : List Value} (hg : gd ops E g = some true) (hd : Nat.blt dd n = true) (hx : opv E x = some v) (hl : v.cells.toList = l)
 (h : ∀ b, SQ P n ds false w0 D ops Q K ((b, .cs t l []) :: H) ((dd, pV b) :: E) rest) : SQ P n ds false w0 D ops Q K H E (⟨some dd, .box t x, ty, ps, af, g⟩ :: rest) := s_box hg hd hx (by rw [hl]; exact h)
theorem s_bs1l {t dd e sz bs : Nat} {l : List Value} [hs : Slc P t e sz bs] (hg : gd ops E g = some true) (hd : Nat.blt dd n = true) (hx : opv E x = some v) (hz : v.cells.size = sz) (hs0 : Nat.blt 0 sz = true) (hs1 : Nat.ble sz 1000 = true) (hze : ∃ z, kI P e z ∧ z.cells.size = sz) (hl : v.cells.toList = l)
 (h : ∀ b, SQ P n ds false w0 D ops Q K ((b, .cs e l []) :: H) ((dd, .slice (some ⟨b, 0, none⟩) 1 1) :: E) rest) : SQ P n ds false w0 D ops Q K H E (⟨some dd, .buildSlice t 1 #[(0, x)], ty, ps, af, g⟩ :: rest) := s_bs1 hg hd hx hz hs0 hs1 hze (by rw [hl]; exact h)
end
def opps (E : Env) : List (Nat × Operand) → Option (List (Nat × Value))
 | [] => some []
 | (i, x) :: r => match opv E x with
  | some v => match opps E r with
   | some l => some ((i, v) :: l)
   | none => none
  | none => none
def putAt : List Value → Nat → List Value → List Value
 | zs, _, [] => zs
 | zs, o, c :: r => putAt (zs.set o c) (o + 1) r
def bldL (offs : List Nat) : List Value → List (Nat × Value) → List Value
 | zs, [] => zs
 | zs, (i, v) :: r => bldL offs (putAt zs (offs.getD i 0) v.cells.toList) r
def BSrc (H : zl) (v : Value) (X : List Nat) : Prop := (∃ c, v = .slice none 0 c ∧ X = []) ∨ ∃ b o c, v = .slice (some ⟨b, o, none⟩) X.length c ∧ (∀ x ∈ X, x < 256) ∧ Src H b o (bytes X)
section
variable {P : Program} {n : Nat} {ds : List Deferred} {pu : Bool} {w0 : World} {D : List Nat} {H H' : zl} {E : Env} {ops : Array Oper} {Q : Exit → Act → World → Prop} {Q' K : Act → World → Prop} {rest : List Oper}
variable {d : Option Nat} {ty : TypeId} {ps : String} {af : Array Edge} {g : Option (Nat × Bool)} {x y : Operand}
theorem EOK.evalp {a : Act} (h : EOK n ds E a) : ∀ {l : List (Nat × Operand)} {vs : List (Nat × Value)}, opps E l = some vs → l.map (fun (i, x) => (i, a.eval x)) = vs
 | [], vs, hl => by simp [opps] at hl; simp [hl]
 | (i, x) :: r, vs, hl => by
  simp only [opps] at hl
  split at hl
  · rename_i v hv
    split at hl
    · rename_i l' hl'
      simp at hl
      subst hl
      have := h.evalp hl'
      simp only [List.map_cons, h.eval hv, this]
    · cases hl
  · cases hl
theorem zu {t : Nat} {parts : Array (Nat × Operand)} {vs : List (Nat × Value)} {l zs : List Value} (offs : List Nat) (hx : opps E parts.toList = some vs) (hl : bldL offs zs vs = l) (hb : P.built t vs = some l.toArray) :
  Q1 P n ds pu w0 D H E ⟨d, .build t parts, ty, ps, af, g⟩ (.agg l.toArray) := by
 intro a w he _
 have h1 := he.evalp hx
 have h2 : (parts.map fun (i, x) => (i, a.eval x)).toList = vs := by rw [Array.toList_map]; exact h1
 have := run_build (P := P) w t (parts.map fun (i, x) => (i, a.eval x)) l.toArray (by rw [h2]; exact hb)
 simp [execOp, this]
theorem kV {t dd e sz bs len : Nat} {z : Value} {parts : Array (Nat × Operand)} {vs : List (Nat × Value)} {l zs : List Value} [hs : Slc P t e sz bs] [hz : kI P e z] (offs : List Nat) (hg : gd ops E g = some true) (hd : Nat.blt dd n = true) (hx : opps E parts.toList = some vs)
  (hl : bldL offs zs vs = l) (hf : Instr.fill (fun i => some (i * sz, sz)) ((Array.range (len * sz)).map (z.cells[· % z.cells.size]!)) vs = some l.toArray) (h1 : Nat.ble (len * sz) 16777216 = true) (h0 : Nat.blt 0 (len * sz) = true)
  (h : ∀ b, SQ P n ds false w0 D ops Q K ((b, .cs e l []) :: H) ((dd, .slice (some ⟨b, 0, none⟩) len len) :: E) rest) : SQ P n ds false w0 D ops Q K H E (⟨some dd, .buildSlice t len parts, ty, ps, af, g⟩ :: rest) := by
 refine s_gen hg hd fun a w he hw => ?_
 obtain ⟨hu, i, hi, hsz, hbs⟩ := hs.is
 obtain ⟨i', hi', hz0⟩ := hz.is
 have e1 : i' = i := Option.some.inj (hi'.symm.trans hi)
 subst e1
 subst hsz
 have h2 : (parts.map fun (i, x) => (i, a.eval x)).toList = vs := by rw [Array.toList_map]; exact he.evalp hx
 have h1' := Nat.le_of_ble_eq_true h1
 have h0' := Nat.le_of_ble_eq_true h0
 have hrun := run_buildSlice (P := P) w t e len (parts.map fun (i, x) => (i, a.eval x)) l.toArray i' z hu hi hz0 omT omT (by rw [h2]; exact hf)
 exact ⟨_, _, _, by simp only [execOp, Sem.run_bind, hrun, Result.andThen_ok, Sem.run_pure], hw.alloc (ok_cs e l), h _⟩
theorem s_cvs {t e dd b o m c : Nat} {l : List Value} [hh : Has H b (.cs e l [])] [hu : Upd H b (.row e (l.length, l.length + 1) l.length (fun k => l.getD k undef)) H'] (ht : P.underlying t = some (.slice e)) (he8 : P.underlying e = some (.int .u8)) (hg : gd ops E g = some true) (hd : Nat.blt dd n = true)
   (hx : opv E x = some (.slice (some ⟨b, o, none⟩) m c)) (h : SQ P n ds false w0 D ops Q K H' ((dd, .slice (some ⟨b, o, none⟩) m c) :: E) rest) : SQ P n ds false w0 D ops Q K H E (⟨some dd, .convert t t x, ty, ps, af, g⟩ :: rest) := by
 refine s_gen hg hd fun a w he hw => ?_
 obtain ⟨lh, k0, r, rfl, rfl⟩ := hu.is
 have hk := kZ hw.hok.nodup hh.mem
 subst hk
 obtain ⟨ob, hob, hk⟩ := hw.hok.ok b (.cs e l []) (by simp)
 unfold Blk.ok at hk
 simp only [Blk.isRaw, Blk.type, Blk.fr, Blk.len, Blk.known] at hk
 obtain ⟨cs, h1, h2, h3, h4⟩ := hk
 refine ⟨_, w.freeze ⟨b, cs.size, none⟩ 1, _, ?_, hw.repl rfl rfl rfl ?_ ?_ (o := .cells cs e (cs.size, cs.size + 1)) ?_ ?_, h⟩
 · simp [execOp, he.eval hx, convert, run_underlying ht, run_underlying he8, markStringish, shape, Sem.run, World.shape?, hob, h1, run_freeze]
 · simp [World.freeze]
 · intro c' hc'
   simp [World.freeze, Array.getElem?_modify, Ne.symm hc']
 · simp [World.freeze, Array.getElem?_modify, hob, h1]
 · have := Blk.ok.mk (b := .row e (l.length, l.length + 1) l.length (fun k => l.getD k undef)) (c := cs) rfl (by simpa [Blk.len] using h2) (Nat.le_refl _) fun k h0 hk' => by
    simp only [Blk.known] at hk'
    rw [h4 k (Nat.zero_le _) hk']
    simp [Blk.cell, look, nth, hk']
   rw [h2]
   simpa [Blk.type, Blk.fr] using this
theorem src_row {b m : Nat} {e : TypeId} {fr : Nat × Nat} {f : Nat → Value} {l : List Value} [hh : Has H b (.row e fr m f)] (hl : l.length ≤ m) (hf : ∀ j u, l[j]? = some u → f j = u) : Src H b 0 l :=
 zN (k := .row e fr m f) (Nat.zero_le _) (by simpa [Blk.known] using hl) fun j u hj => by simp only [Blk.cell, Nat.zero_add]; rw [hf j u hj]
theorem run_bsrc {w : World} {t t2 e : Nat} {v : Value} {X : List Nat} (hs : P.underlying t = some (.slice e)) (he : P.underlying e = some (.int .u8)) (hd : P.underlying t2 = some .string) (h : BSrc H v X) (hw : HOK H w) : (convert t t2 v).run P w = .ok (.string (sb X)) w := by
 rcases h with ⟨c, rfl, rfl⟩ | ⟨b, o, c, rfl, hX, hsrc⟩
 · have e0 : sb [] = ByteArray.empty := rfl
   rw [e0]
   simp [convert, zv hs, zv he, zv hd, Conv.bytesToString]
 · have := run_convert_bytes_back (P := P) w t t2 e ⟨b, o, none⟩ c (X.map UInt8.ofNat) hs he hd (fun j hj => by
    have hj' : j < X.length := by simpa using hj
    rw [kN, hsrc w hw j (.int .u8 ((X[j] : Nat) : Int)) (by simp [bytes, hj'])]
    have hlt := hX X[j] (List.getElem_mem hj')
    simp [UInt8.toNat_ofNat, Nat.mod_eq_of_lt hlt])
   simpa [sb] using this
theorem qw {t t2 e : Nat} {v : Value} {X : List Nat} (hs : P.underlying t = some (.slice e)) (he8 : P.underlying e = some (.int .u8)) (hd : P.underlying t2 = some .string) (hx : opv E x = some v) (h : BSrc H v X) : Q1 P n ds pu w0 D H E ⟨d, .convert t t2 x, ty, ps, af, g⟩ (.string (sb X)) := by
 intro a w he hw
 simp [execOp, he.eval hx, run_bsrc hs he8 hd h hw.hok]
end
end Go.Proofs.YtnfbcfflkphbiaaGreatDoor
