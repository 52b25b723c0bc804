/-
  Texts of the proof, joined: ZG B1 R1 R2 R3. No Go text.
-/
import Derived.Test.YtnfbcfflkphbiaaGreatDoorA01
import Derived.Test.YtnfbcfflkphbiaaGreatDoorA06
import Derived.Test.YtnfbcfflkphbiaaGreatDoorA07
namespace Go.Proofs.YtnfbcfflkphbiaaGreatDoor
open Go Go.Proofs Tryz
set_option linter.all false
set_option maxRecDepth 100000
set_option maxHeartbeats 8000000
section
variable {P : Program} {n m : Nat} {ds : List Deferred} {pu : Bool} {w0 : World} {D : List Nat} {H : zl} {E : Env} {ops : Array Oper} {Q : Exit → Act → World → Prop} {Q' K : Act → World → Prop} {rest : List Oper} {c : Code} {e : Exit} {K1 : Act → World → Prop} {o : Option Nat}
variable {ty : TypeId} {ps : String} {af : Array Edge} {gd : Option (Nat × Bool)} {x y z : Operand} {d f s : Nat} {t t2 : TypeId} {uo : UnOp} {cc : Call}
theorem sqz {v : Value} {d : Nat} {op : Op} (h1 : Q1 P n ds pu w0 D H E ⟨some d, op, ty, ps, af, gd⟩ v) (h : SQ P n ds pu w0 D ops Q K H ((d, v) :: E) rest) (hg : Go.Proofs.YtnfbcfflkphbiaaGreatDoor.gd ops E gd = some true := by rfl) (hd : Nat.blt d n = true := by rfl) : SQ P n ds pu w0 D ops Q K H E (⟨some d, op, ty, ps, af, gd⟩ :: rest) := sq hg hd h1 h
theorem dqz {v : Value} {d : Nat} {op : Op} (h1 : Q1 P n ds pu w0 D H E ⟨some d, op, ty, ps, af, gd⟩ v) (h : DQ P n ds pu w0 D ops Q' H ((d, v) :: E) rest) (hg : Go.Proofs.YtnfbcfflkphbiaaGreatDoor.gd ops E gd = some true := by rfl) (hd : Nat.blt d n = true := by rfl) : DQ P n ds pu w0 D ops Q' H E (⟨some d, op, ty, ps, af, gd⟩ :: rest) := dq hg hd h1 h
theorem imv (h : Fu m (SQ P n ds pu w0 D ops Q K H E (⟨(some d), .move x, ty, ps, af, gd⟩ :: rest))) : Fu m (SQ P n ds pu w0 D ops Q K H E (⟨(some d), .move x, ty, ps, af, gd⟩ :: rest)) := h
theorem jmv (h : Fu m (DQ P n ds pu w0 D ops Q' H E (⟨(some d), .move x, ty, ps, af, gd⟩ :: rest))) : Fu m (DQ P n ds pu w0 D ops Q' H E (⟨(some d), .move x, ty, ps, af, gd⟩ :: rest)) := h
theorem ias (h : Fu m (SQ P n ds pu w0 D ops Q K H E (⟨(some d), .assign x, ty, ps, af, gd⟩ :: rest))) : Fu m (SQ P n ds pu w0 D ops Q K H E (⟨(some d), .assign x, ty, ps, af, gd⟩ :: rest)) := h
theorem jas (h : Fu m (DQ P n ds pu w0 D ops Q' H E (⟨(some d), .assign x, ty, ps, af, gd⟩ :: rest))) : Fu m (DQ P n ds pu w0 D ops Q' H E (⟨(some d), .assign x, ty, ps, af, gd⟩ :: rest)) := h
theorem inc (h : Fu m (SQ P n ds pu w0 D ops Q K H E (⟨(some d), .nilCheck x, ty, ps, af, gd⟩ :: rest))) : Fu m (SQ P n ds pu w0 D ops Q K H E (⟨(some d), .nilCheck x, ty, ps, af, gd⟩ :: rest)) := h
theorem jnc (h : Fu m (DQ P n ds pu w0 D ops Q' H E (⟨(some d), .nilCheck x, ty, ps, af, gd⟩ :: rest))) : Fu m (DQ P n ds pu w0 D ops Q' H E (⟨(some d), .nilCheck x, ty, ps, af, gd⟩ :: rest)) := h
theorem ifa (h : Fu m (SQ P n ds pu w0 D ops Q K H E (⟨(some d), .fieldAddr s x f, ty, ps, af, gd⟩ :: rest))) : Fu m (SQ P n ds pu w0 D ops Q K H E (⟨(some d), .fieldAddr s x f, ty, ps, af, gd⟩ :: rest)) := h
theorem jfa (h : Fu m (DQ P n ds pu w0 D ops Q' H E (⟨(some d), .fieldAddr s x f, ty, ps, af, gd⟩ :: rest))) : Fu m (DQ P n ds pu w0 D ops Q' H E (⟨(some d), .fieldAddr s x f, ty, ps, af, gd⟩ :: rest)) := h
theorem ild (h : Fu m (SQ P n ds pu w0 D ops Q K H E (⟨(some d), .load t x, ty, ps, af, gd⟩ :: rest))) : Fu m (SQ P n ds pu w0 D ops Q K H E (⟨(some d), .load t x, ty, ps, af, gd⟩ :: rest)) := h
theorem jld (h : Fu m (DQ P n ds pu w0 D ops Q' H E (⟨(some d), .load t x, ty, ps, af, gd⟩ :: rest))) : Fu m (DQ P n ds pu w0 D ops Q' H E (⟨(some d), .load t x, ty, ps, af, gd⟩ :: rest)) := h
theorem ipk (h : Fu m (SQ P n ds pu w0 D ops Q K H E (⟨(some d), .pick z x y, ty, ps, af, gd⟩ :: rest))) : Fu m (SQ P n ds pu w0 D ops Q K H E (⟨(some d), .pick z x y, ty, ps, af, gd⟩ :: rest)) := h
theorem jpk (h : Fu m (DQ P n ds pu w0 D ops Q' H E (⟨(some d), .pick z x y, ty, ps, af, gd⟩ :: rest))) : Fu m (DQ P n ds pu w0 D ops Q' H E (⟨(some d), .pick z x y, ty, ps, af, gd⟩ :: rest)) := h
theorem iex (h : Fu m (SQ P n ds pu w0 D ops Q K H E (⟨(some d), .extract x s, ty, ps, af, gd⟩ :: rest))) : Fu m (SQ P n ds pu w0 D ops Q K H E (⟨(some d), .extract x s, ty, ps, af, gd⟩ :: rest)) := h
theorem jex (h : Fu m (DQ P n ds pu w0 D ops Q' H E (⟨(some d), .extract x s, ty, ps, af, gd⟩ :: rest))) : Fu m (DQ P n ds pu w0 D ops Q' H E (⟨(some d), .extract x s, ty, ps, af, gd⟩ :: rest)) := h
theorem iix (h : Fu m (SQ P n ds pu w0 D ops Q K H E (⟨(some d), .indexAddr s x y, ty, ps, af, gd⟩ :: rest))) : Fu m (SQ P n ds pu w0 D ops Q K H E (⟨(some d), .indexAddr s x y, ty, ps, af, gd⟩ :: rest)) := h
theorem jix (h : Fu m (DQ P n ds pu w0 D ops Q' H E (⟨(some d), .indexAddr s x y, ty, ps, af, gd⟩ :: rest))) : Fu m (DQ P n ds pu w0 D ops Q' H E (⟨(some d), .indexAddr s x y, ty, ps, af, gd⟩ :: rest)) := h
theorem iun (h : Fu m (SQ P n ds pu w0 D ops Q K H E (⟨(some d), .unOp uo t x, ty, ps, af, gd⟩ :: rest))) : Fu m (SQ P n ds pu w0 D ops Q K H E (⟨(some d), .unOp uo t x, ty, ps, af, gd⟩ :: rest)) := h
theorem jun (h : Fu m (DQ P n ds pu w0 D ops Q' H E (⟨(some d), .unOp uo t x, ty, ps, af, gd⟩ :: rest))) : Fu m (DQ P n ds pu w0 D ops Q' H E (⟨(some d), .unOp uo t x, ty, ps, af, gd⟩ :: rest)) := h
theorem icl (h : Fu m (SQ P n ds pu w0 D ops Q K H E (⟨(some d), .call cc, ty, ps, af, gd⟩ :: rest))) : Fu m (SQ P n ds pu w0 D ops Q K H E (⟨(some d), .call cc, ty, ps, af, gd⟩ :: rest)) := h
theorem jcl (h : Fu m (DQ P n ds pu w0 D ops Q' H E (⟨(some d), .call cc, ty, ps, af, gd⟩ :: rest))) : Fu m (DQ P n ds pu w0 D ops Q' H E (⟨(some d), .call cc, ty, ps, af, gd⟩ :: rest)) := h
theorem ist (h : Fu m (SQ P n ds pu w0 D ops Q K H E (⟨o, .store t x y, ty, ps, af, gd⟩ :: rest))) : Fu m (SQ P n ds pu w0 D ops Q K H E (⟨o, .store t x y, ty, ps, af, gd⟩ :: rest)) := h
theorem ieq (h : Fu m (SQ P n ds pu w0 D ops Q K H E (⟨(some d), .binOp .eql t x y t2, ty, ps, af, gd⟩ :: rest))) : Fu m (SQ P n ds pu w0 D ops Q K H E (⟨(some d), .binOp .eql t x y t2, ty, ps, af, gd⟩ :: rest)) := h
theorem jeq (h : Fu m (DQ P n ds pu w0 D ops Q' H E (⟨(some d), .binOp .eql t x y t2, ty, ps, af, gd⟩ :: rest))) : Fu m (DQ P n ds pu w0 D ops Q' H E (⟨(some d), .binOp .eql t x y t2, ty, ps, af, gd⟩ :: rest)) := h
theorem ine (h : Fu m (SQ P n ds pu w0 D ops Q K H E (⟨(some d), .binOp .neq t x y t2, ty, ps, af, gd⟩ :: rest))) : Fu m (SQ P n ds pu w0 D ops Q K H E (⟨(some d), .binOp .neq t x y t2, ty, ps, af, gd⟩ :: rest)) := h
theorem jne (h : Fu m (DQ P n ds pu w0 D ops Q' H E (⟨(some d), .binOp .neq t x y t2, ty, ps, af, gd⟩ :: rest))) : Fu m (DQ P n ds pu w0 D ops Q' H E (⟨(some d), .binOp .neq t x y t2, ty, ps, af, gd⟩ :: rest)) := h
theorem ilt (h : Fu m (SQ P n ds pu w0 D ops Q K H E (⟨(some d), .binOp .lss t x y t2, ty, ps, af, gd⟩ :: rest))) : Fu m (SQ P n ds pu w0 D ops Q K H E (⟨(some d), .binOp .lss t x y t2, ty, ps, af, gd⟩ :: rest)) := h
theorem jlt (h : Fu m (DQ P n ds pu w0 D ops Q' H E (⟨(some d), .binOp .lss t x y t2, ty, ps, af, gd⟩ :: rest))) : Fu m (DQ P n ds pu w0 D ops Q' H E (⟨(some d), .binOp .lss t x y t2, ty, ps, af, gd⟩ :: rest)) := h
theorem ile (h : Fu m (SQ P n ds pu w0 D ops Q K H E (⟨(some d), .binOp .leq t x y t2, ty, ps, af, gd⟩ :: rest))) : Fu m (SQ P n ds pu w0 D ops Q K H E (⟨(some d), .binOp .leq t x y t2, ty, ps, af, gd⟩ :: rest)) := h
theorem jle (h : Fu m (DQ P n ds pu w0 D ops Q' H E (⟨(some d), .binOp .leq t x y t2, ty, ps, af, gd⟩ :: rest))) : Fu m (DQ P n ds pu w0 D ops Q' H E (⟨(some d), .binOp .leq t x y t2, ty, ps, af, gd⟩ :: rest)) := h
theorem igt (h : Fu m (SQ P n ds pu w0 D ops Q K H E (⟨(some d), .binOp .gtr t x y t2, ty, ps, af, gd⟩ :: rest))) : Fu m (SQ P n ds pu w0 D ops Q K H E (⟨(some d), .binOp .gtr t x y t2, ty, ps, af, gd⟩ :: rest)) := h
theorem jgt (h : Fu m (DQ P n ds pu w0 D ops Q' H E (⟨(some d), .binOp .gtr t x y t2, ty, ps, af, gd⟩ :: rest))) : Fu m (DQ P n ds pu w0 D ops Q' H E (⟨(some d), .binOp .gtr t x y t2, ty, ps, af, gd⟩ :: rest)) := h
theorem ige (h : Fu m (SQ P n ds pu w0 D ops Q K H E (⟨(some d), .binOp .geq t x y t2, ty, ps, af, gd⟩ :: rest))) : Fu m (SQ P n ds pu w0 D ops Q K H E (⟨(some d), .binOp .geq t x y t2, ty, ps, af, gd⟩ :: rest)) := h
theorem jge (h : Fu m (DQ P n ds pu w0 D ops Q' H E (⟨(some d), .binOp .geq t x y t2, ty, ps, af, gd⟩ :: rest))) : Fu m (DQ P n ds pu w0 D ops Q' H E (⟨(some d), .binOp .geq t x y t2, ty, ps, af, gd⟩ :: rest)) := h
theorem iad (h : Fu m (SQ P n ds pu w0 D ops Q K H E (⟨(some d), .binOp .add t x y t2, ty, ps, af, gd⟩ :: rest))) : Fu m (SQ P n ds pu w0 D ops Q K H E (⟨(some d), .binOp .add t x y t2, ty, ps, af, gd⟩ :: rest)) := h
theorem jad (h : Fu m (DQ P n ds pu w0 D ops Q' H E (⟨(some d), .binOp .add t x y t2, ty, ps, af, gd⟩ :: rest))) : Fu m (DQ P n ds pu w0 D ops Q' H E (⟨(some d), .binOp .add t x y t2, ty, ps, af, gd⟩ :: rest)) := h
theorem isb (h : Fu m (SQ P n ds pu w0 D ops Q K H E (⟨(some d), .binOp .sub t x y t2, ty, ps, af, gd⟩ :: rest))) : Fu m (SQ P n ds pu w0 D ops Q K H E (⟨(some d), .binOp .sub t x y t2, ty, ps, af, gd⟩ :: rest)) := h
theorem jsb (h : Fu m (DQ P n ds pu w0 D ops Q' H E (⟨(some d), .binOp .sub t x y t2, ty, ps, af, gd⟩ :: rest))) : Fu m (DQ P n ds pu w0 D ops Q' H E (⟨(some d), .binOp .sub t x y t2, ty, ps, af, gd⟩ :: rest)) := h
theorem isn (h : Fu m (LF n ds pu w0 D (Exit.then K1 Q) .normal H E)) : Fu m (LF n ds pu w0 D (Exit.then K1 Q) .normal H E) := h
theorem isx (h : Fu m (LF n ds pu w0 D (Exit.then K1 Q) (.exit d) H E)) : Fu m (LF n ds pu w0 D (Exit.then K1 Q) (.exit d) H E) := h
theorem isr (h : Fu m (LF n ds pu w0 D (Exit.then K1 Q) .ret H E)) : Fu m (LF n ds pu w0 D (Exit.then K1 Q) .ret H E) := h
theorem ibn (h : Fu m (LF n ds pu w0 D (Exit.inBlock s Q) .normal H E)) : Fu m (LF n ds pu w0 D (Exit.inBlock s Q) .normal H E) := h
theorem ibx (h : Fu m (LF n ds pu w0 D (Exit.inBlock s Q) (.exit d) H E)) : Fu m (LF n ds pu w0 D (Exit.inBlock s Q) (.exit d) H E) := h
theorem ibr (h : Fu m (LF n ds pu w0 D (Exit.inBlock s Q) .ret H E)) : Fu m (LF n ds pu w0 D (Exit.inBlock s Q) .ret H E) := h
theorem inn (h : Fu m (LF n ds pu w0 D (Exit.noGoto Q) .normal H E)) : Fu m (LF n ds pu w0 D (Exit.noGoto Q) .normal H E) := h
theorem inx (h : Fu m (LF n ds pu w0 D (Exit.noGoto Q) (.exit d) H E)) : Fu m (LF n ds pu w0 D (Exit.noGoto Q) (.exit d) H E) := h
theorem inr (h : Fu m (LF n ds pu w0 D (Exit.noGoto Q) .ret H E)) : Fu m (LF n ds pu w0 D (Exit.noGoto Q) .ret H E) := h
theorem zsn (h : LF n ds pu w0 D Q .normal H E) : SQ P n ds pu w0 D ops Q (Q .normal) H E [] := ze h
theorem zdn (h : LF n ds pu w0 D Q .normal H E) : DQ P n ds pu w0 D ops (fun a w => Q .normal a w) H E [] := wg h
theorem iE (h : Fu m (EV P n ds pu w0 D c Q H E)) : Fu m (EV P n ds pu w0 D c Q H E) := h
theorem iL (h : Fu m (LF n ds pu w0 D Q e H E)) : Fu m (LF n ds pu w0 D Q e H E) := h
theorem iS (h : Fu m (SQ P n ds pu w0 D ops Q K H E rest)) : Fu m (SQ P n ds pu w0 D ops Q K H E rest) := h
theorem iD (h : Fu m (DQ P n ds pu w0 D ops Q' H E rest)) : Fu m (DQ P n ds pu w0 D ops Q' H E rest) := h
end
theorem gg (n : Nat) {p q : Prop} (k : q) (h : Hid q → Fu n p := by intro h; (repeat (first | exact Fu.nl h.1 | ((with_reducible refine iS ?_); first | ((with_reducible refine imv ?_); first | refine Fu.st (fun h => smv h) ?_) | ((with_reducible refine ias ?_); first | refine Fu.st (fun h => sas h) ?_) | ((with_reducible refine inc ?_); first | refine Fu.st (fun h => snc h) ?_) | ((with_reducible refine ifa ?_); first | refine Fu.st (fun h => sfa h) ?_) | ((with_reducible refine ild ?_); first | refine Fu.st (fun h => sld rfl h) ?_ | refine Fu.st (fun h => sldr h) ?_ | refine Fu.st (fun h => slds rfl h) ?_) | ((with_reducible refine ipk ?_); first | refine Fu.st (fun h => spf h) ?_ | refine Fu.st (fun h => spt h) ?_) | ((with_reducible refine iex ?_); first | refine Fu.st (fun h => sex h) ?_) | ((with_reducible refine iix ?_); first | refine Fu.st (fun h => six h) ?_) | ((with_reducible refine iun ?_); first | refine Fu.st (fun h => snt h) ?_) | ((with_reducible refine icl ?_); first | refine Fu.st (fun h => slg h) ?_ | refine Fu.st (fun h => slgs h) ?_ | refine Fu.st (fun h => scp h) ?_) | ((with_reducible refine ist ?_); first | refine Fu.st (fun h => st1 rfl rfl h) ?_ | refine Fu.st (fun h => sts rfl rfl h) ?_) | ((with_reducible refine ieq ?_); first | refine Fu.st (fun h => kz h) ?_ | refine Fu.st (fun h => seq1 h) ?_ | refine Fu.st (fun h => kz (h := h) (hc := omT)) ?_ | refine Fu.st (fun h => seq1 (h := h) (hc := omT)) ?_) | ((with_reducible refine ine ?_); first | refine Fu.st (fun h => sne0 h) ?_ | refine Fu.st (fun h => sne1 h) ?_ | refine Fu.st (fun h => sne0 (h := h) (hc := omT)) ?_ | refine Fu.st (fun h => sne1 (h := h) (hc := omT)) ?_) | ((with_reducible refine ilt ?_); first | refine Fu.st (fun h => slt0 h) ?_ | refine Fu.st (fun h => slt1 h) ?_ | refine Fu.st (fun h => slt0 (h := h) (hc := omT)) ?_ | refine Fu.st (fun h => slt1 (h := h) (hc := omT)) ?_) | ((with_reducible refine ile ?_); first | refine Fu.st (fun h => sle0 h) ?_ | refine Fu.st (fun h => sle1 h) ?_ | refine Fu.st (fun h => sle0 (h := h) (hc := omT)) ?_ | refine Fu.st (fun h => sle1 (h := h) (hc := omT)) ?_) | ((with_reducible refine igt ?_); first | refine Fu.st (fun h => sgt0 h) ?_ | refine Fu.st (fun h => sgt1 h) ?_ | refine Fu.st (fun h => sgt0 (h := h) (hc := omT)) ?_ | refine Fu.st (fun h => sgt1 (h := h) (hc := omT)) ?_) | ((with_reducible refine ige ?_); first | refine Fu.st (fun h => sge0 h) ?_ | refine Fu.st (fun h => sge1 h) ?_ | refine Fu.st (fun h => sge0 (h := h) (hc := omT)) ?_ | refine Fu.st (fun h => sge1 (h := h) (hc := omT)) ?_) | ((with_reducible refine iad ?_); first | refine Fu.st (fun h => sadc 1 h) ?_) | ((with_reducible refine isb ?_); first | refine Fu.st (fun h => ssbc 1 h) ?_) | refine Fu.st (fun h => sun h) ?_ | refine Fu.st (fun h => zsn h) ?_ | dsimp only [List.drop]) | ((with_reducible refine iE ?_); first | refine Fu.st (fun h => zd h) ?_ | refine Fu.st (fun h => zi h) ?_ | refine Fu.st (fun h => kf h) ?_ | refine Fu.st (fun h => kQ h) ?_ | refine Fu.st (fun h => km h) ?_ | refine Fu.st (fun h => ev_exit h) ?_ | refine Fu.st (fun h => ev_scope h) ?_ | refine Fu.st (fun h => ev_label h) ?_ | refine Fu.st (fun h => ev_cond0 rfl h) ?_ | refine Fu.st (fun h => ev_cond1 rfl h) ?_ | refine Fu.st (fun h => ev_draw zF kR h) ?_) | ((with_reducible refine iL ?_); first | ((with_reducible refine isn ?_); first | refine Fu.st (fun h => zf h) ?_) | ((with_reducible refine isx ?_); first | refine Fu.st (fun h => lf_seqx h) ?_) | ((with_reducible refine isr ?_); first | refine Fu.st (fun h => lf_seqr h) ?_) | ((with_reducible refine ibn ?_); first | refine Fu.st (fun h => kJ h) ?_) | ((with_reducible refine ibx ?_); first | refine Fu.st (fun h => lf_blkx h) ?_ | refine Fu.st (fun h => lf_blko rfl h) ?_) | ((with_reducible refine ibr ?_); first | refine Fu.st (fun h => lf_blkr h) ?_) | ((with_reducible refine inn ?_); first | refine Fu.st (fun h => lf_sc h) ?_) | ((with_reducible refine inx ?_); first | refine Fu.st (fun h => lf_scx h) ?_) | ((with_reducible refine inr ?_); first | refine Fu.st (fun h => lf_scr h) ?_)) | ((with_reducible refine iD ?_); first | ((with_reducible refine jmv ?_); first | refine Fu.st (fun h => dmv h) ?_) | ((with_reducible refine jas ?_); first | refine Fu.st (fun h => das h) ?_) | ((with_reducible refine jnc ?_); first | refine Fu.st (fun h => dnc h) ?_) | ((with_reducible refine jfa ?_); first | refine Fu.st (fun h => dfa h) ?_) | ((with_reducible refine jld ?_); first | refine Fu.st (fun h => dld rfl h) ?_ | refine Fu.st (fun h => dldr h) ?_ | refine Fu.st (fun h => dlds rfl h) ?_) | ((with_reducible refine jpk ?_); first | refine Fu.st (fun h => dpf h) ?_ | refine Fu.st (fun h => dpt h) ?_) | ((with_reducible refine jex ?_); first | refine Fu.st (fun h => dex h) ?_) | ((with_reducible refine jix ?_); first | refine Fu.st (fun h => dix h) ?_) | ((with_reducible refine jun ?_); first | refine Fu.st (fun h => dnt h) ?_) | ((with_reducible refine jcl ?_); first | refine Fu.st (fun h => dlg h) ?_ | refine Fu.st (fun h => dlgs h) ?_ | refine Fu.st (fun h => dcp h) ?_) | ((with_reducible refine jeq ?_); first | refine Fu.st (fun h => deq0 h) ?_ | refine Fu.st (fun h => deq1 h) ?_ | refine Fu.st (fun h => deq0 (h := h) (hc := omT)) ?_ | refine Fu.st (fun h => deq1 (h := h) (hc := omT)) ?_) | ((with_reducible refine jne ?_); first | refine Fu.st (fun h => dne0 h) ?_ | refine Fu.st (fun h => dne1 h) ?_ | refine Fu.st (fun h => dne0 (h := h) (hc := omT)) ?_ | refine Fu.st (fun h => dne1 (h := h) (hc := omT)) ?_) | ((with_reducible refine jlt ?_); first | refine Fu.st (fun h => dlt0 h) ?_ | refine Fu.st (fun h => dlt1 h) ?_ | refine Fu.st (fun h => dlt0 (h := h) (hc := omT)) ?_ | refine Fu.st (fun h => dlt1 (h := h) (hc := omT)) ?_) | ((with_reducible refine jle ?_); first | refine Fu.st (fun h => dle0 h) ?_ | refine Fu.st (fun h => dle1 h) ?_ | refine Fu.st (fun h => dle0 (h := h) (hc := omT)) ?_ | refine Fu.st (fun h => dle1 (h := h) (hc := omT)) ?_) | ((with_reducible refine jgt ?_); first | refine Fu.st (fun h => dgt0 h) ?_ | refine Fu.st (fun h => dgt1 h) ?_ | refine Fu.st (fun h => dgt0 (h := h) (hc := omT)) ?_ | refine Fu.st (fun h => dgt1 (h := h) (hc := omT)) ?_) | ((with_reducible refine jge ?_); first | refine Fu.st (fun h => dge0 h) ?_ | refine Fu.st (fun h => dge1 h) ?_ | refine Fu.st (fun h => dge0 (h := h) (hc := omT)) ?_ | refine Fu.st (fun h => dge1 (h := h) (hc := omT)) ?_) | ((with_reducible refine jad ?_); first | refine Fu.st (fun h => dadc 1 h) ?_) | ((with_reducible refine jsb ?_); first | refine Fu.st (fun h => dsbc 1 h) ?_) | refine Fu.st (fun h => dun h) ?_ | refine Fu.st (fun h => zdn h) ?_ | refine Fu.st (fun h => qW h) ?_ | refine Fu.st (fun h => wg h) ?_ | dsimp only [List.take])))) : p := (h ⟨k⟩).1
theorem and_128k {c : Nat} (h : c < 128) : IntKind.u8.wrap ((BitVec.ofInt IntKind.u8.bits (c : Int) &&& BitVec.ofInt IntKind.u8.bits 128).toNat : Int) = 0 := and_128 c h
theorem wd {c : Nat} (ha : c < 128) : PF prog 183 [.int .u8 (c : Int)] [] (.int .i64 1) := by
 refine zW func183 rfl rfl rfl ?_
 intro w
 refine gg 9 ?_
 refine sqz (q_and rfl rfl (and_128k ha)) (gg 11 ?_)
 exact zV rfl rfl
section
variable {bb n m sz lo hi i c : Nat} {f : Nat → Value}
theorem is_crlf_pf (h0 : lo ≤ i) (h1 : i < hi) (h2 : i < n) (hc : f i = .int .u8 ((c : Nat) : Int)) (ha : c ≠ 13) :
  PF prog 184 [.slice (some ⟨bb, 0, none⟩) n m, .int .i64 (i : Int)] [(bb, .win 5 sz lo hi f)] (.bool false) := by
 refine zW func184 rfl rfl rfl ?_
 intro w
 refine gg 10 ?_
 refine zx hc rfl ?_
 refine gg 13 ?_
 exact zV rfl rfl
end
def RS.step (r : RS) : RS := { r with pos := r.pos + 1, un := r.un - 1 }
def PS.skipped (T : List Nat) (s : PS) : PS := { s with nl := if kj (at_ T s.q) then s.nl else 0, r := s.r.step, q := s.q + 1 }
section
variable {L : Lay} {T : List Nat} {s : PS}
theorem ks {b : Bool} (hn : Inv L T s) (hlt : s.r.pos < s.r.blen) (hb : kj (at_ T s.q) = b) : PF prog 159 [.slice (some ⟨L.bb, 0, none⟩) s.r.blen 1536, .int .i64 (s.r.pos : Int)] [BB L T s] (.bool b) :=
 is_blank_pf (Nat.zero_le _) hlt hlt (bp0 hn.pq) (hn.lt128 _) hb
theorem k_blank {b : Bool} {j : Nat} (hn : Inv L T s) (hlt : s.r.pos + j < s.r.blen) (hb : kj (at_ T (s.q + j)) = b) : PF prog 159 [.slice (some ⟨L.bb, 0, none⟩) s.r.blen 1536, .int .i64 ((s.r.pos + j : Nat) : Int)] [BB L T s] (.bool b) :=
 is_blank_pf (Nat.zero_le _) hlt hlt (bpk hn.pq) (hn.lt128 _) hb
theorem qN {b : Bool} (hn : Inv L T s) (hlt : s.r.pos < s.r.blen) (hb : qo (at_ T s.q) = b) : PF prog 167 [.slice (some ⟨L.bb, 0, none⟩) s.r.blen 1536, .int .i64 (s.r.pos : Int)] [BB L T s] (.bool b) :=
 is_break_pf (Nat.zero_le _) hlt hlt (bp0 hn.pq) (hn.lt128 _) hb
theorem k_break {b : Bool} {j : Nat} (hn : Inv L T s) (hlt : s.r.pos + j < s.r.blen) (hb : qo (at_ T (s.q + j)) = b) : PF prog 167 [.slice (some ⟨L.bb, 0, none⟩) s.r.blen 1536, .int .i64 ((s.r.pos + j : Nat) : Int)] [BB L T s] (.bool b) :=
 is_break_pf (Nat.zero_le _) hlt hlt (bpk hn.pq) (hn.lt128 _) hb
theorem qd {b : Bool} (hn : Inv L T s) (hlt : s.r.pos < s.r.blen) (hb : kE (at_ T s.q) = b) : PF prog 172 [.slice (some ⟨L.bb, 0, none⟩) s.r.blen 1536, .int .i64 (s.r.pos : Int)] [BB L T s] (.bool b) :=
 is_breakz_pf (Nat.zero_le _) hlt hlt (bp0 hn.pq) (hn.lt128 _) hb
theorem k_breakz {b : Bool} {j : Nat} (hn : Inv L T s) (hlt : s.r.pos + j < s.r.blen) (hb : kE (at_ T (s.q + j)) = b) : PF prog 172 [.slice (some ⟨L.bb, 0, none⟩) s.r.blen 1536, .int .i64 ((s.r.pos + j : Nat) : Int)] [BB L T s] (.bool b) :=
 is_breakz_pf (Nat.zero_le _) hlt hlt (bpk hn.pq) (hn.lt128 _) hb
theorem qZ {b : Bool} (hn : Inv L T s) (hlt : s.r.pos < s.r.blen) (hb : zK (at_ T s.q) = b) : PF prog 145 [.slice (some ⟨L.bb, 0, none⟩) s.r.blen 1536, .int .i64 (s.r.pos : Int)] [BB L T s] (.bool b) :=
 is_blankz_pf (Nat.zero_le _) hlt hlt (bp0 hn.pq) (hn.lt128 _) hb
theorem wb {b : Bool} {j : Nat} (hn : Inv L T s) (hlt : s.r.pos + j < s.r.blen) (hb : zK (at_ T (s.q + j)) = b) : PF prog 145 [.slice (some ⟨L.bb, 0, none⟩) s.r.blen 1536, .int .i64 ((s.r.pos + j : Nat) : Int)] [BB L T s] (.bool b) :=
 is_blankz_pf (Nat.zero_le _) hlt hlt (bpk hn.pq) (hn.lt128 _) hb
theorem b_z {b : Bool} (hn : Inv L T s) (hlt : s.r.pos < s.r.blen) (hb : zB (at_ T s.q) = b) : PF prog 142 [.slice (some ⟨L.bb, 0, none⟩) s.r.blen 1536, .int .i64 (s.r.pos : Int)] [BB L T s] (.bool b) :=
 is_z_pf (Nat.zero_le _) hlt hlt (bp0 hn.pq) (hn.lt128 _) hb
theorem b_digit {b : Bool} (hn : Inv L T s) (hlt : s.r.pos < s.r.blen) (hb : digitB (at_ T s.q) = b) : PF prog 191 [.slice (some ⟨L.bb, 0, none⟩) s.r.blen 1536, .int .i64 (s.r.pos : Int)] [BB L T s] (.bool b) :=
 is_digit_pf (Nat.zero_le _) hlt hlt (bp0 hn.pq) (hn.lt128 _) hb
theorem qy {b : Bool} (hn : Inv L T s) (hlt : s.r.pos < s.r.blen) (hb : zC (at_ T s.q) = b) : PF prog 188 [.slice (some ⟨L.bb, 0, none⟩) s.r.blen 1536, .int .i64 (s.r.pos : Int)] [BB L T s] (.bool b) :=
 is_alpha_pf (Nat.zero_le _) hlt hlt (bp0 hn.pq) (hn.lt128 _) hb
theorem k_hex {b : Bool} {j : Nat} (hn : Inv L T s) (hlt : s.r.pos + j < s.r.blen) (hb : hexB (at_ T (s.q + j)) = b) : PF prog 195 [.slice (some ⟨L.bb, 0, none⟩) s.r.blen 1536, .int .i64 ((s.r.pos + j : Nat) : Int)] [BB L T s] (.bool b) :=
 is_hex_pf (Nat.zero_le _) hlt hlt (bpk hn.pq) (hn.lt128 _) hb
theorem b_crlf (hn : Inv L T s) (hlt : s.r.pos < s.r.blen) (hb : at_ T s.q ≠ 13) : PF prog 184 [.slice (some ⟨L.bb, 0, none⟩) s.r.blen 1536, .int .i64 (s.r.pos : Int)] [BB L T s] (.bool false) :=
 is_crlf_pf (Nat.zero_le _) hlt hlt (bp0 hn.pq) hb
end
theorem skip_ok (L : Lay) (T : List Nat) (s : PS) (hn : Inv L T s) (hlt : s.r.pos < s.r.blen) (hu : 1 ≤ s.r.un) (hlf : at_ T s.q ≠ 10) :
   Fn prog 166 [pV L.p] [PB L T s, BB L T s] (fun v H' => v = .tuple #[] ∧ H' = [PB L T (s.skipped T), BB L T (s.skipped T)]) := by
 have hn' := hn
 obtain ⟨small, asc, _, qlen, nlq, hpq, pbl, _, bl, unl⟩ := hn'
 have hcol := colT_le T s.q
 have hlin := lnT_le T s.q
 have ha : at_ T s.q < 128 := hn.lt128 _
 cases hb : kj (at_ T s.q)
 · refine zo func166 rfl rfl rfl ?_
   intro w
   refine gg 11 ?_
   refine dca (ks hn hlt hb) ?_
   refine gg 51 ?_
   refine zU 18 zF kR (gg 13 ?_)
   refine zn (bp0 omT) rfl ?_
   refine dca (wd ha) ?_
   refine gg 6 ?_
   refine end0nw (H' := [PB L T (s.skipped T), BB L T (s.skipped T)]) rfl (Wk.list ⟨rfl, .inr (Blk.like_rec ?_), rfl, .inl ?_, trivial⟩) ⟨rfl, rfl⟩
   · simp only [PS.skipped, RS.step, hb, qp, wn hlf, lnT_one hlf]; kernel_rfl
   · simp only [PS.skipped, RS.step, wa]
 · refine zo func166 rfl rfl rfl ?_
   intro w
   refine gg 11 ?_
   refine dca (ks hn hlt hb) ?_
   refine gg 46 ?_
   refine zU 18 zF kR (gg 13 ?_)
   refine zn (bp0 omT) rfl ?_
   refine dca (wd ha) ?_
   refine gg 6 ?_
   refine end0nw (H' := [PB L T (s.skipped T), BB L T (s.skipped T)]) rfl (Wk.list ⟨rfl, .inr (Blk.like_rec ?_), rfl, .inl ?_, trivial⟩) ⟨rfl, rfl⟩
   · simp only [PS.skipped, RS.step, hb, qp, wn hlf, lnT_one hlf]; kernel_rfl
   · simp only [PS.skipped, RS.step, wa]
theorem rh_end (L : Lay) (T : List Nat) (s : PS) (v : Value) (hi : s.r.ipos = T.length) (he : qz L.eo 0 = some L.ev) :
  Fn prog 72 [pV L.p, v] [PB L T s, GE L] (fun u H' => u = .tuple #[zI, L.ev] ∧ H' = [PB L T s, GE L]) := by
 refine zo func72 rfl rfl rfl ?_
 intro w
 refine gg 24 ?_
 refine dqz (q_loado he rfl) (gg 6 ?_)
 exact end2 rfl rfl rfl ⟨rfl, rfl⟩
theorem srcf_in {H : zl} {L : Lay} {T : List Nat} {o k : Nat} [hh : Has H L.ib (.row 5 (L.isz, L.isz + 1) L.isz (inF T L.ig))] (h1 : o + k ≤ T.length) (h2 : T.length ≤ L.isz) : SrcF H L.ib o k (bf T o 0) := by
 intro w hw j hj
 have := hw.cell hh.mem (i := o + j) (Nat.zero_le _) (by simp only [Blk.known]; omega)
 rw [this]
 simp only [Blk.cell, inF, bf, Nat.sub_zero]
 rw [if_pos omT]
theorem rh_more (L : Lay) (T : List Nat) (s : PS) (lo hi n : Nat) (f : Nat → Value) (hlt : s.r.ipos < T.length) (hsm : T.length ≤ 1000000000) (hic : T.length ≤ L.icap ∧ L.icap ≤ L.isz) (hn : n = Nat.min (T.length - s.r.ipos) 512) :
  Fn prog 72 [pV L.p, .slice (some ⟨L.rb, 0, none⟩) 512 512] [PB L T s, (L.rb, .win 5 512 lo hi f), IB L T]
   (fun u H' => u = .tuple #[.int .i64 n, .nilIface] ∧ H' = [PB L T { s with r := { s.r with ipos := s.r.ipos + n } }, (L.rb, .win 5 512 0 n (bf T s.r.ipos 0)), IB L T]) := by
 have hn1 : n ≤ T.length - s.r.ipos := by rw [hn]; exact Nat.min_le_left _ _
 have hn2 : n ≤ 512 := by rw [hn]; exact Nat.min_le_right _ _
 refine zo func72 rfl rfl rfl ?_
 intro w
 refine gg 25 ?_
 refine zU 10 zF kR (gg 9 ?_)
 refine dqz (q_sl_l rfl rfl omT omT) (qW ?_)
 refine sl rfl rfl (l_copyw rfl rfl hn (srcf_in omT omT) omT (fun _ => rfl)) ?_
 refine gg 10 ?_
 refine sad ?_
 refine gg 13 ?_
 refine end2w (H' := [PB L T { s with r := { s.r with ipos := s.r.ipos + n } }, (L.rb, .win 5 512 0 n (bf T s.r.ipos 0)), IB L T]) rfl rfl rfl (Wk.list ⟨rfl, .inr (Blk.like_rec kR), rfl, .inl ?_, rfl, .inl rfl, trivial⟩) ⟨rfl, rfl⟩
 rw [Nat.zero_add]
 congr 1
 funext j
 simp [bf]
structure Eof (L : Lay) : Prop where
 cell : qz L.eo 0 = some L.ev
 is : ∃ et u, L.ev = .iface et u
 eq : ∀ w, (binOp .eql 141 L.ev L.ev).run prog w = .ok (.bool true) w
theorem raw_more (L : Lay) (T : List Nat) (s : PS) (n : Nat) (he : Eof L) (heof : s.r.eof = false) (hrr : s.r.rpos = s.r.rlen) (hrl : s.r.rlen ≤ 512) (hlt : s.r.ipos < T.length) (hsm : T.length ≤ 1000000000) (hic : T.length ≤ L.icap ∧ L.icap ≤ L.isz) (hn : n = Nat.min (T.length - s.r.ipos) 512) :
   Fn prog 162 [pV L.p] [PB L T s, RB L T s, IB L T, GE L]
    (fun u H' => u = .bool true ∧ H' = [PB L T { s with r := { s.r with rlen := n, rpos := 0, ipos := s.r.ipos + n } }, (L.rb, .win 5 512 0 n (bf T s.r.ipos 0)), IB L T, GE L]) := by
 have hn1 : n ≤ T.length - s.r.ipos := by rw [hn]; exact Nat.min_le_left _ _
 have hn2 : n ≤ 512 := by rw [hn]; exact Nat.min_le_right _ _
 obtain ⟨et, eu, hev⟩ := he.is
 have hcell := he.cell
 rw [hev] at hcell
 by_cases h0 : s.r.rpos = 0
 · refine zo func162 rfl rfl rfl ?_
   intro w
   refine gg 42 ?_
   refine slde (vb heof) rfl ?_
   refine gg 31 ?_
   refine zU 18 zF kR (gg 14 ?_)
   refine dsb ?_
   refine dqz (qc rfl rfl (by first | omega | (dsimp only; omega))) ?_
   refine gg 15 ?_
   refine zA L.p (PB L T { s with r := { s.r with rlen := s.r.rlen - s.r.rpos, rpos := 0 } }).2 (Blk.like_rec kR) ?_
   refine ke (fun i => i == 20) (fun _ => false) ([]) zF ?_
   refine mq 0 rfl kR rfl rfl (zj rfl) ?_
   refine mq 1 rfl kR rfl rfl (zJ rfl) ?_
   refine mq 2 rfl kR rfl rfl (zM rfl) ?_
   refine mq 3 rfl kR rfl rfl (zp rfl rfl rfl rfl) ?_
   refine mq 4 rfl kR rfl rfl (zj rfl) ?_
   refine mq 5 rfl kR rfl rfl (zj rfl) ?_
   refine mq 6 rfl kR rfl rfl (zJ rfl) ?_
   refine mq 7 rfl kR rfl rfl (zM rfl) ?_
   refine mq 8 rfl kR rfl rfl (zp rfl rfl rfl rfl) ?_
   refine mq 9 rfl kR rfl rfl (zj rfl) ?_
   refine mq 10 rfl kR rfl rfl (zJ rfl) ?_
   refine mq 11 rfl kR rfl rfl (zM rfl) ?_
   refine mq 12 rfl kR rfl rfl (zp rfl rfl rfl rfl) ?_
   refine mq 13 rfl kR rfl rfl (q_len rfl) ?_
   refine mq 14 rfl kR rfl rfl (zj rfl) ?_
   refine mq 15 rfl kR rfl rfl (zJ rfl) ?_
   refine mq 16 rfl kR rfl rfl (zM rfl) ?_
   refine mq 17 rfl kR rfl rfl (zp rfl rfl rfl rfl) ?_
   refine mq 18 rfl kR rfl rfl (q_cap rfl) ?_
   refine mq 19 rfl kR rfl rfl (qto (q_sl_lh rfl rfl rfl (by first | omega | (dsimp only; omega)) (by first | omega | (dsimp only; omega)) (by first | omega | (dsimp only; omega))) (sl_eq (o' := 0) (n' := 512) (c' := 512) (by first | omega | (dsimp only; omega)) (by first | omega | (dsimp only; omega)) (by first | omega | (dsimp only; omega)))) ?_
   refine mql 20 rfl kR (fun hcl => ?_)
   refine s_callv rfl rfl rfl rfl (rh_more L T { s with r := { s.r with rlen := s.r.rlen - s.r.rpos, rpos := 0 } } s.r.rpos s.r.rlen n (bf T s.r.off s.r.rpos) hlt hsm hic hn) ?_
   rintro _ _ ⟨rfl, rfl⟩
   refine lS ?_
   refine mqn 20 hcl (mq 21 rfl kR rfl rfl (zj rfl) ?_)
   refine mq 22 rfl kR rfl rfl (kY rfl rfl) ?_
   refine mq 23 rfl kR rfl rfl (kY rfl rfl) ?_
   refine mq 24 rfl kR rfl rfl (kB rfl) ?_
   refine mq 25 rfl kR rfl rfl (kB rfl) ?_
   refine qJ kR (zf (zd (zU 15 zF kR (gg 11 ?_))))
   refine dad ?_
   refine dqz (qto (qc rfl rfl (by first | omega | (dsimp only; omega))) (sl_eq (o' := 0) (n' := n) (c' := 512) rfl (by first | omega | (dsimp only; omega)) rfl)) ?_
   refine gg 10 ?_
   refine sqz (q_loado hcell rfl) (sqz (q_if_ne underlying141 rfl rfl) (gg 6 ?_))
   refine sqz (q_if_nn underlying141 rfl) (gg 11 ?_)
   refine zm (H' := [PB L T { s with r := { s.r with rlen := n, rpos := 0, ipos := s.r.ipos + n } }, (L.rb, .win 5 512 0 n (bf T s.r.ipos 0)), IB L T, GE L]) rfl rfl (Wk.list ⟨rfl, .inr (Blk.like_rec kR), rfl, .inl rfl, rfl, .inl rfl, rfl, .inl rfl, trivial⟩) ⟨rfl, rfl⟩
 · refine zo func162 rfl rfl rfl ?_
   intro w
   refine gg 42 ?_
   refine slde (vb heof) rfl ?_
   refine gg 31 ?_
   refine zU 18 zF kR (gg 14 ?_)
   refine dsb ?_
   refine dqz (qc rfl rfl (by first | omega | (dsimp only; omega))) ?_
   refine gg 15 ?_
   refine zA L.p (PB L T { s with r := { s.r with rlen := s.r.rlen - s.r.rpos, rpos := 0 } }).2 (Blk.like_rec kR) ?_
   refine ke (fun i => i == 20) (fun _ => false) ([]) zF ?_
   refine mq 0 rfl kR rfl rfl (zj rfl) ?_
   refine mq 1 rfl kR rfl rfl (zJ rfl) ?_
   refine mq 2 rfl kR rfl rfl (zM rfl) ?_
   refine mq 3 rfl kR rfl rfl (zp rfl rfl rfl rfl) ?_
   refine mq 4 rfl kR rfl rfl (zj rfl) ?_
   refine mq 5 rfl kR rfl rfl (zj rfl) ?_
   refine mq 6 rfl kR rfl rfl (zJ rfl) ?_
   refine mq 7 rfl kR rfl rfl (zM rfl) ?_
   refine mq 8 rfl kR rfl rfl (zp rfl rfl rfl rfl) ?_
   refine mq 9 rfl kR rfl rfl (zj rfl) ?_
   refine mq 10 rfl kR rfl rfl (zJ rfl) ?_
   refine mq 11 rfl kR rfl rfl (zM rfl) ?_
   refine mq 12 rfl kR rfl rfl (zp rfl rfl rfl rfl) ?_
   refine mq 13 rfl kR rfl rfl (q_len rfl) ?_
   refine mq 14 rfl kR rfl rfl (zj rfl) ?_
   refine mq 15 rfl kR rfl rfl (zJ rfl) ?_
   refine mq 16 rfl kR rfl rfl (zM rfl) ?_
   refine mq 17 rfl kR rfl rfl (zp rfl rfl rfl rfl) ?_
   refine mq 18 rfl kR rfl rfl (q_cap rfl) ?_
   refine mq 19 rfl kR rfl rfl (qto (q_sl_lh rfl rfl rfl (by first | omega | (dsimp only; omega)) (by first | omega | (dsimp only; omega)) (by first | omega | (dsimp only; omega))) (sl_eq (o' := 0) (n' := 512) (c' := 512) (by first | omega | (dsimp only; omega)) (by first | omega | (dsimp only; omega)) (by first | omega | (dsimp only; omega)))) ?_
   refine mql 20 rfl kR (fun hcl => ?_)
   refine s_callv rfl rfl rfl rfl (rh_more L T { s with r := { s.r with rlen := s.r.rlen - s.r.rpos, rpos := 0 } } s.r.rpos s.r.rlen n (bf T s.r.off s.r.rpos) hlt hsm hic hn) ?_
   rintro _ _ ⟨rfl, rfl⟩
   refine lS ?_
   refine mqn 20 hcl (mq 21 rfl kR rfl rfl (zj rfl) ?_)
   refine mq 22 rfl kR rfl rfl (kY rfl rfl) ?_
   refine mq 23 rfl kR rfl rfl (kY rfl rfl) ?_
   refine mq 24 rfl kR rfl rfl (kB rfl) ?_
   refine mq 25 rfl kR rfl rfl (kB rfl) ?_
   refine qJ kR (zf (zd (zU 15 zF kR (gg 11 ?_))))
   refine dad ?_
   refine dqz (qto (qc rfl rfl (by first | omega | (dsimp only; omega))) (sl_eq (o' := 0) (n' := n) (c' := 512) rfl (by first | omega | (dsimp only; omega)) rfl)) ?_
   refine gg 10 ?_
   refine sqz (q_loado hcell rfl) (sqz (q_if_ne underlying141 rfl rfl) (gg 6 ?_))
   refine sqz (q_if_nn underlying141 rfl) (gg 11 ?_)
   refine zm (H' := [PB L T { s with r := { s.r with rlen := n, rpos := 0, ipos := s.r.ipos + n } }, (L.rb, .win 5 512 0 n (bf T s.r.ipos 0)), IB L T, GE L]) rfl rfl (Wk.list ⟨rfl, .inr (Blk.like_rec kR), rfl, .inl rfl, rfl, .inl rfl, rfl, .inl rfl, trivial⟩) ⟨rfl, rfl⟩
theorem raw_end (L : Lay) (T : List Nat) (s : PS) (he : Eof L) (heof : s.r.eof = false) (hrr : s.r.rpos = s.r.rlen ∨ s.r.rpos = 0 ∧ s.r.rlen < 512) (hrl : s.r.rlen ≤ 512) (hi : s.r.ipos = T.length) :
   Fn prog 162 [pV L.p] [PB L T s, RB L T s, GE L]
     (fun u H' => u = .bool true ∧ H' = [PB L T { s with r := { s.r with rlen := s.r.rlen - s.r.rpos, rpos := 0, eof := true } }, RB L T { s with r := { s.r with rlen := s.r.rlen - s.r.rpos, rpos := 0, eof := true } }, GE L]) := by
 obtain ⟨et, eu, hev⟩ := he.is
 have hcell := he.cell
 have heq := he.eq
 rw [hev] at hcell heq
 have hlast : Wk [(L.p, Blk.cs 75 (qp L T { s with r := { s.r with rlen := s.r.rlen - s.r.rpos, rpos := 0, eof := true } }) []), GE L, RB L T s] [PB L T { s with r := { s.r with rlen := s.r.rlen - s.r.rpos, rpos := 0, eof := true } }, RB L T { s with r := { s.r with rlen := s.r.rlen - s.r.rpos, rpos := 0, eof := true } }, GE L] := by
   refine Wk.trans (Wk.sel (Hc := [PB L T { s with r := { s.r with rlen := s.r.rlen - s.r.rpos, rpos := 0, eof := true } }, RB L T s, GE L])) (Wk.list ⟨rfl, .inl rfl, rfl, .inr (Blk.likeS ⟨rfl, rfl, rfl, rfl, rfl, ?_, fun i h0 h1 => ⟨?_, ?_, ?_⟩⟩), rfl, .inl rfl, trivial⟩)
   · simp only [Blk.known, Blk.len]; omega
   · simp only [Blk.lo, Blk.known] at *; omega
   · simp only [Blk.lo, Blk.known] at *; omega
   · simp only [Blk.lo, Blk.known] at *
     have : s.r.rpos = 0 := by omega
     simp only [Blk.cell, this]
 by_cases h0 : s.r.rpos = 0
 · refine zo func162 rfl rfl rfl ?_
   intro w
   refine gg 42 ?_
   refine slde (vb heof) rfl ?_
   refine gg 31 ?_
   refine zU 18 zF kR (gg 14 ?_)
   refine dsb ?_
   refine dqz (qc rfl rfl (by first | omega | (dsimp only; omega))) ?_
   refine gg 15 ?_
   refine zA L.p (PB L T { s with r := { s.r with rlen := s.r.rlen - s.r.rpos, rpos := 0 } }).2 (Blk.like_rec kR) ?_
   refine ke (fun i => i == 20) (fun _ => false) ([]) zF ?_
   refine mq 0 rfl kR rfl rfl (zj rfl) ?_
   refine mq 1 rfl kR rfl rfl (zJ rfl) ?_
   refine mq 2 rfl kR rfl rfl (zM rfl) ?_
   refine mq 3 rfl kR rfl rfl (zp rfl rfl rfl rfl) ?_
   refine mq 4 rfl kR rfl rfl (zj rfl) ?_
   refine mq 5 rfl kR rfl rfl (zj rfl) ?_
   refine mq 6 rfl kR rfl rfl (zJ rfl) ?_
   refine mq 7 rfl kR rfl rfl (zM rfl) ?_
   refine mq 8 rfl kR rfl rfl (zp rfl rfl rfl rfl) ?_
   refine mq 9 rfl kR rfl rfl (zj rfl) ?_
   refine mq 10 rfl kR rfl rfl (zJ rfl) ?_
   refine mq 11 rfl kR rfl rfl (zM rfl) ?_
   refine mq 12 rfl kR rfl rfl (zp rfl rfl rfl rfl) ?_
   refine mq 13 rfl kR rfl rfl (q_len rfl) ?_
   refine mq 14 rfl kR rfl rfl (zj rfl) ?_
   refine mq 15 rfl kR rfl rfl (zJ rfl) ?_
   refine mq 16 rfl kR rfl rfl (zM rfl) ?_
   refine mq 17 rfl kR rfl rfl (zp rfl rfl rfl rfl) ?_
   refine mq 18 rfl kR rfl rfl (q_cap rfl) ?_
   refine mq 19 rfl kR rfl rfl (q_sl_lh rfl rfl rfl (by first | omega | (dsimp only; omega)) (by first | omega | (dsimp only; omega)) (by first | omega | (dsimp only; omega))) ?_
   refine mql 20 rfl kR (fun hcl => ?_)
   refine s_callv rfl rfl rfl rfl (rh_end L T { s with r := { s.r with rlen := s.r.rlen - s.r.rpos, rpos := 0 } } _ hi he.cell) ?_
   rintro _ _ ⟨rfl, rfl⟩
   rw [hev]
   refine lS ?_
   refine mqn 20 hcl (mq 21 rfl kR rfl rfl (zj rfl) ?_)
   refine mq 22 rfl kR rfl rfl (kY rfl rfl) ?_
   refine mq 23 rfl kR rfl rfl (kY rfl rfl) ?_
   refine mq 24 rfl kR rfl rfl (kB rfl) ?_
   refine mq 25 rfl kR rfl rfl (kB rfl) ?_
   refine qJ kR (zf (zd (zU 15 zF kR (gg 11 ?_))))
   refine dadc 0 ?_
   refine dqz (qc rfl rfl (by first | omega | (dsimp only; omega))) ?_
   refine gg 10 ?_
   refine sqz (q_loado hcell rfl) (sqz (q_if_ee rfl rfl heq) (gg 16 ?_))
   refine zm (H' := [PB L T { s with r := { s.r with rlen := s.r.rlen - s.r.rpos, rpos := 0, eof := true } }, RB L T { s with r := { s.r with rlen := s.r.rlen - s.r.rpos, rpos := 0, eof := true } }, GE L]) rfl rfl (by refine Wk.trans ?_ hlast; exact Wk.list ⟨rfl, .inr (Blk.like_rec kR), rfl, .inl rfl, rfl, .inl rfl, trivial⟩) ⟨rfl, rfl⟩
 · refine zo func162 rfl rfl rfl ?_
   intro w
   refine gg 42 ?_
   refine slde (vb heof) rfl ?_
   refine gg 31 ?_
   refine zU 18 zF kR (gg 14 ?_)
   refine dsb ?_
   refine dqz (qc rfl rfl (by first | omega | (dsimp only; omega))) ?_
   refine gg 15 ?_
   refine zA L.p (PB L T { s with r := { s.r with rlen := s.r.rlen - s.r.rpos, rpos := 0 } }).2 (Blk.like_rec kR) ?_
   refine ke (fun i => i == 20) (fun _ => false) ([]) zF ?_
   refine mq 0 rfl kR rfl rfl (zj rfl) ?_
   refine mq 1 rfl kR rfl rfl (zJ rfl) ?_
   refine mq 2 rfl kR rfl rfl (zM rfl) ?_
   refine mq 3 rfl kR rfl rfl (zp rfl rfl rfl rfl) ?_
   refine mq 4 rfl kR rfl rfl (zj rfl) ?_
   refine mq 5 rfl kR rfl rfl (zj rfl) ?_
   refine mq 6 rfl kR rfl rfl (zJ rfl) ?_
   refine mq 7 rfl kR rfl rfl (zM rfl) ?_
   refine mq 8 rfl kR rfl rfl (zp rfl rfl rfl rfl) ?_
   refine mq 9 rfl kR rfl rfl (zj rfl) ?_
   refine mq 10 rfl kR rfl rfl (zJ rfl) ?_
   refine mq 11 rfl kR rfl rfl (zM rfl) ?_
   refine mq 12 rfl kR rfl rfl (zp rfl rfl rfl rfl) ?_
   refine mq 13 rfl kR rfl rfl (q_len rfl) ?_
   refine mq 14 rfl kR rfl rfl (zj rfl) ?_
   refine mq 15 rfl kR rfl rfl (zJ rfl) ?_
   refine mq 16 rfl kR rfl rfl (zM rfl) ?_
   refine mq 17 rfl kR rfl rfl (zp rfl rfl rfl rfl) ?_
   refine mq 18 rfl kR rfl rfl (q_cap rfl) ?_
   refine mq 19 rfl kR rfl rfl (q_sl_lh rfl rfl rfl (by first | omega | (dsimp only; omega)) (by first | omega | (dsimp only; omega)) (by first | omega | (dsimp only; omega))) ?_
   refine mql 20 rfl kR (fun hcl => ?_)
   refine s_callv rfl rfl rfl rfl (rh_end L T { s with r := { s.r with rlen := s.r.rlen - s.r.rpos, rpos := 0 } } _ hi he.cell) ?_
   rintro _ _ ⟨rfl, rfl⟩
   rw [hev]
   refine lS ?_
   refine mqn 20 hcl (mq 21 rfl kR rfl rfl (zj rfl) ?_)
   refine mq 22 rfl kR rfl rfl (kY rfl rfl) ?_
   refine mq 23 rfl kR rfl rfl (kY rfl rfl) ?_
   refine mq 24 rfl kR rfl rfl (kB rfl) ?_
   refine mq 25 rfl kR rfl rfl (kB rfl) ?_
   refine qJ kR (zf (zd (zU 15 zF kR (gg 11 ?_))))
   refine dadc 0 ?_
   refine dqz (qc rfl rfl (by first | omega | (dsimp only; omega))) ?_
   refine gg 10 ?_
   refine sqz (q_loado hcell rfl) (sqz (q_if_ee rfl rfl heq) (gg 16 ?_))
   refine zm (H' := [PB L T { s with r := { s.r with rlen := s.r.rlen - s.r.rpos, rpos := 0, eof := true } }, RB L T { s with r := { s.r with rlen := s.r.rlen - s.r.rpos, rpos := 0, eof := true } }, GE L]) rfl rfl (by refine Wk.trans ?_ hlast; exact Wk.list ⟨rfl, .inr (Blk.like_rec kR), rfl, .inl rfl, rfl, .inl rfl, trivial⟩) ⟨rfl, rfl⟩
theorem raw_none (L : Lay) (T : List Nat) (s : PS) (heof : s.r.eof = true) (hrr : s.r.rpos = s.r.rlen) :
   Fn prog 162 [pV L.p] [PB L T s] (fun u H' => u = .bool true ∧ H' = [PB L T s]) := by
 by_cases h0 : s.r.rpos = 0
 · refine zo func162 rfl rfl rfl ?_
   intro w
   refine gg 42 ?_
   refine slde (vb heof) rfl ?_
   refine gg 10 ?_
   exact end1 rfl rfl ⟨rfl, rfl⟩
 · refine zo func162 rfl rfl rfl ?_
   intro w
   refine gg 42 ?_
   refine slde (vb heof) rfl ?_
   refine gg 10 ?_
   exact end1 rfl rfl ⟨rfl, rfl⟩
abbrev RS.new : RS := ⟨0, false, 0, 0, 0, 0, 0, 0, 0⟩
theorem ne_big {a k : Nat} (h : a < 128) (h' : 128 ≤ k) : (a : Int) ≠ (k : Int) := by omega
theorem de_long (L : Lay) (T : List Nat) (s : PS) (he : Eof L) (hsm : T.length ≤ 1000000000) (hic : T.length ≤ L.icap ∧ L.icap ≤ L.isz) (ha : ∀ i, at_ T i < 128) (n : Nat) (hn : n = Nat.min T.length 512) (h3 : 3 ≤ T.length) :
  Fn prog 161 [pV L.p] [PB L T { s with r := .new }, RB L T { s with r := .new }, IB L T, GE L]
   (fun u H' => u = .bool true ∧ H' = [PB L T { s with r := ⟨n, false, 0, 0, 0, n, 0, 1, 0⟩ }, RB L T { s with r := ⟨n, false, 0, 0, 0, n, 0, 1, 0⟩ }, IB L T, GE L]) := by
 have hn1 : n ≤ T.length := by rw [hn]; exact Nat.min_le_left _ _
 have hn2 : n ≤ 512 := by rw [hn]; exact Nat.min_le_right _ _
 have hn3 : 3 ≤ n := by rw [hn]; exact Nat.le_min.2 ⟨h3, by omega⟩
 have a0 := ha 0
 refine zo func161 rfl rfl rfl ?_
 intro w
 refine gg 7 ?_
 refine qg (2) (kn (gg 6 ?_))
 refine dlde rfl rfl ?_
 refine gg 11 ?_
 refine dsb ?_
 refine gg 11 ?_
 refine za rfl rfl rfl (raw_more L T { s with r := .new } n he rfl rfl (by dsimp only; omega) (by dsimp only; omega) hsm hic hn) ?_
 rintro _ _ ⟨rfl, rfl⟩
 simp only [List.cons_append, List.nil_append, Nat.zero_add]
 refine gg 6 ?_
 refine kX (kn (gg 6 ?_))
 refine dlde rfl rfl ?_
 refine gg 11 ?_
 refine dsb ?_
 refine gg 33 ?_
 refine ssb ?_
 refine gg 12 ?_
 refine zn rfl rfl ?_
 refine dqz (q_index rfl rfl omT rfl) ?_
 refine deq0 (h := ?_) (hc := ne_big (ha _) (by decide))
 refine gg 21 ?_
 refine zn rfl rfl ?_
 refine dqz (q_index rfl rfl omT rfl) ?_
 refine deq0 (h := ?_) (hc := ne_big (ha _) (by decide))
 refine gg 21 ?_
 refine zn rfl rfl ?_
 refine dqz (q_index rfl rfl omT rfl) ?_
 refine deq0 (h := ?_) (hc := ne_big (ha _) (by decide))
 refine gg 35 ?_
 refine zm (H' := [PB L T { s with r := ⟨n, false, 0, 0, 0, n, 0, 1, 0⟩ }, RB L T { s with r := ⟨n, false, 0, 0, 0, n, 0, 1, 0⟩ }, IB L T, GE L]) rfl rfl (Wk.list ⟨rfl, .inr (Blk.like_rec kR), rfl, .inl rfl, rfl, .inl rfl, rfl, .inl rfl, trivial⟩) ⟨rfl, rfl⟩
theorem de_two (L : Lay) (T : List Nat) (s : PS) (he : Eof L) (hic : T.length ≤ L.icap ∧ L.icap ≤ L.isz) (ha : ∀ i, at_ T i < 128) (h3 : T.length = 2) :
  Fn prog 161 [pV L.p] [PB L T { s with r := .new }, RB L T { s with r := .new }, IB L T, GE L]
   (fun u H' => u = .bool true ∧ H' = [PB L T { s with r := ⟨2, true, 0, 0, 0, 2, 0, 1, 0⟩ }, RB L T { s with r := ⟨2, true, 0, 0, 0, 2, 0, 1, 0⟩ }, IB L T, GE L]) := by
 have a0 := ha 0
 refine zo func161 rfl rfl rfl ?_
 intro w
 refine gg 7 ?_
 refine qg (3) (kn (gg 6 ?_))
 refine dlde rfl rfl ?_
 refine gg 11 ?_
 refine dsb ?_
 refine gg 11 ?_
 refine za rfl rfl rfl (raw_more L T { s with r := .new } 2 he rfl rfl (by dsimp only; omega) (by dsimp only; omega) omT hic (by rw [h3]; rfl)) ?_
 rintro _ _ ⟨rfl, rfl⟩
 simp only [List.cons_append, List.nil_append, Nat.zero_add]
 refine gg 6 ?_
 refine kX (kn (gg 6 ?_))
 refine dlde rfl rfl ?_
 refine gg 11 ?_
 refine dsb ?_
 refine gg 11 ?_
 refine za rfl rfl rfl (raw_end L T { s with r := ⟨2, false, 0, 0, 0, 2, 0, 0, 0⟩ } he rfl (.inr (by dsimp only; omega)) (by dsimp only; omega) h3.symm) ?_
 rintro _ _ ⟨rfl, rfl⟩
 simp only [List.cons_append, List.nil_append, Nat.sub_zero]
 refine gg 6 ?_
 refine kX (kn (gg 6 ?_))
 refine dlde rfl rfl ?_
 refine gg 45 ?_
 refine ssb ?_
 refine gg 12 ?_
 refine zn rfl rfl ?_
 refine dqz (q_index rfl rfl omT rfl) ?_
 refine deq0 (h := ?_) (hc := ne_big (ha _) (by decide))
 refine gg 21 ?_
 refine zn rfl rfl ?_
 refine dqz (q_index rfl rfl omT rfl) ?_
 refine deq0 (h := ?_) (hc := ne_big (ha _) (by decide))
 refine gg 59 ?_
 refine zm (H' := [PB L T { s with r := ⟨2, true, 0, 0, 0, 2, 0, 1, 0⟩ }, RB L T { s with r := ⟨2, true, 0, 0, 0, 2, 0, 1, 0⟩ }, IB L T, GE L]) rfl rfl (Wk.to [L.p, L.rb, L.ib, 0] (by exact ⟨rfl, .inr (Blk.like_rec kR), rfl, .inl rfl, rfl, .inl rfl, rfl, .inl rfl, trivial⟩)) ⟨rfl, rfl⟩
theorem de_one (L : Lay) (T : List Nat) (s : PS) (he : Eof L) (hic : T.length ≤ L.icap ∧ L.icap ≤ L.isz) (ha : ∀ i, at_ T i < 128) (h3 : T.length = 1) :
  Fn prog 161 [pV L.p] [PB L T { s with r := .new }, RB L T { s with r := .new }, IB L T, GE L]
   (fun u H' => u = .bool true ∧ H' = [PB L T { s with r := ⟨1, true, 0, 0, 0, 1, 0, 1, 0⟩ }, RB L T { s with r := ⟨1, true, 0, 0, 0, 1, 0, 1, 0⟩ }, IB L T, GE L]) := by
 have a0 := ha 0
 refine zo func161 rfl rfl rfl ?_
 intro w
 refine gg 7 ?_
 refine qg (3) (kn (gg 6 ?_))
 refine dlde rfl rfl ?_
 refine gg 11 ?_
 refine dsb ?_
 refine gg 11 ?_
 refine za rfl rfl rfl (raw_more L T { s with r := .new } 1 he rfl rfl (by dsimp only; omega) (by dsimp only; omega) omT hic (by rw [h3]; rfl)) ?_
 rintro _ _ ⟨rfl, rfl⟩
 simp only [List.cons_append, List.nil_append, Nat.zero_add]
 refine gg 6 ?_
 refine kX (kn (gg 6 ?_))
 refine dlde rfl rfl ?_
 refine gg 11 ?_
 refine dsb ?_
 refine gg 11 ?_
 refine za rfl rfl rfl (raw_end L T { s with r := ⟨1, false, 0, 0, 0, 1, 0, 0, 0⟩ } he rfl (.inr (by dsimp only; omega)) (by dsimp only; omega) h3.symm) ?_
 rintro _ _ ⟨rfl, rfl⟩
 simp only [List.cons_append, List.nil_append, Nat.sub_zero]
 refine gg 6 ?_
 refine kX (kn (gg 6 ?_))
 refine dlde rfl rfl ?_
 refine gg 45 ?_
 refine ssb ?_
 refine gg 98 ?_
 refine zm (H' := [PB L T { s with r := ⟨1, true, 0, 0, 0, 1, 0, 1, 0⟩ }, RB L T { s with r := ⟨1, true, 0, 0, 0, 1, 0, 1, 0⟩ }, IB L T, GE L]) rfl rfl (Wk.to [L.p, L.rb, L.ib, 0] (by exact ⟨rfl, .inr (Blk.like_rec kR), rfl, .inl rfl, rfl, .inl rfl, rfl, .inl rfl, trivial⟩)) ⟨rfl, rfl⟩
theorem de_nil (L : Lay) (T : List Nat) (s : PS) (he : Eof L) (h3 : T.length = 0) :
  Fn prog 161 [pV L.p] [PB L T { s with r := .new }, RB L T { s with r := .new }, IB L T, GE L]
   (fun u H' => u = .bool true ∧ H' = [PB L T { s with r := ⟨0, true, 0, 0, 0, 0, 0, 1, 0⟩ }, RB L T { s with r := ⟨0, true, 0, 0, 0, 0, 0, 1, 0⟩ }, IB L T, GE L]) := by
 refine zo func161 rfl rfl rfl ?_
 intro w
 refine gg 7 ?_
 refine qg (2) (kn (gg 6 ?_))
 refine dlde rfl rfl ?_
 refine gg 11 ?_
 refine dsb ?_
 refine gg 11 ?_
 refine za rfl rfl rfl (raw_end L T { s with r := .new } he rfl (.inl rfl) (by dsimp only; omega) h3.symm) ?_
 rintro _ _ ⟨rfl, rfl⟩
 simp only [List.cons_append, List.nil_append, Nat.sub_zero]
 refine gg 6 ?_
 refine kX (kn (gg 6 ?_))
 refine dlde rfl rfl ?_
 refine gg 45 ?_
 refine ssb ?_
 refine gg 98 ?_
 refine zm (H' := [PB L T { s with r := ⟨0, true, 0, 0, 0, 0, 0, 1, 0⟩ }, RB L T { s with r := ⟨0, true, 0, 0, 0, 0, 0, 1, 0⟩ }, IB L T, GE L]) rfl rfl (Wk.to [L.p, L.rb, L.ib, 0] (by exact ⟨rfl, .inr (Blk.like_rec kR), rfl, .inl rfl, rfl, .inl rfl, rfl, .inl rfl, trivial⟩)) ⟨rfl, rfl⟩
theorem de_ok (L : Lay) (T : List Nat) (s : PS) (he : Eof L) (hsm : T.length ≤ 1000000000) (hic : T.length ≤ L.icap ∧ L.icap ≤ L.isz) (ha : ∀ i, at_ T i < 128) :
   Fn prog 161 [pV L.p] [PB L T { s with r := .new }, RB L T { s with r := .new }, IB L T, GE L]
    (fun u H' => u = .bool true ∧ ∃ n e, n ≤ T.length ∧ n ≤ 512 ∧ (e = true → n = T.length) ∧ H' = [PB L T { s with r := ⟨n, e, 0, 0, 0, n, 0, 1, 0⟩ }, RB L T { s with r := ⟨n, e, 0, 0, 0, n, 0, 1, 0⟩ }, IB L T, GE L]) := by
 have mono : ∀ {R R' : Value → zl → Prop} {args H}, Fn prog 161 args H R → (∀ v H', R v H' → R' v H') → Fn prog 161 args H R' :=
   fun h k w hw => (h w hw).mono (by rintro e w' ⟨v, H', h1, h2, h3⟩; exact ⟨v, H', h1, h2, k v H' h3⟩)
 by_cases h3 : 3 ≤ T.length
 · refine mono (de_long L T s he hsm hic ha _ rfl h3) ?_
   rintro v H' ⟨h1, h2⟩
   exact ⟨h1, _, _, Nat.min_le_left _ _, Nat.min_le_right _ _, by simp, h2⟩
 by_cases h2 : T.length = 2
 · refine mono (de_two L T s he hic ha h2) ?_
   rintro v H' ⟨h1, h2'⟩
   exact ⟨h1, _, _, by omega, by omega, by omega, h2'⟩
 by_cases h1 : T.length = 1
 · refine mono (de_one L T s he hic ha h1) ?_
   rintro v H' ⟨h1, h2'⟩
   exact ⟨h1, _, _, by omega, by omega, by omega, h2'⟩
 · refine mono (de_nil L T s he omT) ?_
   rintro v H' ⟨h1, h2'⟩
   exact ⟨h1, _, _, by omega, by omega, by omega, h2'⟩
end Go.Proofs.YtnfbcfflkphbiaaGreatDoor
