import JvmDerived
import JvmDerived.Pilot.@@N@@Statement
import JvmDerived.Pilot.@@N@@Code
set_option linter.unusedVariables false
set_option linter.unusedSimpArgs false
namespace Jvm.Pilot.@@N@@
open Jvm Jvm.ClassFile Sem Op Lib Jvm.Free Jvm.Stand Jvm.LawKit Jvm.RoadKit Bundle Jvm.Pilot.@@N@@.Jvm.D
section Own
variable {p : Program} {l : Launch} {e : Env} {R : Room} {s : State} {m : MethodId} {args : Array Value} {below : List Frame} {meth : Method} {c : Code} {T : State} {locs : List Loc} {cells slots : Nat}
/-- from U the run comes back to 'below' and its end is as P says -/
def Go (p : Program) (e : Env) (below : List Frame) (U : State) (P : Outcome → State → Prop) : Prop := ∃ s₂ o, Steps p.tables e below U s₂ ∧ s₂.status = .running ∧ Ended s₂ below o ∧ P o s₂
theorem Go.mp {U U' : State} {P : Outcome → State → Prop} (h : ∀ t, Steps p.tables e below U' t → Steps p.tables e below U t) (k : Go p e below U' P) : Go p e below U P := by
  obtain ⟨a, b, c, d⟩ := k; exact ⟨a, b, h _ c, d⟩
/-- how a body ends -/
def FinE (s : State) (kc ks : Nat) (Q : Option Value → Heap → List Loc → Prop) (o : Outcome) (t : State) : Prop := ∃ v L, o = .returned v ∧ Q v t.heap L ∧ FrameEnd s o t L kc ks
/-- a body's contract -/
abbrev Ctr (l : Launch) (y : MethodName) (bytes : ByteArray) (maxL : Nat) (ret : Option FieldType) (ws : List Jvm.Cond) (rm : Room) (Z : State) (as' : Array Value) (h : Heap) (Q : Option Value → Heap → List Loc → Prop) : Prop :=
  MetFree l y (head1 (Jvm.Cond.code y bytes maxL ret :: ws) rm) (fun a U => a = as' ∧ Z.Warmed39 U.vm ∧ U.heap = h) (fun _ _ _ _ _ => True) (fun _ U o U' => ∃ v L, o = .returned v ∧ Q v U'.heap L ∧ FrameEnd U o U' L rm.cells rm.slots)
theorem own_enter {y : MethodName} {bytes : ByteArray} {maxL : Nat} {ret : Option FieldType} {ws : List Jvm.Cond} {rm : Room} {Z : State} {as' : Array Value} {h : Heap} {Q : Option Value → Heap → List Loc → Prop} (hpn : plainName y.cls = true)
    (body : ∀ (p : Program) (e : Env) (s : State) (m : MethodId) (below : List Frame) (meth : Method) (c : Code) (s₁ : State), p.tables.exec = Jvm.exec → c.code = bytes → c.maxLocals = maxL → s.vm.findClass y.cls = some m.cls → meth.name = y.name → meth.sig.returnType = ret → meth.locks = false → Z.Warmed39 s.vm → Stand p l e rm s m as' below meth c s₁ [] 0 0 → s₁.heap = h →
      Go p e below (s₁.setTop (entryFrame m as' maxL)) (FinE s rm.cells rm.slots Q)) : Ctr l y bytes maxL ret ws rm Z as' h Q := by
  refine MetFree.of_bodySF (plainFor_of_name hpn) hisR ?_
  intro p e s m args below meth c s₁ Bd hml0 hP hK
  obtain ⟨rfl, hZ, hh⟩ := hP
  exact body p e s m below meth c s₁ Bd.exec Bd.bytes hml0 (findClass_of_methodNamed Bd.named) (name_of_methodNamed Bd.named Bd.method).1 Bd.returns Bd.notSynchronized hZ (Stand.of_body Bd) (by rw [← hh, Bd.state]; rfl)
theorem own_retN (X : Stand p l e R s m args below meth c T locs cells slots) (hx : p.tables.exec = Jvm.exec) {t : FieldType} (hret : meth.sig.returnType = some t) (hlk : meth.locks = false) (ht : t = .boolean ∨ t = .byte ∨ t = .char ∨ t = .short) {kc ks : Nat} {Q : Option Value → Heap → List Loc → Prop} {pc : Nat} {Ls : Array Slot} {z : Int32} {rest : List Value}
    (hd : decode c.code pc = .ok (.ireturn, 1)) (hk : cells ≤ kc) (hn : slots ≤ ks) (hq : Q (some (.int (nar t z))) T.heap locs) : Go p e below (T.setTop (mkF m pc Ls (.int z :: rest))) (FinE s kc ks Q) := by
  obtain ⟨fs, hr, hrun, hended, hW, hsame⟩ := X.leave (v := some (.int (nar t z))) (fun h => by rw [hret] at h; cases h) hlk
  exact ⟨_, _, retN X hx hret ht hd hr, hrun, hended, _, _, rfl, hq, ⟨_, rfl⟩, hW, hsame.mono hk hn⟩
theorem own_retZ (X : Stand p l e R s m args below meth c T locs cells slots) (hx : p.tables.exec = Jvm.exec) (hret : meth.sig.returnType = some .boolean) (hlk : meth.locks = false) {kc ks : Nat} {Q : Option Value → Heap → List Loc → Prop} {pc : Nat} {Ls : Array Slot} {z : Int32} {rest : List Value}
    (hd : decode c.code pc = .ok (.ireturn, 1)) (hk : cells ≤ kc) (hn : slots ≤ ks) (hz : z &&& 1 = z) (hq : Q (some (.int z)) T.heap locs) : Go p e below (T.setTop (mkF m pc Ls (.int z :: rest))) (FinE s kc ks Q) :=
  own_retN X hx hret hlk (Or.inl rfl) hd hk hn (by show Q (some (.int (z &&& 1))) T.heap locs; rw [hz]; exact hq)
theorem own_retW (X : Stand p l e R s m args below meth c T locs cells slots) (hx : p.tables.exec = Jvm.exec) {t : FieldType} {w : Value} {i : Instr} (hret : meth.sig.returnType = some t) (hlk : meth.locks = false) (hw : narrow t w = w)
    (hi : (i = .ireturn ∧ (t = .int ∨ t = .boolean ∨ t = .byte ∨ t = .char ∨ t = .short) ∧ ∃ z, w = .int z) ∨ (i = .lreturn ∧ t = .long ∧ ∃ z, w = .long z) ∨ (i = .dreturn ∧ t = .double ∧ ∃ z, w = .double z) ∨ (i = .freturn ∧ t = .float ∧ ∃ z, w = .float z) ∨ (i = .areturn ∧ t.isReference = true ∧ w.isRef = true))
    {kc ks : Nat} {Q : Option Value → Heap → List Loc → Prop} {pc : Nat} {Ls : Array Slot} {rest : List Value}
    (hd : decode c.code pc = .ok (i, 1)) (hk : cells ≤ kc) (hn : slots ≤ ks) (hq : Q (some w) T.heap locs) : Go p e below (T.setTop (mkF m pc Ls (w :: rest))) (FinE s kc ks Q) := by
  obtain ⟨fs, hr, hrun, hended, hW, hsame⟩ := X.leave (v := some w) (fun h => by rw [hret] at h; cases h) hlk
  exact ⟨_, _, retOut X hx hret hw hi hd hr, hrun, hended, _, _, rfl, hq, ⟨_, rfl⟩, hW, hsame.mono hk hn⟩
theorem own_retI (X : Stand p l e R s m args below meth c T locs cells slots) (hx : p.tables.exec = Jvm.exec) (hret : meth.sig.returnType = some .int) (hlk : meth.locks = false) {kc ks : Nat} {Q : Option Value → Heap → List Loc → Prop} {pc : Nat} {Ls : Array Slot} {z : Int32} {rest : List Value}
    (hd : decode c.code pc = .ok (.ireturn, 1)) (hk : cells ≤ kc) (hn : slots ≤ ks) (hq : Q (some (.int z)) T.heap locs) : Go p e below (T.setTop (mkF m pc Ls (.int z :: rest))) (FinE s kc ks Q) :=
  own_retW X hx hret hlk rfl (Or.inl ⟨rfl, Or.inl rfl, _, rfl⟩) hd hk hn hq
theorem own_retA (X : Stand p l e R s m args below meth c T locs cells slots) (hx : p.tables.exec = Jvm.exec) {t : FieldType} (hret : meth.sig.returnType = some t) (hlk : meth.locks = false) (ht : t.isReference = true) {w : Value} (hw : w.isRef = true) {kc ks : Nat} {Q : Option Value → Heap → List Loc → Prop} {pc : Nat} {Ls : Array Slot} {rest : List Value}
    (hd : decode c.code pc = .ok (.areturn, 1)) (hk : cells ≤ kc) (hn : slots ≤ ks) (hq : Q (some w) T.heap locs) : Go p e below (T.setTop (mkF m pc Ls (w :: rest))) (FinE s kc ks Q) :=
  own_retW X hx hret hlk (by cases t <;> first | (cases ht; done) | (cases w <;> first | rfl | cases hw)) (Or.inr (Or.inr (Or.inr (Or.inr ⟨rfl, ht, hw⟩)))) hd hk hn hq
theorem own_retV (X : Stand p l e R s m args below meth c T locs cells slots) (hx : p.tables.exec = Jvm.exec) (hret : meth.sig.returnType = none) (hlk : meth.locks = false) {kc ks : Nat} {Q : Option Value → Heap → List Loc → Prop} {pc : Nat} {Ls : Array Slot}
    (hd : decode c.code pc = .ok (.return_, 1)) (hk : cells ≤ kc) (hn : slots ≤ ks) (hq : Q none T.heap locs) : Go p e below (T.setTop (mkF m pc Ls [])) (FinE s kc ks Q) := by
  obtain ⟨fs, hr, hrun, hended, hW, hsame⟩ := X.leave (v := none) (fun _ => rfl) hlk
  exact ⟨_, _, X.returnOut hx hret hd hr, hrun, hended, _, _, rfl, hq, ⟨_, rfl⟩, hW, hsame.mono hk hn⟩
/-- the wide end (behind a cold ldc of a String) -/
def FinW (s : State) (kc ks : Nat) (Q : Option Value → Heap → List Loc → Prop) (o : Outcome) (t : State) : Prop := ∃ v L, o = .returned v ∧ Q v t.heap L ∧ ReturnedEndW s o t L kc ks
abbrev CtrW (l : Launch) (y : MethodName) (bytes : ByteArray) (maxL : Nat) (ret : Option FieldType) (ws : List Jvm.Cond) (rm : Room) (Z : State) (as' : Array Value) (h : Heap) (Q : Option Value → Heap → List Loc → Prop) : Prop :=
  MetFree l y (head1 (Jvm.Cond.code y bytes maxL ret :: ws) rm) (fun a U => a = as' ∧ Z.Warmed39 U.vm ∧ U.heap = h) (fun _ _ _ _ _ => True) (fun _ U o U' => ∃ v L, o = .returned v ∧ Q v U'.heap L ∧ ReturnedEndW U o U' L rm.cells rm.slots)
theorem own_enterW {y : MethodName} {bytes : ByteArray} {maxL : Nat} {ret : Option FieldType} {ws : List Jvm.Cond} {rm : Room} {Z : State} {as' : Array Value} {h : Heap} {Q : Option Value → Heap → List Loc → Prop} (hpn : plainName y.cls = true)
    (body : ∀ (p : Program) (e : Env) (s : State) (m : MethodId) (below : List Frame) (meth : Method) (c : Code) (s₁ : State), p.tables.exec = Jvm.exec → c.code = bytes → c.maxLocals = maxL → s.vm.findClass y.cls = some m.cls → meth.name = y.name → meth.sig.returnType = ret → meth.locks = false → Z.Warmed39 s.vm → Stand p l e rm s m as' below meth c s₁ [] 0 0 → s₁.heap = h →
      Go p e below (s₁.setTop (entryFrame m as' maxL)) (FinW s rm.cells rm.slots Q)) : CtrW l y bytes maxL ret ws rm Z as' h Q := by
  refine MetFree.of_bodySF (plainFor_of_name hpn) hisR ?_
  intro p e s m args below meth c s₁ Bd hml0 hP hK
  obtain ⟨rfl, hZ, hh⟩ := hP
  exact body p e s m below meth c s₁ Bd.exec Bd.bytes hml0 (findClass_of_methodNamed Bd.named) (name_of_methodNamed Bd.named Bd.method).1 Bd.returns Bd.notSynchronized hZ (Stand.of_body Bd) (by rw [← hh, Bd.state]; rfl)
theorem own_retZW {vm1 : Vm} {k1 : Nat} (X : Stand p l e R (s.setVm vm1) m args below meth c T locs cells slots) (hx : p.tables.exec = Jvm.exec) (hret : meth.sig.returnType = some .boolean) (hlk : meth.locks = false) (hS : s.Since vm1 k1) (hB : k1 ≤ T.heap.size) {kc ks : Nat} {Q : Option Value → Heap → List Loc → Prop} {pc : Nat} {Ls : Array Slot} {z : Int32} {rest : List Value}
    (hd : decode c.code pc = .ok (.ireturn, 1)) (hk : cells ≤ kc) (hn : slots ≤ ks) (hz : z &&& 1 = z) (hq : Q (some (.int z)) T.heap locs) : Go p e below (T.setTop (mkF m pc Ls (.int z :: rest))) (FinW s kc ks Q) := by
  obtain ⟨fs, hr, hrun, hended, h1, h2, h3, h4⟩ := X.leaveW hS hB (v := some (.int (nar .boolean z))) (fun h => by rw [hret] at h; cases h) hlk
  have e1 : nar .boolean z = z := hz
  exact ⟨_, _, retN X hx hret (Or.inl rfl) hd hr, hrun, hended, _, _, rfl, by rw [e1]; exact hq, h1, h2, h3, h4.mono hk hn⟩
section Calls
variable {Z : State} {a0 : Array Value} {h : Heap} {y : MethodName} {bytes : ByteArray} {maxL : Nat} {ret : Option FieldType} {rm : Room} {as' : Array Value} {Q : Option Value → Heap → List Loc → Prop} {own : String} {index : Nat} {pc : Nat} {Ls : Array Slot} {st argsL rest : List Value} {ps : List FieldType} {r : Option FieldType}
theorem own_callS (X : Stand p l e R s m args below meth c T locs cells slots) (hx : p.tables.exec = Jvm.exec) (hZ : Z.Warmed39 s.vm) (hown : s.vm.findClass own = some m.cls) (w1 : (Jvm.Cond.methodLink own index y).before a0 Z = true) (w2 : (Jvm.Cond.static y).before a0 Z = true) (w3 : (Jvm.Cond.initialized y.cls).before a0 Z = true) (w4 : (Jvm.Cond.code y bytes maxL ret).before a0 Z = true)
    (hy : y.cls ≠ "java/lang/invoke/MethodHandle" ∧ y.cls ≠ "java/lang/invoke/VarHandle") (hM : Ctr l y bytes maxL ret [] rm Z as' h Q) (eT : T.heap = h) (hpd : parseMethodDescriptor y.desc = some ⟨ps, r⟩) (hd : decode c.code pc = .ok (.invokestatic index, 3)) (hsize : Ls.size = c.maxLocals)
    (hlen : argsL.length = ps.length) (hst : st = argsL.reverse ++ rest) (has : argsL.toArray = as') (hf : rm.frames + 1 ≤ R.frames) (hl : (rest.map fun v => v.category).sum + (maxL + 11) + rm.locals ≤ R.locals) (hc : cells + rm.cells ≤ R.cells) (hs : slots + rm.slots ≤ R.slots) :
    ∃ v T' L, Stand p l e R s m args below meth c T' (locs ++ L) (cells + rm.cells) (slots + rm.slots) ∧ Q v T'.heap L ∧ ∀ target, Steps p.tables e below (T'.setTop (mkF m (pc + 3) Ls (v.toList ++ rest))) target → Steps p.tables e below (T.setTop (mkF m pc Ls st)) target := by
  obtain ⟨v, _, ⟨T', L', k', n'⟩, -, X', ⟨Lc, hQ, l1, y1, z1⟩, st'⟩ := Jvm.LawKit.callS X hx (y := y) hown (mvT hZ w1) (mvT hZ w2) (mvT hZ w3) (mvT hZ w4) hy (backOf (W := (rest.map fun v => v.category).sum) hM hZ w4 w3 hf hl) (g := mkF m pc Ls st) rfl hsize (argsL := argsL) (rest := rest) (lenOf hpd hlen) hst (by show 2 * 0 + _ ≤ _; omega) hd (fun _ _ => ⟨has, eT, hc, hs⟩)
  dsimp only [Pt.U, Pt.locs, Pt.cells, Pt.slots] at X' l1 y1 z1 st' hQ
  subst l1 y1 z1
  exact ⟨v, T', Lc, X', hQ, st'⟩
theorem own_callV {C : String} {b : Addr} (X : Stand p l e R s m args below meth c T locs cells slots) (hx : p.tables.exec = Jvm.exec) (hZ : Z.Warmed39 s.vm) (hown : s.vm.findClass own = some m.cls) (w1 : (Jvm.Cond.methodLink own index y).before a0 Z = true) (w2 : (Jvm.Cond.declares y).before a0 Z = true) (w3 : (Jvm.Cond.selects C y y).before a0 Z = true) (w4 : (Jvm.Cond.instanceMethod y).before a0 Z = true)
    (w5 : (Jvm.Cond.code y bytes maxL ret).before a0 Z = true) (w6 : (Jvm.Cond.initialized y.cls).before a0 Z = true) (hy : y.cls ≠ "java/lang/invoke/MethodHandle" ∧ y.cls ≠ "java/lang/invoke/VarHandle") (hM : Ctr l y bytes maxL ret [] rm Z as' h Q) (eT : T.heap = h) (E : Exa Z h b C) (hpd : parseMethodDescriptor y.desc = some ⟨ps, r⟩) (hd : decode c.code pc = .ok (.invokevirtual index, 3)) (hsize : Ls.size = c.maxLocals)
    (hlen : argsL.length = ps.length) (hst : st = argsL.reverse ++ .ref b :: rest) (has : (.ref b :: argsL).toArray = as') (hf : rm.frames + 1 ≤ R.frames) (hl : (rest.map fun v => v.category).sum + (maxL + 11) + rm.locals ≤ R.locals) (hc : cells + rm.cells ≤ R.cells) (hs : slots + rm.slots ≤ R.slots) :
    ∃ v T' L, Stand p l e R s m args below meth c T' (locs ++ L) (cells + rm.cells) (slots + rm.slots) ∧ Q v T'.heap L ∧ ∀ target, Steps p.tables e below (T'.setTop (mkF m (pc + 3) Ls (v.toList ++ rest))) target → Steps p.tables e below (T.setTop (mkF m pc Ls st)) target := by
  obtain ⟨cq, kq, qa, qb, qc⟩ := isOf hZ eT E
  obtain ⟨v, _, ⟨T', L', k', n'⟩, -, X', ⟨Lc, hQ, l1, y1, z1⟩, st'⟩ := X.virtualBack hx (y := y) (z := y) hown (mvT hZ w1) (mvT hZ w2) (notFace_of_selects (args := #[]) (mvT hZ w3)) (mvT hZ w3) (mvT hZ w4) hy (backOf (W := (rest.map fun v => v.category).sum) hM hZ w5 w6 hf hl) qa qc (g := mkF m pc Ls st) rfl hsize (Steps.refl _) (argsL := argsL) (rest := rest) (lenOf hpd hlen) hst (by show 2 * 0 + _ ≤ _; omega) hd (fun _ _ => ⟨has, eT, hc, hs⟩)
  dsimp only [Pt.U, Pt.locs, Pt.cells, Pt.slots] at X' l1 y1 z1 st' hQ
  subst l1 y1 z1
  exact ⟨v, T', Lc, X', hQ, fun t k => st'.trans k⟩
theorem own_callI {b : Addr} (X : Stand p l e R s m args below meth c T locs cells slots) (hx : p.tables.exec = Jvm.exec) (hZ : Z.Warmed39 s.vm) (hown : s.vm.findClass own = some m.cls) (w1 : (Jvm.Cond.methodLink own index y).before a0 Z = true) (w4 : (Jvm.Cond.instanceMethod y).before a0 Z = true)
    (w5 : (Jvm.Cond.code y bytes maxL none).before a0 Z = true) (w6 : (Jvm.Cond.initialized y.cls).before a0 Z = true) (hn : y.name = "<init>") (hy : y.cls ≠ "java/lang/invoke/MethodHandle" ∧ y.cls ≠ "java/lang/invoke/VarHandle") (hM : Ctr l y bytes maxL none [] rm Z as' h Q) (eT : T.heap = h) (hpd : parseMethodDescriptor y.desc = some ⟨ps, r⟩) (hd : decode c.code pc = .ok (.invokespecial index, 3)) (hsize : Ls.size = c.maxLocals)
    (hlen : argsL.length = ps.length) (hst : st = argsL.reverse ++ .ref b :: rest) (has : (.ref b :: argsL).toArray = as') (hf : rm.frames + 1 ≤ R.frames) (hl : (rest.map fun v => v.category).sum + (maxL + 11) + rm.locals ≤ R.locals) (hc : cells + rm.cells ≤ R.cells) (hs : slots + rm.slots ≤ R.slots) :
    ∃ v T' L, Stand p l e R s m args below meth c T' (locs ++ L) (cells + rm.cells) (slots + rm.slots) ∧ Q v T'.heap L ∧ ∀ target, Steps p.tables e below (T'.setTop (mkF m (pc + 3) Ls (v.toList ++ rest))) target → Steps p.tables e below (T.setTop (mkF m pc Ls st)) target := by
  obtain ⟨v, _, ⟨T', L', k', n'⟩, -, X', ⟨Lc, hQ, l1, y1, z1⟩, st'⟩ := X.specialBack hx (y := y) hn hown (mvT hZ w1) (mvT hZ w4) (mvT hZ w5) hy (backOf (W := (rest.map fun v => v.category).sum) hM hZ w5 w6 hf hl) (g := mkF m pc Ls st) rfl hsize (Steps.refl _) (a := b) (argsL := argsL) (rest := rest) (lenOf hpd hlen) hst (by show 2 * 0 + _ ≤ _; omega) hd (fun _ _ => ⟨has, eT, hc, hs⟩)
  dsimp only [Pt.U, Pt.locs, Pt.cells, Pt.slots] at X' l1 y1 z1 st' hQ
  subst l1 y1 z1
  exact ⟨v, T', Lc, X', hQ, fun t k => st'.trans k⟩
end Calls
section Facts
variable {Z : State} {h : Heap} {a b : Addr} {C F D K O n d : String} {v w : Value}
theorem own_fld_fun (F1 : Fld Z h a C n d v) (F2 : Fld Z h a C n d w) : v = w := by
  obtain ⟨c1, cf1, k1, i1, f1, h1, h2, h3, h4, h5, h6, h7⟩ := F1
  obtain ⟨c2, cf2, k2, i2, f2, g1, g2, g3, g4, g5, g6, g7⟩ := F2
  cases h1.symm.trans g1
  cases h2.symm.trans g2
  exact Option.some.inj (h7.symm.trans g7)
theorem own_ne {i j : Int32} (F1 : Fld Z h a C n d (.int i)) (F2 : Fld Z h b C n d (.int j)) (hij : i ≠ j) : a ≠ b := fun e => by
  subst e; exact hij (Value.int.inj (own_fld_fun F1 F2))
theorem own_sta {args : Array Value} (hn : (Jvm.Cond.exactly (.static C F D) K).value args Z none Z [] = some true) (hi : (Jvm.Cond.initialized C).before args Z = true) (hl : (Jvm.Cond.laysStatic C F D).before args Z = true) :
    ∃ w : Addr, Sta Z Z.heap C F D (.ref w) ∧ Exa Z Z.heap w K ∧ (Term.static C F D).eval args Z none [] Z = some (.ref w) := by
  obtain ⟨a', c', cell, k, e1, -⟩ := Cond.exactly_spec (Cond.before_iff.mpr hn)
  exact ⟨a', Sta.start e1 (Or.inr ⟨hi, hl⟩), Exa.start e1 hn, e1⟩
theorem own_ord {args : Array Value} {k : Int32} {t : Term} (hn : (Jvm.Cond.eq (.field t O n d) (.int k)).value args Z none Z [] = some true) (ev : t.eval args Z none [] Z = some (.ref a)) : Fld Z Z.heap a O n d (.int k) := by
  refine Fld.start ?_
  simp only [Jvm.Cond.value, Term.eval, ev] at hn
  cases hq : Z.fieldOf? a O n d with
  | none => simp [hq] at hn
  | some v => cases v <;> simp_all
theorem own_fref {args : Array Value} {t u : Term} (hn : (Jvm.Cond.eq (.field t O n d) u).value args Z none Z [] = some true) (ev : t.eval args Z none [] Z = some (.ref a)) (eu : u.eval args Z none [] Z = some (.ref b)) : Fld Z Z.heap a O n d (.ref b) := by
  refine Fld.start ?_
  simp only [Jvm.Cond.value, Term.eval, ev, eu] at hn
  cases hq : Z.fieldOf? a O n d with
  | none => simp [hq] at hn
  | some v => cases v <;> simp_all
theorem own_arrOf {args : Array Value} {t : Term} {ty : FieldType} (hn : (Jvm.Cond.arrayOf t ty).value args Z none Z [] = some true) : ∃ a c, t.eval args Z none [] Z = some (.ref a) ∧ Arr Z Z.heap a c ty := by
  cases hq : t.eval args Z none [] Z with
  | none => simp [Jvm.Cond.value, hq] at hn
  | some v =>
    cases v with
    | ref a => obtain ⟨c, A⟩ := Arr.start hq hn; exact ⟨a, c, rfl, A⟩
    | _ => simp [Jvm.Cond.value, hq] at hn
theorem own_arrLen {args : Array Value} {t : Term} {ty : FieldType} {cl : Cell} {k : Int32} (A : Arr Z Z.heap a cl ty) (ev : t.eval args Z none [] Z = some (.ref a)) (hn : (Jvm.Cond.eq (.length t) (.int k)).value args Z none Z [] = some true) : cl.slots.size < 2 ^ 31 ∧ cl.slots.size.toInt32 = k := by
  have hA : Z.arrayAt? a = some cl := A.fin (Vm.Alike.refl _)
  by_cases q : cl.slots.size < 2 ^ 31
  · refine ⟨q, ?_⟩
    have e : (Term.length t).eval args Z none [] Z = some (.int cl.slots.size.toInt32) := by simp [Term.eval, ev, hA, q]
    have e2 : (Term.int k).eval args Z none [] Z = some (.int k) := rfl
    simp only [Jvm.Cond.value, e, e2] at hn
    simpa using hn
  · have e : (Term.length t).eval args Z none [] Z = none := by simp [Term.eval, ev, hA, q]
    simp [Jvm.Cond.value, e] at hn
theorem own_arrElem {args : Array Value} {t u : Term} {ty : FieldType} {cl : Cell} {j : Int32} (A : Arr Z Z.heap a cl ty) (ev : t.eval args Z none [] Z = some (.ref a)) (eu : u.eval args Z none [] Z = some (.ref b)) (hj : ¬ j < 0) (hn : (Jvm.Cond.eq (.elem t (.int j)) u).value args Z none Z [] = some true) : cl.slots[j.toNatClampNeg]? = some (.ref b) := by
  have hA : Z.arrayAt? a = some cl := A.fin (Vm.Alike.refl _)
  have e : (Term.elem t (.int j)).eval args Z none [] Z = cl.slots[j.toNatClampNeg]? := by simp [Term.eval, ev, hA, hj]
  cases hq : cl.slots[j.toNatClampNeg]? with
  | none => rw [hq] at e; simp [Jvm.Cond.value, e] at hn
  | some v => rw [hq] at e; simp only [Jvm.Cond.value, e, eu] at hn; cases v <;> simp_all
theorem own_zand (x : Int32) : (0 : Int32) &&& x = (0 : Int32) := Int32.zero_and
theorem own_nin {x a : Addr} {ws : List Addr} (h : x ≠ a) (k : x ∉ ws) : x ∉ a :: ws := fun q => (List.mem_cons.mp q).elim h k
theorem own_plain {K : String} {ws : List Addr} (E : Exa Z h a K) (k : ∀ x ∈ ws, ∃ K', Exa Z h x K') : ∀ x ∈ a :: ws, ∃ K', Exa Z h x K' := fun x q => (List.mem_cons.mp q).elim (fun e => ⟨K, e ▸ E⟩) (k x)
theorem own_sta_keep {h' : Heap} {ws : List Addr} (S : Sta Z h C n d v) (K : Keep h h' ws) (hp : ∀ x ∈ ws, ∃ K', Exa Z h x K') : Sta Z h' C n d v := by
  obtain ⟨cf, i, k, f, st, cell, h1, h2, h3, h4, h5, h6, h7⟩ := S
  refine ⟨cf, i, k, f, st, cell, h1, h2, h3, h4, K.2.1 _ _ h5 fun q => ?_, h6, h7⟩
  obtain ⟨K', cl, kk, e1, -, -, e4, -⟩ := hp _ q
  cases h5.symm.trans e1
  rw [e4] at h6; cases h6
theorem own_mem1 {h0 : Heap} {ws : List Addr} {a : Addr} (q : a ∈ ws ∨ h0.size ≤ a) : ∀ x ∈ [a], x ∈ ws ∨ h0.size ≤ x := fun x hx => by cases List.mem_singleton.mp hx; exact q
theorem own_mem2 {h0 : Heap} {ws : List Addr} {a b : Addr} (q : a ∈ ws ∨ h0.size ≤ a) (r : b ∈ ws ∨ h0.size ≤ b) : ∀ x ∈ [a, b], x ∈ ws ∨ h0.size ≤ x := fun x hx => by
  rcases List.mem_cons.mp hx with rfl | hx
  · exact q
  · cases List.mem_singleton.mp hx; exact r
theorem own_fitR {ty : FieldType} (ht : ty.isReference = true) (hv : v.isRef = true) : fits ty v = true := by cases ty <;> first | (cases ht; done) | (cases v <;> first | rfl | cases hv)
theorem own_narR {ty : FieldType} (ht : ty.isReference = true) (hv : v.isRef = true) : narrow ty v = v := by cases ty <;> first | (cases ht; done) | (cases v <;> first | rfl | cases hv)
theorem own_bit {z : Int32} (hz : z = 0 ∨ z = 1) : z &&& 1 = z := by rcases hz with rfl | rfl <;> decide
theorem own_narZ {z : Int32} (hz : z = 0 ∨ z = 1) : narrow .boolean (.int z) = .int z := by rcases hz with rfl | rfl <;> rfl
theorem own_fitZ {z : Int32} (hz : z = 0 ∨ z = 1) : fits .boolean (.int z) = true := by rcases hz with rfl | rfl <;> rfl
theorem own_pad {dv : Value} (k : Nat) (i : Nat) : (List.replicate k dv).getD i dv = ([] : List Value).getD i dv := by
  simp only [List.getD, List.getElem?_replicate]
  split <;> rfl
end Facts
end Own
section G
variable {p : Program} {l : Launch} {e : Env} {R : Room} {s : State} {m : MethodId} {args : Array Value} {below : List Frame} {meth : Method} {c : Code} {T : State} {locs : List Loc} {cells slots : Nat} {pc : Nat} {Ls : Array Slot} {st : List Value} {P : Outcome → State → Prop}
theorem g_iloadN (X : Stand p l e R s m args below meth c T locs cells slots) (hx : p.tables.exec = Jvm.exec) {k : Fin 4} {v : Int32} (hd : decode c.code pc = .ok (.iload_n k, 1)) (hl : Ls[k.val]? = some (.val (.int v))) (hr : Go p e below (T.setTop (mkF m (pc + 1) Ls (.int v :: st))) P) : Go p e below (T.setTop (mkF m pc Ls st)) P := Go.mp (fun _ k => XS.iloadN X.here hx rfl hd hl k) hr
theorem g_iload (X : Stand p l e R s m args below meth c T locs cells slots) (hx : p.tables.exec = Jvm.exec) {k : Nat} {v : Int32} (hd : decode c.code pc = .ok (.iload k, 2)) (hl : Ls[k]? = some (.val (.int v))) (hr : Go p e below (T.setTop (mkF m (pc + 2) Ls (.int v :: st))) P) : Go p e below (T.setTop (mkF m pc Ls st)) P := Go.mp (fun _ k => XS.iload X.here hx rfl hd hl k) hr
theorem g_lloadN (X : Stand p l e R s m args below meth c T locs cells slots) (hx : p.tables.exec = Jvm.exec) {k : Fin 4} {v : Int64} (hd : decode c.code pc = .ok (.lload_n k, 1)) (hl : Ls[k.val]? = some (.val (.long v))) (hr : Go p e below (T.setTop (mkF m (pc + 1) Ls (.long v :: st))) P) : Go p e below (T.setTop (mkF m pc Ls st)) P := Go.mp (fun _ k => XS.lloadN X.here hx rfl hd hl k) hr
theorem g_lload (X : Stand p l e R s m args below meth c T locs cells slots) (hx : p.tables.exec = Jvm.exec) {k : Nat} {v : Int64} (hd : decode c.code pc = .ok (.lload k, 2)) (hl : Ls[k]? = some (.val (.long v))) (hr : Go p e below (T.setTop (mkF m (pc + 2) Ls (.long v :: st))) P) : Go p e below (T.setTop (mkF m pc Ls st)) P := Go.mp (fun _ k => XS.lload X.here hx rfl hd hl k) hr
theorem g_aloadN (X : Stand p l e R s m args below meth c T locs cells slots) (hx : p.tables.exec = Jvm.exec) {k : Fin 4} {v : Value} (hd : decode c.code pc = .ok (.aload_n k, 1)) (hl : Ls[k.val]? = some (.val v)) (hv : v.isRef = true) (hr : Go p e below (T.setTop (mkF m (pc + 1) Ls (v :: st))) P) : Go p e below (T.setTop (mkF m pc Ls st)) P := Go.mp (fun _ k => XS.aloadN X.here hx rfl hd hl hv k) hr
theorem g_aload (X : Stand p l e R s m args below meth c T locs cells slots) (hx : p.tables.exec = Jvm.exec) {k : Nat} {v : Value} (hd : decode c.code pc = .ok (.aload k, 2)) (hl : Ls[k]? = some (.val v)) (hv : v.isRef = true) (hr : Go p e below (T.setTop (mkF m (pc + 2) Ls (v :: st))) P) : Go p e below (T.setTop (mkF m pc Ls st)) P := Go.mp (fun _ k => XS.aload X.here hx rfl hd hl hv k) hr
theorem g_istoreN (X : Stand p l e R s m args below meth c T locs cells slots) (hx : p.tables.exec = Jvm.exec) {k : Fin 4} {v : Int32} (l' : Array Slot) (hd : decode c.code pc = .ok (.istore_n k, 1)) (hl : storeLocals Ls k.val (.int v) = some l') (hr : Go p e below (T.setTop (mkF m (pc + 1) l' st)) P) : Go p e below (T.setTop (mkF m pc Ls (.int v :: st))) P := Go.mp (fun _ k => XS.istoreN X.here hx rfl hd rfl hl k) hr
theorem g_istore (X : Stand p l e R s m args below meth c T locs cells slots) (hx : p.tables.exec = Jvm.exec) {k : Nat} {v : Int32} (l' : Array Slot) (hd : decode c.code pc = .ok (.istore k, 2)) (hl : storeLocals Ls k (.int v) = some l') (hr : Go p e below (T.setTop (mkF m (pc + 2) l' st)) P) : Go p e below (T.setTop (mkF m pc Ls (.int v :: st))) P := Go.mp (fun _ k => XS.istore X.here hx rfl hd rfl hl k) hr
theorem g_astoreN (X : Stand p l e R s m args below meth c T locs cells slots) (hx : p.tables.exec = Jvm.exec) {k : Fin 4} {v : Value} (l' : Array Slot) (hd : decode c.code pc = .ok (.astore_n k, 1)) (hv : v.isRef = true) (hl : storeLocals Ls k.val v = some l') (hr : Go p e below (T.setTop (mkF m (pc + 1) l' st)) P) : Go p e below (T.setTop (mkF m pc Ls (v :: st))) P := Go.mp (fun _ k => XS.astoreN X.here hx rfl hd rfl hv hl k) hr
theorem g_astore (X : Stand p l e R s m args below meth c T locs cells slots) (hx : p.tables.exec = Jvm.exec) {k : Nat} {v : Value} (l' : Array Slot) (hd : decode c.code pc = .ok (.astore k, 2)) (hv : v.isRef = true) (hl : storeLocals Ls k v = some l') (hr : Go p e below (T.setTop (mkF m (pc + 2) l' st)) P) : Go p e below (T.setTop (mkF m pc Ls (v :: st))) P := Go.mp (fun _ k => XS.astore X.here hx rfl hd rfl hv hl k) hr
theorem g_iconst (X : Stand p l e R s m args below meth c T locs cells slots) (hx : p.tables.exec = Jvm.exec) {i : Int} (v : Int32) (hd : decode c.code pc = .ok (.iconst i, 1)) (hv : Int32.ofInt i = v) (hr : Go p e below (T.setTop (mkF m (pc + 1) Ls (.int v :: st))) P) : Go p e below (T.setTop (mkF m pc Ls st)) P := Go.mp (fun _ k => XT.iconstV X.here hx rfl v hd hv k) hr
theorem g_bipush (X : Stand p l e R s m args below meth c T locs cells slots) (hx : p.tables.exec = Jvm.exec) {i : Int} (v : Int32) (hd : decode c.code pc = .ok (.bipush i, 2)) (hv : (Int8.ofInt i).toInt32 = v) (hr : Go p e below (T.setTop (mkF m (pc + 2) Ls (.int v :: st))) P) : Go p e below (T.setTop (mkF m pc Ls st)) P := Go.mp (fun _ k => XT.bipushV X.here hx rfl v hd hv k) hr
theorem g_sipush (X : Stand p l e R s m args below meth c T locs cells slots) (hx : p.tables.exec = Jvm.exec) {i : Int} (v : Int32) (hd : decode c.code pc = .ok (.sipush i, 3)) (hv : (Int16.ofInt i).toInt32 = v) (hr : Go p e below (T.setTop (mkF m (pc + 3) Ls (.int v :: st))) P) : Go p e below (T.setTop (mkF m pc Ls st)) P := Go.mp (fun _ k => XT.sipushV X.here hx rfl v hd hv k) hr
theorem g_null (X : Stand p l e R s m args below meth c T locs cells slots) (hx : p.tables.exec = Jvm.exec) (hd : decode c.code pc = .ok (.aconst_null, 1)) (hr : Go p e below (T.setTop (mkF m (pc + 1) Ls (.null :: st))) P) : Go p e below (T.setTop (mkF m pc Ls st)) P := Go.mp (fun _ k => XS.aconstNull X.here hx rfl hd k) hr
theorem g_iadd (X : Stand p l e R s m args below meth c T locs cells slots) (hx : p.tables.exec = Jvm.exec) {x y : Int32} (hd : decode c.code pc = .ok (.iadd, 1)) (hr : Go p e below (T.setTop (mkF m (pc + 1) Ls (.int (x + y) :: st))) P) : Go p e below (T.setTop (mkF m pc Ls (.int y :: .int x :: st))) P := Go.mp (fun _ k => XS.iadd X.here hx rfl hd rfl k) hr
theorem g_isub (X : Stand p l e R s m args below meth c T locs cells slots) (hx : p.tables.exec = Jvm.exec) {x y : Int32} (hd : decode c.code pc = .ok (.isub, 1)) (hr : Go p e below (T.setTop (mkF m (pc + 1) Ls (.int (x - y) :: st))) P) : Go p e below (T.setTop (mkF m pc Ls (.int y :: .int x :: st))) P := Go.mp (fun _ k => XS.isub X.here hx rfl hd rfl k) hr
theorem g_iand (X : Stand p l e R s m args below meth c T locs cells slots) (hx : p.tables.exec = Jvm.exec) {x y : Int32} (hd : decode c.code pc = .ok (.iand, 1)) (hr : Go p e below (T.setTop (mkF m (pc + 1) Ls (.int (x &&& y) :: st))) P) : Go p e below (T.setTop (mkF m pc Ls (.int y :: .int x :: st))) P := Go.mp (fun _ k => XS.iand X.here hx rfl hd rfl k) hr
theorem g_ior (X : Stand p l e R s m args below meth c T locs cells slots) (hx : p.tables.exec = Jvm.exec) {x y : Int32} (hd : decode c.code pc = .ok (.ior, 1)) (hr : Go p e below (T.setTop (mkF m (pc + 1) Ls (.int (x ||| y) :: st))) P) : Go p e below (T.setTop (mkF m pc Ls (.int y :: .int x :: st))) P := Go.mp (fun _ k => XS.ior X.here hx rfl hd rfl k) hr
theorem g_ixor (X : Stand p l e R s m args below meth c T locs cells slots) (hx : p.tables.exec = Jvm.exec) {x y : Int32} (hd : decode c.code pc = .ok (.ixor, 1)) (hr : Go p e below (T.setTop (mkF m (pc + 1) Ls (.int (x ^^^ y) :: st))) P) : Go p e below (T.setTop (mkF m pc Ls (.int y :: .int x :: st))) P := Go.mp (fun _ k => XS.ixor X.here hx rfl hd rfl k) hr
theorem g_dup (X : Stand p l e R s m args below meth c T locs cells slots) (hx : p.tables.exec = Jvm.exec) {x : Value} (hd : decode c.code pc = .ok (.dup, 1)) (hc : x.category = 1) (hr : Go p e below (T.setTop (mkF m (pc + 1) Ls (x :: x :: st))) P) : Go p e below (T.setTop (mkF m pc Ls (x :: st))) P := Go.mp (fun _ k => XS.dup X.here hx rfl hd rfl hc k) hr
theorem g_pop (X : Stand p l e R s m args below meth c T locs cells slots) (hx : p.tables.exec = Jvm.exec) {x : Value} (hd : decode c.code pc = .ok (.pop, 1)) (hc : x.category = 1) (hr : Go p e below (T.setTop (mkF m (pc + 1) Ls st)) P) : Go p e below (T.setTop (mkF m pc Ls (x :: st))) P := Go.mp (fun _ k => XS.pop X.here hx rfl hd rfl hc k) hr
theorem g_goto (X : Stand p l e R s m args below meth c T locs cells slots) (hx : p.tables.exec = Jvm.exec) {o : Int} (pc' : Nat) (hd : decode c.code pc = .ok (.goto o, 3)) (ho : 0 ≤ (pc : Int) + o) (hp : ((pc : Int) + o).toNat = pc') (hr : Go p e below (T.setTop (mkF m pc' Ls st)) P) : Go p e below (T.setTop (mkF m pc Ls st)) P := Go.mp (fun _ k => XS.goto X.here hx rfl (pc0 := pc) (pc' := pc') rfl hd ho hp k) hr
theorem g_ifYes (X : Stand p l e R s m args below meth c T locs cells slots) (hx : p.tables.exec = Jvm.exec) {cd : ClassFile.Cond} {x : Int32} {o : Int} (pc' : Nat) (hd : decode c.code pc = .ok (.ifCond cd o, 3)) (hc : ifCond.holds cd x = true) (ho : 0 ≤ (pc : Int) + o) (hp : ((pc : Int) + o).toNat = pc') (hr : Go p e below (T.setTop (mkF m pc' Ls st)) P) : Go p e below (T.setTop (mkF m pc Ls (.int x :: st))) P := Go.mp (fun _ k => XS.ifYes X.here hx rfl (pc0 := pc) (pc' := pc') rfl hd rfl hc ho hp k) hr
theorem g_ifNo (X : Stand p l e R s m args below meth c T locs cells slots) (hx : p.tables.exec = Jvm.exec) {cd : ClassFile.Cond} {x : Int32} {o : Int} (hd : decode c.code pc = .ok (.ifCond cd o, 3)) (hc : ifCond.holds cd x = false) (hr : Go p e below (T.setTop (mkF m (pc + 3) Ls st)) P) : Go p e below (T.setTop (mkF m pc Ls (.int x :: st))) P := Go.mp (fun _ k => XS.ifNo X.here hx rfl hd rfl hc k) hr
theorem g_icmpYes (X : Stand p l e R s m args below meth c T locs cells slots) (hx : p.tables.exec = Jvm.exec) {cd : ClassFile.Cond} {x y : Int32} {o : Int} (pc' : Nat) (hd : decode c.code pc = .ok (.if_icmp cd o, 3)) (hc : if_icmp.holds cd x y = true) (ho : 0 ≤ (pc : Int) + o) (hp : ((pc : Int) + o).toNat = pc') (hr : Go p e below (T.setTop (mkF m pc' Ls st)) P) : Go p e below (T.setTop (mkF m pc Ls (.int y :: .int x :: st))) P := Go.mp (fun _ k => XS.icmpYes X.here hx rfl (pc0 := pc) (pc' := pc') rfl hd rfl hc ho hp k) hr
theorem g_icmpNo (X : Stand p l e R s m args below meth c T locs cells slots) (hx : p.tables.exec = Jvm.exec) {cd : ClassFile.Cond} {x y : Int32} {o : Int} (hd : decode c.code pc = .ok (.if_icmp cd o, 3)) (hc : if_icmp.holds cd x y = false) (hr : Go p e below (T.setTop (mkF m (pc + 3) Ls st)) P) : Go p e below (T.setTop (mkF m pc Ls (.int y :: .int x :: st))) P := Go.mp (fun _ k => XS.icmpNo X.here hx rfl hd rfl hc k) hr
theorem g_acmp (X : Stand p l e R s m args below meth c T locs cells slots) (hx : p.tables.exec = Jvm.exec) {cd : ACond} {x y : Value} {o : Int} (pc' : Nat) (same : Bool) (h1 : x.isRef = true) (h2 : y.isRef = true) (hd : decode c.code pc = .ok (.if_acmp cd o, 3)) (hq : decide (x = y) = same) (ho : 0 ≤ (pc : Int) + o) (hp : pc' = if acV cd same = true then ((pc : Int) + o).toNat else pc + 3) (hr : Go p e below (T.setTop (mkF m pc' Ls st)) P) : Go p e below (T.setTop (mkF m pc Ls (y :: x :: st))) P := Go.mp (fun _ k => Jvm.RoadKit.acmp (g := mkF m pc Ls (y :: x :: st)) X hx rfl h1 h2 (pc0 := pc) (pc' := pc') (same := same) rfl hd rfl hq ho hp k) hr
theorem g_irem (X : Stand p l e R s m args below meth c T locs cells slots) (hx : p.tables.exec = Jvm.exec) {x y : Int32} (hd : decode c.code pc = .ok (.irem, 1)) (hy : y ≠ 0) (hr : Go p e below (T.setTop (mkF m (pc + 1) Ls (.int (x % y) :: st))) P) : Go p e below (T.setTop (mkF m pc Ls (.int y :: .int x :: st))) P := Go.mp (fun _ k => iremM X hx rfl hd rfl hy k) hr
end G
theorem pn_0 : plainName "com/example/reorient/reorient/model/NaturalOrientationIsPortraitPinLaw" = true := by first | (simp [plainName, overriddenIn]; done) | decide +kernel
def f_rotationOf (i1 : Int32) (w_ROTATION_0 : Addr) (w_ROTATION_90 : Addr) (w_ROTATION_180 : Addr) (w_ROTATION_270 : Addr) : Addr := (if i1 = (0 : Int32) then w_ROTATION_0 else (if i1 = (1 : Int32) then w_ROTATION_90 else (if i1 = (2 : Int32) then w_ROTATION_180 else w_ROTATION_270)))
theorem d1_0 : decode method_2_code 0 = .ok (.iload_n 0, 1) := by decide +kernel
theorem d1_1 : decode method_2_code 1 = .ok (.ifCond .ne 7, 3) := by decide +kernel
theorem d1_4 : decode method_2_code 4 = .ok (.getstatic 7, 3) := by decide +kernel
theorem d1_7 : decode method_2_code 7 = .ok (.areturn, 1) := by decide +kernel
theorem d1_8 : decode method_2_code 8 = .ok (.iload_n 0, 1) := by decide +kernel
theorem d1_9 : decode method_2_code 9 = .ok (.iconst 1, 1) := by decide +kernel
theorem d1_10 : decode method_2_code 10 = .ok (.if_icmp .ne 7, 3) := by decide +kernel
theorem d1_13 : decode method_2_code 13 = .ok (.getstatic 13, 3) := by decide +kernel
theorem d1_16 : decode method_2_code 16 = .ok (.areturn, 1) := by decide +kernel
theorem d1_17 : decode method_2_code 17 = .ok (.iload_n 0, 1) := by decide +kernel
theorem d1_18 : decode method_2_code 18 = .ok (.iconst 2, 1) := by decide +kernel
theorem d1_19 : decode method_2_code 19 = .ok (.if_icmp .ne 7, 3) := by decide +kernel
theorem d1_22 : decode method_2_code 22 = .ok (.getstatic 16, 3) := by decide +kernel
theorem d1_25 : decode method_2_code 25 = .ok (.areturn, 1) := by decide +kernel
theorem d1_26 : decode method_2_code 26 = .ok (.getstatic 19, 3) := by decide +kernel
theorem d1_29 : decode method_2_code 29 = .ok (.areturn, 1) := by decide +kernel
theorem ef_rm_rotationOf (m : MethodId) (x0 : Int32) : entryFrame m #[(.int x0)] 1 = mkF m 0 #[.val (.int x0)] [] := by first | (simp [entryFrame, mkF, argsToLocals, Value.category]; done) | rfl
set_option maxRecDepth 65536 in
set_option maxHeartbeats 40000000 in
theorem rm_rotationOf (l : Launch) (Z : State) (a0 : Array Value) (hw : ∀ d ∈ tables_1, d.before a0 Z = true) (i1 : Int32) (w_ROTATION_0 : Addr) (w_ROTATION_90 : Addr) (w_ROTATION_180 : Addr) (w_ROTATION_270 : Addr) (h0 : Heap) (n0 : Nat) (Z0 : n0 ≤ h0.size) (S_ROTATION_0 : Sta Z h0 "com/example/reorient/reorient/model/Rotation" "ROTATION_0" "Lcom/example/reorient/reorient/model/Rotation;" (.ref w_ROTATION_0)) (S_ROTATION_90 : Sta Z h0 "com/example/reorient/reorient/model/Rotation" "ROTATION_90" "Lcom/example/reorient/reorient/model/Rotation;" (.ref w_ROTATION_90)) (S_ROTATION_180 : Sta Z h0 "com/example/reorient/reorient/model/Rotation" "ROTATION_180" "Lcom/example/reorient/reorient/model/Rotation;" (.ref w_ROTATION_180)) (S_ROTATION_270 : Sta Z h0 "com/example/reorient/reorient/model/Rotation" "ROTATION_270" "Lcom/example/reorient/reorient/model/Rotation;" (.ref w_ROTATION_270)) :
    Ctr l (⟨"com/example/reorient/reorient/model/NaturalOrientationIsPortraitPinLaw", "rotationOf", "(I)Lcom/example/reorient/reorient/model/Rotation;"⟩ : MethodName) method_2_code 1 (some (FieldType.object "com/example/reorient/reorient/model/Rotation")) [] ({ frames := 0, cells := 0, slots := 0, locals := 0 } : Room) Z #[(.int i1)] h0 (fun v h L => v = some (.ref (f_rotationOf i1 w_ROTATION_0 w_ROTATION_90 w_ROTATION_180 w_ROTATION_270)) ∧ Fr n0 L ∧ h = h0) := by
  refine own_enter pn_0 (fun p e s m below meth c s₁ hx hby hml hown hnm hret hlk hZ X0 e0 => ?_)
  have N0 := Fr.nil n0
  rw [ef_rm_rotationOf m _]
  show Go p e below (s₁.setTop (mkF m 0 #[.val (.int i1)] [])) _
  refine g_iloadN X0 hx (hb hby d1_0) rfl ?_
  by_cases c1_1 : i1 = (0 : Int32)
  · refine g_ifNo X0 hx (hb hby d1_1) ((if0 _ _).trans (teq c1_1).2) ?_
    obtain ⟨T2, X2, e2, st2⟩ := getS2 X0 hx hZ hown (host := "") (Or.inl (hw _ (List.mem_of_getElem? (i := 23) rfl))) Via.refl e0 S_ROTATION_0 (g := (mkF m 4 #[.val (.int i1)] [])) rfl (hb hby d1_4)
    refine Go.mp st2 ?_
    show Go p e below (T2.setTop (mkF m 7 #[.val (.int i1)] [(.ref w_ROTATION_0)])) _
    exact own_retA X2 hx hret hlk rfl rfl (hb hby d1_7) (by decide) (by decide) ⟨by rw [f_rotationOf, if_pos c1_1], N0, e2⟩
  · refine g_ifYes X0 hx 8 (hb hby d1_1) ((if0 _ _).trans (feq c1_1).2) (by decide) (by decide) ?_
    refine g_iloadN X0 hx (hb hby d1_8) rfl ?_
    refine g_iconst X0 hx (1 : Int32) (hb hby d1_9) (by decide) ?_
    by_cases c10_3 : i1 = (1 : Int32)
    · refine g_icmpNo X0 hx (hb hby d1_10) (teq c10_3).2 ?_
      obtain ⟨T4, X4, e4, st4⟩ := getS2 X0 hx hZ hown (host := "") (Or.inl (hw _ (List.mem_of_getElem? (i := 21) rfl))) Via.refl e0 S_ROTATION_90 (g := (mkF m 13 #[.val (.int i1)] [])) rfl (hb hby d1_13)
      refine Go.mp st4 ?_
      show Go p e below (T4.setTop (mkF m 16 #[.val (.int i1)] [(.ref w_ROTATION_90)])) _
      exact own_retA X4 hx hret hlk rfl rfl (hb hby d1_16) (by decide) (by decide) ⟨by rw [f_rotationOf, if_neg c1_1, if_pos c10_3], N0, e4⟩
    · refine g_icmpYes X0 hx 17 (hb hby d1_10) (feq c10_3).2 (by decide) (by decide) ?_
      refine g_iloadN X0 hx (hb hby d1_17) rfl ?_
      refine g_iconst X0 hx (2 : Int32) (hb hby d1_18) (by decide) ?_
      by_cases c19_5 : i1 = (2 : Int32)
      · refine g_icmpNo X0 hx (hb hby d1_19) (teq c19_5).2 ?_
        obtain ⟨T6, X6, e6, st6⟩ := getS2 X0 hx hZ hown (host := "") (Or.inl (hw _ (List.mem_of_getElem? (i := 26) rfl))) Via.refl e0 S_ROTATION_180 (g := (mkF m 22 #[.val (.int i1)] [])) rfl (hb hby d1_22)
        refine Go.mp st6 ?_
        show Go p e below (T6.setTop (mkF m 25 #[.val (.int i1)] [(.ref w_ROTATION_180)])) _
        exact own_retA X6 hx hret hlk rfl rfl (hb hby d1_25) (by decide) (by decide) ⟨by rw [f_rotationOf, if_neg c1_1, if_neg c10_3, if_pos c19_5], N0, e6⟩
      · refine g_icmpYes X0 hx 26 (hb hby d1_19) (feq c19_5).2 (by decide) (by decide) ?_
        obtain ⟨T7, X7, e7, st7⟩ := getS2 X0 hx hZ hown (host := "") (Or.inl (hw _ (List.mem_of_getElem? (i := 7) rfl))) Via.refl e0 S_ROTATION_270 (g := (mkF m 26 #[.val (.int i1)] [])) rfl (hb hby d1_26)
        refine Go.mp st7 ?_
        show Go p e below (T7.setTop (mkF m 29 #[.val (.int i1)] [(.ref w_ROTATION_270)])) _
        exact own_retA X7 hx hret hlk rfl rfl (hb hby d1_29) (by decide) (by decide) ⟨by rw [f_rotationOf, if_neg c1_1, if_neg c10_3, if_neg c19_5], N0, e7⟩
theorem pn_1 : plainName "com/example/reorient/reorient/model/NaturalOrientation" = true := by first | (simp [plainName, overriddenIn]; done) | decide +kernel
def f_isPortrait (a1 : Addr) (a2 : Addr) (u_a1_portrait : Addr) (u_a1_reversePortrait : Addr) : Int32 := (if a2 = u_a1_portrait then (1 : Int32) else (if a2 = u_a1_reversePortrait then (1 : Int32) else (0 : Int32)))
theorem d2_0 : decode prog_50_method_8_code 0 = .ok (.aload_n 1, 1) := by decide +kernel
theorem d2_1 : decode prog_50_method_8_code 1 = .ok (.aload_n 0, 1) := by decide +kernel
theorem d2_2 : decode prog_50_method_8_code 2 = .ok (.getfield 29, 3) := by decide +kernel
theorem d2_5 : decode prog_50_method_8_code 5 = .ok (.if_acmp .eq 11, 3) := by decide +kernel
theorem d2_8 : decode prog_50_method_8_code 8 = .ok (.aload_n 1, 1) := by decide +kernel
theorem d2_9 : decode prog_50_method_8_code 9 = .ok (.aload_n 0, 1) := by decide +kernel
theorem d2_10 : decode prog_50_method_8_code 10 = .ok (.getfield 36, 3) := by decide +kernel
theorem d2_13 : decode prog_50_method_8_code 13 = .ok (.if_acmp .ne 7, 3) := by decide +kernel
theorem d2_16 : decode prog_50_method_8_code 16 = .ok (.iconst 1, 1) := by decide +kernel
theorem d2_17 : decode prog_50_method_8_code 17 = .ok (.goto 4, 3) := by decide +kernel
theorem d2_20 : decode prog_50_method_8_code 20 = .ok (.iconst 0, 1) := by decide +kernel
theorem d2_21 : decode prog_50_method_8_code 21 = .ok (.ireturn, 1) := by decide +kernel
theorem ef_rm_isPortrait (m : MethodId) (x0 : Addr) (x1 : Addr) : entryFrame m #[(.ref x0), (.ref x1)] 2 = mkF m 0 #[.val (.ref x0), .val (.ref x1)] [] := by first | (simp [entryFrame, mkF, argsToLocals, Value.category]; done) | rfl
set_option maxRecDepth 65536 in
set_option maxHeartbeats 40000000 in
theorem rm_isPortrait (l : Launch) (Z : State) (a0 : Array Value) (hw : ∀ d ∈ tables_1, d.before a0 Z = true) (a1 : Addr) (a2 : Addr) (u_a1_portrait : Addr) (u_a1_reversePortrait : Addr) (h0 : Heap) (n0 : Nat) (Z0 : n0 ≤ h0.size) (F_a1_portrait : Fld Z h0 a1 "com/example/reorient/reorient/model/NaturalOrientation" "portrait" "Lcom/example/reorient/reorient/model/Rotation;" (.ref u_a1_portrait)) (F_a1_reversePortrait : Fld Z h0 a1 "com/example/reorient/reorient/model/NaturalOrientation" "reversePortrait" "Lcom/example/reorient/reorient/model/Rotation;" (.ref u_a1_reversePortrait)) :
    Ctr l (⟨"com/example/reorient/reorient/model/NaturalOrientation", "isPortrait", "(Lcom/example/reorient/reorient/model/Rotation;)Z"⟩ : MethodName) prog_50_method_8_code 2 (some FieldType.boolean) [] ({ frames := 0, cells := 0, slots := 0, locals := 0 } : Room) Z #[(.ref a1), (.ref a2)] h0 (fun v h L => v = some (.int (f_isPortrait a1 a2 u_a1_portrait u_a1_reversePortrait)) ∧ Fr n0 L ∧ h = h0) := by
  refine own_enter pn_1 (fun p e s m below meth c s₁ hx hby hml hown hnm hret hlk hZ X0 e0 => ?_)
  have N0 := Fr.nil n0
  rw [ef_rm_isPortrait m _ _]
  show Go p e below (s₁.setTop (mkF m 0 #[.val (.ref a1), .val (.ref a2)] [])) _
  refine g_aloadN X0 hx (hb hby d2_0) rfl rfl ?_
  refine g_aloadN X0 hx (hb hby d2_1) rfl rfl ?_
  obtain ⟨T1, X1, e1, st1⟩ := getF X0 hx hZ hown (host := "") (Or.inl (hw _ (List.mem_of_getElem? (i := 15) rfl))) Via.refl e0 F_a1_portrait (g := (mkF m 2 #[.val (.ref a1), .val (.ref a2)] [(.ref a1), (.ref a2)])) rfl rfl (hb hby d2_2)
  refine Go.mp st1 ?_
  show Go p e below (T1.setTop (mkF m 5 #[.val (.ref a1), .val (.ref a2)] [(.ref u_a1_portrait), (.ref a2)])) _
  by_cases c5_2 : a2 = u_a1_portrait
  · refine g_acmp X1 hx 16 true rfl rfl (hb hby d2_5) (decide_eq_true (congrArg Value.ref c5_2)) (by decide) (by decide) ?_
    refine g_iconst X1 hx (1 : Int32) (hb hby d2_16) (by decide) ?_
    refine g_goto X1 hx 21 (hb hby d2_17) (by decide) (by decide) ?_
    exact own_retZ X1 hx hret hlk (hb hby d2_21) (by decide) (by decide) (by decide) ⟨by rw [f_isPortrait, if_pos c5_2], N0, e1⟩
  · refine g_acmp X1 hx 8 false rfl rfl (hb hby d2_5) (decide_eq_false fun q => c5_2 (Value.ref.inj q)) (by decide) (by decide) ?_
    refine g_aloadN X1 hx (hb hby d2_8) rfl rfl ?_
    refine g_aloadN X1 hx (hb hby d2_9) rfl rfl ?_
    obtain ⟨T3, X3, e3, st3⟩ := getF X1 hx hZ hown (host := "") (Or.inl (hw _ (List.mem_of_getElem? (i := 18) rfl))) Via.refl e1 F_a1_reversePortrait (g := (mkF m 10 #[.val (.ref a1), .val (.ref a2)] [(.ref a1), (.ref a2)])) rfl rfl (hb hby d2_10)
    refine Go.mp st3 ?_
    show Go p e below (T3.setTop (mkF m 13 #[.val (.ref a1), .val (.ref a2)] [(.ref u_a1_reversePortrait), (.ref a2)])) _
    by_cases c13_4 : a2 = u_a1_reversePortrait
    · refine g_acmp X3 hx 16 true rfl rfl (hb hby d2_13) (decide_eq_true (congrArg Value.ref c13_4)) (by decide) (by decide) ?_
      refine g_iconst X3 hx (1 : Int32) (hb hby d2_16) (by decide) ?_
      refine g_goto X3 hx 21 (hb hby d2_17) (by decide) (by decide) ?_
      exact own_retZ X3 hx hret hlk (hb hby d2_21) (by decide) (by decide) (by decide) ⟨by rw [f_isPortrait, if_neg c5_2, if_pos c13_4], N0, e3⟩
    · refine g_acmp X3 hx 20 false rfl rfl (hb hby d2_13) (decide_eq_false fun q => c13_4 (Value.ref.inj q)) (by decide) (by decide) ?_
      refine g_iconst X3 hx (0 : Int32) (hb hby d2_20) (by decide) ?_
      exact own_retZ X3 hx hret hlk (hb hby d2_21) (by decide) (by decide) (by decide) ⟨by rw [f_isPortrait, if_neg c5_2, if_neg c13_4], N0, e3⟩
theorem own_and1 (x : Int32) : (x &&& (1 : Int32)) = (0 : Int32) ∨ (x &&& (1 : Int32)) = (1 : Int32) := by
  have b := c_mask x (1 : Int32) 1 (by decide) (by decide)
  simp only [← Int32.toInt_inj, b, Int32.reduceToInt]
  omega
theorem own_and3 (x : Int32) : (x &&& (3 : Int32)) = (0 : Int32) ∨ (x &&& (3 : Int32)) = (1 : Int32) ∨ (x &&& (3 : Int32)) = (2 : Int32) ∨ (x &&& (3 : Int32)) = (3 : Int32) := by
  have b := c_mask x (3 : Int32) 2 (by decide) (by decide)
  simp only [← Int32.toInt_inj, b, Int32.reduceToInt]
  omega
theorem pd_0 : parseMethodDescriptor "(I)Lcom/example/reorient/reorient/model/Rotation;" = some ⟨[FieldType.int], some (FieldType.object "com/example/reorient/reorient/model/Rotation")⟩ := by decide +kernel
theorem pd_1 : parseMethodDescriptor "(Lcom/example/reorient/reorient/model/Rotation;)Z" = some ⟨[(FieldType.object "com/example/reorient/reorient/model/Rotation")], some FieldType.boolean⟩ := by decide +kernel
theorem ef_rm_law (m : MethodId) (x0 : Int32) (x1 : Int32) : entryFrame m #[(.int x0), (.int x1)] maxLocals = mkF m 0 #[.val (.int x0), .val (.int x1), .unset, .unset, .unset, .unset, .unset, .unset] [] := by first | (simp [entryFrame, mkF, argsToLocals, Value.category, maxLocals]; done) | rfl
set_option maxRecDepth 65536 in
set_option maxHeartbeats 40000000 in
theorem rm_law (l : Launch) (Z : State) (a0 : Array Value) (hw : ∀ d ∈ tables_1, d.before a0 Z = true) (p1 : Int32) (p2 : Int32) (w_PORTRAIT : Addr) (w_ROTATION_270 : Addr) (w_ROTATION_0 : Addr) (w_ROTATION_180 : Addr) (w_ROTATION_90 : Addr) (w_LANDSCAPE : Addr) (h0 : Heap) (n0 : Nat) (Z0 : n0 ≤ h0.size) (S_PORTRAIT : Sta Z h0 "com/example/reorient/reorient/model/NaturalOrientation" "PORTRAIT" "Lcom/example/reorient/reorient/model/NaturalOrientation;" (.ref w_PORTRAIT)) (E_w_PORTRAIT : Exa Z h0 w_PORTRAIT "com/example/reorient/reorient/model/NaturalOrientation") (S_ROTATION_270 : Sta Z h0 "com/example/reorient/reorient/model/Rotation" "ROTATION_270" "Lcom/example/reorient/reorient/model/Rotation;" (.ref w_ROTATION_270)) (E_w_ROTATION_270 : Exa Z h0 w_ROTATION_270 "com/example/reorient/reorient/model/Rotation") (S_ROTATION_0 : Sta Z h0 "com/example/reorient/reorient/model/Rotation" "ROTATION_0" "Lcom/example/reorient/reorient/model/Rotation;" (.ref w_ROTATION_0)) (E_w_ROTATION_0 : Exa Z h0 w_ROTATION_0 "com/example/reorient/reorient/model/Rotation") (S_ROTATION_180 : Sta Z h0 "com/example/reorient/reorient/model/Rotation" "ROTATION_180" "Lcom/example/reorient/reorient/model/Rotation;" (.ref w_ROTATION_180)) (E_w_ROTATION_180 : Exa Z h0 w_ROTATION_180 "com/example/reorient/reorient/model/Rotation") (S_ROTATION_90 : Sta Z h0 "com/example/reorient/reorient/model/Rotation" "ROTATION_90" "Lcom/example/reorient/reorient/model/Rotation;" (.ref w_ROTATION_90)) (E_w_ROTATION_90 : Exa Z h0 w_ROTATION_90 "com/example/reorient/reorient/model/Rotation") (S_LANDSCAPE : Sta Z h0 "com/example/reorient/reorient/model/NaturalOrientation" "LANDSCAPE" "Lcom/example/reorient/reorient/model/NaturalOrientation;" (.ref w_LANDSCAPE)) (E_w_LANDSCAPE : Exa Z h0 w_LANDSCAPE "com/example/reorient/reorient/model/NaturalOrientation") (F_w_PORTRAIT_portrait : Fld Z h0 w_PORTRAIT "com/example/reorient/reorient/model/NaturalOrientation" "portrait" "Lcom/example/reorient/reorient/model/Rotation;" (.ref w_ROTATION_0)) (F_w_PORTRAIT_reversePortrait : Fld Z h0 w_PORTRAIT "com/example/reorient/reorient/model/NaturalOrientation" "reversePortrait" "Lcom/example/reorient/reorient/model/Rotation;" (.ref w_ROTATION_180)) (F_w_LANDSCAPE_portrait : Fld Z h0 w_LANDSCAPE "com/example/reorient/reorient/model/NaturalOrientation" "portrait" "Lcom/example/reorient/reorient/model/Rotation;" (.ref w_ROTATION_90)) (F_w_LANDSCAPE_reversePortrait : Fld Z h0 w_LANDSCAPE "com/example/reorient/reorient/model/NaturalOrientation" "reversePortrait" "Lcom/example/reorient/reorient/model/Rotation;" (.ref w_ROTATION_270)) (ne_ROTATION_270_ROTATION_0 : ¬ (w_ROTATION_270 = w_ROTATION_0)) (ne_ROTATION_270_ROTATION_180 : ¬ (w_ROTATION_270 = w_ROTATION_180)) (ne_ROTATION_270_ROTATION_90 : ¬ (w_ROTATION_270 = w_ROTATION_90)) (ne_ROTATION_0_ROTATION_180 : ¬ (w_ROTATION_0 = w_ROTATION_180)) (ne_ROTATION_0_ROTATION_90 : ¬ (w_ROTATION_0 = w_ROTATION_90)) (ne_ROTATION_180_ROTATION_90 : ¬ (w_ROTATION_180 = w_ROTATION_90)) :
    Ctr l x code maxLocals ret tables_1 room_1 Z #[(.int p1), (.int p2)] h0 (fun v h L => v = some (.int 1) ∧ Fr n0 L) := by
  refine own_enter pn_0 (fun p e s m below meth c s₁ hx hby hml hown hnm hret hlk hZ X0 e0 => ?_)
  have N0 := Fr.nil n0
  rw [ef_rm_law m _ _]
  show Go p e below (s₁.setTop (mkF m 0 #[.val (.int p1), .val (.int p2), .unset, .unset, .unset, .unset, .unset, .unset] [])) _
  refine g_iloadN X0 hx (hb hby at_0) rfl ?_
  refine g_iconst X0 hx (1 : Int32) (hb hby at_1) (by decide) ?_
  refine g_iand X0 hx (hb hby at_2) ?_
  show Go p e below (s₁.setTop (mkF m 3 #[.val (.int p1), .val (.int p2), .unset, .unset, .unset, .unset, .unset, .unset] [(.int (p1 &&& (1 : Int32)))])) _
  rcases own_and1 p1 with q1 | q1
  · rw [q1]
    refine g_ifNo X0 hx (hb hby at_3) ((if0 _ _).trans (teq ((by decide) : (0 : Int32) = (0 : Int32))).2) ?_
    refine g_iconst X0 hx (1 : Int32) (hb hby at_6) (by decide) ?_
    refine g_goto X0 hx 11 (hb hby at_7) (by decide) (by decide) ?_
    refine g_istoreN X0 hx #[.val (.int p1), .val (.int p2), .val (.int (1 : Int32)), .unset, .unset, .unset, .unset, .unset] (hb hby at_11) rfl ?_
    refine g_iloadN X0 hx (hb hby at_12) rfl ?_
    refine g_ifNo X0 hx (hb hby at_13) ((if0 _ _).trans (feq ((by decide) : ¬ ((1 : Int32) = (0 : Int32)))).1) ?_
    obtain ⟨T2, X2, e2, st2⟩ := getS2 X0 hx hZ hown (host := "") (Or.inl (hw _ (List.mem_of_getElem? (i := 0) rfl))) Via.refl e0 S_PORTRAIT (g := (mkF m 16 #[.val (.int p1), .val (.int p2), .val (.int (1 : Int32)), .unset, .unset, .unset, .unset, .unset] [])) rfl (hb hby at_16)
    refine Go.mp st2 ?_
    show Go p e below (T2.setTop (mkF m 19 #[.val (.int p1), .val (.int p2), .val (.int (1 : Int32)), .unset, .unset, .unset, .unset, .unset] [(.ref w_PORTRAIT)])) _
    refine g_goto X2 hx 25 (hb hby at_19) (by decide) (by decide) ?_
    refine g_astoreN X2 hx #[.val (.int p1), .val (.int p2), .val (.int (1 : Int32)), .val (.ref w_PORTRAIT), .unset, .unset, .unset, .unset] (hb hby at_25) rfl rfl ?_
    refine g_iloadN X2 hx (hb hby at_26) rfl ?_
    refine g_iconst X2 hx (3 : Int32) (hb hby at_27) (by decide) ?_
    refine g_iand X2 hx (hb hby at_28) ?_
    show Go p e below (T2.setTop (mkF m 29 #[.val (.int p1), .val (.int p2), .val (.int (1 : Int32)), .val (.ref w_PORTRAIT), .unset, .unset, .unset, .unset] [(.int (p2 &&& (3 : Int32)))])) _
    rcases own_and3 p2 with q3 | q3 | q3 | q3
    · rw [q3]
      refine g_istore X2 hx #[.val (.int p1), .val (.int p2), .val (.int (1 : Int32)), .val (.ref w_PORTRAIT), .val (.int (0 : Int32)), .unset, .unset, .unset] (hb hby at_29) rfl ?_
      refine g_iload X2 hx (hb hby at_31) rfl ?_
      obtain ⟨v4, T4, L4, X4, q4, st4⟩ := own_callS X2 hx hZ (y := (⟨"com/example/reorient/reorient/model/NaturalOrientationIsPortraitPinLaw", "rotationOf", "(I)Lcom/example/reorient/reorient/model/Rotation;"⟩ : MethodName)) (pc := 33) (Ls := #[.val (.int p1), .val (.int p2), .val (.int (1 : Int32)), .val (.ref w_PORTRAIT), .val (.int (0 : Int32)), .unset, .unset, .unset]) (st := [(.int (0 : Int32))]) hown (hw _ (List.mem_of_getElem? (i := 3) rfl)) (hw _ (List.mem_of_getElem? (i := 4) rfl)) (hw _ (List.mem_of_getElem? (i := 5) rfl)) (hw _ (List.mem_of_getElem? (i := 6) rfl)) (by decide) (rm_rotationOf l Z a0 hw (0 : Int32) w_ROTATION_0 w_ROTATION_90 w_ROTATION_180 w_ROTATION_270 h0 n0 Z0 S_ROTATION_0 S_ROTATION_90 S_ROTATION_180 S_ROTATION_270) e2 pd_0 (hb hby at_33) (by rw [hml]; rfl) (argsL := [(.int (0 : Int32))]) (rest := []) rfl rfl rfl (by decide) (by decide) (by decide) (by decide)
      obtain ⟨rfl, M4, e4⟩ := q4
      have N4 := Fr.app N0 M4
      have r4 : (f_rotationOf (0 : Int32) w_ROTATION_0 w_ROTATION_90 w_ROTATION_180 w_ROTATION_270) = w_ROTATION_0 := by rw [f_rotationOf, if_pos ((by decide) : (0 : Int32) = (0 : Int32))]
      rw [r4] at st4
      refine Go.mp st4 ?_
      show Go p e below (T4.setTop (mkF m 36 #[.val (.int p1), .val (.int p2), .val (.int (1 : Int32)), .val (.ref w_PORTRAIT), .val (.int (0 : Int32)), .unset, .unset, .unset] [(.ref w_ROTATION_0)])) _
      refine g_astore X4 hx #[.val (.int p1), .val (.int p2), .val (.int (1 : Int32)), .val (.ref w_PORTRAIT), .val (.int (0 : Int32)), .val (.ref w_ROTATION_0), .unset, .unset] (hb hby at_36) rfl rfl ?_
      refine g_iload X4 hx (hb hby at_38) rfl ?_
      refine g_iconst X4 hx (1 : Int32) (hb hby at_40) (by decide) ?_
      refine g_iand X4 hx (hb hby at_41) ?_
      show Go p e below (T4.setTop (mkF m 42 #[.val (.int p1), .val (.int p2), .val (.int (1 : Int32)), .val (.ref w_PORTRAIT), .val (.int (0 : Int32)), .val (.ref w_ROTATION_0), .unset, .unset] [(.int ((0 : Int32) &&& (1 : Int32)))])) _
      rw [show ((0 : Int32) &&& (1 : Int32)) = (0 : Int32) from by decide]
      refine g_ifNo X4 hx (hb hby at_42) ((if0 _ _).trans (teq ((by decide) : (0 : Int32) = (0 : Int32))).2) ?_
      refine g_iconst X4 hx (1 : Int32) (hb hby at_45) (by decide) ?_
      refine g_goto X4 hx 50 (hb hby at_46) (by decide) (by decide) ?_
      refine g_istore X4 hx #[.val (.int p1), .val (.int p2), .val (.int (1 : Int32)), .val (.ref w_PORTRAIT), .val (.int (0 : Int32)), .val (.ref w_ROTATION_0), .val (.int (1 : Int32)), .unset] (hb hby at_50) rfl ?_
      refine g_iload X4 hx (hb hby at_52) rfl ?_
      refine g_iloadN X4 hx (hb hby at_54) rfl ?_
      refine g_icmpNo X4 hx (hb hby at_55) (teq ((by decide) : (1 : Int32) = (1 : Int32))).2 ?_
      refine g_iconst X4 hx (1 : Int32) (hb hby at_58) (by decide) ?_
      refine g_goto X4 hx 63 (hb hby at_59) (by decide) (by decide) ?_
      refine g_istore X4 hx #[.val (.int p1), .val (.int p2), .val (.int (1 : Int32)), .val (.ref w_PORTRAIT), .val (.int (0 : Int32)), .val (.ref w_ROTATION_0), .val (.int (1 : Int32)), .val (.int (1 : Int32))] (hb hby at_63) rfl ?_
      refine g_aloadN X4 hx (hb hby at_65) rfl rfl ?_
      refine g_aload X4 hx (hb hby at_66) rfl rfl ?_
      obtain ⟨v5, T5, L5, X5, q5, st5⟩ := own_callV X4 hx hZ (y := (⟨"com/example/reorient/reorient/model/NaturalOrientation", "isPortrait", "(Lcom/example/reorient/reorient/model/Rotation;)Z"⟩ : MethodName)) (pc := 68) (Ls := #[.val (.int p1), .val (.int p2), .val (.int (1 : Int32)), .val (.ref w_PORTRAIT), .val (.int (0 : Int32)), .val (.ref w_ROTATION_0), .val (.int (1 : Int32)), .val (.int (1 : Int32))]) (st := [(.ref w_ROTATION_0), (.ref w_PORTRAIT)]) hown (hw _ (List.mem_of_getElem? (i := 10) rfl)) (hw _ (List.mem_of_getElem? (i := 11) rfl)) (hw _ (List.mem_of_getElem? (i := 13) rfl)) (hw _ (List.mem_of_getElem? (i := 12) rfl)) (hw _ (List.mem_of_getElem? (i := 14) rfl)) (hw _ (List.mem_of_getElem? (i := 1) rfl)) (by decide) (rm_isPortrait l Z a0 hw w_PORTRAIT w_ROTATION_0 w_ROTATION_0 w_ROTATION_180 h0 n0 Z0 F_w_PORTRAIT_portrait F_w_PORTRAIT_reversePortrait) e4 E_w_PORTRAIT pd_1 (hb hby at_68) (by rw [hml]; rfl) (argsL := [(.ref w_ROTATION_0)]) (rest := []) rfl rfl rfl (by decide) (by decide) (by decide) (by decide)
      obtain ⟨rfl, M5, e5⟩ := q5
      have N5 := Fr.app N4 M5
      have r5 : (f_isPortrait w_PORTRAIT w_ROTATION_0 w_ROTATION_0 w_ROTATION_180) = (1 : Int32) := by rw [f_isPortrait, if_pos (rfl : w_ROTATION_0 = w_ROTATION_0)]
      rw [r5] at st5
      refine Go.mp st5 ?_
      show Go p e below (T5.setTop (mkF m 71 #[.val (.int p1), .val (.int p2), .val (.int (1 : Int32)), .val (.ref w_PORTRAIT), .val (.int (0 : Int32)), .val (.ref w_ROTATION_0), .val (.int (1 : Int32)), .val (.int (1 : Int32))] [(.int (1 : Int32))])) _
      refine g_iload X5 hx (hb hby at_71) rfl ?_
      refine g_icmpNo X5 hx (hb hby at_73) (teq ((by decide) : (1 : Int32) = (1 : Int32))).2 ?_
      refine g_iconst X5 hx (1 : Int32) (hb hby at_76) (by decide) ?_
      refine g_goto X5 hx 81 (hb hby at_77) (by decide) (by decide) ?_
      exact own_retZ X5 hx hret hlk (hb hby at_81) (by decide) (by decide) (by decide) ⟨rfl, N5⟩
    · rw [q3]
      refine g_istore X2 hx #[.val (.int p1), .val (.int p2), .val (.int (1 : Int32)), .val (.ref w_PORTRAIT), .val (.int (1 : Int32)), .unset, .unset, .unset] (hb hby at_29) rfl ?_
      refine g_iload X2 hx (hb hby at_31) rfl ?_
      obtain ⟨v6, T6, L6, X6, q6, st6⟩ := own_callS X2 hx hZ (y := (⟨"com/example/reorient/reorient/model/NaturalOrientationIsPortraitPinLaw", "rotationOf", "(I)Lcom/example/reorient/reorient/model/Rotation;"⟩ : MethodName)) (pc := 33) (Ls := #[.val (.int p1), .val (.int p2), .val (.int (1 : Int32)), .val (.ref w_PORTRAIT), .val (.int (1 : Int32)), .unset, .unset, .unset]) (st := [(.int (1 : Int32))]) hown (hw _ (List.mem_of_getElem? (i := 3) rfl)) (hw _ (List.mem_of_getElem? (i := 4) rfl)) (hw _ (List.mem_of_getElem? (i := 5) rfl)) (hw _ (List.mem_of_getElem? (i := 6) rfl)) (by decide) (rm_rotationOf l Z a0 hw (1 : Int32) w_ROTATION_0 w_ROTATION_90 w_ROTATION_180 w_ROTATION_270 h0 n0 Z0 S_ROTATION_0 S_ROTATION_90 S_ROTATION_180 S_ROTATION_270) e2 pd_0 (hb hby at_33) (by rw [hml]; rfl) (argsL := [(.int (1 : Int32))]) (rest := []) rfl rfl rfl (by decide) (by decide) (by decide) (by decide)
      obtain ⟨rfl, M6, e6⟩ := q6
      have N6 := Fr.app N0 M6
      have r6 : (f_rotationOf (1 : Int32) w_ROTATION_0 w_ROTATION_90 w_ROTATION_180 w_ROTATION_270) = w_ROTATION_90 := by rw [f_rotationOf, if_neg ((by decide) : ¬ ((1 : Int32) = (0 : Int32))), if_pos ((by decide) : (1 : Int32) = (1 : Int32))]
      rw [r6] at st6
      refine Go.mp st6 ?_
      show Go p e below (T6.setTop (mkF m 36 #[.val (.int p1), .val (.int p2), .val (.int (1 : Int32)), .val (.ref w_PORTRAIT), .val (.int (1 : Int32)), .unset, .unset, .unset] [(.ref w_ROTATION_90)])) _
      refine g_astore X6 hx #[.val (.int p1), .val (.int p2), .val (.int (1 : Int32)), .val (.ref w_PORTRAIT), .val (.int (1 : Int32)), .val (.ref w_ROTATION_90), .unset, .unset] (hb hby at_36) rfl rfl ?_
      refine g_iload X6 hx (hb hby at_38) rfl ?_
      refine g_iconst X6 hx (1 : Int32) (hb hby at_40) (by decide) ?_
      refine g_iand X6 hx (hb hby at_41) ?_
      show Go p e below (T6.setTop (mkF m 42 #[.val (.int p1), .val (.int p2), .val (.int (1 : Int32)), .val (.ref w_PORTRAIT), .val (.int (1 : Int32)), .val (.ref w_ROTATION_90), .unset, .unset] [(.int ((1 : Int32) &&& (1 : Int32)))])) _
      rw [show ((1 : Int32) &&& (1 : Int32)) = (1 : Int32) from by decide]
      refine g_ifYes X6 hx 49 (hb hby at_42) ((if0 _ _).trans (feq ((by decide) : ¬ ((1 : Int32) = (0 : Int32)))).2) (by decide) (by decide) ?_
      refine g_iconst X6 hx (0 : Int32) (hb hby at_49) (by decide) ?_
      refine g_istore X6 hx #[.val (.int p1), .val (.int p2), .val (.int (1 : Int32)), .val (.ref w_PORTRAIT), .val (.int (1 : Int32)), .val (.ref w_ROTATION_90), .val (.int (0 : Int32)), .unset] (hb hby at_50) rfl ?_
      refine g_iload X6 hx (hb hby at_52) rfl ?_
      refine g_iloadN X6 hx (hb hby at_54) rfl ?_
      refine g_icmpYes X6 hx 62 (hb hby at_55) (feq ((by decide) : ¬ ((0 : Int32) = (1 : Int32)))).2 (by decide) (by decide) ?_
      refine g_iconst X6 hx (0 : Int32) (hb hby at_62) (by decide) ?_
      refine g_istore X6 hx #[.val (.int p1), .val (.int p2), .val (.int (1 : Int32)), .val (.ref w_PORTRAIT), .val (.int (1 : Int32)), .val (.ref w_ROTATION_90), .val (.int (0 : Int32)), .val (.int (0 : Int32))] (hb hby at_63) rfl ?_
      refine g_aloadN X6 hx (hb hby at_65) rfl rfl ?_
      refine g_aload X6 hx (hb hby at_66) rfl rfl ?_
      obtain ⟨v7, T7, L7, X7, q7, st7⟩ := own_callV X6 hx hZ (y := (⟨"com/example/reorient/reorient/model/NaturalOrientation", "isPortrait", "(Lcom/example/reorient/reorient/model/Rotation;)Z"⟩ : MethodName)) (pc := 68) (Ls := #[.val (.int p1), .val (.int p2), .val (.int (1 : Int32)), .val (.ref w_PORTRAIT), .val (.int (1 : Int32)), .val (.ref w_ROTATION_90), .val (.int (0 : Int32)), .val (.int (0 : Int32))]) (st := [(.ref w_ROTATION_90), (.ref w_PORTRAIT)]) hown (hw _ (List.mem_of_getElem? (i := 10) rfl)) (hw _ (List.mem_of_getElem? (i := 11) rfl)) (hw _ (List.mem_of_getElem? (i := 13) rfl)) (hw _ (List.mem_of_getElem? (i := 12) rfl)) (hw _ (List.mem_of_getElem? (i := 14) rfl)) (hw _ (List.mem_of_getElem? (i := 1) rfl)) (by decide) (rm_isPortrait l Z a0 hw w_PORTRAIT w_ROTATION_90 w_ROTATION_0 w_ROTATION_180 h0 n0 Z0 F_w_PORTRAIT_portrait F_w_PORTRAIT_reversePortrait) e6 E_w_PORTRAIT pd_1 (hb hby at_68) (by rw [hml]; rfl) (argsL := [(.ref w_ROTATION_90)]) (rest := []) rfl rfl rfl (by decide) (by decide) (by decide) (by decide)
      obtain ⟨rfl, M7, e7⟩ := q7
      have N7 := Fr.app N6 M7
      have r7 : (f_isPortrait w_PORTRAIT w_ROTATION_90 w_ROTATION_0 w_ROTATION_180) = (0 : Int32) := by rw [f_isPortrait, if_neg ((Ne.symm ne_ROTATION_0_ROTATION_90) : ¬ (w_ROTATION_90 = w_ROTATION_0)), if_neg ((Ne.symm ne_ROTATION_180_ROTATION_90) : ¬ (w_ROTATION_90 = w_ROTATION_180))]
      rw [r7] at st7
      refine Go.mp st7 ?_
      show Go p e below (T7.setTop (mkF m 71 #[.val (.int p1), .val (.int p2), .val (.int (1 : Int32)), .val (.ref w_PORTRAIT), .val (.int (1 : Int32)), .val (.ref w_ROTATION_90), .val (.int (0 : Int32)), .val (.int (0 : Int32))] [(.int (0 : Int32))])) _
      refine g_iload X7 hx (hb hby at_71) rfl ?_
      refine g_icmpNo X7 hx (hb hby at_73) (teq ((by decide) : (0 : Int32) = (0 : Int32))).2 ?_
      refine g_iconst X7 hx (1 : Int32) (hb hby at_76) (by decide) ?_
      refine g_goto X7 hx 81 (hb hby at_77) (by decide) (by decide) ?_
      exact own_retZ X7 hx hret hlk (hb hby at_81) (by decide) (by decide) (by decide) ⟨rfl, N7⟩
    · rw [q3]
      refine g_istore X2 hx #[.val (.int p1), .val (.int p2), .val (.int (1 : Int32)), .val (.ref w_PORTRAIT), .val (.int (2 : Int32)), .unset, .unset, .unset] (hb hby at_29) rfl ?_
      refine g_iload X2 hx (hb hby at_31) rfl ?_
      obtain ⟨v8, T8, L8, X8, q8, st8⟩ := own_callS X2 hx hZ (y := (⟨"com/example/reorient/reorient/model/NaturalOrientationIsPortraitPinLaw", "rotationOf", "(I)Lcom/example/reorient/reorient/model/Rotation;"⟩ : MethodName)) (pc := 33) (Ls := #[.val (.int p1), .val (.int p2), .val (.int (1 : Int32)), .val (.ref w_PORTRAIT), .val (.int (2 : Int32)), .unset, .unset, .unset]) (st := [(.int (2 : Int32))]) hown (hw _ (List.mem_of_getElem? (i := 3) rfl)) (hw _ (List.mem_of_getElem? (i := 4) rfl)) (hw _ (List.mem_of_getElem? (i := 5) rfl)) (hw _ (List.mem_of_getElem? (i := 6) rfl)) (by decide) (rm_rotationOf l Z a0 hw (2 : Int32) w_ROTATION_0 w_ROTATION_90 w_ROTATION_180 w_ROTATION_270 h0 n0 Z0 S_ROTATION_0 S_ROTATION_90 S_ROTATION_180 S_ROTATION_270) e2 pd_0 (hb hby at_33) (by rw [hml]; rfl) (argsL := [(.int (2 : Int32))]) (rest := []) rfl rfl rfl (by decide) (by decide) (by decide) (by decide)
      obtain ⟨rfl, M8, e8⟩ := q8
      have N8 := Fr.app N0 M8
      have r8 : (f_rotationOf (2 : Int32) w_ROTATION_0 w_ROTATION_90 w_ROTATION_180 w_ROTATION_270) = w_ROTATION_180 := by rw [f_rotationOf, if_neg ((by decide) : ¬ ((2 : Int32) = (0 : Int32))), if_neg ((by decide) : ¬ ((2 : Int32) = (1 : Int32))), if_pos ((by decide) : (2 : Int32) = (2 : Int32))]
      rw [r8] at st8
      refine Go.mp st8 ?_
      show Go p e below (T8.setTop (mkF m 36 #[.val (.int p1), .val (.int p2), .val (.int (1 : Int32)), .val (.ref w_PORTRAIT), .val (.int (2 : Int32)), .unset, .unset, .unset] [(.ref w_ROTATION_180)])) _
      refine g_astore X8 hx #[.val (.int p1), .val (.int p2), .val (.int (1 : Int32)), .val (.ref w_PORTRAIT), .val (.int (2 : Int32)), .val (.ref w_ROTATION_180), .unset, .unset] (hb hby at_36) rfl rfl ?_
      refine g_iload X8 hx (hb hby at_38) rfl ?_
      refine g_iconst X8 hx (1 : Int32) (hb hby at_40) (by decide) ?_
      refine g_iand X8 hx (hb hby at_41) ?_
      show Go p e below (T8.setTop (mkF m 42 #[.val (.int p1), .val (.int p2), .val (.int (1 : Int32)), .val (.ref w_PORTRAIT), .val (.int (2 : Int32)), .val (.ref w_ROTATION_180), .unset, .unset] [(.int ((2 : Int32) &&& (1 : Int32)))])) _
      rw [show ((2 : Int32) &&& (1 : Int32)) = (0 : Int32) from by decide]
      refine g_ifNo X8 hx (hb hby at_42) ((if0 _ _).trans (teq ((by decide) : (0 : Int32) = (0 : Int32))).2) ?_
      refine g_iconst X8 hx (1 : Int32) (hb hby at_45) (by decide) ?_
      refine g_goto X8 hx 50 (hb hby at_46) (by decide) (by decide) ?_
      refine g_istore X8 hx #[.val (.int p1), .val (.int p2), .val (.int (1 : Int32)), .val (.ref w_PORTRAIT), .val (.int (2 : Int32)), .val (.ref w_ROTATION_180), .val (.int (1 : Int32)), .unset] (hb hby at_50) rfl ?_
      refine g_iload X8 hx (hb hby at_52) rfl ?_
      refine g_iloadN X8 hx (hb hby at_54) rfl ?_
      refine g_icmpNo X8 hx (hb hby at_55) (teq ((by decide) : (1 : Int32) = (1 : Int32))).2 ?_
      refine g_iconst X8 hx (1 : Int32) (hb hby at_58) (by decide) ?_
      refine g_goto X8 hx 63 (hb hby at_59) (by decide) (by decide) ?_
      refine g_istore X8 hx #[.val (.int p1), .val (.int p2), .val (.int (1 : Int32)), .val (.ref w_PORTRAIT), .val (.int (2 : Int32)), .val (.ref w_ROTATION_180), .val (.int (1 : Int32)), .val (.int (1 : Int32))] (hb hby at_63) rfl ?_
      refine g_aloadN X8 hx (hb hby at_65) rfl rfl ?_
      refine g_aload X8 hx (hb hby at_66) rfl rfl ?_
      obtain ⟨v9, T9, L9, X9, q9, st9⟩ := own_callV X8 hx hZ (y := (⟨"com/example/reorient/reorient/model/NaturalOrientation", "isPortrait", "(Lcom/example/reorient/reorient/model/Rotation;)Z"⟩ : MethodName)) (pc := 68) (Ls := #[.val (.int p1), .val (.int p2), .val (.int (1 : Int32)), .val (.ref w_PORTRAIT), .val (.int (2 : Int32)), .val (.ref w_ROTATION_180), .val (.int (1 : Int32)), .val (.int (1 : Int32))]) (st := [(.ref w_ROTATION_180), (.ref w_PORTRAIT)]) hown (hw _ (List.mem_of_getElem? (i := 10) rfl)) (hw _ (List.mem_of_getElem? (i := 11) rfl)) (hw _ (List.mem_of_getElem? (i := 13) rfl)) (hw _ (List.mem_of_getElem? (i := 12) rfl)) (hw _ (List.mem_of_getElem? (i := 14) rfl)) (hw _ (List.mem_of_getElem? (i := 1) rfl)) (by decide) (rm_isPortrait l Z a0 hw w_PORTRAIT w_ROTATION_180 w_ROTATION_0 w_ROTATION_180 h0 n0 Z0 F_w_PORTRAIT_portrait F_w_PORTRAIT_reversePortrait) e8 E_w_PORTRAIT pd_1 (hb hby at_68) (by rw [hml]; rfl) (argsL := [(.ref w_ROTATION_180)]) (rest := []) rfl rfl rfl (by decide) (by decide) (by decide) (by decide)
      obtain ⟨rfl, M9, e9⟩ := q9
      have N9 := Fr.app N8 M9
      have r9 : (f_isPortrait w_PORTRAIT w_ROTATION_180 w_ROTATION_0 w_ROTATION_180) = (1 : Int32) := by rw [f_isPortrait, if_neg ((Ne.symm ne_ROTATION_0_ROTATION_180) : ¬ (w_ROTATION_180 = w_ROTATION_0)), if_pos (rfl : w_ROTATION_180 = w_ROTATION_180)]
      rw [r9] at st9
      refine Go.mp st9 ?_
      show Go p e below (T9.setTop (mkF m 71 #[.val (.int p1), .val (.int p2), .val (.int (1 : Int32)), .val (.ref w_PORTRAIT), .val (.int (2 : Int32)), .val (.ref w_ROTATION_180), .val (.int (1 : Int32)), .val (.int (1 : Int32))] [(.int (1 : Int32))])) _
      refine g_iload X9 hx (hb hby at_71) rfl ?_
      refine g_icmpNo X9 hx (hb hby at_73) (teq ((by decide) : (1 : Int32) = (1 : Int32))).2 ?_
      refine g_iconst X9 hx (1 : Int32) (hb hby at_76) (by decide) ?_
      refine g_goto X9 hx 81 (hb hby at_77) (by decide) (by decide) ?_
      exact own_retZ X9 hx hret hlk (hb hby at_81) (by decide) (by decide) (by decide) ⟨rfl, N9⟩
    · rw [q3]
      refine g_istore X2 hx #[.val (.int p1), .val (.int p2), .val (.int (1 : Int32)), .val (.ref w_PORTRAIT), .val (.int (3 : Int32)), .unset, .unset, .unset] (hb hby at_29) rfl ?_
      refine g_iload X2 hx (hb hby at_31) rfl ?_
      obtain ⟨v10, T10, L10, X10, q10, st10⟩ := own_callS X2 hx hZ (y := (⟨"com/example/reorient/reorient/model/NaturalOrientationIsPortraitPinLaw", "rotationOf", "(I)Lcom/example/reorient/reorient/model/Rotation;"⟩ : MethodName)) (pc := 33) (Ls := #[.val (.int p1), .val (.int p2), .val (.int (1 : Int32)), .val (.ref w_PORTRAIT), .val (.int (3 : Int32)), .unset, .unset, .unset]) (st := [(.int (3 : Int32))]) hown (hw _ (List.mem_of_getElem? (i := 3) rfl)) (hw _ (List.mem_of_getElem? (i := 4) rfl)) (hw _ (List.mem_of_getElem? (i := 5) rfl)) (hw _ (List.mem_of_getElem? (i := 6) rfl)) (by decide) (rm_rotationOf l Z a0 hw (3 : Int32) w_ROTATION_0 w_ROTATION_90 w_ROTATION_180 w_ROTATION_270 h0 n0 Z0 S_ROTATION_0 S_ROTATION_90 S_ROTATION_180 S_ROTATION_270) e2 pd_0 (hb hby at_33) (by rw [hml]; rfl) (argsL := [(.int (3 : Int32))]) (rest := []) rfl rfl rfl (by decide) (by decide) (by decide) (by decide)
      obtain ⟨rfl, M10, e10⟩ := q10
      have N10 := Fr.app N0 M10
      have r10 : (f_rotationOf (3 : Int32) w_ROTATION_0 w_ROTATION_90 w_ROTATION_180 w_ROTATION_270) = w_ROTATION_270 := by rw [f_rotationOf, if_neg ((by decide) : ¬ ((3 : Int32) = (0 : Int32))), if_neg ((by decide) : ¬ ((3 : Int32) = (1 : Int32))), if_neg ((by decide) : ¬ ((3 : Int32) = (2 : Int32)))]
      rw [r10] at st10
      refine Go.mp st10 ?_
      show Go p e below (T10.setTop (mkF m 36 #[.val (.int p1), .val (.int p2), .val (.int (1 : Int32)), .val (.ref w_PORTRAIT), .val (.int (3 : Int32)), .unset, .unset, .unset] [(.ref w_ROTATION_270)])) _
      refine g_astore X10 hx #[.val (.int p1), .val (.int p2), .val (.int (1 : Int32)), .val (.ref w_PORTRAIT), .val (.int (3 : Int32)), .val (.ref w_ROTATION_270), .unset, .unset] (hb hby at_36) rfl rfl ?_
      refine g_iload X10 hx (hb hby at_38) rfl ?_
      refine g_iconst X10 hx (1 : Int32) (hb hby at_40) (by decide) ?_
      refine g_iand X10 hx (hb hby at_41) ?_
      show Go p e below (T10.setTop (mkF m 42 #[.val (.int p1), .val (.int p2), .val (.int (1 : Int32)), .val (.ref w_PORTRAIT), .val (.int (3 : Int32)), .val (.ref w_ROTATION_270), .unset, .unset] [(.int ((3 : Int32) &&& (1 : Int32)))])) _
      rw [show ((3 : Int32) &&& (1 : Int32)) = (1 : Int32) from by decide]
      refine g_ifYes X10 hx 49 (hb hby at_42) ((if0 _ _).trans (feq ((by decide) : ¬ ((1 : Int32) = (0 : Int32)))).2) (by decide) (by decide) ?_
      refine g_iconst X10 hx (0 : Int32) (hb hby at_49) (by decide) ?_
      refine g_istore X10 hx #[.val (.int p1), .val (.int p2), .val (.int (1 : Int32)), .val (.ref w_PORTRAIT), .val (.int (3 : Int32)), .val (.ref w_ROTATION_270), .val (.int (0 : Int32)), .unset] (hb hby at_50) rfl ?_
      refine g_iload X10 hx (hb hby at_52) rfl ?_
      refine g_iloadN X10 hx (hb hby at_54) rfl ?_
      refine g_icmpYes X10 hx 62 (hb hby at_55) (feq ((by decide) : ¬ ((0 : Int32) = (1 : Int32)))).2 (by decide) (by decide) ?_
      refine g_iconst X10 hx (0 : Int32) (hb hby at_62) (by decide) ?_
      refine g_istore X10 hx #[.val (.int p1), .val (.int p2), .val (.int (1 : Int32)), .val (.ref w_PORTRAIT), .val (.int (3 : Int32)), .val (.ref w_ROTATION_270), .val (.int (0 : Int32)), .val (.int (0 : Int32))] (hb hby at_63) rfl ?_
      refine g_aloadN X10 hx (hb hby at_65) rfl rfl ?_
      refine g_aload X10 hx (hb hby at_66) rfl rfl ?_
      obtain ⟨v11, T11, L11, X11, q11, st11⟩ := own_callV X10 hx hZ (y := (⟨"com/example/reorient/reorient/model/NaturalOrientation", "isPortrait", "(Lcom/example/reorient/reorient/model/Rotation;)Z"⟩ : MethodName)) (pc := 68) (Ls := #[.val (.int p1), .val (.int p2), .val (.int (1 : Int32)), .val (.ref w_PORTRAIT), .val (.int (3 : Int32)), .val (.ref w_ROTATION_270), .val (.int (0 : Int32)), .val (.int (0 : Int32))]) (st := [(.ref w_ROTATION_270), (.ref w_PORTRAIT)]) hown (hw _ (List.mem_of_getElem? (i := 10) rfl)) (hw _ (List.mem_of_getElem? (i := 11) rfl)) (hw _ (List.mem_of_getElem? (i := 13) rfl)) (hw _ (List.mem_of_getElem? (i := 12) rfl)) (hw _ (List.mem_of_getElem? (i := 14) rfl)) (hw _ (List.mem_of_getElem? (i := 1) rfl)) (by decide) (rm_isPortrait l Z a0 hw w_PORTRAIT w_ROTATION_270 w_ROTATION_0 w_ROTATION_180 h0 n0 Z0 F_w_PORTRAIT_portrait F_w_PORTRAIT_reversePortrait) e10 E_w_PORTRAIT pd_1 (hb hby at_68) (by rw [hml]; rfl) (argsL := [(.ref w_ROTATION_270)]) (rest := []) rfl rfl rfl (by decide) (by decide) (by decide) (by decide)
      obtain ⟨rfl, M11, e11⟩ := q11
      have N11 := Fr.app N10 M11
      have r11 : (f_isPortrait w_PORTRAIT w_ROTATION_270 w_ROTATION_0 w_ROTATION_180) = (0 : Int32) := by rw [f_isPortrait, if_neg (ne_ROTATION_270_ROTATION_0 : ¬ (w_ROTATION_270 = w_ROTATION_0)), if_neg (ne_ROTATION_270_ROTATION_180 : ¬ (w_ROTATION_270 = w_ROTATION_180))]
      rw [r11] at st11
      refine Go.mp st11 ?_
      show Go p e below (T11.setTop (mkF m 71 #[.val (.int p1), .val (.int p2), .val (.int (1 : Int32)), .val (.ref w_PORTRAIT), .val (.int (3 : Int32)), .val (.ref w_ROTATION_270), .val (.int (0 : Int32)), .val (.int (0 : Int32))] [(.int (0 : Int32))])) _
      refine g_iload X11 hx (hb hby at_71) rfl ?_
      refine g_icmpNo X11 hx (hb hby at_73) (teq ((by decide) : (0 : Int32) = (0 : Int32))).2 ?_
      refine g_iconst X11 hx (1 : Int32) (hb hby at_76) (by decide) ?_
      refine g_goto X11 hx 81 (hb hby at_77) (by decide) (by decide) ?_
      exact own_retZ X11 hx hret hlk (hb hby at_81) (by decide) (by decide) (by decide) ⟨rfl, N11⟩
  · rw [q1]
    refine g_ifYes X0 hx 10 (hb hby at_3) ((if0 _ _).trans (feq ((by decide) : ¬ ((1 : Int32) = (0 : Int32)))).2) (by decide) (by decide) ?_
    refine g_iconst X0 hx (0 : Int32) (hb hby at_10) (by decide) ?_
    refine g_istoreN X0 hx #[.val (.int p1), .val (.int p2), .val (.int (0 : Int32)), .unset, .unset, .unset, .unset, .unset] (hb hby at_11) rfl ?_
    refine g_iloadN X0 hx (hb hby at_12) rfl ?_
    refine g_ifYes X0 hx 22 (hb hby at_13) ((if0 _ _).trans (teq ((by decide) : (0 : Int32) = (0 : Int32))).1) (by decide) (by decide) ?_
    obtain ⟨T12, X12, e12, st12⟩ := getS2 X0 hx hZ hown (host := "") (Or.inl (hw _ (List.mem_of_getElem? (i := 24) rfl))) Via.refl e0 S_LANDSCAPE (g := (mkF m 22 #[.val (.int p1), .val (.int p2), .val (.int (0 : Int32)), .unset, .unset, .unset, .unset, .unset] [])) rfl (hb hby at_22)
    refine Go.mp st12 ?_
    show Go p e below (T12.setTop (mkF m 25 #[.val (.int p1), .val (.int p2), .val (.int (0 : Int32)), .unset, .unset, .unset, .unset, .unset] [(.ref w_LANDSCAPE)])) _
    refine g_astoreN X12 hx #[.val (.int p1), .val (.int p2), .val (.int (0 : Int32)), .val (.ref w_LANDSCAPE), .unset, .unset, .unset, .unset] (hb hby at_25) rfl rfl ?_
    refine g_iloadN X12 hx (hb hby at_26) rfl ?_
    refine g_iconst X12 hx (3 : Int32) (hb hby at_27) (by decide) ?_
    refine g_iand X12 hx (hb hby at_28) ?_
    show Go p e below (T12.setTop (mkF m 29 #[.val (.int p1), .val (.int p2), .val (.int (0 : Int32)), .val (.ref w_LANDSCAPE), .unset, .unset, .unset, .unset] [(.int (p2 &&& (3 : Int32)))])) _
    rcases own_and3 p2 with q13 | q13 | q13 | q13
    · rw [q13]
      refine g_istore X12 hx #[.val (.int p1), .val (.int p2), .val (.int (0 : Int32)), .val (.ref w_LANDSCAPE), .val (.int (0 : Int32)), .unset, .unset, .unset] (hb hby at_29) rfl ?_
      refine g_iload X12 hx (hb hby at_31) rfl ?_
      obtain ⟨v14, T14, L14, X14, q14, st14⟩ := own_callS X12 hx hZ (y := (⟨"com/example/reorient/reorient/model/NaturalOrientationIsPortraitPinLaw", "rotationOf", "(I)Lcom/example/reorient/reorient/model/Rotation;"⟩ : MethodName)) (pc := 33) (Ls := #[.val (.int p1), .val (.int p2), .val (.int (0 : Int32)), .val (.ref w_LANDSCAPE), .val (.int (0 : Int32)), .unset, .unset, .unset]) (st := [(.int (0 : Int32))]) hown (hw _ (List.mem_of_getElem? (i := 3) rfl)) (hw _ (List.mem_of_getElem? (i := 4) rfl)) (hw _ (List.mem_of_getElem? (i := 5) rfl)) (hw _ (List.mem_of_getElem? (i := 6) rfl)) (by decide) (rm_rotationOf l Z a0 hw (0 : Int32) w_ROTATION_0 w_ROTATION_90 w_ROTATION_180 w_ROTATION_270 h0 n0 Z0 S_ROTATION_0 S_ROTATION_90 S_ROTATION_180 S_ROTATION_270) e12 pd_0 (hb hby at_33) (by rw [hml]; rfl) (argsL := [(.int (0 : Int32))]) (rest := []) rfl rfl rfl (by decide) (by decide) (by decide) (by decide)
      obtain ⟨rfl, M14, e14⟩ := q14
      have N14 := Fr.app N0 M14
      have r14 : (f_rotationOf (0 : Int32) w_ROTATION_0 w_ROTATION_90 w_ROTATION_180 w_ROTATION_270) = w_ROTATION_0 := by rw [f_rotationOf, if_pos ((by decide) : (0 : Int32) = (0 : Int32))]
      rw [r14] at st14
      refine Go.mp st14 ?_
      show Go p e below (T14.setTop (mkF m 36 #[.val (.int p1), .val (.int p2), .val (.int (0 : Int32)), .val (.ref w_LANDSCAPE), .val (.int (0 : Int32)), .unset, .unset, .unset] [(.ref w_ROTATION_0)])) _
      refine g_astore X14 hx #[.val (.int p1), .val (.int p2), .val (.int (0 : Int32)), .val (.ref w_LANDSCAPE), .val (.int (0 : Int32)), .val (.ref w_ROTATION_0), .unset, .unset] (hb hby at_36) rfl rfl ?_
      refine g_iload X14 hx (hb hby at_38) rfl ?_
      refine g_iconst X14 hx (1 : Int32) (hb hby at_40) (by decide) ?_
      refine g_iand X14 hx (hb hby at_41) ?_
      show Go p e below (T14.setTop (mkF m 42 #[.val (.int p1), .val (.int p2), .val (.int (0 : Int32)), .val (.ref w_LANDSCAPE), .val (.int (0 : Int32)), .val (.ref w_ROTATION_0), .unset, .unset] [(.int ((0 : Int32) &&& (1 : Int32)))])) _
      rw [show ((0 : Int32) &&& (1 : Int32)) = (0 : Int32) from by decide]
      refine g_ifNo X14 hx (hb hby at_42) ((if0 _ _).trans (teq ((by decide) : (0 : Int32) = (0 : Int32))).2) ?_
      refine g_iconst X14 hx (1 : Int32) (hb hby at_45) (by decide) ?_
      refine g_goto X14 hx 50 (hb hby at_46) (by decide) (by decide) ?_
      refine g_istore X14 hx #[.val (.int p1), .val (.int p2), .val (.int (0 : Int32)), .val (.ref w_LANDSCAPE), .val (.int (0 : Int32)), .val (.ref w_ROTATION_0), .val (.int (1 : Int32)), .unset] (hb hby at_50) rfl ?_
      refine g_iload X14 hx (hb hby at_52) rfl ?_
      refine g_iloadN X14 hx (hb hby at_54) rfl ?_
      refine g_icmpYes X14 hx 62 (hb hby at_55) (feq ((by decide) : ¬ ((1 : Int32) = (0 : Int32)))).2 (by decide) (by decide) ?_
      refine g_iconst X14 hx (0 : Int32) (hb hby at_62) (by decide) ?_
      refine g_istore X14 hx #[.val (.int p1), .val (.int p2), .val (.int (0 : Int32)), .val (.ref w_LANDSCAPE), .val (.int (0 : Int32)), .val (.ref w_ROTATION_0), .val (.int (1 : Int32)), .val (.int (0 : Int32))] (hb hby at_63) rfl ?_
      refine g_aloadN X14 hx (hb hby at_65) rfl rfl ?_
      refine g_aload X14 hx (hb hby at_66) rfl rfl ?_
      obtain ⟨v15, T15, L15, X15, q15, st15⟩ := own_callV X14 hx hZ (y := (⟨"com/example/reorient/reorient/model/NaturalOrientation", "isPortrait", "(Lcom/example/reorient/reorient/model/Rotation;)Z"⟩ : MethodName)) (pc := 68) (Ls := #[.val (.int p1), .val (.int p2), .val (.int (0 : Int32)), .val (.ref w_LANDSCAPE), .val (.int (0 : Int32)), .val (.ref w_ROTATION_0), .val (.int (1 : Int32)), .val (.int (0 : Int32))]) (st := [(.ref w_ROTATION_0), (.ref w_LANDSCAPE)]) hown (hw _ (List.mem_of_getElem? (i := 10) rfl)) (hw _ (List.mem_of_getElem? (i := 11) rfl)) (hw _ (List.mem_of_getElem? (i := 13) rfl)) (hw _ (List.mem_of_getElem? (i := 12) rfl)) (hw _ (List.mem_of_getElem? (i := 14) rfl)) (hw _ (List.mem_of_getElem? (i := 1) rfl)) (by decide) (rm_isPortrait l Z a0 hw w_LANDSCAPE w_ROTATION_0 w_ROTATION_90 w_ROTATION_270 h0 n0 Z0 F_w_LANDSCAPE_portrait F_w_LANDSCAPE_reversePortrait) e14 E_w_LANDSCAPE pd_1 (hb hby at_68) (by rw [hml]; rfl) (argsL := [(.ref w_ROTATION_0)]) (rest := []) rfl rfl rfl (by decide) (by decide) (by decide) (by decide)
      obtain ⟨rfl, M15, e15⟩ := q15
      have N15 := Fr.app N14 M15
      have r15 : (f_isPortrait w_LANDSCAPE w_ROTATION_0 w_ROTATION_90 w_ROTATION_270) = (0 : Int32) := by rw [f_isPortrait, if_neg (ne_ROTATION_0_ROTATION_90 : ¬ (w_ROTATION_0 = w_ROTATION_90)), if_neg ((Ne.symm ne_ROTATION_270_ROTATION_0) : ¬ (w_ROTATION_0 = w_ROTATION_270))]
      rw [r15] at st15
      refine Go.mp st15 ?_
      show Go p e below (T15.setTop (mkF m 71 #[.val (.int p1), .val (.int p2), .val (.int (0 : Int32)), .val (.ref w_LANDSCAPE), .val (.int (0 : Int32)), .val (.ref w_ROTATION_0), .val (.int (1 : Int32)), .val (.int (0 : Int32))] [(.int (0 : Int32))])) _
      refine g_iload X15 hx (hb hby at_71) rfl ?_
      refine g_icmpNo X15 hx (hb hby at_73) (teq ((by decide) : (0 : Int32) = (0 : Int32))).2 ?_
      refine g_iconst X15 hx (1 : Int32) (hb hby at_76) (by decide) ?_
      refine g_goto X15 hx 81 (hb hby at_77) (by decide) (by decide) ?_
      exact own_retZ X15 hx hret hlk (hb hby at_81) (by decide) (by decide) (by decide) ⟨rfl, N15⟩
    · rw [q13]
      refine g_istore X12 hx #[.val (.int p1), .val (.int p2), .val (.int (0 : Int32)), .val (.ref w_LANDSCAPE), .val (.int (1 : Int32)), .unset, .unset, .unset] (hb hby at_29) rfl ?_
      refine g_iload X12 hx (hb hby at_31) rfl ?_
      obtain ⟨v16, T16, L16, X16, q16, st16⟩ := own_callS X12 hx hZ (y := (⟨"com/example/reorient/reorient/model/NaturalOrientationIsPortraitPinLaw", "rotationOf", "(I)Lcom/example/reorient/reorient/model/Rotation;"⟩ : MethodName)) (pc := 33) (Ls := #[.val (.int p1), .val (.int p2), .val (.int (0 : Int32)), .val (.ref w_LANDSCAPE), .val (.int (1 : Int32)), .unset, .unset, .unset]) (st := [(.int (1 : Int32))]) hown (hw _ (List.mem_of_getElem? (i := 3) rfl)) (hw _ (List.mem_of_getElem? (i := 4) rfl)) (hw _ (List.mem_of_getElem? (i := 5) rfl)) (hw _ (List.mem_of_getElem? (i := 6) rfl)) (by decide) (rm_rotationOf l Z a0 hw (1 : Int32) w_ROTATION_0 w_ROTATION_90 w_ROTATION_180 w_ROTATION_270 h0 n0 Z0 S_ROTATION_0 S_ROTATION_90 S_ROTATION_180 S_ROTATION_270) e12 pd_0 (hb hby at_33) (by rw [hml]; rfl) (argsL := [(.int (1 : Int32))]) (rest := []) rfl rfl rfl (by decide) (by decide) (by decide) (by decide)
      obtain ⟨rfl, M16, e16⟩ := q16
      have N16 := Fr.app N0 M16
      have r16 : (f_rotationOf (1 : Int32) w_ROTATION_0 w_ROTATION_90 w_ROTATION_180 w_ROTATION_270) = w_ROTATION_90 := by rw [f_rotationOf, if_neg ((by decide) : ¬ ((1 : Int32) = (0 : Int32))), if_pos ((by decide) : (1 : Int32) = (1 : Int32))]
      rw [r16] at st16
      refine Go.mp st16 ?_
      show Go p e below (T16.setTop (mkF m 36 #[.val (.int p1), .val (.int p2), .val (.int (0 : Int32)), .val (.ref w_LANDSCAPE), .val (.int (1 : Int32)), .unset, .unset, .unset] [(.ref w_ROTATION_90)])) _
      refine g_astore X16 hx #[.val (.int p1), .val (.int p2), .val (.int (0 : Int32)), .val (.ref w_LANDSCAPE), .val (.int (1 : Int32)), .val (.ref w_ROTATION_90), .unset, .unset] (hb hby at_36) rfl rfl ?_
      refine g_iload X16 hx (hb hby at_38) rfl ?_
      refine g_iconst X16 hx (1 : Int32) (hb hby at_40) (by decide) ?_
      refine g_iand X16 hx (hb hby at_41) ?_
      show Go p e below (T16.setTop (mkF m 42 #[.val (.int p1), .val (.int p2), .val (.int (0 : Int32)), .val (.ref w_LANDSCAPE), .val (.int (1 : Int32)), .val (.ref w_ROTATION_90), .unset, .unset] [(.int ((1 : Int32) &&& (1 : Int32)))])) _
      rw [show ((1 : Int32) &&& (1 : Int32)) = (1 : Int32) from by decide]
      refine g_ifYes X16 hx 49 (hb hby at_42) ((if0 _ _).trans (feq ((by decide) : ¬ ((1 : Int32) = (0 : Int32)))).2) (by decide) (by decide) ?_
      refine g_iconst X16 hx (0 : Int32) (hb hby at_49) (by decide) ?_
      refine g_istore X16 hx #[.val (.int p1), .val (.int p2), .val (.int (0 : Int32)), .val (.ref w_LANDSCAPE), .val (.int (1 : Int32)), .val (.ref w_ROTATION_90), .val (.int (0 : Int32)), .unset] (hb hby at_50) rfl ?_
      refine g_iload X16 hx (hb hby at_52) rfl ?_
      refine g_iloadN X16 hx (hb hby at_54) rfl ?_
      refine g_icmpNo X16 hx (hb hby at_55) (teq ((by decide) : (0 : Int32) = (0 : Int32))).2 ?_
      refine g_iconst X16 hx (1 : Int32) (hb hby at_58) (by decide) ?_
      refine g_goto X16 hx 63 (hb hby at_59) (by decide) (by decide) ?_
      refine g_istore X16 hx #[.val (.int p1), .val (.int p2), .val (.int (0 : Int32)), .val (.ref w_LANDSCAPE), .val (.int (1 : Int32)), .val (.ref w_ROTATION_90), .val (.int (0 : Int32)), .val (.int (1 : Int32))] (hb hby at_63) rfl ?_
      refine g_aloadN X16 hx (hb hby at_65) rfl rfl ?_
      refine g_aload X16 hx (hb hby at_66) rfl rfl ?_
      obtain ⟨v17, T17, L17, X17, q17, st17⟩ := own_callV X16 hx hZ (y := (⟨"com/example/reorient/reorient/model/NaturalOrientation", "isPortrait", "(Lcom/example/reorient/reorient/model/Rotation;)Z"⟩ : MethodName)) (pc := 68) (Ls := #[.val (.int p1), .val (.int p2), .val (.int (0 : Int32)), .val (.ref w_LANDSCAPE), .val (.int (1 : Int32)), .val (.ref w_ROTATION_90), .val (.int (0 : Int32)), .val (.int (1 : Int32))]) (st := [(.ref w_ROTATION_90), (.ref w_LANDSCAPE)]) hown (hw _ (List.mem_of_getElem? (i := 10) rfl)) (hw _ (List.mem_of_getElem? (i := 11) rfl)) (hw _ (List.mem_of_getElem? (i := 13) rfl)) (hw _ (List.mem_of_getElem? (i := 12) rfl)) (hw _ (List.mem_of_getElem? (i := 14) rfl)) (hw _ (List.mem_of_getElem? (i := 1) rfl)) (by decide) (rm_isPortrait l Z a0 hw w_LANDSCAPE w_ROTATION_90 w_ROTATION_90 w_ROTATION_270 h0 n0 Z0 F_w_LANDSCAPE_portrait F_w_LANDSCAPE_reversePortrait) e16 E_w_LANDSCAPE pd_1 (hb hby at_68) (by rw [hml]; rfl) (argsL := [(.ref w_ROTATION_90)]) (rest := []) rfl rfl rfl (by decide) (by decide) (by decide) (by decide)
      obtain ⟨rfl, M17, e17⟩ := q17
      have N17 := Fr.app N16 M17
      have r17 : (f_isPortrait w_LANDSCAPE w_ROTATION_90 w_ROTATION_90 w_ROTATION_270) = (1 : Int32) := by rw [f_isPortrait, if_pos (rfl : w_ROTATION_90 = w_ROTATION_90)]
      rw [r17] at st17
      refine Go.mp st17 ?_
      show Go p e below (T17.setTop (mkF m 71 #[.val (.int p1), .val (.int p2), .val (.int (0 : Int32)), .val (.ref w_LANDSCAPE), .val (.int (1 : Int32)), .val (.ref w_ROTATION_90), .val (.int (0 : Int32)), .val (.int (1 : Int32))] [(.int (1 : Int32))])) _
      refine g_iload X17 hx (hb hby at_71) rfl ?_
      refine g_icmpNo X17 hx (hb hby at_73) (teq ((by decide) : (1 : Int32) = (1 : Int32))).2 ?_
      refine g_iconst X17 hx (1 : Int32) (hb hby at_76) (by decide) ?_
      refine g_goto X17 hx 81 (hb hby at_77) (by decide) (by decide) ?_
      exact own_retZ X17 hx hret hlk (hb hby at_81) (by decide) (by decide) (by decide) ⟨rfl, N17⟩
    · rw [q13]
      refine g_istore X12 hx #[.val (.int p1), .val (.int p2), .val (.int (0 : Int32)), .val (.ref w_LANDSCAPE), .val (.int (2 : Int32)), .unset, .unset, .unset] (hb hby at_29) rfl ?_
      refine g_iload X12 hx (hb hby at_31) rfl ?_
      obtain ⟨v18, T18, L18, X18, q18, st18⟩ := own_callS X12 hx hZ (y := (⟨"com/example/reorient/reorient/model/NaturalOrientationIsPortraitPinLaw", "rotationOf", "(I)Lcom/example/reorient/reorient/model/Rotation;"⟩ : MethodName)) (pc := 33) (Ls := #[.val (.int p1), .val (.int p2), .val (.int (0 : Int32)), .val (.ref w_LANDSCAPE), .val (.int (2 : Int32)), .unset, .unset, .unset]) (st := [(.int (2 : Int32))]) hown (hw _ (List.mem_of_getElem? (i := 3) rfl)) (hw _ (List.mem_of_getElem? (i := 4) rfl)) (hw _ (List.mem_of_getElem? (i := 5) rfl)) (hw _ (List.mem_of_getElem? (i := 6) rfl)) (by decide) (rm_rotationOf l Z a0 hw (2 : Int32) w_ROTATION_0 w_ROTATION_90 w_ROTATION_180 w_ROTATION_270 h0 n0 Z0 S_ROTATION_0 S_ROTATION_90 S_ROTATION_180 S_ROTATION_270) e12 pd_0 (hb hby at_33) (by rw [hml]; rfl) (argsL := [(.int (2 : Int32))]) (rest := []) rfl rfl rfl (by decide) (by decide) (by decide) (by decide)
      obtain ⟨rfl, M18, e18⟩ := q18
      have N18 := Fr.app N0 M18
      have r18 : (f_rotationOf (2 : Int32) w_ROTATION_0 w_ROTATION_90 w_ROTATION_180 w_ROTATION_270) = w_ROTATION_180 := by rw [f_rotationOf, if_neg ((by decide) : ¬ ((2 : Int32) = (0 : Int32))), if_neg ((by decide) : ¬ ((2 : Int32) = (1 : Int32))), if_pos ((by decide) : (2 : Int32) = (2 : Int32))]
      rw [r18] at st18
      refine Go.mp st18 ?_
      show Go p e below (T18.setTop (mkF m 36 #[.val (.int p1), .val (.int p2), .val (.int (0 : Int32)), .val (.ref w_LANDSCAPE), .val (.int (2 : Int32)), .unset, .unset, .unset] [(.ref w_ROTATION_180)])) _
      refine g_astore X18 hx #[.val (.int p1), .val (.int p2), .val (.int (0 : Int32)), .val (.ref w_LANDSCAPE), .val (.int (2 : Int32)), .val (.ref w_ROTATION_180), .unset, .unset] (hb hby at_36) rfl rfl ?_
      refine g_iload X18 hx (hb hby at_38) rfl ?_
      refine g_iconst X18 hx (1 : Int32) (hb hby at_40) (by decide) ?_
      refine g_iand X18 hx (hb hby at_41) ?_
      show Go p e below (T18.setTop (mkF m 42 #[.val (.int p1), .val (.int p2), .val (.int (0 : Int32)), .val (.ref w_LANDSCAPE), .val (.int (2 : Int32)), .val (.ref w_ROTATION_180), .unset, .unset] [(.int ((2 : Int32) &&& (1 : Int32)))])) _
      rw [show ((2 : Int32) &&& (1 : Int32)) = (0 : Int32) from by decide]
      refine g_ifNo X18 hx (hb hby at_42) ((if0 _ _).trans (teq ((by decide) : (0 : Int32) = (0 : Int32))).2) ?_
      refine g_iconst X18 hx (1 : Int32) (hb hby at_45) (by decide) ?_
      refine g_goto X18 hx 50 (hb hby at_46) (by decide) (by decide) ?_
      refine g_istore X18 hx #[.val (.int p1), .val (.int p2), .val (.int (0 : Int32)), .val (.ref w_LANDSCAPE), .val (.int (2 : Int32)), .val (.ref w_ROTATION_180), .val (.int (1 : Int32)), .unset] (hb hby at_50) rfl ?_
      refine g_iload X18 hx (hb hby at_52) rfl ?_
      refine g_iloadN X18 hx (hb hby at_54) rfl ?_
      refine g_icmpYes X18 hx 62 (hb hby at_55) (feq ((by decide) : ¬ ((1 : Int32) = (0 : Int32)))).2 (by decide) (by decide) ?_
      refine g_iconst X18 hx (0 : Int32) (hb hby at_62) (by decide) ?_
      refine g_istore X18 hx #[.val (.int p1), .val (.int p2), .val (.int (0 : Int32)), .val (.ref w_LANDSCAPE), .val (.int (2 : Int32)), .val (.ref w_ROTATION_180), .val (.int (1 : Int32)), .val (.int (0 : Int32))] (hb hby at_63) rfl ?_
      refine g_aloadN X18 hx (hb hby at_65) rfl rfl ?_
      refine g_aload X18 hx (hb hby at_66) rfl rfl ?_
      obtain ⟨v19, T19, L19, X19, q19, st19⟩ := own_callV X18 hx hZ (y := (⟨"com/example/reorient/reorient/model/NaturalOrientation", "isPortrait", "(Lcom/example/reorient/reorient/model/Rotation;)Z"⟩ : MethodName)) (pc := 68) (Ls := #[.val (.int p1), .val (.int p2), .val (.int (0 : Int32)), .val (.ref w_LANDSCAPE), .val (.int (2 : Int32)), .val (.ref w_ROTATION_180), .val (.int (1 : Int32)), .val (.int (0 : Int32))]) (st := [(.ref w_ROTATION_180), (.ref w_LANDSCAPE)]) hown (hw _ (List.mem_of_getElem? (i := 10) rfl)) (hw _ (List.mem_of_getElem? (i := 11) rfl)) (hw _ (List.mem_of_getElem? (i := 13) rfl)) (hw _ (List.mem_of_getElem? (i := 12) rfl)) (hw _ (List.mem_of_getElem? (i := 14) rfl)) (hw _ (List.mem_of_getElem? (i := 1) rfl)) (by decide) (rm_isPortrait l Z a0 hw w_LANDSCAPE w_ROTATION_180 w_ROTATION_90 w_ROTATION_270 h0 n0 Z0 F_w_LANDSCAPE_portrait F_w_LANDSCAPE_reversePortrait) e18 E_w_LANDSCAPE pd_1 (hb hby at_68) (by rw [hml]; rfl) (argsL := [(.ref w_ROTATION_180)]) (rest := []) rfl rfl rfl (by decide) (by decide) (by decide) (by decide)
      obtain ⟨rfl, M19, e19⟩ := q19
      have N19 := Fr.app N18 M19
      have r19 : (f_isPortrait w_LANDSCAPE w_ROTATION_180 w_ROTATION_90 w_ROTATION_270) = (0 : Int32) := by rw [f_isPortrait, if_neg (ne_ROTATION_180_ROTATION_90 : ¬ (w_ROTATION_180 = w_ROTATION_90)), if_neg ((Ne.symm ne_ROTATION_270_ROTATION_180) : ¬ (w_ROTATION_180 = w_ROTATION_270))]
      rw [r19] at st19
      refine Go.mp st19 ?_
      show Go p e below (T19.setTop (mkF m 71 #[.val (.int p1), .val (.int p2), .val (.int (0 : Int32)), .val (.ref w_LANDSCAPE), .val (.int (2 : Int32)), .val (.ref w_ROTATION_180), .val (.int (1 : Int32)), .val (.int (0 : Int32))] [(.int (0 : Int32))])) _
      refine g_iload X19 hx (hb hby at_71) rfl ?_
      refine g_icmpNo X19 hx (hb hby at_73) (teq ((by decide) : (0 : Int32) = (0 : Int32))).2 ?_
      refine g_iconst X19 hx (1 : Int32) (hb hby at_76) (by decide) ?_
      refine g_goto X19 hx 81 (hb hby at_77) (by decide) (by decide) ?_
      exact own_retZ X19 hx hret hlk (hb hby at_81) (by decide) (by decide) (by decide) ⟨rfl, N19⟩
    · rw [q13]
      refine g_istore X12 hx #[.val (.int p1), .val (.int p2), .val (.int (0 : Int32)), .val (.ref w_LANDSCAPE), .val (.int (3 : Int32)), .unset, .unset, .unset] (hb hby at_29) rfl ?_
      refine g_iload X12 hx (hb hby at_31) rfl ?_
      obtain ⟨v20, T20, L20, X20, q20, st20⟩ := own_callS X12 hx hZ (y := (⟨"com/example/reorient/reorient/model/NaturalOrientationIsPortraitPinLaw", "rotationOf", "(I)Lcom/example/reorient/reorient/model/Rotation;"⟩ : MethodName)) (pc := 33) (Ls := #[.val (.int p1), .val (.int p2), .val (.int (0 : Int32)), .val (.ref w_LANDSCAPE), .val (.int (3 : Int32)), .unset, .unset, .unset]) (st := [(.int (3 : Int32))]) hown (hw _ (List.mem_of_getElem? (i := 3) rfl)) (hw _ (List.mem_of_getElem? (i := 4) rfl)) (hw _ (List.mem_of_getElem? (i := 5) rfl)) (hw _ (List.mem_of_getElem? (i := 6) rfl)) (by decide) (rm_rotationOf l Z a0 hw (3 : Int32) w_ROTATION_0 w_ROTATION_90 w_ROTATION_180 w_ROTATION_270 h0 n0 Z0 S_ROTATION_0 S_ROTATION_90 S_ROTATION_180 S_ROTATION_270) e12 pd_0 (hb hby at_33) (by rw [hml]; rfl) (argsL := [(.int (3 : Int32))]) (rest := []) rfl rfl rfl (by decide) (by decide) (by decide) (by decide)
      obtain ⟨rfl, M20, e20⟩ := q20
      have N20 := Fr.app N0 M20
      have r20 : (f_rotationOf (3 : Int32) w_ROTATION_0 w_ROTATION_90 w_ROTATION_180 w_ROTATION_270) = w_ROTATION_270 := by rw [f_rotationOf, if_neg ((by decide) : ¬ ((3 : Int32) = (0 : Int32))), if_neg ((by decide) : ¬ ((3 : Int32) = (1 : Int32))), if_neg ((by decide) : ¬ ((3 : Int32) = (2 : Int32)))]
      rw [r20] at st20
      refine Go.mp st20 ?_
      show Go p e below (T20.setTop (mkF m 36 #[.val (.int p1), .val (.int p2), .val (.int (0 : Int32)), .val (.ref w_LANDSCAPE), .val (.int (3 : Int32)), .unset, .unset, .unset] [(.ref w_ROTATION_270)])) _
      refine g_astore X20 hx #[.val (.int p1), .val (.int p2), .val (.int (0 : Int32)), .val (.ref w_LANDSCAPE), .val (.int (3 : Int32)), .val (.ref w_ROTATION_270), .unset, .unset] (hb hby at_36) rfl rfl ?_
      refine g_iload X20 hx (hb hby at_38) rfl ?_
      refine g_iconst X20 hx (1 : Int32) (hb hby at_40) (by decide) ?_
      refine g_iand X20 hx (hb hby at_41) ?_
      show Go p e below (T20.setTop (mkF m 42 #[.val (.int p1), .val (.int p2), .val (.int (0 : Int32)), .val (.ref w_LANDSCAPE), .val (.int (3 : Int32)), .val (.ref w_ROTATION_270), .unset, .unset] [(.int ((3 : Int32) &&& (1 : Int32)))])) _
      rw [show ((3 : Int32) &&& (1 : Int32)) = (1 : Int32) from by decide]
      refine g_ifYes X20 hx 49 (hb hby at_42) ((if0 _ _).trans (feq ((by decide) : ¬ ((1 : Int32) = (0 : Int32)))).2) (by decide) (by decide) ?_
      refine g_iconst X20 hx (0 : Int32) (hb hby at_49) (by decide) ?_
      refine g_istore X20 hx #[.val (.int p1), .val (.int p2), .val (.int (0 : Int32)), .val (.ref w_LANDSCAPE), .val (.int (3 : Int32)), .val (.ref w_ROTATION_270), .val (.int (0 : Int32)), .unset] (hb hby at_50) rfl ?_
      refine g_iload X20 hx (hb hby at_52) rfl ?_
      refine g_iloadN X20 hx (hb hby at_54) rfl ?_
      refine g_icmpNo X20 hx (hb hby at_55) (teq ((by decide) : (0 : Int32) = (0 : Int32))).2 ?_
      refine g_iconst X20 hx (1 : Int32) (hb hby at_58) (by decide) ?_
      refine g_goto X20 hx 63 (hb hby at_59) (by decide) (by decide) ?_
      refine g_istore X20 hx #[.val (.int p1), .val (.int p2), .val (.int (0 : Int32)), .val (.ref w_LANDSCAPE), .val (.int (3 : Int32)), .val (.ref w_ROTATION_270), .val (.int (0 : Int32)), .val (.int (1 : Int32))] (hb hby at_63) rfl ?_
      refine g_aloadN X20 hx (hb hby at_65) rfl rfl ?_
      refine g_aload X20 hx (hb hby at_66) rfl rfl ?_
      obtain ⟨v21, T21, L21, X21, q21, st21⟩ := own_callV X20 hx hZ (y := (⟨"com/example/reorient/reorient/model/NaturalOrientation", "isPortrait", "(Lcom/example/reorient/reorient/model/Rotation;)Z"⟩ : MethodName)) (pc := 68) (Ls := #[.val (.int p1), .val (.int p2), .val (.int (0 : Int32)), .val (.ref w_LANDSCAPE), .val (.int (3 : Int32)), .val (.ref w_ROTATION_270), .val (.int (0 : Int32)), .val (.int (1 : Int32))]) (st := [(.ref w_ROTATION_270), (.ref w_LANDSCAPE)]) hown (hw _ (List.mem_of_getElem? (i := 10) rfl)) (hw _ (List.mem_of_getElem? (i := 11) rfl)) (hw _ (List.mem_of_getElem? (i := 13) rfl)) (hw _ (List.mem_of_getElem? (i := 12) rfl)) (hw _ (List.mem_of_getElem? (i := 14) rfl)) (hw _ (List.mem_of_getElem? (i := 1) rfl)) (by decide) (rm_isPortrait l Z a0 hw w_LANDSCAPE w_ROTATION_270 w_ROTATION_90 w_ROTATION_270 h0 n0 Z0 F_w_LANDSCAPE_portrait F_w_LANDSCAPE_reversePortrait) e20 E_w_LANDSCAPE pd_1 (hb hby at_68) (by rw [hml]; rfl) (argsL := [(.ref w_ROTATION_270)]) (rest := []) rfl rfl rfl (by decide) (by decide) (by decide) (by decide)
      obtain ⟨rfl, M21, e21⟩ := q21
      have N21 := Fr.app N20 M21
      have r21 : (f_isPortrait w_LANDSCAPE w_ROTATION_270 w_ROTATION_90 w_ROTATION_270) = (1 : Int32) := by rw [f_isPortrait, if_neg (ne_ROTATION_270_ROTATION_90 : ¬ (w_ROTATION_270 = w_ROTATION_90)), if_pos (rfl : w_ROTATION_270 = w_ROTATION_270)]
      rw [r21] at st21
      refine Go.mp st21 ?_
      show Go p e below (T21.setTop (mkF m 71 #[.val (.int p1), .val (.int p2), .val (.int (0 : Int32)), .val (.ref w_LANDSCAPE), .val (.int (3 : Int32)), .val (.ref w_ROTATION_270), .val (.int (0 : Int32)), .val (.int (1 : Int32))] [(.int (1 : Int32))])) _
      refine g_iload X21 hx (hb hby at_71) rfl ?_
      refine g_icmpNo X21 hx (hb hby at_73) (teq ((by decide) : (1 : Int32) = (1 : Int32))).2 ?_
      refine g_iconst X21 hx (1 : Int32) (hb hby at_76) (by decide) ?_
      refine g_goto X21 hx 81 (hb hby at_77) (by decide) (by decide) ?_
      exact own_retZ X21 hx hret hlk (hb hby at_81) (by decide) (by decide) (by decide) ⟨rfl, N21⟩
set_option maxRecDepth 65536 in
set_option maxHeartbeats 40000000 in
theorem comes_1 {Post : Tables → Env → Array Value → State → Outcome → State → Prop} (hpost : ∀ tb e args s v u, (limb_1_1.after args s (.returned v) u = true ∧ limb_1_2.after args s (.returned v) u = true ∧ True) → FrameEnd s (.returned v) u (Jvm.fieldLocs frame_1_writes args s ++ Jvm.arrayLocs frame_1_arrays args s ++ Jvm.staticLocs frame_1_statics s) 0 0 → Post tb e args s (.returned v) u) :
    ArmFor flags0 classFile x code maxLocals ret World_1 tables_1 room_1 Calls_1 rest_1 Pre_1 Post := by
  intro l hfl _ _ p e ha hc hk s m args below hf hA hF happ hP
  obtain ⟨hcalls, hrest, hpre⟩ := hP
  obtain ⟨-, -, -, hnamed, -, -, -, hat⟩ := (Spec.applies_iff hf).mp happ
  obtain ⟨hg, hn⟩ := and_e (Cond.before_iff.mp (show (Jvm.Cond.and given_1 narrow_1).before args s = true from hpre))
  obtain ⟨hcnt, hg⟩ := and_e hg
  obtain ⟨w0, w1, rfl⟩ : ∃ w0 w1 : Value, args = #[w0, w1] := by
    have hs : args.size = 2 := by simpa [Cond.value, given_1] using hcnt
    obtain ⟨L⟩ := args
    match L, hs with
    | [w0, w1], _ => exact ⟨w0, w1, rfl⟩
  have hw := fun d (hd : d ∈ tables_1) => atoms_spec (ws := Jvm.Cond.code x code maxLocals ret :: tables_1) hat d (List.mem_cons_of_mem _ hd)
  obtain ⟨ha0, hg0⟩ := and_e hg
  obtain ⟨p1, ep1⟩ := is_v ha0
  obtain rfl : w0 = (.int p1) := Option.some.inj ep1
  obtain ⟨p2, ep2⟩ := is_v hg0
  obtain rfl : w1 = (.int p2) := Option.some.inj ep2
  obtain ⟨hn0, hm0⟩ := and_e hn
  obtain ⟨w_PORTRAIT, S_PORTRAIT, E_PORTRAIT, ev_PORTRAIT⟩ := own_sta hn0 (hw _ (List.mem_of_getElem? (i := 1) rfl)) (hw _ (List.mem_of_getElem? (i := 2) rfl))
  obtain ⟨hn1, hm1⟩ := and_e hm0
  obtain ⟨w_ROTATION_270, S_ROTATION_270, E_ROTATION_270, ev_ROTATION_270⟩ := own_sta hn1 (hw _ (List.mem_of_getElem? (i := 8) rfl)) (hw _ (List.mem_of_getElem? (i := 9) rfl))
  obtain ⟨hn2, hm2⟩ := and_e hm1
  obtain ⟨w_ROTATION_0, S_ROTATION_0, E_ROTATION_0, ev_ROTATION_0⟩ := own_sta hn2 (hw _ (List.mem_of_getElem? (i := 8) rfl)) (hw _ (List.mem_of_getElem? (i := 17) rfl))
  obtain ⟨hn3, hm3⟩ := and_e hm2
  have O_PORTRAIT_portrait_h := hn3
  obtain ⟨hn4, hm4⟩ := and_e hm3
  have O_ROTATION_270_ordinal_h := hn4
  obtain ⟨hn5, hm5⟩ := and_e hm4
  have O_ROTATION_0_ordinal_h := hn5
  obtain ⟨hn6, hm6⟩ := and_e hm5
  obtain ⟨w_ROTATION_180, S_ROTATION_180, E_ROTATION_180, ev_ROTATION_180⟩ := own_sta hn6 (hw _ (List.mem_of_getElem? (i := 8) rfl)) (hw _ (List.mem_of_getElem? (i := 20) rfl))
  obtain ⟨hn7, hm7⟩ := and_e hm6
  have O_PORTRAIT_reversePortrait_h := hn7
  obtain ⟨hn8, hm8⟩ := and_e hm7
  have O_ROTATION_180_ordinal_h := hn8
  obtain ⟨hn9, hm9⟩ := and_e hm8
  obtain ⟨w_ROTATION_90, S_ROTATION_90, E_ROTATION_90, ev_ROTATION_90⟩ := own_sta hn9 (hw _ (List.mem_of_getElem? (i := 8) rfl)) (hw _ (List.mem_of_getElem? (i := 22) rfl))
  obtain ⟨hn10, hm10⟩ := and_e hm9
  have O_ROTATION_90_ordinal_h := hn10
  obtain ⟨hn11, hm11⟩ := and_e hm10
  obtain ⟨w_LANDSCAPE, S_LANDSCAPE, E_LANDSCAPE, ev_LANDSCAPE⟩ := own_sta hn11 (hw _ (List.mem_of_getElem? (i := 1) rfl)) (hw _ (List.mem_of_getElem? (i := 25) rfl))
  obtain ⟨hn12, hm12⟩ := and_e hm11
  have O_LANDSCAPE_portrait_h := hn12
  have O_LANDSCAPE_reversePortrait_h := hm12
  have O_PORTRAIT_portrait := own_fref O_PORTRAIT_portrait_h ev_PORTRAIT ev_ROTATION_0
  have O_ROTATION_270_ordinal := own_ord O_ROTATION_270_ordinal_h ev_ROTATION_270
  have O_ROTATION_0_ordinal := own_ord O_ROTATION_0_ordinal_h ev_ROTATION_0
  have O_PORTRAIT_reversePortrait := own_fref O_PORTRAIT_reversePortrait_h ev_PORTRAIT ev_ROTATION_180
  have O_ROTATION_180_ordinal := own_ord O_ROTATION_180_ordinal_h ev_ROTATION_180
  have O_ROTATION_90_ordinal := own_ord O_ROTATION_90_ordinal_h ev_ROTATION_90
  have O_LANDSCAPE_portrait := own_fref O_LANDSCAPE_portrait_h ev_LANDSCAPE ev_ROTATION_90
  have O_LANDSCAPE_reversePortrait := own_fref O_LANDSCAPE_reversePortrait_h ev_LANDSCAPE ev_ROTATION_270
  obtain ⟨n, o, h1, h2, h3, _, L, rfl, ⟨rfl, N⟩, hq⟩ := rm_law l s _ hw p1 p2 w_PORTRAIT w_ROTATION_270 w_ROTATION_0 w_ROTATION_180 w_ROTATION_90 w_LANDSCAPE s.heap s.heap.size (Nat.le_refl _) S_PORTRAIT E_PORTRAIT S_ROTATION_270 E_ROTATION_270 S_ROTATION_0 E_ROTATION_0 S_ROTATION_180 E_ROTATION_180 S_ROTATION_90 E_ROTATION_90 S_LANDSCAPE E_LANDSCAPE O_PORTRAIT_portrait O_PORTRAIT_reversePortrait O_LANDSCAPE_portrait O_LANDSCAPE_reversePortrait (own_ne O_ROTATION_270_ordinal O_ROTATION_0_ordinal (by decide)) (own_ne O_ROTATION_270_ordinal O_ROTATION_180_ordinal (by decide)) (own_ne O_ROTATION_270_ordinal O_ROTATION_90_ordinal (by decide)) (own_ne O_ROTATION_0_ordinal O_ROTATION_180_ordinal (by decide)) (own_ne O_ROTATION_0_ordinal O_ROTATION_90_ordinal (by decide)) (own_ne O_ROTATION_180_ordinal O_ROTATION_90_ordinal (by decide)) p e ha hc hk s m _ below hf ((Spec.applies_iff_loose hf).mp happ).1 ⟨rfl, State.Warmed39.refl s, rfl⟩ trivial
  refine ⟨n, _, h1, h2, h3, hpost _ _ _ _ _ _ ⟨Cond.after_iff.mpr rfl, Cond.after_iff.mpr (eq_i res_at (Term.int_eval (1)) rfl), trivial⟩ ⟨hq.1, hq.2.1, (hq.2.2.sift fun y hy => Or.inr (N y hy)).mono (by decide) (by decide)⟩⟩
theorem main_1_1 : Claimed_1_1 := comes_1 fun _ _ _ _ _ _ h hF => ⟨h.1, hF⟩
theorem main_1_2 : Claimed_1_2 := comes_1 fun _ _ _ _ _ _ h hF => ⟨h.2.1, hF⟩
end Jvm.Pilot.@@N@@
namespace Jvm.Pilot.@@N@@
open Jvm Jvm.ClassFile Sem Op Lib Jvm.Free Jvm.Stand Jvm.Pilot.@@N@@.Jvm.D
/-! MADE BY PROGRAM (witnessworld.py) out of the Statement's table words and the real class files: 13 classes; the members and pool entries that the words name. The judged class is class 1, her method 2. -/
namespace start1
open Jvm.ClassFile
def u (s : String) : CpInfo := .utf8 (stringToUtf16 s)
/-- a pool by its gaps: so many unusable entries, then the entry; so many at the end -/
def gap : Nat → List CpInfo → List CpInfo
  | 0, r => r
  | n + 1, r => .unusable :: gap n r
def poolList (es : List (Nat × CpInfo)) (last : Nat) : List CpInfo := es.foldr (fun e r => gap e.1 (e.2 :: r)) (gap last [])
def pool (es : List (Nat × CpInfo)) (last : Nat) : Array CpInfo := ⟨poolList es last⟩
def fileOf (pool : Array CpInfo) (this : Nat) (attrs : Array Attribute := #[]) (ms : Array MethodInfo := #[]) (fl : Nat := 33) (sup : Nat := 0) (ifs : Array Nat := #[]) (fds : Array FieldInfo := #[]) : ClassFile where
  minorVersion := 0
  majorVersion := 65
  constantPool := pool
  accessFlags := fl
  thisClass := this
  superClass := sup
  interfaces := ifs
  fields := fds
  methods := ms
  attributes := attrs
def plain (name : String) (sup : Option ClassId) : Class where
  name := name
  kind := .ordinary
  loader := none
  accessFlags := 33
  super := sup
  interfaces := #[]
  cf := none
  fields := #[]
  methods := #[]
  instanceTypes := #[]
  staticTypes := #[]
  resolved := #[]
  callSites := []
  init := .initialized
  statics := none
  mirror := none

def pool0 : Array CpInfo := pool [(5, u "<init>"), (0, u "()V"), (1, .class_ 10), (1, u "java/lang/Object")] 113

def k0m0 : Method := { name := "<init>", desc := "()V", sig := { parameters := [], returnType := none }, accessFlags := 1, code := none }
/-- java/lang/Object -/
def k0 : Class := { plain "java/lang/Object" none with
  accessFlags := 33
  interfaces := #[]
  cf := some (fileOf pool0 8 #[] #[{ accessFlags := 1, nameIndex := 5, descriptorIndex := 6, attributes := #[] }] 33 0 #[] #[])
  fields := #[]
  methods := #[k0m0]
  instanceTypes := #[]
  staticTypes := #[]
  resolved := Array.replicate 124 none
  statics := none }

def pool1 : Array CpInfo := pool [(2, .class_ 4), (1, u "java/lang/Object"), (0, u "<init>"), (0, u "()V"), (0, .fieldref 8 9), (0, .class_ 10), (0, .nameAndType 11 12), (0, u "com/example/reorient/reorient/model/Rotation"), (0, u "ROTATION_0"), (0, u "Lcom/example/reorient/reorient/model/Rotation;"), (0, .fieldref 8 14), (0, .nameAndType 15 12), (0, u "ROTATION_90"), (0, .fieldref 8 17), (0, .nameAndType 18 12), (0, u "ROTATION_180"), (0, .fieldref 8 20), (0, .nameAndType 21 12), (0, u "ROTATION_270"), (0, .fieldref 23 24), (0, .class_ 25), (0, .nameAndType 26 27), (0, u "com/example/reorient/reorient/model/NaturalOrientation"), (0, u "PORTRAIT"), (0, u "Lcom/example/reorient/reorient/model/NaturalOrientation;"), (0, .fieldref 23 29), (0, .nameAndType 30 27), (0, u "LANDSCAPE"), (0, .methodref 32 33), (0, .class_ 34), (0, .nameAndType 35 36), (0, u "com/example/reorient/reorient/model/NaturalOrientationIsPortraitPinLaw"), (0, u "rotationOf"), (0, u "(I)Lcom/example/reorient/reorient/model/Rotation;"), (0, .methodref 23 38), (0, .nameAndType 39 40), (0, u "isPortrait"), (0, u "(Lcom/example/reorient/reorient/model/Rotation;)Z"), (3, u "law"), (0, u "(II)Z")] 2

def k1m0 : Method := { name := "<init>", desc := "()V", sig := { parameters := [], returnType := none }, accessFlags := 2, code := none }
def k1c1 : Code := { maxStack := 2, maxLocals := 1, code := method_2_code, exceptionTable := #[], attributes := #[] }
def k1m1 : Method := { name := "rotationOf", desc := "(I)Lcom/example/reorient/reorient/model/Rotation;", sig := { parameters := [.int], returnType := some (.object "com/example/reorient/reorient/model/Rotation") }, accessFlags := 10, code := some k1c1 }
def k1c2 : Code := { maxStack := 2, maxLocals := 8, code := code, exceptionTable := #[], attributes := #[] }
def k1m2 : Method := { name := "law", desc := "(II)Z", sig := { parameters := [.int, .int], returnType := some .boolean }, accessFlags := 9, code := some k1c2 }
/-- com/example/reorient/reorient/model/NaturalOrientationIsPortraitPinLaw -/
def k1 : Class := { plain "com/example/reorient/reorient/model/NaturalOrientationIsPortraitPinLaw" (some 0) with
  accessFlags := 49
  interfaces := #[]
  cf := some (fileOf pool1 32 #[] #[{ accessFlags := 2, nameIndex := 5, descriptorIndex := 6, attributes := #[] }, { accessFlags := 10, nameIndex := 35, descriptorIndex := 36, attributes := #[] }, { accessFlags := 9, nameIndex := 44, descriptorIndex := 45, attributes := #[] }] 49 2 #[] #[])
  fields := #[]
  methods := #[k1m0, k1m1, k1m2]
  instanceTypes := #[]
  staticTypes := #[]
  resolved := Array.replicate 48 none
  statics := none }

def pool2 : Array CpInfo := pool [(1, .class_ 2), (0, u "java/lang/constant/Constable"), (0, .class_ 4), (0, u "java/lang/Object")] 6

/-- java/lang/constant/Constable -/
def k2 : Class := { plain "java/lang/constant/Constable" (some 0) with
  accessFlags := 1537
  interfaces := #[]
  cf := some (fileOf pool2 1 #[] #[] 1537 3 #[] #[])
  fields := #[]
  methods := #[]
  instanceTypes := #[]
  staticTypes := #[]
  resolved := Array.replicate 11 none
  statics := none }

def pool3 : Array CpInfo := pool [(1, .class_ 2), (0, u "java/lang/Comparable"), (0, .class_ 4), (0, u "java/lang/Object")] 7

/-- java/lang/Comparable -/
def k3 : Class := { plain "java/lang/Comparable" (some 0) with
  accessFlags := 1537
  interfaces := #[]
  cf := some (fileOf pool3 1 #[] #[] 1537 3 #[] #[])
  fields := #[]
  methods := #[]
  instanceTypes := #[]
  staticTypes := #[]
  resolved := Array.replicate 12 none
  statics := none }

def pool4 : Array CpInfo := pool [(1, .class_ 2), (0, u "java/io/Serializable"), (0, .class_ 4), (0, u "java/lang/Object")] 2

/-- java/io/Serializable -/
def k4 : Class := { plain "java/io/Serializable" (some 0) with
  accessFlags := 1537
  interfaces := #[]
  cf := some (fileOf pool4 1 #[] #[] 1537 3 #[] #[])
  fields := #[]
  methods := #[]
  instanceTypes := #[]
  staticTypes := #[]
  resolved := Array.replicate 7 none
  statics := none }

def pool5 : Array CpInfo := pool [(2, .class_ 4), (1, u "java/lang/Enum"), (0, u "name"), (0, u "Ljava/lang/String;"), (2, u "ordinal"), (0, u "I"), (1, .class_ 14), (1, u "java/lang/Object"), (4, u "hash"), (86, .class_ 108), (1, u "java/lang/Enum$EnumDesc"), (2, .class_ 112), (0, u "java/lang/constant/Constable"), (0, .class_ 114), (0, u "java/lang/Comparable"), (0, .class_ 116), (0, u "java/io/Serializable")] 87

/-- java/lang/Enum -/
def k5 : Class := { plain "java/lang/Enum" (some 0) with
  accessFlags := 1057
  interfaces := #[2, 3, 4]
  cf := some (fileOf pool5 2 #[.nestMembers #[106]] #[] 1057 12 #[111, 113, 115] #[{ accessFlags := 18, nameIndex := 5, descriptorIndex := 6, attributes := #[] }, { accessFlags := 18, nameIndex := 9, descriptorIndex := 10, attributes := #[] }, { accessFlags := 2, nameIndex := 19, descriptorIndex := 10, attributes := #[] }])
  fields := #[{ name := "name", type := (.object "java/lang/String"), accessFlags := 18, slot := 0, constantValue := 0 }, { name := "ordinal", type := .int, accessFlags := 18, slot := 1, constantValue := 0 }, { name := "hash", type := .int, accessFlags := 2, slot := 2, constantValue := 0 }]
  methods := #[]
  instanceTypes := #[(.object "java/lang/String"), .int, .int]
  staticTypes := #[]
  resolved := Array.replicate 204 none
  statics := none }

def pool6 : Array CpInfo := pool [(1, .class_ 2), (0, u "com/example/reorient/reorient/model/NaturalOrientation"), (2, u "PORTRAIT"), (0, u "Lcom/example/reorient/reorient/model/NaturalOrientation;"), (2, u "LANDSCAPE"), (2, u "$VALUES"), (0, u "[Lcom/example/reorient/reorient/model/NaturalOrientation;"), (6, .class_ 22), (1, u "java/lang/Enum"), (6, .fieldref 1 30), (0, .nameAndType 31 32), (0, u "portrait"), (0, u "Lcom/example/reorient/reorient/model/Rotation;"), (2, u "landscape"), (0, .fieldref 1 37), (0, .nameAndType 38 32), (0, u "reversePortrait"), (2, u "reverseLandscape"), (41, u "isPortrait"), (0, u "(Lcom/example/reorient/reorient/model/Rotation;)Z")] 7

def k6c0 : Code := { maxStack := 2, maxLocals := 2, code := prog_50_method_8_code, exceptionTable := #[], attributes := #[] }
def k6m0 : Method := { name := "isPortrait", desc := "(Lcom/example/reorient/reorient/model/Rotation;)Z", sig := { parameters := [(.object "com/example/reorient/reorient/model/Rotation")], returnType := some .boolean }, accessFlags := 1, code := some k6c0 }
/-- com/example/reorient/reorient/model/NaturalOrientation -/
def k6 : Class := { plain "com/example/reorient/reorient/model/NaturalOrientation" (some 5) with
  accessFlags := 16433
  interfaces := #[]
  cf := some (fileOf pool6 1 #[] #[{ accessFlags := 1, nameIndex := 83, descriptorIndex := 84, attributes := #[] }] 16433 20 #[] #[{ accessFlags := 16409, nameIndex := 5, descriptorIndex := 6, attributes := #[] }, { accessFlags := 16409, nameIndex := 9, descriptorIndex := 6, attributes := #[] }, { accessFlags := 18, nameIndex := 31, descriptorIndex := 32, attributes := #[] }, { accessFlags := 18, nameIndex := 35, descriptorIndex := 32, attributes := #[] }, { accessFlags := 18, nameIndex := 38, descriptorIndex := 32, attributes := #[] }, { accessFlags := 18, nameIndex := 41, descriptorIndex := 32, attributes := #[] }, { accessFlags := 4122, nameIndex := 12, descriptorIndex := 13, attributes := #[] }])
  fields := #[{ name := "PORTRAIT", type := (.object "com/example/reorient/reorient/model/NaturalOrientation"), accessFlags := 16409, slot := 0, constantValue := 0 }, { name := "LANDSCAPE", type := (.object "com/example/reorient/reorient/model/NaturalOrientation"), accessFlags := 16409, slot := 1, constantValue := 0 }, { name := "portrait", type := (.object "com/example/reorient/reorient/model/Rotation"), accessFlags := 18, slot := 3, constantValue := 0 }, { name := "landscape", type := (.object "com/example/reorient/reorient/model/Rotation"), accessFlags := 18, slot := 4, constantValue := 0 }, { name := "reversePortrait", type := (.object "com/example/reorient/reorient/model/Rotation"), accessFlags := 18, slot := 5, constantValue := 0 }, { name := "reverseLandscape", type := (.object "com/example/reorient/reorient/model/Rotation"), accessFlags := 18, slot := 6, constantValue := 0 }, { name := "$VALUES", type := (.array (.object "com/example/reorient/reorient/model/NaturalOrientation")), accessFlags := 4122, slot := 2, constantValue := 0 }]
  methods := #[k6m0]
  instanceTypes := #[(.object "java/lang/String"), .int, .int, (.object "com/example/reorient/reorient/model/Rotation"), (.object "com/example/reorient/reorient/model/Rotation"), (.object "com/example/reorient/reorient/model/Rotation"), (.object "com/example/reorient/reorient/model/Rotation")]
  staticTypes := #[(.object "com/example/reorient/reorient/model/NaturalOrientation"), (.object "com/example/reorient/reorient/model/NaturalOrientation"), (.array (.object "com/example/reorient/reorient/model/NaturalOrientation"))]
  resolved := Array.replicate 92 none
  statics := some 0 }

def pool7 : Array CpInfo := pool [(1, .class_ 2), (0, u "com/example/reorient/reorient/model/Rotation"), (2, u "ROTATION_0"), (0, u "Lcom/example/reorient/reorient/model/Rotation;"), (2, u "ROTATION_90"), (2, u "ROTATION_180"), (2, u "ROTATION_270"), (2, u "$VALUES"), (0, u "[Lcom/example/reorient/reorient/model/Rotation;"), (6, .class_ 28), (1, u "java/lang/Enum"), (8, u "number"), (0, u "I")] 77

/-- com/example/reorient/reorient/model/Rotation -/
def k7 : Class := { plain "com/example/reorient/reorient/model/Rotation" (some 5) with
  accessFlags := 16433
  interfaces := #[]
  cf := some (fileOf pool7 1 #[] #[] 16433 26 #[] #[{ accessFlags := 16409, nameIndex := 5, descriptorIndex := 6, attributes := #[] }, { accessFlags := 16409, nameIndex := 9, descriptorIndex := 6, attributes := #[] }, { accessFlags := 16409, nameIndex := 12, descriptorIndex := 6, attributes := #[] }, { accessFlags := 16409, nameIndex := 15, descriptorIndex := 6, attributes := #[] }, { accessFlags := 18, nameIndex := 37, descriptorIndex := 38, attributes := #[] }, { accessFlags := 4122, nameIndex := 18, descriptorIndex := 19, attributes := #[] }])
  fields := #[{ name := "ROTATION_0", type := (.object "com/example/reorient/reorient/model/Rotation"), accessFlags := 16409, slot := 0, constantValue := 0 }, { name := "ROTATION_90", type := (.object "com/example/reorient/reorient/model/Rotation"), accessFlags := 16409, slot := 1, constantValue := 0 }, { name := "ROTATION_180", type := (.object "com/example/reorient/reorient/model/Rotation"), accessFlags := 16409, slot := 2, constantValue := 0 }, { name := "ROTATION_270", type := (.object "com/example/reorient/reorient/model/Rotation"), accessFlags := 16409, slot := 3, constantValue := 0 }, { name := "number", type := .int, accessFlags := 18, slot := 3, constantValue := 0 }, { name := "$VALUES", type := (.array (.object "com/example/reorient/reorient/model/Rotation")), accessFlags := 4122, slot := 4, constantValue := 0 }]
  methods := #[]
  instanceTypes := #[(.object "java/lang/String"), .int, .int, .int]
  staticTypes := #[(.object "com/example/reorient/reorient/model/Rotation"), (.object "com/example/reorient/reorient/model/Rotation"), (.object "com/example/reorient/reorient/model/Rotation"), (.object "com/example/reorient/reorient/model/Rotation"), (.array (.object "com/example/reorient/reorient/model/Rotation"))]
  resolved := Array.replicate 116 none
  statics := some 1 }

def pool8 : Array CpInfo := pool [(1, u "java/lang/Cloneable"), (0, .class_ 1), (0, u "java/lang/Object"), (0, .class_ 3)] 3

/-- java/lang/Cloneable -/
def k8 : Class := { plain "java/lang/Cloneable" (some 0) with
  accessFlags := 1537
  interfaces := #[]
  cf := some (fileOf pool8 2 #[] #[] 1537 4 #[] #[])
  fields := #[]
  methods := #[]
  instanceTypes := #[]
  staticTypes := #[]
  resolved := Array.replicate 8 none
  statics := none }

/-- the primitive byte -/
def k9 : Class := { plain "byte" none with kind := .primitive 'B', accessFlags := 0x411 }
/-- [B -/
def k10 : Class := { plain "[B" (some 0) with kind := .array 9 .byte, interfaces := #[8, 4], accessFlags := 1041 }

/-- the primitive int -/
def k11 : Class := { plain "int" none with kind := .primitive 'I', accessFlags := 0x411 }
/-- [I -/
def k12 : Class := { plain "[I" (some 0) with kind := .array 11 .int, interfaces := #[8, 4], accessFlags := 1041 }

def heap : Heap := #[{ cls := 6, slots := #[.ref 2, .ref 7, .null], vm := .statics 6 },
  { cls := 7, slots := #[.ref 4, .ref 6, .ref 5, .ref 3, .null], vm := .statics 7 },
  { cls := 6, slots := #[.null, .int 0, .int 0, .ref 4, .null, .ref 5, .null], vm := .none },
  { cls := 7, slots := #[.null, .int 3, .int 0, .int 0], vm := .none },
  { cls := 7, slots := #[.null, .int 0, .int 0, .int 0], vm := .none },
  { cls := 7, slots := #[.null, .int 2, .int 0, .int 0], vm := .none },
  { cls := 7, slots := #[.null, .int 1, .int 0, .int 0], vm := .none },
  { cls := 6, slots := #[.null, .int 0, .int 0, .ref 6, .null, .ref 3, .null], vm := .none }]
def classes : Array Class := #[k0, k1, k2, k3, k4, k5, k6, k7, k8, k9, k10, k11, k12]
def interned : List (Array UInt16 × Addr) := []
def slotsUsed : Nat := 38
def theMethod : MethodId := ⟨1, 2⟩
def args0 : Array Value := #[.int 5, .int 1]
def aboutOver (below : List Frame) : State where
  vm := { classes := classes, interned := interned.toArray }
  heap := heap
  slotsUsed := slotsUsed
  threads := #[{ frames := .invoking theMethod args0 :: below }]
def below0 : List Frame := [.native { method := ⟨0, 0⟩, args := #[] }]
def about1 : State := aboutOver below0
def p0 : Program := .bare "" "" ""
def e0 : Env := launch0.env 0 0 0
theorem w_frames : about1.frames = Frame.invoking theMethod args0 :: below0 := rfl
set_option maxRecDepth 65536 in
theorem w_args : argsFit about1.vm theMethod args0 = true := by decide +kernel
set_option maxRecDepth 65536 in
theorem w_heap : heapFits about1 = true := by decide +kernel
set_option maxRecDepth 65536 in
theorem w_runnable : about1.curStatus? = some .runnable := by decide +kernel
set_option maxRecDepth 65536 in
theorem w_alone : about1.alone = true := by decide +kernel
set_option maxRecDepth 65536 in
theorem w_named : about1.methodNamed? x = some theMethod := by decide +kernel
set_option maxRecDepth 65536 in
theorem w_hears : about1.hears theMethod below0 = true := by decide +kernel
set_option maxRecDepth 65536 in
theorem w_ripe : about1.ripe theMethod args0 below0 = true := by decide +kernel
theorem w_running : about1.status = .running := rfl
set_option maxRecDepth 65536 in
theorem w_room : about1.hasRoom e0.platform room_1 = true :=
  launch0.hasRoom_least _ room_1 (by decide +kernel) (by decide +kernel) (by decide +kernel) (by decide +kernel) (by decide +kernel) (by decide +kernel)
theorem allAtoms_all (ts : List Jvm.Cond) (a : Array Jvm.Value) (st : Jvm.State) : (allAtoms ts).before a st = ts.all (fun c => c.before a st) := by
  induction ts with
  | nil => rfl
  | cons c t ih =>
    show (Jvm.Cond.and c (allAtoms t)).before a st = _
    rw [Jvm.Cond.before_and, ih, List.all_cons]
def words1 : List Jvm.Cond := Jvm.Cond.code x code maxLocals ret :: tables_1
/-- a 'code' word, met by the world's own term for the bytes: nothing is compared byte by byte -/
theorem code_word {y : MethodName} {bytes : ByteArray} {mx : Nat} {rt : Option FieldType} {a : Array Value} {s : State} {m : MethodId} {meth : Method} {c : Code} (h1 : s.methodNamed? y = some m) (h2 : s.vm.method? m = some meth) (h3 : meth.code = some c) (h4 : c.code = bytes)
    (h5 : (c.maxLocals == mx && c.exceptionTable.isEmpty && decide (c.maxStack ≤ mostOperands) && decide (meth.sig.returnType = rt) && !meth.locks && decide (parseMethodDescriptor y.desc = some meth.sig)) = true) : (Jvm.Cond.code y bytes mx rt).before a s = true := by
  simp only [Bool.and_eq_true, beq_iff_eq, Bool.not_eq_true', decide_eq_true_eq] at h5
  obtain ⟨⟨⟨⟨⟨g1, g2⟩, g3⟩, g4⟩, g5⟩, g6⟩ := h5
  simp [Cond.before, Cond.holds, Cond.value, h1, h2, h3, h4, g1, g2, g3, g4, g5, g6]
def isCode : Jvm.Cond → Bool
  | .code _ _ _ _ => true
  | _ => false
theorem all_split {L : List Jvm.Cond} {P : Jvm.Cond → Bool} (h1 : L.all (fun c => isCode c || P c) = true) (h2 : ∀ c ∈ L.filter isCode, P c = true) : L.all P = true := by
  refine List.all_eq_true.mpr fun c hc => ?_
  have h := List.all_eq_true.mp h1 c hc
  rcases Bool.eq_false_or_eq_true (isCode c) with hi | hi
  · exact h2 c (List.mem_filter.mpr ⟨hc, hi⟩)
  · simpa [hi] using h
set_option maxRecDepth 65536 in
theorem w_c0 : (Jvm.Cond.code x code maxLocals ret).before args0 about1 = true := code_word (m := ⟨1, 2⟩) (meth := k1m2) (c := k1c2) (by decide +kernel) rfl rfl rfl (by decide +kernel)
set_option maxRecDepth 65536 in
theorem w_c1 : (Jvm.Cond.code ({ cls := "com/example/reorient/reorient/model/NaturalOrientationIsPortraitPinLaw", name := "rotationOf", desc := "(I)Lcom/example/reorient/reorient/model/Rotation;" } : Jvm.MethodName) method_2_code (1 : Nat) (Option.some (Jvm.ClassFile.FieldType.object "com/example/reorient/reorient/model/Rotation"))).before args0 about1 = true := code_word (m := ⟨1, 1⟩) (meth := k1m1) (c := k1c1) (by decide +kernel) rfl rfl rfl (by decide +kernel)
set_option maxRecDepth 65536 in
theorem w_c2 : (Jvm.Cond.code ({ cls := "com/example/reorient/reorient/model/NaturalOrientation", name := "isPortrait", desc := "(Lcom/example/reorient/reorient/model/Rotation;)Z" } : Jvm.MethodName) prog_50_method_8_code (2 : Nat) (Option.some Jvm.ClassFile.FieldType.boolean)).before args0 about1 = true := code_word (m := ⟨6, 0⟩) (meth := k6m0) (c := k6c0) (by decide +kernel) rfl rfl rfl (by decide +kernel)
def codes1 : List Jvm.Cond := [Jvm.Cond.code x code maxLocals ret, Jvm.Cond.code ({ cls := "com/example/reorient/reorient/model/NaturalOrientationIsPortraitPinLaw", name := "rotationOf", desc := "(I)Lcom/example/reorient/reorient/model/Rotation;" } : Jvm.MethodName) method_2_code (1 : Nat) (Option.some (Jvm.ClassFile.FieldType.object "com/example/reorient/reorient/model/Rotation")), Jvm.Cond.code ({ cls := "com/example/reorient/reorient/model/NaturalOrientation", name := "isPortrait", desc := "(Lcom/example/reorient/reorient/model/Rotation;)Z" } : Jvm.MethodName) prog_50_method_8_code (2 : Nat) (Option.some Jvm.ClassFile.FieldType.boolean)]
set_option maxRecDepth 65536 in
theorem codes_eq : words1.filter isCode = codes1 := rfl
theorem w_codes : ∀ c ∈ words1.filter isCode, c.before args0 about1 = true := by
  rw [codes_eq]
  intro c hc
  simp only [codes1, List.mem_cons, List.not_mem_nil, or_false] at hc
  rcases hc with rfl | rfl | rfl
  · exact w_c0
  · exact w_c1
  · exact w_c2
set_option maxRecDepth 65536 in
theorem w_t1 : (words1.take 24).all (fun c => isCode c || c.before args0 about1) = true := by decide +kernel
set_option maxRecDepth 65536 in
theorem w_t2 : (words1.drop 24).all (fun c => isCode c || c.before args0 about1) = true := by decide +kernel
theorem w_tables : (allAtoms (Jvm.Cond.code x code maxLocals ret :: tables_1)).before args0 about1 = true := by
  rw [allAtoms_all]
  show words1.all (fun c => c.before args0 about1) = true
  refine all_split ?_ w_codes
  rw [← List.take_append_drop 24 words1, List.all_append, w_t1, w_t2]
  rfl
set_option maxRecDepth 65536 in
theorem w_case : (Jvm.Cond.and given_1 narrow_1).before args0 about1 = true := by decide +kernel
theorem w_applies : (headSpec (Jvm.Cond.code x code maxLocals ret :: tables_1) room_1).applies x e0.platform about1 = true :=
  (Spec.applies_iff w_frames).mpr ⟨w_running, w_runnable, w_alone, w_named, w_hears, w_ripe, w_room, w_tables⟩
theorem atStart : AtStart classFile x code maxLocals ret World_1 tables_1 room_1 Calls_1 rest_1 Pre_1 launch0 p0 e0 about1 theMethod args0 below0 :=
  ⟨lists_1, trivial, launch0.admits_env _ _ _, launch0.least_env, fairChoices_fair.cas, fairChoices_fair.clock, w_frames, w_args, w_heap, w_applies, trivial, trivial, w_case⟩
end start1
theorem witness_1 : WitnessClaimed_1 := ⟨start1.p0, start1.e0, start1.about1, start1.theMethod, start1.args0, start1.below0, start1.atStart⟩
end Jvm.Pilot.@@N@@
