import JvmDerived
import JvmDerived.Pilot.@@N@@Statement
import JvmDerived.Pilot.@@N@@Code
set_option linter.unusedVariables false
set_option linter.unusedSimpArgs false
namespace Jvm.Pilot.@@N@@
open Jvm Jvm.ClassFile Sem Op Lib Jvm.Free Jvm.Stand Jvm.LawKit Jvm.RoadKit Bundle Jvm.Pilot.@@N@@.Jvm.D
section Own
variable {p : Program} {l : Launch} {e : Env} {R : Room} {s : State} {m : MethodId} {args : Array Value} {below : List Frame} {meth : Method} {c : Code} {T : State} {locs : List Loc} {cells slots : Nat}
/-- from U the run comes back to 'below' and its end is as P says -/
def Go (p : Program) (e : Env) (below : List Frame) (U : State) (P : Outcome → State → Prop) : Prop := ∃ s₂ o, Steps p.tables e below U s₂ ∧ s₂.status = .running ∧ Ended s₂ below o ∧ P o s₂
theorem Go.mp {U U' : State} {P : Outcome → State → Prop} (h : ∀ t, Steps p.tables e below U' t → Steps p.tables e below U t) (k : Go p e below U' P) : Go p e below U P := by
  obtain ⟨a, b, c, d⟩ := k; exact ⟨a, b, h _ c, d⟩
/-- how a body ends -/
def FinE (s : State) (kc ks : Nat) (Q : Option Value → Heap → List Loc → Prop) (o : Outcome) (t : State) : Prop := ∃ v L, o = .returned v ∧ Q v t.heap L ∧ FrameEnd s o t L kc ks
/-- a body's contract -/
abbrev Ctr (l : Launch) (y : MethodName) (bytes : ByteArray) (maxL : Nat) (ret : Option FieldType) (ws : List Jvm.Cond) (rm : Room) (Z : State) (as' : Array Value) (h : Heap) (Q : Option Value → Heap → List Loc → Prop) : Prop :=
  MetFree l y (head1 (Jvm.Cond.code y bytes maxL ret :: ws) rm) (fun a U => a = as' ∧ Z.Warmed39 U.vm ∧ U.heap = h) (fun _ _ _ _ _ => True) (fun _ U o U' => ∃ v L, o = .returned v ∧ Q v U'.heap L ∧ FrameEnd U o U' L rm.cells rm.slots)
theorem own_enter {y : MethodName} {bytes : ByteArray} {maxL : Nat} {ret : Option FieldType} {ws : List Jvm.Cond} {rm : Room} {Z : State} {as' : Array Value} {h : Heap} {Q : Option Value → Heap → List Loc → Prop} (hpn : plainName y.cls = true)
    (body : ∀ (p : Program) (e : Env) (s : State) (m : MethodId) (below : List Frame) (meth : Method) (c : Code) (s₁ : State), p.tables.exec = Jvm.exec → c.code = bytes → c.maxLocals = maxL → s.vm.findClass y.cls = some m.cls → meth.name = y.name → meth.sig.returnType = ret → meth.locks = false → Z.Warmed39 s.vm → Stand p l e rm s m as' below meth c s₁ [] 0 0 → s₁.heap = h →
      Go p e below (s₁.setTop (entryFrame m as' maxL)) (FinE s rm.cells rm.slots Q)) : Ctr l y bytes maxL ret ws rm Z as' h Q := by
  refine MetFree.of_bodySF (plainFor_of_name hpn) hisR ?_
  intro p e s m args below meth c s₁ Bd hml0 hP hK
  obtain ⟨rfl, hZ, hh⟩ := hP
  exact body p e s m below meth c s₁ Bd.exec Bd.bytes hml0 (findClass_of_methodNamed Bd.named) (name_of_methodNamed Bd.named Bd.method).1 Bd.returns Bd.notSynchronized hZ (Stand.of_body Bd) (by rw [← hh, Bd.state]; rfl)
theorem own_retN (X : Stand p l e R s m args below meth c T locs cells slots) (hx : p.tables.exec = Jvm.exec) {t : FieldType} (hret : meth.sig.returnType = some t) (hlk : meth.locks = false) (ht : t = .boolean ∨ t = .byte ∨ t = .char ∨ t = .short) {kc ks : Nat} {Q : Option Value → Heap → List Loc → Prop} {pc : Nat} {Ls : Array Slot} {z : Int32} {rest : List Value}
    (hd : decode c.code pc = .ok (.ireturn, 1)) (hk : cells ≤ kc) (hn : slots ≤ ks) (hq : Q (some (.int (nar t z))) T.heap locs) : Go p e below (T.setTop (mkF m pc Ls (.int z :: rest))) (FinE s kc ks Q) := by
  obtain ⟨fs, hr, hrun, hended, hW, hsame⟩ := X.leave (v := some (.int (nar t z))) (fun h => by rw [hret] at h; cases h) hlk
  exact ⟨_, _, retN X hx hret ht hd hr, hrun, hended, _, _, rfl, hq, ⟨_, rfl⟩, hW, hsame.mono hk hn⟩
theorem own_retZ (X : Stand p l e R s m args below meth c T locs cells slots) (hx : p.tables.exec = Jvm.exec) (hret : meth.sig.returnType = some .boolean) (hlk : meth.locks = false) {kc ks : Nat} {Q : Option Value → Heap → List Loc → Prop} {pc : Nat} {Ls : Array Slot} {z : Int32} {rest : List Value}
    (hd : decode c.code pc = .ok (.ireturn, 1)) (hk : cells ≤ kc) (hn : slots ≤ ks) (hz : z &&& 1 = z) (hq : Q (some (.int z)) T.heap locs) : Go p e below (T.setTop (mkF m pc Ls (.int z :: rest))) (FinE s kc ks Q) :=
  own_retN X hx hret hlk (Or.inl rfl) hd hk hn (by show Q (some (.int (z &&& 1))) T.heap locs; rw [hz]; exact hq)
theorem own_retW (X : Stand p l e R s m args below meth c T locs cells slots) (hx : p.tables.exec = Jvm.exec) {t : FieldType} {w : Value} {i : Instr} (hret : meth.sig.returnType = some t) (hlk : meth.locks = false) (hw : narrow t w = w)
    (hi : (i = .ireturn ∧ (t = .int ∨ t = .boolean ∨ t = .byte ∨ t = .char ∨ t = .short) ∧ ∃ z, w = .int z) ∨ (i = .lreturn ∧ t = .long ∧ ∃ z, w = .long z) ∨ (i = .dreturn ∧ t = .double ∧ ∃ z, w = .double z) ∨ (i = .freturn ∧ t = .float ∧ ∃ z, w = .float z) ∨ (i = .areturn ∧ t.isReference = true ∧ w.isRef = true))
    {kc ks : Nat} {Q : Option Value → Heap → List Loc → Prop} {pc : Nat} {Ls : Array Slot} {rest : List Value}
    (hd : decode c.code pc = .ok (i, 1)) (hk : cells ≤ kc) (hn : slots ≤ ks) (hq : Q (some w) T.heap locs) : Go p e below (T.setTop (mkF m pc Ls (w :: rest))) (FinE s kc ks Q) := by
  obtain ⟨fs, hr, hrun, hended, hW, hsame⟩ := X.leave (v := some w) (fun h => by rw [hret] at h; cases h) hlk
  exact ⟨_, _, retOut X hx hret hw hi hd hr, hrun, hended, _, _, rfl, hq, ⟨_, rfl⟩, hW, hsame.mono hk hn⟩
theorem own_retI (X : Stand p l e R s m args below meth c T locs cells slots) (hx : p.tables.exec = Jvm.exec) (hret : meth.sig.returnType = some .int) (hlk : meth.locks = false) {kc ks : Nat} {Q : Option Value → Heap → List Loc → Prop} {pc : Nat} {Ls : Array Slot} {z : Int32} {rest : List Value}
    (hd : decode c.code pc = .ok (.ireturn, 1)) (hk : cells ≤ kc) (hn : slots ≤ ks) (hq : Q (some (.int z)) T.heap locs) : Go p e below (T.setTop (mkF m pc Ls (.int z :: rest))) (FinE s kc ks Q) :=
  own_retW X hx hret hlk rfl (Or.inl ⟨rfl, Or.inl rfl, _, rfl⟩) hd hk hn hq
theorem own_retA (X : Stand p l e R s m args below meth c T locs cells slots) (hx : p.tables.exec = Jvm.exec) {t : FieldType} (hret : meth.sig.returnType = some t) (hlk : meth.locks = false) (ht : t.isReference = true) {w : Value} (hw : w.isRef = true) {kc ks : Nat} {Q : Option Value → Heap → List Loc → Prop} {pc : Nat} {Ls : Array Slot} {rest : List Value}
    (hd : decode c.code pc = .ok (.areturn, 1)) (hk : cells ≤ kc) (hn : slots ≤ ks) (hq : Q (some w) T.heap locs) : Go p e below (T.setTop (mkF m pc Ls (w :: rest))) (FinE s kc ks Q) :=
  own_retW X hx hret hlk (by cases t <;> first | (cases ht; done) | (cases w <;> first | rfl | cases hw)) (Or.inr (Or.inr (Or.inr (Or.inr ⟨rfl, ht, hw⟩)))) hd hk hn hq
theorem own_retV (X : Stand p l e R s m args below meth c T locs cells slots) (hx : p.tables.exec = Jvm.exec) (hret : meth.sig.returnType = none) (hlk : meth.locks = false) {kc ks : Nat} {Q : Option Value → Heap → List Loc → Prop} {pc : Nat} {Ls : Array Slot}
    (hd : decode c.code pc = .ok (.return_, 1)) (hk : cells ≤ kc) (hn : slots ≤ ks) (hq : Q none T.heap locs) : Go p e below (T.setTop (mkF m pc Ls [])) (FinE s kc ks Q) := by
  obtain ⟨fs, hr, hrun, hended, hW, hsame⟩ := X.leave (v := none) (fun _ => rfl) hlk
  exact ⟨_, _, X.returnOut hx hret hd hr, hrun, hended, _, _, rfl, hq, ⟨_, rfl⟩, hW, hsame.mono hk hn⟩
/-- the wide end (behind a cold ldc of a String) -/
def FinW (s : State) (kc ks : Nat) (Q : Option Value → Heap → List Loc → Prop) (o : Outcome) (t : State) : Prop := ∃ v L, o = .returned v ∧ Q v t.heap L ∧ ReturnedEndW s o t L kc ks
abbrev CtrW (l : Launch) (y : MethodName) (bytes : ByteArray) (maxL : Nat) (ret : Option FieldType) (ws : List Jvm.Cond) (rm : Room) (Z : State) (as' : Array Value) (h : Heap) (Q : Option Value → Heap → List Loc → Prop) : Prop :=
  MetFree l y (head1 (Jvm.Cond.code y bytes maxL ret :: ws) rm) (fun a U => a = as' ∧ Z.Warmed39 U.vm ∧ U.heap = h) (fun _ _ _ _ _ => True) (fun _ U o U' => ∃ v L, o = .returned v ∧ Q v U'.heap L ∧ ReturnedEndW U o U' L rm.cells rm.slots)
theorem own_enterW {y : MethodName} {bytes : ByteArray} {maxL : Nat} {ret : Option FieldType} {ws : List Jvm.Cond} {rm : Room} {Z : State} {as' : Array Value} {h : Heap} {Q : Option Value → Heap → List Loc → Prop} (hpn : plainName y.cls = true)
    (body : ∀ (p : Program) (e : Env) (s : State) (m : MethodId) (below : List Frame) (meth : Method) (c : Code) (s₁ : State), p.tables.exec = Jvm.exec → c.code = bytes → c.maxLocals = maxL → s.vm.findClass y.cls = some m.cls → meth.name = y.name → meth.sig.returnType = ret → meth.locks = false → Z.Warmed39 s.vm → Stand p l e rm s m as' below meth c s₁ [] 0 0 → s₁.heap = h →
      Go p e below (s₁.setTop (entryFrame m as' maxL)) (FinW s rm.cells rm.slots Q)) : CtrW l y bytes maxL ret ws rm Z as' h Q := by
  refine MetFree.of_bodySF (plainFor_of_name hpn) hisR ?_
  intro p e s m args below meth c s₁ Bd hml0 hP hK
  obtain ⟨rfl, hZ, hh⟩ := hP
  exact body p e s m below meth c s₁ Bd.exec Bd.bytes hml0 (findClass_of_methodNamed Bd.named) (name_of_methodNamed Bd.named Bd.method).1 Bd.returns Bd.notSynchronized hZ (Stand.of_body Bd) (by rw [← hh, Bd.state]; rfl)
theorem own_retZW {vm1 : Vm} {k1 : Nat} (X : Stand p l e R (s.setVm vm1) m args below meth c T locs cells slots) (hx : p.tables.exec = Jvm.exec) (hret : meth.sig.returnType = some .boolean) (hlk : meth.locks = false) (hS : s.Since vm1 k1) (hB : k1 ≤ T.heap.size) {kc ks : Nat} {Q : Option Value → Heap → List Loc → Prop} {pc : Nat} {Ls : Array Slot} {z : Int32} {rest : List Value}
    (hd : decode c.code pc = .ok (.ireturn, 1)) (hk : cells ≤ kc) (hn : slots ≤ ks) (hz : z &&& 1 = z) (hq : Q (some (.int z)) T.heap locs) : Go p e below (T.setTop (mkF m pc Ls (.int z :: rest))) (FinW s kc ks Q) := by
  obtain ⟨fs, hr, hrun, hended, h1, h2, h3, h4⟩ := X.leaveW hS hB (v := some (.int (nar .boolean z))) (fun h => by rw [hret] at h; cases h) hlk
  have e1 : nar .boolean z = z := hz
  exact ⟨_, _, retN X hx hret (Or.inl rfl) hd hr, hrun, hended, _, _, rfl, by rw [e1]; exact hq, h1, h2, h3, h4.mono hk hn⟩
section Calls
variable {Z : State} {a0 : Array Value} {h : Heap} {y : MethodName} {bytes : ByteArray} {maxL : Nat} {ret : Option FieldType} {rm : Room} {as' : Array Value} {Q : Option Value → Heap → List Loc → Prop} {own : String} {index : Nat} {pc : Nat} {Ls : Array Slot} {st argsL rest : List Value} {ps : List FieldType} {r : Option FieldType}
theorem own_callS (X : Stand p l e R s m args below meth c T locs cells slots) (hx : p.tables.exec = Jvm.exec) (hZ : Z.Warmed39 s.vm) (hown : s.vm.findClass own = some m.cls) (w1 : (Jvm.Cond.methodLink own index y).before a0 Z = true) (w2 : (Jvm.Cond.static y).before a0 Z = true) (w3 : (Jvm.Cond.initialized y.cls).before a0 Z = true) (w4 : (Jvm.Cond.code y bytes maxL ret).before a0 Z = true)
    (hy : y.cls ≠ "java/lang/invoke/MethodHandle" ∧ y.cls ≠ "java/lang/invoke/VarHandle") (hM : Ctr l y bytes maxL ret [] rm Z as' h Q) (eT : T.heap = h) (hpd : parseMethodDescriptor y.desc = some ⟨ps, r⟩) (hd : decode c.code pc = .ok (.invokestatic index, 3)) (hsize : Ls.size = c.maxLocals)
    (hlen : argsL.length = ps.length) (hst : st = argsL.reverse ++ rest) (has : argsL.toArray = as') {W : Nat} (hW : (rest.map fun v => v.category).sum ≤ W) (hf : rm.frames + 1 ≤ R.frames) (hl : W + (maxL + 11) + rm.locals ≤ R.locals) (hc : cells + rm.cells ≤ R.cells) (hs : slots + rm.slots ≤ R.slots) :
    ∃ v T' L, Stand p l e R s m args below meth c T' (locs ++ L) (cells + rm.cells) (slots + rm.slots) ∧ Q v T'.heap L ∧ ∀ target, Steps p.tables e below (T'.setTop (mkF m (pc + 3) Ls (v.toList ++ rest))) target → Steps p.tables e below (T.setTop (mkF m pc Ls st)) target := by
  obtain ⟨v, _, ⟨T', L', k', n'⟩, -, X', ⟨Lc, hQ, l1, y1, z1⟩, st'⟩ := Jvm.LawKit.callS X hx (y := y) hown (mvT hZ w1) (mvT hZ w2) (mvT hZ w3) (mvT hZ w4) hy (backOf (W := W) hM hZ w4 w3 hf hl) (g := mkF m pc Ls st) rfl hsize (argsL := argsL) (rest := rest) (lenOf hpd hlen) hst (by show 2 * 0 + _ ≤ _; omega) hd (fun _ _ => ⟨has, eT, hc, hs⟩)
  dsimp only [Pt.U, Pt.locs, Pt.cells, Pt.slots] at X' l1 y1 z1 st' hQ
  subst l1 y1 z1
  exact ⟨v, T', Lc, X', hQ, st'⟩
theorem own_callV {C : String} {b : Addr} (X : Stand p l e R s m args below meth c T locs cells slots) (hx : p.tables.exec = Jvm.exec) (hZ : Z.Warmed39 s.vm) (hown : s.vm.findClass own = some m.cls) (w1 : (Jvm.Cond.methodLink own index y).before a0 Z = true) (w2 : (Jvm.Cond.declares y).before a0 Z = true) (w3 : (Jvm.Cond.selects C y y).before a0 Z = true) (w4 : (Jvm.Cond.instanceMethod y).before a0 Z = true)
    (w5 : (Jvm.Cond.code y bytes maxL ret).before a0 Z = true) (w6 : (Jvm.Cond.initialized y.cls).before a0 Z = true) (hy : y.cls ≠ "java/lang/invoke/MethodHandle" ∧ y.cls ≠ "java/lang/invoke/VarHandle") (hM : Ctr l y bytes maxL ret [] rm Z as' h Q) (eT : T.heap = h) (E : Exa Z h b C) (hpd : parseMethodDescriptor y.desc = some ⟨ps, r⟩) (hd : decode c.code pc = .ok (.invokevirtual index, 3)) (hsize : Ls.size = c.maxLocals)
    (hlen : argsL.length = ps.length) (hst : st = argsL.reverse ++ .ref b :: rest) (has : (.ref b :: argsL).toArray = as') {W : Nat} (hW : (rest.map fun v => v.category).sum ≤ W) (hf : rm.frames + 1 ≤ R.frames) (hl : W + (maxL + 11) + rm.locals ≤ R.locals) (hc : cells + rm.cells ≤ R.cells) (hs : slots + rm.slots ≤ R.slots) :
    ∃ v T' L, Stand p l e R s m args below meth c T' (locs ++ L) (cells + rm.cells) (slots + rm.slots) ∧ Q v T'.heap L ∧ ∀ target, Steps p.tables e below (T'.setTop (mkF m (pc + 3) Ls (v.toList ++ rest))) target → Steps p.tables e below (T.setTop (mkF m pc Ls st)) target := by
  obtain ⟨cq, kq, qa, qb, qc⟩ := isOf hZ eT E
  obtain ⟨v, _, ⟨T', L', k', n'⟩, -, X', ⟨Lc, hQ, l1, y1, z1⟩, st'⟩ := X.virtualBack hx (y := y) (z := y) hown (mvT hZ w1) (mvT hZ w2) (notFace_of_selects (args := #[]) (mvT hZ w3)) (mvT hZ w3) (mvT hZ w4) hy (backOf (W := W) hM hZ w5 w6 hf hl) qa qc (g := mkF m pc Ls st) rfl hsize (Steps.refl _) (argsL := argsL) (rest := rest) (lenOf hpd hlen) hst (by show 2 * 0 + _ ≤ _; omega) hd (fun _ _ => ⟨has, eT, hc, hs⟩)
  dsimp only [Pt.U, Pt.locs, Pt.cells, Pt.slots] at X' l1 y1 z1 st' hQ
  subst l1 y1 z1
  exact ⟨v, T', Lc, X', hQ, fun t k => st'.trans k⟩
theorem own_callI {b : Addr} (X : Stand p l e R s m args below meth c T locs cells slots) (hx : p.tables.exec = Jvm.exec) (hZ : Z.Warmed39 s.vm) (hown : s.vm.findClass own = some m.cls) (w1 : (Jvm.Cond.methodLink own index y).before a0 Z = true) (w4 : (Jvm.Cond.instanceMethod y).before a0 Z = true)
    (w5 : (Jvm.Cond.code y bytes maxL none).before a0 Z = true) (w6 : (Jvm.Cond.initialized y.cls).before a0 Z = true) (hn : y.name = "<init>") (hy : y.cls ≠ "java/lang/invoke/MethodHandle" ∧ y.cls ≠ "java/lang/invoke/VarHandle") (hM : Ctr l y bytes maxL none [] rm Z as' h Q) (eT : T.heap = h) (hpd : parseMethodDescriptor y.desc = some ⟨ps, r⟩) (hd : decode c.code pc = .ok (.invokespecial index, 3)) (hsize : Ls.size = c.maxLocals)
    (hlen : argsL.length = ps.length) (hst : st = argsL.reverse ++ .ref b :: rest) (has : (.ref b :: argsL).toArray = as') {W : Nat} (hW : (rest.map fun v => v.category).sum ≤ W) (hf : rm.frames + 1 ≤ R.frames) (hl : W + (maxL + 11) + rm.locals ≤ R.locals) (hc : cells + rm.cells ≤ R.cells) (hs : slots + rm.slots ≤ R.slots) :
    ∃ v T' L, Stand p l e R s m args below meth c T' (locs ++ L) (cells + rm.cells) (slots + rm.slots) ∧ Q v T'.heap L ∧ ∀ target, Steps p.tables e below (T'.setTop (mkF m (pc + 3) Ls (v.toList ++ rest))) target → Steps p.tables e below (T.setTop (mkF m pc Ls st)) target := by
  obtain ⟨v, _, ⟨T', L', k', n'⟩, -, X', ⟨Lc, hQ, l1, y1, z1⟩, st'⟩ := X.specialBack hx (y := y) hn hown (mvT hZ w1) (mvT hZ w4) (mvT hZ w5) hy (backOf (W := W) hM hZ w5 w6 hf hl) (g := mkF m pc Ls st) rfl hsize (Steps.refl _) (a := b) (argsL := argsL) (rest := rest) (lenOf hpd hlen) hst (by show 2 * 0 + _ ≤ _; omega) hd (fun _ _ => ⟨has, eT, hc, hs⟩)
  dsimp only [Pt.U, Pt.locs, Pt.cells, Pt.slots] at X' l1 y1 z1 st' hQ
  subst l1 y1 z1
  exact ⟨v, T', Lc, X', hQ, fun t k => st'.trans k⟩
end Calls
section Facts
variable {Z : State} {h : Heap} {a b : Addr} {C F D K O n d : String} {v w : Value}
theorem own_fld_fun (F1 : Fld Z h a C n d v) (F2 : Fld Z h a C n d w) : v = w := by
  obtain ⟨c1, cf1, k1, i1, f1, h1, h2, h3, h4, h5, h6, h7⟩ := F1
  obtain ⟨c2, cf2, k2, i2, f2, g1, g2, g3, g4, g5, g6, g7⟩ := F2
  cases h1.symm.trans g1
  cases h2.symm.trans g2
  exact Option.some.inj (h7.symm.trans g7)
theorem own_ne {i j : Int32} (F1 : Fld Z h a C n d (.int i)) (F2 : Fld Z h b C n d (.int j)) (hij : i ≠ j) : a ≠ b := fun e => by
  subst e; exact hij (Value.int.inj (own_fld_fun F1 F2))
theorem own_sta {args : Array Value} (hn : (Jvm.Cond.exactly (.static C F D) K).value args Z none Z [] = some true) (hi : (Jvm.Cond.initialized C).before args Z = true) (hl : (Jvm.Cond.laysStatic C F D).before args Z = true) :
    ∃ w : Addr, Sta Z Z.heap C F D (.ref w) ∧ Exa Z Z.heap w K ∧ (Term.static C F D).eval args Z none [] Z = some (.ref w) := by
  obtain ⟨a', c', cell, k, e1, -⟩ := Cond.exactly_spec (Cond.before_iff.mpr hn)
  exact ⟨a', Sta.start e1 (Or.inr ⟨hi, hl⟩), Exa.start e1 hn, e1⟩
theorem own_ord {args : Array Value} {k : Int32} {t : Term} (hn : (Jvm.Cond.eq (.field t O n d) (.int k)).value args Z none Z [] = some true) (ev : t.eval args Z none [] Z = some (.ref a)) : Fld Z Z.heap a O n d (.int k) := by
  refine Fld.start ?_
  simp only [Jvm.Cond.value, Term.eval, ev] at hn
  cases hq : Z.fieldOf? a O n d with
  | none => simp [hq] at hn
  | some v => cases v <;> simp_all
theorem own_fref {args : Array Value} {t u : Term} (hn : (Jvm.Cond.eq (.field t O n d) u).value args Z none Z [] = some true) (ev : t.eval args Z none [] Z = some (.ref a)) (eu : u.eval args Z none [] Z = some (.ref b)) : Fld Z Z.heap a O n d (.ref b) := by
  refine Fld.start ?_
  simp only [Jvm.Cond.value, Term.eval, ev, eu] at hn
  cases hq : Z.fieldOf? a O n d with
  | none => simp [hq] at hn
  | some v => cases v <;> simp_all
theorem own_arrOf {args : Array Value} {t : Term} {ty : FieldType} (hn : (Jvm.Cond.arrayOf t ty).value args Z none Z [] = some true) : ∃ a c, t.eval args Z none [] Z = some (.ref a) ∧ Arr Z Z.heap a c ty := by
  cases hq : t.eval args Z none [] Z with
  | none => simp [Jvm.Cond.value, hq] at hn
  | some v =>
    cases v with
    | ref a => obtain ⟨c, A⟩ := Arr.start hq hn; exact ⟨a, c, rfl, A⟩
    | _ => simp [Jvm.Cond.value, hq] at hn
theorem own_arrLen {args : Array Value} {t : Term} {ty : FieldType} {cl : Cell} {k : Int32} (A : Arr Z Z.heap a cl ty) (ev : t.eval args Z none [] Z = some (.ref a)) (hn : (Jvm.Cond.eq (.length t) (.int k)).value args Z none Z [] = some true) : cl.slots.size < 2 ^ 31 ∧ cl.slots.size.toInt32 = k := by
  have hA : Z.arrayAt? a = some cl := A.fin (Vm.Alike.refl _)
  by_cases q : cl.slots.size < 2 ^ 31
  · refine ⟨q, ?_⟩
    have e : (Term.length t).eval args Z none [] Z = some (.int cl.slots.size.toInt32) := by simp [Term.eval, ev, hA, q]
    have e2 : (Term.int k).eval args Z none [] Z = some (.int k) := rfl
    simp only [Jvm.Cond.value, e, e2] at hn
    simpa using hn
  · have e : (Term.length t).eval args Z none [] Z = none := by simp [Term.eval, ev, hA, q]
    simp [Jvm.Cond.value, e] at hn
theorem own_arrElem {args : Array Value} {t u : Term} {ty : FieldType} {cl : Cell} {j : Int32} (A : Arr Z Z.heap a cl ty) (ev : t.eval args Z none [] Z = some (.ref a)) (eu : u.eval args Z none [] Z = some (.ref b)) (hj : ¬ j < 0) (hn : (Jvm.Cond.eq (.elem t (.int j)) u).value args Z none Z [] = some true) : cl.slots[j.toNatClampNeg]? = some (.ref b) := by
  have hA : Z.arrayAt? a = some cl := A.fin (Vm.Alike.refl _)
  have e : (Term.elem t (.int j)).eval args Z none [] Z = cl.slots[j.toNatClampNeg]? := by simp [Term.eval, ev, hA, hj]
  cases hq : cl.slots[j.toNatClampNeg]? with
  | none => rw [hq] at e; simp [Jvm.Cond.value, e] at hn
  | some v => rw [hq] at e; simp only [Jvm.Cond.value, e, eu] at hn; cases v <;> simp_all
theorem own_zand (x : Int32) : (0 : Int32) &&& x = (0 : Int32) := Int32.zero_and
theorem own_nin {x a : Addr} {ws : List Addr} (h : x ≠ a) (k : x ∉ ws) : x ∉ a :: ws := fun q => (List.mem_cons.mp q).elim h k
theorem own_plain {K : String} {ws : List Addr} (E : Exa Z h a K) (k : ∀ x ∈ ws, ∃ K', Exa Z h x K') : ∀ x ∈ a :: ws, ∃ K', Exa Z h x K' := fun x q => (List.mem_cons.mp q).elim (fun e => ⟨K, e ▸ E⟩) (k x)
theorem own_sta_keep {h' : Heap} {ws : List Addr} (S : Sta Z h C n d v) (K : Keep h h' ws) (hp : ∀ x ∈ ws, ∃ K', Exa Z h x K') : Sta Z h' C n d v := by
  obtain ⟨cf, i, k, f, st, cell, h1, h2, h3, h4, h5, h6, h7⟩ := S
  refine ⟨cf, i, k, f, st, cell, h1, h2, h3, h4, K.2.1 _ _ h5 fun q => ?_, h6, h7⟩
  obtain ⟨K', cl, kk, e1, -, -, e4, -⟩ := hp _ q
  cases h5.symm.trans e1
  rw [e4] at h6; cases h6
theorem own_mem1 {h0 : Heap} {ws : List Addr} {a : Addr} (q : a ∈ ws ∨ h0.size ≤ a) : ∀ x ∈ [a], x ∈ ws ∨ h0.size ≤ x := fun x hx => by cases List.mem_singleton.mp hx; exact q
theorem own_mem2 {h0 : Heap} {ws : List Addr} {a b : Addr} (q : a ∈ ws ∨ h0.size ≤ a) (r : b ∈ ws ∨ h0.size ≤ b) : ∀ x ∈ [a, b], x ∈ ws ∨ h0.size ≤ x := fun x hx => by
  rcases List.mem_cons.mp hx with rfl | hx
  · exact q
  · cases List.mem_singleton.mp hx; exact r
theorem own_fitR {ty : FieldType} (ht : ty.isReference = true) (hv : v.isRef = true) : fits ty v = true := by cases ty <;> first | (cases ht; done) | (cases v <;> first | rfl | cases hv)
theorem own_narR {ty : FieldType} (ht : ty.isReference = true) (hv : v.isRef = true) : narrow ty v = v := by cases ty <;> first | (cases ht; done) | (cases v <;> first | rfl | cases hv)
theorem own_bit {z : Int32} (hz : z = 0 ∨ z = 1) : z &&& 1 = z := by rcases hz with rfl | rfl <;> decide
theorem own_narZ {z : Int32} (hz : z = 0 ∨ z = 1) : narrow .boolean (.int z) = .int z := by rcases hz with rfl | rfl <;> rfl
theorem own_fitZ {z : Int32} (hz : z = 0 ∨ z = 1) : fits .boolean (.int z) = true := by rcases hz with rfl | rfl <;> rfl
theorem own_pad {dv : Value} (k : Nat) (i : Nat) : (List.replicate k dv).getD i dv = ([] : List Value).getD i dv := by
  simp only [List.getD, List.getElem?_replicate]
  split <;> rfl
end Facts
end Own
section G
variable {p : Program} {l : Launch} {e : Env} {R : Room} {s : State} {m : MethodId} {args : Array Value} {below : List Frame} {meth : Method} {c : Code} {T : State} {locs : List Loc} {cells slots : Nat} {pc : Nat} {Ls : Array Slot} {st : List Value} {P : Outcome → State → Prop}
theorem g_iloadN (X : Stand p l e R s m args below meth c T locs cells slots) (hx : p.tables.exec = Jvm.exec) {k : Fin 4} {v : Int32} (hd : decode c.code pc = .ok (.iload_n k, 1)) (hl : Ls[k.val]? = some (.val (.int v))) (hr : Go p e below (T.setTop (mkF m (pc + 1) Ls (.int v :: st))) P) : Go p e below (T.setTop (mkF m pc Ls st)) P := Go.mp (fun _ k => XS.iloadN X.here hx rfl hd hl k) hr
theorem g_iload (X : Stand p l e R s m args below meth c T locs cells slots) (hx : p.tables.exec = Jvm.exec) {k : Nat} {v : Int32} (hd : decode c.code pc = .ok (.iload k, 2)) (hl : Ls[k]? = some (.val (.int v))) (hr : Go p e below (T.setTop (mkF m (pc + 2) Ls (.int v :: st))) P) : Go p e below (T.setTop (mkF m pc Ls st)) P := Go.mp (fun _ k => XS.iload X.here hx rfl hd hl k) hr
theorem g_lloadN (X : Stand p l e R s m args below meth c T locs cells slots) (hx : p.tables.exec = Jvm.exec) {k : Fin 4} {v : Int64} (hd : decode c.code pc = .ok (.lload_n k, 1)) (hl : Ls[k.val]? = some (.val (.long v))) (hr : Go p e below (T.setTop (mkF m (pc + 1) Ls (.long v :: st))) P) : Go p e below (T.setTop (mkF m pc Ls st)) P := Go.mp (fun _ k => XS.lloadN X.here hx rfl hd hl k) hr
theorem g_lload (X : Stand p l e R s m args below meth c T locs cells slots) (hx : p.tables.exec = Jvm.exec) {k : Nat} {v : Int64} (hd : decode c.code pc = .ok (.lload k, 2)) (hl : Ls[k]? = some (.val (.long v))) (hr : Go p e below (T.setTop (mkF m (pc + 2) Ls (.long v :: st))) P) : Go p e below (T.setTop (mkF m pc Ls st)) P := Go.mp (fun _ k => XS.lload X.here hx rfl hd hl k) hr
theorem g_aloadN (X : Stand p l e R s m args below meth c T locs cells slots) (hx : p.tables.exec = Jvm.exec) {k : Fin 4} {v : Value} (hd : decode c.code pc = .ok (.aload_n k, 1)) (hl : Ls[k.val]? = some (.val v)) (hv : v.isRef = true) (hr : Go p e below (T.setTop (mkF m (pc + 1) Ls (v :: st))) P) : Go p e below (T.setTop (mkF m pc Ls st)) P := Go.mp (fun _ k => XS.aloadN X.here hx rfl hd hl hv k) hr
theorem g_aload (X : Stand p l e R s m args below meth c T locs cells slots) (hx : p.tables.exec = Jvm.exec) {k : Nat} {v : Value} (hd : decode c.code pc = .ok (.aload k, 2)) (hl : Ls[k]? = some (.val v)) (hv : v.isRef = true) (hr : Go p e below (T.setTop (mkF m (pc + 2) Ls (v :: st))) P) : Go p e below (T.setTop (mkF m pc Ls st)) P := Go.mp (fun _ k => XS.aload X.here hx rfl hd hl hv k) hr
theorem g_istoreN (X : Stand p l e R s m args below meth c T locs cells slots) (hx : p.tables.exec = Jvm.exec) {k : Fin 4} {v : Int32} (l' : Array Slot) (hd : decode c.code pc = .ok (.istore_n k, 1)) (hl : storeLocals Ls k.val (.int v) = some l') (hr : Go p e below (T.setTop (mkF m (pc + 1) l' st)) P) : Go p e below (T.setTop (mkF m pc Ls (.int v :: st))) P := Go.mp (fun _ k => XS.istoreN X.here hx rfl hd rfl hl k) hr
theorem g_istore (X : Stand p l e R s m args below meth c T locs cells slots) (hx : p.tables.exec = Jvm.exec) {k : Nat} {v : Int32} (l' : Array Slot) (hd : decode c.code pc = .ok (.istore k, 2)) (hl : storeLocals Ls k (.int v) = some l') (hr : Go p e below (T.setTop (mkF m (pc + 2) l' st)) P) : Go p e below (T.setTop (mkF m pc Ls (.int v :: st))) P := Go.mp (fun _ k => XS.istore X.here hx rfl hd rfl hl k) hr
theorem g_astoreN (X : Stand p l e R s m args below meth c T locs cells slots) (hx : p.tables.exec = Jvm.exec) {k : Fin 4} {v : Value} (l' : Array Slot) (hd : decode c.code pc = .ok (.astore_n k, 1)) (hv : v.isRef = true) (hl : storeLocals Ls k.val v = some l') (hr : Go p e below (T.setTop (mkF m (pc + 1) l' st)) P) : Go p e below (T.setTop (mkF m pc Ls (v :: st))) P := Go.mp (fun _ k => XS.astoreN X.here hx rfl hd rfl hv hl k) hr
theorem g_astore (X : Stand p l e R s m args below meth c T locs cells slots) (hx : p.tables.exec = Jvm.exec) {k : Nat} {v : Value} (l' : Array Slot) (hd : decode c.code pc = .ok (.astore k, 2)) (hv : v.isRef = true) (hl : storeLocals Ls k v = some l') (hr : Go p e below (T.setTop (mkF m (pc + 2) l' st)) P) : Go p e below (T.setTop (mkF m pc Ls (v :: st))) P := Go.mp (fun _ k => XS.astore X.here hx rfl hd rfl hv hl k) hr
theorem g_iconst (X : Stand p l e R s m args below meth c T locs cells slots) (hx : p.tables.exec = Jvm.exec) {i : Int} (v : Int32) (hd : decode c.code pc = .ok (.iconst i, 1)) (hv : Int32.ofInt i = v) (hr : Go p e below (T.setTop (mkF m (pc + 1) Ls (.int v :: st))) P) : Go p e below (T.setTop (mkF m pc Ls st)) P := Go.mp (fun _ k => XT.iconstV X.here hx rfl v hd hv k) hr
theorem g_bipush (X : Stand p l e R s m args below meth c T locs cells slots) (hx : p.tables.exec = Jvm.exec) {i : Int} (v : Int32) (hd : decode c.code pc = .ok (.bipush i, 2)) (hv : (Int8.ofInt i).toInt32 = v) (hr : Go p e below (T.setTop (mkF m (pc + 2) Ls (.int v :: st))) P) : Go p e below (T.setTop (mkF m pc Ls st)) P := Go.mp (fun _ k => XT.bipushV X.here hx rfl v hd hv k) hr
theorem g_sipush (X : Stand p l e R s m args below meth c T locs cells slots) (hx : p.tables.exec = Jvm.exec) {i : Int} (v : Int32) (hd : decode c.code pc = .ok (.sipush i, 3)) (hv : (Int16.ofInt i).toInt32 = v) (hr : Go p e below (T.setTop (mkF m (pc + 3) Ls (.int v :: st))) P) : Go p e below (T.setTop (mkF m pc Ls st)) P := Go.mp (fun _ k => XT.sipushV X.here hx rfl v hd hv k) hr
theorem g_null (X : Stand p l e R s m args below meth c T locs cells slots) (hx : p.tables.exec = Jvm.exec) (hd : decode c.code pc = .ok (.aconst_null, 1)) (hr : Go p e below (T.setTop (mkF m (pc + 1) Ls (.null :: st))) P) : Go p e below (T.setTop (mkF m pc Ls st)) P := Go.mp (fun _ k => XS.aconstNull X.here hx rfl hd k) hr
theorem g_iadd (X : Stand p l e R s m args below meth c T locs cells slots) (hx : p.tables.exec = Jvm.exec) {x y : Int32} (hd : decode c.code pc = .ok (.iadd, 1)) (hr : Go p e below (T.setTop (mkF m (pc + 1) Ls (.int (x + y) :: st))) P) : Go p e below (T.setTop (mkF m pc Ls (.int y :: .int x :: st))) P := Go.mp (fun _ k => XS.iadd X.here hx rfl hd rfl k) hr
theorem g_isub (X : Stand p l e R s m args below meth c T locs cells slots) (hx : p.tables.exec = Jvm.exec) {x y : Int32} (hd : decode c.code pc = .ok (.isub, 1)) (hr : Go p e below (T.setTop (mkF m (pc + 1) Ls (.int (x - y) :: st))) P) : Go p e below (T.setTop (mkF m pc Ls (.int y :: .int x :: st))) P := Go.mp (fun _ k => XS.isub X.here hx rfl hd rfl k) hr
theorem g_iand (X : Stand p l e R s m args below meth c T locs cells slots) (hx : p.tables.exec = Jvm.exec) {x y : Int32} (hd : decode c.code pc = .ok (.iand, 1)) (hr : Go p e below (T.setTop (mkF m (pc + 1) Ls (.int (x &&& y) :: st))) P) : Go p e below (T.setTop (mkF m pc Ls (.int y :: .int x :: st))) P := Go.mp (fun _ k => XS.iand X.here hx rfl hd rfl k) hr
theorem g_ior (X : Stand p l e R s m args below meth c T locs cells slots) (hx : p.tables.exec = Jvm.exec) {x y : Int32} (hd : decode c.code pc = .ok (.ior, 1)) (hr : Go p e below (T.setTop (mkF m (pc + 1) Ls (.int (x ||| y) :: st))) P) : Go p e below (T.setTop (mkF m pc Ls (.int y :: .int x :: st))) P := Go.mp (fun _ k => XS.ior X.here hx rfl hd rfl k) hr
theorem g_ixor (X : Stand p l e R s m args below meth c T locs cells slots) (hx : p.tables.exec = Jvm.exec) {x y : Int32} (hd : decode c.code pc = .ok (.ixor, 1)) (hr : Go p e below (T.setTop (mkF m (pc + 1) Ls (.int (x ^^^ y) :: st))) P) : Go p e below (T.setTop (mkF m pc Ls (.int y :: .int x :: st))) P := Go.mp (fun _ k => XS.ixor X.here hx rfl hd rfl k) hr
theorem g_dup (X : Stand p l e R s m args below meth c T locs cells slots) (hx : p.tables.exec = Jvm.exec) {x : Value} (hd : decode c.code pc = .ok (.dup, 1)) (hc : x.category = 1) (hr : Go p e below (T.setTop (mkF m (pc + 1) Ls (x :: x :: st))) P) : Go p e below (T.setTop (mkF m pc Ls (x :: st))) P := Go.mp (fun _ k => XS.dup X.here hx rfl hd rfl hc k) hr
theorem g_pop (X : Stand p l e R s m args below meth c T locs cells slots) (hx : p.tables.exec = Jvm.exec) {x : Value} (hd : decode c.code pc = .ok (.pop, 1)) (hc : x.category = 1) (hr : Go p e below (T.setTop (mkF m (pc + 1) Ls st)) P) : Go p e below (T.setTop (mkF m pc Ls (x :: st))) P := Go.mp (fun _ k => XS.pop X.here hx rfl hd rfl hc k) hr
theorem g_goto (X : Stand p l e R s m args below meth c T locs cells slots) (hx : p.tables.exec = Jvm.exec) {o : Int} (pc' : Nat) (hd : decode c.code pc = .ok (.goto o, 3)) (ho : 0 ≤ (pc : Int) + o) (hp : ((pc : Int) + o).toNat = pc') (hr : Go p e below (T.setTop (mkF m pc' Ls st)) P) : Go p e below (T.setTop (mkF m pc Ls st)) P := Go.mp (fun _ k => XS.goto X.here hx rfl (pc0 := pc) (pc' := pc') rfl hd ho hp k) hr
theorem g_ifYes (X : Stand p l e R s m args below meth c T locs cells slots) (hx : p.tables.exec = Jvm.exec) {cd : ClassFile.Cond} {x : Int32} {o : Int} (pc' : Nat) (hd : decode c.code pc = .ok (.ifCond cd o, 3)) (hc : ifCond.holds cd x = true) (ho : 0 ≤ (pc : Int) + o) (hp : ((pc : Int) + o).toNat = pc') (hr : Go p e below (T.setTop (mkF m pc' Ls st)) P) : Go p e below (T.setTop (mkF m pc Ls (.int x :: st))) P := Go.mp (fun _ k => XS.ifYes X.here hx rfl (pc0 := pc) (pc' := pc') rfl hd rfl hc ho hp k) hr
theorem g_ifNo (X : Stand p l e R s m args below meth c T locs cells slots) (hx : p.tables.exec = Jvm.exec) {cd : ClassFile.Cond} {x : Int32} {o : Int} (hd : decode c.code pc = .ok (.ifCond cd o, 3)) (hc : ifCond.holds cd x = false) (hr : Go p e below (T.setTop (mkF m (pc + 3) Ls st)) P) : Go p e below (T.setTop (mkF m pc Ls (.int x :: st))) P := Go.mp (fun _ k => XS.ifNo X.here hx rfl hd rfl hc k) hr
theorem g_icmpYes (X : Stand p l e R s m args below meth c T locs cells slots) (hx : p.tables.exec = Jvm.exec) {cd : ClassFile.Cond} {x y : Int32} {o : Int} (pc' : Nat) (hd : decode c.code pc = .ok (.if_icmp cd o, 3)) (hc : if_icmp.holds cd x y = true) (ho : 0 ≤ (pc : Int) + o) (hp : ((pc : Int) + o).toNat = pc') (hr : Go p e below (T.setTop (mkF m pc' Ls st)) P) : Go p e below (T.setTop (mkF m pc Ls (.int y :: .int x :: st))) P := Go.mp (fun _ k => XS.icmpYes X.here hx rfl (pc0 := pc) (pc' := pc') rfl hd rfl hc ho hp k) hr
theorem g_icmpNo (X : Stand p l e R s m args below meth c T locs cells slots) (hx : p.tables.exec = Jvm.exec) {cd : ClassFile.Cond} {x y : Int32} {o : Int} (hd : decode c.code pc = .ok (.if_icmp cd o, 3)) (hc : if_icmp.holds cd x y = false) (hr : Go p e below (T.setTop (mkF m (pc + 3) Ls st)) P) : Go p e below (T.setTop (mkF m pc Ls (.int y :: .int x :: st))) P := Go.mp (fun _ k => XS.icmpNo X.here hx rfl hd rfl hc k) hr
theorem g_acmp (X : Stand p l e R s m args below meth c T locs cells slots) (hx : p.tables.exec = Jvm.exec) {cd : ACond} {x y : Value} {o : Int} (pc' : Nat) (same : Bool) (h1 : x.isRef = true) (h2 : y.isRef = true) (hd : decode c.code pc = .ok (.if_acmp cd o, 3)) (hq : decide (x = y) = same) (ho : 0 ≤ (pc : Int) + o) (hp : pc' = if acV cd same = true then ((pc : Int) + o).toNat else pc + 3) (hr : Go p e below (T.setTop (mkF m pc' Ls st)) P) : Go p e below (T.setTop (mkF m pc Ls (y :: x :: st))) P := Go.mp (fun _ k => Jvm.RoadKit.acmp (g := mkF m pc Ls (y :: x :: st)) X hx rfl h1 h2 (pc0 := pc) (pc' := pc') (same := same) rfl hd rfl hq ho hp k) hr
theorem g_irem (X : Stand p l e R s m args below meth c T locs cells slots) (hx : p.tables.exec = Jvm.exec) {x y : Int32} (hd : decode c.code pc = .ok (.irem, 1)) (hy : y ≠ 0) (hr : Go p e below (T.setTop (mkF m (pc + 1) Ls (.int (x % y) :: st))) P) : Go p e below (T.setTop (mkF m pc Ls (.int y :: .int x :: st))) P := Go.mp (fun _ k => iremM X hx rfl hd rfl hy k) hr
end G
theorem pn_0 : plainName "com/example/wombat/wombat/LockMode" = true := by first | (simp [plainName, overriddenIn]; done) | decide +kernel
def f_isIntention (a1 : Addr) (w_IS : Addr) (w_IX : Addr) (w_SIX : Addr) : Int32 := (if a1 = w_IS then (1 : Int32) else (if a1 = w_IX then (1 : Int32) else (if a1 = w_SIX then (1 : Int32) else (0 : Int32))))
theorem d1_0 : decode prog_9_method_9_code 0 = .ok (.aload_n 0, 1) := by decide +kernel
theorem d1_1 : decode prog_9_method_9_code 1 = .ok (.getstatic 3, 3) := by decide +kernel
theorem d1_4 : decode prog_9_method_9_code 4 = .ok (.if_acmp .eq 17, 3) := by decide +kernel
theorem d1_7 : decode prog_9_method_9_code 7 = .ok (.aload_n 0, 1) := by decide +kernel
theorem d1_8 : decode prog_9_method_9_code 8 = .ok (.getstatic 7, 3) := by decide +kernel
theorem d1_11 : decode prog_9_method_9_code 11 = .ok (.if_acmp .eq 10, 3) := by decide +kernel
theorem d1_14 : decode prog_9_method_9_code 14 = .ok (.aload_n 0, 1) := by decide +kernel
theorem d1_15 : decode prog_9_method_9_code 15 = .ok (.getstatic 13, 3) := by decide +kernel
theorem d1_18 : decode prog_9_method_9_code 18 = .ok (.if_acmp .ne 7, 3) := by decide +kernel
theorem d1_21 : decode prog_9_method_9_code 21 = .ok (.iconst 1, 1) := by decide +kernel
theorem d1_22 : decode prog_9_method_9_code 22 = .ok (.goto 4, 3) := by decide +kernel
theorem d1_25 : decode prog_9_method_9_code 25 = .ok (.iconst 0, 1) := by decide +kernel
theorem d1_26 : decode prog_9_method_9_code 26 = .ok (.ireturn, 1) := by decide +kernel
theorem ef_rm_isIntention (m : MethodId) (x0 : Addr) : entryFrame m #[(.ref x0)] 1 = mkF m 0 #[.val (.ref x0)] [] := by first | (simp [entryFrame, mkF, argsToLocals, Value.category]; done) | rfl
set_option maxRecDepth 65536 in
set_option maxHeartbeats 40000000 in
theorem rm_isIntention (l : Launch) (Z : State) (a0 : Array Value) (hw : ∀ d ∈ tables_1, d.before a0 Z = true) (a1 : Addr) (w_IS : Addr) (w_IX : Addr) (w_SIX : Addr) (h0 : Heap) (n0 : Nat) (Z0 : n0 ≤ h0.size) (S_IS : Sta Z h0 "com/example/wombat/wombat/LockMode" "IS" "Lcom/example/wombat/wombat/LockMode;" (.ref w_IS)) (S_IX : Sta Z h0 "com/example/wombat/wombat/LockMode" "IX" "Lcom/example/wombat/wombat/LockMode;" (.ref w_IX)) (S_SIX : Sta Z h0 "com/example/wombat/wombat/LockMode" "SIX" "Lcom/example/wombat/wombat/LockMode;" (.ref w_SIX)) :
    Ctr l (⟨"com/example/wombat/wombat/LockMode", "isIntention", "()Z"⟩ : MethodName) prog_9_method_9_code 1 (some FieldType.boolean) [] ({ frames := 0, cells := 0, slots := 0, locals := 0 } : Room) Z #[(.ref a1)] h0 (fun v h L => v = some (.int (f_isIntention a1 w_IS w_IX w_SIX)) ∧ Fr n0 L ∧ h = h0) := by
  refine own_enter pn_0 (fun p e s m below meth c s₁ hx hby hml hown hnm hret hlk hZ X0 e0 => ?_)
  have N0 := Fr.nil n0
  rw [ef_rm_isIntention m _]
  show Go p e below (s₁.setTop (mkF m 0 #[.val (.ref a1)] [])) _
  refine g_aloadN X0 hx (hb hby d1_0) rfl rfl ?_
  obtain ⟨T1, X1, e1, st1⟩ := getS2 X0 hx hZ hown (host := "") (Or.inl (hw _ (List.mem_of_getElem? (i := 21) rfl))) Via.refl e0 S_IS (g := (mkF m 1 #[.val (.ref a1)] [(.ref a1)])) rfl (hb hby d1_1)
  refine Go.mp st1 ?_
  show Go p e below (T1.setTop (mkF m 4 #[.val (.ref a1)] [(.ref w_IS), (.ref a1)])) _
  by_cases c4_2 : a1 = w_IS
  · refine g_acmp X1 hx 21 true rfl rfl (hb hby d1_4) (decide_eq_true (congrArg Value.ref c4_2)) (by decide) (by decide) ?_
    refine g_iconst X1 hx (1 : Int32) (hb hby d1_21) (by decide) ?_
    refine g_goto X1 hx 26 (hb hby d1_22) (by decide) (by decide) ?_
    exact own_retZ X1 hx hret hlk (hb hby d1_26) (by decide) (by decide) (by decide) ⟨by rw [f_isIntention, if_pos c4_2], N0, e1⟩
  · refine g_acmp X1 hx 7 false rfl rfl (hb hby d1_4) (decide_eq_false fun q => c4_2 (Value.ref.inj q)) (by decide) (by decide) ?_
    refine g_aloadN X1 hx (hb hby d1_7) rfl rfl ?_
    obtain ⟨T3, X3, e3, st3⟩ := getS2 X1 hx hZ hown (host := "") (Or.inl (hw _ (List.mem_of_getElem? (i := 22) rfl))) Via.refl e1 S_IX (g := (mkF m 8 #[.val (.ref a1)] [(.ref a1)])) rfl (hb hby d1_8)
    refine Go.mp st3 ?_
    show Go p e below (T3.setTop (mkF m 11 #[.val (.ref a1)] [(.ref w_IX), (.ref a1)])) _
    by_cases c11_4 : a1 = w_IX
    · refine g_acmp X3 hx 21 true rfl rfl (hb hby d1_11) (decide_eq_true (congrArg Value.ref c11_4)) (by decide) (by decide) ?_
      refine g_iconst X3 hx (1 : Int32) (hb hby d1_21) (by decide) ?_
      refine g_goto X3 hx 26 (hb hby d1_22) (by decide) (by decide) ?_
      exact own_retZ X3 hx hret hlk (hb hby d1_26) (by decide) (by decide) (by decide) ⟨by rw [f_isIntention, if_neg c4_2, if_pos c11_4], N0, e3⟩
    · refine g_acmp X3 hx 14 false rfl rfl (hb hby d1_11) (decide_eq_false fun q => c11_4 (Value.ref.inj q)) (by decide) (by decide) ?_
      refine g_aloadN X3 hx (hb hby d1_14) rfl rfl ?_
      obtain ⟨T5, X5, e5, st5⟩ := getS2 X3 hx hZ hown (host := "") (Or.inl (hw _ (List.mem_of_getElem? (i := 23) rfl))) Via.refl e3 S_SIX (g := (mkF m 15 #[.val (.ref a1)] [(.ref a1)])) rfl (hb hby d1_15)
      refine Go.mp st5 ?_
      show Go p e below (T5.setTop (mkF m 18 #[.val (.ref a1)] [(.ref w_SIX), (.ref a1)])) _
      by_cases c18_6 : a1 = w_SIX
      · refine g_acmp X5 hx 21 true rfl rfl (hb hby d1_18) (decide_eq_true (congrArg Value.ref c18_6)) (by decide) (by decide) ?_
        refine g_iconst X5 hx (1 : Int32) (hb hby d1_21) (by decide) ?_
        refine g_goto X5 hx 26 (hb hby d1_22) (by decide) (by decide) ?_
        exact own_retZ X5 hx hret hlk (hb hby d1_26) (by decide) (by decide) (by decide) ⟨by rw [f_isIntention, if_neg c4_2, if_neg c11_4, if_pos c18_6], N0, e5⟩
      · refine g_acmp X5 hx 25 false rfl rfl (hb hby d1_18) (decide_eq_false fun q => c18_6 (Value.ref.inj q)) (by decide) (by decide) ?_
        refine g_iconst X5 hx (0 : Int32) (hb hby d1_25) (by decide) ?_
        exact own_retZ X5 hx hret hlk (hb hby d1_26) (by decide) (by decide) (by decide) ⟨by rw [f_isIntention, if_neg c4_2, if_neg c11_4, if_neg c18_6], N0, e5⟩
theorem own_mod5 (x : Int32) : ((x &&& (2147483647 : Int32)) % (5 : Int32)) = (0 : Int32) ∨ ((x &&& (2147483647 : Int32)) % (5 : Int32)) = (1 : Int32) ∨ ((x &&& (2147483647 : Int32)) % (5 : Int32)) = (2 : Int32) ∨ ((x &&& (2147483647 : Int32)) % (5 : Int32)) = (3 : Int32) ∨ ((x &&& (2147483647 : Int32)) % (5 : Int32)) = (4 : Int32) := by
  have a : 0 ≤ (x &&& (2147483647 : Int32)).toInt := (c_and x 2147483647 (by decide)).1
  have b := (c_irem (x &&& (2147483647 : Int32)) (5 : Int32) 5 rfl).1 a
  simp only [← Int32.toInt_inj, b, Int32.reduceToInt]
  omega
theorem pd_0 : parseMethodDescriptor "()Z" = some ⟨[], some FieldType.boolean⟩ := by decide +kernel
theorem pn_1 : plainName "com/example/wombat/wombat/LockModeIsIntentionPinLaw" = true := by first | (simp [plainName, overriddenIn]; done) | decide +kernel
theorem ef_rm_law (m : MethodId) (x0 : Int32) : entryFrame m #[(.int x0)] maxLocals = mkF m 0 #[.val (.int x0), .unset, .unset, .unset] [] := by first | (simp [entryFrame, mkF, argsToLocals, Value.category, maxLocals]; done) | rfl
set_option maxRecDepth 65536 in
set_option maxHeartbeats 40000000 in
theorem rm_law (l : Launch) (Z : State) (a0 : Array Value) (hw : ∀ d ∈ tables_1, d.before a0 Z = true) (p1 : Int32) (w_IS : Addr) (w_IX : Addr) (w_S : Addr) (w_SIX : Addr) (w_X : Addr) (h0 : Heap) (n0 : Nat) (Z0 : n0 ≤ h0.size) (S_IS : Sta Z h0 "com/example/wombat/wombat/LockMode" "IS" "Lcom/example/wombat/wombat/LockMode;" (.ref w_IS)) (E_w_IS : Exa Z h0 w_IS "com/example/wombat/wombat/LockMode") (S_IX : Sta Z h0 "com/example/wombat/wombat/LockMode" "IX" "Lcom/example/wombat/wombat/LockMode;" (.ref w_IX)) (E_w_IX : Exa Z h0 w_IX "com/example/wombat/wombat/LockMode") (S_S : Sta Z h0 "com/example/wombat/wombat/LockMode" "S" "Lcom/example/wombat/wombat/LockMode;" (.ref w_S)) (E_w_S : Exa Z h0 w_S "com/example/wombat/wombat/LockMode") (S_SIX : Sta Z h0 "com/example/wombat/wombat/LockMode" "SIX" "Lcom/example/wombat/wombat/LockMode;" (.ref w_SIX)) (E_w_SIX : Exa Z h0 w_SIX "com/example/wombat/wombat/LockMode") (S_X : Sta Z h0 "com/example/wombat/wombat/LockMode" "X" "Lcom/example/wombat/wombat/LockMode;" (.ref w_X)) (E_w_X : Exa Z h0 w_X "com/example/wombat/wombat/LockMode") (ne_SIX_IS : ¬ (w_SIX = w_IS)) (ne_SIX_IX : ¬ (w_SIX = w_IX)) (ne_SIX_X : ¬ (w_SIX = w_X)) (ne_SIX_S : ¬ (w_SIX = w_S)) (ne_IS_IX : ¬ (w_IS = w_IX)) (ne_IS_X : ¬ (w_IS = w_X)) (ne_IS_S : ¬ (w_IS = w_S)) (ne_IX_X : ¬ (w_IX = w_X)) (ne_IX_S : ¬ (w_IX = w_S)) (ne_X_S : ¬ (w_X = w_S)) :
    Ctr l x code maxLocals ret tables_1 room_1 Z #[(.int p1)] h0 (fun v h L => v = some (.int 1) ∧ Fr n0 L) := by
  refine own_enter pn_1 (fun p e s m below meth c s₁ hx hby hml hown hnm hret hlk hZ X0 e0 => ?_)
  have N0 := Fr.nil n0
  rw [ef_rm_law m _]
  show Go p e below (s₁.setTop (mkF m 0 #[.val (.int p1), .unset, .unset, .unset] [])) _
  refine g_iconst X0 hx (5 : Int32) (hb hby at_0) (by decide) ?_
  obtain ⟨T1, h1, k1, X1, e1, E1, A1, O1, st1⟩ := newR X0 hx hZ hown (hw _ (List.mem_of_getElem? (i := 0) rfl)) (hw _ (List.mem_of_getElem? (i := 1) rfl)) e0 (g := (mkF m 1 #[.val (.int p1), .unset, .unset, .unset] [(.int (5 : Int32))])) rfl (hb hby at_1) rfl (by decide) (cap := 5) (by decide) (by decide) (by decide) (by decide)
  obtain ⟨b1, g1⟩ : ∃ z, z = h0.size := ⟨_, rfl⟩
  rw [← g1] at A1 st1
  have ne_w_IS_b1 : w_IS ≠ b1 := Nat.ne_of_lt (Nat.lt_of_lt_of_le E_w_IS.lt (Nat.le_of_eq g1.symm))
  have ne_w_IX_b1 : w_IX ≠ b1 := Nat.ne_of_lt (Nat.lt_of_lt_of_le E_w_IX.lt (Nat.le_of_eq g1.symm))
  have ne_w_S_b1 : w_S ≠ b1 := Nat.ne_of_lt (Nat.lt_of_lt_of_le E_w_S.lt (Nat.le_of_eq g1.symm))
  have ne_w_SIX_b1 : w_SIX ≠ b1 := Nat.ne_of_lt (Nat.lt_of_lt_of_le E_w_SIX.lt (Nat.le_of_eq g1.symm))
  have ne_w_X_b1 : w_X ≠ b1 := Nat.ne_of_lt (Nat.lt_of_lt_of_le E_w_X.lt (Nat.le_of_eq g1.symm))
  have g_b1 : n0 ≤ b1 := Nat.le_trans Z0 (Nat.le_of_eq g1.symm)
  have Z1 : n0 ≤ h1.size := Nat.le_trans Z0 E1.1
  have S_IS_1 := Sta.ext E1 S_IS
  have E_w_IS_1 := Exa.ext E1 E_w_IS
  have S_IX_1 := Sta.ext E1 S_IX
  have E_w_IX_1 := Exa.ext E1 E_w_IX
  have S_S_1 := Sta.ext E1 S_S
  have E_w_S_1 := Exa.ext E1 E_w_S
  have S_SIX_1 := Sta.ext E1 S_SIX
  have E_w_SIX_1 := Exa.ext E1 E_w_SIX
  have S_X_1 := Sta.ext E1 S_X
  have E_w_X_1 := Exa.ext E1 E_w_X
  have V1 := Arv.new A1 (by decide)
  refine Go.mp st1 ?_
  have V_b10 := Arv.pad (vs' := List.replicate 5 .null) V1 (own_pad 5)
  show Go p e below (T1.setTop (mkF m 4 #[.val (.int p1), .unset, .unset, .unset] [(.ref b1)])) _
  refine g_dup X1 hx (hb hby at_4) rfl ?_
  refine g_iconst X1 hx (0 : Int32) (hb hby at_5) (by decide) ?_
  obtain ⟨T2, X2, e2, st2⟩ := getS2 X1 hx hZ hown (host := "") (Or.inl (hw _ (List.mem_of_getElem? (i := 2) rfl))) Via.refl e1 S_IS_1 (g := (mkF m 6 #[.val (.int p1), .unset, .unset, .unset] [(.int (0 : Int32)), (.ref b1), (.ref b1)])) rfl (hb hby at_6)
  refine Go.mp st2 ?_
  show Go p e below (T2.setTop (mkF m 9 #[.val (.int p1), .unset, .unset, .unset] [(.ref w_IS), (.int (0 : Int32)), (.ref b1), (.ref b1)])) _
  obtain ⟨cl3, Ar3, cq3, sz3, nn3, Ha3, Gf3⟩ := V_b10
  have hin3 : ¬ ((0 : Int32) < 0 ∨ cl3.slots.size ≤ (0 : Int32).toNatClampNeg) := by rw [sz3]; decide
  have Sto3 : Sto Z h1 b1 (.ref w_IS) := Sto.of Ar3 (by rw [cq3]; exact O1) (Ins.of_exa E_w_IS_1 (hw _ (List.mem_of_getElem? (i := 5) rfl)))
  obtain ⟨T3, h3, X3, e3, W3, st3⟩ := stR X2 hx hZ e2 Ar3 (j := 0) hin3 rfl Sto3 (g := (mkF m 9 #[.val (.int p1), .unset, .unset, .unset] [(.ref w_IS), (.int (0 : Int32)), (.ref b1), (.ref b1)])) rfl rfl (hb hby at_9)
  have N3 := Fr.snoc X3 N0 g_b1
  have S_IS_3 := Sta.wr W3 S_IS_1
  have E_w_IS_3 := Exa.wr W3 E_w_IS_1
  have S_IX_3 := Sta.wr W3 S_IX_1
  have E_w_IX_3 := Exa.wr W3 E_w_IX_1
  have S_S_3 := Sta.wr W3 S_S_1
  have E_w_S_3 := Exa.wr W3 E_w_S_1
  have S_SIX_3 := Sta.wr W3 S_SIX_1
  have E_w_SIX_3 := Exa.wr W3 E_w_SIX_1
  have S_X_3 := Sta.wr W3 S_X_1
  have E_w_X_3 := Exa.wr W3 E_w_X_1
  have V_b1_3 := Arv.set Ar3 cq3 sz3 nn3 Ha3 Gf3 (v := (.ref w_IS)) rfl W3 0 (by decide) (by simp)
  have Z3 : n0 ≤ h3.size := Nat.le_trans Z1 (Nat.le_of_eq W3.size.symm)
  refine Go.mp st3 ?_
  show Go p e below (T3.setTop (mkF m 10 #[.val (.int p1), .unset, .unset, .unset] [(.ref b1)])) _
  refine g_dup X3 hx (hb hby at_10) rfl ?_
  refine g_iconst X3 hx (1 : Int32) (hb hby at_11) (by decide) ?_
  obtain ⟨T4, X4, e4, st4⟩ := getS2 X3 hx hZ hown (host := "") (Or.inl (hw _ (List.mem_of_getElem? (i := 6) rfl))) Via.refl e3 S_IX_3 (g := (mkF m 12 #[.val (.int p1), .unset, .unset, .unset] [(.int (1 : Int32)), (.ref b1), (.ref b1)])) rfl (hb hby at_12)
  refine Go.mp st4 ?_
  show Go p e below (T4.setTop (mkF m 15 #[.val (.int p1), .unset, .unset, .unset] [(.ref w_IX), (.int (1 : Int32)), (.ref b1), (.ref b1)])) _
  obtain ⟨cl5, Ar5, cq5, sz5, nn5, Ha5, Gf5⟩ := V_b1_3
  have hin5 : ¬ ((1 : Int32) < 0 ∨ cl5.slots.size ≤ (1 : Int32).toNatClampNeg) := by rw [sz5]; decide
  have Sto5 : Sto Z h3 b1 (.ref w_IX) := Sto.of Ar5 (by rw [cq5]; exact O1) (Ins.of_exa E_w_IX_3 (hw _ (List.mem_of_getElem? (i := 5) rfl)))
  obtain ⟨T5, h5, X5, e5, W5, st5⟩ := stR X4 hx hZ e4 Ar5 (j := 1) hin5 rfl Sto5 (g := (mkF m 15 #[.val (.int p1), .unset, .unset, .unset] [(.ref w_IX), (.int (1 : Int32)), (.ref b1), (.ref b1)])) rfl rfl (hb hby at_15)
  have N5 := Fr.snoc X5 N3 g_b1
  have S_IS_5 := Sta.wr W5 S_IS_3
  have E_w_IS_5 := Exa.wr W5 E_w_IS_3
  have S_IX_5 := Sta.wr W5 S_IX_3
  have E_w_IX_5 := Exa.wr W5 E_w_IX_3
  have S_S_5 := Sta.wr W5 S_S_3
  have E_w_S_5 := Exa.wr W5 E_w_S_3
  have S_SIX_5 := Sta.wr W5 S_SIX_3
  have E_w_SIX_5 := Exa.wr W5 E_w_SIX_3
  have S_X_5 := Sta.wr W5 S_X_3
  have E_w_X_5 := Exa.wr W5 E_w_X_3
  have V_b1_5 := Arv.set Ar5 cq5 sz5 nn5 Ha5 Gf5 (v := (.ref w_IX)) rfl W5 1 (by decide) (by simp)
  have Z5 : n0 ≤ h5.size := Nat.le_trans Z3 (Nat.le_of_eq W5.size.symm)
  refine Go.mp st5 ?_
  show Go p e below (T5.setTop (mkF m 16 #[.val (.int p1), .unset, .unset, .unset] [(.ref b1)])) _
  refine g_dup X5 hx (hb hby at_16) rfl ?_
  refine g_iconst X5 hx (2 : Int32) (hb hby at_17) (by decide) ?_
  obtain ⟨T6, X6, e6, st6⟩ := getS2 X5 hx hZ hown (host := "") (Or.inl (hw _ (List.mem_of_getElem? (i := 8) rfl))) Via.refl e5 S_S_5 (g := (mkF m 18 #[.val (.int p1), .unset, .unset, .unset] [(.int (2 : Int32)), (.ref b1), (.ref b1)])) rfl (hb hby at_18)
  refine Go.mp st6 ?_
  show Go p e below (T6.setTop (mkF m 21 #[.val (.int p1), .unset, .unset, .unset] [(.ref w_S), (.int (2 : Int32)), (.ref b1), (.ref b1)])) _
  obtain ⟨cl7, Ar7, cq7, sz7, nn7, Ha7, Gf7⟩ := V_b1_5
  have hin7 : ¬ ((2 : Int32) < 0 ∨ cl7.slots.size ≤ (2 : Int32).toNatClampNeg) := by rw [sz7]; decide
  have Sto7 : Sto Z h5 b1 (.ref w_S) := Sto.of Ar7 (by rw [cq7]; exact O1) (Ins.of_exa E_w_S_5 (hw _ (List.mem_of_getElem? (i := 5) rfl)))
  obtain ⟨T7, h7, X7, e7, W7, st7⟩ := stR X6 hx hZ e6 Ar7 (j := 2) hin7 rfl Sto7 (g := (mkF m 21 #[.val (.int p1), .unset, .unset, .unset] [(.ref w_S), (.int (2 : Int32)), (.ref b1), (.ref b1)])) rfl rfl (hb hby at_21)
  have N7 := Fr.snoc X7 N5 g_b1
  have S_IS_7 := Sta.wr W7 S_IS_5
  have E_w_IS_7 := Exa.wr W7 E_w_IS_5
  have S_IX_7 := Sta.wr W7 S_IX_5
  have E_w_IX_7 := Exa.wr W7 E_w_IX_5
  have S_S_7 := Sta.wr W7 S_S_5
  have E_w_S_7 := Exa.wr W7 E_w_S_5
  have S_SIX_7 := Sta.wr W7 S_SIX_5
  have E_w_SIX_7 := Exa.wr W7 E_w_SIX_5
  have S_X_7 := Sta.wr W7 S_X_5
  have E_w_X_7 := Exa.wr W7 E_w_X_5
  have V_b1_7 := Arv.set Ar7 cq7 sz7 nn7 Ha7 Gf7 (v := (.ref w_S)) rfl W7 2 (by decide) (by simp)
  have Z7 : n0 ≤ h7.size := Nat.le_trans Z5 (Nat.le_of_eq W7.size.symm)
  refine Go.mp st7 ?_
  show Go p e below (T7.setTop (mkF m 22 #[.val (.int p1), .unset, .unset, .unset] [(.ref b1)])) _
  refine g_dup X7 hx (hb hby at_22) rfl ?_
  refine g_iconst X7 hx (3 : Int32) (hb hby at_23) (by decide) ?_
  obtain ⟨T8, X8, e8, st8⟩ := getS2 X7 hx hZ hown (host := "") (Or.inl (hw _ (List.mem_of_getElem? (i := 10) rfl))) Via.refl e7 S_SIX_7 (g := (mkF m 24 #[.val (.int p1), .unset, .unset, .unset] [(.int (3 : Int32)), (.ref b1), (.ref b1)])) rfl (hb hby at_24)
  refine Go.mp st8 ?_
  show Go p e below (T8.setTop (mkF m 27 #[.val (.int p1), .unset, .unset, .unset] [(.ref w_SIX), (.int (3 : Int32)), (.ref b1), (.ref b1)])) _
  obtain ⟨cl9, Ar9, cq9, sz9, nn9, Ha9, Gf9⟩ := V_b1_7
  have hin9 : ¬ ((3 : Int32) < 0 ∨ cl9.slots.size ≤ (3 : Int32).toNatClampNeg) := by rw [sz9]; decide
  have Sto9 : Sto Z h7 b1 (.ref w_SIX) := Sto.of Ar9 (by rw [cq9]; exact O1) (Ins.of_exa E_w_SIX_7 (hw _ (List.mem_of_getElem? (i := 5) rfl)))
  obtain ⟨T9, h9, X9, e9, W9, st9⟩ := stR X8 hx hZ e8 Ar9 (j := 3) hin9 rfl Sto9 (g := (mkF m 27 #[.val (.int p1), .unset, .unset, .unset] [(.ref w_SIX), (.int (3 : Int32)), (.ref b1), (.ref b1)])) rfl rfl (hb hby at_27)
  have N9 := Fr.snoc X9 N7 g_b1
  have S_IS_9 := Sta.wr W9 S_IS_7
  have E_w_IS_9 := Exa.wr W9 E_w_IS_7
  have S_IX_9 := Sta.wr W9 S_IX_7
  have E_w_IX_9 := Exa.wr W9 E_w_IX_7
  have S_S_9 := Sta.wr W9 S_S_7
  have E_w_S_9 := Exa.wr W9 E_w_S_7
  have S_SIX_9 := Sta.wr W9 S_SIX_7
  have E_w_SIX_9 := Exa.wr W9 E_w_SIX_7
  have S_X_9 := Sta.wr W9 S_X_7
  have E_w_X_9 := Exa.wr W9 E_w_X_7
  have V_b1_9 := Arv.set Ar9 cq9 sz9 nn9 Ha9 Gf9 (v := (.ref w_SIX)) rfl W9 3 (by decide) (by simp)
  have Z9 : n0 ≤ h9.size := Nat.le_trans Z7 (Nat.le_of_eq W9.size.symm)
  refine Go.mp st9 ?_
  show Go p e below (T9.setTop (mkF m 28 #[.val (.int p1), .unset, .unset, .unset] [(.ref b1)])) _
  refine g_dup X9 hx (hb hby at_28) rfl ?_
  refine g_iconst X9 hx (4 : Int32) (hb hby at_29) (by decide) ?_
  obtain ⟨T10, X10, e10, st10⟩ := getS2 X9 hx hZ hown (host := "") (Or.inl (hw _ (List.mem_of_getElem? (i := 12) rfl))) Via.refl e9 S_X_9 (g := (mkF m 30 #[.val (.int p1), .unset, .unset, .unset] [(.int (4 : Int32)), (.ref b1), (.ref b1)])) rfl (hb hby at_30)
  refine Go.mp st10 ?_
  show Go p e below (T10.setTop (mkF m 33 #[.val (.int p1), .unset, .unset, .unset] [(.ref w_X), (.int (4 : Int32)), (.ref b1), (.ref b1)])) _
  obtain ⟨cl11, Ar11, cq11, sz11, nn11, Ha11, Gf11⟩ := V_b1_9
  have hin11 : ¬ ((4 : Int32) < 0 ∨ cl11.slots.size ≤ (4 : Int32).toNatClampNeg) := by rw [sz11]; decide
  have Sto11 : Sto Z h9 b1 (.ref w_X) := Sto.of Ar11 (by rw [cq11]; exact O1) (Ins.of_exa E_w_X_9 (hw _ (List.mem_of_getElem? (i := 5) rfl)))
  obtain ⟨T11, h11, X11, e11, W11, st11⟩ := stR X10 hx hZ e10 Ar11 (j := 4) hin11 rfl Sto11 (g := (mkF m 33 #[.val (.int p1), .unset, .unset, .unset] [(.ref w_X), (.int (4 : Int32)), (.ref b1), (.ref b1)])) rfl rfl (hb hby at_33)
  have N11 := Fr.snoc X11 N9 g_b1
  have S_IS_11 := Sta.wr W11 S_IS_9
  have E_w_IS_11 := Exa.wr W11 E_w_IS_9
  have S_IX_11 := Sta.wr W11 S_IX_9
  have E_w_IX_11 := Exa.wr W11 E_w_IX_9
  have S_S_11 := Sta.wr W11 S_S_9
  have E_w_S_11 := Exa.wr W11 E_w_S_9
  have S_SIX_11 := Sta.wr W11 S_SIX_9
  have E_w_SIX_11 := Exa.wr W11 E_w_SIX_9
  have S_X_11 := Sta.wr W11 S_X_9
  have E_w_X_11 := Exa.wr W11 E_w_X_9
  have V_b1_11 := Arv.set Ar11 cq11 sz11 nn11 Ha11 Gf11 (v := (.ref w_X)) rfl W11 4 (by decide) (by simp)
  have Z11 : n0 ≤ h11.size := Nat.le_trans Z9 (Nat.le_of_eq W11.size.symm)
  refine Go.mp st11 ?_
  show Go p e below (T11.setTop (mkF m 34 #[.val (.int p1), .unset, .unset, .unset] [(.ref b1)])) _
  refine g_astoreN X11 hx #[.val (.int p1), .val (.ref b1), .unset, .unset] (hb hby at_34) rfl rfl ?_
  refine g_iconst X11 hx (5 : Int32) (hb hby at_35) (by decide) ?_
  obtain ⟨T12, h12, k12, X12, e12, E12, A12, st12⟩ := newP X11 hx hZ (hw _ (List.mem_of_getElem? (i := 14) rfl)) e11 (g := (mkF m 36 #[.val (.int p1), .val (.ref b1), .unset, .unset] [(.int (5 : Int32))])) rfl (hb hby at_36) rfl (by decide) (cap := 5) (by decide) (by decide) (by decide) (by decide)
  obtain ⟨b12, g12⟩ : ∃ z, z = h11.size := ⟨_, rfl⟩
  rw [← g12] at A12 st12
  have ne_w_IS_b12 : w_IS ≠ b12 := Nat.ne_of_lt (Nat.lt_of_lt_of_le E_w_IS_11.lt (Nat.le_of_eq g12.symm))
  have ne_w_IX_b12 : w_IX ≠ b12 := Nat.ne_of_lt (Nat.lt_of_lt_of_le E_w_IX_11.lt (Nat.le_of_eq g12.symm))
  have ne_w_S_b12 : w_S ≠ b12 := Nat.ne_of_lt (Nat.lt_of_lt_of_le E_w_S_11.lt (Nat.le_of_eq g12.symm))
  have ne_w_SIX_b12 : w_SIX ≠ b12 := Nat.ne_of_lt (Nat.lt_of_lt_of_le E_w_SIX_11.lt (Nat.le_of_eq g12.symm))
  have ne_w_X_b12 : w_X ≠ b12 := Nat.ne_of_lt (Nat.lt_of_lt_of_le E_w_X_11.lt (Nat.le_of_eq g12.symm))
  have ne_b1_b12 : b1 ≠ b12 := Nat.ne_of_lt (Nat.lt_of_lt_of_le V_b1_11.lt (Nat.le_of_eq g12.symm))
  have g_b12 : n0 ≤ b12 := Nat.le_trans Z11 (Nat.le_of_eq g12.symm)
  have Z12 : n0 ≤ h12.size := Nat.le_trans Z11 E12.1
  have S_IS_12 := Sta.ext E12 S_IS_11
  have E_w_IS_12 := Exa.ext E12 E_w_IS_11
  have S_IX_12 := Sta.ext E12 S_IX_11
  have E_w_IX_12 := Exa.ext E12 E_w_IX_11
  have S_S_12 := Sta.ext E12 S_S_11
  have E_w_S_12 := Exa.ext E12 E_w_S_11
  have S_SIX_12 := Sta.ext E12 S_SIX_11
  have E_w_SIX_12 := Exa.ext E12 E_w_SIX_11
  have S_X_12 := Sta.ext E12 S_X_11
  have E_w_X_12 := Exa.ext E12 E_w_X_11
  have V_b1_12 := Arv.ext V_b1_11 E12
  have V12 := Arv.new A12 (by decide)
  refine Go.mp st12 ?_
  have V_b120 := Arv.pad (vs' := List.replicate 5 (.int 0)) V12 (own_pad 5)
  show Go p e below (T12.setTop (mkF m 38 #[.val (.int p1), .val (.ref b1), .unset, .unset] [(.ref b12)])) _
  refine g_dup X12 hx (hb hby at_38) rfl ?_
  refine g_iconst X12 hx (0 : Int32) (hb hby at_39) (by decide) ?_
  refine g_iconst X12 hx (1 : Int32) (hb hby at_40) (by decide) ?_
  obtain ⟨cl13, Ar13, cq13, sz13, nn13, Ha13, Gf13⟩ := V_b120
  have hin13 : ¬ ((0 : Int32) < 0 ∨ cl13.slots.size ≤ (0 : Int32).toNatClampNeg) := by rw [sz13]; decide
  obtain ⟨T13, h13, X13, e13, W13, st13⟩ := stZ X12 hx hZ e12 Ar13 (j := 0) hin13 (g := (mkF m 41 #[.val (.int p1), .val (.ref b1), .unset, .unset] [(.int (1 : Int32)), (.int (0 : Int32)), (.ref b12), (.ref b12)])) rfl rfl (hb hby at_41)
  have N13 := Fr.snoc X13 N11 g_b12
  have S_IS_13 := Sta.wr W13 S_IS_12
  have E_w_IS_13 := Exa.wr W13 E_w_IS_12
  have S_IX_13 := Sta.wr W13 S_IX_12
  have E_w_IX_13 := Exa.wr W13 E_w_IX_12
  have S_S_13 := Sta.wr W13 S_S_12
  have E_w_S_13 := Exa.wr W13 E_w_S_12
  have S_SIX_13 := Sta.wr W13 S_SIX_12
  have E_w_SIX_13 := Exa.wr W13 E_w_SIX_12
  have S_X_13 := Sta.wr W13 S_X_12
  have E_w_X_13 := Exa.wr W13 E_w_X_12
  have V_b1_13 := Arv.other V_b1_12 W13 ne_b1_b12
  have V_b12_13 := Arv.set Ar13 cq13 sz13 nn13 Ha13 Gf13 (v := (.int (1 : Int32))) rfl W13 0 (by decide) (by simp)
  have Z13 : n0 ≤ h13.size := Nat.le_trans Z12 (Nat.le_of_eq W13.size.symm)
  refine Go.mp st13 ?_
  show Go p e below (T13.setTop (mkF m 42 #[.val (.int p1), .val (.ref b1), .unset, .unset] [(.ref b12)])) _
  refine g_dup X13 hx (hb hby at_42) rfl ?_
  refine g_iconst X13 hx (1 : Int32) (hb hby at_43) (by decide) ?_
  refine g_iconst X13 hx (1 : Int32) (hb hby at_44) (by decide) ?_
  obtain ⟨cl14, Ar14, cq14, sz14, nn14, Ha14, Gf14⟩ := V_b12_13
  have hin14 : ¬ ((1 : Int32) < 0 ∨ cl14.slots.size ≤ (1 : Int32).toNatClampNeg) := by rw [sz14]; decide
  obtain ⟨T14, h14, X14, e14, W14, st14⟩ := stZ X13 hx hZ e13 Ar14 (j := 1) hin14 (g := (mkF m 45 #[.val (.int p1), .val (.ref b1), .unset, .unset] [(.int (1 : Int32)), (.int (1 : Int32)), (.ref b12), (.ref b12)])) rfl rfl (hb hby at_45)
  have N14 := Fr.snoc X14 N13 g_b12
  have S_IS_14 := Sta.wr W14 S_IS_13
  have E_w_IS_14 := Exa.wr W14 E_w_IS_13
  have S_IX_14 := Sta.wr W14 S_IX_13
  have E_w_IX_14 := Exa.wr W14 E_w_IX_13
  have S_S_14 := Sta.wr W14 S_S_13
  have E_w_S_14 := Exa.wr W14 E_w_S_13
  have S_SIX_14 := Sta.wr W14 S_SIX_13
  have E_w_SIX_14 := Exa.wr W14 E_w_SIX_13
  have S_X_14 := Sta.wr W14 S_X_13
  have E_w_X_14 := Exa.wr W14 E_w_X_13
  have V_b1_14 := Arv.other V_b1_13 W14 ne_b1_b12
  have V_b12_14 := Arv.set Ar14 cq14 sz14 nn14 Ha14 Gf14 (v := (.int (1 : Int32))) rfl W14 1 (by decide) (by simp)
  have Z14 : n0 ≤ h14.size := Nat.le_trans Z13 (Nat.le_of_eq W14.size.symm)
  refine Go.mp st14 ?_
  show Go p e below (T14.setTop (mkF m 46 #[.val (.int p1), .val (.ref b1), .unset, .unset] [(.ref b12)])) _
  refine g_dup X14 hx (hb hby at_46) rfl ?_
  refine g_iconst X14 hx (2 : Int32) (hb hby at_47) (by decide) ?_
  refine g_iconst X14 hx (0 : Int32) (hb hby at_48) (by decide) ?_
  obtain ⟨cl15, Ar15, cq15, sz15, nn15, Ha15, Gf15⟩ := V_b12_14
  have hin15 : ¬ ((2 : Int32) < 0 ∨ cl15.slots.size ≤ (2 : Int32).toNatClampNeg) := by rw [sz15]; decide
  obtain ⟨T15, h15, X15, e15, W15, st15⟩ := stZ X14 hx hZ e14 Ar15 (j := 2) hin15 (g := (mkF m 49 #[.val (.int p1), .val (.ref b1), .unset, .unset] [(.int (0 : Int32)), (.int (2 : Int32)), (.ref b12), (.ref b12)])) rfl rfl (hb hby at_49)
  have N15 := Fr.snoc X15 N14 g_b12
  have S_IS_15 := Sta.wr W15 S_IS_14
  have E_w_IS_15 := Exa.wr W15 E_w_IS_14
  have S_IX_15 := Sta.wr W15 S_IX_14
  have E_w_IX_15 := Exa.wr W15 E_w_IX_14
  have S_S_15 := Sta.wr W15 S_S_14
  have E_w_S_15 := Exa.wr W15 E_w_S_14
  have S_SIX_15 := Sta.wr W15 S_SIX_14
  have E_w_SIX_15 := Exa.wr W15 E_w_SIX_14
  have S_X_15 := Sta.wr W15 S_X_14
  have E_w_X_15 := Exa.wr W15 E_w_X_14
  have V_b1_15 := Arv.other V_b1_14 W15 ne_b1_b12
  have V_b12_15 := Arv.set Ar15 cq15 sz15 nn15 Ha15 Gf15 (v := (.int (0 : Int32))) rfl W15 2 (by decide) (by simp)
  have Z15 : n0 ≤ h15.size := Nat.le_trans Z14 (Nat.le_of_eq W15.size.symm)
  refine Go.mp st15 ?_
  show Go p e below (T15.setTop (mkF m 50 #[.val (.int p1), .val (.ref b1), .unset, .unset] [(.ref b12)])) _
  refine g_dup X15 hx (hb hby at_50) rfl ?_
  refine g_iconst X15 hx (3 : Int32) (hb hby at_51) (by decide) ?_
  refine g_iconst X15 hx (1 : Int32) (hb hby at_52) (by decide) ?_
  obtain ⟨cl16, Ar16, cq16, sz16, nn16, Ha16, Gf16⟩ := V_b12_15
  have hin16 : ¬ ((3 : Int32) < 0 ∨ cl16.slots.size ≤ (3 : Int32).toNatClampNeg) := by rw [sz16]; decide
  obtain ⟨T16, h16, X16, e16, W16, st16⟩ := stZ X15 hx hZ e15 Ar16 (j := 3) hin16 (g := (mkF m 53 #[.val (.int p1), .val (.ref b1), .unset, .unset] [(.int (1 : Int32)), (.int (3 : Int32)), (.ref b12), (.ref b12)])) rfl rfl (hb hby at_53)
  have N16 := Fr.snoc X16 N15 g_b12
  have S_IS_16 := Sta.wr W16 S_IS_15
  have E_w_IS_16 := Exa.wr W16 E_w_IS_15
  have S_IX_16 := Sta.wr W16 S_IX_15
  have E_w_IX_16 := Exa.wr W16 E_w_IX_15
  have S_S_16 := Sta.wr W16 S_S_15
  have E_w_S_16 := Exa.wr W16 E_w_S_15
  have S_SIX_16 := Sta.wr W16 S_SIX_15
  have E_w_SIX_16 := Exa.wr W16 E_w_SIX_15
  have S_X_16 := Sta.wr W16 S_X_15
  have E_w_X_16 := Exa.wr W16 E_w_X_15
  have V_b1_16 := Arv.other V_b1_15 W16 ne_b1_b12
  have V_b12_16 := Arv.set Ar16 cq16 sz16 nn16 Ha16 Gf16 (v := (.int (1 : Int32))) rfl W16 3 (by decide) (by simp)
  have Z16 : n0 ≤ h16.size := Nat.le_trans Z15 (Nat.le_of_eq W16.size.symm)
  refine Go.mp st16 ?_
  show Go p e below (T16.setTop (mkF m 54 #[.val (.int p1), .val (.ref b1), .unset, .unset] [(.ref b12)])) _
  refine g_dup X16 hx (hb hby at_54) rfl ?_
  refine g_iconst X16 hx (4 : Int32) (hb hby at_55) (by decide) ?_
  refine g_iconst X16 hx (0 : Int32) (hb hby at_56) (by decide) ?_
  obtain ⟨cl17, Ar17, cq17, sz17, nn17, Ha17, Gf17⟩ := V_b12_16
  have hin17 : ¬ ((4 : Int32) < 0 ∨ cl17.slots.size ≤ (4 : Int32).toNatClampNeg) := by rw [sz17]; decide
  obtain ⟨T17, h17, X17, e17, W17, st17⟩ := stZ X16 hx hZ e16 Ar17 (j := 4) hin17 (g := (mkF m 57 #[.val (.int p1), .val (.ref b1), .unset, .unset] [(.int (0 : Int32)), (.int (4 : Int32)), (.ref b12), (.ref b12)])) rfl rfl (hb hby at_57)
  have N17 := Fr.snoc X17 N16 g_b12
  have S_IS_17 := Sta.wr W17 S_IS_16
  have E_w_IS_17 := Exa.wr W17 E_w_IS_16
  have S_IX_17 := Sta.wr W17 S_IX_16
  have E_w_IX_17 := Exa.wr W17 E_w_IX_16
  have S_S_17 := Sta.wr W17 S_S_16
  have E_w_S_17 := Exa.wr W17 E_w_S_16
  have S_SIX_17 := Sta.wr W17 S_SIX_16
  have E_w_SIX_17 := Exa.wr W17 E_w_SIX_16
  have S_X_17 := Sta.wr W17 S_X_16
  have E_w_X_17 := Exa.wr W17 E_w_X_16
  have V_b1_17 := Arv.other V_b1_16 W17 ne_b1_b12
  have V_b12_17 := Arv.set Ar17 cq17 sz17 nn17 Ha17 Gf17 (v := (.int (0 : Int32))) rfl W17 4 (by decide) (by simp)
  have Z17 : n0 ≤ h17.size := Nat.le_trans Z16 (Nat.le_of_eq W17.size.symm)
  refine Go.mp st17 ?_
  show Go p e below (T17.setTop (mkF m 58 #[.val (.int p1), .val (.ref b1), .unset, .unset] [(.ref b12)])) _
  refine g_astoreN X17 hx #[.val (.int p1), .val (.ref b1), .val (.ref b12), .unset] (hb hby at_58) rfl rfl ?_
  refine g_iloadN X17 hx (hb hby at_59) rfl ?_
  refine Go.mp (fun _ k => X17.ldcInt hx hown (mvT hZ (hw _ (List.mem_of_getElem? (i := 15) rfl))) (g := (mkF m 60 #[.val (.int p1), .val (.ref b1), .val (.ref b12), .unset] [(.int p1)])) rfl (hb hby at_60) _ k) ?_
  show Go p e below (T17.setTop (mkF m 62 #[.val (.int p1), .val (.ref b1), .val (.ref b12), .unset] [(.int (2147483647 : Int32)), (.int p1)])) _
  refine g_iand X17 hx (hb hby at_62) ?_
  refine g_iconst X17 hx (5 : Int32) (hb hby at_63) (by decide) ?_
  refine g_irem X17 hx (hb hby at_64) (by decide) ?_
  show Go p e below (T17.setTop (mkF m 65 #[.val (.int p1), .val (.ref b1), .val (.ref b12), .unset] [(.int ((p1 &&& (2147483647 : Int32)) % (5 : Int32)))])) _
  rcases own_mod5 p1 with q18 | q18 | q18 | q18 | q18
  · rw [q18]
    refine g_istoreN X17 hx #[.val (.int p1), .val (.ref b1), .val (.ref b12), .val (.int (0 : Int32))] (hb hby at_65) rfl ?_
    refine g_aloadN X17 hx (hb hby at_66) rfl rfl ?_
    refine g_iloadN X17 hx (hb hby at_67) rfl ?_
    obtain ⟨cl19, Ar19, -, sz19, -, Ha19, -⟩ := V_b1_17
    have hin19 : ¬ ((0 : Int32) < 0 ∨ cl19.slots.size ≤ (0 : Int32).toNatClampNeg) := by rw [sz19]; decide
    have hat19 : cl19.slots[(0 : Int32).toNatClampNeg]? = some (.ref w_IS) := Ha19 0 (by rw [sz19]; decide)
    refine Go.mp (fun _ k => X17.aaload hx (j := 0) (v := (.ref w_IS)) (by rw [e17]; exact Ar19.1) (State.isArrayOf_alike hZ.alike Ar19.2.1) rfl Ar19.2.2 hin19 hat19 (g := (mkF m 68 #[.val (.int p1), .val (.ref b1), .val (.ref b12), .val (.int (0 : Int32))] [(.int (0 : Int32)), (.ref b1)])) rfl rfl (hb hby at_68) _ k) ?_
    show Go p e below (T17.setTop (mkF m 69 #[.val (.int p1), .val (.ref b1), .val (.ref b12), .val (.int (0 : Int32))] [(.ref w_IS)])) _
    obtain ⟨v20, T20, L20, X20, q20, st20⟩ := own_callV X17 hx hZ (y := (⟨"com/example/wombat/wombat/LockMode", "isIntention", "()Z"⟩ : MethodName)) (pc := 69) (Ls := #[.val (.int p1), .val (.ref b1), .val (.ref b12), .val (.int (0 : Int32))]) (st := [(.ref w_IS)]) hown (hw _ (List.mem_of_getElem? (i := 16) rfl)) (hw _ (List.mem_of_getElem? (i := 17) rfl)) (hw _ (List.mem_of_getElem? (i := 19) rfl)) (hw _ (List.mem_of_getElem? (i := 18) rfl)) (hw _ (List.mem_of_getElem? (i := 20) rfl)) (hw _ (List.mem_of_getElem? (i := 3) rfl)) (by decide) (rm_isIntention l Z a0 hw w_IS w_IS w_IX w_SIX h17 n0 Z17 S_IS_17 S_IX_17 S_SIX_17) e17 E_w_IS_17 pd_0 (hb hby at_69) (by rw [hml]; rfl) (argsL := []) (rest := []) rfl rfl rfl (W := 0) (Nat.le_of_eq rfl) (by decide) (by decide) (by decide) (by decide)
    obtain ⟨rfl, M20, e20⟩ := q20
    have N20 := Fr.app N17 M20
    have r20 : (f_isIntention w_IS w_IS w_IX w_SIX) = (1 : Int32) := by rw [f_isIntention, if_pos (rfl : w_IS = w_IS)]
    rw [r20] at st20
    refine Go.mp st20 ?_
    show Go p e below (T20.setTop (mkF m 72 #[.val (.int p1), .val (.ref b1), .val (.ref b12), .val (.int (0 : Int32))] [(.int (1 : Int32))])) _
    refine g_aloadN X20 hx (hb hby at_72) rfl rfl ?_
    refine g_iloadN X20 hx (hb hby at_73) rfl ?_
    obtain ⟨cl21, Ar21, -, sz21, -, Ha21, -⟩ := V_b12_17
    have hin21 : ¬ ((0 : Int32) < 0 ∨ cl21.slots.size ≤ (0 : Int32).toNatClampNeg) := by rw [sz21]; decide
    have hat21 : cl21.slots[(0 : Int32).toNatClampNeg]? = some (.int (1 : Int32)) := Ha21 0 (by rw [sz21]; decide)
    refine Go.mp (fun _ k => X20.baloadBooleans hx (j := 0) (v := (.int (1 : Int32))) (by rw [e20]; exact Ar21.1) (State.isArrayOf_alike hZ.alike Ar21.2.1) Ar21.2.2 hin21 hat21 (g := (mkF m 74 #[.val (.int p1), .val (.ref b1), .val (.ref b12), .val (.int (0 : Int32))] [(.int (0 : Int32)), (.ref b12), (.int (1 : Int32))])) rfl rfl (hb hby at_74) _ k) ?_
    show Go p e below (T20.setTop (mkF m 75 #[.val (.int p1), .val (.ref b1), .val (.ref b12), .val (.int (0 : Int32))] [(.int (1 : Int32)), (.int (1 : Int32))])) _
    refine g_icmpNo X20 hx (hb hby at_75) (teq ((by decide) : (1 : Int32) = (1 : Int32))).2 ?_
    refine g_iconst X20 hx (1 : Int32) (hb hby at_78) (by decide) ?_
    refine g_goto X20 hx 83 (hb hby at_79) (by decide) (by decide) ?_
    exact own_retZ X20 hx hret hlk (hb hby at_83) (by decide) (by decide) (by decide) ⟨rfl, N20⟩
  · rw [q18]
    refine g_istoreN X17 hx #[.val (.int p1), .val (.ref b1), .val (.ref b12), .val (.int (1 : Int32))] (hb hby at_65) rfl ?_
    refine g_aloadN X17 hx (hb hby at_66) rfl rfl ?_
    refine g_iloadN X17 hx (hb hby at_67) rfl ?_
    obtain ⟨cl22, Ar22, -, sz22, -, Ha22, -⟩ := V_b1_17
    have hin22 : ¬ ((1 : Int32) < 0 ∨ cl22.slots.size ≤ (1 : Int32).toNatClampNeg) := by rw [sz22]; decide
    have hat22 : cl22.slots[(1 : Int32).toNatClampNeg]? = some (.ref w_IX) := Ha22 1 (by rw [sz22]; decide)
    refine Go.mp (fun _ k => X17.aaload hx (j := 1) (v := (.ref w_IX)) (by rw [e17]; exact Ar22.1) (State.isArrayOf_alike hZ.alike Ar22.2.1) rfl Ar22.2.2 hin22 hat22 (g := (mkF m 68 #[.val (.int p1), .val (.ref b1), .val (.ref b12), .val (.int (1 : Int32))] [(.int (1 : Int32)), (.ref b1)])) rfl rfl (hb hby at_68) _ k) ?_
    show Go p e below (T17.setTop (mkF m 69 #[.val (.int p1), .val (.ref b1), .val (.ref b12), .val (.int (1 : Int32))] [(.ref w_IX)])) _
    obtain ⟨v23, T23, L23, X23, q23, st23⟩ := own_callV X17 hx hZ (y := (⟨"com/example/wombat/wombat/LockMode", "isIntention", "()Z"⟩ : MethodName)) (pc := 69) (Ls := #[.val (.int p1), .val (.ref b1), .val (.ref b12), .val (.int (1 : Int32))]) (st := [(.ref w_IX)]) hown (hw _ (List.mem_of_getElem? (i := 16) rfl)) (hw _ (List.mem_of_getElem? (i := 17) rfl)) (hw _ (List.mem_of_getElem? (i := 19) rfl)) (hw _ (List.mem_of_getElem? (i := 18) rfl)) (hw _ (List.mem_of_getElem? (i := 20) rfl)) (hw _ (List.mem_of_getElem? (i := 3) rfl)) (by decide) (rm_isIntention l Z a0 hw w_IX w_IS w_IX w_SIX h17 n0 Z17 S_IS_17 S_IX_17 S_SIX_17) e17 E_w_IX_17 pd_0 (hb hby at_69) (by rw [hml]; rfl) (argsL := []) (rest := []) rfl rfl rfl (W := 0) (Nat.le_of_eq rfl) (by decide) (by decide) (by decide) (by decide)
    obtain ⟨rfl, M23, e23⟩ := q23
    have N23 := Fr.app N17 M23
    have r23 : (f_isIntention w_IX w_IS w_IX w_SIX) = (1 : Int32) := by rw [f_isIntention, if_neg ((Ne.symm ne_IS_IX) : ¬ (w_IX = w_IS)), if_pos (rfl : w_IX = w_IX)]
    rw [r23] at st23
    refine Go.mp st23 ?_
    show Go p e below (T23.setTop (mkF m 72 #[.val (.int p1), .val (.ref b1), .val (.ref b12), .val (.int (1 : Int32))] [(.int (1 : Int32))])) _
    refine g_aloadN X23 hx (hb hby at_72) rfl rfl ?_
    refine g_iloadN X23 hx (hb hby at_73) rfl ?_
    obtain ⟨cl24, Ar24, -, sz24, -, Ha24, -⟩ := V_b12_17
    have hin24 : ¬ ((1 : Int32) < 0 ∨ cl24.slots.size ≤ (1 : Int32).toNatClampNeg) := by rw [sz24]; decide
    have hat24 : cl24.slots[(1 : Int32).toNatClampNeg]? = some (.int (1 : Int32)) := Ha24 1 (by rw [sz24]; decide)
    refine Go.mp (fun _ k => X23.baloadBooleans hx (j := 1) (v := (.int (1 : Int32))) (by rw [e23]; exact Ar24.1) (State.isArrayOf_alike hZ.alike Ar24.2.1) Ar24.2.2 hin24 hat24 (g := (mkF m 74 #[.val (.int p1), .val (.ref b1), .val (.ref b12), .val (.int (1 : Int32))] [(.int (1 : Int32)), (.ref b12), (.int (1 : Int32))])) rfl rfl (hb hby at_74) _ k) ?_
    show Go p e below (T23.setTop (mkF m 75 #[.val (.int p1), .val (.ref b1), .val (.ref b12), .val (.int (1 : Int32))] [(.int (1 : Int32)), (.int (1 : Int32))])) _
    refine g_icmpNo X23 hx (hb hby at_75) (teq ((by decide) : (1 : Int32) = (1 : Int32))).2 ?_
    refine g_iconst X23 hx (1 : Int32) (hb hby at_78) (by decide) ?_
    refine g_goto X23 hx 83 (hb hby at_79) (by decide) (by decide) ?_
    exact own_retZ X23 hx hret hlk (hb hby at_83) (by decide) (by decide) (by decide) ⟨rfl, N23⟩
  · rw [q18]
    refine g_istoreN X17 hx #[.val (.int p1), .val (.ref b1), .val (.ref b12), .val (.int (2 : Int32))] (hb hby at_65) rfl ?_
    refine g_aloadN X17 hx (hb hby at_66) rfl rfl ?_
    refine g_iloadN X17 hx (hb hby at_67) rfl ?_
    obtain ⟨cl25, Ar25, -, sz25, -, Ha25, -⟩ := V_b1_17
    have hin25 : ¬ ((2 : Int32) < 0 ∨ cl25.slots.size ≤ (2 : Int32).toNatClampNeg) := by rw [sz25]; decide
    have hat25 : cl25.slots[(2 : Int32).toNatClampNeg]? = some (.ref w_S) := Ha25 2 (by rw [sz25]; decide)
    refine Go.mp (fun _ k => X17.aaload hx (j := 2) (v := (.ref w_S)) (by rw [e17]; exact Ar25.1) (State.isArrayOf_alike hZ.alike Ar25.2.1) rfl Ar25.2.2 hin25 hat25 (g := (mkF m 68 #[.val (.int p1), .val (.ref b1), .val (.ref b12), .val (.int (2 : Int32))] [(.int (2 : Int32)), (.ref b1)])) rfl rfl (hb hby at_68) _ k) ?_
    show Go p e below (T17.setTop (mkF m 69 #[.val (.int p1), .val (.ref b1), .val (.ref b12), .val (.int (2 : Int32))] [(.ref w_S)])) _
    obtain ⟨v26, T26, L26, X26, q26, st26⟩ := own_callV X17 hx hZ (y := (⟨"com/example/wombat/wombat/LockMode", "isIntention", "()Z"⟩ : MethodName)) (pc := 69) (Ls := #[.val (.int p1), .val (.ref b1), .val (.ref b12), .val (.int (2 : Int32))]) (st := [(.ref w_S)]) hown (hw _ (List.mem_of_getElem? (i := 16) rfl)) (hw _ (List.mem_of_getElem? (i := 17) rfl)) (hw _ (List.mem_of_getElem? (i := 19) rfl)) (hw _ (List.mem_of_getElem? (i := 18) rfl)) (hw _ (List.mem_of_getElem? (i := 20) rfl)) (hw _ (List.mem_of_getElem? (i := 3) rfl)) (by decide) (rm_isIntention l Z a0 hw w_S w_IS w_IX w_SIX h17 n0 Z17 S_IS_17 S_IX_17 S_SIX_17) e17 E_w_S_17 pd_0 (hb hby at_69) (by rw [hml]; rfl) (argsL := []) (rest := []) rfl rfl rfl (W := 0) (Nat.le_of_eq rfl) (by decide) (by decide) (by decide) (by decide)
    obtain ⟨rfl, M26, e26⟩ := q26
    have N26 := Fr.app N17 M26
    have r26 : (f_isIntention w_S w_IS w_IX w_SIX) = (0 : Int32) := by rw [f_isIntention, if_neg ((Ne.symm ne_IS_S) : ¬ (w_S = w_IS)), if_neg ((Ne.symm ne_IX_S) : ¬ (w_S = w_IX)), if_neg ((Ne.symm ne_SIX_S) : ¬ (w_S = w_SIX))]
    rw [r26] at st26
    refine Go.mp st26 ?_
    show Go p e below (T26.setTop (mkF m 72 #[.val (.int p1), .val (.ref b1), .val (.ref b12), .val (.int (2 : Int32))] [(.int (0 : Int32))])) _
    refine g_aloadN X26 hx (hb hby at_72) rfl rfl ?_
    refine g_iloadN X26 hx (hb hby at_73) rfl ?_
    obtain ⟨cl27, Ar27, -, sz27, -, Ha27, -⟩ := V_b12_17
    have hin27 : ¬ ((2 : Int32) < 0 ∨ cl27.slots.size ≤ (2 : Int32).toNatClampNeg) := by rw [sz27]; decide
    have hat27 : cl27.slots[(2 : Int32).toNatClampNeg]? = some (.int (0 : Int32)) := Ha27 2 (by rw [sz27]; decide)
    refine Go.mp (fun _ k => X26.baloadBooleans hx (j := 2) (v := (.int (0 : Int32))) (by rw [e26]; exact Ar27.1) (State.isArrayOf_alike hZ.alike Ar27.2.1) Ar27.2.2 hin27 hat27 (g := (mkF m 74 #[.val (.int p1), .val (.ref b1), .val (.ref b12), .val (.int (2 : Int32))] [(.int (2 : Int32)), (.ref b12), (.int (0 : Int32))])) rfl rfl (hb hby at_74) _ k) ?_
    show Go p e below (T26.setTop (mkF m 75 #[.val (.int p1), .val (.ref b1), .val (.ref b12), .val (.int (2 : Int32))] [(.int (0 : Int32)), (.int (0 : Int32))])) _
    refine g_icmpNo X26 hx (hb hby at_75) (teq ((by decide) : (0 : Int32) = (0 : Int32))).2 ?_
    refine g_iconst X26 hx (1 : Int32) (hb hby at_78) (by decide) ?_
    refine g_goto X26 hx 83 (hb hby at_79) (by decide) (by decide) ?_
    exact own_retZ X26 hx hret hlk (hb hby at_83) (by decide) (by decide) (by decide) ⟨rfl, N26⟩
  · rw [q18]
    refine g_istoreN X17 hx #[.val (.int p1), .val (.ref b1), .val (.ref b12), .val (.int (3 : Int32))] (hb hby at_65) rfl ?_
    refine g_aloadN X17 hx (hb hby at_66) rfl rfl ?_
    refine g_iloadN X17 hx (hb hby at_67) rfl ?_
    obtain ⟨cl28, Ar28, -, sz28, -, Ha28, -⟩ := V_b1_17
    have hin28 : ¬ ((3 : Int32) < 0 ∨ cl28.slots.size ≤ (3 : Int32).toNatClampNeg) := by rw [sz28]; decide
    have hat28 : cl28.slots[(3 : Int32).toNatClampNeg]? = some (.ref w_SIX) := Ha28 3 (by rw [sz28]; decide)
    refine Go.mp (fun _ k => X17.aaload hx (j := 3) (v := (.ref w_SIX)) (by rw [e17]; exact Ar28.1) (State.isArrayOf_alike hZ.alike Ar28.2.1) rfl Ar28.2.2 hin28 hat28 (g := (mkF m 68 #[.val (.int p1), .val (.ref b1), .val (.ref b12), .val (.int (3 : Int32))] [(.int (3 : Int32)), (.ref b1)])) rfl rfl (hb hby at_68) _ k) ?_
    show Go p e below (T17.setTop (mkF m 69 #[.val (.int p1), .val (.ref b1), .val (.ref b12), .val (.int (3 : Int32))] [(.ref w_SIX)])) _
    obtain ⟨v29, T29, L29, X29, q29, st29⟩ := own_callV X17 hx hZ (y := (⟨"com/example/wombat/wombat/LockMode", "isIntention", "()Z"⟩ : MethodName)) (pc := 69) (Ls := #[.val (.int p1), .val (.ref b1), .val (.ref b12), .val (.int (3 : Int32))]) (st := [(.ref w_SIX)]) hown (hw _ (List.mem_of_getElem? (i := 16) rfl)) (hw _ (List.mem_of_getElem? (i := 17) rfl)) (hw _ (List.mem_of_getElem? (i := 19) rfl)) (hw _ (List.mem_of_getElem? (i := 18) rfl)) (hw _ (List.mem_of_getElem? (i := 20) rfl)) (hw _ (List.mem_of_getElem? (i := 3) rfl)) (by decide) (rm_isIntention l Z a0 hw w_SIX w_IS w_IX w_SIX h17 n0 Z17 S_IS_17 S_IX_17 S_SIX_17) e17 E_w_SIX_17 pd_0 (hb hby at_69) (by rw [hml]; rfl) (argsL := []) (rest := []) rfl rfl rfl (W := 0) (Nat.le_of_eq rfl) (by decide) (by decide) (by decide) (by decide)
    obtain ⟨rfl, M29, e29⟩ := q29
    have N29 := Fr.app N17 M29
    have r29 : (f_isIntention w_SIX w_IS w_IX w_SIX) = (1 : Int32) := by rw [f_isIntention, if_neg (ne_SIX_IS : ¬ (w_SIX = w_IS)), if_neg (ne_SIX_IX : ¬ (w_SIX = w_IX)), if_pos (rfl : w_SIX = w_SIX)]
    rw [r29] at st29
    refine Go.mp st29 ?_
    show Go p e below (T29.setTop (mkF m 72 #[.val (.int p1), .val (.ref b1), .val (.ref b12), .val (.int (3 : Int32))] [(.int (1 : Int32))])) _
    refine g_aloadN X29 hx (hb hby at_72) rfl rfl ?_
    refine g_iloadN X29 hx (hb hby at_73) rfl ?_
    obtain ⟨cl30, Ar30, -, sz30, -, Ha30, -⟩ := V_b12_17
    have hin30 : ¬ ((3 : Int32) < 0 ∨ cl30.slots.size ≤ (3 : Int32).toNatClampNeg) := by rw [sz30]; decide
    have hat30 : cl30.slots[(3 : Int32).toNatClampNeg]? = some (.int (1 : Int32)) := Ha30 3 (by rw [sz30]; decide)
    refine Go.mp (fun _ k => X29.baloadBooleans hx (j := 3) (v := (.int (1 : Int32))) (by rw [e29]; exact Ar30.1) (State.isArrayOf_alike hZ.alike Ar30.2.1) Ar30.2.2 hin30 hat30 (g := (mkF m 74 #[.val (.int p1), .val (.ref b1), .val (.ref b12), .val (.int (3 : Int32))] [(.int (3 : Int32)), (.ref b12), (.int (1 : Int32))])) rfl rfl (hb hby at_74) _ k) ?_
    show Go p e below (T29.setTop (mkF m 75 #[.val (.int p1), .val (.ref b1), .val (.ref b12), .val (.int (3 : Int32))] [(.int (1 : Int32)), (.int (1 : Int32))])) _
    refine g_icmpNo X29 hx (hb hby at_75) (teq ((by decide) : (1 : Int32) = (1 : Int32))).2 ?_
    refine g_iconst X29 hx (1 : Int32) (hb hby at_78) (by decide) ?_
    refine g_goto X29 hx 83 (hb hby at_79) (by decide) (by decide) ?_
    exact own_retZ X29 hx hret hlk (hb hby at_83) (by decide) (by decide) (by decide) ⟨rfl, N29⟩
  · rw [q18]
    refine g_istoreN X17 hx #[.val (.int p1), .val (.ref b1), .val (.ref b12), .val (.int (4 : Int32))] (hb hby at_65) rfl ?_
    refine g_aloadN X17 hx (hb hby at_66) rfl rfl ?_
    refine g_iloadN X17 hx (hb hby at_67) rfl ?_
    obtain ⟨cl31, Ar31, -, sz31, -, Ha31, -⟩ := V_b1_17
    have hin31 : ¬ ((4 : Int32) < 0 ∨ cl31.slots.size ≤ (4 : Int32).toNatClampNeg) := by rw [sz31]; decide
    have hat31 : cl31.slots[(4 : Int32).toNatClampNeg]? = some (.ref w_X) := Ha31 4 (by rw [sz31]; decide)
    refine Go.mp (fun _ k => X17.aaload hx (j := 4) (v := (.ref w_X)) (by rw [e17]; exact Ar31.1) (State.isArrayOf_alike hZ.alike Ar31.2.1) rfl Ar31.2.2 hin31 hat31 (g := (mkF m 68 #[.val (.int p1), .val (.ref b1), .val (.ref b12), .val (.int (4 : Int32))] [(.int (4 : Int32)), (.ref b1)])) rfl rfl (hb hby at_68) _ k) ?_
    show Go p e below (T17.setTop (mkF m 69 #[.val (.int p1), .val (.ref b1), .val (.ref b12), .val (.int (4 : Int32))] [(.ref w_X)])) _
    obtain ⟨v32, T32, L32, X32, q32, st32⟩ := own_callV X17 hx hZ (y := (⟨"com/example/wombat/wombat/LockMode", "isIntention", "()Z"⟩ : MethodName)) (pc := 69) (Ls := #[.val (.int p1), .val (.ref b1), .val (.ref b12), .val (.int (4 : Int32))]) (st := [(.ref w_X)]) hown (hw _ (List.mem_of_getElem? (i := 16) rfl)) (hw _ (List.mem_of_getElem? (i := 17) rfl)) (hw _ (List.mem_of_getElem? (i := 19) rfl)) (hw _ (List.mem_of_getElem? (i := 18) rfl)) (hw _ (List.mem_of_getElem? (i := 20) rfl)) (hw _ (List.mem_of_getElem? (i := 3) rfl)) (by decide) (rm_isIntention l Z a0 hw w_X w_IS w_IX w_SIX h17 n0 Z17 S_IS_17 S_IX_17 S_SIX_17) e17 E_w_X_17 pd_0 (hb hby at_69) (by rw [hml]; rfl) (argsL := []) (rest := []) rfl rfl rfl (W := 0) (Nat.le_of_eq rfl) (by decide) (by decide) (by decide) (by decide)
    obtain ⟨rfl, M32, e32⟩ := q32
    have N32 := Fr.app N17 M32
    have r32 : (f_isIntention w_X w_IS w_IX w_SIX) = (0 : Int32) := by rw [f_isIntention, if_neg ((Ne.symm ne_IS_X) : ¬ (w_X = w_IS)), if_neg ((Ne.symm ne_IX_X) : ¬ (w_X = w_IX)), if_neg ((Ne.symm ne_SIX_X) : ¬ (w_X = w_SIX))]
    rw [r32] at st32
    refine Go.mp st32 ?_
    show Go p e below (T32.setTop (mkF m 72 #[.val (.int p1), .val (.ref b1), .val (.ref b12), .val (.int (4 : Int32))] [(.int (0 : Int32))])) _
    refine g_aloadN X32 hx (hb hby at_72) rfl rfl ?_
    refine g_iloadN X32 hx (hb hby at_73) rfl ?_
    obtain ⟨cl33, Ar33, -, sz33, -, Ha33, -⟩ := V_b12_17
    have hin33 : ¬ ((4 : Int32) < 0 ∨ cl33.slots.size ≤ (4 : Int32).toNatClampNeg) := by rw [sz33]; decide
    have hat33 : cl33.slots[(4 : Int32).toNatClampNeg]? = some (.int (0 : Int32)) := Ha33 4 (by rw [sz33]; decide)
    refine Go.mp (fun _ k => X32.baloadBooleans hx (j := 4) (v := (.int (0 : Int32))) (by rw [e32]; exact Ar33.1) (State.isArrayOf_alike hZ.alike Ar33.2.1) Ar33.2.2 hin33 hat33 (g := (mkF m 74 #[.val (.int p1), .val (.ref b1), .val (.ref b12), .val (.int (4 : Int32))] [(.int (4 : Int32)), (.ref b12), (.int (0 : Int32))])) rfl rfl (hb hby at_74) _ k) ?_
    show Go p e below (T32.setTop (mkF m 75 #[.val (.int p1), .val (.ref b1), .val (.ref b12), .val (.int (4 : Int32))] [(.int (0 : Int32)), (.int (0 : Int32))])) _
    refine g_icmpNo X32 hx (hb hby at_75) (teq ((by decide) : (0 : Int32) = (0 : Int32))).2 ?_
    refine g_iconst X32 hx (1 : Int32) (hb hby at_78) (by decide) ?_
    refine g_goto X32 hx 83 (hb hby at_79) (by decide) (by decide) ?_
    exact own_retZ X32 hx hret hlk (hb hby at_83) (by decide) (by decide) (by decide) ⟨rfl, N32⟩
set_option maxRecDepth 65536 in
set_option maxHeartbeats 40000000 in
theorem comes_1 {Post : Tables → Env → Array Value → State → Outcome → State → Prop} (hpost : ∀ tb e args s v u, (limb_1_1.after args s (.returned v) u = true ∧ limb_1_2.after args s (.returned v) u = true ∧ True) → FrameEnd s (.returned v) u (Jvm.fieldLocs frame_1_writes args s ++ Jvm.arrayLocs frame_1_arrays args s ++ Jvm.staticLocs frame_1_statics s) 16 128 → Post tb e args s (.returned v) u) :
    ArmFor flags0 classFile x code maxLocals ret World_1 tables_1 room_1 Calls_1 rest_1 Pre_1 Post := by
  intro l hfl _ _ p e ha hc hk s m args below hf hA hF happ hP
  obtain ⟨hcalls, hrest, hpre⟩ := hP
  obtain ⟨-, -, -, hnamed, -, -, -, hat⟩ := (Spec.applies_iff hf).mp happ
  obtain ⟨hg, hn⟩ := and_e (Cond.before_iff.mp (show (Jvm.Cond.and given_1 narrow_1).before args s = true from hpre))
  obtain ⟨hcnt, hg⟩ := and_e hg
  obtain ⟨w0, rfl⟩ : ∃ w0 : Value, args = #[w0] := by
    have hs : args.size = 1 := by simpa [Cond.value, given_1] using hcnt
    obtain ⟨L⟩ := args
    match L, hs with
    | [w0], _ => exact ⟨w0, rfl⟩
  have hw := fun d (hd : d ∈ tables_1) => atoms_spec (ws := Jvm.Cond.code x code maxLocals ret :: tables_1) hat d (List.mem_cons_of_mem _ hd)
  obtain ⟨p1, ep1⟩ := is_v hg
  obtain rfl : w0 = (.int p1) := Option.some.inj ep1
  obtain ⟨hn0, hm0⟩ := and_e hn
  obtain ⟨w_IS, S_IS, E_IS, ev_IS⟩ := own_sta hn0 (hw _ (List.mem_of_getElem? (i := 3) rfl)) (hw _ (List.mem_of_getElem? (i := 4) rfl))
  obtain ⟨hn1, hm1⟩ := and_e hm0
  obtain ⟨w_IX, S_IX, E_IX, ev_IX⟩ := own_sta hn1 (hw _ (List.mem_of_getElem? (i := 3) rfl)) (hw _ (List.mem_of_getElem? (i := 7) rfl))
  obtain ⟨hn2, hm2⟩ := and_e hm1
  obtain ⟨w_S, S_S, E_S, ev_S⟩ := own_sta hn2 (hw _ (List.mem_of_getElem? (i := 3) rfl)) (hw _ (List.mem_of_getElem? (i := 9) rfl))
  obtain ⟨hn3, hm3⟩ := and_e hm2
  obtain ⟨w_SIX, S_SIX, E_SIX, ev_SIX⟩ := own_sta hn3 (hw _ (List.mem_of_getElem? (i := 3) rfl)) (hw _ (List.mem_of_getElem? (i := 11) rfl))
  obtain ⟨hn4, hm4⟩ := and_e hm3
  obtain ⟨w_X, S_X, E_X, ev_X⟩ := own_sta hn4 (hw _ (List.mem_of_getElem? (i := 3) rfl)) (hw _ (List.mem_of_getElem? (i := 13) rfl))
  obtain ⟨hn5, hm5⟩ := and_e hm4
  have O_SIX_ordinal_h := hn5
  obtain ⟨hn6, hm6⟩ := and_e hm5
  have O_IS_ordinal_h := hn6
  obtain ⟨hn7, hm7⟩ := and_e hm6
  have O_IX_ordinal_h := hn7
  obtain ⟨hn8, hm8⟩ := and_e hm7
  have O_X_ordinal_h := hn8
  have O_S_ordinal_h := hm8
  have O_SIX_ordinal := own_ord O_SIX_ordinal_h ev_SIX
  have O_IS_ordinal := own_ord O_IS_ordinal_h ev_IS
  have O_IX_ordinal := own_ord O_IX_ordinal_h ev_IX
  have O_X_ordinal := own_ord O_X_ordinal_h ev_X
  have O_S_ordinal := own_ord O_S_ordinal_h ev_S
  obtain ⟨n, o, h1, h2, h3, _, L, rfl, ⟨rfl, N⟩, hq⟩ := rm_law l s _ hw p1 w_IS w_IX w_S w_SIX w_X s.heap s.heap.size (Nat.le_refl _) S_IS E_IS S_IX E_IX S_S E_S S_SIX E_SIX S_X E_X (own_ne O_SIX_ordinal O_IS_ordinal (by decide)) (own_ne O_SIX_ordinal O_IX_ordinal (by decide)) (own_ne O_SIX_ordinal O_X_ordinal (by decide)) (own_ne O_SIX_ordinal O_S_ordinal (by decide)) (own_ne O_IS_ordinal O_IX_ordinal (by decide)) (own_ne O_IS_ordinal O_X_ordinal (by decide)) (own_ne O_IS_ordinal O_S_ordinal (by decide)) (own_ne O_IX_ordinal O_X_ordinal (by decide)) (own_ne O_IX_ordinal O_S_ordinal (by decide)) (own_ne O_X_ordinal O_S_ordinal (by decide)) p e ha hc hk s m _ below hf ((Spec.applies_iff_loose hf).mp happ).1 ⟨rfl, State.Warmed39.refl s, rfl⟩ trivial
  refine ⟨n, _, h1, h2, h3, hpost _ _ _ _ _ _ ⟨Cond.after_iff.mpr rfl, Cond.after_iff.mpr (eq_i res_at (Term.int_eval (1)) rfl), trivial⟩ ⟨hq.1, hq.2.1, (hq.2.2.sift fun y hy => Or.inr (N y hy)).mono (by decide) (by decide)⟩⟩
theorem main_1_1 : Claimed_1_1 := comes_1 fun _ _ _ _ _ _ h hF => ⟨h.1, hF⟩
theorem main_1_2 : Claimed_1_2 := comes_1 fun _ _ _ _ _ _ h hF => ⟨h.2.1, hF⟩
end Jvm.Pilot.@@N@@
namespace Jvm.Pilot.@@N@@
open Jvm Jvm.ClassFile Sem Op Lib Jvm.Free Jvm.Stand Jvm.Pilot.@@N@@.Jvm.D
/-! MADE BY PROGRAM (witnessworld.py) out of the Statement's table words and the real class files: 15 classes; the members and pool entries that the words name. The judged class is class 1, her method 1. -/
namespace start1
open Jvm.ClassFile
def u (s : String) : CpInfo := .utf8 (stringToUtf16 s)
/-- a pool by its gaps: so many unusable entries, then the entry; so many at the end -/
def gap : Nat → List CpInfo → List CpInfo
  | 0, r => r
  | n + 1, r => .unusable :: gap n r
def poolList (es : List (Nat × CpInfo)) (last : Nat) : List CpInfo := es.foldr (fun e r => gap e.1 (e.2 :: r)) (gap last [])
def pool (es : List (Nat × CpInfo)) (last : Nat) : Array CpInfo := ⟨poolList es last⟩
def fileOf (pool : Array CpInfo) (this : Nat) (attrs : Array Attribute := #[]) (ms : Array MethodInfo := #[]) (fl : Nat := 33) (sup : Nat := 0) (ifs : Array Nat := #[]) (fds : Array FieldInfo := #[]) : ClassFile where
  minorVersion := 0
  majorVersion := 65
  constantPool := pool
  accessFlags := fl
  thisClass := this
  superClass := sup
  interfaces := ifs
  fields := fds
  methods := ms
  attributes := attrs
def plain (name : String) (sup : Option ClassId) : Class where
  name := name
  kind := .ordinary
  loader := none
  accessFlags := 33
  super := sup
  interfaces := #[]
  cf := none
  fields := #[]
  methods := #[]
  instanceTypes := #[]
  staticTypes := #[]
  resolved := #[]
  callSites := []
  init := .initialized
  statics := none
  mirror := none

def pool0 : Array CpInfo := pool [(5, u "<init>"), (0, u "()V"), (1, .class_ 10), (1, u "java/lang/Object")] 113

def k0m0 : Method := { name := "<init>", desc := "()V", sig := { parameters := [], returnType := none }, accessFlags := 1, code := none }
/-- java/lang/Object -/
def k0 : Class := { plain "java/lang/Object" none with
  accessFlags := 33
  interfaces := #[]
  cf := some (fileOf pool0 8 #[] #[{ accessFlags := 1, nameIndex := 5, descriptorIndex := 6, attributes := #[] }] 33 0 #[] #[])
  fields := #[]
  methods := #[k0m0]
  instanceTypes := #[]
  staticTypes := #[]
  resolved := Array.replicate 124 none
  statics := none }

def pool1 : Array CpInfo := pool [(2, .class_ 4), (1, u "java/lang/Object"), (0, u "<init>"), (0, u "()V"), (0, .class_ 8), (0, u "com/example/wombat/wombat/LockMode"), (0, .fieldref 7 10), (0, .nameAndType 11 12), (0, u "IS"), (0, u "Lcom/example/wombat/wombat/LockMode;"), (0, .fieldref 7 14), (0, .nameAndType 15 12), (0, u "IX"), (0, .fieldref 7 17), (0, .nameAndType 18 12), (0, u "S"), (0, .fieldref 7 20), (0, .nameAndType 21 12), (0, u "SIX"), (0, .fieldref 7 23), (0, .nameAndType 24 12), (0, u "X"), (0, .integer 2147483647), (0, .methodref 7 27), (0, .nameAndType 28 29), (0, u "isIntention"), (0, u "()Z"), (0, .class_ 31), (0, u "com/example/wombat/wombat/LockModeIsIntentionPinLaw"), (2, u "law"), (0, u "(I)Z")] 7

def k1m0 : Method := { name := "<init>", desc := "()V", sig := { parameters := [], returnType := none }, accessFlags := 2, code := none }
def k1c1 : Code := { maxStack := 4, maxLocals := 4, code := code, exceptionTable := #[], attributes := #[] }
def k1m1 : Method := { name := "law", desc := "(I)Z", sig := { parameters := [.int], returnType := some .boolean }, accessFlags := 9, code := some k1c1 }
/-- com/example/wombat/wombat/LockModeIsIntentionPinLaw -/
def k1 : Class := { plain "com/example/wombat/wombat/LockModeIsIntentionPinLaw" (some 0) with
  accessFlags := 49
  interfaces := #[]
  cf := some (fileOf pool1 30 #[] #[{ accessFlags := 2, nameIndex := 5, descriptorIndex := 6, attributes := #[] }, { accessFlags := 9, nameIndex := 34, descriptorIndex := 35, attributes := #[] }] 49 2 #[] #[])
  fields := #[]
  methods := #[k1m0, k1m1]
  instanceTypes := #[]
  staticTypes := #[]
  resolved := Array.replicate 43 none
  statics := none }

def pool2 : Array CpInfo := pool [(1, .class_ 2), (0, u "java/lang/constant/Constable"), (0, .class_ 4), (0, u "java/lang/Object")] 6

/-- java/lang/constant/Constable -/
def k2 : Class := { plain "java/lang/constant/Constable" (some 0) with
  accessFlags := 1537
  interfaces := #[]
  cf := some (fileOf pool2 1 #[] #[] 1537 3 #[] #[])
  fields := #[]
  methods := #[]
  instanceTypes := #[]
  staticTypes := #[]
  resolved := Array.replicate 11 none
  statics := none }

def pool3 : Array CpInfo := pool [(1, .class_ 2), (0, u "java/lang/Comparable"), (0, .class_ 4), (0, u "java/lang/Object")] 7

/-- java/lang/Comparable -/
def k3 : Class := { plain "java/lang/Comparable" (some 0) with
  accessFlags := 1537
  interfaces := #[]
  cf := some (fileOf pool3 1 #[] #[] 1537 3 #[] #[])
  fields := #[]
  methods := #[]
  instanceTypes := #[]
  staticTypes := #[]
  resolved := Array.replicate 12 none
  statics := none }

def pool4 : Array CpInfo := pool [(1, .class_ 2), (0, u "java/io/Serializable"), (0, .class_ 4), (0, u "java/lang/Object")] 2

/-- java/io/Serializable -/
def k4 : Class := { plain "java/io/Serializable" (some 0) with
  accessFlags := 1537
  interfaces := #[]
  cf := some (fileOf pool4 1 #[] #[] 1537 3 #[] #[])
  fields := #[]
  methods := #[]
  instanceTypes := #[]
  staticTypes := #[]
  resolved := Array.replicate 7 none
  statics := none }

def pool5 : Array CpInfo := pool [(2, .class_ 4), (1, u "java/lang/Enum"), (0, u "name"), (0, u "Ljava/lang/String;"), (2, u "ordinal"), (0, u "I"), (1, .class_ 14), (1, u "java/lang/Object"), (4, u "hash"), (86, .class_ 108), (1, u "java/lang/Enum$EnumDesc"), (2, .class_ 112), (0, u "java/lang/constant/Constable"), (0, .class_ 114), (0, u "java/lang/Comparable"), (0, .class_ 116), (0, u "java/io/Serializable")] 87

/-- java/lang/Enum -/
def k5 : Class := { plain "java/lang/Enum" (some 0) with
  accessFlags := 1057
  interfaces := #[2, 3, 4]
  cf := some (fileOf pool5 2 #[.nestMembers #[106]] #[] 1057 12 #[111, 113, 115] #[{ accessFlags := 18, nameIndex := 5, descriptorIndex := 6, attributes := #[] }, { accessFlags := 18, nameIndex := 9, descriptorIndex := 10, attributes := #[] }, { accessFlags := 2, nameIndex := 19, descriptorIndex := 10, attributes := #[] }])
  fields := #[{ name := "name", type := (.object "java/lang/String"), accessFlags := 18, slot := 0, constantValue := 0 }, { name := "ordinal", type := .int, accessFlags := 18, slot := 1, constantValue := 0 }, { name := "hash", type := .int, accessFlags := 2, slot := 2, constantValue := 0 }]
  methods := #[]
  instanceTypes := #[(.object "java/lang/String"), .int, .int]
  staticTypes := #[]
  resolved := Array.replicate 204 none
  statics := none }

def pool6 : Array CpInfo := pool [(1, .class_ 2), (0, u "com/example/wombat/wombat/LockMode"), (0, .fieldref 1 4), (0, .nameAndType 5 6), (0, u "IS"), (0, u "Lcom/example/wombat/wombat/LockMode;"), (0, .fieldref 1 8), (0, .nameAndType 9 6), (0, u "IX"), (2, u "S"), (0, .fieldref 1 14), (0, .nameAndType 15 6), (0, u "SIX"), (2, u "X"), (2, u "$VALUES"), (0, u "[Lcom/example/wombat/wombat/LockMode;"), (6, .class_ 31), (1, u "java/lang/Enum"), (18, u "compatible"), (0, u "I"), (9, u "WEAKEST_FIRST"), (35, u "RS"), (2, u "RX"), (2, u "SRX"), (5, u "ALL"), (11, u "isIntention"), (0, u "()Z")] 8

def k6c0 : Code := { maxStack := 2, maxLocals := 1, code := prog_9_method_9_code, exceptionTable := #[], attributes := #[] }
def k6m0 : Method := { name := "isIntention", desc := "()Z", sig := { parameters := [], returnType := some .boolean }, accessFlags := 0, code := some k6c0 }
/-- com/example/wombat/wombat/LockMode -/
def k6 : Class := { plain "com/example/wombat/wombat/LockMode" (some 5) with
  accessFlags := 16433
  interfaces := #[]
  cf := some (fileOf pool6 1 #[] #[{ accessFlags := 0, nameIndex := 121, descriptorIndex := 122, attributes := #[] }] 16433 29 #[] #[{ accessFlags := 16409, nameIndex := 5, descriptorIndex := 6, attributes := #[] }, { accessFlags := 16409, nameIndex := 9, descriptorIndex := 6, attributes := #[] }, { accessFlags := 16409, nameIndex := 12, descriptorIndex := 6, attributes := #[] }, { accessFlags := 16409, nameIndex := 15, descriptorIndex := 6, attributes := #[] }, { accessFlags := 16409, nameIndex := 18, descriptorIndex := 6, attributes := #[] }, { accessFlags := 25, nameIndex := 97, descriptorIndex := 6, attributes := #[] }, { accessFlags := 25, nameIndex := 100, descriptorIndex := 6, attributes := #[] }, { accessFlags := 25, nameIndex := 103, descriptorIndex := 6, attributes := #[] }, { accessFlags := 26, nameIndex := 61, descriptorIndex := 22, attributes := #[] }, { accessFlags := 24, nameIndex := 109, descriptorIndex := 51, attributes := #[] }, { accessFlags := 18, nameIndex := 50, descriptorIndex := 51, attributes := #[] }, { accessFlags := 4122, nameIndex := 21, descriptorIndex := 22, attributes := #[] }])
  fields := #[{ name := "IS", type := (.object "com/example/wombat/wombat/LockMode"), accessFlags := 16409, slot := 0, constantValue := 0 }, { name := "IX", type := (.object "com/example/wombat/wombat/LockMode"), accessFlags := 16409, slot := 1, constantValue := 0 }, { name := "S", type := (.object "com/example/wombat/wombat/LockMode"), accessFlags := 16409, slot := 2, constantValue := 0 }, { name := "SIX", type := (.object "com/example/wombat/wombat/LockMode"), accessFlags := 16409, slot := 3, constantValue := 0 }, { name := "X", type := (.object "com/example/wombat/wombat/LockMode"), accessFlags := 16409, slot := 4, constantValue := 0 }, { name := "RS", type := (.object "com/example/wombat/wombat/LockMode"), accessFlags := 25, slot := 5, constantValue := 0 }, { name := "RX", type := (.object "com/example/wombat/wombat/LockMode"), accessFlags := 25, slot := 6, constantValue := 0 }, { name := "SRX", type := (.object "com/example/wombat/wombat/LockMode"), accessFlags := 25, slot := 7, constantValue := 0 }, { name := "WEAKEST_FIRST", type := (.array (.object "com/example/wombat/wombat/LockMode")), accessFlags := 26, slot := 8, constantValue := 0 }, { name := "ALL", type := .int, accessFlags := 24, slot := 9, constantValue := 0 }, { name := "compatible", type := .int, accessFlags := 18, slot := 3, constantValue := 0 }, { name := "$VALUES", type := (.array (.object "com/example/wombat/wombat/LockMode")), accessFlags := 4122, slot := 10, constantValue := 0 }]
  methods := #[k6m0]
  instanceTypes := #[(.object "java/lang/String"), .int, .int, .int]
  staticTypes := #[(.object "com/example/wombat/wombat/LockMode"), (.object "com/example/wombat/wombat/LockMode"), (.object "com/example/wombat/wombat/LockMode"), (.object "com/example/wombat/wombat/LockMode"), (.object "com/example/wombat/wombat/LockMode"), (.object "com/example/wombat/wombat/LockMode"), (.object "com/example/wombat/wombat/LockMode"), (.object "com/example/wombat/wombat/LockMode"), (.array (.object "com/example/wombat/wombat/LockMode")), .int, (.array (.object "com/example/wombat/wombat/LockMode"))]
  resolved := Array.replicate 131 none
  statics := some 0 }

def pool7 : Array CpInfo := pool [(1, u "java/lang/Cloneable"), (0, .class_ 1), (0, u "java/lang/Object"), (0, .class_ 3)] 3

/-- java/lang/Cloneable -/
def k7 : Class := { plain "java/lang/Cloneable" (some 0) with
  accessFlags := 1537
  interfaces := #[]
  cf := some (fileOf pool7 2 #[] #[] 1537 4 #[] #[])
  fields := #[]
  methods := #[]
  instanceTypes := #[]
  staticTypes := #[]
  resolved := Array.replicate 8 none
  statics := none }

/-- the primitive boolean -/
def k8 : Class := { plain "boolean" none with kind := .primitive 'Z', accessFlags := 0x411 }
/-- [Z -/
def k9 : Class := { plain "[Z" (some 0) with kind := .array 8 .boolean, interfaces := #[7, 4], accessFlags := 1041 }

/-- the primitive byte -/
def k10 : Class := { plain "byte" none with kind := .primitive 'B', accessFlags := 0x411 }
/-- [B -/
def k11 : Class := { plain "[B" (some 0) with kind := .array 10 .byte, interfaces := #[7, 4], accessFlags := 1041 }

/-- the primitive int -/
def k12 : Class := { plain "int" none with kind := .primitive 'I', accessFlags := 0x411 }
/-- [I -/
def k13 : Class := { plain "[I" (some 0) with kind := .array 12 .int, interfaces := #[7, 4], accessFlags := 1041 }

/-- [Lcom/example/wombat/wombat/LockMode; -/
def k14 : Class := { plain "[Lcom/example/wombat/wombat/LockMode;" (some 0) with kind := .array 6 (.object "com/example/wombat/wombat/LockMode"), interfaces := #[7, 4], accessFlags := 1041 }

def heap : Heap := #[{ cls := 6, slots := #[.ref 1, .ref 2, .ref 3, .ref 4, .ref 5, .null, .null, .null, .null, .int 0, .null], vm := .statics 6 },
  { cls := 6, slots := #[.null, .int 0, .int 0, .int 0], vm := .none },
  { cls := 6, slots := #[.null, .int 1, .int 0, .int 0], vm := .none },
  { cls := 6, slots := #[.null, .int 2, .int 0, .int 0], vm := .none },
  { cls := 6, slots := #[.null, .int 3, .int 0, .int 0], vm := .none },
  { cls := 6, slots := #[.null, .int 4, .int 0, .int 0], vm := .none }]
def classes : Array Class := #[k0, k1, k2, k3, k4, k5, k6, k7, k8, k9, k10, k11, k12, k13, k14]
def interned : List (Array UInt16 × Addr) := []
def slotsUsed : Nat := 31
def theMethod : MethodId := ⟨1, 1⟩
def args0 : Array Value := #[.int 5]
def aboutOver (below : List Frame) : State where
  vm := { classes := classes, interned := interned.toArray }
  heap := heap
  slotsUsed := slotsUsed
  threads := #[{ frames := .invoking theMethod args0 :: below }]
def below0 : List Frame := [.native { method := ⟨0, 0⟩, args := #[] }]
def about1 : State := aboutOver below0
def p0 : Program := .bare "" "" ""
def e0 : Env := launch0.env 0 0 0
theorem w_frames : about1.frames = Frame.invoking theMethod args0 :: below0 := rfl
set_option maxRecDepth 65536 in
theorem w_args : argsFit about1.vm theMethod args0 = true := by decide +kernel
set_option maxRecDepth 65536 in
theorem w_heap : heapFits about1 = true := by decide +kernel
set_option maxRecDepth 65536 in
theorem w_runnable : about1.curStatus? = some .runnable := by decide +kernel
set_option maxRecDepth 65536 in
theorem w_alone : about1.alone = true := by decide +kernel
set_option maxRecDepth 65536 in
theorem w_named : about1.methodNamed? x = some theMethod := by decide +kernel
set_option maxRecDepth 65536 in
theorem w_hears : about1.hears theMethod below0 = true := by decide +kernel
set_option maxRecDepth 65536 in
theorem w_ripe : about1.ripe theMethod args0 below0 = true := by decide +kernel
theorem w_running : about1.status = .running := rfl
set_option maxRecDepth 65536 in
theorem w_room : about1.hasRoom e0.platform room_1 = true :=
  launch0.hasRoom_least _ room_1 (by decide +kernel) (by decide +kernel) (by decide +kernel) (by decide +kernel) (by decide +kernel) (by decide +kernel)
theorem allAtoms_all (ts : List Jvm.Cond) (a : Array Jvm.Value) (st : Jvm.State) : (allAtoms ts).before a st = ts.all (fun c => c.before a st) := by
  induction ts with
  | nil => rfl
  | cons c t ih =>
    show (Jvm.Cond.and c (allAtoms t)).before a st = _
    rw [Jvm.Cond.before_and, ih, List.all_cons]
def words1 : List Jvm.Cond := Jvm.Cond.code x code maxLocals ret :: tables_1
/-- a 'code' word, met by the world's own term for the bytes: nothing is compared byte by byte -/
theorem code_word {y : MethodName} {bytes : ByteArray} {mx : Nat} {rt : Option FieldType} {a : Array Value} {s : State} {m : MethodId} {meth : Method} {c : Code} (h1 : s.methodNamed? y = some m) (h2 : s.vm.method? m = some meth) (h3 : meth.code = some c) (h4 : c.code = bytes)
    (h5 : (c.maxLocals == mx && c.exceptionTable.isEmpty && decide (c.maxStack ≤ mostOperands) && decide (meth.sig.returnType = rt) && !meth.locks && decide (parseMethodDescriptor y.desc = some meth.sig)) = true) : (Jvm.Cond.code y bytes mx rt).before a s = true := by
  simp only [Bool.and_eq_true, beq_iff_eq, Bool.not_eq_true', decide_eq_true_eq] at h5
  obtain ⟨⟨⟨⟨⟨g1, g2⟩, g3⟩, g4⟩, g5⟩, g6⟩ := h5
  simp [Cond.before, Cond.holds, Cond.value, h1, h2, h3, h4, g1, g2, g3, g4, g5, g6]
def isCode : Jvm.Cond → Bool
  | .code _ _ _ _ => true
  | _ => false
theorem all_split {L : List Jvm.Cond} {P : Jvm.Cond → Bool} (h1 : L.all (fun c => isCode c || P c) = true) (h2 : ∀ c ∈ L.filter isCode, P c = true) : L.all P = true := by
  refine List.all_eq_true.mpr fun c hc => ?_
  have h := List.all_eq_true.mp h1 c hc
  rcases Bool.eq_false_or_eq_true (isCode c) with hi | hi
  · exact h2 c (List.mem_filter.mpr ⟨hc, hi⟩)
  · simpa [hi] using h
set_option maxRecDepth 65536 in
theorem w_c0 : (Jvm.Cond.code x code maxLocals ret).before args0 about1 = true := code_word (m := ⟨1, 1⟩) (meth := k1m1) (c := k1c1) (by decide +kernel) rfl rfl rfl (by decide +kernel)
set_option maxRecDepth 65536 in
theorem w_c1 : (Jvm.Cond.code ({ cls := "com/example/wombat/wombat/LockMode", name := "isIntention", desc := "()Z" } : Jvm.MethodName) prog_9_method_9_code (1 : Nat) (Option.some Jvm.ClassFile.FieldType.boolean)).before args0 about1 = true := code_word (m := ⟨6, 0⟩) (meth := k6m0) (c := k6c0) (by decide +kernel) rfl rfl rfl (by decide +kernel)
def codes1 : List Jvm.Cond := [Jvm.Cond.code x code maxLocals ret, Jvm.Cond.code ({ cls := "com/example/wombat/wombat/LockMode", name := "isIntention", desc := "()Z" } : Jvm.MethodName) prog_9_method_9_code (1 : Nat) (Option.some Jvm.ClassFile.FieldType.boolean)]
set_option maxRecDepth 65536 in
theorem codes_eq : words1.filter isCode = codes1 := rfl
theorem w_codes : ∀ c ∈ words1.filter isCode, c.before args0 about1 = true := by
  rw [codes_eq]
  intro c hc
  simp only [codes1, List.mem_cons, List.not_mem_nil, or_false] at hc
  rcases hc with rfl | rfl
  · exact w_c0
  · exact w_c1
set_option maxRecDepth 65536 in
theorem w_t1 : (words1.take 24).all (fun c => isCode c || c.before args0 about1) = true := by decide +kernel
set_option maxRecDepth 65536 in
theorem w_t2 : (words1.drop 24).all (fun c => isCode c || c.before args0 about1) = true := by decide +kernel
theorem w_tables : (allAtoms (Jvm.Cond.code x code maxLocals ret :: tables_1)).before args0 about1 = true := by
  rw [allAtoms_all]
  show words1.all (fun c => c.before args0 about1) = true
  refine all_split ?_ w_codes
  rw [← List.take_append_drop 24 words1, List.all_append, w_t1, w_t2]
  rfl
set_option maxRecDepth 65536 in
theorem w_case : (Jvm.Cond.and given_1 narrow_1).before args0 about1 = true := by decide +kernel
theorem w_applies : (headSpec (Jvm.Cond.code x code maxLocals ret :: tables_1) room_1).applies x e0.platform about1 = true :=
  (Spec.applies_iff w_frames).mpr ⟨w_running, w_runnable, w_alone, w_named, w_hears, w_ripe, w_room, w_tables⟩
theorem atStart : AtStart classFile x code maxLocals ret World_1 tables_1 room_1 Calls_1 rest_1 Pre_1 launch0 p0 e0 about1 theMethod args0 below0 :=
  ⟨lists_1, trivial, launch0.admits_env _ _ _, launch0.least_env, fairChoices_fair.cas, fairChoices_fair.clock, w_frames, w_args, w_heap, w_applies, trivial, trivial, w_case⟩
end start1
theorem witness_1 : WitnessClaimed_1 := ⟨start1.p0, start1.e0, start1.about1, start1.theMethod, start1.args0, start1.below0, start1.atStart⟩
end Jvm.Pilot.@@N@@
