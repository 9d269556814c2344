import JvmDerived
import JvmDerived.Pilot.@@N@@Statement
import JvmDerived.Pilot.@@N@@Code
set_option linter.unusedVariables false
set_option linter.unusedSimpArgs false
namespace Jvm.Pilot.@@N@@
open Jvm Jvm.ClassFile Sem Op Lib Jvm.Free Jvm.Stand Jvm.LawKit Jvm.RoadKit Bundle Jvm.Pilot.@@N@@.Jvm.D
section Own
variable {p : Program} {l : Launch} {e : Env} {R : Room} {s : State} {m : MethodId} {args : Array Value} {below : List Frame} {meth : Method} {c : Code} {T : State} {locs : List Loc} {cells slots : Nat}
/-- from U the run comes back to 'below' and its end is as P says -/
def Go (p : Program) (e : Env) (below : List Frame) (U : State) (P : Outcome → State → Prop) : Prop := ∃ s₂ o, Steps p.tables e below U s₂ ∧ s₂.status = .running ∧ Ended s₂ below o ∧ P o s₂
theorem Go.mp {U U' : State} {P : Outcome → State → Prop} (h : ∀ t, Steps p.tables e below U' t → Steps p.tables e below U t) (k : Go p e below U' P) : Go p e below U P := by
  obtain ⟨a, b, c, d⟩ := k; exact ⟨a, b, h _ c, d⟩
/-- how a body ends -/
def FinE (s : State) (kc ks : Nat) (Q : Option Value → Heap → List Loc → Prop) (o : Outcome) (t : State) : Prop := ∃ v L, o = .returned v ∧ Q v t.heap L ∧ FrameEnd s o t L kc ks
/-- a body's contract -/
abbrev Ctr (l : Launch) (y : MethodName) (bytes : ByteArray) (maxL : Nat) (ret : Option FieldType) (ws : List Jvm.Cond) (rm : Room) (Z : State) (as' : Array Value) (h : Heap) (Q : Option Value → Heap → List Loc → Prop) : Prop :=
  MetFree l y (head1 (Jvm.Cond.code y bytes maxL ret :: ws) rm) (fun a U => a = as' ∧ Z.Warmed39 U.vm ∧ U.heap = h) (fun _ _ _ _ _ => True) (fun _ U o U' => ∃ v L, o = .returned v ∧ Q v U'.heap L ∧ FrameEnd U o U' L rm.cells rm.slots)
theorem own_enter {y : MethodName} {bytes : ByteArray} {maxL : Nat} {ret : Option FieldType} {ws : List Jvm.Cond} {rm : Room} {Z : State} {as' : Array Value} {h : Heap} {Q : Option Value → Heap → List Loc → Prop} (hpn : plainName y.cls = true)
    (body : ∀ (p : Program) (e : Env) (s : State) (m : MethodId) (below : List Frame) (meth : Method) (c : Code) (s₁ : State), p.tables.exec = Jvm.exec → c.code = bytes → c.maxLocals = maxL → s.vm.findClass y.cls = some m.cls → meth.name = y.name → meth.sig.returnType = ret → meth.locks = false → Z.Warmed39 s.vm → Stand p l e rm s m as' below meth c s₁ [] 0 0 → s₁.heap = h →
      Go p e below (s₁.setTop (entryFrame m as' maxL)) (FinE s rm.cells rm.slots Q)) : Ctr l y bytes maxL ret ws rm Z as' h Q := by
  refine MetFree.of_bodySF (plainFor_of_name hpn) hisR ?_
  intro p e s m args below meth c s₁ Bd hml0 hP hK
  obtain ⟨rfl, hZ, hh⟩ := hP
  exact body p e s m below meth c s₁ Bd.exec Bd.bytes hml0 (findClass_of_methodNamed Bd.named) (name_of_methodNamed Bd.named Bd.method).1 Bd.returns Bd.notSynchronized hZ (Stand.of_body Bd) (by rw [← hh, Bd.state]; rfl)
theorem own_retN (X : Stand p l e R s m args below meth c T locs cells slots) (hx : p.tables.exec = Jvm.exec) {t : FieldType} (hret : meth.sig.returnType = some t) (hlk : meth.locks = false) (ht : t = .boolean ∨ t = .byte ∨ t = .char ∨ t = .short) {kc ks : Nat} {Q : Option Value → Heap → List Loc → Prop} {pc : Nat} {Ls : Array Slot} {z : Int32} {rest : List Value}
    (hd : decode c.code pc = .ok (.ireturn, 1)) (hk : cells ≤ kc) (hn : slots ≤ ks) (hq : Q (some (.int (nar t z))) T.heap locs) : Go p e below (T.setTop (mkF m pc Ls (.int z :: rest))) (FinE s kc ks Q) := by
  obtain ⟨fs, hr, hrun, hended, hW, hsame⟩ := X.leave (v := some (.int (nar t z))) (fun h => by rw [hret] at h; cases h) hlk
  exact ⟨_, _, retN X hx hret ht hd hr, hrun, hended, _, _, rfl, hq, ⟨_, rfl⟩, hW, hsame.mono hk hn⟩
theorem own_retZ (X : Stand p l e R s m args below meth c T locs cells slots) (hx : p.tables.exec = Jvm.exec) (hret : meth.sig.returnType = some .boolean) (hlk : meth.locks = false) {kc ks : Nat} {Q : Option Value → Heap → List Loc → Prop} {pc : Nat} {Ls : Array Slot} {z : Int32} {rest : List Value}
    (hd : decode c.code pc = .ok (.ireturn, 1)) (hk : cells ≤ kc) (hn : slots ≤ ks) (hz : z &&& 1 = z) (hq : Q (some (.int z)) T.heap locs) : Go p e below (T.setTop (mkF m pc Ls (.int z :: rest))) (FinE s kc ks Q) :=
  own_retN X hx hret hlk (Or.inl rfl) hd hk hn (by show Q (some (.int (z &&& 1))) T.heap locs; rw [hz]; exact hq)
theorem own_retW (X : Stand p l e R s m args below meth c T locs cells slots) (hx : p.tables.exec = Jvm.exec) {t : FieldType} {w : Value} {i : Instr} (hret : meth.sig.returnType = some t) (hlk : meth.locks = false) (hw : narrow t w = w)
    (hi : (i = .ireturn ∧ (t = .int ∨ t = .boolean ∨ t = .byte ∨ t = .char ∨ t = .short) ∧ ∃ z, w = .int z) ∨ (i = .lreturn ∧ t = .long ∧ ∃ z, w = .long z) ∨ (i = .dreturn ∧ t = .double ∧ ∃ z, w = .double z) ∨ (i = .freturn ∧ t = .float ∧ ∃ z, w = .float z) ∨ (i = .areturn ∧ t.isReference = true ∧ w.isRef = true))
    {kc ks : Nat} {Q : Option Value → Heap → List Loc → Prop} {pc : Nat} {Ls : Array Slot} {rest : List Value}
    (hd : decode c.code pc = .ok (i, 1)) (hk : cells ≤ kc) (hn : slots ≤ ks) (hq : Q (some w) T.heap locs) : Go p e below (T.setTop (mkF m pc Ls (w :: rest))) (FinE s kc ks Q) := by
  obtain ⟨fs, hr, hrun, hended, hW, hsame⟩ := X.leave (v := some w) (fun h => by rw [hret] at h; cases h) hlk
  exact ⟨_, _, retOut X hx hret hw hi hd hr, hrun, hended, _, _, rfl, hq, ⟨_, rfl⟩, hW, hsame.mono hk hn⟩
theorem own_retI (X : Stand p l e R s m args below meth c T locs cells slots) (hx : p.tables.exec = Jvm.exec) (hret : meth.sig.returnType = some .int) (hlk : meth.locks = false) {kc ks : Nat} {Q : Option Value → Heap → List Loc → Prop} {pc : Nat} {Ls : Array Slot} {z : Int32} {rest : List Value}
    (hd : decode c.code pc = .ok (.ireturn, 1)) (hk : cells ≤ kc) (hn : slots ≤ ks) (hq : Q (some (.int z)) T.heap locs) : Go p e below (T.setTop (mkF m pc Ls (.int z :: rest))) (FinE s kc ks Q) :=
  own_retW X hx hret hlk rfl (Or.inl ⟨rfl, Or.inl rfl, _, rfl⟩) hd hk hn hq
theorem own_retA (X : Stand p l e R s m args below meth c T locs cells slots) (hx : p.tables.exec = Jvm.exec) {t : FieldType} (hret : meth.sig.returnType = some t) (hlk : meth.locks = false) (ht : t.isReference = true) {w : Value} (hw : w.isRef = true) {kc ks : Nat} {Q : Option Value → Heap → List Loc → Prop} {pc : Nat} {Ls : Array Slot} {rest : List Value}
    (hd : decode c.code pc = .ok (.areturn, 1)) (hk : cells ≤ kc) (hn : slots ≤ ks) (hq : Q (some w) T.heap locs) : Go p e below (T.setTop (mkF m pc Ls (w :: rest))) (FinE s kc ks Q) :=
  own_retW X hx hret hlk (by cases t <;> first | (cases ht; done) | (cases w <;> first | rfl | cases hw)) (Or.inr (Or.inr (Or.inr (Or.inr ⟨rfl, ht, hw⟩)))) hd hk hn hq
theorem own_retV (X : Stand p l e R s m args below meth c T locs cells slots) (hx : p.tables.exec = Jvm.exec) (hret : meth.sig.returnType = none) (hlk : meth.locks = false) {kc ks : Nat} {Q : Option Value → Heap → List Loc → Prop} {pc : Nat} {Ls : Array Slot}
    (hd : decode c.code pc = .ok (.return_, 1)) (hk : cells ≤ kc) (hn : slots ≤ ks) (hq : Q none T.heap locs) : Go p e below (T.setTop (mkF m pc Ls [])) (FinE s kc ks Q) := by
  obtain ⟨fs, hr, hrun, hended, hW, hsame⟩ := X.leave (v := none) (fun _ => rfl) hlk
  exact ⟨_, _, X.returnOut hx hret hd hr, hrun, hended, _, _, rfl, hq, ⟨_, rfl⟩, hW, hsame.mono hk hn⟩
/-- the wide end (behind a cold ldc of a String) -/
def FinW (s : State) (kc ks : Nat) (Q : Option Value → Heap → List Loc → Prop) (o : Outcome) (t : State) : Prop := ∃ v L, o = .returned v ∧ Q v t.heap L ∧ ReturnedEndW s o t L kc ks
abbrev CtrW (l : Launch) (y : MethodName) (bytes : ByteArray) (maxL : Nat) (ret : Option FieldType) (ws : List Jvm.Cond) (rm : Room) (Z : State) (as' : Array Value) (h : Heap) (Q : Option Value → Heap → List Loc → Prop) : Prop :=
  MetFree l y (head1 (Jvm.Cond.code y bytes maxL ret :: ws) rm) (fun a U => a = as' ∧ Z.Warmed39 U.vm ∧ U.heap = h) (fun _ _ _ _ _ => True) (fun _ U o U' => ∃ v L, o = .returned v ∧ Q v U'.heap L ∧ ReturnedEndW U o U' L rm.cells rm.slots)
theorem own_enterW {y : MethodName} {bytes : ByteArray} {maxL : Nat} {ret : Option FieldType} {ws : List Jvm.Cond} {rm : Room} {Z : State} {as' : Array Value} {h : Heap} {Q : Option Value → Heap → List Loc → Prop} (hpn : plainName y.cls = true)
    (body : ∀ (p : Program) (e : Env) (s : State) (m : MethodId) (below : List Frame) (meth : Method) (c : Code) (s₁ : State), p.tables.exec = Jvm.exec → c.code = bytes → c.maxLocals = maxL → s.vm.findClass y.cls = some m.cls → meth.name = y.name → meth.sig.returnType = ret → meth.locks = false → Z.Warmed39 s.vm → Stand p l e rm s m as' below meth c s₁ [] 0 0 → s₁.heap = h →
      Go p e below (s₁.setTop (entryFrame m as' maxL)) (FinW s rm.cells rm.slots Q)) : CtrW l y bytes maxL ret ws rm Z as' h Q := by
  refine MetFree.of_bodySF (plainFor_of_name hpn) hisR ?_
  intro p e s m args below meth c s₁ Bd hml0 hP hK
  obtain ⟨rfl, hZ, hh⟩ := hP
  exact body p e s m below meth c s₁ Bd.exec Bd.bytes hml0 (findClass_of_methodNamed Bd.named) (name_of_methodNamed Bd.named Bd.method).1 Bd.returns Bd.notSynchronized hZ (Stand.of_body Bd) (by rw [← hh, Bd.state]; rfl)
theorem own_retZW {vm1 : Vm} {k1 : Nat} (X : Stand p l e R (s.setVm vm1) m args below meth c T locs cells slots) (hx : p.tables.exec = Jvm.exec) (hret : meth.sig.returnType = some .boolean) (hlk : meth.locks = false) (hS : s.Since vm1 k1) (hB : k1 ≤ T.heap.size) {kc ks : Nat} {Q : Option Value → Heap → List Loc → Prop} {pc : Nat} {Ls : Array Slot} {z : Int32} {rest : List Value}
    (hd : decode c.code pc = .ok (.ireturn, 1)) (hk : cells ≤ kc) (hn : slots ≤ ks) (hz : z &&& 1 = z) (hq : Q (some (.int z)) T.heap locs) : Go p e below (T.setTop (mkF m pc Ls (.int z :: rest))) (FinW s kc ks Q) := by
  obtain ⟨fs, hr, hrun, hended, h1, h2, h3, h4⟩ := X.leaveW hS hB (v := some (.int (nar .boolean z))) (fun h => by rw [hret] at h; cases h) hlk
  have e1 : nar .boolean z = z := hz
  exact ⟨_, _, retN X hx hret (Or.inl rfl) hd hr, hrun, hended, _, _, rfl, by rw [e1]; exact hq, h1, h2, h3, h4.mono hk hn⟩
section Calls
variable {Z : State} {a0 : Array Value} {h : Heap} {y : MethodName} {bytes : ByteArray} {maxL : Nat} {ret : Option FieldType} {rm : Room} {as' : Array Value} {Q : Option Value → Heap → List Loc → Prop} {own : String} {index : Nat} {pc : Nat} {Ls : Array Slot} {st argsL rest : List Value} {ps : List FieldType} {r : Option FieldType}
theorem own_callS (X : Stand p l e R s m args below meth c T locs cells slots) (hx : p.tables.exec = Jvm.exec) (hZ : Z.Warmed39 s.vm) (hown : s.vm.findClass own = some m.cls) (w1 : (Jvm.Cond.methodLink own index y).before a0 Z = true) (w2 : (Jvm.Cond.static y).before a0 Z = true) (w3 : (Jvm.Cond.initialized y.cls).before a0 Z = true) (w4 : (Jvm.Cond.code y bytes maxL ret).before a0 Z = true)
    (hy : y.cls ≠ "java/lang/invoke/MethodHandle" ∧ y.cls ≠ "java/lang/invoke/VarHandle") (hM : Ctr l y bytes maxL ret [] rm Z as' h Q) (eT : T.heap = h) (hpd : parseMethodDescriptor y.desc = some ⟨ps, r⟩) (hd : decode c.code pc = .ok (.invokestatic index, 3)) (hsize : Ls.size = c.maxLocals)
    (hlen : argsL.length = ps.length) (hst : st = argsL.reverse ++ rest) (has : argsL.toArray = as') {W : Nat} (hW : (rest.map fun v => v.category).sum ≤ W) (hf : rm.frames + 1 ≤ R.frames) (hl : W + (maxL + 11) + rm.locals ≤ R.locals) (hc : cells + rm.cells ≤ R.cells) (hs : slots + rm.slots ≤ R.slots) :
    ∃ v T' L, Stand p l e R s m args below meth c T' (locs ++ L) (cells + rm.cells) (slots + rm.slots) ∧ Q v T'.heap L ∧ ∀ target, Steps p.tables e below (T'.setTop (mkF m (pc + 3) Ls (v.toList ++ rest))) target → Steps p.tables e below (T.setTop (mkF m pc Ls st)) target := by
  obtain ⟨v, _, ⟨T', L', k', n'⟩, -, X', ⟨Lc, hQ, l1, y1, z1⟩, st'⟩ := Jvm.LawKit.callS X hx (y := y) hown (mvT hZ w1) (mvT hZ w2) (mvT hZ w3) (mvT hZ w4) hy (backOf (W := W) hM hZ w4 w3 hf hl) (g := mkF m pc Ls st) rfl hsize (argsL := argsL) (rest := rest) (lenOf hpd hlen) hst (by show 2 * 0 + _ ≤ _; omega) hd (fun _ _ => ⟨has, eT, hc, hs⟩)
  dsimp only [Pt.U, Pt.locs, Pt.cells, Pt.slots] at X' l1 y1 z1 st' hQ
  subst l1 y1 z1
  exact ⟨v, T', Lc, X', hQ, st'⟩
theorem own_callV {C : String} {b : Addr} (X : Stand p l e R s m args below meth c T locs cells slots) (hx : p.tables.exec = Jvm.exec) (hZ : Z.Warmed39 s.vm) (hown : s.vm.findClass own = some m.cls) (w1 : (Jvm.Cond.methodLink own index y).before a0 Z = true) (w2 : (Jvm.Cond.declares y).before a0 Z = true) (w3 : (Jvm.Cond.selects C y y).before a0 Z = true) (w4 : (Jvm.Cond.instanceMethod y).before a0 Z = true)
    (w5 : (Jvm.Cond.code y bytes maxL ret).before a0 Z = true) (w6 : (Jvm.Cond.initialized y.cls).before a0 Z = true) (hy : y.cls ≠ "java/lang/invoke/MethodHandle" ∧ y.cls ≠ "java/lang/invoke/VarHandle") (hM : Ctr l y bytes maxL ret [] rm Z as' h Q) (eT : T.heap = h) (E : Exa Z h b C) (hpd : parseMethodDescriptor y.desc = some ⟨ps, r⟩) (hd : decode c.code pc = .ok (.invokevirtual index, 3)) (hsize : Ls.size = c.maxLocals)
    (hlen : argsL.length = ps.length) (hst : st = argsL.reverse ++ .ref b :: rest) (has : (.ref b :: argsL).toArray = as') {W : Nat} (hW : (rest.map fun v => v.category).sum ≤ W) (hf : rm.frames + 1 ≤ R.frames) (hl : W + (maxL + 11) + rm.locals ≤ R.locals) (hc : cells + rm.cells ≤ R.cells) (hs : slots + rm.slots ≤ R.slots) :
    ∃ v T' L, Stand p l e R s m args below meth c T' (locs ++ L) (cells + rm.cells) (slots + rm.slots) ∧ Q v T'.heap L ∧ ∀ target, Steps p.tables e below (T'.setTop (mkF m (pc + 3) Ls (v.toList ++ rest))) target → Steps p.tables e below (T.setTop (mkF m pc Ls st)) target := by
  obtain ⟨cq, kq, qa, qb, qc⟩ := isOf hZ eT E
  obtain ⟨v, _, ⟨T', L', k', n'⟩, -, X', ⟨Lc, hQ, l1, y1, z1⟩, st'⟩ := X.virtualBack hx (y := y) (z := y) hown (mvT hZ w1) (mvT hZ w2) (notFace_of_selects (args := #[]) (mvT hZ w3)) (mvT hZ w3) (mvT hZ w4) hy (backOf (W := W) hM hZ w5 w6 hf hl) qa qc (g := mkF m pc Ls st) rfl hsize (Steps.refl _) (argsL := argsL) (rest := rest) (lenOf hpd hlen) hst (by show 2 * 0 + _ ≤ _; omega) hd (fun _ _ => ⟨has, eT, hc, hs⟩)
  dsimp only [Pt.U, Pt.locs, Pt.cells, Pt.slots] at X' l1 y1 z1 st' hQ
  subst l1 y1 z1
  exact ⟨v, T', Lc, X', hQ, fun t k => st'.trans k⟩
theorem own_callI {b : Addr} (X : Stand p l e R s m args below meth c T locs cells slots) (hx : p.tables.exec = Jvm.exec) (hZ : Z.Warmed39 s.vm) (hown : s.vm.findClass own = some m.cls) (w1 : (Jvm.Cond.methodLink own index y).before a0 Z = true) (w4 : (Jvm.Cond.instanceMethod y).before a0 Z = true)
    (w5 : (Jvm.Cond.code y bytes maxL none).before a0 Z = true) (w6 : (Jvm.Cond.initialized y.cls).before a0 Z = true) (hn : y.name = "<init>") (hy : y.cls ≠ "java/lang/invoke/MethodHandle" ∧ y.cls ≠ "java/lang/invoke/VarHandle") (hM : Ctr l y bytes maxL none [] rm Z as' h Q) (eT : T.heap = h) (hpd : parseMethodDescriptor y.desc = some ⟨ps, r⟩) (hd : decode c.code pc = .ok (.invokespecial index, 3)) (hsize : Ls.size = c.maxLocals)
    (hlen : argsL.length = ps.length) (hst : st = argsL.reverse ++ .ref b :: rest) (has : (.ref b :: argsL).toArray = as') {W : Nat} (hW : (rest.map fun v => v.category).sum ≤ W) (hf : rm.frames + 1 ≤ R.frames) (hl : W + (maxL + 11) + rm.locals ≤ R.locals) (hc : cells + rm.cells ≤ R.cells) (hs : slots + rm.slots ≤ R.slots) :
    ∃ v T' L, Stand p l e R s m args below meth c T' (locs ++ L) (cells + rm.cells) (slots + rm.slots) ∧ Q v T'.heap L ∧ ∀ target, Steps p.tables e below (T'.setTop (mkF m (pc + 3) Ls (v.toList ++ rest))) target → Steps p.tables e below (T.setTop (mkF m pc Ls st)) target := by
  obtain ⟨v, _, ⟨T', L', k', n'⟩, -, X', ⟨Lc, hQ, l1, y1, z1⟩, st'⟩ := X.specialBack hx (y := y) hn hown (mvT hZ w1) (mvT hZ w4) (mvT hZ w5) hy (backOf (W := W) hM hZ w5 w6 hf hl) (g := mkF m pc Ls st) rfl hsize (Steps.refl _) (a := b) (argsL := argsL) (rest := rest) (lenOf hpd hlen) hst (by show 2 * 0 + _ ≤ _; omega) hd (fun _ _ => ⟨has, eT, hc, hs⟩)
  dsimp only [Pt.U, Pt.locs, Pt.cells, Pt.slots] at X' l1 y1 z1 st' hQ
  subst l1 y1 z1
  exact ⟨v, T', Lc, X', hQ, fun t k => st'.trans k⟩
end Calls
section Facts
variable {Z : State} {h : Heap} {a b : Addr} {C F D K O n d : String} {v w : Value}
theorem own_fld_fun (F1 : Fld Z h a C n d v) (F2 : Fld Z h a C n d w) : v = w := by
  obtain ⟨c1, cf1, k1, i1, f1, h1, h2, h3, h4, h5, h6, h7⟩ := F1
  obtain ⟨c2, cf2, k2, i2, f2, g1, g2, g3, g4, g5, g6, g7⟩ := F2
  cases h1.symm.trans g1
  cases h2.symm.trans g2
  exact Option.some.inj (h7.symm.trans g7)
theorem own_ne {i j : Int32} (F1 : Fld Z h a C n d (.int i)) (F2 : Fld Z h b C n d (.int j)) (hij : i ≠ j) : a ≠ b := fun e => by
  subst e; exact hij (Value.int.inj (own_fld_fun F1 F2))
theorem own_sta {args : Array Value} (hn : (Jvm.Cond.exactly (.static C F D) K).value args Z none Z [] = some true) (hi : (Jvm.Cond.initialized C).before args Z = true) (hl : (Jvm.Cond.laysStatic C F D).before args Z = true) :
    ∃ w : Addr, Sta Z Z.heap C F D (.ref w) ∧ Exa Z Z.heap w K ∧ (Term.static C F D).eval args Z none [] Z = some (.ref w) := by
  obtain ⟨a', c', cell, k, e1, -⟩ := Cond.exactly_spec (Cond.before_iff.mpr hn)
  exact ⟨a', Sta.start e1 (Or.inr ⟨hi, hl⟩), Exa.start e1 hn, e1⟩
theorem own_ord {args : Array Value} {k : Int32} {t : Term} (hn : (Jvm.Cond.eq (.field t O n d) (.int k)).value args Z none Z [] = some true) (ev : t.eval args Z none [] Z = some (.ref a)) : Fld Z Z.heap a O n d (.int k) := by
  refine Fld.start ?_
  simp only [Jvm.Cond.value, Term.eval, ev] at hn
  cases hq : Z.fieldOf? a O n d with
  | none => simp [hq] at hn
  | some v => cases v <;> simp_all
theorem own_fref {args : Array Value} {t u : Term} (hn : (Jvm.Cond.eq (.field t O n d) u).value args Z none Z [] = some true) (ev : t.eval args Z none [] Z = some (.ref a)) (eu : u.eval args Z none [] Z = some (.ref b)) : Fld Z Z.heap a O n d (.ref b) := by
  refine Fld.start ?_
  simp only [Jvm.Cond.value, Term.eval, ev, eu] at hn
  cases hq : Z.fieldOf? a O n d with
  | none => simp [hq] at hn
  | some v => cases v <;> simp_all
theorem own_arrOf {args : Array Value} {t : Term} {ty : FieldType} (hn : (Jvm.Cond.arrayOf t ty).value args Z none Z [] = some true) : ∃ a c, t.eval args Z none [] Z = some (.ref a) ∧ Arr Z Z.heap a c ty := by
  cases hq : t.eval args Z none [] Z with
  | none => simp [Jvm.Cond.value, hq] at hn
  | some v =>
    cases v with
    | ref a => obtain ⟨c, A⟩ := Arr.start hq hn; exact ⟨a, c, rfl, A⟩
    | _ => simp [Jvm.Cond.value, hq] at hn
theorem own_arrLen {args : Array Value} {t : Term} {ty : FieldType} {cl : Cell} {k : Int32} (A : Arr Z Z.heap a cl ty) (ev : t.eval args Z none [] Z = some (.ref a)) (hn : (Jvm.Cond.eq (.length t) (.int k)).value args Z none Z [] = some true) : cl.slots.size < 2 ^ 31 ∧ cl.slots.size.toInt32 = k := by
  have hA : Z.arrayAt? a = some cl := A.fin (Vm.Alike.refl _)
  by_cases q : cl.slots.size < 2 ^ 31
  · refine ⟨q, ?_⟩
    have e : (Term.length t).eval args Z none [] Z = some (.int cl.slots.size.toInt32) := by simp [Term.eval, ev, hA, q]
    have e2 : (Term.int k).eval args Z none [] Z = some (.int k) := rfl
    simp only [Jvm.Cond.value, e, e2] at hn
    simpa using hn
  · have e : (Term.length t).eval args Z none [] Z = none := by simp [Term.eval, ev, hA, q]
    simp [Jvm.Cond.value, e] at hn
theorem own_arrElem {args : Array Value} {t u : Term} {ty : FieldType} {cl : Cell} {j : Int32} (A : Arr Z Z.heap a cl ty) (ev : t.eval args Z none [] Z = some (.ref a)) (eu : u.eval args Z none [] Z = some (.ref b)) (hj : ¬ j < 0) (hn : (Jvm.Cond.eq (.elem t (.int j)) u).value args Z none Z [] = some true) : cl.slots[j.toNatClampNeg]? = some (.ref b) := by
  have hA : Z.arrayAt? a = some cl := A.fin (Vm.Alike.refl _)
  have e : (Term.elem t (.int j)).eval args Z none [] Z = cl.slots[j.toNatClampNeg]? := by simp [Term.eval, ev, hA, hj]
  cases hq : cl.slots[j.toNatClampNeg]? with
  | none => rw [hq] at e; simp [Jvm.Cond.value, e] at hn
  | some v => rw [hq] at e; simp only [Jvm.Cond.value, e, eu] at hn; cases v <;> simp_all
theorem own_zand (x : Int32) : (0 : Int32) &&& x = (0 : Int32) := Int32.zero_and
theorem own_nin {x a : Addr} {ws : List Addr} (h : x ≠ a) (k : x ∉ ws) : x ∉ a :: ws := fun q => (List.mem_cons.mp q).elim h k
theorem own_plain {K : String} {ws : List Addr} (E : Exa Z h a K) (k : ∀ x ∈ ws, ∃ K', Exa Z h x K') : ∀ x ∈ a :: ws, ∃ K', Exa Z h x K' := fun x q => (List.mem_cons.mp q).elim (fun e => ⟨K, e ▸ E⟩) (k x)
theorem own_sta_keep {h' : Heap} {ws : List Addr} (S : Sta Z h C n d v) (K : Keep h h' ws) (hp : ∀ x ∈ ws, ∃ K', Exa Z h x K') : Sta Z h' C n d v := by
  obtain ⟨cf, i, k, f, st, cell, h1, h2, h3, h4, h5, h6, h7⟩ := S
  refine ⟨cf, i, k, f, st, cell, h1, h2, h3, h4, K.2.1 _ _ h5 fun q => ?_, h6, h7⟩
  obtain ⟨K', cl, kk, e1, -, -, e4, -⟩ := hp _ q
  cases h5.symm.trans e1
  rw [e4] at h6; cases h6
theorem own_mem1 {h0 : Heap} {ws : List Addr} {a : Addr} (q : a ∈ ws ∨ h0.size ≤ a) : ∀ x ∈ [a], x ∈ ws ∨ h0.size ≤ x := fun x hx => by cases List.mem_singleton.mp hx; exact q
theorem own_mem2 {h0 : Heap} {ws : List Addr} {a b : Addr} (q : a ∈ ws ∨ h0.size ≤ a) (r : b ∈ ws ∨ h0.size ≤ b) : ∀ x ∈ [a, b], x ∈ ws ∨ h0.size ≤ x := fun x hx => by
  rcases List.mem_cons.mp hx with rfl | hx
  · exact q
  · cases List.mem_singleton.mp hx; exact r
theorem own_fitR {ty : FieldType} (ht : ty.isReference = true) (hv : v.isRef = true) : fits ty v = true := by cases ty <;> first | (cases ht; done) | (cases v <;> first | rfl | cases hv)
theorem own_narR {ty : FieldType} (ht : ty.isReference = true) (hv : v.isRef = true) : narrow ty v = v := by cases ty <;> first | (cases ht; done) | (cases v <;> first | rfl | cases hv)
theorem own_bit {z : Int32} (hz : z = 0 ∨ z = 1) : z &&& 1 = z := by rcases hz with rfl | rfl <;> decide
theorem own_narZ {z : Int32} (hz : z = 0 ∨ z = 1) : narrow .boolean (.int z) = .int z := by rcases hz with rfl | rfl <;> rfl
theorem own_fitZ {z : Int32} (hz : z = 0 ∨ z = 1) : fits .boolean (.int z) = true := by rcases hz with rfl | rfl <;> rfl
theorem own_pad {dv : Value} (k : Nat) (i : Nat) : (List.replicate k dv).getD i dv = ([] : List Value).getD i dv := by
  simp only [List.getD, List.getElem?_replicate]
  split <;> rfl
end Facts
end Own
section G
variable {p : Program} {l : Launch} {e : Env} {R : Room} {s : State} {m : MethodId} {args : Array Value} {below : List Frame} {meth : Method} {c : Code} {T : State} {locs : List Loc} {cells slots : Nat} {pc : Nat} {Ls : Array Slot} {st : List Value} {P : Outcome → State → Prop}
theorem g_iloadN (X : Stand p l e R s m args below meth c T locs cells slots) (hx : p.tables.exec = Jvm.exec) {k : Fin 4} {v : Int32} (hd : decode c.code pc = .ok (.iload_n k, 1)) (hl : Ls[k.val]? = some (.val (.int v))) (hr : Go p e below (T.setTop (mkF m (pc + 1) Ls (.int v :: st))) P) : Go p e below (T.setTop (mkF m pc Ls st)) P := Go.mp (fun _ k => XS.iloadN X.here hx rfl hd hl k) hr
theorem g_iload (X : Stand p l e R s m args below meth c T locs cells slots) (hx : p.tables.exec = Jvm.exec) {k : Nat} {v : Int32} (hd : decode c.code pc = .ok (.iload k, 2)) (hl : Ls[k]? = some (.val (.int v))) (hr : Go p e below (T.setTop (mkF m (pc + 2) Ls (.int v :: st))) P) : Go p e below (T.setTop (mkF m pc Ls st)) P := Go.mp (fun _ k => XS.iload X.here hx rfl hd hl k) hr
theorem g_lloadN (X : Stand p l e R s m args below meth c T locs cells slots) (hx : p.tables.exec = Jvm.exec) {k : Fin 4} {v : Int64} (hd : decode c.code pc = .ok (.lload_n k, 1)) (hl : Ls[k.val]? = some (.val (.long v))) (hr : Go p e below (T.setTop (mkF m (pc + 1) Ls (.long v :: st))) P) : Go p e below (T.setTop (mkF m pc Ls st)) P := Go.mp (fun _ k => XS.lloadN X.here hx rfl hd hl k) hr
theorem g_lload (X : Stand p l e R s m args below meth c T locs cells slots) (hx : p.tables.exec = Jvm.exec) {k : Nat} {v : Int64} (hd : decode c.code pc = .ok (.lload k, 2)) (hl : Ls[k]? = some (.val (.long v))) (hr : Go p e below (T.setTop (mkF m (pc + 2) Ls (.long v :: st))) P) : Go p e below (T.setTop (mkF m pc Ls st)) P := Go.mp (fun _ k => XS.lload X.here hx rfl hd hl k) hr
theorem g_aloadN (X : Stand p l e R s m args below meth c T locs cells slots) (hx : p.tables.exec = Jvm.exec) {k : Fin 4} {v : Value} (hd : decode c.code pc = .ok (.aload_n k, 1)) (hl : Ls[k.val]? = some (.val v)) (hv : v.isRef = true) (hr : Go p e below (T.setTop (mkF m (pc + 1) Ls (v :: st))) P) : Go p e below (T.setTop (mkF m pc Ls st)) P := Go.mp (fun _ k => XS.aloadN X.here hx rfl hd hl hv k) hr
theorem g_aload (X : Stand p l e R s m args below meth c T locs cells slots) (hx : p.tables.exec = Jvm.exec) {k : Nat} {v : Value} (hd : decode c.code pc = .ok (.aload k, 2)) (hl : Ls[k]? = some (.val v)) (hv : v.isRef = true) (hr : Go p e below (T.setTop (mkF m (pc + 2) Ls (v :: st))) P) : Go p e below (T.setTop (mkF m pc Ls st)) P := Go.mp (fun _ k => XS.aload X.here hx rfl hd hl hv k) hr
theorem g_istoreN (X : Stand p l e R s m args below meth c T locs cells slots) (hx : p.tables.exec = Jvm.exec) {k : Fin 4} {v : Int32} (l' : Array Slot) (hd : decode c.code pc = .ok (.istore_n k, 1)) (hl : storeLocals Ls k.val (.int v) = some l') (hr : Go p e below (T.setTop (mkF m (pc + 1) l' st)) P) : Go p e below (T.setTop (mkF m pc Ls (.int v :: st))) P := Go.mp (fun _ k => XS.istoreN X.here hx rfl hd rfl hl k) hr
theorem g_istore (X : Stand p l e R s m args below meth c T locs cells slots) (hx : p.tables.exec = Jvm.exec) {k : Nat} {v : Int32} (l' : Array Slot) (hd : decode c.code pc = .ok (.istore k, 2)) (hl : storeLocals Ls k (.int v) = some l') (hr : Go p e below (T.setTop (mkF m (pc + 2) l' st)) P) : Go p e below (T.setTop (mkF m pc Ls (.int v :: st))) P := Go.mp (fun _ k => XS.istore X.here hx rfl hd rfl hl k) hr
theorem g_astoreN (X : Stand p l e R s m args below meth c T locs cells slots) (hx : p.tables.exec = Jvm.exec) {k : Fin 4} {v : Value} (l' : Array Slot) (hd : decode c.code pc = .ok (.astore_n k, 1)) (hv : v.isRef = true) (hl : storeLocals Ls k.val v = some l') (hr : Go p e below (T.setTop (mkF m (pc + 1) l' st)) P) : Go p e below (T.setTop (mkF m pc Ls (v :: st))) P := Go.mp (fun _ k => XS.astoreN X.here hx rfl hd rfl hv hl k) hr
theorem g_astore (X : Stand p l e R s m args below meth c T locs cells slots) (hx : p.tables.exec = Jvm.exec) {k : Nat} {v : Value} (l' : Array Slot) (hd : decode c.code pc = .ok (.astore k, 2)) (hv : v.isRef = true) (hl : storeLocals Ls k v = some l') (hr : Go p e below (T.setTop (mkF m (pc + 2) l' st)) P) : Go p e below (T.setTop (mkF m pc Ls (v :: st))) P := Go.mp (fun _ k => XS.astore X.here hx rfl hd rfl hv hl k) hr
theorem g_iconst (X : Stand p l e R s m args below meth c T locs cells slots) (hx : p.tables.exec = Jvm.exec) {i : Int} (v : Int32) (hd : decode c.code pc = .ok (.iconst i, 1)) (hv : Int32.ofInt i = v) (hr : Go p e below (T.setTop (mkF m (pc + 1) Ls (.int v :: st))) P) : Go p e below (T.setTop (mkF m pc Ls st)) P := Go.mp (fun _ k => XT.iconstV X.here hx rfl v hd hv k) hr
theorem g_bipush (X : Stand p l e R s m args below meth c T locs cells slots) (hx : p.tables.exec = Jvm.exec) {i : Int} (v : Int32) (hd : decode c.code pc = .ok (.bipush i, 2)) (hv : (Int8.ofInt i).toInt32 = v) (hr : Go p e below (T.setTop (mkF m (pc + 2) Ls (.int v :: st))) P) : Go p e below (T.setTop (mkF m pc Ls st)) P := Go.mp (fun _ k => XT.bipushV X.here hx rfl v hd hv k) hr
theorem g_sipush (X : Stand p l e R s m args below meth c T locs cells slots) (hx : p.tables.exec = Jvm.exec) {i : Int} (v : Int32) (hd : decode c.code pc = .ok (.sipush i, 3)) (hv : (Int16.ofInt i).toInt32 = v) (hr : Go p e below (T.setTop (mkF m (pc + 3) Ls (.int v :: st))) P) : Go p e below (T.setTop (mkF m pc Ls st)) P := Go.mp (fun _ k => XT.sipushV X.here hx rfl v hd hv k) hr
theorem g_null (X : Stand p l e R s m args below meth c T locs cells slots) (hx : p.tables.exec = Jvm.exec) (hd : decode c.code pc = .ok (.aconst_null, 1)) (hr : Go p e below (T.setTop (mkF m (pc + 1) Ls (.null :: st))) P) : Go p e below (T.setTop (mkF m pc Ls st)) P := Go.mp (fun _ k => XS.aconstNull X.here hx rfl hd k) hr
theorem g_iadd (X : Stand p l e R s m args below meth c T locs cells slots) (hx : p.tables.exec = Jvm.exec) {x y : Int32} (hd : decode c.code pc = .ok (.iadd, 1)) (hr : Go p e below (T.setTop (mkF m (pc + 1) Ls (.int (x + y) :: st))) P) : Go p e below (T.setTop (mkF m pc Ls (.int y :: .int x :: st))) P := Go.mp (fun _ k => XS.iadd X.here hx rfl hd rfl k) hr
theorem g_isub (X : Stand p l e R s m args below meth c T locs cells slots) (hx : p.tables.exec = Jvm.exec) {x y : Int32} (hd : decode c.code pc = .ok (.isub, 1)) (hr : Go p e below (T.setTop (mkF m (pc + 1) Ls (.int (x - y) :: st))) P) : Go p e below (T.setTop (mkF m pc Ls (.int y :: .int x :: st))) P := Go.mp (fun _ k => XS.isub X.here hx rfl hd rfl k) hr
theorem g_iand (X : Stand p l e R s m args below meth c T locs cells slots) (hx : p.tables.exec = Jvm.exec) {x y : Int32} (hd : decode c.code pc = .ok (.iand, 1)) (hr : Go p e below (T.setTop (mkF m (pc + 1) Ls (.int (x &&& y) :: st))) P) : Go p e below (T.setTop (mkF m pc Ls (.int y :: .int x :: st))) P := Go.mp (fun _ k => XS.iand X.here hx rfl hd rfl k) hr
theorem g_ior (X : Stand p l e R s m args below meth c T locs cells slots) (hx : p.tables.exec = Jvm.exec) {x y : Int32} (hd : decode c.code pc = .ok (.ior, 1)) (hr : Go p e below (T.setTop (mkF m (pc + 1) Ls (.int (x ||| y) :: st))) P) : Go p e below (T.setTop (mkF m pc Ls (.int y :: .int x :: st))) P := Go.mp (fun _ k => XS.ior X.here hx rfl hd rfl k) hr
theorem g_ixor (X : Stand p l e R s m args below meth c T locs cells slots) (hx : p.tables.exec = Jvm.exec) {x y : Int32} (hd : decode c.code pc = .ok (.ixor, 1)) (hr : Go p e below (T.setTop (mkF m (pc + 1) Ls (.int (x ^^^ y) :: st))) P) : Go p e below (T.setTop (mkF m pc Ls (.int y :: .int x :: st))) P := Go.mp (fun _ k => XS.ixor X.here hx rfl hd rfl k) hr
theorem g_dup (X : Stand p l e R s m args below meth c T locs cells slots) (hx : p.tables.exec = Jvm.exec) {x : Value} (hd : decode c.code pc = .ok (.dup, 1)) (hc : x.category = 1) (hr : Go p e below (T.setTop (mkF m (pc + 1) Ls (x :: x :: st))) P) : Go p e below (T.setTop (mkF m pc Ls (x :: st))) P := Go.mp (fun _ k => XS.dup X.here hx rfl hd rfl hc k) hr
theorem g_pop (X : Stand p l e R s m args below meth c T locs cells slots) (hx : p.tables.exec = Jvm.exec) {x : Value} (hd : decode c.code pc = .ok (.pop, 1)) (hc : x.category = 1) (hr : Go p e below (T.setTop (mkF m (pc + 1) Ls st)) P) : Go p e below (T.setTop (mkF m pc Ls (x :: st))) P := Go.mp (fun _ k => XS.pop X.here hx rfl hd rfl hc k) hr
theorem g_goto (X : Stand p l e R s m args below meth c T locs cells slots) (hx : p.tables.exec = Jvm.exec) {o : Int} (pc' : Nat) (hd : decode c.code pc = .ok (.goto o, 3)) (ho : 0 ≤ (pc : Int) + o) (hp : ((pc : Int) + o).toNat = pc') (hr : Go p e below (T.setTop (mkF m pc' Ls st)) P) : Go p e below (T.setTop (mkF m pc Ls st)) P := Go.mp (fun _ k => XS.goto X.here hx rfl (pc0 := pc) (pc' := pc') rfl hd ho hp k) hr
theorem g_ifYes (X : Stand p l e R s m args below meth c T locs cells slots) (hx : p.tables.exec = Jvm.exec) {cd : ClassFile.Cond} {x : Int32} {o : Int} (pc' : Nat) (hd : decode c.code pc = .ok (.ifCond cd o, 3)) (hc : ifCond.holds cd x = true) (ho : 0 ≤ (pc : Int) + o) (hp : ((pc : Int) + o).toNat = pc') (hr : Go p e below (T.setTop (mkF m pc' Ls st)) P) : Go p e below (T.setTop (mkF m pc Ls (.int x :: st))) P := Go.mp (fun _ k => XS.ifYes X.here hx rfl (pc0 := pc) (pc' := pc') rfl hd rfl hc ho hp k) hr
theorem g_ifNo (X : Stand p l e R s m args below meth c T locs cells slots) (hx : p.tables.exec = Jvm.exec) {cd : ClassFile.Cond} {x : Int32} {o : Int} (hd : decode c.code pc = .ok (.ifCond cd o, 3)) (hc : ifCond.holds cd x = false) (hr : Go p e below (T.setTop (mkF m (pc + 3) Ls st)) P) : Go p e below (T.setTop (mkF m pc Ls (.int x :: st))) P := Go.mp (fun _ k => XS.ifNo X.here hx rfl hd rfl hc k) hr
theorem g_icmpYes (X : Stand p l e R s m args below meth c T locs cells slots) (hx : p.tables.exec = Jvm.exec) {cd : ClassFile.Cond} {x y : Int32} {o : Int} (pc' : Nat) (hd : decode c.code pc = .ok (.if_icmp cd o, 3)) (hc : if_icmp.holds cd x y = true) (ho : 0 ≤ (pc : Int) + o) (hp : ((pc : Int) + o).toNat = pc') (hr : Go p e below (T.setTop (mkF m pc' Ls st)) P) : Go p e below (T.setTop (mkF m pc Ls (.int y :: .int x :: st))) P := Go.mp (fun _ k => XS.icmpYes X.here hx rfl (pc0 := pc) (pc' := pc') rfl hd rfl hc ho hp k) hr
theorem g_icmpNo (X : Stand p l e R s m args below meth c T locs cells slots) (hx : p.tables.exec = Jvm.exec) {cd : ClassFile.Cond} {x y : Int32} {o : Int} (hd : decode c.code pc = .ok (.if_icmp cd o, 3)) (hc : if_icmp.holds cd x y = false) (hr : Go p e below (T.setTop (mkF m (pc + 3) Ls st)) P) : Go p e below (T.setTop (mkF m pc Ls (.int y :: .int x :: st))) P := Go.mp (fun _ k => XS.icmpNo X.here hx rfl hd rfl hc k) hr
theorem g_acmp (X : Stand p l e R s m args below meth c T locs cells slots) (hx : p.tables.exec = Jvm.exec) {cd : ACond} {x y : Value} {o : Int} (pc' : Nat) (same : Bool) (h1 : x.isRef = true) (h2 : y.isRef = true) (hd : decode c.code pc = .ok (.if_acmp cd o, 3)) (hq : decide (x = y) = same) (ho : 0 ≤ (pc : Int) + o) (hp : pc' = if acV cd same = true then ((pc : Int) + o).toNat else pc + 3) (hr : Go p e below (T.setTop (mkF m pc' Ls st)) P) : Go p e below (T.setTop (mkF m pc Ls (y :: x :: st))) P := Go.mp (fun _ k => Jvm.RoadKit.acmp (g := mkF m pc Ls (y :: x :: st)) X hx rfl h1 h2 (pc0 := pc) (pc' := pc') (same := same) rfl hd rfl hq ho hp k) hr
theorem g_irem (X : Stand p l e R s m args below meth c T locs cells slots) (hx : p.tables.exec = Jvm.exec) {x y : Int32} (hd : decode c.code pc = .ok (.irem, 1)) (hy : y ≠ 0) (hr : Go p e below (T.setTop (mkF m (pc + 1) Ls (.int (x % y) :: st))) P) : Go p e below (T.setTop (mkF m pc Ls (.int y :: .int x :: st))) P := Go.mp (fun _ k => iremM X hx rfl hd rfl hy k) hr
end G
theorem pn_0 : plainName "com/example/wombat/wombat/LockModeCoversPinLaw" = true := by first | (simp [plainName, overriddenIn]; done) | decide +kernel
def f_expected (i1 : Int32) (i2 : Int32) : Int32 := (if i1 = i2 then (1 : Int32) else (if i1 = (4 : Int32) then (1 : Int32) else (if i2 = (0 : Int32) then (1 : Int32) else (if i1 = (3 : Int32) then (if i2 = (4 : Int32) then (0 : Int32) else (1 : Int32)) else (0 : Int32)))))
theorem d1_0 : decode method_3_code 0 = .ok (.iload_n 0, 1) := by decide +kernel
theorem d1_1 : decode method_3_code 1 = .ok (.iload_n 1, 1) := by decide +kernel
theorem d1_2 : decode method_3_code 2 = .ok (.if_icmp .ne 5, 3) := by decide +kernel
theorem d1_5 : decode method_3_code 5 = .ok (.iconst 1, 1) := by decide +kernel
theorem d1_6 : decode method_3_code 6 = .ok (.ireturn, 1) := by decide +kernel
theorem d1_7 : decode method_3_code 7 = .ok (.iload_n 0, 1) := by decide +kernel
theorem d1_8 : decode method_3_code 8 = .ok (.iconst 4, 1) := by decide +kernel
theorem d1_9 : decode method_3_code 9 = .ok (.if_icmp .ne 5, 3) := by decide +kernel
theorem d1_12 : decode method_3_code 12 = .ok (.iconst 1, 1) := by decide +kernel
theorem d1_13 : decode method_3_code 13 = .ok (.ireturn, 1) := by decide +kernel
theorem d1_14 : decode method_3_code 14 = .ok (.iload_n 1, 1) := by decide +kernel
theorem d1_15 : decode method_3_code 15 = .ok (.ifCond .ne 5, 3) := by decide +kernel
theorem d1_18 : decode method_3_code 18 = .ok (.iconst 1, 1) := by decide +kernel
theorem d1_19 : decode method_3_code 19 = .ok (.ireturn, 1) := by decide +kernel
theorem d1_20 : decode method_3_code 20 = .ok (.iload_n 0, 1) := by decide +kernel
theorem d1_21 : decode method_3_code 21 = .ok (.iconst 3, 1) := by decide +kernel
theorem d1_22 : decode method_3_code 22 = .ok (.if_icmp .ne 14, 3) := by decide +kernel
theorem d1_25 : decode method_3_code 25 = .ok (.iload_n 1, 1) := by decide +kernel
theorem d1_26 : decode method_3_code 26 = .ok (.iconst 4, 1) := by decide +kernel
theorem d1_27 : decode method_3_code 27 = .ok (.if_icmp .eq 7, 3) := by decide +kernel
theorem d1_30 : decode method_3_code 30 = .ok (.iconst 1, 1) := by decide +kernel
theorem d1_31 : decode method_3_code 31 = .ok (.goto 4, 3) := by decide +kernel
theorem d1_34 : decode method_3_code 34 = .ok (.iconst 0, 1) := by decide +kernel
theorem d1_35 : decode method_3_code 35 = .ok (.ireturn, 1) := by decide +kernel
theorem d1_36 : decode method_3_code 36 = .ok (.iconst 0, 1) := by decide +kernel
theorem d1_37 : decode method_3_code 37 = .ok (.ireturn, 1) := by decide +kernel
theorem ef_rm_expected (m : MethodId) (x0 : Int32) (x1 : Int32) : entryFrame m #[(.int x0), (.int x1)] 2 = mkF m 0 #[.val (.int x0), .val (.int x1)] [] := by first | (simp [entryFrame, mkF, argsToLocals, Value.category]; done) | rfl
set_option maxRecDepth 65536 in
set_option maxHeartbeats 40000000 in
theorem rm_expected (l : Launch) (Z : State) (a0 : Array Value) (hw : ∀ d ∈ tables_1, d.before a0 Z = true) (i1 : Int32) (i2 : Int32) (h0 : Heap) (n0 : Nat) (Z0 : n0 ≤ h0.size)  :
    Ctr l (⟨"com/example/wombat/wombat/LockModeCoversPinLaw", "expected", "(II)Z"⟩ : MethodName) method_3_code 2 (some FieldType.boolean) [] ({ frames := 0, cells := 0, slots := 0, locals := 0 } : Room) Z #[(.int i1), (.int i2)] h0 (fun v h L => v = some (.int (f_expected i1 i2)) ∧ Fr n0 L ∧ h = h0) := by
  refine own_enter pn_0 (fun p e s m below meth c s₁ hx hby hml hown hnm hret hlk hZ X0 e0 => ?_)
  have N0 := Fr.nil n0
  rw [ef_rm_expected m _ _]
  show Go p e below (s₁.setTop (mkF m 0 #[.val (.int i1), .val (.int i2)] [])) _
  refine g_iloadN X0 hx (hb hby d1_0) rfl ?_
  refine g_iloadN X0 hx (hb hby d1_1) rfl ?_
  by_cases c2_1 : i1 = i2
  · refine g_icmpNo X0 hx (hb hby d1_2) (teq c2_1).2 ?_
    refine g_iconst X0 hx (1 : Int32) (hb hby d1_5) (by decide) ?_
    exact own_retZ X0 hx hret hlk (hb hby d1_6) (by decide) (by decide) (by decide) ⟨by rw [f_expected, if_pos c2_1], N0, e0⟩
  · refine g_icmpYes X0 hx 7 (hb hby d1_2) (feq c2_1).2 (by decide) (by decide) ?_
    refine g_iloadN X0 hx (hb hby d1_7) rfl ?_
    refine g_iconst X0 hx (4 : Int32) (hb hby d1_8) (by decide) ?_
    by_cases c9_2 : i1 = (4 : Int32)
    · refine g_icmpNo X0 hx (hb hby d1_9) (teq c9_2).2 ?_
      refine g_iconst X0 hx (1 : Int32) (hb hby d1_12) (by decide) ?_
      exact own_retZ X0 hx hret hlk (hb hby d1_13) (by decide) (by decide) (by decide) ⟨by rw [f_expected, if_neg c2_1, if_pos c9_2], N0, e0⟩
    · refine g_icmpYes X0 hx 14 (hb hby d1_9) (feq c9_2).2 (by decide) (by decide) ?_
      refine g_iloadN X0 hx (hb hby d1_14) rfl ?_
      by_cases c15_3 : i2 = (0 : Int32)
      · refine g_ifNo X0 hx (hb hby d1_15) ((if0 _ _).trans (teq c15_3).2) ?_
        refine g_iconst X0 hx (1 : Int32) (hb hby d1_18) (by decide) ?_
        exact own_retZ X0 hx hret hlk (hb hby d1_19) (by decide) (by decide) (by decide) ⟨by rw [f_expected, if_neg c2_1, if_neg c9_2, if_pos c15_3], N0, e0⟩
      · refine g_ifYes X0 hx 20 (hb hby d1_15) ((if0 _ _).trans (feq c15_3).2) (by decide) (by decide) ?_
        refine g_iloadN X0 hx (hb hby d1_20) rfl ?_
        refine g_iconst X0 hx (3 : Int32) (hb hby d1_21) (by decide) ?_
        by_cases c22_4 : i1 = (3 : Int32)
        · refine g_icmpNo X0 hx (hb hby d1_22) (teq c22_4).2 ?_
          refine g_iloadN X0 hx (hb hby d1_25) rfl ?_
          refine g_iconst X0 hx (4 : Int32) (hb hby d1_26) (by decide) ?_
          by_cases c27_5 : i2 = (4 : Int32)
          · refine g_icmpYes X0 hx 34 (hb hby d1_27) (teq c27_5).1 (by decide) (by decide) ?_
            refine g_iconst X0 hx (0 : Int32) (hb hby d1_34) (by decide) ?_
            exact own_retZ X0 hx hret hlk (hb hby d1_35) (by decide) (by decide) (by decide) ⟨by rw [f_expected, if_neg c2_1, if_neg c9_2, if_neg c15_3, if_pos c22_4, if_pos c27_5], N0, e0⟩
          · refine g_icmpNo X0 hx (hb hby d1_27) (feq c27_5).1 ?_
            refine g_iconst X0 hx (1 : Int32) (hb hby d1_30) (by decide) ?_
            refine g_goto X0 hx 35 (hb hby d1_31) (by decide) (by decide) ?_
            exact own_retZ X0 hx hret hlk (hb hby d1_35) (by decide) (by decide) (by decide) ⟨by rw [f_expected, if_neg c2_1, if_neg c9_2, if_neg c15_3, if_pos c22_4, if_neg c27_5], N0, e0⟩
        · refine g_icmpYes X0 hx 36 (hb hby d1_22) (feq c22_4).2 (by decide) (by decide) ?_
          refine g_iconst X0 hx (0 : Int32) (hb hby d1_36) (by decide) ?_
          exact own_retZ X0 hx hret hlk (hb hby d1_37) (by decide) (by decide) (by decide) ⟨by rw [f_expected, if_neg c2_1, if_neg c9_2, if_neg c15_3, if_neg c22_4], N0, e0⟩
theorem pn_1 : plainName "com/example/wombat/wombat/LockMode" = true := by first | (simp [plainName, overriddenIn]; done) | decide +kernel
def f_covers (a1 : Addr) (a2 : Addr) (u_a1_compatible : Int32) (u_a2_compatible : Int32) : Int32 := (if (u_a1_compatible &&& (u_a2_compatible ^^^ (-1 : Int32))) = (0 : Int32) then (1 : Int32) else (0 : Int32))
theorem d2_0 : decode prog_9_method_7_code 0 = .ok (.aload_n 0, 1) := by decide +kernel
theorem d2_1 : decode prog_9_method_7_code 1 = .ok (.getfield 48, 3) := by decide +kernel
theorem d2_4 : decode prog_9_method_7_code 4 = .ok (.aload_n 1, 1) := by decide +kernel
theorem d2_5 : decode prog_9_method_7_code 5 = .ok (.getfield 48, 3) := by decide +kernel
theorem d2_8 : decode prog_9_method_7_code 8 = .ok (.iconst (-1), 1) := by decide +kernel
theorem d2_9 : decode prog_9_method_7_code 9 = .ok (.ixor, 1) := by decide +kernel
theorem d2_10 : decode prog_9_method_7_code 10 = .ok (.iand, 1) := by decide +kernel
theorem d2_11 : decode prog_9_method_7_code 11 = .ok (.ifCond .ne 7, 3) := by decide +kernel
theorem d2_14 : decode prog_9_method_7_code 14 = .ok (.iconst 1, 1) := by decide +kernel
theorem d2_15 : decode prog_9_method_7_code 15 = .ok (.goto 4, 3) := by decide +kernel
theorem d2_18 : decode prog_9_method_7_code 18 = .ok (.iconst 0, 1) := by decide +kernel
theorem d2_19 : decode prog_9_method_7_code 19 = .ok (.ireturn, 1) := by decide +kernel
theorem ef_rm_covers (m : MethodId) (x0 : Addr) (x1 : Addr) : entryFrame m #[(.ref x0), (.ref x1)] 2 = mkF m 0 #[.val (.ref x0), .val (.ref x1)] [] := by first | (simp [entryFrame, mkF, argsToLocals, Value.category]; done) | rfl
set_option maxRecDepth 65536 in
set_option maxHeartbeats 40000000 in
theorem rm_covers (l : Launch) (Z : State) (a0 : Array Value) (hw : ∀ d ∈ tables_1, d.before a0 Z = true) (a1 : Addr) (a2 : Addr) (u_a1_compatible : Int32) (u_a2_compatible : Int32) (h0 : Heap) (n0 : Nat) (Z0 : n0 ≤ h0.size) (F_a1_compatible : Fld Z h0 a1 "com/example/wombat/wombat/LockMode" "compatible" "I" (.int u_a1_compatible)) (F_a2_compatible : Fld Z h0 a2 "com/example/wombat/wombat/LockMode" "compatible" "I" (.int u_a2_compatible)) :
    Ctr l (⟨"com/example/wombat/wombat/LockMode", "covers", "(Lcom/example/wombat/wombat/LockMode;)Z"⟩ : MethodName) prog_9_method_7_code 2 (some FieldType.boolean) [] ({ frames := 0, cells := 0, slots := 0, locals := 0 } : Room) Z #[(.ref a1), (.ref a2)] h0 (fun v h L => v = some (.int (f_covers a1 a2 u_a1_compatible u_a2_compatible)) ∧ Fr n0 L ∧ h = h0) := by
  refine own_enter pn_1 (fun p e s m below meth c s₁ hx hby hml hown hnm hret hlk hZ X0 e0 => ?_)
  have N0 := Fr.nil n0
  rw [ef_rm_covers m _ _]
  show Go p e below (s₁.setTop (mkF m 0 #[.val (.ref a1), .val (.ref a2)] [])) _
  refine g_aloadN X0 hx (hb hby d2_0) rfl rfl ?_
  obtain ⟨T1, X1, e1, st1⟩ := getF X0 hx hZ hown (host := "") (Or.inl (hw _ (List.mem_of_getElem? (i := 24) rfl))) Via.refl e0 F_a1_compatible (g := (mkF m 1 #[.val (.ref a1), .val (.ref a2)] [(.ref a1)])) rfl rfl (hb hby d2_1)
  refine Go.mp st1 ?_
  show Go p e below (T1.setTop (mkF m 4 #[.val (.ref a1), .val (.ref a2)] [(.int u_a1_compatible)])) _
  refine g_aloadN X1 hx (hb hby d2_4) rfl rfl ?_
  obtain ⟨T2, X2, e2, st2⟩ := getF X1 hx hZ hown (host := "") (Or.inl (hw _ (List.mem_of_getElem? (i := 24) rfl))) Via.refl e1 F_a2_compatible (g := (mkF m 5 #[.val (.ref a1), .val (.ref a2)] [(.ref a2), (.int u_a1_compatible)])) rfl rfl (hb hby d2_5)
  refine Go.mp st2 ?_
  show Go p e below (T2.setTop (mkF m 8 #[.val (.ref a1), .val (.ref a2)] [(.int u_a2_compatible), (.int u_a1_compatible)])) _
  refine g_iconst X2 hx (-1 : Int32) (hb hby d2_8) (by decide) ?_
  refine g_ixor X2 hx (hb hby d2_9) ?_
  refine g_iand X2 hx (hb hby d2_10) ?_
  by_cases c11_3 : (u_a1_compatible &&& (u_a2_compatible ^^^ (-1 : Int32))) = (0 : Int32)
  · refine g_ifNo X2 hx (hb hby d2_11) ((if0 _ _).trans (teq c11_3).2) ?_
    refine g_iconst X2 hx (1 : Int32) (hb hby d2_14) (by decide) ?_
    refine g_goto X2 hx 19 (hb hby d2_15) (by decide) (by decide) ?_
    exact own_retZ X2 hx hret hlk (hb hby d2_19) (by decide) (by decide) (by decide) ⟨by rw [f_covers, if_pos c11_3], N0, e2⟩
  · refine g_ifYes X2 hx 18 (hb hby d2_11) ((if0 _ _).trans (feq c11_3).2) (by decide) (by decide) ?_
    refine g_iconst X2 hx (0 : Int32) (hb hby d2_18) (by decide) ?_
    exact own_retZ X2 hx hret hlk (hb hby d2_19) (by decide) (by decide) (by decide) ⟨by rw [f_covers, if_neg c11_3], N0, e2⟩
theorem own_mod5 (x : Int32) : ((x &&& (2147483647 : Int32)) % (5 : Int32)) = (0 : Int32) ∨ ((x &&& (2147483647 : Int32)) % (5 : Int32)) = (1 : Int32) ∨ ((x &&& (2147483647 : Int32)) % (5 : Int32)) = (2 : Int32) ∨ ((x &&& (2147483647 : Int32)) % (5 : Int32)) = (3 : Int32) ∨ ((x &&& (2147483647 : Int32)) % (5 : Int32)) = (4 : Int32) := by
  have a : 0 ≤ (x &&& (2147483647 : Int32)).toInt := (c_and x 2147483647 (by decide)).1
  have b := (c_irem (x &&& (2147483647 : Int32)) (5 : Int32) 5 rfl).1 a
  simp only [← Int32.toInt_inj, b, Int32.reduceToInt]
  omega
theorem pd_0 : parseMethodDescriptor "(II)Z" = some ⟨[FieldType.int, FieldType.int], some FieldType.boolean⟩ := by decide +kernel
theorem pd_1 : parseMethodDescriptor "(Lcom/example/wombat/wombat/LockMode;)Z" = some ⟨[(FieldType.object "com/example/wombat/wombat/LockMode")], some FieldType.boolean⟩ := by decide +kernel
theorem ef_rm_law (m : MethodId) (x0 : Int32) (x1 : Int32) : entryFrame m #[(.int x0), (.int x1)] maxLocals = mkF m 0 #[.val (.int x0), .val (.int x1), .unset, .unset, .unset, .unset] [] := by first | (simp [entryFrame, mkF, argsToLocals, Value.category, maxLocals]; done) | rfl
set_option maxRecDepth 65536 in
set_option maxHeartbeats 40000000 in
theorem rm_law (l : Launch) (Z : State) (a0 : Array Value) (hw : ∀ d ∈ tables_1, d.before a0 Z = true) (p1 : Int32) (p2 : Int32) (w_IS : Addr) (w_IX : Addr) (w_S : Addr) (w_SIX : Addr) (w_X : Addr) (h0 : Heap) (n0 : Nat) (Z0 : n0 ≤ h0.size) (S_IS : Sta Z h0 "com/example/wombat/wombat/LockMode" "IS" "Lcom/example/wombat/wombat/LockMode;" (.ref w_IS)) (E_w_IS : Exa Z h0 w_IS "com/example/wombat/wombat/LockMode") (S_IX : Sta Z h0 "com/example/wombat/wombat/LockMode" "IX" "Lcom/example/wombat/wombat/LockMode;" (.ref w_IX)) (E_w_IX : Exa Z h0 w_IX "com/example/wombat/wombat/LockMode") (S_S : Sta Z h0 "com/example/wombat/wombat/LockMode" "S" "Lcom/example/wombat/wombat/LockMode;" (.ref w_S)) (E_w_S : Exa Z h0 w_S "com/example/wombat/wombat/LockMode") (S_SIX : Sta Z h0 "com/example/wombat/wombat/LockMode" "SIX" "Lcom/example/wombat/wombat/LockMode;" (.ref w_SIX)) (E_w_SIX : Exa Z h0 w_SIX "com/example/wombat/wombat/LockMode") (S_X : Sta Z h0 "com/example/wombat/wombat/LockMode" "X" "Lcom/example/wombat/wombat/LockMode;" (.ref w_X)) (E_w_X : Exa Z h0 w_X "com/example/wombat/wombat/LockMode") (F_w_IS_compatible : Fld Z h0 w_IS "com/example/wombat/wombat/LockMode" "compatible" "I" (.int (15 : Int32))) (F_w_SIX_compatible : Fld Z h0 w_SIX "com/example/wombat/wombat/LockMode" "compatible" "I" (.int (1 : Int32))) (F_w_X_compatible : Fld Z h0 w_X "com/example/wombat/wombat/LockMode" "compatible" "I" (.int (0 : Int32))) (F_w_IX_compatible : Fld Z h0 w_IX "com/example/wombat/wombat/LockMode" "compatible" "I" (.int (3 : Int32))) (F_w_S_compatible : Fld Z h0 w_S "com/example/wombat/wombat/LockMode" "compatible" "I" (.int (5 : Int32))) (ne_IS_SIX : ¬ (w_IS = w_SIX)) (ne_IS_X : ¬ (w_IS = w_X)) (ne_IS_IX : ¬ (w_IS = w_IX)) (ne_IS_S : ¬ (w_IS = w_S)) (ne_SIX_X : ¬ (w_SIX = w_X)) (ne_SIX_IX : ¬ (w_SIX = w_IX)) (ne_SIX_S : ¬ (w_SIX = w_S)) (ne_X_IX : ¬ (w_X = w_IX)) (ne_X_S : ¬ (w_X = w_S)) (ne_IX_S : ¬ (w_IX = w_S)) :
    Ctr l x code maxLocals ret tables_1 room_1 Z #[(.int p1), (.int p2)] h0 (fun v h L => v = some (.int 1) ∧ Fr n0 L) := by
  refine own_enter pn_0 (fun p e s m below meth c s₁ hx hby hml hown hnm hret hlk hZ X0 e0 => ?_)
  have N0 := Fr.nil n0
  rw [ef_rm_law m _ _]
  show Go p e below (s₁.setTop (mkF m 0 #[.val (.int p1), .val (.int p2), .unset, .unset, .unset, .unset] [])) _
  refine g_iconst X0 hx (5 : Int32) (hb hby at_0) (by decide) ?_
  obtain ⟨T1, h1, k1, X1, e1, E1, A1, O1, st1⟩ := newR X0 hx hZ hown (hw _ (List.mem_of_getElem? (i := 0) rfl)) (hw _ (List.mem_of_getElem? (i := 1) rfl)) e0 (g := (mkF m 1 #[.val (.int p1), .val (.int p2), .unset, .unset, .unset, .unset] [(.int (5 : Int32))])) rfl (hb hby at_1) rfl (by decide) (cap := 5) (by decide) (by decide) (by decide) (by decide)
  obtain ⟨b1, g1⟩ : ∃ z, z = h0.size := ⟨_, rfl⟩
  rw [← g1] at A1 st1
  have ne_w_IS_b1 : w_IS ≠ b1 := Nat.ne_of_lt (Nat.lt_of_lt_of_le E_w_IS.lt (Nat.le_of_eq g1.symm))
  have ne_w_IX_b1 : w_IX ≠ b1 := Nat.ne_of_lt (Nat.lt_of_lt_of_le E_w_IX.lt (Nat.le_of_eq g1.symm))
  have ne_w_S_b1 : w_S ≠ b1 := Nat.ne_of_lt (Nat.lt_of_lt_of_le E_w_S.lt (Nat.le_of_eq g1.symm))
  have ne_w_SIX_b1 : w_SIX ≠ b1 := Nat.ne_of_lt (Nat.lt_of_lt_of_le E_w_SIX.lt (Nat.le_of_eq g1.symm))
  have ne_w_X_b1 : w_X ≠ b1 := Nat.ne_of_lt (Nat.lt_of_lt_of_le E_w_X.lt (Nat.le_of_eq g1.symm))
  have g_b1 : n0 ≤ b1 := Nat.le_trans Z0 (Nat.le_of_eq g1.symm)
  have Z1 : n0 ≤ h1.size := Nat.le_trans Z0 E1.1
  have S_IS_1 := Sta.ext E1 S_IS
  have E_w_IS_1 := Exa.ext E1 E_w_IS
  have S_IX_1 := Sta.ext E1 S_IX
  have E_w_IX_1 := Exa.ext E1 E_w_IX
  have S_S_1 := Sta.ext E1 S_S
  have E_w_S_1 := Exa.ext E1 E_w_S
  have S_SIX_1 := Sta.ext E1 S_SIX
  have E_w_SIX_1 := Exa.ext E1 E_w_SIX
  have S_X_1 := Sta.ext E1 S_X
  have E_w_X_1 := Exa.ext E1 E_w_X
  have F_w_IS_compatible_1 := Fld.ext E1 F_w_IS_compatible
  have F_w_SIX_compatible_1 := Fld.ext E1 F_w_SIX_compatible
  have F_w_X_compatible_1 := Fld.ext E1 F_w_X_compatible
  have F_w_IX_compatible_1 := Fld.ext E1 F_w_IX_compatible
  have F_w_S_compatible_1 := Fld.ext E1 F_w_S_compatible
  have V1 := Arv.new A1 (by decide)
  refine Go.mp st1 ?_
  have V_b10 := Arv.pad (vs' := List.replicate 5 .null) V1 (own_pad 5)
  show Go p e below (T1.setTop (mkF m 4 #[.val (.int p1), .val (.int p2), .unset, .unset, .unset, .unset] [(.ref b1)])) _
  refine g_dup X1 hx (hb hby at_4) rfl ?_
  refine g_iconst X1 hx (0 : Int32) (hb hby at_5) (by decide) ?_
  obtain ⟨T2, X2, e2, st2⟩ := getS2 X1 hx hZ hown (host := "") (Or.inl (hw _ (List.mem_of_getElem? (i := 2) rfl))) Via.refl e1 S_IS_1 (g := (mkF m 6 #[.val (.int p1), .val (.int p2), .unset, .unset, .unset, .unset] [(.int (0 : Int32)), (.ref b1), (.ref b1)])) rfl (hb hby at_6)
  refine Go.mp st2 ?_
  show Go p e below (T2.setTop (mkF m 9 #[.val (.int p1), .val (.int p2), .unset, .unset, .unset, .unset] [(.ref w_IS), (.int (0 : Int32)), (.ref b1), (.ref b1)])) _
  obtain ⟨cl3, Ar3, cq3, sz3, nn3, Ha3, Gf3⟩ := id V_b10
  have hin3 : ¬ ((0 : Int32) < 0 ∨ cl3.slots.size ≤ (0 : Int32).toNatClampNeg) := by rw [sz3]; decide
  have Sto3 : Sto Z h1 b1 (.ref w_IS) := Sto.of Ar3 (by rw [cq3]; exact O1) (Ins.of_exa E_w_IS_1 (hw _ (List.mem_of_getElem? (i := 5) rfl)))
  obtain ⟨T3, h3, X3, e3, W3, st3⟩ := stR X2 hx hZ e2 Ar3 (j := 0) hin3 rfl Sto3 (g := (mkF m 9 #[.val (.int p1), .val (.int p2), .unset, .unset, .unset, .unset] [(.ref w_IS), (.int (0 : Int32)), (.ref b1), (.ref b1)])) rfl rfl (hb hby at_9)
  have N3 := Fr.snoc X3 N0 g_b1
  have S_IS_3 := Sta.wr W3 S_IS_1
  have E_w_IS_3 := Exa.wr W3 E_w_IS_1
  have S_IX_3 := Sta.wr W3 S_IX_1
  have E_w_IX_3 := Exa.wr W3 E_w_IX_1
  have S_S_3 := Sta.wr W3 S_S_1
  have E_w_S_3 := Exa.wr W3 E_w_S_1
  have S_SIX_3 := Sta.wr W3 S_SIX_1
  have E_w_SIX_3 := Exa.wr W3 E_w_SIX_1
  have S_X_3 := Sta.wr W3 S_X_1
  have E_w_X_3 := Exa.wr W3 E_w_X_1
  have F_w_IS_compatible_3 := Fld.other W3 F_w_IS_compatible_1 (Or.inl ne_w_IS_b1)
  have F_w_SIX_compatible_3 := Fld.other W3 F_w_SIX_compatible_1 (Or.inl ne_w_SIX_b1)
  have F_w_X_compatible_3 := Fld.other W3 F_w_X_compatible_1 (Or.inl ne_w_X_b1)
  have F_w_IX_compatible_3 := Fld.other W3 F_w_IX_compatible_1 (Or.inl ne_w_IX_b1)
  have F_w_S_compatible_3 := Fld.other W3 F_w_S_compatible_1 (Or.inl ne_w_S_b1)
  have V_b1_3 := Arv.set Ar3 cq3 sz3 nn3 Ha3 Gf3 (v := (.ref w_IS)) rfl W3 0 (by decide) (by simp)
  have Z3 : n0 ≤ h3.size := Nat.le_trans Z1 (Nat.le_of_eq W3.size.symm)
  refine Go.mp st3 ?_
  show Go p e below (T3.setTop (mkF m 10 #[.val (.int p1), .val (.int p2), .unset, .unset, .unset, .unset] [(.ref b1)])) _
  refine g_dup X3 hx (hb hby at_10) rfl ?_
  refine g_iconst X3 hx (1 : Int32) (hb hby at_11) (by decide) ?_
  obtain ⟨T4, X4, e4, st4⟩ := getS2 X3 hx hZ hown (host := "") (Or.inl (hw _ (List.mem_of_getElem? (i := 6) rfl))) Via.refl e3 S_IX_3 (g := (mkF m 12 #[.val (.int p1), .val (.int p2), .unset, .unset, .unset, .unset] [(.int (1 : Int32)), (.ref b1), (.ref b1)])) rfl (hb hby at_12)
  refine Go.mp st4 ?_
  show Go p e below (T4.setTop (mkF m 15 #[.val (.int p1), .val (.int p2), .unset, .unset, .unset, .unset] [(.ref w_IX), (.int (1 : Int32)), (.ref b1), (.ref b1)])) _
  obtain ⟨cl5, Ar5, cq5, sz5, nn5, Ha5, Gf5⟩ := id V_b1_3
  have hin5 : ¬ ((1 : Int32) < 0 ∨ cl5.slots.size ≤ (1 : Int32).toNatClampNeg) := by rw [sz5]; decide
  have Sto5 : Sto Z h3 b1 (.ref w_IX) := Sto.of Ar5 (by rw [cq5]; exact O1) (Ins.of_exa E_w_IX_3 (hw _ (List.mem_of_getElem? (i := 5) rfl)))
  obtain ⟨T5, h5, X5, e5, W5, st5⟩ := stR X4 hx hZ e4 Ar5 (j := 1) hin5 rfl Sto5 (g := (mkF m 15 #[.val (.int p1), .val (.int p2), .unset, .unset, .unset, .unset] [(.ref w_IX), (.int (1 : Int32)), (.ref b1), (.ref b1)])) rfl rfl (hb hby at_15)
  have N5 := Fr.snoc X5 N3 g_b1
  have S_IS_5 := Sta.wr W5 S_IS_3
  have E_w_IS_5 := Exa.wr W5 E_w_IS_3
  have S_IX_5 := Sta.wr W5 S_IX_3
  have E_w_IX_5 := Exa.wr W5 E_w_IX_3
  have S_S_5 := Sta.wr W5 S_S_3
  have E_w_S_5 := Exa.wr W5 E_w_S_3
  have S_SIX_5 := Sta.wr W5 S_SIX_3
  have E_w_SIX_5 := Exa.wr W5 E_w_SIX_3
  have S_X_5 := Sta.wr W5 S_X_3
  have E_w_X_5 := Exa.wr W5 E_w_X_3
  have F_w_IS_compatible_5 := Fld.other W5 F_w_IS_compatible_3 (Or.inl ne_w_IS_b1)
  have F_w_SIX_compatible_5 := Fld.other W5 F_w_SIX_compatible_3 (Or.inl ne_w_SIX_b1)
  have F_w_X_compatible_5 := Fld.other W5 F_w_X_compatible_3 (Or.inl ne_w_X_b1)
  have F_w_IX_compatible_5 := Fld.other W5 F_w_IX_compatible_3 (Or.inl ne_w_IX_b1)
  have F_w_S_compatible_5 := Fld.other W5 F_w_S_compatible_3 (Or.inl ne_w_S_b1)
  have V_b1_5 := Arv.set Ar5 cq5 sz5 nn5 Ha5 Gf5 (v := (.ref w_IX)) rfl W5 1 (by decide) (by simp)
  have Z5 : n0 ≤ h5.size := Nat.le_trans Z3 (Nat.le_of_eq W5.size.symm)
  refine Go.mp st5 ?_
  show Go p e below (T5.setTop (mkF m 16 #[.val (.int p1), .val (.int p2), .unset, .unset, .unset, .unset] [(.ref b1)])) _
  refine g_dup X5 hx (hb hby at_16) rfl ?_
  refine g_iconst X5 hx (2 : Int32) (hb hby at_17) (by decide) ?_
  obtain ⟨T6, X6, e6, st6⟩ := getS2 X5 hx hZ hown (host := "") (Or.inl (hw _ (List.mem_of_getElem? (i := 8) rfl))) Via.refl e5 S_S_5 (g := (mkF m 18 #[.val (.int p1), .val (.int p2), .unset, .unset, .unset, .unset] [(.int (2 : Int32)), (.ref b1), (.ref b1)])) rfl (hb hby at_18)
  refine Go.mp st6 ?_
  show Go p e below (T6.setTop (mkF m 21 #[.val (.int p1), .val (.int p2), .unset, .unset, .unset, .unset] [(.ref w_S), (.int (2 : Int32)), (.ref b1), (.ref b1)])) _
  obtain ⟨cl7, Ar7, cq7, sz7, nn7, Ha7, Gf7⟩ := id V_b1_5
  have hin7 : ¬ ((2 : Int32) < 0 ∨ cl7.slots.size ≤ (2 : Int32).toNatClampNeg) := by rw [sz7]; decide
  have Sto7 : Sto Z h5 b1 (.ref w_S) := Sto.of Ar7 (by rw [cq7]; exact O1) (Ins.of_exa E_w_S_5 (hw _ (List.mem_of_getElem? (i := 5) rfl)))
  obtain ⟨T7, h7, X7, e7, W7, st7⟩ := stR X6 hx hZ e6 Ar7 (j := 2) hin7 rfl Sto7 (g := (mkF m 21 #[.val (.int p1), .val (.int p2), .unset, .unset, .unset, .unset] [(.ref w_S), (.int (2 : Int32)), (.ref b1), (.ref b1)])) rfl rfl (hb hby at_21)
  have N7 := Fr.snoc X7 N5 g_b1
  have S_IS_7 := Sta.wr W7 S_IS_5
  have E_w_IS_7 := Exa.wr W7 E_w_IS_5
  have S_IX_7 := Sta.wr W7 S_IX_5
  have E_w_IX_7 := Exa.wr W7 E_w_IX_5
  have S_S_7 := Sta.wr W7 S_S_5
  have E_w_S_7 := Exa.wr W7 E_w_S_5
  have S_SIX_7 := Sta.wr W7 S_SIX_5
  have E_w_SIX_7 := Exa.wr W7 E_w_SIX_5
  have S_X_7 := Sta.wr W7 S_X_5
  have E_w_X_7 := Exa.wr W7 E_w_X_5
  have F_w_IS_compatible_7 := Fld.other W7 F_w_IS_compatible_5 (Or.inl ne_w_IS_b1)
  have F_w_SIX_compatible_7 := Fld.other W7 F_w_SIX_compatible_5 (Or.inl ne_w_SIX_b1)
  have F_w_X_compatible_7 := Fld.other W7 F_w_X_compatible_5 (Or.inl ne_w_X_b1)
  have F_w_IX_compatible_7 := Fld.other W7 F_w_IX_compatible_5 (Or.inl ne_w_IX_b1)
  have F_w_S_compatible_7 := Fld.other W7 F_w_S_compatible_5 (Or.inl ne_w_S_b1)
  have V_b1_7 := Arv.set Ar7 cq7 sz7 nn7 Ha7 Gf7 (v := (.ref w_S)) rfl W7 2 (by decide) (by simp)
  have Z7 : n0 ≤ h7.size := Nat.le_trans Z5 (Nat.le_of_eq W7.size.symm)
  refine Go.mp st7 ?_
  show Go p e below (T7.setTop (mkF m 22 #[.val (.int p1), .val (.int p2), .unset, .unset, .unset, .unset] [(.ref b1)])) _
  refine g_dup X7 hx (hb hby at_22) rfl ?_
  refine g_iconst X7 hx (3 : Int32) (hb hby at_23) (by decide) ?_
  obtain ⟨T8, X8, e8, st8⟩ := getS2 X7 hx hZ hown (host := "") (Or.inl (hw _ (List.mem_of_getElem? (i := 10) rfl))) Via.refl e7 S_SIX_7 (g := (mkF m 24 #[.val (.int p1), .val (.int p2), .unset, .unset, .unset, .unset] [(.int (3 : Int32)), (.ref b1), (.ref b1)])) rfl (hb hby at_24)
  refine Go.mp st8 ?_
  show Go p e below (T8.setTop (mkF m 27 #[.val (.int p1), .val (.int p2), .unset, .unset, .unset, .unset] [(.ref w_SIX), (.int (3 : Int32)), (.ref b1), (.ref b1)])) _
  obtain ⟨cl9, Ar9, cq9, sz9, nn9, Ha9, Gf9⟩ := id V_b1_7
  have hin9 : ¬ ((3 : Int32) < 0 ∨ cl9.slots.size ≤ (3 : Int32).toNatClampNeg) := by rw [sz9]; decide
  have Sto9 : Sto Z h7 b1 (.ref w_SIX) := Sto.of Ar9 (by rw [cq9]; exact O1) (Ins.of_exa E_w_SIX_7 (hw _ (List.mem_of_getElem? (i := 5) rfl)))
  obtain ⟨T9, h9, X9, e9, W9, st9⟩ := stR X8 hx hZ e8 Ar9 (j := 3) hin9 rfl Sto9 (g := (mkF m 27 #[.val (.int p1), .val (.int p2), .unset, .unset, .unset, .unset] [(.ref w_SIX), (.int (3 : Int32)), (.ref b1), (.ref b1)])) rfl rfl (hb hby at_27)
  have N9 := Fr.snoc X9 N7 g_b1
  have S_IS_9 := Sta.wr W9 S_IS_7
  have E_w_IS_9 := Exa.wr W9 E_w_IS_7
  have S_IX_9 := Sta.wr W9 S_IX_7
  have E_w_IX_9 := Exa.wr W9 E_w_IX_7
  have S_S_9 := Sta.wr W9 S_S_7
  have E_w_S_9 := Exa.wr W9 E_w_S_7
  have S_SIX_9 := Sta.wr W9 S_SIX_7
  have E_w_SIX_9 := Exa.wr W9 E_w_SIX_7
  have S_X_9 := Sta.wr W9 S_X_7
  have E_w_X_9 := Exa.wr W9 E_w_X_7
  have F_w_IS_compatible_9 := Fld.other W9 F_w_IS_compatible_7 (Or.inl ne_w_IS_b1)
  have F_w_SIX_compatible_9 := Fld.other W9 F_w_SIX_compatible_7 (Or.inl ne_w_SIX_b1)
  have F_w_X_compatible_9 := Fld.other W9 F_w_X_compatible_7 (Or.inl ne_w_X_b1)
  have F_w_IX_compatible_9 := Fld.other W9 F_w_IX_compatible_7 (Or.inl ne_w_IX_b1)
  have F_w_S_compatible_9 := Fld.other W9 F_w_S_compatible_7 (Or.inl ne_w_S_b1)
  have V_b1_9 := Arv.set Ar9 cq9 sz9 nn9 Ha9 Gf9 (v := (.ref w_SIX)) rfl W9 3 (by decide) (by simp)
  have Z9 : n0 ≤ h9.size := Nat.le_trans Z7 (Nat.le_of_eq W9.size.symm)
  refine Go.mp st9 ?_
  show Go p e below (T9.setTop (mkF m 28 #[.val (.int p1), .val (.int p2), .unset, .unset, .unset, .unset] [(.ref b1)])) _
  refine g_dup X9 hx (hb hby at_28) rfl ?_
  refine g_iconst X9 hx (4 : Int32) (hb hby at_29) (by decide) ?_
  obtain ⟨T10, X10, e10, st10⟩ := getS2 X9 hx hZ hown (host := "") (Or.inl (hw _ (List.mem_of_getElem? (i := 12) rfl))) Via.refl e9 S_X_9 (g := (mkF m 30 #[.val (.int p1), .val (.int p2), .unset, .unset, .unset, .unset] [(.int (4 : Int32)), (.ref b1), (.ref b1)])) rfl (hb hby at_30)
  refine Go.mp st10 ?_
  show Go p e below (T10.setTop (mkF m 33 #[.val (.int p1), .val (.int p2), .unset, .unset, .unset, .unset] [(.ref w_X), (.int (4 : Int32)), (.ref b1), (.ref b1)])) _
  obtain ⟨cl11, Ar11, cq11, sz11, nn11, Ha11, Gf11⟩ := id V_b1_9
  have hin11 : ¬ ((4 : Int32) < 0 ∨ cl11.slots.size ≤ (4 : Int32).toNatClampNeg) := by rw [sz11]; decide
  have Sto11 : Sto Z h9 b1 (.ref w_X) := Sto.of Ar11 (by rw [cq11]; exact O1) (Ins.of_exa E_w_X_9 (hw _ (List.mem_of_getElem? (i := 5) rfl)))
  obtain ⟨T11, h11, X11, e11, W11, st11⟩ := stR X10 hx hZ e10 Ar11 (j := 4) hin11 rfl Sto11 (g := (mkF m 33 #[.val (.int p1), .val (.int p2), .unset, .unset, .unset, .unset] [(.ref w_X), (.int (4 : Int32)), (.ref b1), (.ref b1)])) rfl rfl (hb hby at_33)
  have N11 := Fr.snoc X11 N9 g_b1
  have S_IS_11 := Sta.wr W11 S_IS_9
  have E_w_IS_11 := Exa.wr W11 E_w_IS_9
  have S_IX_11 := Sta.wr W11 S_IX_9
  have E_w_IX_11 := Exa.wr W11 E_w_IX_9
  have S_S_11 := Sta.wr W11 S_S_9
  have E_w_S_11 := Exa.wr W11 E_w_S_9
  have S_SIX_11 := Sta.wr W11 S_SIX_9
  have E_w_SIX_11 := Exa.wr W11 E_w_SIX_9
  have S_X_11 := Sta.wr W11 S_X_9
  have E_w_X_11 := Exa.wr W11 E_w_X_9
  have F_w_IS_compatible_11 := Fld.other W11 F_w_IS_compatible_9 (Or.inl ne_w_IS_b1)
  have F_w_SIX_compatible_11 := Fld.other W11 F_w_SIX_compatible_9 (Or.inl ne_w_SIX_b1)
  have F_w_X_compatible_11 := Fld.other W11 F_w_X_compatible_9 (Or.inl ne_w_X_b1)
  have F_w_IX_compatible_11 := Fld.other W11 F_w_IX_compatible_9 (Or.inl ne_w_IX_b1)
  have F_w_S_compatible_11 := Fld.other W11 F_w_S_compatible_9 (Or.inl ne_w_S_b1)
  have V_b1_11 := Arv.set Ar11 cq11 sz11 nn11 Ha11 Gf11 (v := (.ref w_X)) rfl W11 4 (by decide) (by simp)
  have Z11 : n0 ≤ h11.size := Nat.le_trans Z9 (Nat.le_of_eq W11.size.symm)
  refine Go.mp st11 ?_
  show Go p e below (T11.setTop (mkF m 34 #[.val (.int p1), .val (.int p2), .unset, .unset, .unset, .unset] [(.ref b1)])) _
  refine g_astoreN X11 hx #[.val (.int p1), .val (.int p2), .val (.ref b1), .unset, .unset, .unset] (hb hby at_34) rfl rfl ?_
  refine g_iloadN X11 hx (hb hby at_35) rfl ?_
  refine Go.mp (fun _ k => X11.ldcInt hx hown (mvT hZ (hw _ (List.mem_of_getElem? (i := 14) rfl))) (g := (mkF m 36 #[.val (.int p1), .val (.int p2), .val (.ref b1), .unset, .unset, .unset] [(.int p1)])) rfl (hb hby at_36) _ k) ?_
  show Go p e below (T11.setTop (mkF m 38 #[.val (.int p1), .val (.int p2), .val (.ref b1), .unset, .unset, .unset] [(.int (2147483647 : Int32)), (.int p1)])) _
  refine g_iand X11 hx (hb hby at_38) ?_
  refine g_iconst X11 hx (5 : Int32) (hb hby at_39) (by decide) ?_
  refine g_irem X11 hx (hb hby at_40) (by decide) ?_
  show Go p e below (T11.setTop (mkF m 41 #[.val (.int p1), .val (.int p2), .val (.ref b1), .unset, .unset, .unset] [(.int ((p1 &&& (2147483647 : Int32)) % (5 : Int32)))])) _
  rcases own_mod5 p1 with q12 | q12 | q12 | q12 | q12
  · rw [q12]
    refine g_istoreN X11 hx #[.val (.int p1), .val (.int p2), .val (.ref b1), .val (.int (0 : Int32)), .unset, .unset] (hb hby at_41) rfl ?_
    refine g_iloadN X11 hx (hb hby at_42) rfl ?_
    refine Go.mp (fun _ k => X11.ldcInt hx hown (mvT hZ (hw _ (List.mem_of_getElem? (i := 14) rfl))) (g := (mkF m 43 #[.val (.int p1), .val (.int p2), .val (.ref b1), .val (.int (0 : Int32)), .unset, .unset] [(.int p2)])) rfl (hb hby at_43) _ k) ?_
    show Go p e below (T11.setTop (mkF m 45 #[.val (.int p1), .val (.int p2), .val (.ref b1), .val (.int (0 : Int32)), .unset, .unset] [(.int (2147483647 : Int32)), (.int p2)])) _
    refine g_iand X11 hx (hb hby at_45) ?_
    refine g_iconst X11 hx (5 : Int32) (hb hby at_46) (by decide) ?_
    refine g_irem X11 hx (hb hby at_47) (by decide) ?_
    show Go p e below (T11.setTop (mkF m 48 #[.val (.int p1), .val (.int p2), .val (.ref b1), .val (.int (0 : Int32)), .unset, .unset] [(.int ((p2 &&& (2147483647 : Int32)) % (5 : Int32)))])) _
    rcases own_mod5 p2 with q13 | q13 | q13 | q13 | q13
    · rw [q13]
      refine g_istore X11 hx #[.val (.int p1), .val (.int p2), .val (.ref b1), .val (.int (0 : Int32)), .val (.int (0 : Int32)), .unset] (hb hby at_48) rfl ?_
      refine g_iloadN X11 hx (hb hby at_50) rfl ?_
      refine g_iload X11 hx (hb hby at_51) rfl ?_
      obtain ⟨v14, T14, L14, X14, q14, st14⟩ := own_callS X11 hx hZ (y := (⟨"com/example/wombat/wombat/LockModeCoversPinLaw", "expected", "(II)Z"⟩ : MethodName)) (pc := 53) (Ls := #[.val (.int p1), .val (.int p2), .val (.ref b1), .val (.int (0 : Int32)), .val (.int (0 : Int32)), .unset]) (st := [(.int (0 : Int32)), (.int (0 : Int32))]) hown (hw _ (List.mem_of_getElem? (i := 15) rfl)) (hw _ (List.mem_of_getElem? (i := 16) rfl)) (hw _ (List.mem_of_getElem? (i := 17) rfl)) (hw _ (List.mem_of_getElem? (i := 18) rfl)) (by decide) (rm_expected l Z a0 hw (0 : Int32) (0 : Int32) h11 n0 Z11 ) e11 pd_0 (hb hby at_53) (by rw [hml]; rfl) (argsL := [(.int (0 : Int32)), (.int (0 : Int32))]) (rest := []) rfl rfl rfl (W := 0) (Nat.le_of_eq rfl) (by decide) (by decide) (by decide) (by decide)
      obtain ⟨rfl, M14, e14⟩ := q14
      have N14 := Fr.app N11 M14
      have r14 : (f_expected (0 : Int32) (0 : Int32)) = (1 : Int32) := by rw [f_expected, if_pos ((by decide) : (0 : Int32) = (0 : Int32))]
      rw [r14] at st14
      refine Go.mp st14 ?_
      show Go p e below (T14.setTop (mkF m 56 #[.val (.int p1), .val (.int p2), .val (.ref b1), .val (.int (0 : Int32)), .val (.int (0 : Int32)), .unset] [(.int (1 : Int32))])) _
      refine g_istore X14 hx #[.val (.int p1), .val (.int p2), .val (.ref b1), .val (.int (0 : Int32)), .val (.int (0 : Int32)), .val (.int (1 : Int32))] (hb hby at_56) rfl ?_
      refine g_aloadN X14 hx (hb hby at_58) rfl rfl ?_
      refine g_iloadN X14 hx (hb hby at_59) rfl ?_
      obtain ⟨cl15, Ar15, -, sz15, -, Ha15, -⟩ := id V_b1_11
      have hin15 : ¬ ((0 : Int32) < 0 ∨ cl15.slots.size ≤ (0 : Int32).toNatClampNeg) := by rw [sz15]; decide
      have hat15 : cl15.slots[(0 : Int32).toNatClampNeg]? = some (.ref w_IS) := Ha15 0 (by rw [sz15]; decide)
      refine Go.mp (fun _ k => X14.aaload hx (j := 0) (v := (.ref w_IS)) (by rw [e14]; exact Ar15.1) (State.isArrayOf_alike hZ.alike Ar15.2.1) rfl Ar15.2.2 hin15 hat15 (g := (mkF m 60 #[.val (.int p1), .val (.int p2), .val (.ref b1), .val (.int (0 : Int32)), .val (.int (0 : Int32)), .val (.int (1 : Int32))] [(.int (0 : Int32)), (.ref b1)])) rfl rfl (hb hby at_60) _ k) ?_
      show Go p e below (T14.setTop (mkF m 61 #[.val (.int p1), .val (.int p2), .val (.ref b1), .val (.int (0 : Int32)), .val (.int (0 : Int32)), .val (.int (1 : Int32))] [(.ref w_IS)])) _
      refine g_aloadN X14 hx (hb hby at_61) rfl rfl ?_
      refine g_iload X14 hx (hb hby at_62) rfl ?_
      obtain ⟨cl16, Ar16, -, sz16, -, Ha16, -⟩ := id V_b1_11
      have hin16 : ¬ ((0 : Int32) < 0 ∨ cl16.slots.size ≤ (0 : Int32).toNatClampNeg) := by rw [sz16]; decide
      have hat16 : cl16.slots[(0 : Int32).toNatClampNeg]? = some (.ref w_IS) := Ha16 0 (by rw [sz16]; decide)
      refine Go.mp (fun _ k => X14.aaload hx (j := 0) (v := (.ref w_IS)) (by rw [e14]; exact Ar16.1) (State.isArrayOf_alike hZ.alike Ar16.2.1) rfl Ar16.2.2 hin16 hat16 (g := (mkF m 64 #[.val (.int p1), .val (.int p2), .val (.ref b1), .val (.int (0 : Int32)), .val (.int (0 : Int32)), .val (.int (1 : Int32))] [(.int (0 : Int32)), (.ref b1), (.ref w_IS)])) rfl rfl (hb hby at_64) _ k) ?_
      show Go p e below (T14.setTop (mkF m 65 #[.val (.int p1), .val (.int p2), .val (.ref b1), .val (.int (0 : Int32)), .val (.int (0 : Int32)), .val (.int (1 : Int32))] [(.ref w_IS), (.ref w_IS)])) _
      obtain ⟨v17, T17, L17, X17, q17, st17⟩ := own_callV X14 hx hZ (y := (⟨"com/example/wombat/wombat/LockMode", "covers", "(Lcom/example/wombat/wombat/LockMode;)Z"⟩ : MethodName)) (pc := 65) (Ls := #[.val (.int p1), .val (.int p2), .val (.ref b1), .val (.int (0 : Int32)), .val (.int (0 : Int32)), .val (.int (1 : Int32))]) (st := [(.ref w_IS), (.ref w_IS)]) hown (hw _ (List.mem_of_getElem? (i := 19) rfl)) (hw _ (List.mem_of_getElem? (i := 20) rfl)) (hw _ (List.mem_of_getElem? (i := 22) rfl)) (hw _ (List.mem_of_getElem? (i := 21) rfl)) (hw _ (List.mem_of_getElem? (i := 23) rfl)) (hw _ (List.mem_of_getElem? (i := 3) rfl)) (by decide) (rm_covers l Z a0 hw w_IS w_IS (15 : Int32) (15 : Int32) h11 n0 Z11 F_w_IS_compatible_11 F_w_IS_compatible_11) e14 E_w_IS_11 pd_1 (hb hby at_65) (by rw [hml]; rfl) (argsL := [(.ref w_IS)]) (rest := []) rfl rfl rfl (W := 0) (Nat.le_of_eq rfl) (by decide) (by decide) (by decide) (by decide)
      obtain ⟨rfl, M17, e17⟩ := q17
      have N17 := Fr.app N14 M17
      have r17 : (f_covers w_IS w_IS (15 : Int32) (15 : Int32)) = (1 : Int32) := by rw [f_covers, if_pos ((by decide) : ((15 : Int32) &&& ((15 : Int32) ^^^ (-1 : Int32))) = (0 : Int32))]
      rw [r17] at st17
      refine Go.mp st17 ?_
      show Go p e below (T17.setTop (mkF m 68 #[.val (.int p1), .val (.int p2), .val (.ref b1), .val (.int (0 : Int32)), .val (.int (0 : Int32)), .val (.int (1 : Int32))] [(.int (1 : Int32))])) _
      refine g_iload X17 hx (hb hby at_68) rfl ?_
      refine g_icmpNo X17 hx (hb hby at_70) (teq ((by decide) : (1 : Int32) = (1 : Int32))).2 ?_
      refine g_iconst X17 hx (1 : Int32) (hb hby at_73) (by decide) ?_
      refine g_goto X17 hx 78 (hb hby at_74) (by decide) (by decide) ?_
      exact own_retZ X17 hx hret hlk (hb hby at_78) (by decide) (by decide) (by decide) ⟨rfl, N17⟩
    · rw [q13]
      refine g_istore X11 hx #[.val (.int p1), .val (.int p2), .val (.ref b1), .val (.int (0 : Int32)), .val (.int (1 : Int32)), .unset] (hb hby at_48) rfl ?_
      refine g_iloadN X11 hx (hb hby at_50) rfl ?_
      refine g_iload X11 hx (hb hby at_51) rfl ?_
      obtain ⟨v18, T18, L18, X18, q18, st18⟩ := own_callS X11 hx hZ (y := (⟨"com/example/wombat/wombat/LockModeCoversPinLaw", "expected", "(II)Z"⟩ : MethodName)) (pc := 53) (Ls := #[.val (.int p1), .val (.int p2), .val (.ref b1), .val (.int (0 : Int32)), .val (.int (1 : Int32)), .unset]) (st := [(.int (1 : Int32)), (.int (0 : Int32))]) hown (hw _ (List.mem_of_getElem? (i := 15) rfl)) (hw _ (List.mem_of_getElem? (i := 16) rfl)) (hw _ (List.mem_of_getElem? (i := 17) rfl)) (hw _ (List.mem_of_getElem? (i := 18) rfl)) (by decide) (rm_expected l Z a0 hw (0 : Int32) (1 : Int32) h11 n0 Z11 ) e11 pd_0 (hb hby at_53) (by rw [hml]; rfl) (argsL := [(.int (0 : Int32)), (.int (1 : Int32))]) (rest := []) rfl rfl rfl (W := 0) (Nat.le_of_eq rfl) (by decide) (by decide) (by decide) (by decide)
      obtain ⟨rfl, M18, e18⟩ := q18
      have N18 := Fr.app N11 M18
      have r18 : (f_expected (0 : Int32) (1 : Int32)) = (0 : Int32) := by rw [f_expected, if_neg ((by decide) : ¬ ((0 : Int32) = (1 : Int32))), if_neg ((by decide) : ¬ ((0 : Int32) = (4 : Int32))), if_neg ((by decide) : ¬ ((1 : Int32) = (0 : Int32))), if_neg ((by decide) : ¬ ((0 : Int32) = (3 : Int32)))]
      rw [r18] at st18
      refine Go.mp st18 ?_
      show Go p e below (T18.setTop (mkF m 56 #[.val (.int p1), .val (.int p2), .val (.ref b1), .val (.int (0 : Int32)), .val (.int (1 : Int32)), .unset] [(.int (0 : Int32))])) _
      refine g_istore X18 hx #[.val (.int p1), .val (.int p2), .val (.ref b1), .val (.int (0 : Int32)), .val (.int (1 : Int32)), .val (.int (0 : Int32))] (hb hby at_56) rfl ?_
      refine g_aloadN X18 hx (hb hby at_58) rfl rfl ?_
      refine g_iloadN X18 hx (hb hby at_59) rfl ?_
      obtain ⟨cl19, Ar19, -, sz19, -, Ha19, -⟩ := id V_b1_11
      have hin19 : ¬ ((0 : Int32) < 0 ∨ cl19.slots.size ≤ (0 : Int32).toNatClampNeg) := by rw [sz19]; decide
      have hat19 : cl19.slots[(0 : Int32).toNatClampNeg]? = some (.ref w_IS) := Ha19 0 (by rw [sz19]; decide)
      refine Go.mp (fun _ k => X18.aaload hx (j := 0) (v := (.ref w_IS)) (by rw [e18]; exact Ar19.1) (State.isArrayOf_alike hZ.alike Ar19.2.1) rfl Ar19.2.2 hin19 hat19 (g := (mkF m 60 #[.val (.int p1), .val (.int p2), .val (.ref b1), .val (.int (0 : Int32)), .val (.int (1 : Int32)), .val (.int (0 : Int32))] [(.int (0 : Int32)), (.ref b1)])) rfl rfl (hb hby at_60) _ k) ?_
      show Go p e below (T18.setTop (mkF m 61 #[.val (.int p1), .val (.int p2), .val (.ref b1), .val (.int (0 : Int32)), .val (.int (1 : Int32)), .val (.int (0 : Int32))] [(.ref w_IS)])) _
      refine g_aloadN X18 hx (hb hby at_61) rfl rfl ?_
      refine g_iload X18 hx (hb hby at_62) rfl ?_
      obtain ⟨cl20, Ar20, -, sz20, -, Ha20, -⟩ := id V_b1_11
      have hin20 : ¬ ((1 : Int32) < 0 ∨ cl20.slots.size ≤ (1 : Int32).toNatClampNeg) := by rw [sz20]; decide
      have hat20 : cl20.slots[(1 : Int32).toNatClampNeg]? = some (.ref w_IX) := Ha20 1 (by rw [sz20]; decide)
      refine Go.mp (fun _ k => X18.aaload hx (j := 1) (v := (.ref w_IX)) (by rw [e18]; exact Ar20.1) (State.isArrayOf_alike hZ.alike Ar20.2.1) rfl Ar20.2.2 hin20 hat20 (g := (mkF m 64 #[.val (.int p1), .val (.int p2), .val (.ref b1), .val (.int (0 : Int32)), .val (.int (1 : Int32)), .val (.int (0 : Int32))] [(.int (1 : Int32)), (.ref b1), (.ref w_IS)])) rfl rfl (hb hby at_64) _ k) ?_
      show Go p e below (T18.setTop (mkF m 65 #[.val (.int p1), .val (.int p2), .val (.ref b1), .val (.int (0 : Int32)), .val (.int (1 : Int32)), .val (.int (0 : Int32))] [(.ref w_IX), (.ref w_IS)])) _
      obtain ⟨v21, T21, L21, X21, q21, st21⟩ := own_callV X18 hx hZ (y := (⟨"com/example/wombat/wombat/LockMode", "covers", "(Lcom/example/wombat/wombat/LockMode;)Z"⟩ : MethodName)) (pc := 65) (Ls := #[.val (.int p1), .val (.int p2), .val (.ref b1), .val (.int (0 : Int32)), .val (.int (1 : Int32)), .val (.int (0 : Int32))]) (st := [(.ref w_IX), (.ref w_IS)]) hown (hw _ (List.mem_of_getElem? (i := 19) rfl)) (hw _ (List.mem_of_getElem? (i := 20) rfl)) (hw _ (List.mem_of_getElem? (i := 22) rfl)) (hw _ (List.mem_of_getElem? (i := 21) rfl)) (hw _ (List.mem_of_getElem? (i := 23) rfl)) (hw _ (List.mem_of_getElem? (i := 3) rfl)) (by decide) (rm_covers l Z a0 hw w_IS w_IX (15 : Int32) (3 : Int32) h11 n0 Z11 F_w_IS_compatible_11 F_w_IX_compatible_11) e18 E_w_IS_11 pd_1 (hb hby at_65) (by rw [hml]; rfl) (argsL := [(.ref w_IX)]) (rest := []) rfl rfl rfl (W := 0) (Nat.le_of_eq rfl) (by decide) (by decide) (by decide) (by decide)
      obtain ⟨rfl, M21, e21⟩ := q21
      have N21 := Fr.app N18 M21
      have r21 : (f_covers w_IS w_IX (15 : Int32) (3 : Int32)) = (0 : Int32) := by rw [f_covers, if_neg ((by decide) : ¬ (((15 : Int32) &&& ((3 : Int32) ^^^ (-1 : Int32))) = (0 : Int32)))]
      rw [r21] at st21
      refine Go.mp st21 ?_
      show Go p e below (T21.setTop (mkF m 68 #[.val (.int p1), .val (.int p2), .val (.ref b1), .val (.int (0 : Int32)), .val (.int (1 : Int32)), .val (.int (0 : Int32))] [(.int (0 : Int32))])) _
      refine g_iload X21 hx (hb hby at_68) rfl ?_
      refine g_icmpNo X21 hx (hb hby at_70) (teq ((by decide) : (0 : Int32) = (0 : Int32))).2 ?_
      refine g_iconst X21 hx (1 : Int32) (hb hby at_73) (by decide) ?_
      refine g_goto X21 hx 78 (hb hby at_74) (by decide) (by decide) ?_
      exact own_retZ X21 hx hret hlk (hb hby at_78) (by decide) (by decide) (by decide) ⟨rfl, N21⟩
    · rw [q13]
      refine g_istore X11 hx #[.val (.int p1), .val (.int p2), .val (.ref b1), .val (.int (0 : Int32)), .val (.int (2 : Int32)), .unset] (hb hby at_48) rfl ?_
      refine g_iloadN X11 hx (hb hby at_50) rfl ?_
      refine g_iload X11 hx (hb hby at_51) rfl ?_
      obtain ⟨v22, T22, L22, X22, q22, st22⟩ := own_callS X11 hx hZ (y := (⟨"com/example/wombat/wombat/LockModeCoversPinLaw", "expected", "(II)Z"⟩ : MethodName)) (pc := 53) (Ls := #[.val (.int p1), .val (.int p2), .val (.ref b1), .val (.int (0 : Int32)), .val (.int (2 : Int32)), .unset]) (st := [(.int (2 : Int32)), (.int (0 : Int32))]) hown (hw _ (List.mem_of_getElem? (i := 15) rfl)) (hw _ (List.mem_of_getElem? (i := 16) rfl)) (hw _ (List.mem_of_getElem? (i := 17) rfl)) (hw _ (List.mem_of_getElem? (i := 18) rfl)) (by decide) (rm_expected l Z a0 hw (0 : Int32) (2 : Int32) h11 n0 Z11 ) e11 pd_0 (hb hby at_53) (by rw [hml]; rfl) (argsL := [(.int (0 : Int32)), (.int (2 : Int32))]) (rest := []) rfl rfl rfl (W := 0) (Nat.le_of_eq rfl) (by decide) (by decide) (by decide) (by decide)
      obtain ⟨rfl, M22, e22⟩ := q22
      have N22 := Fr.app N11 M22
      have r22 : (f_expected (0 : Int32) (2 : Int32)) = (0 : Int32) := by rw [f_expected, if_neg ((by decide) : ¬ ((0 : Int32) = (2 : Int32))), if_neg ((by decide) : ¬ ((0 : Int32) = (4 : Int32))), if_neg ((by decide) : ¬ ((2 : Int32) = (0 : Int32))), if_neg ((by decide) : ¬ ((0 : Int32) = (3 : Int32)))]
      rw [r22] at st22
      refine Go.mp st22 ?_
      show Go p e below (T22.setTop (mkF m 56 #[.val (.int p1), .val (.int p2), .val (.ref b1), .val (.int (0 : Int32)), .val (.int (2 : Int32)), .unset] [(.int (0 : Int32))])) _
      refine g_istore X22 hx #[.val (.int p1), .val (.int p2), .val (.ref b1), .val (.int (0 : Int32)), .val (.int (2 : Int32)), .val (.int (0 : Int32))] (hb hby at_56) rfl ?_
      refine g_aloadN X22 hx (hb hby at_58) rfl rfl ?_
      refine g_iloadN X22 hx (hb hby at_59) rfl ?_
      obtain ⟨cl23, Ar23, -, sz23, -, Ha23, -⟩ := id V_b1_11
      have hin23 : ¬ ((0 : Int32) < 0 ∨ cl23.slots.size ≤ (0 : Int32).toNatClampNeg) := by rw [sz23]; decide
      have hat23 : cl23.slots[(0 : Int32).toNatClampNeg]? = some (.ref w_IS) := Ha23 0 (by rw [sz23]; decide)
      refine Go.mp (fun _ k => X22.aaload hx (j := 0) (v := (.ref w_IS)) (by rw [e22]; exact Ar23.1) (State.isArrayOf_alike hZ.alike Ar23.2.1) rfl Ar23.2.2 hin23 hat23 (g := (mkF m 60 #[.val (.int p1), .val (.int p2), .val (.ref b1), .val (.int (0 : Int32)), .val (.int (2 : Int32)), .val (.int (0 : Int32))] [(.int (0 : Int32)), (.ref b1)])) rfl rfl (hb hby at_60) _ k) ?_
      show Go p e below (T22.setTop (mkF m 61 #[.val (.int p1), .val (.int p2), .val (.ref b1), .val (.int (0 : Int32)), .val (.int (2 : Int32)), .val (.int (0 : Int32))] [(.ref w_IS)])) _
      refine g_aloadN X22 hx (hb hby at_61) rfl rfl ?_
      refine g_iload X22 hx (hb hby at_62) rfl ?_
      obtain ⟨cl24, Ar24, -, sz24, -, Ha24, -⟩ := id V_b1_11
      have hin24 : ¬ ((2 : Int32) < 0 ∨ cl24.slots.size ≤ (2 : Int32).toNatClampNeg) := by rw [sz24]; decide
      have hat24 : cl24.slots[(2 : Int32).toNatClampNeg]? = some (.ref w_S) := Ha24 2 (by rw [sz24]; decide)
      refine Go.mp (fun _ k => X22.aaload hx (j := 2) (v := (.ref w_S)) (by rw [e22]; exact Ar24.1) (State.isArrayOf_alike hZ.alike Ar24.2.1) rfl Ar24.2.2 hin24 hat24 (g := (mkF m 64 #[.val (.int p1), .val (.int p2), .val (.ref b1), .val (.int (0 : Int32)), .val (.int (2 : Int32)), .val (.int (0 : Int32))] [(.int (2 : Int32)), (.ref b1), (.ref w_IS)])) rfl rfl (hb hby at_64) _ k) ?_
      show Go p e below (T22.setTop (mkF m 65 #[.val (.int p1), .val (.int p2), .val (.ref b1), .val (.int (0 : Int32)), .val (.int (2 : Int32)), .val (.int (0 : Int32))] [(.ref w_S), (.ref w_IS)])) _
      obtain ⟨v25, T25, L25, X25, q25, st25⟩ := own_callV X22 hx hZ (y := (⟨"com/example/wombat/wombat/LockMode", "covers", "(Lcom/example/wombat/wombat/LockMode;)Z"⟩ : MethodName)) (pc := 65) (Ls := #[.val (.int p1), .val (.int p2), .val (.ref b1), .val (.int (0 : Int32)), .val (.int (2 : Int32)), .val (.int (0 : Int32))]) (st := [(.ref w_S), (.ref w_IS)]) hown (hw _ (List.mem_of_getElem? (i := 19) rfl)) (hw _ (List.mem_of_getElem? (i := 20) rfl)) (hw _ (List.mem_of_getElem? (i := 22) rfl)) (hw _ (List.mem_of_getElem? (i := 21) rfl)) (hw _ (List.mem_of_getElem? (i := 23) rfl)) (hw _ (List.mem_of_getElem? (i := 3) rfl)) (by decide) (rm_covers l Z a0 hw w_IS w_S (15 : Int32) (5 : Int32) h11 n0 Z11 F_w_IS_compatible_11 F_w_S_compatible_11) e22 E_w_IS_11 pd_1 (hb hby at_65) (by rw [hml]; rfl) (argsL := [(.ref w_S)]) (rest := []) rfl rfl rfl (W := 0) (Nat.le_of_eq rfl) (by decide) (by decide) (by decide) (by decide)
      obtain ⟨rfl, M25, e25⟩ := q25
      have N25 := Fr.app N22 M25
      have r25 : (f_covers w_IS w_S (15 : Int32) (5 : Int32)) = (0 : Int32) := by rw [f_covers, if_neg ((by decide) : ¬ (((15 : Int32) &&& ((5 : Int32) ^^^ (-1 : Int32))) = (0 : Int32)))]
      rw [r25] at st25
      refine Go.mp st25 ?_
      show Go p e below (T25.setTop (mkF m 68 #[.val (.int p1), .val (.int p2), .val (.ref b1), .val (.int (0 : Int32)), .val (.int (2 : Int32)), .val (.int (0 : Int32))] [(.int (0 : Int32))])) _
      refine g_iload X25 hx (hb hby at_68) rfl ?_
      refine g_icmpNo X25 hx (hb hby at_70) (teq ((by decide) : (0 : Int32) = (0 : Int32))).2 ?_
      refine g_iconst X25 hx (1 : Int32) (hb hby at_73) (by decide) ?_
      refine g_goto X25 hx 78 (hb hby at_74) (by decide) (by decide) ?_
      exact own_retZ X25 hx hret hlk (hb hby at_78) (by decide) (by decide) (by decide) ⟨rfl, N25⟩
    · rw [q13]
      refine g_istore X11 hx #[.val (.int p1), .val (.int p2), .val (.ref b1), .val (.int (0 : Int32)), .val (.int (3 : Int32)), .unset] (hb hby at_48) rfl ?_
      refine g_iloadN X11 hx (hb hby at_50) rfl ?_
      refine g_iload X11 hx (hb hby at_51) rfl ?_
      obtain ⟨v26, T26, L26, X26, q26, st26⟩ := own_callS X11 hx hZ (y := (⟨"com/example/wombat/wombat/LockModeCoversPinLaw", "expected", "(II)Z"⟩ : MethodName)) (pc := 53) (Ls := #[.val (.int p1), .val (.int p2), .val (.ref b1), .val (.int (0 : Int32)), .val (.int (3 : Int32)), .unset]) (st := [(.int (3 : Int32)), (.int (0 : Int32))]) hown (hw _ (List.mem_of_getElem? (i := 15) rfl)) (hw _ (List.mem_of_getElem? (i := 16) rfl)) (hw _ (List.mem_of_getElem? (i := 17) rfl)) (hw _ (List.mem_of_getElem? (i := 18) rfl)) (by decide) (rm_expected l Z a0 hw (0 : Int32) (3 : Int32) h11 n0 Z11 ) e11 pd_0 (hb hby at_53) (by rw [hml]; rfl) (argsL := [(.int (0 : Int32)), (.int (3 : Int32))]) (rest := []) rfl rfl rfl (W := 0) (Nat.le_of_eq rfl) (by decide) (by decide) (by decide) (by decide)
      obtain ⟨rfl, M26, e26⟩ := q26
      have N26 := Fr.app N11 M26
      have r26 : (f_expected (0 : Int32) (3 : Int32)) = (0 : Int32) := by rw [f_expected, if_neg ((by decide) : ¬ ((0 : Int32) = (3 : Int32))), if_neg ((by decide) : ¬ ((0 : Int32) = (4 : Int32))), if_neg ((by decide) : ¬ ((3 : Int32) = (0 : Int32))), if_neg ((by decide) : ¬ ((0 : Int32) = (3 : Int32)))]
      rw [r26] at st26
      refine Go.mp st26 ?_
      show Go p e below (T26.setTop (mkF m 56 #[.val (.int p1), .val (.int p2), .val (.ref b1), .val (.int (0 : Int32)), .val (.int (3 : Int32)), .unset] [(.int (0 : Int32))])) _
      refine g_istore X26 hx #[.val (.int p1), .val (.int p2), .val (.ref b1), .val (.int (0 : Int32)), .val (.int (3 : Int32)), .val (.int (0 : Int32))] (hb hby at_56) rfl ?_
      refine g_aloadN X26 hx (hb hby at_58) rfl rfl ?_
      refine g_iloadN X26 hx (hb hby at_59) rfl ?_
      obtain ⟨cl27, Ar27, -, sz27, -, Ha27, -⟩ := id V_b1_11
      have hin27 : ¬ ((0 : Int32) < 0 ∨ cl27.slots.size ≤ (0 : Int32).toNatClampNeg) := by rw [sz27]; decide
      have hat27 : cl27.slots[(0 : Int32).toNatClampNeg]? = some (.ref w_IS) := Ha27 0 (by rw [sz27]; decide)
      refine Go.mp (fun _ k => X26.aaload hx (j := 0) (v := (.ref w_IS)) (by rw [e26]; exact Ar27.1) (State.isArrayOf_alike hZ.alike Ar27.2.1) rfl Ar27.2.2 hin27 hat27 (g := (mkF m 60 #[.val (.int p1), .val (.int p2), .val (.ref b1), .val (.int (0 : Int32)), .val (.int (3 : Int32)), .val (.int (0 : Int32))] [(.int (0 : Int32)), (.ref b1)])) rfl rfl (hb hby at_60) _ k) ?_
      show Go p e below (T26.setTop (mkF m 61 #[.val (.int p1), .val (.int p2), .val (.ref b1), .val (.int (0 : Int32)), .val (.int (3 : Int32)), .val (.int (0 : Int32))] [(.ref w_IS)])) _
      refine g_aloadN X26 hx (hb hby at_61) rfl rfl ?_
      refine g_iload X26 hx (hb hby at_62) rfl ?_
      obtain ⟨cl28, Ar28, -, sz28, -, Ha28, -⟩ := id V_b1_11
      have hin28 : ¬ ((3 : Int32) < 0 ∨ cl28.slots.size ≤ (3 : Int32).toNatClampNeg) := by rw [sz28]; decide
      have hat28 : cl28.slots[(3 : Int32).toNatClampNeg]? = some (.ref w_SIX) := Ha28 3 (by rw [sz28]; decide)
      refine Go.mp (fun _ k => X26.aaload hx (j := 3) (v := (.ref w_SIX)) (by rw [e26]; exact Ar28.1) (State.isArrayOf_alike hZ.alike Ar28.2.1) rfl Ar28.2.2 hin28 hat28 (g := (mkF m 64 #[.val (.int p1), .val (.int p2), .val (.ref b1), .val (.int (0 : Int32)), .val (.int (3 : Int32)), .val (.int (0 : Int32))] [(.int (3 : Int32)), (.ref b1), (.ref w_IS)])) rfl rfl (hb hby at_64) _ k) ?_
      show Go p e below (T26.setTop (mkF m 65 #[.val (.int p1), .val (.int p2), .val (.ref b1), .val (.int (0 : Int32)), .val (.int (3 : Int32)), .val (.int (0 : Int32))] [(.ref w_SIX), (.ref w_IS)])) _
      obtain ⟨v29, T29, L29, X29, q29, st29⟩ := own_callV X26 hx hZ (y := (⟨"com/example/wombat/wombat/LockMode", "covers", "(Lcom/example/wombat/wombat/LockMode;)Z"⟩ : MethodName)) (pc := 65) (Ls := #[.val (.int p1), .val (.int p2), .val (.ref b1), .val (.int (0 : Int32)), .val (.int (3 : Int32)), .val (.int (0 : Int32))]) (st := [(.ref w_SIX), (.ref w_IS)]) hown (hw _ (List.mem_of_getElem? (i := 19) rfl)) (hw _ (List.mem_of_getElem? (i := 20) rfl)) (hw _ (List.mem_of_getElem? (i := 22) rfl)) (hw _ (List.mem_of_getElem? (i := 21) rfl)) (hw _ (List.mem_of_getElem? (i := 23) rfl)) (hw _ (List.mem_of_getElem? (i := 3) rfl)) (by decide) (rm_covers l Z a0 hw w_IS w_SIX (15 : Int32) (1 : Int32) h11 n0 Z11 F_w_IS_compatible_11 F_w_SIX_compatible_11) e26 E_w_IS_11 pd_1 (hb hby at_65) (by rw [hml]; rfl) (argsL := [(.ref w_SIX)]) (rest := []) rfl rfl rfl (W := 0) (Nat.le_of_eq rfl) (by decide) (by decide) (by decide) (by decide)
      obtain ⟨rfl, M29, e29⟩ := q29
      have N29 := Fr.app N26 M29
      have r29 : (f_covers w_IS w_SIX (15 : Int32) (1 : Int32)) = (0 : Int32) := by rw [f_covers, if_neg ((by decide) : ¬ (((15 : Int32) &&& ((1 : Int32) ^^^ (-1 : Int32))) = (0 : Int32)))]
      rw [r29] at st29
      refine Go.mp st29 ?_
      show Go p e below (T29.setTop (mkF m 68 #[.val (.int p1), .val (.int p2), .val (.ref b1), .val (.int (0 : Int32)), .val (.int (3 : Int32)), .val (.int (0 : Int32))] [(.int (0 : Int32))])) _
      refine g_iload X29 hx (hb hby at_68) rfl ?_
      refine g_icmpNo X29 hx (hb hby at_70) (teq ((by decide) : (0 : Int32) = (0 : Int32))).2 ?_
      refine g_iconst X29 hx (1 : Int32) (hb hby at_73) (by decide) ?_
      refine g_goto X29 hx 78 (hb hby at_74) (by decide) (by decide) ?_
      exact own_retZ X29 hx hret hlk (hb hby at_78) (by decide) (by decide) (by decide) ⟨rfl, N29⟩
    · rw [q13]
      refine g_istore X11 hx #[.val (.int p1), .val (.int p2), .val (.ref b1), .val (.int (0 : Int32)), .val (.int (4 : Int32)), .unset] (hb hby at_48) rfl ?_
      refine g_iloadN X11 hx (hb hby at_50) rfl ?_
      refine g_iload X11 hx (hb hby at_51) rfl ?_
      obtain ⟨v30, T30, L30, X30, q30, st30⟩ := own_callS X11 hx hZ (y := (⟨"com/example/wombat/wombat/LockModeCoversPinLaw", "expected", "(II)Z"⟩ : MethodName)) (pc := 53) (Ls := #[.val (.int p1), .val (.int p2), .val (.ref b1), .val (.int (0 : Int32)), .val (.int (4 : Int32)), .unset]) (st := [(.int (4 : Int32)), (.int (0 : Int32))]) hown (hw _ (List.mem_of_getElem? (i := 15) rfl)) (hw _ (List.mem_of_getElem? (i := 16) rfl)) (hw _ (List.mem_of_getElem? (i := 17) rfl)) (hw _ (List.mem_of_getElem? (i := 18) rfl)) (by decide) (rm_expected l Z a0 hw (0 : Int32) (4 : Int32) h11 n0 Z11 ) e11 pd_0 (hb hby at_53) (by rw [hml]; rfl) (argsL := [(.int (0 : Int32)), (.int (4 : Int32))]) (rest := []) rfl rfl rfl (W := 0) (Nat.le_of_eq rfl) (by decide) (by decide) (by decide) (by decide)
      obtain ⟨rfl, M30, e30⟩ := q30
      have N30 := Fr.app N11 M30
      have r30 : (f_expected (0 : Int32) (4 : Int32)) = (0 : Int32) := by rw [f_expected, if_neg ((by decide) : ¬ ((0 : Int32) = (4 : Int32))), if_neg ((by decide) : ¬ ((0 : Int32) = (4 : Int32))), if_neg ((by decide) : ¬ ((4 : Int32) = (0 : Int32))), if_neg ((by decide) : ¬ ((0 : Int32) = (3 : Int32)))]
      rw [r30] at st30
      refine Go.mp st30 ?_
      show Go p e below (T30.setTop (mkF m 56 #[.val (.int p1), .val (.int p2), .val (.ref b1), .val (.int (0 : Int32)), .val (.int (4 : Int32)), .unset] [(.int (0 : Int32))])) _
      refine g_istore X30 hx #[.val (.int p1), .val (.int p2), .val (.ref b1), .val (.int (0 : Int32)), .val (.int (4 : Int32)), .val (.int (0 : Int32))] (hb hby at_56) rfl ?_
      refine g_aloadN X30 hx (hb hby at_58) rfl rfl ?_
      refine g_iloadN X30 hx (hb hby at_59) rfl ?_
      obtain ⟨cl31, Ar31, -, sz31, -, Ha31, -⟩ := id V_b1_11
      have hin31 : ¬ ((0 : Int32) < 0 ∨ cl31.slots.size ≤ (0 : Int32).toNatClampNeg) := by rw [sz31]; decide
      have hat31 : cl31.slots[(0 : Int32).toNatClampNeg]? = some (.ref w_IS) := Ha31 0 (by rw [sz31]; decide)
      refine Go.mp (fun _ k => X30.aaload hx (j := 0) (v := (.ref w_IS)) (by rw [e30]; exact Ar31.1) (State.isArrayOf_alike hZ.alike Ar31.2.1) rfl Ar31.2.2 hin31 hat31 (g := (mkF m 60 #[.val (.int p1), .val (.int p2), .val (.ref b1), .val (.int (0 : Int32)), .val (.int (4 : Int32)), .val (.int (0 : Int32))] [(.int (0 : Int32)), (.ref b1)])) rfl rfl (hb hby at_60) _ k) ?_
      show Go p e below (T30.setTop (mkF m 61 #[.val (.int p1), .val (.int p2), .val (.ref b1), .val (.int (0 : Int32)), .val (.int (4 : Int32)), .val (.int (0 : Int32))] [(.ref w_IS)])) _
      refine g_aloadN X30 hx (hb hby at_61) rfl rfl ?_
      refine g_iload X30 hx (hb hby at_62) rfl ?_
      obtain ⟨cl32, Ar32, -, sz32, -, Ha32, -⟩ := id V_b1_11
      have hin32 : ¬ ((4 : Int32) < 0 ∨ cl32.slots.size ≤ (4 : Int32).toNatClampNeg) := by rw [sz32]; decide
      have hat32 : cl32.slots[(4 : Int32).toNatClampNeg]? = some (.ref w_X) := Ha32 4 (by rw [sz32]; decide)
      refine Go.mp (fun _ k => X30.aaload hx (j := 4) (v := (.ref w_X)) (by rw [e30]; exact Ar32.1) (State.isArrayOf_alike hZ.alike Ar32.2.1) rfl Ar32.2.2 hin32 hat32 (g := (mkF m 64 #[.val (.int p1), .val (.int p2), .val (.ref b1), .val (.int (0 : Int32)), .val (.int (4 : Int32)), .val (.int (0 : Int32))] [(.int (4 : Int32)), (.ref b1), (.ref w_IS)])) rfl rfl (hb hby at_64) _ k) ?_
      show Go p e below (T30.setTop (mkF m 65 #[.val (.int p1), .val (.int p2), .val (.ref b1), .val (.int (0 : Int32)), .val (.int (4 : Int32)), .val (.int (0 : Int32))] [(.ref w_X), (.ref w_IS)])) _
      obtain ⟨v33, T33, L33, X33, q33, st33⟩ := own_callV X30 hx hZ (y := (⟨"com/example/wombat/wombat/LockMode", "covers", "(Lcom/example/wombat/wombat/LockMode;)Z"⟩ : MethodName)) (pc := 65) (Ls := #[.val (.int p1), .val (.int p2), .val (.ref b1), .val (.int (0 : Int32)), .val (.int (4 : Int32)), .val (.int (0 : Int32))]) (st := [(.ref w_X), (.ref w_IS)]) hown (hw _ (List.mem_of_getElem? (i := 19) rfl)) (hw _ (List.mem_of_getElem? (i := 20) rfl)) (hw _ (List.mem_of_getElem? (i := 22) rfl)) (hw _ (List.mem_of_getElem? (i := 21) rfl)) (hw _ (List.mem_of_getElem? (i := 23) rfl)) (hw _ (List.mem_of_getElem? (i := 3) rfl)) (by decide) (rm_covers l Z a0 hw w_IS w_X (15 : Int32) (0 : Int32) h11 n0 Z11 F_w_IS_compatible_11 F_w_X_compatible_11) e30 E_w_IS_11 pd_1 (hb hby at_65) (by rw [hml]; rfl) (argsL := [(.ref w_X)]) (rest := []) rfl rfl rfl (W := 0) (Nat.le_of_eq rfl) (by decide) (by decide) (by decide) (by decide)
      obtain ⟨rfl, M33, e33⟩ := q33
      have N33 := Fr.app N30 M33
      have r33 : (f_covers w_IS w_X (15 : Int32) (0 : Int32)) = (0 : Int32) := by rw [f_covers, if_neg ((by decide) : ¬ (((15 : Int32) &&& ((0 : Int32) ^^^ (-1 : Int32))) = (0 : Int32)))]
      rw [r33] at st33
      refine Go.mp st33 ?_
      show Go p e below (T33.setTop (mkF m 68 #[.val (.int p1), .val (.int p2), .val (.ref b1), .val (.int (0 : Int32)), .val (.int (4 : Int32)), .val (.int (0 : Int32))] [(.int (0 : Int32))])) _
      refine g_iload X33 hx (hb hby at_68) rfl ?_
      refine g_icmpNo X33 hx (hb hby at_70) (teq ((by decide) : (0 : Int32) = (0 : Int32))).2 ?_
      refine g_iconst X33 hx (1 : Int32) (hb hby at_73) (by decide) ?_
      refine g_goto X33 hx 78 (hb hby at_74) (by decide) (by decide) ?_
      exact own_retZ X33 hx hret hlk (hb hby at_78) (by decide) (by decide) (by decide) ⟨rfl, N33⟩
  · rw [q12]
    refine g_istoreN X11 hx #[.val (.int p1), .val (.int p2), .val (.ref b1), .val (.int (1 : Int32)), .unset, .unset] (hb hby at_41) rfl ?_
    refine g_iloadN X11 hx (hb hby at_42) rfl ?_
    refine Go.mp (fun _ k => X11.ldcInt hx hown (mvT hZ (hw _ (List.mem_of_getElem? (i := 14) rfl))) (g := (mkF m 43 #[.val (.int p1), .val (.int p2), .val (.ref b1), .val (.int (1 : Int32)), .unset, .unset] [(.int p2)])) rfl (hb hby at_43) _ k) ?_
    show Go p e below (T11.setTop (mkF m 45 #[.val (.int p1), .val (.int p2), .val (.ref b1), .val (.int (1 : Int32)), .unset, .unset] [(.int (2147483647 : Int32)), (.int p2)])) _
    refine g_iand X11 hx (hb hby at_45) ?_
    refine g_iconst X11 hx (5 : Int32) (hb hby at_46) (by decide) ?_
    refine g_irem X11 hx (hb hby at_47) (by decide) ?_
    show Go p e below (T11.setTop (mkF m 48 #[.val (.int p1), .val (.int p2), .val (.ref b1), .val (.int (1 : Int32)), .unset, .unset] [(.int ((p2 &&& (2147483647 : Int32)) % (5 : Int32)))])) _
    rcases own_mod5 p2 with q34 | q34 | q34 | q34 | q34
    · rw [q34]
      refine g_istore X11 hx #[.val (.int p1), .val (.int p2), .val (.ref b1), .val (.int (1 : Int32)), .val (.int (0 : Int32)), .unset] (hb hby at_48) rfl ?_
      refine g_iloadN X11 hx (hb hby at_50) rfl ?_
      refine g_iload X11 hx (hb hby at_51) rfl ?_
      obtain ⟨v35, T35, L35, X35, q35, st35⟩ := own_callS X11 hx hZ (y := (⟨"com/example/wombat/wombat/LockModeCoversPinLaw", "expected", "(II)Z"⟩ : MethodName)) (pc := 53) (Ls := #[.val (.int p1), .val (.int p2), .val (.ref b1), .val (.int (1 : Int32)), .val (.int (0 : Int32)), .unset]) (st := [(.int (0 : Int32)), (.int (1 : Int32))]) hown (hw _ (List.mem_of_getElem? (i := 15) rfl)) (hw _ (List.mem_of_getElem? (i := 16) rfl)) (hw _ (List.mem_of_getElem? (i := 17) rfl)) (hw _ (List.mem_of_getElem? (i := 18) rfl)) (by decide) (rm_expected l Z a0 hw (1 : Int32) (0 : Int32) h11 n0 Z11 ) e11 pd_0 (hb hby at_53) (by rw [hml]; rfl) (argsL := [(.int (1 : Int32)), (.int (0 : Int32))]) (rest := []) rfl rfl rfl (W := 0) (Nat.le_of_eq rfl) (by decide) (by decide) (by decide) (by decide)
      obtain ⟨rfl, M35, e35⟩ := q35
      have N35 := Fr.app N11 M35
      have r35 : (f_expected (1 : Int32) (0 : Int32)) = (1 : Int32) := by rw [f_expected, if_neg ((by decide) : ¬ ((1 : Int32) = (0 : Int32))), if_neg ((by decide) : ¬ ((1 : Int32) = (4 : Int32))), if_pos ((by decide) : (0 : Int32) = (0 : Int32))]
      rw [r35] at st35
      refine Go.mp st35 ?_
      show Go p e below (T35.setTop (mkF m 56 #[.val (.int p1), .val (.int p2), .val (.ref b1), .val (.int (1 : Int32)), .val (.int (0 : Int32)), .unset] [(.int (1 : Int32))])) _
      refine g_istore X35 hx #[.val (.int p1), .val (.int p2), .val (.ref b1), .val (.int (1 : Int32)), .val (.int (0 : Int32)), .val (.int (1 : Int32))] (hb hby at_56) rfl ?_
      refine g_aloadN X35 hx (hb hby at_58) rfl rfl ?_
      refine g_iloadN X35 hx (hb hby at_59) rfl ?_
      obtain ⟨cl36, Ar36, -, sz36, -, Ha36, -⟩ := id V_b1_11
      have hin36 : ¬ ((1 : Int32) < 0 ∨ cl36.slots.size ≤ (1 : Int32).toNatClampNeg) := by rw [sz36]; decide
      have hat36 : cl36.slots[(1 : Int32).toNatClampNeg]? = some (.ref w_IX) := Ha36 1 (by rw [sz36]; decide)
      refine Go.mp (fun _ k => X35.aaload hx (j := 1) (v := (.ref w_IX)) (by rw [e35]; exact Ar36.1) (State.isArrayOf_alike hZ.alike Ar36.2.1) rfl Ar36.2.2 hin36 hat36 (g := (mkF m 60 #[.val (.int p1), .val (.int p2), .val (.ref b1), .val (.int (1 : Int32)), .val (.int (0 : Int32)), .val (.int (1 : Int32))] [(.int (1 : Int32)), (.ref b1)])) rfl rfl (hb hby at_60) _ k) ?_
      show Go p e below (T35.setTop (mkF m 61 #[.val (.int p1), .val (.int p2), .val (.ref b1), .val (.int (1 : Int32)), .val (.int (0 : Int32)), .val (.int (1 : Int32))] [(.ref w_IX)])) _
      refine g_aloadN X35 hx (hb hby at_61) rfl rfl ?_
      refine g_iload X35 hx (hb hby at_62) rfl ?_
      obtain ⟨cl37, Ar37, -, sz37, -, Ha37, -⟩ := id V_b1_11
      have hin37 : ¬ ((0 : Int32) < 0 ∨ cl37.slots.size ≤ (0 : Int32).toNatClampNeg) := by rw [sz37]; decide
      have hat37 : cl37.slots[(0 : Int32).toNatClampNeg]? = some (.ref w_IS) := Ha37 0 (by rw [sz37]; decide)
      refine Go.mp (fun _ k => X35.aaload hx (j := 0) (v := (.ref w_IS)) (by rw [e35]; exact Ar37.1) (State.isArrayOf_alike hZ.alike Ar37.2.1) rfl Ar37.2.2 hin37 hat37 (g := (mkF m 64 #[.val (.int p1), .val (.int p2), .val (.ref b1), .val (.int (1 : Int32)), .val (.int (0 : Int32)), .val (.int (1 : Int32))] [(.int (0 : Int32)), (.ref b1), (.ref w_IX)])) rfl rfl (hb hby at_64) _ k) ?_
      show Go p e below (T35.setTop (mkF m 65 #[.val (.int p1), .val (.int p2), .val (.ref b1), .val (.int (1 : Int32)), .val (.int (0 : Int32)), .val (.int (1 : Int32))] [(.ref w_IS), (.ref w_IX)])) _
      obtain ⟨v38, T38, L38, X38, q38, st38⟩ := own_callV X35 hx hZ (y := (⟨"com/example/wombat/wombat/LockMode", "covers", "(Lcom/example/wombat/wombat/LockMode;)Z"⟩ : MethodName)) (pc := 65) (Ls := #[.val (.int p1), .val (.int p2), .val (.ref b1), .val (.int (1 : Int32)), .val (.int (0 : Int32)), .val (.int (1 : Int32))]) (st := [(.ref w_IS), (.ref w_IX)]) hown (hw _ (List.mem_of_getElem? (i := 19) rfl)) (hw _ (List.mem_of_getElem? (i := 20) rfl)) (hw _ (List.mem_of_getElem? (i := 22) rfl)) (hw _ (List.mem_of_getElem? (i := 21) rfl)) (hw _ (List.mem_of_getElem? (i := 23) rfl)) (hw _ (List.mem_of_getElem? (i := 3) rfl)) (by decide) (rm_covers l Z a0 hw w_IX w_IS (3 : Int32) (15 : Int32) h11 n0 Z11 F_w_IX_compatible_11 F_w_IS_compatible_11) e35 E_w_IX_11 pd_1 (hb hby at_65) (by rw [hml]; rfl) (argsL := [(.ref w_IS)]) (rest := []) rfl rfl rfl (W := 0) (Nat.le_of_eq rfl) (by decide) (by decide) (by decide) (by decide)
      obtain ⟨rfl, M38, e38⟩ := q38
      have N38 := Fr.app N35 M38
      have r38 : (f_covers w_IX w_IS (3 : Int32) (15 : Int32)) = (1 : Int32) := by rw [f_covers, if_pos ((by decide) : ((3 : Int32) &&& ((15 : Int32) ^^^ (-1 : Int32))) = (0 : Int32))]
      rw [r38] at st38
      refine Go.mp st38 ?_
      show Go p e below (T38.setTop (mkF m 68 #[.val (.int p1), .val (.int p2), .val (.ref b1), .val (.int (1 : Int32)), .val (.int (0 : Int32)), .val (.int (1 : Int32))] [(.int (1 : Int32))])) _
      refine g_iload X38 hx (hb hby at_68) rfl ?_
      refine g_icmpNo X38 hx (hb hby at_70) (teq ((by decide) : (1 : Int32) = (1 : Int32))).2 ?_
      refine g_iconst X38 hx (1 : Int32) (hb hby at_73) (by decide) ?_
      refine g_goto X38 hx 78 (hb hby at_74) (by decide) (by decide) ?_
      exact own_retZ X38 hx hret hlk (hb hby at_78) (by decide) (by decide) (by decide) ⟨rfl, N38⟩
    · rw [q34]
      refine g_istore X11 hx #[.val (.int p1), .val (.int p2), .val (.ref b1), .val (.int (1 : Int32)), .val (.int (1 : Int32)), .unset] (hb hby at_48) rfl ?_
      refine g_iloadN X11 hx (hb hby at_50) rfl ?_
      refine g_iload X11 hx (hb hby at_51) rfl ?_
      obtain ⟨v39, T39, L39, X39, q39, st39⟩ := own_callS X11 hx hZ (y := (⟨"com/example/wombat/wombat/LockModeCoversPinLaw", "expected", "(II)Z"⟩ : MethodName)) (pc := 53) (Ls := #[.val (.int p1), .val (.int p2), .val (.ref b1), .val (.int (1 : Int32)), .val (.int (1 : Int32)), .unset]) (st := [(.int (1 : Int32)), (.int (1 : Int32))]) hown (hw _ (List.mem_of_getElem? (i := 15) rfl)) (hw _ (List.mem_of_getElem? (i := 16) rfl)) (hw _ (List.mem_of_getElem? (i := 17) rfl)) (hw _ (List.mem_of_getElem? (i := 18) rfl)) (by decide) (rm_expected l Z a0 hw (1 : Int32) (1 : Int32) h11 n0 Z11 ) e11 pd_0 (hb hby at_53) (by rw [hml]; rfl) (argsL := [(.int (1 : Int32)), (.int (1 : Int32))]) (rest := []) rfl rfl rfl (W := 0) (Nat.le_of_eq rfl) (by decide) (by decide) (by decide) (by decide)
      obtain ⟨rfl, M39, e39⟩ := q39
      have N39 := Fr.app N11 M39
      have r39 : (f_expected (1 : Int32) (1 : Int32)) = (1 : Int32) := by rw [f_expected, if_pos ((by decide) : (1 : Int32) = (1 : Int32))]
      rw [r39] at st39
      refine Go.mp st39 ?_
      show Go p e below (T39.setTop (mkF m 56 #[.val (.int p1), .val (.int p2), .val (.ref b1), .val (.int (1 : Int32)), .val (.int (1 : Int32)), .unset] [(.int (1 : Int32))])) _
      refine g_istore X39 hx #[.val (.int p1), .val (.int p2), .val (.ref b1), .val (.int (1 : Int32)), .val (.int (1 : Int32)), .val (.int (1 : Int32))] (hb hby at_56) rfl ?_
      refine g_aloadN X39 hx (hb hby at_58) rfl rfl ?_
      refine g_iloadN X39 hx (hb hby at_59) rfl ?_
      obtain ⟨cl40, Ar40, -, sz40, -, Ha40, -⟩ := id V_b1_11
      have hin40 : ¬ ((1 : Int32) < 0 ∨ cl40.slots.size ≤ (1 : Int32).toNatClampNeg) := by rw [sz40]; decide
      have hat40 : cl40.slots[(1 : Int32).toNatClampNeg]? = some (.ref w_IX) := Ha40 1 (by rw [sz40]; decide)
      refine Go.mp (fun _ k => X39.aaload hx (j := 1) (v := (.ref w_IX)) (by rw [e39]; exact Ar40.1) (State.isArrayOf_alike hZ.alike Ar40.2.1) rfl Ar40.2.2 hin40 hat40 (g := (mkF m 60 #[.val (.int p1), .val (.int p2), .val (.ref b1), .val (.int (1 : Int32)), .val (.int (1 : Int32)), .val (.int (1 : Int32))] [(.int (1 : Int32)), (.ref b1)])) rfl rfl (hb hby at_60) _ k) ?_
      show Go p e below (T39.setTop (mkF m 61 #[.val (.int p1), .val (.int p2), .val (.ref b1), .val (.int (1 : Int32)), .val (.int (1 : Int32)), .val (.int (1 : Int32))] [(.ref w_IX)])) _
      refine g_aloadN X39 hx (hb hby at_61) rfl rfl ?_
      refine g_iload X39 hx (hb hby at_62) rfl ?_
      obtain ⟨cl41, Ar41, -, sz41, -, Ha41, -⟩ := id V_b1_11
      have hin41 : ¬ ((1 : Int32) < 0 ∨ cl41.slots.size ≤ (1 : Int32).toNatClampNeg) := by rw [sz41]; decide
      have hat41 : cl41.slots[(1 : Int32).toNatClampNeg]? = some (.ref w_IX) := Ha41 1 (by rw [sz41]; decide)
      refine Go.mp (fun _ k => X39.aaload hx (j := 1) (v := (.ref w_IX)) (by rw [e39]; exact Ar41.1) (State.isArrayOf_alike hZ.alike Ar41.2.1) rfl Ar41.2.2 hin41 hat41 (g := (mkF m 64 #[.val (.int p1), .val (.int p2), .val (.ref b1), .val (.int (1 : Int32)), .val (.int (1 : Int32)), .val (.int (1 : Int32))] [(.int (1 : Int32)), (.ref b1), (.ref w_IX)])) rfl rfl (hb hby at_64) _ k) ?_
      show Go p e below (T39.setTop (mkF m 65 #[.val (.int p1), .val (.int p2), .val (.ref b1), .val (.int (1 : Int32)), .val (.int (1 : Int32)), .val (.int (1 : Int32))] [(.ref w_IX), (.ref w_IX)])) _
      obtain ⟨v42, T42, L42, X42, q42, st42⟩ := own_callV X39 hx hZ (y := (⟨"com/example/wombat/wombat/LockMode", "covers", "(Lcom/example/wombat/wombat/LockMode;)Z"⟩ : MethodName)) (pc := 65) (Ls := #[.val (.int p1), .val (.int p2), .val (.ref b1), .val (.int (1 : Int32)), .val (.int (1 : Int32)), .val (.int (1 : Int32))]) (st := [(.ref w_IX), (.ref w_IX)]) hown (hw _ (List.mem_of_getElem? (i := 19) rfl)) (hw _ (List.mem_of_getElem? (i := 20) rfl)) (hw _ (List.mem_of_getElem? (i := 22) rfl)) (hw _ (List.mem_of_getElem? (i := 21) rfl)) (hw _ (List.mem_of_getElem? (i := 23) rfl)) (hw _ (List.mem_of_getElem? (i := 3) rfl)) (by decide) (rm_covers l Z a0 hw w_IX w_IX (3 : Int32) (3 : Int32) h11 n0 Z11 F_w_IX_compatible_11 F_w_IX_compatible_11) e39 E_w_IX_11 pd_1 (hb hby at_65) (by rw [hml]; rfl) (argsL := [(.ref w_IX)]) (rest := []) rfl rfl rfl (W := 0) (Nat.le_of_eq rfl) (by decide) (by decide) (by decide) (by decide)
      obtain ⟨rfl, M42, e42⟩ := q42
      have N42 := Fr.app N39 M42
      have r42 : (f_covers w_IX w_IX (3 : Int32) (3 : Int32)) = (1 : Int32) := by rw [f_covers, if_pos ((by decide) : ((3 : Int32) &&& ((3 : Int32) ^^^ (-1 : Int32))) = (0 : Int32))]
      rw [r42] at st42
      refine Go.mp st42 ?_
      show Go p e below (T42.setTop (mkF m 68 #[.val (.int p1), .val (.int p2), .val (.ref b1), .val (.int (1 : Int32)), .val (.int (1 : Int32)), .val (.int (1 : Int32))] [(.int (1 : Int32))])) _
      refine g_iload X42 hx (hb hby at_68) rfl ?_
      refine g_icmpNo X42 hx (hb hby at_70) (teq ((by decide) : (1 : Int32) = (1 : Int32))).2 ?_
      refine g_iconst X42 hx (1 : Int32) (hb hby at_73) (by decide) ?_
      refine g_goto X42 hx 78 (hb hby at_74) (by decide) (by decide) ?_
      exact own_retZ X42 hx hret hlk (hb hby at_78) (by decide) (by decide) (by decide) ⟨rfl, N42⟩
    · rw [q34]
      refine g_istore X11 hx #[.val (.int p1), .val (.int p2), .val (.ref b1), .val (.int (1 : Int32)), .val (.int (2 : Int32)), .unset] (hb hby at_48) rfl ?_
      refine g_iloadN X11 hx (hb hby at_50) rfl ?_
      refine g_iload X11 hx (hb hby at_51) rfl ?_
      obtain ⟨v43, T43, L43, X43, q43, st43⟩ := own_callS X11 hx hZ (y := (⟨"com/example/wombat/wombat/LockModeCoversPinLaw", "expected", "(II)Z"⟩ : MethodName)) (pc := 53) (Ls := #[.val (.int p1), .val (.int p2), .val (.ref b1), .val (.int (1 : Int32)), .val (.int (2 : Int32)), .unset]) (st := [(.int (2 : Int32)), (.int (1 : Int32))]) hown (hw _ (List.mem_of_getElem? (i := 15) rfl)) (hw _ (List.mem_of_getElem? (i := 16) rfl)) (hw _ (List.mem_of_getElem? (i := 17) rfl)) (hw _ (List.mem_of_getElem? (i := 18) rfl)) (by decide) (rm_expected l Z a0 hw (1 : Int32) (2 : Int32) h11 n0 Z11 ) e11 pd_0 (hb hby at_53) (by rw [hml]; rfl) (argsL := [(.int (1 : Int32)), (.int (2 : Int32))]) (rest := []) rfl rfl rfl (W := 0) (Nat.le_of_eq rfl) (by decide) (by decide) (by decide) (by decide)
      obtain ⟨rfl, M43, e43⟩ := q43
      have N43 := Fr.app N11 M43
      have r43 : (f_expected (1 : Int32) (2 : Int32)) = (0 : Int32) := by rw [f_expected, if_neg ((by decide) : ¬ ((1 : Int32) = (2 : Int32))), if_neg ((by decide) : ¬ ((1 : Int32) = (4 : Int32))), if_neg ((by decide) : ¬ ((2 : Int32) = (0 : Int32))), if_neg ((by decide) : ¬ ((1 : Int32) = (3 : Int32)))]
      rw [r43] at st43
      refine Go.mp st43 ?_
      show Go p e below (T43.setTop (mkF m 56 #[.val (.int p1), .val (.int p2), .val (.ref b1), .val (.int (1 : Int32)), .val (.int (2 : Int32)), .unset] [(.int (0 : Int32))])) _
      refine g_istore X43 hx #[.val (.int p1), .val (.int p2), .val (.ref b1), .val (.int (1 : Int32)), .val (.int (2 : Int32)), .val (.int (0 : Int32))] (hb hby at_56) rfl ?_
      refine g_aloadN X43 hx (hb hby at_58) rfl rfl ?_
      refine g_iloadN X43 hx (hb hby at_59) rfl ?_
      obtain ⟨cl44, Ar44, -, sz44, -, Ha44, -⟩ := id V_b1_11
      have hin44 : ¬ ((1 : Int32) < 0 ∨ cl44.slots.size ≤ (1 : Int32).toNatClampNeg) := by rw [sz44]; decide
      have hat44 : cl44.slots[(1 : Int32).toNatClampNeg]? = some (.ref w_IX) := Ha44 1 (by rw [sz44]; decide)
      refine Go.mp (fun _ k => X43.aaload hx (j := 1) (v := (.ref w_IX)) (by rw [e43]; exact Ar44.1) (State.isArrayOf_alike hZ.alike Ar44.2.1) rfl Ar44.2.2 hin44 hat44 (g := (mkF m 60 #[.val (.int p1), .val (.int p2), .val (.ref b1), .val (.int (1 : Int32)), .val (.int (2 : Int32)), .val (.int (0 : Int32))] [(.int (1 : Int32)), (.ref b1)])) rfl rfl (hb hby at_60) _ k) ?_
      show Go p e below (T43.setTop (mkF m 61 #[.val (.int p1), .val (.int p2), .val (.ref b1), .val (.int (1 : Int32)), .val (.int (2 : Int32)), .val (.int (0 : Int32))] [(.ref w_IX)])) _
      refine g_aloadN X43 hx (hb hby at_61) rfl rfl ?_
      refine g_iload X43 hx (hb hby at_62) rfl ?_
      obtain ⟨cl45, Ar45, -, sz45, -, Ha45, -⟩ := id V_b1_11
      have hin45 : ¬ ((2 : Int32) < 0 ∨ cl45.slots.size ≤ (2 : Int32).toNatClampNeg) := by rw [sz45]; decide
      have hat45 : cl45.slots[(2 : Int32).toNatClampNeg]? = some (.ref w_S) := Ha45 2 (by rw [sz45]; decide)
      refine Go.mp (fun _ k => X43.aaload hx (j := 2) (v := (.ref w_S)) (by rw [e43]; exact Ar45.1) (State.isArrayOf_alike hZ.alike Ar45.2.1) rfl Ar45.2.2 hin45 hat45 (g := (mkF m 64 #[.val (.int p1), .val (.int p2), .val (.ref b1), .val (.int (1 : Int32)), .val (.int (2 : Int32)), .val (.int (0 : Int32))] [(.int (2 : Int32)), (.ref b1), (.ref w_IX)])) rfl rfl (hb hby at_64) _ k) ?_
      show Go p e below (T43.setTop (mkF m 65 #[.val (.int p1), .val (.int p2), .val (.ref b1), .val (.int (1 : Int32)), .val (.int (2 : Int32)), .val (.int (0 : Int32))] [(.ref w_S), (.ref w_IX)])) _
      obtain ⟨v46, T46, L46, X46, q46, st46⟩ := own_callV X43 hx hZ (y := (⟨"com/example/wombat/wombat/LockMode", "covers", "(Lcom/example/wombat/wombat/LockMode;)Z"⟩ : MethodName)) (pc := 65) (Ls := #[.val (.int p1), .val (.int p2), .val (.ref b1), .val (.int (1 : Int32)), .val (.int (2 : Int32)), .val (.int (0 : Int32))]) (st := [(.ref w_S), (.ref w_IX)]) hown (hw _ (List.mem_of_getElem? (i := 19) rfl)) (hw _ (List.mem_of_getElem? (i := 20) rfl)) (hw _ (List.mem_of_getElem? (i := 22) rfl)) (hw _ (List.mem_of_getElem? (i := 21) rfl)) (hw _ (List.mem_of_getElem? (i := 23) rfl)) (hw _ (List.mem_of_getElem? (i := 3) rfl)) (by decide) (rm_covers l Z a0 hw w_IX w_S (3 : Int32) (5 : Int32) h11 n0 Z11 F_w_IX_compatible_11 F_w_S_compatible_11) e43 E_w_IX_11 pd_1 (hb hby at_65) (by rw [hml]; rfl) (argsL := [(.ref w_S)]) (rest := []) rfl rfl rfl (W := 0) (Nat.le_of_eq rfl) (by decide) (by decide) (by decide) (by decide)
      obtain ⟨rfl, M46, e46⟩ := q46
      have N46 := Fr.app N43 M46
      have r46 : (f_covers w_IX w_S (3 : Int32) (5 : Int32)) = (0 : Int32) := by rw [f_covers, if_neg ((by decide) : ¬ (((3 : Int32) &&& ((5 : Int32) ^^^ (-1 : Int32))) = (0 : Int32)))]
      rw [r46] at st46
      refine Go.mp st46 ?_
      show Go p e below (T46.setTop (mkF m 68 #[.val (.int p1), .val (.int p2), .val (.ref b1), .val (.int (1 : Int32)), .val (.int (2 : Int32)), .val (.int (0 : Int32))] [(.int (0 : Int32))])) _
      refine g_iload X46 hx (hb hby at_68) rfl ?_
      refine g_icmpNo X46 hx (hb hby at_70) (teq ((by decide) : (0 : Int32) = (0 : Int32))).2 ?_
      refine g_iconst X46 hx (1 : Int32) (hb hby at_73) (by decide) ?_
      refine g_goto X46 hx 78 (hb hby at_74) (by decide) (by decide) ?_
      exact own_retZ X46 hx hret hlk (hb hby at_78) (by decide) (by decide) (by decide) ⟨rfl, N46⟩
    · rw [q34]
      refine g_istore X11 hx #[.val (.int p1), .val (.int p2), .val (.ref b1), .val (.int (1 : Int32)), .val (.int (3 : Int32)), .unset] (hb hby at_48) rfl ?_
      refine g_iloadN X11 hx (hb hby at_50) rfl ?_
      refine g_iload X11 hx (hb hby at_51) rfl ?_
      obtain ⟨v47, T47, L47, X47, q47, st47⟩ := own_callS X11 hx hZ (y := (⟨"com/example/wombat/wombat/LockModeCoversPinLaw", "expected", "(II)Z"⟩ : MethodName)) (pc := 53) (Ls := #[.val (.int p1), .val (.int p2), .val (.ref b1), .val (.int (1 : Int32)), .val (.int (3 : Int32)), .unset]) (st := [(.int (3 : Int32)), (.int (1 : Int32))]) hown (hw _ (List.mem_of_getElem? (i := 15) rfl)) (hw _ (List.mem_of_getElem? (i := 16) rfl)) (hw _ (List.mem_of_getElem? (i := 17) rfl)) (hw _ (List.mem_of_getElem? (i := 18) rfl)) (by decide) (rm_expected l Z a0 hw (1 : Int32) (3 : Int32) h11 n0 Z11 ) e11 pd_0 (hb hby at_53) (by rw [hml]; rfl) (argsL := [(.int (1 : Int32)), (.int (3 : Int32))]) (rest := []) rfl rfl rfl (W := 0) (Nat.le_of_eq rfl) (by decide) (by decide) (by decide) (by decide)
      obtain ⟨rfl, M47, e47⟩ := q47
      have N47 := Fr.app N11 M47
      have r47 : (f_expected (1 : Int32) (3 : Int32)) = (0 : Int32) := by rw [f_expected, if_neg ((by decide) : ¬ ((1 : Int32) = (3 : Int32))), if_neg ((by decide) : ¬ ((1 : Int32) = (4 : Int32))), if_neg ((by decide) : ¬ ((3 : Int32) = (0 : Int32))), if_neg ((by decide) : ¬ ((1 : Int32) = (3 : Int32)))]
      rw [r47] at st47
      refine Go.mp st47 ?_
      show Go p e below (T47.setTop (mkF m 56 #[.val (.int p1), .val (.int p2), .val (.ref b1), .val (.int (1 : Int32)), .val (.int (3 : Int32)), .unset] [(.int (0 : Int32))])) _
      refine g_istore X47 hx #[.val (.int p1), .val (.int p2), .val (.ref b1), .val (.int (1 : Int32)), .val (.int (3 : Int32)), .val (.int (0 : Int32))] (hb hby at_56) rfl ?_
      refine g_aloadN X47 hx (hb hby at_58) rfl rfl ?_
      refine g_iloadN X47 hx (hb hby at_59) rfl ?_
      obtain ⟨cl48, Ar48, -, sz48, -, Ha48, -⟩ := id V_b1_11
      have hin48 : ¬ ((1 : Int32) < 0 ∨ cl48.slots.size ≤ (1 : Int32).toNatClampNeg) := by rw [sz48]; decide
      have hat48 : cl48.slots[(1 : Int32).toNatClampNeg]? = some (.ref w_IX) := Ha48 1 (by rw [sz48]; decide)
      refine Go.mp (fun _ k => X47.aaload hx (j := 1) (v := (.ref w_IX)) (by rw [e47]; exact Ar48.1) (State.isArrayOf_alike hZ.alike Ar48.2.1) rfl Ar48.2.2 hin48 hat48 (g := (mkF m 60 #[.val (.int p1), .val (.int p2), .val (.ref b1), .val (.int (1 : Int32)), .val (.int (3 : Int32)), .val (.int (0 : Int32))] [(.int (1 : Int32)), (.ref b1)])) rfl rfl (hb hby at_60) _ k) ?_
      show Go p e below (T47.setTop (mkF m 61 #[.val (.int p1), .val (.int p2), .val (.ref b1), .val (.int (1 : Int32)), .val (.int (3 : Int32)), .val (.int (0 : Int32))] [(.ref w_IX)])) _
      refine g_aloadN X47 hx (hb hby at_61) rfl rfl ?_
      refine g_iload X47 hx (hb hby at_62) rfl ?_
      obtain ⟨cl49, Ar49, -, sz49, -, Ha49, -⟩ := id V_b1_11
      have hin49 : ¬ ((3 : Int32) < 0 ∨ cl49.slots.size ≤ (3 : Int32).toNatClampNeg) := by rw [sz49]; decide
      have hat49 : cl49.slots[(3 : Int32).toNatClampNeg]? = some (.ref w_SIX) := Ha49 3 (by rw [sz49]; decide)
      refine Go.mp (fun _ k => X47.aaload hx (j := 3) (v := (.ref w_SIX)) (by rw [e47]; exact Ar49.1) (State.isArrayOf_alike hZ.alike Ar49.2.1) rfl Ar49.2.2 hin49 hat49 (g := (mkF m 64 #[.val (.int p1), .val (.int p2), .val (.ref b1), .val (.int (1 : Int32)), .val (.int (3 : Int32)), .val (.int (0 : Int32))] [(.int (3 : Int32)), (.ref b1), (.ref w_IX)])) rfl rfl (hb hby at_64) _ k) ?_
      show Go p e below (T47.setTop (mkF m 65 #[.val (.int p1), .val (.int p2), .val (.ref b1), .val (.int (1 : Int32)), .val (.int (3 : Int32)), .val (.int (0 : Int32))] [(.ref w_SIX), (.ref w_IX)])) _
      obtain ⟨v50, T50, L50, X50, q50, st50⟩ := own_callV X47 hx hZ (y := (⟨"com/example/wombat/wombat/LockMode", "covers", "(Lcom/example/wombat/wombat/LockMode;)Z"⟩ : MethodName)) (pc := 65) (Ls := #[.val (.int p1), .val (.int p2), .val (.ref b1), .val (.int (1 : Int32)), .val (.int (3 : Int32)), .val (.int (0 : Int32))]) (st := [(.ref w_SIX), (.ref w_IX)]) hown (hw _ (List.mem_of_getElem? (i := 19) rfl)) (hw _ (List.mem_of_getElem? (i := 20) rfl)) (hw _ (List.mem_of_getElem? (i := 22) rfl)) (hw _ (List.mem_of_getElem? (i := 21) rfl)) (hw _ (List.mem_of_getElem? (i := 23) rfl)) (hw _ (List.mem_of_getElem? (i := 3) rfl)) (by decide) (rm_covers l Z a0 hw w_IX w_SIX (3 : Int32) (1 : Int32) h11 n0 Z11 F_w_IX_compatible_11 F_w_SIX_compatible_11) e47 E_w_IX_11 pd_1 (hb hby at_65) (by rw [hml]; rfl) (argsL := [(.ref w_SIX)]) (rest := []) rfl rfl rfl (W := 0) (Nat.le_of_eq rfl) (by decide) (by decide) (by decide) (by decide)
      obtain ⟨rfl, M50, e50⟩ := q50
      have N50 := Fr.app N47 M50
      have r50 : (f_covers w_IX w_SIX (3 : Int32) (1 : Int32)) = (0 : Int32) := by rw [f_covers, if_neg ((by decide) : ¬ (((3 : Int32) &&& ((1 : Int32) ^^^ (-1 : Int32))) = (0 : Int32)))]
      rw [r50] at st50
      refine Go.mp st50 ?_
      show Go p e below (T50.setTop (mkF m 68 #[.val (.int p1), .val (.int p2), .val (.ref b1), .val (.int (1 : Int32)), .val (.int (3 : Int32)), .val (.int (0 : Int32))] [(.int (0 : Int32))])) _
      refine g_iload X50 hx (hb hby at_68) rfl ?_
      refine g_icmpNo X50 hx (hb hby at_70) (teq ((by decide) : (0 : Int32) = (0 : Int32))).2 ?_
      refine g_iconst X50 hx (1 : Int32) (hb hby at_73) (by decide) ?_
      refine g_goto X50 hx 78 (hb hby at_74) (by decide) (by decide) ?_
      exact own_retZ X50 hx hret hlk (hb hby at_78) (by decide) (by decide) (by decide) ⟨rfl, N50⟩
    · rw [q34]
      refine g_istore X11 hx #[.val (.int p1), .val (.int p2), .val (.ref b1), .val (.int (1 : Int32)), .val (.int (4 : Int32)), .unset] (hb hby at_48) rfl ?_
      refine g_iloadN X11 hx (hb hby at_50) rfl ?_
      refine g_iload X11 hx (hb hby at_51) rfl ?_
      obtain ⟨v51, T51, L51, X51, q51, st51⟩ := own_callS X11 hx hZ (y := (⟨"com/example/wombat/wombat/LockModeCoversPinLaw", "expected", "(II)Z"⟩ : MethodName)) (pc := 53) (Ls := #[.val (.int p1), .val (.int p2), .val (.ref b1), .val (.int (1 : Int32)), .val (.int (4 : Int32)), .unset]) (st := [(.int (4 : Int32)), (.int (1 : Int32))]) hown (hw _ (List.mem_of_getElem? (i := 15) rfl)) (hw _ (List.mem_of_getElem? (i := 16) rfl)) (hw _ (List.mem_of_getElem? (i := 17) rfl)) (hw _ (List.mem_of_getElem? (i := 18) rfl)) (by decide) (rm_expected l Z a0 hw (1 : Int32) (4 : Int32) h11 n0 Z11 ) e11 pd_0 (hb hby at_53) (by rw [hml]; rfl) (argsL := [(.int (1 : Int32)), (.int (4 : Int32))]) (rest := []) rfl rfl rfl (W := 0) (Nat.le_of_eq rfl) (by decide) (by decide) (by decide) (by decide)
      obtain ⟨rfl, M51, e51⟩ := q51
      have N51 := Fr.app N11 M51
      have r51 : (f_expected (1 : Int32) (4 : Int32)) = (0 : Int32) := by rw [f_expected, if_neg ((by decide) : ¬ ((1 : Int32) = (4 : Int32))), if_neg ((by decide) : ¬ ((1 : Int32) = (4 : Int32))), if_neg ((by decide) : ¬ ((4 : Int32) = (0 : Int32))), if_neg ((by decide) : ¬ ((1 : Int32) = (3 : Int32)))]
      rw [r51] at st51
      refine Go.mp st51 ?_
      show Go p e below (T51.setTop (mkF m 56 #[.val (.int p1), .val (.int p2), .val (.ref b1), .val (.int (1 : Int32)), .val (.int (4 : Int32)), .unset] [(.int (0 : Int32))])) _
      refine g_istore X51 hx #[.val (.int p1), .val (.int p2), .val (.ref b1), .val (.int (1 : Int32)), .val (.int (4 : Int32)), .val (.int (0 : Int32))] (hb hby at_56) rfl ?_
      refine g_aloadN X51 hx (hb hby at_58) rfl rfl ?_
      refine g_iloadN X51 hx (hb hby at_59) rfl ?_
      obtain ⟨cl52, Ar52, -, sz52, -, Ha52, -⟩ := id V_b1_11
      have hin52 : ¬ ((1 : Int32) < 0 ∨ cl52.slots.size ≤ (1 : Int32).toNatClampNeg) := by rw [sz52]; decide
      have hat52 : cl52.slots[(1 : Int32).toNatClampNeg]? = some (.ref w_IX) := Ha52 1 (by rw [sz52]; decide)
      refine Go.mp (fun _ k => X51.aaload hx (j := 1) (v := (.ref w_IX)) (by rw [e51]; exact Ar52.1) (State.isArrayOf_alike hZ.alike Ar52.2.1) rfl Ar52.2.2 hin52 hat52 (g := (mkF m 60 #[.val (.int p1), .val (.int p2), .val (.ref b1), .val (.int (1 : Int32)), .val (.int (4 : Int32)), .val (.int (0 : Int32))] [(.int (1 : Int32)), (.ref b1)])) rfl rfl (hb hby at_60) _ k) ?_
      show Go p e below (T51.setTop (mkF m 61 #[.val (.int p1), .val (.int p2), .val (.ref b1), .val (.int (1 : Int32)), .val (.int (4 : Int32)), .val (.int (0 : Int32))] [(.ref w_IX)])) _
      refine g_aloadN X51 hx (hb hby at_61) rfl rfl ?_
      refine g_iload X51 hx (hb hby at_62) rfl ?_
      obtain ⟨cl53, Ar53, -, sz53, -, Ha53, -⟩ := id V_b1_11
      have hin53 : ¬ ((4 : Int32) < 0 ∨ cl53.slots.size ≤ (4 : Int32).toNatClampNeg) := by rw [sz53]; decide
      have hat53 : cl53.slots[(4 : Int32).toNatClampNeg]? = some (.ref w_X) := Ha53 4 (by rw [sz53]; decide)
      refine Go.mp (fun _ k => X51.aaload hx (j := 4) (v := (.ref w_X)) (by rw [e51]; exact Ar53.1) (State.isArrayOf_alike hZ.alike Ar53.2.1) rfl Ar53.2.2 hin53 hat53 (g := (mkF m 64 #[.val (.int p1), .val (.int p2), .val (.ref b1), .val (.int (1 : Int32)), .val (.int (4 : Int32)), .val (.int (0 : Int32))] [(.int (4 : Int32)), (.ref b1), (.ref w_IX)])) rfl rfl (hb hby at_64) _ k) ?_
      show Go p e below (T51.setTop (mkF m 65 #[.val (.int p1), .val (.int p2), .val (.ref b1), .val (.int (1 : Int32)), .val (.int (4 : Int32)), .val (.int (0 : Int32))] [(.ref w_X), (.ref w_IX)])) _
      obtain ⟨v54, T54, L54, X54, q54, st54⟩ := own_callV X51 hx hZ (y := (⟨"com/example/wombat/wombat/LockMode", "covers", "(Lcom/example/wombat/wombat/LockMode;)Z"⟩ : MethodName)) (pc := 65) (Ls := #[.val (.int p1), .val (.int p2), .val (.ref b1), .val (.int (1 : Int32)), .val (.int (4 : Int32)), .val (.int (0 : Int32))]) (st := [(.ref w_X), (.ref w_IX)]) hown (hw _ (List.mem_of_getElem? (i := 19) rfl)) (hw _ (List.mem_of_getElem? (i := 20) rfl)) (hw _ (List.mem_of_getElem? (i := 22) rfl)) (hw _ (List.mem_of_getElem? (i := 21) rfl)) (hw _ (List.mem_of_getElem? (i := 23) rfl)) (hw _ (List.mem_of_getElem? (i := 3) rfl)) (by decide) (rm_covers l Z a0 hw w_IX w_X (3 : Int32) (0 : Int32) h11 n0 Z11 F_w_IX_compatible_11 F_w_X_compatible_11) e51 E_w_IX_11 pd_1 (hb hby at_65) (by rw [hml]; rfl) (argsL := [(.ref w_X)]) (rest := []) rfl rfl rfl (W := 0) (Nat.le_of_eq rfl) (by decide) (by decide) (by decide) (by decide)
      obtain ⟨rfl, M54, e54⟩ := q54
      have N54 := Fr.app N51 M54
      have r54 : (f_covers w_IX w_X (3 : Int32) (0 : Int32)) = (0 : Int32) := by rw [f_covers, if_neg ((by decide) : ¬ (((3 : Int32) &&& ((0 : Int32) ^^^ (-1 : Int32))) = (0 : Int32)))]
      rw [r54] at st54
      refine Go.mp st54 ?_
      show Go p e below (T54.setTop (mkF m 68 #[.val (.int p1), .val (.int p2), .val (.ref b1), .val (.int (1 : Int32)), .val (.int (4 : Int32)), .val (.int (0 : Int32))] [(.int (0 : Int32))])) _
      refine g_iload X54 hx (hb hby at_68) rfl ?_
      refine g_icmpNo X54 hx (hb hby at_70) (teq ((by decide) : (0 : Int32) = (0 : Int32))).2 ?_
      refine g_iconst X54 hx (1 : Int32) (hb hby at_73) (by decide) ?_
      refine g_goto X54 hx 78 (hb hby at_74) (by decide) (by decide) ?_
      exact own_retZ X54 hx hret hlk (hb hby at_78) (by decide) (by decide) (by decide) ⟨rfl, N54⟩
  · rw [q12]
    refine g_istoreN X11 hx #[.val (.int p1), .val (.int p2), .val (.ref b1), .val (.int (2 : Int32)), .unset, .unset] (hb hby at_41) rfl ?_
    refine g_iloadN X11 hx (hb hby at_42) rfl ?_
    refine Go.mp (fun _ k => X11.ldcInt hx hown (mvT hZ (hw _ (List.mem_of_getElem? (i := 14) rfl))) (g := (mkF m 43 #[.val (.int p1), .val (.int p2), .val (.ref b1), .val (.int (2 : Int32)), .unset, .unset] [(.int p2)])) rfl (hb hby at_43) _ k) ?_
    show Go p e below (T11.setTop (mkF m 45 #[.val (.int p1), .val (.int p2), .val (.ref b1), .val (.int (2 : Int32)), .unset, .unset] [(.int (2147483647 : Int32)), (.int p2)])) _
    refine g_iand X11 hx (hb hby at_45) ?_
    refine g_iconst X11 hx (5 : Int32) (hb hby at_46) (by decide) ?_
    refine g_irem X11 hx (hb hby at_47) (by decide) ?_
    show Go p e below (T11.setTop (mkF m 48 #[.val (.int p1), .val (.int p2), .val (.ref b1), .val (.int (2 : Int32)), .unset, .unset] [(.int ((p2 &&& (2147483647 : Int32)) % (5 : Int32)))])) _
    rcases own_mod5 p2 with q55 | q55 | q55 | q55 | q55
    · rw [q55]
      refine g_istore X11 hx #[.val (.int p1), .val (.int p2), .val (.ref b1), .val (.int (2 : Int32)), .val (.int (0 : Int32)), .unset] (hb hby at_48) rfl ?_
      refine g_iloadN X11 hx (hb hby at_50) rfl ?_
      refine g_iload X11 hx (hb hby at_51) rfl ?_
      obtain ⟨v56, T56, L56, X56, q56, st56⟩ := own_callS X11 hx hZ (y := (⟨"com/example/wombat/wombat/LockModeCoversPinLaw", "expected", "(II)Z"⟩ : MethodName)) (pc := 53) (Ls := #[.val (.int p1), .val (.int p2), .val (.ref b1), .val (.int (2 : Int32)), .val (.int (0 : Int32)), .unset]) (st := [(.int (0 : Int32)), (.int (2 : Int32))]) hown (hw _ (List.mem_of_getElem? (i := 15) rfl)) (hw _ (List.mem_of_getElem? (i := 16) rfl)) (hw _ (List.mem_of_getElem? (i := 17) rfl)) (hw _ (List.mem_of_getElem? (i := 18) rfl)) (by decide) (rm_expected l Z a0 hw (2 : Int32) (0 : Int32) h11 n0 Z11 ) e11 pd_0 (hb hby at_53) (by rw [hml]; rfl) (argsL := [(.int (2 : Int32)), (.int (0 : Int32))]) (rest := []) rfl rfl rfl (W := 0) (Nat.le_of_eq rfl) (by decide) (by decide) (by decide) (by decide)
      obtain ⟨rfl, M56, e56⟩ := q56
      have N56 := Fr.app N11 M56
      have r56 : (f_expected (2 : Int32) (0 : Int32)) = (1 : Int32) := by rw [f_expected, if_neg ((by decide) : ¬ ((2 : Int32) = (0 : Int32))), if_neg ((by decide) : ¬ ((2 : Int32) = (4 : Int32))), if_pos ((by decide) : (0 : Int32) = (0 : Int32))]
      rw [r56] at st56
      refine Go.mp st56 ?_
      show Go p e below (T56.setTop (mkF m 56 #[.val (.int p1), .val (.int p2), .val (.ref b1), .val (.int (2 : Int32)), .val (.int (0 : Int32)), .unset] [(.int (1 : Int32))])) _
      refine g_istore X56 hx #[.val (.int p1), .val (.int p2), .val (.ref b1), .val (.int (2 : Int32)), .val (.int (0 : Int32)), .val (.int (1 : Int32))] (hb hby at_56) rfl ?_
      refine g_aloadN X56 hx (hb hby at_58) rfl rfl ?_
      refine g_iloadN X56 hx (hb hby at_59) rfl ?_
      obtain ⟨cl57, Ar57, -, sz57, -, Ha57, -⟩ := id V_b1_11
      have hin57 : ¬ ((2 : Int32) < 0 ∨ cl57.slots.size ≤ (2 : Int32).toNatClampNeg) := by rw [sz57]; decide
      have hat57 : cl57.slots[(2 : Int32).toNatClampNeg]? = some (.ref w_S) := Ha57 2 (by rw [sz57]; decide)
      refine Go.mp (fun _ k => X56.aaload hx (j := 2) (v := (.ref w_S)) (by rw [e56]; exact Ar57.1) (State.isArrayOf_alike hZ.alike Ar57.2.1) rfl Ar57.2.2 hin57 hat57 (g := (mkF m 60 #[.val (.int p1), .val (.int p2), .val (.ref b1), .val (.int (2 : Int32)), .val (.int (0 : Int32)), .val (.int (1 : Int32))] [(.int (2 : Int32)), (.ref b1)])) rfl rfl (hb hby at_60) _ k) ?_
      show Go p e below (T56.setTop (mkF m 61 #[.val (.int p1), .val (.int p2), .val (.ref b1), .val (.int (2 : Int32)), .val (.int (0 : Int32)), .val (.int (1 : Int32))] [(.ref w_S)])) _
      refine g_aloadN X56 hx (hb hby at_61) rfl rfl ?_
      refine g_iload X56 hx (hb hby at_62) rfl ?_
      obtain ⟨cl58, Ar58, -, sz58, -, Ha58, -⟩ := id V_b1_11
      have hin58 : ¬ ((0 : Int32) < 0 ∨ cl58.slots.size ≤ (0 : Int32).toNatClampNeg) := by rw [sz58]; decide
      have hat58 : cl58.slots[(0 : Int32).toNatClampNeg]? = some (.ref w_IS) := Ha58 0 (by rw [sz58]; decide)
      refine Go.mp (fun _ k => X56.aaload hx (j := 0) (v := (.ref w_IS)) (by rw [e56]; exact Ar58.1) (State.isArrayOf_alike hZ.alike Ar58.2.1) rfl Ar58.2.2 hin58 hat58 (g := (mkF m 64 #[.val (.int p1), .val (.int p2), .val (.ref b1), .val (.int (2 : Int32)), .val (.int (0 : Int32)), .val (.int (1 : Int32))] [(.int (0 : Int32)), (.ref b1), (.ref w_S)])) rfl rfl (hb hby at_64) _ k) ?_
      show Go p e below (T56.setTop (mkF m 65 #[.val (.int p1), .val (.int p2), .val (.ref b1), .val (.int (2 : Int32)), .val (.int (0 : Int32)), .val (.int (1 : Int32))] [(.ref w_IS), (.ref w_S)])) _
      obtain ⟨v59, T59, L59, X59, q59, st59⟩ := own_callV X56 hx hZ (y := (⟨"com/example/wombat/wombat/LockMode", "covers", "(Lcom/example/wombat/wombat/LockMode;)Z"⟩ : MethodName)) (pc := 65) (Ls := #[.val (.int p1), .val (.int p2), .val (.ref b1), .val (.int (2 : Int32)), .val (.int (0 : Int32)), .val (.int (1 : Int32))]) (st := [(.ref w_IS), (.ref w_S)]) hown (hw _ (List.mem_of_getElem? (i := 19) rfl)) (hw _ (List.mem_of_getElem? (i := 20) rfl)) (hw _ (List.mem_of_getElem? (i := 22) rfl)) (hw _ (List.mem_of_getElem? (i := 21) rfl)) (hw _ (List.mem_of_getElem? (i := 23) rfl)) (hw _ (List.mem_of_getElem? (i := 3) rfl)) (by decide) (rm_covers l Z a0 hw w_S w_IS (5 : Int32) (15 : Int32) h11 n0 Z11 F_w_S_compatible_11 F_w_IS_compatible_11) e56 E_w_S_11 pd_1 (hb hby at_65) (by rw [hml]; rfl) (argsL := [(.ref w_IS)]) (rest := []) rfl rfl rfl (W := 0) (Nat.le_of_eq rfl) (by decide) (by decide) (by decide) (by decide)
      obtain ⟨rfl, M59, e59⟩ := q59
      have N59 := Fr.app N56 M59
      have r59 : (f_covers w_S w_IS (5 : Int32) (15 : Int32)) = (1 : Int32) := by rw [f_covers, if_pos ((by decide) : ((5 : Int32) &&& ((15 : Int32) ^^^ (-1 : Int32))) = (0 : Int32))]
      rw [r59] at st59
      refine Go.mp st59 ?_
      show Go p e below (T59.setTop (mkF m 68 #[.val (.int p1), .val (.int p2), .val (.ref b1), .val (.int (2 : Int32)), .val (.int (0 : Int32)), .val (.int (1 : Int32))] [(.int (1 : Int32))])) _
      refine g_iload X59 hx (hb hby at_68) rfl ?_
      refine g_icmpNo X59 hx (hb hby at_70) (teq ((by decide) : (1 : Int32) = (1 : Int32))).2 ?_
      refine g_iconst X59 hx (1 : Int32) (hb hby at_73) (by decide) ?_
      refine g_goto X59 hx 78 (hb hby at_74) (by decide) (by decide) ?_
      exact own_retZ X59 hx hret hlk (hb hby at_78) (by decide) (by decide) (by decide) ⟨rfl, N59⟩
    · rw [q55]
      refine g_istore X11 hx #[.val (.int p1), .val (.int p2), .val (.ref b1), .val (.int (2 : Int32)), .val (.int (1 : Int32)), .unset] (hb hby at_48) rfl ?_
      refine g_iloadN X11 hx (hb hby at_50) rfl ?_
      refine g_iload X11 hx (hb hby at_51) rfl ?_
      obtain ⟨v60, T60, L60, X60, q60, st60⟩ := own_callS X11 hx hZ (y := (⟨"com/example/wombat/wombat/LockModeCoversPinLaw", "expected", "(II)Z"⟩ : MethodName)) (pc := 53) (Ls := #[.val (.int p1), .val (.int p2), .val (.ref b1), .val (.int (2 : Int32)), .val (.int (1 : Int32)), .unset]) (st := [(.int (1 : Int32)), (.int (2 : Int32))]) hown (hw _ (List.mem_of_getElem? (i := 15) rfl)) (hw _ (List.mem_of_getElem? (i := 16) rfl)) (hw _ (List.mem_of_getElem? (i := 17) rfl)) (hw _ (List.mem_of_getElem? (i := 18) rfl)) (by decide) (rm_expected l Z a0 hw (2 : Int32) (1 : Int32) h11 n0 Z11 ) e11 pd_0 (hb hby at_53) (by rw [hml]; rfl) (argsL := [(.int (2 : Int32)), (.int (1 : Int32))]) (rest := []) rfl rfl rfl (W := 0) (Nat.le_of_eq rfl) (by decide) (by decide) (by decide) (by decide)
      obtain ⟨rfl, M60, e60⟩ := q60
      have N60 := Fr.app N11 M60
      have r60 : (f_expected (2 : Int32) (1 : Int32)) = (0 : Int32) := by rw [f_expected, if_neg ((by decide) : ¬ ((2 : Int32) = (1 : Int32))), if_neg ((by decide) : ¬ ((2 : Int32) = (4 : Int32))), if_neg ((by decide) : ¬ ((1 : Int32) = (0 : Int32))), if_neg ((by decide) : ¬ ((2 : Int32) = (3 : Int32)))]
      rw [r60] at st60
      refine Go.mp st60 ?_
      show Go p e below (T60.setTop (mkF m 56 #[.val (.int p1), .val (.int p2), .val (.ref b1), .val (.int (2 : Int32)), .val (.int (1 : Int32)), .unset] [(.int (0 : Int32))])) _
      refine g_istore X60 hx #[.val (.int p1), .val (.int p2), .val (.ref b1), .val (.int (2 : Int32)), .val (.int (1 : Int32)), .val (.int (0 : Int32))] (hb hby at_56) rfl ?_
      refine g_aloadN X60 hx (hb hby at_58) rfl rfl ?_
      refine g_iloadN X60 hx (hb hby at_59) rfl ?_
      obtain ⟨cl61, Ar61, -, sz61, -, Ha61, -⟩ := id V_b1_11
      have hin61 : ¬ ((2 : Int32) < 0 ∨ cl61.slots.size ≤ (2 : Int32).toNatClampNeg) := by rw [sz61]; decide
      have hat61 : cl61.slots[(2 : Int32).toNatClampNeg]? = some (.ref w_S) := Ha61 2 (by rw [sz61]; decide)
      refine Go.mp (fun _ k => X60.aaload hx (j := 2) (v := (.ref w_S)) (by rw [e60]; exact Ar61.1) (State.isArrayOf_alike hZ.alike Ar61.2.1) rfl Ar61.2.2 hin61 hat61 (g := (mkF m 60 #[.val (.int p1), .val (.int p2), .val (.ref b1), .val (.int (2 : Int32)), .val (.int (1 : Int32)), .val (.int (0 : Int32))] [(.int (2 : Int32)), (.ref b1)])) rfl rfl (hb hby at_60) _ k) ?_
      show Go p e below (T60.setTop (mkF m 61 #[.val (.int p1), .val (.int p2), .val (.ref b1), .val (.int (2 : Int32)), .val (.int (1 : Int32)), .val (.int (0 : Int32))] [(.ref w_S)])) _
      refine g_aloadN X60 hx (hb hby at_61) rfl rfl ?_
      refine g_iload X60 hx (hb hby at_62) rfl ?_
      obtain ⟨cl62, Ar62, -, sz62, -, Ha62, -⟩ := id V_b1_11
      have hin62 : ¬ ((1 : Int32) < 0 ∨ cl62.slots.size ≤ (1 : Int32).toNatClampNeg) := by rw [sz62]; decide
      have hat62 : cl62.slots[(1 : Int32).toNatClampNeg]? = some (.ref w_IX) := Ha62 1 (by rw [sz62]; decide)
      refine Go.mp (fun _ k => X60.aaload hx (j := 1) (v := (.ref w_IX)) (by rw [e60]; exact Ar62.1) (State.isArrayOf_alike hZ.alike Ar62.2.1) rfl Ar62.2.2 hin62 hat62 (g := (mkF m 64 #[.val (.int p1), .val (.int p2), .val (.ref b1), .val (.int (2 : Int32)), .val (.int (1 : Int32)), .val (.int (0 : Int32))] [(.int (1 : Int32)), (.ref b1), (.ref w_S)])) rfl rfl (hb hby at_64) _ k) ?_
      show Go p e below (T60.setTop (mkF m 65 #[.val (.int p1), .val (.int p2), .val (.ref b1), .val (.int (2 : Int32)), .val (.int (1 : Int32)), .val (.int (0 : Int32))] [(.ref w_IX), (.ref w_S)])) _
      obtain ⟨v63, T63, L63, X63, q63, st63⟩ := own_callV X60 hx hZ (y := (⟨"com/example/wombat/wombat/LockMode", "covers", "(Lcom/example/wombat/wombat/LockMode;)Z"⟩ : MethodName)) (pc := 65) (Ls := #[.val (.int p1), .val (.int p2), .val (.ref b1), .val (.int (2 : Int32)), .val (.int (1 : Int32)), .val (.int (0 : Int32))]) (st := [(.ref w_IX), (.ref w_S)]) hown (hw _ (List.mem_of_getElem? (i := 19) rfl)) (hw _ (List.mem_of_getElem? (i := 20) rfl)) (hw _ (List.mem_of_getElem? (i := 22) rfl)) (hw _ (List.mem_of_getElem? (i := 21) rfl)) (hw _ (List.mem_of_getElem? (i := 23) rfl)) (hw _ (List.mem_of_getElem? (i := 3) rfl)) (by decide) (rm_covers l Z a0 hw w_S w_IX (5 : Int32) (3 : Int32) h11 n0 Z11 F_w_S_compatible_11 F_w_IX_compatible_11) e60 E_w_S_11 pd_1 (hb hby at_65) (by rw [hml]; rfl) (argsL := [(.ref w_IX)]) (rest := []) rfl rfl rfl (W := 0) (Nat.le_of_eq rfl) (by decide) (by decide) (by decide) (by decide)
      obtain ⟨rfl, M63, e63⟩ := q63
      have N63 := Fr.app N60 M63
      have r63 : (f_covers w_S w_IX (5 : Int32) (3 : Int32)) = (0 : Int32) := by rw [f_covers, if_neg ((by decide) : ¬ (((5 : Int32) &&& ((3 : Int32) ^^^ (-1 : Int32))) = (0 : Int32)))]
      rw [r63] at st63
      refine Go.mp st63 ?_
      show Go p e below (T63.setTop (mkF m 68 #[.val (.int p1), .val (.int p2), .val (.ref b1), .val (.int (2 : Int32)), .val (.int (1 : Int32)), .val (.int (0 : Int32))] [(.int (0 : Int32))])) _
      refine g_iload X63 hx (hb hby at_68) rfl ?_
      refine g_icmpNo X63 hx (hb hby at_70) (teq ((by decide) : (0 : Int32) = (0 : Int32))).2 ?_
      refine g_iconst X63 hx (1 : Int32) (hb hby at_73) (by decide) ?_
      refine g_goto X63 hx 78 (hb hby at_74) (by decide) (by decide) ?_
      exact own_retZ X63 hx hret hlk (hb hby at_78) (by decide) (by decide) (by decide) ⟨rfl, N63⟩
    · rw [q55]
      refine g_istore X11 hx #[.val (.int p1), .val (.int p2), .val (.ref b1), .val (.int (2 : Int32)), .val (.int (2 : Int32)), .unset] (hb hby at_48) rfl ?_
      refine g_iloadN X11 hx (hb hby at_50) rfl ?_
      refine g_iload X11 hx (hb hby at_51) rfl ?_
      obtain ⟨v64, T64, L64, X64, q64, st64⟩ := own_callS X11 hx hZ (y := (⟨"com/example/wombat/wombat/LockModeCoversPinLaw", "expected", "(II)Z"⟩ : MethodName)) (pc := 53) (Ls := #[.val (.int p1), .val (.int p2), .val (.ref b1), .val (.int (2 : Int32)), .val (.int (2 : Int32)), .unset]) (st := [(.int (2 : Int32)), (.int (2 : Int32))]) hown (hw _ (List.mem_of_getElem? (i := 15) rfl)) (hw _ (List.mem_of_getElem? (i := 16) rfl)) (hw _ (List.mem_of_getElem? (i := 17) rfl)) (hw _ (List.mem_of_getElem? (i := 18) rfl)) (by decide) (rm_expected l Z a0 hw (2 : Int32) (2 : Int32) h11 n0 Z11 ) e11 pd_0 (hb hby at_53) (by rw [hml]; rfl) (argsL := [(.int (2 : Int32)), (.int (2 : Int32))]) (rest := []) rfl rfl rfl (W := 0) (Nat.le_of_eq rfl) (by decide) (by decide) (by decide) (by decide)
      obtain ⟨rfl, M64, e64⟩ := q64
      have N64 := Fr.app N11 M64
      have r64 : (f_expected (2 : Int32) (2 : Int32)) = (1 : Int32) := by rw [f_expected, if_pos ((by decide) : (2 : Int32) = (2 : Int32))]
      rw [r64] at st64
      refine Go.mp st64 ?_
      show Go p e below (T64.setTop (mkF m 56 #[.val (.int p1), .val (.int p2), .val (.ref b1), .val (.int (2 : Int32)), .val (.int (2 : Int32)), .unset] [(.int (1 : Int32))])) _
      refine g_istore X64 hx #[.val (.int p1), .val (.int p2), .val (.ref b1), .val (.int (2 : Int32)), .val (.int (2 : Int32)), .val (.int (1 : Int32))] (hb hby at_56) rfl ?_
      refine g_aloadN X64 hx (hb hby at_58) rfl rfl ?_
      refine g_iloadN X64 hx (hb hby at_59) rfl ?_
      obtain ⟨cl65, Ar65, -, sz65, -, Ha65, -⟩ := id V_b1_11
      have hin65 : ¬ ((2 : Int32) < 0 ∨ cl65.slots.size ≤ (2 : Int32).toNatClampNeg) := by rw [sz65]; decide
      have hat65 : cl65.slots[(2 : Int32).toNatClampNeg]? = some (.ref w_S) := Ha65 2 (by rw [sz65]; decide)
      refine Go.mp (fun _ k => X64.aaload hx (j := 2) (v := (.ref w_S)) (by rw [e64]; exact Ar65.1) (State.isArrayOf_alike hZ.alike Ar65.2.1) rfl Ar65.2.2 hin65 hat65 (g := (mkF m 60 #[.val (.int p1), .val (.int p2), .val (.ref b1), .val (.int (2 : Int32)), .val (.int (2 : Int32)), .val (.int (1 : Int32))] [(.int (2 : Int32)), (.ref b1)])) rfl rfl (hb hby at_60) _ k) ?_
      show Go p e below (T64.setTop (mkF m 61 #[.val (.int p1), .val (.int p2), .val (.ref b1), .val (.int (2 : Int32)), .val (.int (2 : Int32)), .val (.int (1 : Int32))] [(.ref w_S)])) _
      refine g_aloadN X64 hx (hb hby at_61) rfl rfl ?_
      refine g_iload X64 hx (hb hby at_62) rfl ?_
      obtain ⟨cl66, Ar66, -, sz66, -, Ha66, -⟩ := id V_b1_11
      have hin66 : ¬ ((2 : Int32) < 0 ∨ cl66.slots.size ≤ (2 : Int32).toNatClampNeg) := by rw [sz66]; decide
      have hat66 : cl66.slots[(2 : Int32).toNatClampNeg]? = some (.ref w_S) := Ha66 2 (by rw [sz66]; decide)
      refine Go.mp (fun _ k => X64.aaload hx (j := 2) (v := (.ref w_S)) (by rw [e64]; exact Ar66.1) (State.isArrayOf_alike hZ.alike Ar66.2.1) rfl Ar66.2.2 hin66 hat66 (g := (mkF m 64 #[.val (.int p1), .val (.int p2), .val (.ref b1), .val (.int (2 : Int32)), .val (.int (2 : Int32)), .val (.int (1 : Int32))] [(.int (2 : Int32)), (.ref b1), (.ref w_S)])) rfl rfl (hb hby at_64) _ k) ?_
      show Go p e below (T64.setTop (mkF m 65 #[.val (.int p1), .val (.int p2), .val (.ref b1), .val (.int (2 : Int32)), .val (.int (2 : Int32)), .val (.int (1 : Int32))] [(.ref w_S), (.ref w_S)])) _
      obtain ⟨v67, T67, L67, X67, q67, st67⟩ := own_callV X64 hx hZ (y := (⟨"com/example/wombat/wombat/LockMode", "covers", "(Lcom/example/wombat/wombat/LockMode;)Z"⟩ : MethodName)) (pc := 65) (Ls := #[.val (.int p1), .val (.int p2), .val (.ref b1), .val (.int (2 : Int32)), .val (.int (2 : Int32)), .val (.int (1 : Int32))]) (st := [(.ref w_S), (.ref w_S)]) hown (hw _ (List.mem_of_getElem? (i := 19) rfl)) (hw _ (List.mem_of_getElem? (i := 20) rfl)) (hw _ (List.mem_of_getElem? (i := 22) rfl)) (hw _ (List.mem_of_getElem? (i := 21) rfl)) (hw _ (List.mem_of_getElem? (i := 23) rfl)) (hw _ (List.mem_of_getElem? (i := 3) rfl)) (by decide) (rm_covers l Z a0 hw w_S w_S (5 : Int32) (5 : Int32) h11 n0 Z11 F_w_S_compatible_11 F_w_S_compatible_11) e64 E_w_S_11 pd_1 (hb hby at_65) (by rw [hml]; rfl) (argsL := [(.ref w_S)]) (rest := []) rfl rfl rfl (W := 0) (Nat.le_of_eq rfl) (by decide) (by decide) (by decide) (by decide)
      obtain ⟨rfl, M67, e67⟩ := q67
      have N67 := Fr.app N64 M67
      have r67 : (f_covers w_S w_S (5 : Int32) (5 : Int32)) = (1 : Int32) := by rw [f_covers, if_pos ((by decide) : ((5 : Int32) &&& ((5 : Int32) ^^^ (-1 : Int32))) = (0 : Int32))]
      rw [r67] at st67
      refine Go.mp st67 ?_
      show Go p e below (T67.setTop (mkF m 68 #[.val (.int p1), .val (.int p2), .val (.ref b1), .val (.int (2 : Int32)), .val (.int (2 : Int32)), .val (.int (1 : Int32))] [(.int (1 : Int32))])) _
      refine g_iload X67 hx (hb hby at_68) rfl ?_
      refine g_icmpNo X67 hx (hb hby at_70) (teq ((by decide) : (1 : Int32) = (1 : Int32))).2 ?_
      refine g_iconst X67 hx (1 : Int32) (hb hby at_73) (by decide) ?_
      refine g_goto X67 hx 78 (hb hby at_74) (by decide) (by decide) ?_
      exact own_retZ X67 hx hret hlk (hb hby at_78) (by decide) (by decide) (by decide) ⟨rfl, N67⟩
    · rw [q55]
      refine g_istore X11 hx #[.val (.int p1), .val (.int p2), .val (.ref b1), .val (.int (2 : Int32)), .val (.int (3 : Int32)), .unset] (hb hby at_48) rfl ?_
      refine g_iloadN X11 hx (hb hby at_50) rfl ?_
      refine g_iload X11 hx (hb hby at_51) rfl ?_
      obtain ⟨v68, T68, L68, X68, q68, st68⟩ := own_callS X11 hx hZ (y := (⟨"com/example/wombat/wombat/LockModeCoversPinLaw", "expected", "(II)Z"⟩ : MethodName)) (pc := 53) (Ls := #[.val (.int p1), .val (.int p2), .val (.ref b1), .val (.int (2 : Int32)), .val (.int (3 : Int32)), .unset]) (st := [(.int (3 : Int32)), (.int (2 : Int32))]) hown (hw _ (List.mem_of_getElem? (i := 15) rfl)) (hw _ (List.mem_of_getElem? (i := 16) rfl)) (hw _ (List.mem_of_getElem? (i := 17) rfl)) (hw _ (List.mem_of_getElem? (i := 18) rfl)) (by decide) (rm_expected l Z a0 hw (2 : Int32) (3 : Int32) h11 n0 Z11 ) e11 pd_0 (hb hby at_53) (by rw [hml]; rfl) (argsL := [(.int (2 : Int32)), (.int (3 : Int32))]) (rest := []) rfl rfl rfl (W := 0) (Nat.le_of_eq rfl) (by decide) (by decide) (by decide) (by decide)
      obtain ⟨rfl, M68, e68⟩ := q68
      have N68 := Fr.app N11 M68
      have r68 : (f_expected (2 : Int32) (3 : Int32)) = (0 : Int32) := by rw [f_expected, if_neg ((by decide) : ¬ ((2 : Int32) = (3 : Int32))), if_neg ((by decide) : ¬ ((2 : Int32) = (4 : Int32))), if_neg ((by decide) : ¬ ((3 : Int32) = (0 : Int32))), if_neg ((by decide) : ¬ ((2 : Int32) = (3 : Int32)))]
      rw [r68] at st68
      refine Go.mp st68 ?_
      show Go p e below (T68.setTop (mkF m 56 #[.val (.int p1), .val (.int p2), .val (.ref b1), .val (.int (2 : Int32)), .val (.int (3 : Int32)), .unset] [(.int (0 : Int32))])) _
      refine g_istore X68 hx #[.val (.int p1), .val (.int p2), .val (.ref b1), .val (.int (2 : Int32)), .val (.int (3 : Int32)), .val (.int (0 : Int32))] (hb hby at_56) rfl ?_
      refine g_aloadN X68 hx (hb hby at_58) rfl rfl ?_
      refine g_iloadN X68 hx (hb hby at_59) rfl ?_
      obtain ⟨cl69, Ar69, -, sz69, -, Ha69, -⟩ := id V_b1_11
      have hin69 : ¬ ((2 : Int32) < 0 ∨ cl69.slots.size ≤ (2 : Int32).toNatClampNeg) := by rw [sz69]; decide
      have hat69 : cl69.slots[(2 : Int32).toNatClampNeg]? = some (.ref w_S) := Ha69 2 (by rw [sz69]; decide)
      refine Go.mp (fun _ k => X68.aaload hx (j := 2) (v := (.ref w_S)) (by rw [e68]; exact Ar69.1) (State.isArrayOf_alike hZ.alike Ar69.2.1) rfl Ar69.2.2 hin69 hat69 (g := (mkF m 60 #[.val (.int p1), .val (.int p2), .val (.ref b1), .val (.int (2 : Int32)), .val (.int (3 : Int32)), .val (.int (0 : Int32))] [(.int (2 : Int32)), (.ref b1)])) rfl rfl (hb hby at_60) _ k) ?_
      show Go p e below (T68.setTop (mkF m 61 #[.val (.int p1), .val (.int p2), .val (.ref b1), .val (.int (2 : Int32)), .val (.int (3 : Int32)), .val (.int (0 : Int32))] [(.ref w_S)])) _
      refine g_aloadN X68 hx (hb hby at_61) rfl rfl ?_
      refine g_iload X68 hx (hb hby at_62) rfl ?_
      obtain ⟨cl70, Ar70, -, sz70, -, Ha70, -⟩ := id V_b1_11
      have hin70 : ¬ ((3 : Int32) < 0 ∨ cl70.slots.size ≤ (3 : Int32).toNatClampNeg) := by rw [sz70]; decide
      have hat70 : cl70.slots[(3 : Int32).toNatClampNeg]? = some (.ref w_SIX) := Ha70 3 (by rw [sz70]; decide)
      refine Go.mp (fun _ k => X68.aaload hx (j := 3) (v := (.ref w_SIX)) (by rw [e68]; exact Ar70.1) (State.isArrayOf_alike hZ.alike Ar70.2.1) rfl Ar70.2.2 hin70 hat70 (g := (mkF m 64 #[.val (.int p1), .val (.int p2), .val (.ref b1), .val (.int (2 : Int32)), .val (.int (3 : Int32)), .val (.int (0 : Int32))] [(.int (3 : Int32)), (.ref b1), (.ref w_S)])) rfl rfl (hb hby at_64) _ k) ?_
      show Go p e below (T68.setTop (mkF m 65 #[.val (.int p1), .val (.int p2), .val (.ref b1), .val (.int (2 : Int32)), .val (.int (3 : Int32)), .val (.int (0 : Int32))] [(.ref w_SIX), (.ref w_S)])) _
      obtain ⟨v71, T71, L71, X71, q71, st71⟩ := own_callV X68 hx hZ (y := (⟨"com/example/wombat/wombat/LockMode", "covers", "(Lcom/example/wombat/wombat/LockMode;)Z"⟩ : MethodName)) (pc := 65) (Ls := #[.val (.int p1), .val (.int p2), .val (.ref b1), .val (.int (2 : Int32)), .val (.int (3 : Int32)), .val (.int (0 : Int32))]) (st := [(.ref w_SIX), (.ref w_S)]) hown (hw _ (List.mem_of_getElem? (i := 19) rfl)) (hw _ (List.mem_of_getElem? (i := 20) rfl)) (hw _ (List.mem_of_getElem? (i := 22) rfl)) (hw _ (List.mem_of_getElem? (i := 21) rfl)) (hw _ (List.mem_of_getElem? (i := 23) rfl)) (hw _ (List.mem_of_getElem? (i := 3) rfl)) (by decide) (rm_covers l Z a0 hw w_S w_SIX (5 : Int32) (1 : Int32) h11 n0 Z11 F_w_S_compatible_11 F_w_SIX_compatible_11) e68 E_w_S_11 pd_1 (hb hby at_65) (by rw [hml]; rfl) (argsL := [(.ref w_SIX)]) (rest := []) rfl rfl rfl (W := 0) (Nat.le_of_eq rfl) (by decide) (by decide) (by decide) (by decide)
      obtain ⟨rfl, M71, e71⟩ := q71
      have N71 := Fr.app N68 M71
      have r71 : (f_covers w_S w_SIX (5 : Int32) (1 : Int32)) = (0 : Int32) := by rw [f_covers, if_neg ((by decide) : ¬ (((5 : Int32) &&& ((1 : Int32) ^^^ (-1 : Int32))) = (0 : Int32)))]
      rw [r71] at st71
      refine Go.mp st71 ?_
      show Go p e below (T71.setTop (mkF m 68 #[.val (.int p1), .val (.int p2), .val (.ref b1), .val (.int (2 : Int32)), .val (.int (3 : Int32)), .val (.int (0 : Int32))] [(.int (0 : Int32))])) _
      refine g_iload X71 hx (hb hby at_68) rfl ?_
      refine g_icmpNo X71 hx (hb hby at_70) (teq ((by decide) : (0 : Int32) = (0 : Int32))).2 ?_
      refine g_iconst X71 hx (1 : Int32) (hb hby at_73) (by decide) ?_
      refine g_goto X71 hx 78 (hb hby at_74) (by decide) (by decide) ?_
      exact own_retZ X71 hx hret hlk (hb hby at_78) (by decide) (by decide) (by decide) ⟨rfl, N71⟩
    · rw [q55]
      refine g_istore X11 hx #[.val (.int p1), .val (.int p2), .val (.ref b1), .val (.int (2 : Int32)), .val (.int (4 : Int32)), .unset] (hb hby at_48) rfl ?_
      refine g_iloadN X11 hx (hb hby at_50) rfl ?_
      refine g_iload X11 hx (hb hby at_51) rfl ?_
      obtain ⟨v72, T72, L72, X72, q72, st72⟩ := own_callS X11 hx hZ (y := (⟨"com/example/wombat/wombat/LockModeCoversPinLaw", "expected", "(II)Z"⟩ : MethodName)) (pc := 53) (Ls := #[.val (.int p1), .val (.int p2), .val (.ref b1), .val (.int (2 : Int32)), .val (.int (4 : Int32)), .unset]) (st := [(.int (4 : Int32)), (.int (2 : Int32))]) hown (hw _ (List.mem_of_getElem? (i := 15) rfl)) (hw _ (List.mem_of_getElem? (i := 16) rfl)) (hw _ (List.mem_of_getElem? (i := 17) rfl)) (hw _ (List.mem_of_getElem? (i := 18) rfl)) (by decide) (rm_expected l Z a0 hw (2 : Int32) (4 : Int32) h11 n0 Z11 ) e11 pd_0 (hb hby at_53) (by rw [hml]; rfl) (argsL := [(.int (2 : Int32)), (.int (4 : Int32))]) (rest := []) rfl rfl rfl (W := 0) (Nat.le_of_eq rfl) (by decide) (by decide) (by decide) (by decide)
      obtain ⟨rfl, M72, e72⟩ := q72
      have N72 := Fr.app N11 M72
      have r72 : (f_expected (2 : Int32) (4 : Int32)) = (0 : Int32) := by rw [f_expected, if_neg ((by decide) : ¬ ((2 : Int32) = (4 : Int32))), if_neg ((by decide) : ¬ ((2 : Int32) = (4 : Int32))), if_neg ((by decide) : ¬ ((4 : Int32) = (0 : Int32))), if_neg ((by decide) : ¬ ((2 : Int32) = (3 : Int32)))]
      rw [r72] at st72
      refine Go.mp st72 ?_
      show Go p e below (T72.setTop (mkF m 56 #[.val (.int p1), .val (.int p2), .val (.ref b1), .val (.int (2 : Int32)), .val (.int (4 : Int32)), .unset] [(.int (0 : Int32))])) _
      refine g_istore X72 hx #[.val (.int p1), .val (.int p2), .val (.ref b1), .val (.int (2 : Int32)), .val (.int (4 : Int32)), .val (.int (0 : Int32))] (hb hby at_56) rfl ?_
      refine g_aloadN X72 hx (hb hby at_58) rfl rfl ?_
      refine g_iloadN X72 hx (hb hby at_59) rfl ?_
      obtain ⟨cl73, Ar73, -, sz73, -, Ha73, -⟩ := id V_b1_11
      have hin73 : ¬ ((2 : Int32) < 0 ∨ cl73.slots.size ≤ (2 : Int32).toNatClampNeg) := by rw [sz73]; decide
      have hat73 : cl73.slots[(2 : Int32).toNatClampNeg]? = some (.ref w_S) := Ha73 2 (by rw [sz73]; decide)
      refine Go.mp (fun _ k => X72.aaload hx (j := 2) (v := (.ref w_S)) (by rw [e72]; exact Ar73.1) (State.isArrayOf_alike hZ.alike Ar73.2.1) rfl Ar73.2.2 hin73 hat73 (g := (mkF m 60 #[.val (.int p1), .val (.int p2), .val (.ref b1), .val (.int (2 : Int32)), .val (.int (4 : Int32)), .val (.int (0 : Int32))] [(.int (2 : Int32)), (.ref b1)])) rfl rfl (hb hby at_60) _ k) ?_
      show Go p e below (T72.setTop (mkF m 61 #[.val (.int p1), .val (.int p2), .val (.ref b1), .val (.int (2 : Int32)), .val (.int (4 : Int32)), .val (.int (0 : Int32))] [(.ref w_S)])) _
      refine g_aloadN X72 hx (hb hby at_61) rfl rfl ?_
      refine g_iload X72 hx (hb hby at_62) rfl ?_
      obtain ⟨cl74, Ar74, -, sz74, -, Ha74, -⟩ := id V_b1_11
      have hin74 : ¬ ((4 : Int32) < 0 ∨ cl74.slots.size ≤ (4 : Int32).toNatClampNeg) := by rw [sz74]; decide
      have hat74 : cl74.slots[(4 : Int32).toNatClampNeg]? = some (.ref w_X) := Ha74 4 (by rw [sz74]; decide)
      refine Go.mp (fun _ k => X72.aaload hx (j := 4) (v := (.ref w_X)) (by rw [e72]; exact Ar74.1) (State.isArrayOf_alike hZ.alike Ar74.2.1) rfl Ar74.2.2 hin74 hat74 (g := (mkF m 64 #[.val (.int p1), .val (.int p2), .val (.ref b1), .val (.int (2 : Int32)), .val (.int (4 : Int32)), .val (.int (0 : Int32))] [(.int (4 : Int32)), (.ref b1), (.ref w_S)])) rfl rfl (hb hby at_64) _ k) ?_
      show Go p e below (T72.setTop (mkF m 65 #[.val (.int p1), .val (.int p2), .val (.ref b1), .val (.int (2 : Int32)), .val (.int (4 : Int32)), .val (.int (0 : Int32))] [(.ref w_X), (.ref w_S)])) _
      obtain ⟨v75, T75, L75, X75, q75, st75⟩ := own_callV X72 hx hZ (y := (⟨"com/example/wombat/wombat/LockMode", "covers", "(Lcom/example/wombat/wombat/LockMode;)Z"⟩ : MethodName)) (pc := 65) (Ls := #[.val (.int p1), .val (.int p2), .val (.ref b1), .val (.int (2 : Int32)), .val (.int (4 : Int32)), .val (.int (0 : Int32))]) (st := [(.ref w_X), (.ref w_S)]) hown (hw _ (List.mem_of_getElem? (i := 19) rfl)) (hw _ (List.mem_of_getElem? (i := 20) rfl)) (hw _ (List.mem_of_getElem? (i := 22) rfl)) (hw _ (List.mem_of_getElem? (i := 21) rfl)) (hw _ (List.mem_of_getElem? (i := 23) rfl)) (hw _ (List.mem_of_getElem? (i := 3) rfl)) (by decide) (rm_covers l Z a0 hw w_S w_X (5 : Int32) (0 : Int32) h11 n0 Z11 F_w_S_compatible_11 F_w_X_compatible_11) e72 E_w_S_11 pd_1 (hb hby at_65) (by rw [hml]; rfl) (argsL := [(.ref w_X)]) (rest := []) rfl rfl rfl (W := 0) (Nat.le_of_eq rfl) (by decide) (by decide) (by decide) (by decide)
      obtain ⟨rfl, M75, e75⟩ := q75
      have N75 := Fr.app N72 M75
      have r75 : (f_covers w_S w_X (5 : Int32) (0 : Int32)) = (0 : Int32) := by rw [f_covers, if_neg ((by decide) : ¬ (((5 : Int32) &&& ((0 : Int32) ^^^ (-1 : Int32))) = (0 : Int32)))]
      rw [r75] at st75
      refine Go.mp st75 ?_
      show Go p e below (T75.setTop (mkF m 68 #[.val (.int p1), .val (.int p2), .val (.ref b1), .val (.int (2 : Int32)), .val (.int (4 : Int32)), .val (.int (0 : Int32))] [(.int (0 : Int32))])) _
      refine g_iload X75 hx (hb hby at_68) rfl ?_
      refine g_icmpNo X75 hx (hb hby at_70) (teq ((by decide) : (0 : Int32) = (0 : Int32))).2 ?_
      refine g_iconst X75 hx (1 : Int32) (hb hby at_73) (by decide) ?_
      refine g_goto X75 hx 78 (hb hby at_74) (by decide) (by decide) ?_
      exact own_retZ X75 hx hret hlk (hb hby at_78) (by decide) (by decide) (by decide) ⟨rfl, N75⟩
  · rw [q12]
    refine g_istoreN X11 hx #[.val (.int p1), .val (.int p2), .val (.ref b1), .val (.int (3 : Int32)), .unset, .unset] (hb hby at_41) rfl ?_
    refine g_iloadN X11 hx (hb hby at_42) rfl ?_
    refine Go.mp (fun _ k => X11.ldcInt hx hown (mvT hZ (hw _ (List.mem_of_getElem? (i := 14) rfl))) (g := (mkF m 43 #[.val (.int p1), .val (.int p2), .val (.ref b1), .val (.int (3 : Int32)), .unset, .unset] [(.int p2)])) rfl (hb hby at_43) _ k) ?_
    show Go p e below (T11.setTop (mkF m 45 #[.val (.int p1), .val (.int p2), .val (.ref b1), .val (.int (3 : Int32)), .unset, .unset] [(.int (2147483647 : Int32)), (.int p2)])) _
    refine g_iand X11 hx (hb hby at_45) ?_
    refine g_iconst X11 hx (5 : Int32) (hb hby at_46) (by decide) ?_
    refine g_irem X11 hx (hb hby at_47) (by decide) ?_
    show Go p e below (T11.setTop (mkF m 48 #[.val (.int p1), .val (.int p2), .val (.ref b1), .val (.int (3 : Int32)), .unset, .unset] [(.int ((p2 &&& (2147483647 : Int32)) % (5 : Int32)))])) _
    rcases own_mod5 p2 with q76 | q76 | q76 | q76 | q76
    · rw [q76]
      refine g_istore X11 hx #[.val (.int p1), .val (.int p2), .val (.ref b1), .val (.int (3 : Int32)), .val (.int (0 : Int32)), .unset] (hb hby at_48) rfl ?_
      refine g_iloadN X11 hx (hb hby at_50) rfl ?_
      refine g_iload X11 hx (hb hby at_51) rfl ?_
      obtain ⟨v77, T77, L77, X77, q77, st77⟩ := own_callS X11 hx hZ (y := (⟨"com/example/wombat/wombat/LockModeCoversPinLaw", "expected", "(II)Z"⟩ : MethodName)) (pc := 53) (Ls := #[.val (.int p1), .val (.int p2), .val (.ref b1), .val (.int (3 : Int32)), .val (.int (0 : Int32)), .unset]) (st := [(.int (0 : Int32)), (.int (3 : Int32))]) hown (hw _ (List.mem_of_getElem? (i := 15) rfl)) (hw _ (List.mem_of_getElem? (i := 16) rfl)) (hw _ (List.mem_of_getElem? (i := 17) rfl)) (hw _ (List.mem_of_getElem? (i := 18) rfl)) (by decide) (rm_expected l Z a0 hw (3 : Int32) (0 : Int32) h11 n0 Z11 ) e11 pd_0 (hb hby at_53) (by rw [hml]; rfl) (argsL := [(.int (3 : Int32)), (.int (0 : Int32))]) (rest := []) rfl rfl rfl (W := 0) (Nat.le_of_eq rfl) (by decide) (by decide) (by decide) (by decide)
      obtain ⟨rfl, M77, e77⟩ := q77
      have N77 := Fr.app N11 M77
      have r77 : (f_expected (3 : Int32) (0 : Int32)) = (1 : Int32) := by rw [f_expected, if_neg ((by decide) : ¬ ((3 : Int32) = (0 : Int32))), if_neg ((by decide) : ¬ ((3 : Int32) = (4 : Int32))), if_pos ((by decide) : (0 : Int32) = (0 : Int32))]
      rw [r77] at st77
      refine Go.mp st77 ?_
      show Go p e below (T77.setTop (mkF m 56 #[.val (.int p1), .val (.int p2), .val (.ref b1), .val (.int (3 : Int32)), .val (.int (0 : Int32)), .unset] [(.int (1 : Int32))])) _
      refine g_istore X77 hx #[.val (.int p1), .val (.int p2), .val (.ref b1), .val (.int (3 : Int32)), .val (.int (0 : Int32)), .val (.int (1 : Int32))] (hb hby at_56) rfl ?_
      refine g_aloadN X77 hx (hb hby at_58) rfl rfl ?_
      refine g_iloadN X77 hx (hb hby at_59) rfl ?_
      obtain ⟨cl78, Ar78, -, sz78, -, Ha78, -⟩ := id V_b1_11
      have hin78 : ¬ ((3 : Int32) < 0 ∨ cl78.slots.size ≤ (3 : Int32).toNatClampNeg) := by rw [sz78]; decide
      have hat78 : cl78.slots[(3 : Int32).toNatClampNeg]? = some (.ref w_SIX) := Ha78 3 (by rw [sz78]; decide)
      refine Go.mp (fun _ k => X77.aaload hx (j := 3) (v := (.ref w_SIX)) (by rw [e77]; exact Ar78.1) (State.isArrayOf_alike hZ.alike Ar78.2.1) rfl Ar78.2.2 hin78 hat78 (g := (mkF m 60 #[.val (.int p1), .val (.int p2), .val (.ref b1), .val (.int (3 : Int32)), .val (.int (0 : Int32)), .val (.int (1 : Int32))] [(.int (3 : Int32)), (.ref b1)])) rfl rfl (hb hby at_60) _ k) ?_
      show Go p e below (T77.setTop (mkF m 61 #[.val (.int p1), .val (.int p2), .val (.ref b1), .val (.int (3 : Int32)), .val (.int (0 : Int32)), .val (.int (1 : Int32))] [(.ref w_SIX)])) _
      refine g_aloadN X77 hx (hb hby at_61) rfl rfl ?_
      refine g_iload X77 hx (hb hby at_62) rfl ?_
      obtain ⟨cl79, Ar79, -, sz79, -, Ha79, -⟩ := id V_b1_11
      have hin79 : ¬ ((0 : Int32) < 0 ∨ cl79.slots.size ≤ (0 : Int32).toNatClampNeg) := by rw [sz79]; decide
      have hat79 : cl79.slots[(0 : Int32).toNatClampNeg]? = some (.ref w_IS) := Ha79 0 (by rw [sz79]; decide)
      refine Go.mp (fun _ k => X77.aaload hx (j := 0) (v := (.ref w_IS)) (by rw [e77]; exact Ar79.1) (State.isArrayOf_alike hZ.alike Ar79.2.1) rfl Ar79.2.2 hin79 hat79 (g := (mkF m 64 #[.val (.int p1), .val (.int p2), .val (.ref b1), .val (.int (3 : Int32)), .val (.int (0 : Int32)), .val (.int (1 : Int32))] [(.int (0 : Int32)), (.ref b1), (.ref w_SIX)])) rfl rfl (hb hby at_64) _ k) ?_
      show Go p e below (T77.setTop (mkF m 65 #[.val (.int p1), .val (.int p2), .val (.ref b1), .val (.int (3 : Int32)), .val (.int (0 : Int32)), .val (.int (1 : Int32))] [(.ref w_IS), (.ref w_SIX)])) _
      obtain ⟨v80, T80, L80, X80, q80, st80⟩ := own_callV X77 hx hZ (y := (⟨"com/example/wombat/wombat/LockMode", "covers", "(Lcom/example/wombat/wombat/LockMode;)Z"⟩ : MethodName)) (pc := 65) (Ls := #[.val (.int p1), .val (.int p2), .val (.ref b1), .val (.int (3 : Int32)), .val (.int (0 : Int32)), .val (.int (1 : Int32))]) (st := [(.ref w_IS), (.ref w_SIX)]) hown (hw _ (List.mem_of_getElem? (i := 19) rfl)) (hw _ (List.mem_of_getElem? (i := 20) rfl)) (hw _ (List.mem_of_getElem? (i := 22) rfl)) (hw _ (List.mem_of_getElem? (i := 21) rfl)) (hw _ (List.mem_of_getElem? (i := 23) rfl)) (hw _ (List.mem_of_getElem? (i := 3) rfl)) (by decide) (rm_covers l Z a0 hw w_SIX w_IS (1 : Int32) (15 : Int32) h11 n0 Z11 F_w_SIX_compatible_11 F_w_IS_compatible_11) e77 E_w_SIX_11 pd_1 (hb hby at_65) (by rw [hml]; rfl) (argsL := [(.ref w_IS)]) (rest := []) rfl rfl rfl (W := 0) (Nat.le_of_eq rfl) (by decide) (by decide) (by decide) (by decide)
      obtain ⟨rfl, M80, e80⟩ := q80
      have N80 := Fr.app N77 M80
      have r80 : (f_covers w_SIX w_IS (1 : Int32) (15 : Int32)) = (1 : Int32) := by rw [f_covers, if_pos ((by decide) : ((1 : Int32) &&& ((15 : Int32) ^^^ (-1 : Int32))) = (0 : Int32))]
      rw [r80] at st80
      refine Go.mp st80 ?_
      show Go p e below (T80.setTop (mkF m 68 #[.val (.int p1), .val (.int p2), .val (.ref b1), .val (.int (3 : Int32)), .val (.int (0 : Int32)), .val (.int (1 : Int32))] [(.int (1 : Int32))])) _
      refine g_iload X80 hx (hb hby at_68) rfl ?_
      refine g_icmpNo X80 hx (hb hby at_70) (teq ((by decide) : (1 : Int32) = (1 : Int32))).2 ?_
      refine g_iconst X80 hx (1 : Int32) (hb hby at_73) (by decide) ?_
      refine g_goto X80 hx 78 (hb hby at_74) (by decide) (by decide) ?_
      exact own_retZ X80 hx hret hlk (hb hby at_78) (by decide) (by decide) (by decide) ⟨rfl, N80⟩
    · rw [q76]
      refine g_istore X11 hx #[.val (.int p1), .val (.int p2), .val (.ref b1), .val (.int (3 : Int32)), .val (.int (1 : Int32)), .unset] (hb hby at_48) rfl ?_
      refine g_iloadN X11 hx (hb hby at_50) rfl ?_
      refine g_iload X11 hx (hb hby at_51) rfl ?_
      obtain ⟨v81, T81, L81, X81, q81, st81⟩ := own_callS X11 hx hZ (y := (⟨"com/example/wombat/wombat/LockModeCoversPinLaw", "expected", "(II)Z"⟩ : MethodName)) (pc := 53) (Ls := #[.val (.int p1), .val (.int p2), .val (.ref b1), .val (.int (3 : Int32)), .val (.int (1 : Int32)), .unset]) (st := [(.int (1 : Int32)), (.int (3 : Int32))]) hown (hw _ (List.mem_of_getElem? (i := 15) rfl)) (hw _ (List.mem_of_getElem? (i := 16) rfl)) (hw _ (List.mem_of_getElem? (i := 17) rfl)) (hw _ (List.mem_of_getElem? (i := 18) rfl)) (by decide) (rm_expected l Z a0 hw (3 : Int32) (1 : Int32) h11 n0 Z11 ) e11 pd_0 (hb hby at_53) (by rw [hml]; rfl) (argsL := [(.int (3 : Int32)), (.int (1 : Int32))]) (rest := []) rfl rfl rfl (W := 0) (Nat.le_of_eq rfl) (by decide) (by decide) (by decide) (by decide)
      obtain ⟨rfl, M81, e81⟩ := q81
      have N81 := Fr.app N11 M81
      have r81 : (f_expected (3 : Int32) (1 : Int32)) = (1 : Int32) := by rw [f_expected, if_neg ((by decide) : ¬ ((3 : Int32) = (1 : Int32))), if_neg ((by decide) : ¬ ((3 : Int32) = (4 : Int32))), if_neg ((by decide) : ¬ ((1 : Int32) = (0 : Int32))), if_pos ((by decide) : (3 : Int32) = (3 : Int32)), if_neg ((by decide) : ¬ ((1 : Int32) = (4 : Int32)))]
      rw [r81] at st81
      refine Go.mp st81 ?_
      show Go p e below (T81.setTop (mkF m 56 #[.val (.int p1), .val (.int p2), .val (.ref b1), .val (.int (3 : Int32)), .val (.int (1 : Int32)), .unset] [(.int (1 : Int32))])) _
      refine g_istore X81 hx #[.val (.int p1), .val (.int p2), .val (.ref b1), .val (.int (3 : Int32)), .val (.int (1 : Int32)), .val (.int (1 : Int32))] (hb hby at_56) rfl ?_
      refine g_aloadN X81 hx (hb hby at_58) rfl rfl ?_
      refine g_iloadN X81 hx (hb hby at_59) rfl ?_
      obtain ⟨cl82, Ar82, -, sz82, -, Ha82, -⟩ := id V_b1_11
      have hin82 : ¬ ((3 : Int32) < 0 ∨ cl82.slots.size ≤ (3 : Int32).toNatClampNeg) := by rw [sz82]; decide
      have hat82 : cl82.slots[(3 : Int32).toNatClampNeg]? = some (.ref w_SIX) := Ha82 3 (by rw [sz82]; decide)
      refine Go.mp (fun _ k => X81.aaload hx (j := 3) (v := (.ref w_SIX)) (by rw [e81]; exact Ar82.1) (State.isArrayOf_alike hZ.alike Ar82.2.1) rfl Ar82.2.2 hin82 hat82 (g := (mkF m 60 #[.val (.int p1), .val (.int p2), .val (.ref b1), .val (.int (3 : Int32)), .val (.int (1 : Int32)), .val (.int (1 : Int32))] [(.int (3 : Int32)), (.ref b1)])) rfl rfl (hb hby at_60) _ k) ?_
      show Go p e below (T81.setTop (mkF m 61 #[.val (.int p1), .val (.int p2), .val (.ref b1), .val (.int (3 : Int32)), .val (.int (1 : Int32)), .val (.int (1 : Int32))] [(.ref w_SIX)])) _
      refine g_aloadN X81 hx (hb hby at_61) rfl rfl ?_
      refine g_iload X81 hx (hb hby at_62) rfl ?_
      obtain ⟨cl83, Ar83, -, sz83, -, Ha83, -⟩ := id V_b1_11
      have hin83 : ¬ ((1 : Int32) < 0 ∨ cl83.slots.size ≤ (1 : Int32).toNatClampNeg) := by rw [sz83]; decide
      have hat83 : cl83.slots[(1 : Int32).toNatClampNeg]? = some (.ref w_IX) := Ha83 1 (by rw [sz83]; decide)
      refine Go.mp (fun _ k => X81.aaload hx (j := 1) (v := (.ref w_IX)) (by rw [e81]; exact Ar83.1) (State.isArrayOf_alike hZ.alike Ar83.2.1) rfl Ar83.2.2 hin83 hat83 (g := (mkF m 64 #[.val (.int p1), .val (.int p2), .val (.ref b1), .val (.int (3 : Int32)), .val (.int (1 : Int32)), .val (.int (1 : Int32))] [(.int (1 : Int32)), (.ref b1), (.ref w_SIX)])) rfl rfl (hb hby at_64) _ k) ?_
      show Go p e below (T81.setTop (mkF m 65 #[.val (.int p1), .val (.int p2), .val (.ref b1), .val (.int (3 : Int32)), .val (.int (1 : Int32)), .val (.int (1 : Int32))] [(.ref w_IX), (.ref w_SIX)])) _
      obtain ⟨v84, T84, L84, X84, q84, st84⟩ := own_callV X81 hx hZ (y := (⟨"com/example/wombat/wombat/LockMode", "covers", "(Lcom/example/wombat/wombat/LockMode;)Z"⟩ : MethodName)) (pc := 65) (Ls := #[.val (.int p1), .val (.int p2), .val (.ref b1), .val (.int (3 : Int32)), .val (.int (1 : Int32)), .val (.int (1 : Int32))]) (st := [(.ref w_IX), (.ref w_SIX)]) hown (hw _ (List.mem_of_getElem? (i := 19) rfl)) (hw _ (List.mem_of_getElem? (i := 20) rfl)) (hw _ (List.mem_of_getElem? (i := 22) rfl)) (hw _ (List.mem_of_getElem? (i := 21) rfl)) (hw _ (List.mem_of_getElem? (i := 23) rfl)) (hw _ (List.mem_of_getElem? (i := 3) rfl)) (by decide) (rm_covers l Z a0 hw w_SIX w_IX (1 : Int32) (3 : Int32) h11 n0 Z11 F_w_SIX_compatible_11 F_w_IX_compatible_11) e81 E_w_SIX_11 pd_1 (hb hby at_65) (by rw [hml]; rfl) (argsL := [(.ref w_IX)]) (rest := []) rfl rfl rfl (W := 0) (Nat.le_of_eq rfl) (by decide) (by decide) (by decide) (by decide)
      obtain ⟨rfl, M84, e84⟩ := q84
      have N84 := Fr.app N81 M84
      have r84 : (f_covers w_SIX w_IX (1 : Int32) (3 : Int32)) = (1 : Int32) := by rw [f_covers, if_pos ((by decide) : ((1 : Int32) &&& ((3 : Int32) ^^^ (-1 : Int32))) = (0 : Int32))]
      rw [r84] at st84
      refine Go.mp st84 ?_
      show Go p e below (T84.setTop (mkF m 68 #[.val (.int p1), .val (.int p2), .val (.ref b1), .val (.int (3 : Int32)), .val (.int (1 : Int32)), .val (.int (1 : Int32))] [(.int (1 : Int32))])) _
      refine g_iload X84 hx (hb hby at_68) rfl ?_
      refine g_icmpNo X84 hx (hb hby at_70) (teq ((by decide) : (1 : Int32) = (1 : Int32))).2 ?_
      refine g_iconst X84 hx (1 : Int32) (hb hby at_73) (by decide) ?_
      refine g_goto X84 hx 78 (hb hby at_74) (by decide) (by decide) ?_
      exact own_retZ X84 hx hret hlk (hb hby at_78) (by decide) (by decide) (by decide) ⟨rfl, N84⟩
    · rw [q76]
      refine g_istore X11 hx #[.val (.int p1), .val (.int p2), .val (.ref b1), .val (.int (3 : Int32)), .val (.int (2 : Int32)), .unset] (hb hby at_48) rfl ?_
      refine g_iloadN X11 hx (hb hby at_50) rfl ?_
      refine g_iload X11 hx (hb hby at_51) rfl ?_
      obtain ⟨v85, T85, L85, X85, q85, st85⟩ := own_callS X11 hx hZ (y := (⟨"com/example/wombat/wombat/LockModeCoversPinLaw", "expected", "(II)Z"⟩ : MethodName)) (pc := 53) (Ls := #[.val (.int p1), .val (.int p2), .val (.ref b1), .val (.int (3 : Int32)), .val (.int (2 : Int32)), .unset]) (st := [(.int (2 : Int32)), (.int (3 : Int32))]) hown (hw _ (List.mem_of_getElem? (i := 15) rfl)) (hw _ (List.mem_of_getElem? (i := 16) rfl)) (hw _ (List.mem_of_getElem? (i := 17) rfl)) (hw _ (List.mem_of_getElem? (i := 18) rfl)) (by decide) (rm_expected l Z a0 hw (3 : Int32) (2 : Int32) h11 n0 Z11 ) e11 pd_0 (hb hby at_53) (by rw [hml]; rfl) (argsL := [(.int (3 : Int32)), (.int (2 : Int32))]) (rest := []) rfl rfl rfl (W := 0) (Nat.le_of_eq rfl) (by decide) (by decide) (by decide) (by decide)
      obtain ⟨rfl, M85, e85⟩ := q85
      have N85 := Fr.app N11 M85
      have r85 : (f_expected (3 : Int32) (2 : Int32)) = (1 : Int32) := by rw [f_expected, if_neg ((by decide) : ¬ ((3 : Int32) = (2 : Int32))), if_neg ((by decide) : ¬ ((3 : Int32) = (4 : Int32))), if_neg ((by decide) : ¬ ((2 : Int32) = (0 : Int32))), if_pos ((by decide) : (3 : Int32) = (3 : Int32)), if_neg ((by decide) : ¬ ((2 : Int32) = (4 : Int32)))]
      rw [r85] at st85
      refine Go.mp st85 ?_
      show Go p e below (T85.setTop (mkF m 56 #[.val (.int p1), .val (.int p2), .val (.ref b1), .val (.int (3 : Int32)), .val (.int (2 : Int32)), .unset] [(.int (1 : Int32))])) _
      refine g_istore X85 hx #[.val (.int p1), .val (.int p2), .val (.ref b1), .val (.int (3 : Int32)), .val (.int (2 : Int32)), .val (.int (1 : Int32))] (hb hby at_56) rfl ?_
      refine g_aloadN X85 hx (hb hby at_58) rfl rfl ?_
      refine g_iloadN X85 hx (hb hby at_59) rfl ?_
      obtain ⟨cl86, Ar86, -, sz86, -, Ha86, -⟩ := id V_b1_11
      have hin86 : ¬ ((3 : Int32) < 0 ∨ cl86.slots.size ≤ (3 : Int32).toNatClampNeg) := by rw [sz86]; decide
      have hat86 : cl86.slots[(3 : Int32).toNatClampNeg]? = some (.ref w_SIX) := Ha86 3 (by rw [sz86]; decide)
      refine Go.mp (fun _ k => X85.aaload hx (j := 3) (v := (.ref w_SIX)) (by rw [e85]; exact Ar86.1) (State.isArrayOf_alike hZ.alike Ar86.2.1) rfl Ar86.2.2 hin86 hat86 (g := (mkF m 60 #[.val (.int p1), .val (.int p2), .val (.ref b1), .val (.int (3 : Int32)), .val (.int (2 : Int32)), .val (.int (1 : Int32))] [(.int (3 : Int32)), (.ref b1)])) rfl rfl (hb hby at_60) _ k) ?_
      show Go p e below (T85.setTop (mkF m 61 #[.val (.int p1), .val (.int p2), .val (.ref b1), .val (.int (3 : Int32)), .val (.int (2 : Int32)), .val (.int (1 : Int32))] [(.ref w_SIX)])) _
      refine g_aloadN X85 hx (hb hby at_61) rfl rfl ?_
      refine g_iload X85 hx (hb hby at_62) rfl ?_
      obtain ⟨cl87, Ar87, -, sz87, -, Ha87, -⟩ := id V_b1_11
      have hin87 : ¬ ((2 : Int32) < 0 ∨ cl87.slots.size ≤ (2 : Int32).toNatClampNeg) := by rw [sz87]; decide
      have hat87 : cl87.slots[(2 : Int32).toNatClampNeg]? = some (.ref w_S) := Ha87 2 (by rw [sz87]; decide)
      refine Go.mp (fun _ k => X85.aaload hx (j := 2) (v := (.ref w_S)) (by rw [e85]; exact Ar87.1) (State.isArrayOf_alike hZ.alike Ar87.2.1) rfl Ar87.2.2 hin87 hat87 (g := (mkF m 64 #[.val (.int p1), .val (.int p2), .val (.ref b1), .val (.int (3 : Int32)), .val (.int (2 : Int32)), .val (.int (1 : Int32))] [(.int (2 : Int32)), (.ref b1), (.ref w_SIX)])) rfl rfl (hb hby at_64) _ k) ?_
      show Go p e below (T85.setTop (mkF m 65 #[.val (.int p1), .val (.int p2), .val (.ref b1), .val (.int (3 : Int32)), .val (.int (2 : Int32)), .val (.int (1 : Int32))] [(.ref w_S), (.ref w_SIX)])) _
      obtain ⟨v88, T88, L88, X88, q88, st88⟩ := own_callV X85 hx hZ (y := (⟨"com/example/wombat/wombat/LockMode", "covers", "(Lcom/example/wombat/wombat/LockMode;)Z"⟩ : MethodName)) (pc := 65) (Ls := #[.val (.int p1), .val (.int p2), .val (.ref b1), .val (.int (3 : Int32)), .val (.int (2 : Int32)), .val (.int (1 : Int32))]) (st := [(.ref w_S), (.ref w_SIX)]) hown (hw _ (List.mem_of_getElem? (i := 19) rfl)) (hw _ (List.mem_of_getElem? (i := 20) rfl)) (hw _ (List.mem_of_getElem? (i := 22) rfl)) (hw _ (List.mem_of_getElem? (i := 21) rfl)) (hw _ (List.mem_of_getElem? (i := 23) rfl)) (hw _ (List.mem_of_getElem? (i := 3) rfl)) (by decide) (rm_covers l Z a0 hw w_SIX w_S (1 : Int32) (5 : Int32) h11 n0 Z11 F_w_SIX_compatible_11 F_w_S_compatible_11) e85 E_w_SIX_11 pd_1 (hb hby at_65) (by rw [hml]; rfl) (argsL := [(.ref w_S)]) (rest := []) rfl rfl rfl (W := 0) (Nat.le_of_eq rfl) (by decide) (by decide) (by decide) (by decide)
      obtain ⟨rfl, M88, e88⟩ := q88
      have N88 := Fr.app N85 M88
      have r88 : (f_covers w_SIX w_S (1 : Int32) (5 : Int32)) = (1 : Int32) := by rw [f_covers, if_pos ((by decide) : ((1 : Int32) &&& ((5 : Int32) ^^^ (-1 : Int32))) = (0 : Int32))]
      rw [r88] at st88
      refine Go.mp st88 ?_
      show Go p e below (T88.setTop (mkF m 68 #[.val (.int p1), .val (.int p2), .val (.ref b1), .val (.int (3 : Int32)), .val (.int (2 : Int32)), .val (.int (1 : Int32))] [(.int (1 : Int32))])) _
      refine g_iload X88 hx (hb hby at_68) rfl ?_
      refine g_icmpNo X88 hx (hb hby at_70) (teq ((by decide) : (1 : Int32) = (1 : Int32))).2 ?_
      refine g_iconst X88 hx (1 : Int32) (hb hby at_73) (by decide) ?_
      refine g_goto X88 hx 78 (hb hby at_74) (by decide) (by decide) ?_
      exact own_retZ X88 hx hret hlk (hb hby at_78) (by decide) (by decide) (by decide) ⟨rfl, N88⟩
    · rw [q76]
      refine g_istore X11 hx #[.val (.int p1), .val (.int p2), .val (.ref b1), .val (.int (3 : Int32)), .val (.int (3 : Int32)), .unset] (hb hby at_48) rfl ?_
      refine g_iloadN X11 hx (hb hby at_50) rfl ?_
      refine g_iload X11 hx (hb hby at_51) rfl ?_
      obtain ⟨v89, T89, L89, X89, q89, st89⟩ := own_callS X11 hx hZ (y := (⟨"com/example/wombat/wombat/LockModeCoversPinLaw", "expected", "(II)Z"⟩ : MethodName)) (pc := 53) (Ls := #[.val (.int p1), .val (.int p2), .val (.ref b1), .val (.int (3 : Int32)), .val (.int (3 : Int32)), .unset]) (st := [(.int (3 : Int32)), (.int (3 : Int32))]) hown (hw _ (List.mem_of_getElem? (i := 15) rfl)) (hw _ (List.mem_of_getElem? (i := 16) rfl)) (hw _ (List.mem_of_getElem? (i := 17) rfl)) (hw _ (List.mem_of_getElem? (i := 18) rfl)) (by decide) (rm_expected l Z a0 hw (3 : Int32) (3 : Int32) h11 n0 Z11 ) e11 pd_0 (hb hby at_53) (by rw [hml]; rfl) (argsL := [(.int (3 : Int32)), (.int (3 : Int32))]) (rest := []) rfl rfl rfl (W := 0) (Nat.le_of_eq rfl) (by decide) (by decide) (by decide) (by decide)
      obtain ⟨rfl, M89, e89⟩ := q89
      have N89 := Fr.app N11 M89
      have r89 : (f_expected (3 : Int32) (3 : Int32)) = (1 : Int32) := by rw [f_expected, if_pos ((by decide) : (3 : Int32) = (3 : Int32))]
      rw [r89] at st89
      refine Go.mp st89 ?_
      show Go p e below (T89.setTop (mkF m 56 #[.val (.int p1), .val (.int p2), .val (.ref b1), .val (.int (3 : Int32)), .val (.int (3 : Int32)), .unset] [(.int (1 : Int32))])) _
      refine g_istore X89 hx #[.val (.int p1), .val (.int p2), .val (.ref b1), .val (.int (3 : Int32)), .val (.int (3 : Int32)), .val (.int (1 : Int32))] (hb hby at_56) rfl ?_
      refine g_aloadN X89 hx (hb hby at_58) rfl rfl ?_
      refine g_iloadN X89 hx (hb hby at_59) rfl ?_
      obtain ⟨cl90, Ar90, -, sz90, -, Ha90, -⟩ := id V_b1_11
      have hin90 : ¬ ((3 : Int32) < 0 ∨ cl90.slots.size ≤ (3 : Int32).toNatClampNeg) := by rw [sz90]; decide
      have hat90 : cl90.slots[(3 : Int32).toNatClampNeg]? = some (.ref w_SIX) := Ha90 3 (by rw [sz90]; decide)
      refine Go.mp (fun _ k => X89.aaload hx (j := 3) (v := (.ref w_SIX)) (by rw [e89]; exact Ar90.1) (State.isArrayOf_alike hZ.alike Ar90.2.1) rfl Ar90.2.2 hin90 hat90 (g := (mkF m 60 #[.val (.int p1), .val (.int p2), .val (.ref b1), .val (.int (3 : Int32)), .val (.int (3 : Int32)), .val (.int (1 : Int32))] [(.int (3 : Int32)), (.ref b1)])) rfl rfl (hb hby at_60) _ k) ?_
      show Go p e below (T89.setTop (mkF m 61 #[.val (.int p1), .val (.int p2), .val (.ref b1), .val (.int (3 : Int32)), .val (.int (3 : Int32)), .val (.int (1 : Int32))] [(.ref w_SIX)])) _
      refine g_aloadN X89 hx (hb hby at_61) rfl rfl ?_
      refine g_iload X89 hx (hb hby at_62) rfl ?_
      obtain ⟨cl91, Ar91, -, sz91, -, Ha91, -⟩ := id V_b1_11
      have hin91 : ¬ ((3 : Int32) < 0 ∨ cl91.slots.size ≤ (3 : Int32).toNatClampNeg) := by rw [sz91]; decide
      have hat91 : cl91.slots[(3 : Int32).toNatClampNeg]? = some (.ref w_SIX) := Ha91 3 (by rw [sz91]; decide)
      refine Go.mp (fun _ k => X89.aaload hx (j := 3) (v := (.ref w_SIX)) (by rw [e89]; exact Ar91.1) (State.isArrayOf_alike hZ.alike Ar91.2.1) rfl Ar91.2.2 hin91 hat91 (g := (mkF m 64 #[.val (.int p1), .val (.int p2), .val (.ref b1), .val (.int (3 : Int32)), .val (.int (3 : Int32)), .val (.int (1 : Int32))] [(.int (3 : Int32)), (.ref b1), (.ref w_SIX)])) rfl rfl (hb hby at_64) _ k) ?_
      show Go p e below (T89.setTop (mkF m 65 #[.val (.int p1), .val (.int p2), .val (.ref b1), .val (.int (3 : Int32)), .val (.int (3 : Int32)), .val (.int (1 : Int32))] [(.ref w_SIX), (.ref w_SIX)])) _
      obtain ⟨v92, T92, L92, X92, q92, st92⟩ := own_callV X89 hx hZ (y := (⟨"com/example/wombat/wombat/LockMode", "covers", "(Lcom/example/wombat/wombat/LockMode;)Z"⟩ : MethodName)) (pc := 65) (Ls := #[.val (.int p1), .val (.int p2), .val (.ref b1), .val (.int (3 : Int32)), .val (.int (3 : Int32)), .val (.int (1 : Int32))]) (st := [(.ref w_SIX), (.ref w_SIX)]) hown (hw _ (List.mem_of_getElem? (i := 19) rfl)) (hw _ (List.mem_of_getElem? (i := 20) rfl)) (hw _ (List.mem_of_getElem? (i := 22) rfl)) (hw _ (List.mem_of_getElem? (i := 21) rfl)) (hw _ (List.mem_of_getElem? (i := 23) rfl)) (hw _ (List.mem_of_getElem? (i := 3) rfl)) (by decide) (rm_covers l Z a0 hw w_SIX w_SIX (1 : Int32) (1 : Int32) h11 n0 Z11 F_w_SIX_compatible_11 F_w_SIX_compatible_11) e89 E_w_SIX_11 pd_1 (hb hby at_65) (by rw [hml]; rfl) (argsL := [(.ref w_SIX)]) (rest := []) rfl rfl rfl (W := 0) (Nat.le_of_eq rfl) (by decide) (by decide) (by decide) (by decide)
      obtain ⟨rfl, M92, e92⟩ := q92
      have N92 := Fr.app N89 M92
      have r92 : (f_covers w_SIX w_SIX (1 : Int32) (1 : Int32)) = (1 : Int32) := by rw [f_covers, if_pos ((by decide) : ((1 : Int32) &&& ((1 : Int32) ^^^ (-1 : Int32))) = (0 : Int32))]
      rw [r92] at st92
      refine Go.mp st92 ?_
      show Go p e below (T92.setTop (mkF m 68 #[.val (.int p1), .val (.int p2), .val (.ref b1), .val (.int (3 : Int32)), .val (.int (3 : Int32)), .val (.int (1 : Int32))] [(.int (1 : Int32))])) _
      refine g_iload X92 hx (hb hby at_68) rfl ?_
      refine g_icmpNo X92 hx (hb hby at_70) (teq ((by decide) : (1 : Int32) = (1 : Int32))).2 ?_
      refine g_iconst X92 hx (1 : Int32) (hb hby at_73) (by decide) ?_
      refine g_goto X92 hx 78 (hb hby at_74) (by decide) (by decide) ?_
      exact own_retZ X92 hx hret hlk (hb hby at_78) (by decide) (by decide) (by decide) ⟨rfl, N92⟩
    · rw [q76]
      refine g_istore X11 hx #[.val (.int p1), .val (.int p2), .val (.ref b1), .val (.int (3 : Int32)), .val (.int (4 : Int32)), .unset] (hb hby at_48) rfl ?_
      refine g_iloadN X11 hx (hb hby at_50) rfl ?_
      refine g_iload X11 hx (hb hby at_51) rfl ?_
      obtain ⟨v93, T93, L93, X93, q93, st93⟩ := own_callS X11 hx hZ (y := (⟨"com/example/wombat/wombat/LockModeCoversPinLaw", "expected", "(II)Z"⟩ : MethodName)) (pc := 53) (Ls := #[.val (.int p1), .val (.int p2), .val (.ref b1), .val (.int (3 : Int32)), .val (.int (4 : Int32)), .unset]) (st := [(.int (4 : Int32)), (.int (3 : Int32))]) hown (hw _ (List.mem_of_getElem? (i := 15) rfl)) (hw _ (List.mem_of_getElem? (i := 16) rfl)) (hw _ (List.mem_of_getElem? (i := 17) rfl)) (hw _ (List.mem_of_getElem? (i := 18) rfl)) (by decide) (rm_expected l Z a0 hw (3 : Int32) (4 : Int32) h11 n0 Z11 ) e11 pd_0 (hb hby at_53) (by rw [hml]; rfl) (argsL := [(.int (3 : Int32)), (.int (4 : Int32))]) (rest := []) rfl rfl rfl (W := 0) (Nat.le_of_eq rfl) (by decide) (by decide) (by decide) (by decide)
      obtain ⟨rfl, M93, e93⟩ := q93
      have N93 := Fr.app N11 M93
      have r93 : (f_expected (3 : Int32) (4 : Int32)) = (0 : Int32) := by rw [f_expected, if_neg ((by decide) : ¬ ((3 : Int32) = (4 : Int32))), if_neg ((by decide) : ¬ ((3 : Int32) = (4 : Int32))), if_neg ((by decide) : ¬ ((4 : Int32) = (0 : Int32))), if_pos ((by decide) : (3 : Int32) = (3 : Int32)), if_pos ((by decide) : (4 : Int32) = (4 : Int32))]
      rw [r93] at st93
      refine Go.mp st93 ?_
      show Go p e below (T93.setTop (mkF m 56 #[.val (.int p1), .val (.int p2), .val (.ref b1), .val (.int (3 : Int32)), .val (.int (4 : Int32)), .unset] [(.int (0 : Int32))])) _
      refine g_istore X93 hx #[.val (.int p1), .val (.int p2), .val (.ref b1), .val (.int (3 : Int32)), .val (.int (4 : Int32)), .val (.int (0 : Int32))] (hb hby at_56) rfl ?_
      refine g_aloadN X93 hx (hb hby at_58) rfl rfl ?_
      refine g_iloadN X93 hx (hb hby at_59) rfl ?_
      obtain ⟨cl94, Ar94, -, sz94, -, Ha94, -⟩ := id V_b1_11
      have hin94 : ¬ ((3 : Int32) < 0 ∨ cl94.slots.size ≤ (3 : Int32).toNatClampNeg) := by rw [sz94]; decide
      have hat94 : cl94.slots[(3 : Int32).toNatClampNeg]? = some (.ref w_SIX) := Ha94 3 (by rw [sz94]; decide)
      refine Go.mp (fun _ k => X93.aaload hx (j := 3) (v := (.ref w_SIX)) (by rw [e93]; exact Ar94.1) (State.isArrayOf_alike hZ.alike Ar94.2.1) rfl Ar94.2.2 hin94 hat94 (g := (mkF m 60 #[.val (.int p1), .val (.int p2), .val (.ref b1), .val (.int (3 : Int32)), .val (.int (4 : Int32)), .val (.int (0 : Int32))] [(.int (3 : Int32)), (.ref b1)])) rfl rfl (hb hby at_60) _ k) ?_
      show Go p e below (T93.setTop (mkF m 61 #[.val (.int p1), .val (.int p2), .val (.ref b1), .val (.int (3 : Int32)), .val (.int (4 : Int32)), .val (.int (0 : Int32))] [(.ref w_SIX)])) _
      refine g_aloadN X93 hx (hb hby at_61) rfl rfl ?_
      refine g_iload X93 hx (hb hby at_62) rfl ?_
      obtain ⟨cl95, Ar95, -, sz95, -, Ha95, -⟩ := id V_b1_11
      have hin95 : ¬ ((4 : Int32) < 0 ∨ cl95.slots.size ≤ (4 : Int32).toNatClampNeg) := by rw [sz95]; decide
      have hat95 : cl95.slots[(4 : Int32).toNatClampNeg]? = some (.ref w_X) := Ha95 4 (by rw [sz95]; decide)
      refine Go.mp (fun _ k => X93.aaload hx (j := 4) (v := (.ref w_X)) (by rw [e93]; exact Ar95.1) (State.isArrayOf_alike hZ.alike Ar95.2.1) rfl Ar95.2.2 hin95 hat95 (g := (mkF m 64 #[.val (.int p1), .val (.int p2), .val (.ref b1), .val (.int (3 : Int32)), .val (.int (4 : Int32)), .val (.int (0 : Int32))] [(.int (4 : Int32)), (.ref b1), (.ref w_SIX)])) rfl rfl (hb hby at_64) _ k) ?_
      show Go p e below (T93.setTop (mkF m 65 #[.val (.int p1), .val (.int p2), .val (.ref b1), .val (.int (3 : Int32)), .val (.int (4 : Int32)), .val (.int (0 : Int32))] [(.ref w_X), (.ref w_SIX)])) _
      obtain ⟨v96, T96, L96, X96, q96, st96⟩ := own_callV X93 hx hZ (y := (⟨"com/example/wombat/wombat/LockMode", "covers", "(Lcom/example/wombat/wombat/LockMode;)Z"⟩ : MethodName)) (pc := 65) (Ls := #[.val (.int p1), .val (.int p2), .val (.ref b1), .val (.int (3 : Int32)), .val (.int (4 : Int32)), .val (.int (0 : Int32))]) (st := [(.ref w_X), (.ref w_SIX)]) hown (hw _ (List.mem_of_getElem? (i := 19) rfl)) (hw _ (List.mem_of_getElem? (i := 20) rfl)) (hw _ (List.mem_of_getElem? (i := 22) rfl)) (hw _ (List.mem_of_getElem? (i := 21) rfl)) (hw _ (List.mem_of_getElem? (i := 23) rfl)) (hw _ (List.mem_of_getElem? (i := 3) rfl)) (by decide) (rm_covers l Z a0 hw w_SIX w_X (1 : Int32) (0 : Int32) h11 n0 Z11 F_w_SIX_compatible_11 F_w_X_compatible_11) e93 E_w_SIX_11 pd_1 (hb hby at_65) (by rw [hml]; rfl) (argsL := [(.ref w_X)]) (rest := []) rfl rfl rfl (W := 0) (Nat.le_of_eq rfl) (by decide) (by decide) (by decide) (by decide)
      obtain ⟨rfl, M96, e96⟩ := q96
      have N96 := Fr.app N93 M96
      have r96 : (f_covers w_SIX w_X (1 : Int32) (0 : Int32)) = (0 : Int32) := by rw [f_covers, if_neg ((by decide) : ¬ (((1 : Int32) &&& ((0 : Int32) ^^^ (-1 : Int32))) = (0 : Int32)))]
      rw [r96] at st96
      refine Go.mp st96 ?_
      show Go p e below (T96.setTop (mkF m 68 #[.val (.int p1), .val (.int p2), .val (.ref b1), .val (.int (3 : Int32)), .val (.int (4 : Int32)), .val (.int (0 : Int32))] [(.int (0 : Int32))])) _
      refine g_iload X96 hx (hb hby at_68) rfl ?_
      refine g_icmpNo X96 hx (hb hby at_70) (teq ((by decide) : (0 : Int32) = (0 : Int32))).2 ?_
      refine g_iconst X96 hx (1 : Int32) (hb hby at_73) (by decide) ?_
      refine g_goto X96 hx 78 (hb hby at_74) (by decide) (by decide) ?_
      exact own_retZ X96 hx hret hlk (hb hby at_78) (by decide) (by decide) (by decide) ⟨rfl, N96⟩
  · rw [q12]
    refine g_istoreN X11 hx #[.val (.int p1), .val (.int p2), .val (.ref b1), .val (.int (4 : Int32)), .unset, .unset] (hb hby at_41) rfl ?_
    refine g_iloadN X11 hx (hb hby at_42) rfl ?_
    refine Go.mp (fun _ k => X11.ldcInt hx hown (mvT hZ (hw _ (List.mem_of_getElem? (i := 14) rfl))) (g := (mkF m 43 #[.val (.int p1), .val (.int p2), .val (.ref b1), .val (.int (4 : Int32)), .unset, .unset] [(.int p2)])) rfl (hb hby at_43) _ k) ?_
    show Go p e below (T11.setTop (mkF m 45 #[.val (.int p1), .val (.int p2), .val (.ref b1), .val (.int (4 : Int32)), .unset, .unset] [(.int (2147483647 : Int32)), (.int p2)])) _
    refine g_iand X11 hx (hb hby at_45) ?_
    refine g_iconst X11 hx (5 : Int32) (hb hby at_46) (by decide) ?_
    refine g_irem X11 hx (hb hby at_47) (by decide) ?_
    show Go p e below (T11.setTop (mkF m 48 #[.val (.int p1), .val (.int p2), .val (.ref b1), .val (.int (4 : Int32)), .unset, .unset] [(.int ((p2 &&& (2147483647 : Int32)) % (5 : Int32)))])) _
    rcases own_mod5 p2 with q97 | q97 | q97 | q97 | q97
    · rw [q97]
      refine g_istore X11 hx #[.val (.int p1), .val (.int p2), .val (.ref b1), .val (.int (4 : Int32)), .val (.int (0 : Int32)), .unset] (hb hby at_48) rfl ?_
      refine g_iloadN X11 hx (hb hby at_50) rfl ?_
      refine g_iload X11 hx (hb hby at_51) rfl ?_
      obtain ⟨v98, T98, L98, X98, q98, st98⟩ := own_callS X11 hx hZ (y := (⟨"com/example/wombat/wombat/LockModeCoversPinLaw", "expected", "(II)Z"⟩ : MethodName)) (pc := 53) (Ls := #[.val (.int p1), .val (.int p2), .val (.ref b1), .val (.int (4 : Int32)), .val (.int (0 : Int32)), .unset]) (st := [(.int (0 : Int32)), (.int (4 : Int32))]) hown (hw _ (List.mem_of_getElem? (i := 15) rfl)) (hw _ (List.mem_of_getElem? (i := 16) rfl)) (hw _ (List.mem_of_getElem? (i := 17) rfl)) (hw _ (List.mem_of_getElem? (i := 18) rfl)) (by decide) (rm_expected l Z a0 hw (4 : Int32) (0 : Int32) h11 n0 Z11 ) e11 pd_0 (hb hby at_53) (by rw [hml]; rfl) (argsL := [(.int (4 : Int32)), (.int (0 : Int32))]) (rest := []) rfl rfl rfl (W := 0) (Nat.le_of_eq rfl) (by decide) (by decide) (by decide) (by decide)
      obtain ⟨rfl, M98, e98⟩ := q98
      have N98 := Fr.app N11 M98
      have r98 : (f_expected (4 : Int32) (0 : Int32)) = (1 : Int32) := by rw [f_expected, if_neg ((by decide) : ¬ ((4 : Int32) = (0 : Int32))), if_pos ((by decide) : (4 : Int32) = (4 : Int32))]
      rw [r98] at st98
      refine Go.mp st98 ?_
      show Go p e below (T98.setTop (mkF m 56 #[.val (.int p1), .val (.int p2), .val (.ref b1), .val (.int (4 : Int32)), .val (.int (0 : Int32)), .unset] [(.int (1 : Int32))])) _
      refine g_istore X98 hx #[.val (.int p1), .val (.int p2), .val (.ref b1), .val (.int (4 : Int32)), .val (.int (0 : Int32)), .val (.int (1 : Int32))] (hb hby at_56) rfl ?_
      refine g_aloadN X98 hx (hb hby at_58) rfl rfl ?_
      refine g_iloadN X98 hx (hb hby at_59) rfl ?_
      obtain ⟨cl99, Ar99, -, sz99, -, Ha99, -⟩ := id V_b1_11
      have hin99 : ¬ ((4 : Int32) < 0 ∨ cl99.slots.size ≤ (4 : Int32).toNatClampNeg) := by rw [sz99]; decide
      have hat99 : cl99.slots[(4 : Int32).toNatClampNeg]? = some (.ref w_X) := Ha99 4 (by rw [sz99]; decide)
      refine Go.mp (fun _ k => X98.aaload hx (j := 4) (v := (.ref w_X)) (by rw [e98]; exact Ar99.1) (State.isArrayOf_alike hZ.alike Ar99.2.1) rfl Ar99.2.2 hin99 hat99 (g := (mkF m 60 #[.val (.int p1), .val (.int p2), .val (.ref b1), .val (.int (4 : Int32)), .val (.int (0 : Int32)), .val (.int (1 : Int32))] [(.int (4 : Int32)), (.ref b1)])) rfl rfl (hb hby at_60) _ k) ?_
      show Go p e below (T98.setTop (mkF m 61 #[.val (.int p1), .val (.int p2), .val (.ref b1), .val (.int (4 : Int32)), .val (.int (0 : Int32)), .val (.int (1 : Int32))] [(.ref w_X)])) _
      refine g_aloadN X98 hx (hb hby at_61) rfl rfl ?_
      refine g_iload X98 hx (hb hby at_62) rfl ?_
      obtain ⟨cl100, Ar100, -, sz100, -, Ha100, -⟩ := id V_b1_11
      have hin100 : ¬ ((0 : Int32) < 0 ∨ cl100.slots.size ≤ (0 : Int32).toNatClampNeg) := by rw [sz100]; decide
      have hat100 : cl100.slots[(0 : Int32).toNatClampNeg]? = some (.ref w_IS) := Ha100 0 (by rw [sz100]; decide)
      refine Go.mp (fun _ k => X98.aaload hx (j := 0) (v := (.ref w_IS)) (by rw [e98]; exact Ar100.1) (State.isArrayOf_alike hZ.alike Ar100.2.1) rfl Ar100.2.2 hin100 hat100 (g := (mkF m 64 #[.val (.int p1), .val (.int p2), .val (.ref b1), .val (.int (4 : Int32)), .val (.int (0 : Int32)), .val (.int (1 : Int32))] [(.int (0 : Int32)), (.ref b1), (.ref w_X)])) rfl rfl (hb hby at_64) _ k) ?_
      show Go p e below (T98.setTop (mkF m 65 #[.val (.int p1), .val (.int p2), .val (.ref b1), .val (.int (4 : Int32)), .val (.int (0 : Int32)), .val (.int (1 : Int32))] [(.ref w_IS), (.ref w_X)])) _
      obtain ⟨v101, T101, L101, X101, q101, st101⟩ := own_callV X98 hx hZ (y := (⟨"com/example/wombat/wombat/LockMode", "covers", "(Lcom/example/wombat/wombat/LockMode;)Z"⟩ : MethodName)) (pc := 65) (Ls := #[.val (.int p1), .val (.int p2), .val (.ref b1), .val (.int (4 : Int32)), .val (.int (0 : Int32)), .val (.int (1 : Int32))]) (st := [(.ref w_IS), (.ref w_X)]) hown (hw _ (List.mem_of_getElem? (i := 19) rfl)) (hw _ (List.mem_of_getElem? (i := 20) rfl)) (hw _ (List.mem_of_getElem? (i := 22) rfl)) (hw _ (List.mem_of_getElem? (i := 21) rfl)) (hw _ (List.mem_of_getElem? (i := 23) rfl)) (hw _ (List.mem_of_getElem? (i := 3) rfl)) (by decide) (rm_covers l Z a0 hw w_X w_IS (0 : Int32) (15 : Int32) h11 n0 Z11 F_w_X_compatible_11 F_w_IS_compatible_11) e98 E_w_X_11 pd_1 (hb hby at_65) (by rw [hml]; rfl) (argsL := [(.ref w_IS)]) (rest := []) rfl rfl rfl (W := 0) (Nat.le_of_eq rfl) (by decide) (by decide) (by decide) (by decide)
      obtain ⟨rfl, M101, e101⟩ := q101
      have N101 := Fr.app N98 M101
      have r101 : (f_covers w_X w_IS (0 : Int32) (15 : Int32)) = (1 : Int32) := by rw [f_covers, if_pos ((by decide) : ((0 : Int32) &&& ((15 : Int32) ^^^ (-1 : Int32))) = (0 : Int32))]
      rw [r101] at st101
      refine Go.mp st101 ?_
      show Go p e below (T101.setTop (mkF m 68 #[.val (.int p1), .val (.int p2), .val (.ref b1), .val (.int (4 : Int32)), .val (.int (0 : Int32)), .val (.int (1 : Int32))] [(.int (1 : Int32))])) _
      refine g_iload X101 hx (hb hby at_68) rfl ?_
      refine g_icmpNo X101 hx (hb hby at_70) (teq ((by decide) : (1 : Int32) = (1 : Int32))).2 ?_
      refine g_iconst X101 hx (1 : Int32) (hb hby at_73) (by decide) ?_
      refine g_goto X101 hx 78 (hb hby at_74) (by decide) (by decide) ?_
      exact own_retZ X101 hx hret hlk (hb hby at_78) (by decide) (by decide) (by decide) ⟨rfl, N101⟩
    · rw [q97]
      refine g_istore X11 hx #[.val (.int p1), .val (.int p2), .val (.ref b1), .val (.int (4 : Int32)), .val (.int (1 : Int32)), .unset] (hb hby at_48) rfl ?_
      refine g_iloadN X11 hx (hb hby at_50) rfl ?_
      refine g_iload X11 hx (hb hby at_51) rfl ?_
      obtain ⟨v102, T102, L102, X102, q102, st102⟩ := own_callS X11 hx hZ (y := (⟨"com/example/wombat/wombat/LockModeCoversPinLaw", "expected", "(II)Z"⟩ : MethodName)) (pc := 53) (Ls := #[.val (.int p1), .val (.int p2), .val (.ref b1), .val (.int (4 : Int32)), .val (.int (1 : Int32)), .unset]) (st := [(.int (1 : Int32)), (.int (4 : Int32))]) hown (hw _ (List.mem_of_getElem? (i := 15) rfl)) (hw _ (List.mem_of_getElem? (i := 16) rfl)) (hw _ (List.mem_of_getElem? (i := 17) rfl)) (hw _ (List.mem_of_getElem? (i := 18) rfl)) (by decide) (rm_expected l Z a0 hw (4 : Int32) (1 : Int32) h11 n0 Z11 ) e11 pd_0 (hb hby at_53) (by rw [hml]; rfl) (argsL := [(.int (4 : Int32)), (.int (1 : Int32))]) (rest := []) rfl rfl rfl (W := 0) (Nat.le_of_eq rfl) (by decide) (by decide) (by decide) (by decide)
      obtain ⟨rfl, M102, e102⟩ := q102
      have N102 := Fr.app N11 M102
      have r102 : (f_expected (4 : Int32) (1 : Int32)) = (1 : Int32) := by rw [f_expected, if_neg ((by decide) : ¬ ((4 : Int32) = (1 : Int32))), if_pos ((by decide) : (4 : Int32) = (4 : Int32))]
      rw [r102] at st102
      refine Go.mp st102 ?_
      show Go p e below (T102.setTop (mkF m 56 #[.val (.int p1), .val (.int p2), .val (.ref b1), .val (.int (4 : Int32)), .val (.int (1 : Int32)), .unset] [(.int (1 : Int32))])) _
      refine g_istore X102 hx #[.val (.int p1), .val (.int p2), .val (.ref b1), .val (.int (4 : Int32)), .val (.int (1 : Int32)), .val (.int (1 : Int32))] (hb hby at_56) rfl ?_
      refine g_aloadN X102 hx (hb hby at_58) rfl rfl ?_
      refine g_iloadN X102 hx (hb hby at_59) rfl ?_
      obtain ⟨cl103, Ar103, -, sz103, -, Ha103, -⟩ := id V_b1_11
      have hin103 : ¬ ((4 : Int32) < 0 ∨ cl103.slots.size ≤ (4 : Int32).toNatClampNeg) := by rw [sz103]; decide
      have hat103 : cl103.slots[(4 : Int32).toNatClampNeg]? = some (.ref w_X) := Ha103 4 (by rw [sz103]; decide)
      refine Go.mp (fun _ k => X102.aaload hx (j := 4) (v := (.ref w_X)) (by rw [e102]; exact Ar103.1) (State.isArrayOf_alike hZ.alike Ar103.2.1) rfl Ar103.2.2 hin103 hat103 (g := (mkF m 60 #[.val (.int p1), .val (.int p2), .val (.ref b1), .val (.int (4 : Int32)), .val (.int (1 : Int32)), .val (.int (1 : Int32))] [(.int (4 : Int32)), (.ref b1)])) rfl rfl (hb hby at_60) _ k) ?_
      show Go p e below (T102.setTop (mkF m 61 #[.val (.int p1), .val (.int p2), .val (.ref b1), .val (.int (4 : Int32)), .val (.int (1 : Int32)), .val (.int (1 : Int32))] [(.ref w_X)])) _
      refine g_aloadN X102 hx (hb hby at_61) rfl rfl ?_
      refine g_iload X102 hx (hb hby at_62) rfl ?_
      obtain ⟨cl104, Ar104, -, sz104, -, Ha104, -⟩ := id V_b1_11
      have hin104 : ¬ ((1 : Int32) < 0 ∨ cl104.slots.size ≤ (1 : Int32).toNatClampNeg) := by rw [sz104]; decide
      have hat104 : cl104.slots[(1 : Int32).toNatClampNeg]? = some (.ref w_IX) := Ha104 1 (by rw [sz104]; decide)
      refine Go.mp (fun _ k => X102.aaload hx (j := 1) (v := (.ref w_IX)) (by rw [e102]; exact Ar104.1) (State.isArrayOf_alike hZ.alike Ar104.2.1) rfl Ar104.2.2 hin104 hat104 (g := (mkF m 64 #[.val (.int p1), .val (.int p2), .val (.ref b1), .val (.int (4 : Int32)), .val (.int (1 : Int32)), .val (.int (1 : Int32))] [(.int (1 : Int32)), (.ref b1), (.ref w_X)])) rfl rfl (hb hby at_64) _ k) ?_
      show Go p e below (T102.setTop (mkF m 65 #[.val (.int p1), .val (.int p2), .val (.ref b1), .val (.int (4 : Int32)), .val (.int (1 : Int32)), .val (.int (1 : Int32))] [(.ref w_IX), (.ref w_X)])) _
      obtain ⟨v105, T105, L105, X105, q105, st105⟩ := own_callV X102 hx hZ (y := (⟨"com/example/wombat/wombat/LockMode", "covers", "(Lcom/example/wombat/wombat/LockMode;)Z"⟩ : MethodName)) (pc := 65) (Ls := #[.val (.int p1), .val (.int p2), .val (.ref b1), .val (.int (4 : Int32)), .val (.int (1 : Int32)), .val (.int (1 : Int32))]) (st := [(.ref w_IX), (.ref w_X)]) hown (hw _ (List.mem_of_getElem? (i := 19) rfl)) (hw _ (List.mem_of_getElem? (i := 20) rfl)) (hw _ (List.mem_of_getElem? (i := 22) rfl)) (hw _ (List.mem_of_getElem? (i := 21) rfl)) (hw _ (List.mem_of_getElem? (i := 23) rfl)) (hw _ (List.mem_of_getElem? (i := 3) rfl)) (by decide) (rm_covers l Z a0 hw w_X w_IX (0 : Int32) (3 : Int32) h11 n0 Z11 F_w_X_compatible_11 F_w_IX_compatible_11) e102 E_w_X_11 pd_1 (hb hby at_65) (by rw [hml]; rfl) (argsL := [(.ref w_IX)]) (rest := []) rfl rfl rfl (W := 0) (Nat.le_of_eq rfl) (by decide) (by decide) (by decide) (by decide)
      obtain ⟨rfl, M105, e105⟩ := q105
      have N105 := Fr.app N102 M105
      have r105 : (f_covers w_X w_IX (0 : Int32) (3 : Int32)) = (1 : Int32) := by rw [f_covers, if_pos ((by decide) : ((0 : Int32) &&& ((3 : Int32) ^^^ (-1 : Int32))) = (0 : Int32))]
      rw [r105] at st105
      refine Go.mp st105 ?_
      show Go p e below (T105.setTop (mkF m 68 #[.val (.int p1), .val (.int p2), .val (.ref b1), .val (.int (4 : Int32)), .val (.int (1 : Int32)), .val (.int (1 : Int32))] [(.int (1 : Int32))])) _
      refine g_iload X105 hx (hb hby at_68) rfl ?_
      refine g_icmpNo X105 hx (hb hby at_70) (teq ((by decide) : (1 : Int32) = (1 : Int32))).2 ?_
      refine g_iconst X105 hx (1 : Int32) (hb hby at_73) (by decide) ?_
      refine g_goto X105 hx 78 (hb hby at_74) (by decide) (by decide) ?_
      exact own_retZ X105 hx hret hlk (hb hby at_78) (by decide) (by decide) (by decide) ⟨rfl, N105⟩
    · rw [q97]
      refine g_istore X11 hx #[.val (.int p1), .val (.int p2), .val (.ref b1), .val (.int (4 : Int32)), .val (.int (2 : Int32)), .unset] (hb hby at_48) rfl ?_
      refine g_iloadN X11 hx (hb hby at_50) rfl ?_
      refine g_iload X11 hx (hb hby at_51) rfl ?_
      obtain ⟨v106, T106, L106, X106, q106, st106⟩ := own_callS X11 hx hZ (y := (⟨"com/example/wombat/wombat/LockModeCoversPinLaw", "expected", "(II)Z"⟩ : MethodName)) (pc := 53) (Ls := #[.val (.int p1), .val (.int p2), .val (.ref b1), .val (.int (4 : Int32)), .val (.int (2 : Int32)), .unset]) (st := [(.int (2 : Int32)), (.int (4 : Int32))]) hown (hw _ (List.mem_of_getElem? (i := 15) rfl)) (hw _ (List.mem_of_getElem? (i := 16) rfl)) (hw _ (List.mem_of_getElem? (i := 17) rfl)) (hw _ (List.mem_of_getElem? (i := 18) rfl)) (by decide) (rm_expected l Z a0 hw (4 : Int32) (2 : Int32) h11 n0 Z11 ) e11 pd_0 (hb hby at_53) (by rw [hml]; rfl) (argsL := [(.int (4 : Int32)), (.int (2 : Int32))]) (rest := []) rfl rfl rfl (W := 0) (Nat.le_of_eq rfl) (by decide) (by decide) (by decide) (by decide)
      obtain ⟨rfl, M106, e106⟩ := q106
      have N106 := Fr.app N11 M106
      have r106 : (f_expected (4 : Int32) (2 : Int32)) = (1 : Int32) := by rw [f_expected, if_neg ((by decide) : ¬ ((4 : Int32) = (2 : Int32))), if_pos ((by decide) : (4 : Int32) = (4 : Int32))]
      rw [r106] at st106
      refine Go.mp st106 ?_
      show Go p e below (T106.setTop (mkF m 56 #[.val (.int p1), .val (.int p2), .val (.ref b1), .val (.int (4 : Int32)), .val (.int (2 : Int32)), .unset] [(.int (1 : Int32))])) _
      refine g_istore X106 hx #[.val (.int p1), .val (.int p2), .val (.ref b1), .val (.int (4 : Int32)), .val (.int (2 : Int32)), .val (.int (1 : Int32))] (hb hby at_56) rfl ?_
      refine g_aloadN X106 hx (hb hby at_58) rfl rfl ?_
      refine g_iloadN X106 hx (hb hby at_59) rfl ?_
      obtain ⟨cl107, Ar107, -, sz107, -, Ha107, -⟩ := id V_b1_11
      have hin107 : ¬ ((4 : Int32) < 0 ∨ cl107.slots.size ≤ (4 : Int32).toNatClampNeg) := by rw [sz107]; decide
      have hat107 : cl107.slots[(4 : Int32).toNatClampNeg]? = some (.ref w_X) := Ha107 4 (by rw [sz107]; decide)
      refine Go.mp (fun _ k => X106.aaload hx (j := 4) (v := (.ref w_X)) (by rw [e106]; exact Ar107.1) (State.isArrayOf_alike hZ.alike Ar107.2.1) rfl Ar107.2.2 hin107 hat107 (g := (mkF m 60 #[.val (.int p1), .val (.int p2), .val (.ref b1), .val (.int (4 : Int32)), .val (.int (2 : Int32)), .val (.int (1 : Int32))] [(.int (4 : Int32)), (.ref b1)])) rfl rfl (hb hby at_60) _ k) ?_
      show Go p e below (T106.setTop (mkF m 61 #[.val (.int p1), .val (.int p2), .val (.ref b1), .val (.int (4 : Int32)), .val (.int (2 : Int32)), .val (.int (1 : Int32))] [(.ref w_X)])) _
      refine g_aloadN X106 hx (hb hby at_61) rfl rfl ?_
      refine g_iload X106 hx (hb hby at_62) rfl ?_
      obtain ⟨cl108, Ar108, -, sz108, -, Ha108, -⟩ := id V_b1_11
      have hin108 : ¬ ((2 : Int32) < 0 ∨ cl108.slots.size ≤ (2 : Int32).toNatClampNeg) := by rw [sz108]; decide
      have hat108 : cl108.slots[(2 : Int32).toNatClampNeg]? = some (.ref w_S) := Ha108 2 (by rw [sz108]; decide)
      refine Go.mp (fun _ k => X106.aaload hx (j := 2) (v := (.ref w_S)) (by rw [e106]; exact Ar108.1) (State.isArrayOf_alike hZ.alike Ar108.2.1) rfl Ar108.2.2 hin108 hat108 (g := (mkF m 64 #[.val (.int p1), .val (.int p2), .val (.ref b1), .val (.int (4 : Int32)), .val (.int (2 : Int32)), .val (.int (1 : Int32))] [(.int (2 : Int32)), (.ref b1), (.ref w_X)])) rfl rfl (hb hby at_64) _ k) ?_
      show Go p e below (T106.setTop (mkF m 65 #[.val (.int p1), .val (.int p2), .val (.ref b1), .val (.int (4 : Int32)), .val (.int (2 : Int32)), .val (.int (1 : Int32))] [(.ref w_S), (.ref w_X)])) _
      obtain ⟨v109, T109, L109, X109, q109, st109⟩ := own_callV X106 hx hZ (y := (⟨"com/example/wombat/wombat/LockMode", "covers", "(Lcom/example/wombat/wombat/LockMode;)Z"⟩ : MethodName)) (pc := 65) (Ls := #[.val (.int p1), .val (.int p2), .val (.ref b1), .val (.int (4 : Int32)), .val (.int (2 : Int32)), .val (.int (1 : Int32))]) (st := [(.ref w_S), (.ref w_X)]) hown (hw _ (List.mem_of_getElem? (i := 19) rfl)) (hw _ (List.mem_of_getElem? (i := 20) rfl)) (hw _ (List.mem_of_getElem? (i := 22) rfl)) (hw _ (List.mem_of_getElem? (i := 21) rfl)) (hw _ (List.mem_of_getElem? (i := 23) rfl)) (hw _ (List.mem_of_getElem? (i := 3) rfl)) (by decide) (rm_covers l Z a0 hw w_X w_S (0 : Int32) (5 : Int32) h11 n0 Z11 F_w_X_compatible_11 F_w_S_compatible_11) e106 E_w_X_11 pd_1 (hb hby at_65) (by rw [hml]; rfl) (argsL := [(.ref w_S)]) (rest := []) rfl rfl rfl (W := 0) (Nat.le_of_eq rfl) (by decide) (by decide) (by decide) (by decide)
      obtain ⟨rfl, M109, e109⟩ := q109
      have N109 := Fr.app N106 M109
      have r109 : (f_covers w_X w_S (0 : Int32) (5 : Int32)) = (1 : Int32) := by rw [f_covers, if_pos ((by decide) : ((0 : Int32) &&& ((5 : Int32) ^^^ (-1 : Int32))) = (0 : Int32))]
      rw [r109] at st109
      refine Go.mp st109 ?_
      show Go p e below (T109.setTop (mkF m 68 #[.val (.int p1), .val (.int p2), .val (.ref b1), .val (.int (4 : Int32)), .val (.int (2 : Int32)), .val (.int (1 : Int32))] [(.int (1 : Int32))])) _
      refine g_iload X109 hx (hb hby at_68) rfl ?_
      refine g_icmpNo X109 hx (hb hby at_70) (teq ((by decide) : (1 : Int32) = (1 : Int32))).2 ?_
      refine g_iconst X109 hx (1 : Int32) (hb hby at_73) (by decide) ?_
      refine g_goto X109 hx 78 (hb hby at_74) (by decide) (by decide) ?_
      exact own_retZ X109 hx hret hlk (hb hby at_78) (by decide) (by decide) (by decide) ⟨rfl, N109⟩
    · rw [q97]
      refine g_istore X11 hx #[.val (.int p1), .val (.int p2), .val (.ref b1), .val (.int (4 : Int32)), .val (.int (3 : Int32)), .unset] (hb hby at_48) rfl ?_
      refine g_iloadN X11 hx (hb hby at_50) rfl ?_
      refine g_iload X11 hx (hb hby at_51) rfl ?_
      obtain ⟨v110, T110, L110, X110, q110, st110⟩ := own_callS X11 hx hZ (y := (⟨"com/example/wombat/wombat/LockModeCoversPinLaw", "expected", "(II)Z"⟩ : MethodName)) (pc := 53) (Ls := #[.val (.int p1), .val (.int p2), .val (.ref b1), .val (.int (4 : Int32)), .val (.int (3 : Int32)), .unset]) (st := [(.int (3 : Int32)), (.int (4 : Int32))]) hown (hw _ (List.mem_of_getElem? (i := 15) rfl)) (hw _ (List.mem_of_getElem? (i := 16) rfl)) (hw _ (List.mem_of_getElem? (i := 17) rfl)) (hw _ (List.mem_of_getElem? (i := 18) rfl)) (by decide) (rm_expected l Z a0 hw (4 : Int32) (3 : Int32) h11 n0 Z11 ) e11 pd_0 (hb hby at_53) (by rw [hml]; rfl) (argsL := [(.int (4 : Int32)), (.int (3 : Int32))]) (rest := []) rfl rfl rfl (W := 0) (Nat.le_of_eq rfl) (by decide) (by decide) (by decide) (by decide)
      obtain ⟨rfl, M110, e110⟩ := q110
      have N110 := Fr.app N11 M110
      have r110 : (f_expected (4 : Int32) (3 : Int32)) = (1 : Int32) := by rw [f_expected, if_neg ((by decide) : ¬ ((4 : Int32) = (3 : Int32))), if_pos ((by decide) : (4 : Int32) = (4 : Int32))]
      rw [r110] at st110
      refine Go.mp st110 ?_
      show Go p e below (T110.setTop (mkF m 56 #[.val (.int p1), .val (.int p2), .val (.ref b1), .val (.int (4 : Int32)), .val (.int (3 : Int32)), .unset] [(.int (1 : Int32))])) _
      refine g_istore X110 hx #[.val (.int p1), .val (.int p2), .val (.ref b1), .val (.int (4 : Int32)), .val (.int (3 : Int32)), .val (.int (1 : Int32))] (hb hby at_56) rfl ?_
      refine g_aloadN X110 hx (hb hby at_58) rfl rfl ?_
      refine g_iloadN X110 hx (hb hby at_59) rfl ?_
      obtain ⟨cl111, Ar111, -, sz111, -, Ha111, -⟩ := id V_b1_11
      have hin111 : ¬ ((4 : Int32) < 0 ∨ cl111.slots.size ≤ (4 : Int32).toNatClampNeg) := by rw [sz111]; decide
      have hat111 : cl111.slots[(4 : Int32).toNatClampNeg]? = some (.ref w_X) := Ha111 4 (by rw [sz111]; decide)
      refine Go.mp (fun _ k => X110.aaload hx (j := 4) (v := (.ref w_X)) (by rw [e110]; exact Ar111.1) (State.isArrayOf_alike hZ.alike Ar111.2.1) rfl Ar111.2.2 hin111 hat111 (g := (mkF m 60 #[.val (.int p1), .val (.int p2), .val (.ref b1), .val (.int (4 : Int32)), .val (.int (3 : Int32)), .val (.int (1 : Int32))] [(.int (4 : Int32)), (.ref b1)])) rfl rfl (hb hby at_60) _ k) ?_
      show Go p e below (T110.setTop (mkF m 61 #[.val (.int p1), .val (.int p2), .val (.ref b1), .val (.int (4 : Int32)), .val (.int (3 : Int32)), .val (.int (1 : Int32))] [(.ref w_X)])) _
      refine g_aloadN X110 hx (hb hby at_61) rfl rfl ?_
      refine g_iload X110 hx (hb hby at_62) rfl ?_
      obtain ⟨cl112, Ar112, -, sz112, -, Ha112, -⟩ := id V_b1_11
      have hin112 : ¬ ((3 : Int32) < 0 ∨ cl112.slots.size ≤ (3 : Int32).toNatClampNeg) := by rw [sz112]; decide
      have hat112 : cl112.slots[(3 : Int32).toNatClampNeg]? = some (.ref w_SIX) := Ha112 3 (by rw [sz112]; decide)
      refine Go.mp (fun _ k => X110.aaload hx (j := 3) (v := (.ref w_SIX)) (by rw [e110]; exact Ar112.1) (State.isArrayOf_alike hZ.alike Ar112.2.1) rfl Ar112.2.2 hin112 hat112 (g := (mkF m 64 #[.val (.int p1), .val (.int p2), .val (.ref b1), .val (.int (4 : Int32)), .val (.int (3 : Int32)), .val (.int (1 : Int32))] [(.int (3 : Int32)), (.ref b1), (.ref w_X)])) rfl rfl (hb hby at_64) _ k) ?_
      show Go p e below (T110.setTop (mkF m 65 #[.val (.int p1), .val (.int p2), .val (.ref b1), .val (.int (4 : Int32)), .val (.int (3 : Int32)), .val (.int (1 : Int32))] [(.ref w_SIX), (.ref w_X)])) _
      obtain ⟨v113, T113, L113, X113, q113, st113⟩ := own_callV X110 hx hZ (y := (⟨"com/example/wombat/wombat/LockMode", "covers", "(Lcom/example/wombat/wombat/LockMode;)Z"⟩ : MethodName)) (pc := 65) (Ls := #[.val (.int p1), .val (.int p2), .val (.ref b1), .val (.int (4 : Int32)), .val (.int (3 : Int32)), .val (.int (1 : Int32))]) (st := [(.ref w_SIX), (.ref w_X)]) hown (hw _ (List.mem_of_getElem? (i := 19) rfl)) (hw _ (List.mem_of_getElem? (i := 20) rfl)) (hw _ (List.mem_of_getElem? (i := 22) rfl)) (hw _ (List.mem_of_getElem? (i := 21) rfl)) (hw _ (List.mem_of_getElem? (i := 23) rfl)) (hw _ (List.mem_of_getElem? (i := 3) rfl)) (by decide) (rm_covers l Z a0 hw w_X w_SIX (0 : Int32) (1 : Int32) h11 n0 Z11 F_w_X_compatible_11 F_w_SIX_compatible_11) e110 E_w_X_11 pd_1 (hb hby at_65) (by rw [hml]; rfl) (argsL := [(.ref w_SIX)]) (rest := []) rfl rfl rfl (W := 0) (Nat.le_of_eq rfl) (by decide) (by decide) (by decide) (by decide)
      obtain ⟨rfl, M113, e113⟩ := q113
      have N113 := Fr.app N110 M113
      have r113 : (f_covers w_X w_SIX (0 : Int32) (1 : Int32)) = (1 : Int32) := by rw [f_covers, if_pos ((by decide) : ((0 : Int32) &&& ((1 : Int32) ^^^ (-1 : Int32))) = (0 : Int32))]
      rw [r113] at st113
      refine Go.mp st113 ?_
      show Go p e below (T113.setTop (mkF m 68 #[.val (.int p1), .val (.int p2), .val (.ref b1), .val (.int (4 : Int32)), .val (.int (3 : Int32)), .val (.int (1 : Int32))] [(.int (1 : Int32))])) _
      refine g_iload X113 hx (hb hby at_68) rfl ?_
      refine g_icmpNo X113 hx (hb hby at_70) (teq ((by decide) : (1 : Int32) = (1 : Int32))).2 ?_
      refine g_iconst X113 hx (1 : Int32) (hb hby at_73) (by decide) ?_
      refine g_goto X113 hx 78 (hb hby at_74) (by decide) (by decide) ?_
      exact own_retZ X113 hx hret hlk (hb hby at_78) (by decide) (by decide) (by decide) ⟨rfl, N113⟩
    · rw [q97]
      refine g_istore X11 hx #[.val (.int p1), .val (.int p2), .val (.ref b1), .val (.int (4 : Int32)), .val (.int (4 : Int32)), .unset] (hb hby at_48) rfl ?_
      refine g_iloadN X11 hx (hb hby at_50) rfl ?_
      refine g_iload X11 hx (hb hby at_51) rfl ?_
      obtain ⟨v114, T114, L114, X114, q114, st114⟩ := own_callS X11 hx hZ (y := (⟨"com/example/wombat/wombat/LockModeCoversPinLaw", "expected", "(II)Z"⟩ : MethodName)) (pc := 53) (Ls := #[.val (.int p1), .val (.int p2), .val (.ref b1), .val (.int (4 : Int32)), .val (.int (4 : Int32)), .unset]) (st := [(.int (4 : Int32)), (.int (4 : Int32))]) hown (hw _ (List.mem_of_getElem? (i := 15) rfl)) (hw _ (List.mem_of_getElem? (i := 16) rfl)) (hw _ (List.mem_of_getElem? (i := 17) rfl)) (hw _ (List.mem_of_getElem? (i := 18) rfl)) (by decide) (rm_expected l Z a0 hw (4 : Int32) (4 : Int32) h11 n0 Z11 ) e11 pd_0 (hb hby at_53) (by rw [hml]; rfl) (argsL := [(.int (4 : Int32)), (.int (4 : Int32))]) (rest := []) rfl rfl rfl (W := 0) (Nat.le_of_eq rfl) (by decide) (by decide) (by decide) (by decide)
      obtain ⟨rfl, M114, e114⟩ := q114
      have N114 := Fr.app N11 M114
      have r114 : (f_expected (4 : Int32) (4 : Int32)) = (1 : Int32) := by rw [f_expected, if_pos ((by decide) : (4 : Int32) = (4 : Int32))]
      rw [r114] at st114
      refine Go.mp st114 ?_
      show Go p e below (T114.setTop (mkF m 56 #[.val (.int p1), .val (.int p2), .val (.ref b1), .val (.int (4 : Int32)), .val (.int (4 : Int32)), .unset] [(.int (1 : Int32))])) _
      refine g_istore X114 hx #[.val (.int p1), .val (.int p2), .val (.ref b1), .val (.int (4 : Int32)), .val (.int (4 : Int32)), .val (.int (1 : Int32))] (hb hby at_56) rfl ?_
      refine g_aloadN X114 hx (hb hby at_58) rfl rfl ?_
      refine g_iloadN X114 hx (hb hby at_59) rfl ?_
      obtain ⟨cl115, Ar115, -, sz115, -, Ha115, -⟩ := id V_b1_11
      have hin115 : ¬ ((4 : Int32) < 0 ∨ cl115.slots.size ≤ (4 : Int32).toNatClampNeg) := by rw [sz115]; decide
      have hat115 : cl115.slots[(4 : Int32).toNatClampNeg]? = some (.ref w_X) := Ha115 4 (by rw [sz115]; decide)
      refine Go.mp (fun _ k => X114.aaload hx (j := 4) (v := (.ref w_X)) (by rw [e114]; exact Ar115.1) (State.isArrayOf_alike hZ.alike Ar115.2.1) rfl Ar115.2.2 hin115 hat115 (g := (mkF m 60 #[.val (.int p1), .val (.int p2), .val (.ref b1), .val (.int (4 : Int32)), .val (.int (4 : Int32)), .val (.int (1 : Int32))] [(.int (4 : Int32)), (.ref b1)])) rfl rfl (hb hby at_60) _ k) ?_
      show Go p e below (T114.setTop (mkF m 61 #[.val (.int p1), .val (.int p2), .val (.ref b1), .val (.int (4 : Int32)), .val (.int (4 : Int32)), .val (.int (1 : Int32))] [(.ref w_X)])) _
      refine g_aloadN X114 hx (hb hby at_61) rfl rfl ?_
      refine g_iload X114 hx (hb hby at_62) rfl ?_
      obtain ⟨cl116, Ar116, -, sz116, -, Ha116, -⟩ := id V_b1_11
      have hin116 : ¬ ((4 : Int32) < 0 ∨ cl116.slots.size ≤ (4 : Int32).toNatClampNeg) := by rw [sz116]; decide
      have hat116 : cl116.slots[(4 : Int32).toNatClampNeg]? = some (.ref w_X) := Ha116 4 (by rw [sz116]; decide)
      refine Go.mp (fun _ k => X114.aaload hx (j := 4) (v := (.ref w_X)) (by rw [e114]; exact Ar116.1) (State.isArrayOf_alike hZ.alike Ar116.2.1) rfl Ar116.2.2 hin116 hat116 (g := (mkF m 64 #[.val (.int p1), .val (.int p2), .val (.ref b1), .val (.int (4 : Int32)), .val (.int (4 : Int32)), .val (.int (1 : Int32))] [(.int (4 : Int32)), (.ref b1), (.ref w_X)])) rfl rfl (hb hby at_64) _ k) ?_
      show Go p e below (T114.setTop (mkF m 65 #[.val (.int p1), .val (.int p2), .val (.ref b1), .val (.int (4 : Int32)), .val (.int (4 : Int32)), .val (.int (1 : Int32))] [(.ref w_X), (.ref w_X)])) _
      obtain ⟨v117, T117, L117, X117, q117, st117⟩ := own_callV X114 hx hZ (y := (⟨"com/example/wombat/wombat/LockMode", "covers", "(Lcom/example/wombat/wombat/LockMode;)Z"⟩ : MethodName)) (pc := 65) (Ls := #[.val (.int p1), .val (.int p2), .val (.ref b1), .val (.int (4 : Int32)), .val (.int (4 : Int32)), .val (.int (1 : Int32))]) (st := [(.ref w_X), (.ref w_X)]) hown (hw _ (List.mem_of_getElem? (i := 19) rfl)) (hw _ (List.mem_of_getElem? (i := 20) rfl)) (hw _ (List.mem_of_getElem? (i := 22) rfl)) (hw _ (List.mem_of_getElem? (i := 21) rfl)) (hw _ (List.mem_of_getElem? (i := 23) rfl)) (hw _ (List.mem_of_getElem? (i := 3) rfl)) (by decide) (rm_covers l Z a0 hw w_X w_X (0 : Int32) (0 : Int32) h11 n0 Z11 F_w_X_compatible_11 F_w_X_compatible_11) e114 E_w_X_11 pd_1 (hb hby at_65) (by rw [hml]; rfl) (argsL := [(.ref w_X)]) (rest := []) rfl rfl rfl (W := 0) (Nat.le_of_eq rfl) (by decide) (by decide) (by decide) (by decide)
      obtain ⟨rfl, M117, e117⟩ := q117
      have N117 := Fr.app N114 M117
      have r117 : (f_covers w_X w_X (0 : Int32) (0 : Int32)) = (1 : Int32) := by rw [f_covers, if_pos ((by decide) : ((0 : Int32) &&& ((0 : Int32) ^^^ (-1 : Int32))) = (0 : Int32))]
      rw [r117] at st117
      refine Go.mp st117 ?_
      show Go p e below (T117.setTop (mkF m 68 #[.val (.int p1), .val (.int p2), .val (.ref b1), .val (.int (4 : Int32)), .val (.int (4 : Int32)), .val (.int (1 : Int32))] [(.int (1 : Int32))])) _
      refine g_iload X117 hx (hb hby at_68) rfl ?_
      refine g_icmpNo X117 hx (hb hby at_70) (teq ((by decide) : (1 : Int32) = (1 : Int32))).2 ?_
      refine g_iconst X117 hx (1 : Int32) (hb hby at_73) (by decide) ?_
      refine g_goto X117 hx 78 (hb hby at_74) (by decide) (by decide) ?_
      exact own_retZ X117 hx hret hlk (hb hby at_78) (by decide) (by decide) (by decide) ⟨rfl, N117⟩
set_option maxRecDepth 65536 in
set_option maxHeartbeats 40000000 in
theorem comes_1 {Post : Tables → Env → Array Value → State → Outcome → State → Prop} (hpost : ∀ tb e args s v u, (limb_1_1.after args s (.returned v) u = true ∧ limb_1_2.after args s (.returned v) u = true ∧ True) → FrameEnd s (.returned v) u (Jvm.fieldLocs frame_1_writes args s ++ Jvm.arrayLocs frame_1_arrays args s ++ Jvm.staticLocs frame_1_statics s) 16 128 → Post tb e args s (.returned v) u) :
    ArmFor flags0 classFile x code maxLocals ret World_1 tables_1 room_1 Calls_1 rest_1 Pre_1 Post := by
  intro l hfl _ _ p e ha hc hk s m args below hf hA hF happ hP
  obtain ⟨hcalls, hrest, hpre⟩ := hP
  obtain ⟨-, -, -, hnamed, -, -, -, hat⟩ := (Spec.applies_iff hf).mp happ
  obtain ⟨hg, hn⟩ := and_e (Cond.before_iff.mp (show (Jvm.Cond.and given_1 narrow_1).before args s = true from hpre))
  obtain ⟨hcnt, hg⟩ := and_e hg
  obtain ⟨w0, w1, rfl⟩ : ∃ w0 w1 : Value, args = #[w0, w1] := by
    have hs : args.size = 2 := by simpa [Cond.value, given_1] using hcnt
    obtain ⟨L⟩ := args
    match L, hs with
    | [w0, w1], _ => exact ⟨w0, w1, rfl⟩
  have hw := fun d (hd : d ∈ tables_1) => atoms_spec (ws := Jvm.Cond.code x code maxLocals ret :: tables_1) hat d (List.mem_cons_of_mem _ hd)
  obtain ⟨ha0, hg0⟩ := and_e hg
  obtain ⟨p1, ep1⟩ := is_v ha0
  obtain rfl : w0 = (.int p1) := Option.some.inj ep1
  obtain ⟨p2, ep2⟩ := is_v hg0
  obtain rfl : w1 = (.int p2) := Option.some.inj ep2
  obtain ⟨hn0, hm0⟩ := and_e hn
  obtain ⟨w_IS, S_IS, E_IS, ev_IS⟩ := own_sta hn0 (hw _ (List.mem_of_getElem? (i := 3) rfl)) (hw _ (List.mem_of_getElem? (i := 4) rfl))
  obtain ⟨hn1, hm1⟩ := and_e hm0
  obtain ⟨w_IX, S_IX, E_IX, ev_IX⟩ := own_sta hn1 (hw _ (List.mem_of_getElem? (i := 3) rfl)) (hw _ (List.mem_of_getElem? (i := 7) rfl))
  obtain ⟨hn2, hm2⟩ := and_e hm1
  obtain ⟨w_S, S_S, E_S, ev_S⟩ := own_sta hn2 (hw _ (List.mem_of_getElem? (i := 3) rfl)) (hw _ (List.mem_of_getElem? (i := 9) rfl))
  obtain ⟨hn3, hm3⟩ := and_e hm2
  obtain ⟨w_SIX, S_SIX, E_SIX, ev_SIX⟩ := own_sta hn3 (hw _ (List.mem_of_getElem? (i := 3) rfl)) (hw _ (List.mem_of_getElem? (i := 11) rfl))
  obtain ⟨hn4, hm4⟩ := and_e hm3
  obtain ⟨w_X, S_X, E_X, ev_X⟩ := own_sta hn4 (hw _ (List.mem_of_getElem? (i := 3) rfl)) (hw _ (List.mem_of_getElem? (i := 13) rfl))
  obtain ⟨hn5, hm5⟩ := and_e hm4
  have O_IS_compatible_h := hn5
  obtain ⟨hn6, hm6⟩ := and_e hm5
  have O_SIX_compatible_h := hn6
  obtain ⟨hn7, hm7⟩ := and_e hm6
  have O_X_compatible_h := hn7
  obtain ⟨hn8, hm8⟩ := and_e hm7
  have O_IX_compatible_h := hn8
  have O_S_compatible_h := hm8
  have O_IS_compatible := own_ord O_IS_compatible_h ev_IS
  have O_SIX_compatible := own_ord O_SIX_compatible_h ev_SIX
  have O_X_compatible := own_ord O_X_compatible_h ev_X
  have O_IX_compatible := own_ord O_IX_compatible_h ev_IX
  have O_S_compatible := own_ord O_S_compatible_h ev_S
  obtain ⟨n, o, h1, h2, h3, _, L, rfl, ⟨rfl, N⟩, hq⟩ := rm_law l s _ hw p1 p2 w_IS w_IX w_S w_SIX w_X s.heap s.heap.size (Nat.le_refl _) S_IS E_IS S_IX E_IX S_S E_S S_SIX E_SIX S_X E_X O_IS_compatible O_SIX_compatible O_X_compatible O_IX_compatible O_S_compatible (own_ne O_IS_compatible O_SIX_compatible (by decide)) (own_ne O_IS_compatible O_X_compatible (by decide)) (own_ne O_IS_compatible O_IX_compatible (by decide)) (own_ne O_IS_compatible O_S_compatible (by decide)) (own_ne O_SIX_compatible O_X_compatible (by decide)) (own_ne O_SIX_compatible O_IX_compatible (by decide)) (own_ne O_SIX_compatible O_S_compatible (by decide)) (own_ne O_X_compatible O_IX_compatible (by decide)) (own_ne O_X_compatible O_S_compatible (by decide)) (own_ne O_IX_compatible O_S_compatible (by decide)) p e ha hc hk s m _ below hf ((Spec.applies_iff_loose hf).mp happ).1 ⟨rfl, State.Warmed39.refl s, rfl⟩ trivial
  refine ⟨n, _, h1, h2, h3, hpost _ _ _ _ _ _ ⟨Cond.after_iff.mpr rfl, Cond.after_iff.mpr (eq_i res_at (Term.int_eval (1)) rfl), trivial⟩ ⟨hq.1, hq.2.1, (hq.2.2.sift fun y hy => Or.inr (N y hy)).mono (by decide) (by decide)⟩⟩
theorem main_1_1 : Claimed_1_1 := comes_1 fun _ _ _ _ _ _ h hF => ⟨h.1, hF⟩
theorem main_1_2 : Claimed_1_2 := comes_1 fun _ _ _ _ _ _ h hF => ⟨h.2.1, hF⟩
end Jvm.Pilot.@@N@@
namespace Jvm.Pilot.@@N@@
open Jvm Jvm.ClassFile Sem Op Lib Jvm.Free Jvm.Stand Jvm.Pilot.@@N@@.Jvm.D
/-! MADE BY PROGRAM (witnessworld.py) out of the Statement's table words and the real class files: 13 classes; the members and pool entries that the words name. The judged class is class 1, her method 1. -/
namespace start1
open Jvm.ClassFile
def u (s : String) : CpInfo := .utf8 (stringToUtf16 s)
/-- a pool by its gaps: so many unusable entries, then the entry; so many at the end -/
def gap : Nat → List CpInfo → List CpInfo
  | 0, r => r
  | n + 1, r => .unusable :: gap n r
def poolList (es : List (Nat × CpInfo)) (last : Nat) : List CpInfo := es.foldr (fun e r => gap e.1 (e.2 :: r)) (gap last [])
def pool (es : List (Nat × CpInfo)) (last : Nat) : Array CpInfo := ⟨poolList es last⟩
def fileOf (pool : Array CpInfo) (this : Nat) (attrs : Array Attribute := #[]) (ms : Array MethodInfo := #[]) (fl : Nat := 33) (sup : Nat := 0) (ifs : Array Nat := #[]) (fds : Array FieldInfo := #[]) : ClassFile where
  minorVersion := 0
  majorVersion := 65
  constantPool := pool
  accessFlags := fl
  thisClass := this
  superClass := sup
  interfaces := ifs
  fields := fds
  methods := ms
  attributes := attrs
def plain (name : String) (sup : Option ClassId) : Class where
  name := name
  kind := .ordinary
  loader := none
  accessFlags := 33
  super := sup
  interfaces := #[]
  cf := none
  fields := #[]
  methods := #[]
  instanceTypes := #[]
  staticTypes := #[]
  resolved := #[]
  callSites := []
  init := .initialized
  statics := none
  mirror := none

def pool0 : Array CpInfo := pool [(5, u "<init>"), (0, u "()V"), (1, .class_ 10), (1, u "java/lang/Object")] 113

def k0m0 : Method := { name := "<init>", desc := "()V", sig := { parameters := [], returnType := none }, accessFlags := 1, code := none }
/-- java/lang/Object -/
def k0 : Class := { plain "java/lang/Object" none with
  accessFlags := 33
  interfaces := #[]
  cf := some (fileOf pool0 8 #[] #[{ accessFlags := 1, nameIndex := 5, descriptorIndex := 6, attributes := #[] }] 33 0 #[] #[])
  fields := #[]
  methods := #[k0m0]
  instanceTypes := #[]
  staticTypes := #[]
  resolved := Array.replicate 124 none
  statics := none }

def pool1 : Array CpInfo := pool [(2, .class_ 4), (1, u "java/lang/Object"), (0, u "<init>"), (0, u "()V"), (0, .class_ 8), (0, u "com/example/wombat/wombat/LockMode"), (0, .fieldref 7 10), (0, .nameAndType 11 12), (0, u "IS"), (0, u "Lcom/example/wombat/wombat/LockMode;"), (0, .fieldref 7 14), (0, .nameAndType 15 12), (0, u "IX"), (0, .fieldref 7 17), (0, .nameAndType 18 12), (0, u "S"), (0, .fieldref 7 20), (0, .nameAndType 21 12), (0, u "SIX"), (0, .fieldref 7 23), (0, .nameAndType 24 12), (0, u "X"), (0, .integer 2147483647), (0, .methodref 27 28), (0, .class_ 29), (0, .nameAndType 30 31), (0, u "com/example/wombat/wombat/LockModeCoversPinLaw"), (0, u "expected"), (0, u "(II)Z"), (0, .methodref 7 33), (0, .nameAndType 34 35), (0, u "covers"), (0, u "(Lcom/example/wombat/wombat/LockMode;)Z"), (2, u "law")] 5

def k1m0 : Method := { name := "<init>", desc := "()V", sig := { parameters := [], returnType := none }, accessFlags := 1, code := none }
def k1c1 : Code := { maxStack := 4, maxLocals := 6, code := code, exceptionTable := #[], attributes := #[] }
def k1m1 : Method := { name := "law", desc := "(II)Z", sig := { parameters := [.int, .int], returnType := some .boolean }, accessFlags := 9, code := some k1c1 }
def k1c2 : Code := { maxStack := 2, maxLocals := 2, code := method_3_code, exceptionTable := #[], attributes := #[] }
def k1m2 : Method := { name := "expected", desc := "(II)Z", sig := { parameters := [.int, .int], returnType := some .boolean }, accessFlags := 10, code := some k1c2 }
/-- com/example/wombat/wombat/LockModeCoversPinLaw -/
def k1 : Class := { plain "com/example/wombat/wombat/LockModeCoversPinLaw" (some 0) with
  accessFlags := 49
  interfaces := #[]
  cf := some (fileOf pool1 27 #[] #[{ accessFlags := 1, nameIndex := 5, descriptorIndex := 6, attributes := #[] }, { accessFlags := 9, nameIndex := 38, descriptorIndex := 31, attributes := #[] }, { accessFlags := 10, nameIndex := 30, descriptorIndex := 31, attributes := #[] }] 49 2 #[] #[])
  fields := #[]
  methods := #[k1m0, k1m1, k1m2]
  instanceTypes := #[]
  staticTypes := #[]
  resolved := Array.replicate 44 none
  statics := none }

def pool2 : Array CpInfo := pool [(1, .class_ 2), (0, u "java/lang/constant/Constable"), (0, .class_ 4), (0, u "java/lang/Object")] 6

/-- java/lang/constant/Constable -/
def k2 : Class := { plain "java/lang/constant/Constable" (some 0) with
  accessFlags := 1537
  interfaces := #[]
  cf := some (fileOf pool2 1 #[] #[] 1537 3 #[] #[])
  fields := #[]
  methods := #[]
  instanceTypes := #[]
  staticTypes := #[]
  resolved := Array.replicate 11 none
  statics := none }

def pool3 : Array CpInfo := pool [(1, .class_ 2), (0, u "java/lang/Comparable"), (0, .class_ 4), (0, u "java/lang/Object")] 7

/-- java/lang/Comparable -/
def k3 : Class := { plain "java/lang/Comparable" (some 0) with
  accessFlags := 1537
  interfaces := #[]
  cf := some (fileOf pool3 1 #[] #[] 1537 3 #[] #[])
  fields := #[]
  methods := #[]
  instanceTypes := #[]
  staticTypes := #[]
  resolved := Array.replicate 12 none
  statics := none }

def pool4 : Array CpInfo := pool [(1, .class_ 2), (0, u "java/io/Serializable"), (0, .class_ 4), (0, u "java/lang/Object")] 2

/-- java/io/Serializable -/
def k4 : Class := { plain "java/io/Serializable" (some 0) with
  accessFlags := 1537
  interfaces := #[]
  cf := some (fileOf pool4 1 #[] #[] 1537 3 #[] #[])
  fields := #[]
  methods := #[]
  instanceTypes := #[]
  staticTypes := #[]
  resolved := Array.replicate 7 none
  statics := none }

def pool5 : Array CpInfo := pool [(2, .class_ 4), (1, u "java/lang/Enum"), (0, u "name"), (0, u "Ljava/lang/String;"), (2, u "ordinal"), (0, u "I"), (1, .class_ 14), (1, u "java/lang/Object"), (4, u "hash"), (86, .class_ 108), (1, u "java/lang/Enum$EnumDesc"), (2, .class_ 112), (0, u "java/lang/constant/Constable"), (0, .class_ 114), (0, u "java/lang/Comparable"), (0, .class_ 116), (0, u "java/io/Serializable")] 87

/-- java/lang/Enum -/
def k5 : Class := { plain "java/lang/Enum" (some 0) with
  accessFlags := 1057
  interfaces := #[2, 3, 4]
  cf := some (fileOf pool5 2 #[.nestMembers #[106]] #[] 1057 12 #[111, 113, 115] #[{ accessFlags := 18, nameIndex := 5, descriptorIndex := 6, attributes := #[] }, { accessFlags := 18, nameIndex := 9, descriptorIndex := 10, attributes := #[] }, { accessFlags := 2, nameIndex := 19, descriptorIndex := 10, attributes := #[] }])
  fields := #[{ name := "name", type := (.object "java/lang/String"), accessFlags := 18, slot := 0, constantValue := 0 }, { name := "ordinal", type := .int, accessFlags := 18, slot := 1, constantValue := 0 }, { name := "hash", type := .int, accessFlags := 2, slot := 2, constantValue := 0 }]
  methods := #[]
  instanceTypes := #[(.object "java/lang/String"), .int, .int]
  staticTypes := #[]
  resolved := Array.replicate 204 none
  statics := none }

def pool6 : Array CpInfo := pool [(1, .class_ 2), (0, u "com/example/wombat/wombat/LockMode"), (2, u "IS"), (0, u "Lcom/example/wombat/wombat/LockMode;"), (2, u "IX"), (2, u "S"), (2, u "SIX"), (2, u "X"), (2, u "$VALUES"), (0, u "[Lcom/example/wombat/wombat/LockMode;"), (6, .class_ 31), (1, u "java/lang/Enum"), (16, .fieldref 1 49), (0, .nameAndType 50 51), (0, u "compatible"), (0, u "I"), (9, u "WEAKEST_FIRST"), (2, u "covers"), (0, u "(Lcom/example/wombat/wombat/LockMode;)Z"), (31, u "RS"), (2, u "RX"), (2, u "SRX"), (5, u "ALL")] 21

def k6c0 : Code := { maxStack := 3, maxLocals := 2, code := prog_9_method_7_code, exceptionTable := #[], attributes := #[] }
def k6m0 : Method := { name := "covers", desc := "(Lcom/example/wombat/wombat/LockMode;)Z", sig := { parameters := [(.object "com/example/wombat/wombat/LockMode")], returnType := some .boolean }, accessFlags := 0, code := some k6c0 }
/-- com/example/wombat/wombat/LockMode -/
def k6 : Class := { plain "com/example/wombat/wombat/LockMode" (some 5) with
  accessFlags := 16433
  interfaces := #[]
  cf := some (fileOf pool6 1 #[] #[{ accessFlags := 0, nameIndex := 64, descriptorIndex := 65, attributes := #[] }] 16433 29 #[] #[{ accessFlags := 16409, nameIndex := 5, descriptorIndex := 6, attributes := #[] }, { accessFlags := 16409, nameIndex := 9, descriptorIndex := 6, attributes := #[] }, { accessFlags := 16409, nameIndex := 12, descriptorIndex := 6, attributes := #[] }, { accessFlags := 16409, nameIndex := 15, descriptorIndex := 6, attributes := #[] }, { accessFlags := 16409, nameIndex := 18, descriptorIndex := 6, attributes := #[] }, { accessFlags := 25, nameIndex := 97, descriptorIndex := 6, attributes := #[] }, { accessFlags := 25, nameIndex := 100, descriptorIndex := 6, attributes := #[] }, { accessFlags := 25, nameIndex := 103, descriptorIndex := 6, attributes := #[] }, { accessFlags := 26, nameIndex := 61, descriptorIndex := 22, attributes := #[] }, { accessFlags := 24, nameIndex := 109, descriptorIndex := 51, attributes := #[] }, { accessFlags := 18, nameIndex := 50, descriptorIndex := 51, attributes := #[] }, { accessFlags := 4122, nameIndex := 21, descriptorIndex := 22, attributes := #[] }])
  fields := #[{ name := "IS", type := (.object "com/example/wombat/wombat/LockMode"), accessFlags := 16409, slot := 0, constantValue := 0 }, { name := "IX", type := (.object "com/example/wombat/wombat/LockMode"), accessFlags := 16409, slot := 1, constantValue := 0 }, { name := "S", type := (.object "com/example/wombat/wombat/LockMode"), accessFlags := 16409, slot := 2, constantValue := 0 }, { name := "SIX", type := (.object "com/example/wombat/wombat/LockMode"), accessFlags := 16409, slot := 3, constantValue := 0 }, { name := "X", type := (.object "com/example/wombat/wombat/LockMode"), accessFlags := 16409, slot := 4, constantValue := 0 }, { name := "RS", type := (.object "com/example/wombat/wombat/LockMode"), accessFlags := 25, slot := 5, constantValue := 0 }, { name := "RX", type := (.object "com/example/wombat/wombat/LockMode"), accessFlags := 25, slot := 6, constantValue := 0 }, { name := "SRX", type := (.object "com/example/wombat/wombat/LockMode"), accessFlags := 25, slot := 7, constantValue := 0 }, { name := "WEAKEST_FIRST", type := (.array (.object "com/example/wombat/wombat/LockMode")), accessFlags := 26, slot := 8, constantValue := 0 }, { name := "ALL", type := .int, accessFlags := 24, slot := 9, constantValue := 0 }, { name := "compatible", type := .int, accessFlags := 18, slot := 3, constantValue := 0 }, { name := "$VALUES", type := (.array (.object "com/example/wombat/wombat/LockMode")), accessFlags := 4122, slot := 10, constantValue := 0 }]
  methods := #[k6m0]
  instanceTypes := #[(.object "java/lang/String"), .int, .int, .int]
  staticTypes := #[(.object "com/example/wombat/wombat/LockMode"), (.object "com/example/wombat/wombat/LockMode"), (.object "com/example/wombat/wombat/LockMode"), (.object "com/example/wombat/wombat/LockMode"), (.object "com/example/wombat/wombat/LockMode"), (.object "com/example/wombat/wombat/LockMode"), (.object "com/example/wombat/wombat/LockMode"), (.object "com/example/wombat/wombat/LockMode"), (.array (.object "com/example/wombat/wombat/LockMode")), .int, (.array (.object "com/example/wombat/wombat/LockMode"))]
  resolved := Array.replicate 131 none
  statics := some 0 }

def pool7 : Array CpInfo := pool [(1, u "java/lang/Cloneable"), (0, .class_ 1), (0, u "java/lang/Object"), (0, .class_ 3)] 3

/-- java/lang/Cloneable -/
def k7 : Class := { plain "java/lang/Cloneable" (some 0) with
  accessFlags := 1537
  interfaces := #[]
  cf := some (fileOf pool7 2 #[] #[] 1537 4 #[] #[])
  fields := #[]
  methods := #[]
  instanceTypes := #[]
  staticTypes := #[]
  resolved := Array.replicate 8 none
  statics := none }

/-- the primitive byte -/
def k8 : Class := { plain "byte" none with kind := .primitive 'B', accessFlags := 0x411 }
/-- [B -/
def k9 : Class := { plain "[B" (some 0) with kind := .array 8 .byte, interfaces := #[7, 4], accessFlags := 1041 }

/-- the primitive int -/
def k10 : Class := { plain "int" none with kind := .primitive 'I', accessFlags := 0x411 }
/-- [I -/
def k11 : Class := { plain "[I" (some 0) with kind := .array 10 .int, interfaces := #[7, 4], accessFlags := 1041 }

/-- [Lcom/example/wombat/wombat/LockMode; -/
def k12 : Class := { plain "[Lcom/example/wombat/wombat/LockMode;" (some 0) with kind := .array 6 (.object "com/example/wombat/wombat/LockMode"), interfaces := #[7, 4], accessFlags := 1041 }

def heap : Heap := #[{ cls := 6, slots := #[.ref 1, .ref 2, .ref 3, .ref 4, .ref 5, .null, .null, .null, .null, .int 0, .null], vm := .statics 6 },
  { cls := 6, slots := #[.null, .int 0, .int 0, .int 15], vm := .none },
  { cls := 6, slots := #[.null, .int 0, .int 0, .int 3], vm := .none },
  { cls := 6, slots := #[.null, .int 0, .int 0, .int 5], vm := .none },
  { cls := 6, slots := #[.null, .int 0, .int 0, .int 1], vm := .none },
  { cls := 6, slots := #[.null, .int 0, .int 0, .int 0], vm := .none }]
def classes : Array Class := #[k0, k1, k2, k3, k4, k5, k6, k7, k8, k9, k10, k11, k12]
def interned : List (Array UInt16 × Addr) := []
def slotsUsed : Nat := 31
def theMethod : MethodId := ⟨1, 1⟩
def args0 : Array Value := #[.int 5, .int 1]
def aboutOver (below : List Frame) : State where
  vm := { classes := classes, interned := interned.toArray }
  heap := heap
  slotsUsed := slotsUsed
  threads := #[{ frames := .invoking theMethod args0 :: below }]
def below0 : List Frame := [.native { method := ⟨0, 0⟩, args := #[] }]
def about1 : State := aboutOver below0
def p0 : Program := .bare "" "" ""
def e0 : Env := launch0.env 0 0 0
theorem w_frames : about1.frames = Frame.invoking theMethod args0 :: below0 := rfl
set_option maxRecDepth 65536 in
theorem w_args : argsFit about1.vm theMethod args0 = true := by decide +kernel
set_option maxRecDepth 65536 in
theorem w_heap : heapFits about1 = true := by decide +kernel
set_option maxRecDepth 65536 in
theorem w_runnable : about1.curStatus? = some .runnable := by decide +kernel
set_option maxRecDepth 65536 in
theorem w_alone : about1.alone = true := by decide +kernel
set_option maxRecDepth 65536 in
theorem w_named : about1.methodNamed? x = some theMethod := by decide +kernel
set_option maxRecDepth 65536 in
theorem w_hears : about1.hears theMethod below0 = true := by decide +kernel
set_option maxRecDepth 65536 in
theorem w_ripe : about1.ripe theMethod args0 below0 = true := by decide +kernel
theorem w_running : about1.status = .running := rfl
set_option maxRecDepth 65536 in
theorem w_room : about1.hasRoom e0.platform room_1 = true :=
  launch0.hasRoom_least _ room_1 (by decide +kernel) (by decide +kernel) (by decide +kernel) (by decide +kernel) (by decide +kernel) (by decide +kernel)
theorem allAtoms_all (ts : List Jvm.Cond) (a : Array Jvm.Value) (st : Jvm.State) : (allAtoms ts).before a st = ts.all (fun c => c.before a st) := by
  induction ts with
  | nil => rfl
  | cons c t ih =>
    show (Jvm.Cond.and c (allAtoms t)).before a st = _
    rw [Jvm.Cond.before_and, ih, List.all_cons]
def words1 : List Jvm.Cond := Jvm.Cond.code x code maxLocals ret :: tables_1
/-- a 'code' word, met by the world's own term for the bytes: nothing is compared byte by byte -/
theorem code_word {y : MethodName} {bytes : ByteArray} {mx : Nat} {rt : Option FieldType} {a : Array Value} {s : State} {m : MethodId} {meth : Method} {c : Code} (h1 : s.methodNamed? y = some m) (h2 : s.vm.method? m = some meth) (h3 : meth.code = some c) (h4 : c.code = bytes)
    (h5 : (c.maxLocals == mx && c.exceptionTable.isEmpty && decide (c.maxStack ≤ mostOperands) && decide (meth.sig.returnType = rt) && !meth.locks && decide (parseMethodDescriptor y.desc = some meth.sig)) = true) : (Jvm.Cond.code y bytes mx rt).before a s = true := by
  simp only [Bool.and_eq_true, beq_iff_eq, Bool.not_eq_true', decide_eq_true_eq] at h5
  obtain ⟨⟨⟨⟨⟨g1, g2⟩, g3⟩, g4⟩, g5⟩, g6⟩ := h5
  simp [Cond.before, Cond.holds, Cond.value, h1, h2, h3, h4, g1, g2, g3, g4, g5, g6]
def isCode : Jvm.Cond → Bool
  | .code _ _ _ _ => true
  | _ => false
theorem all_split {L : List Jvm.Cond} {P : Jvm.Cond → Bool} (h1 : L.all (fun c => isCode c || P c) = true) (h2 : ∀ c ∈ L.filter isCode, P c = true) : L.all P = true := by
  refine List.all_eq_true.mpr fun c hc => ?_
  have h := List.all_eq_true.mp h1 c hc
  rcases Bool.eq_false_or_eq_true (isCode c) with hi | hi
  · exact h2 c (List.mem_filter.mpr ⟨hc, hi⟩)
  · simpa [hi] using h
set_option maxRecDepth 65536 in
theorem w_c0 : (Jvm.Cond.code x code maxLocals ret).before args0 about1 = true := code_word (m := ⟨1, 1⟩) (meth := k1m1) (c := k1c1) (by decide +kernel) rfl rfl rfl (by decide +kernel)
set_option maxRecDepth 65536 in
theorem w_c1 : (Jvm.Cond.code ({ cls := "com/example/wombat/wombat/LockModeCoversPinLaw", name := "expected", desc := "(II)Z" } : Jvm.MethodName) method_3_code (2 : Nat) (Option.some Jvm.ClassFile.FieldType.boolean)).before args0 about1 = true := code_word (m := ⟨1, 2⟩) (meth := k1m2) (c := k1c2) (by decide +kernel) rfl rfl rfl (by decide +kernel)
set_option maxRecDepth 65536 in
theorem w_c2 : (Jvm.Cond.code ({ cls := "com/example/wombat/wombat/LockMode", name := "covers", desc := "(Lcom/example/wombat/wombat/LockMode;)Z" } : Jvm.MethodName) prog_9_method_7_code (2 : Nat) (Option.some Jvm.ClassFile.FieldType.boolean)).before args0 about1 = true := code_word (m := ⟨6, 0⟩) (meth := k6m0) (c := k6c0) (by decide +kernel) rfl rfl rfl (by decide +kernel)
def codes1 : List Jvm.Cond := [Jvm.Cond.code x code maxLocals ret, Jvm.Cond.code ({ cls := "com/example/wombat/wombat/LockModeCoversPinLaw", name := "expected", desc := "(II)Z" } : Jvm.MethodName) method_3_code (2 : Nat) (Option.some Jvm.ClassFile.FieldType.boolean), Jvm.Cond.code ({ cls := "com/example/wombat/wombat/LockMode", name := "covers", desc := "(Lcom/example/wombat/wombat/LockMode;)Z" } : Jvm.MethodName) prog_9_method_7_code (2 : Nat) (Option.some Jvm.ClassFile.FieldType.boolean)]
set_option maxRecDepth 65536 in
theorem codes_eq : words1.filter isCode = codes1 := rfl
theorem w_codes : ∀ c ∈ words1.filter isCode, c.before args0 about1 = true := by
  rw [codes_eq]
  intro c hc
  simp only [codes1, List.mem_cons, List.not_mem_nil, or_false] at hc
  rcases hc with rfl | rfl | rfl
  · exact w_c0
  · exact w_c1
  · exact w_c2
set_option maxRecDepth 65536 in
theorem w_t1 : (words1.take 24).all (fun c => isCode c || c.before args0 about1) = true := by decide +kernel
set_option maxRecDepth 65536 in
theorem w_t2 : (words1.drop 24).all (fun c => isCode c || c.before args0 about1) = true := by decide +kernel
theorem w_tables : (allAtoms (Jvm.Cond.code x code maxLocals ret :: tables_1)).before args0 about1 = true := by
  rw [allAtoms_all]
  show words1.all (fun c => c.before args0 about1) = true
  refine all_split ?_ w_codes
  rw [← List.take_append_drop 24 words1, List.all_append, w_t1, w_t2]
  rfl
set_option maxRecDepth 65536 in
theorem w_case : (Jvm.Cond.and given_1 narrow_1).before args0 about1 = true := by decide +kernel
theorem w_applies : (headSpec (Jvm.Cond.code x code maxLocals ret :: tables_1) room_1).applies x e0.platform about1 = true :=
  (Spec.applies_iff w_frames).mpr ⟨w_running, w_runnable, w_alone, w_named, w_hears, w_ripe, w_room, w_tables⟩
theorem atStart : AtStart classFile x code maxLocals ret World_1 tables_1 room_1 Calls_1 rest_1 Pre_1 launch0 p0 e0 about1 theMethod args0 below0 :=
  ⟨lists_1, trivial, launch0.admits_env _ _ _, launch0.least_env, fairChoices_fair.cas, fairChoices_fair.clock, w_frames, w_args, w_heap, w_applies, trivial, trivial, w_case⟩
end start1
theorem witness_1 : WitnessClaimed_1 := ⟨start1.p0, start1.e0, start1.about1, start1.theMethod, start1.args0, start1.below0, start1.atStart⟩
end Jvm.Pilot.@@N@@
