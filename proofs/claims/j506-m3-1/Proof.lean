import JvmDerived
import JvmDerived.Pilot.@@N@@Statement
import JvmDerived.Pilot.@@N@@Code
set_option linter.unusedVariables false
set_option linter.unusedSimpArgs false
namespace Jvm.Pilot.@@N@@
open Jvm Jvm.ClassFile Sem Op Lib Jvm.Free Jvm.Stand Jvm.LawKit Jvm.RoadKit Bundle Jvm.Pilot.@@N@@.Jvm.D
section Own
variable {p : Program} {l : Launch} {e : Env} {R : Room} {s : State} {m : MethodId} {args : Array Value} {below : List Frame} {meth : Method} {c : Code} {T : State} {locs : List Loc} {cells slots : Nat}
/-- from U the run comes back to 'below' and its end is as P says -/
def Go (p : Program) (e : Env) (below : List Frame) (U : State) (P : Outcome → State → Prop) : Prop := ∃ s₂ o, Steps p.tables e below U s₂ ∧ s₂.status = .running ∧ Ended s₂ below o ∧ P o s₂
theorem Go.mp {U U' : State} {P : Outcome → State → Prop} (h : ∀ t, Steps p.tables e below U' t → Steps p.tables e below U t) (k : Go p e below U' P) : Go p e below U P := by
  obtain ⟨a, b, c, d⟩ := k; exact ⟨a, b, h _ c, d⟩
/-- how a body ends -/
def FinE (s : State) (kc ks : Nat) (Q : Option Value → Heap → List Loc → Prop) (o : Outcome) (t : State) : Prop := ∃ v L, o = .returned v ∧ Q v t.heap L ∧ FrameEnd s o t L kc ks
/-- a body's contract -/
abbrev Ctr (l : Launch) (y : MethodName) (bytes : ByteArray) (maxL : Nat) (ret : Option FieldType) (ws : List Jvm.Cond) (rm : Room) (Z : State) (as' : Array Value) (h : Heap) (Q : Option Value → Heap → List Loc → Prop) : Prop :=
  MetFree l y (head1 (Jvm.Cond.code y bytes maxL ret :: ws) rm) (fun a U => a = as' ∧ Z.Warmed39 U.vm ∧ U.heap = h) (fun _ _ _ _ _ => True) (fun _ U o U' => ∃ v L, o = .returned v ∧ Q v U'.heap L ∧ FrameEnd U o U' L rm.cells rm.slots)
theorem own_enter {y : MethodName} {bytes : ByteArray} {maxL : Nat} {ret : Option FieldType} {ws : List Jvm.Cond} {rm : Room} {Z : State} {as' : Array Value} {h : Heap} {Q : Option Value → Heap → List Loc → Prop} (hpn : plainName y.cls = true)
    (body : ∀ (p : Program) (e : Env) (s : State) (m : MethodId) (below : List Frame) (meth : Method) (c : Code) (s₁ : State), p.tables.exec = Jvm.exec → c.code = bytes → c.maxLocals = maxL → s.vm.findClass y.cls = some m.cls → meth.name = y.name → meth.sig.returnType = ret → meth.locks = false → Z.Warmed39 s.vm → Stand p l e rm s m as' below meth c s₁ [] 0 0 → s₁.heap = h →
      Go p e below (s₁.setTop (entryFrame m as' maxL)) (FinE s rm.cells rm.slots Q)) : Ctr l y bytes maxL ret ws rm Z as' h Q := by
  refine MetFree.of_bodySF (plainFor_of_name hpn) hisR ?_
  intro p e s m args below meth c s₁ Bd hml0 hP hK
  obtain ⟨rfl, hZ, hh⟩ := hP
  exact body p e s m below meth c s₁ Bd.exec Bd.bytes hml0 (findClass_of_methodNamed Bd.named) (name_of_methodNamed Bd.named Bd.method).1 Bd.returns Bd.notSynchronized hZ (Stand.of_body Bd) (by rw [← hh, Bd.state]; rfl)
theorem own_retN (X : Stand p l e R s m args below meth c T locs cells slots) (hx : p.tables.exec = Jvm.exec) {t : FieldType} (hret : meth.sig.returnType = some t) (hlk : meth.locks = false) (ht : t = .boolean ∨ t = .byte ∨ t = .char ∨ t = .short) {kc ks : Nat} {Q : Option Value → Heap → List Loc → Prop} {pc : Nat} {Ls : Array Slot} {z : Int32} {rest : List Value}
    (hd : decode c.code pc = .ok (.ireturn, 1)) (hk : cells ≤ kc) (hn : slots ≤ ks) (hq : Q (some (.int (nar t z))) T.heap locs) : Go p e below (T.setTop (mkF m pc Ls (.int z :: rest))) (FinE s kc ks Q) := by
  obtain ⟨fs, hr, hrun, hended, hW, hsame⟩ := X.leave (v := some (.int (nar t z))) (fun h => by rw [hret] at h; cases h) hlk
  exact ⟨_, _, retN X hx hret ht hd hr, hrun, hended, _, _, rfl, hq, ⟨_, rfl⟩, hW, hsame.mono hk hn⟩
theorem own_retZ (X : Stand p l e R s m args below meth c T locs cells slots) (hx : p.tables.exec = Jvm.exec) (hret : meth.sig.returnType = some .boolean) (hlk : meth.locks = false) {kc ks : Nat} {Q : Option Value → Heap → List Loc → Prop} {pc : Nat} {Ls : Array Slot} {z : Int32} {rest : List Value}
    (hd : decode c.code pc = .ok (.ireturn, 1)) (hk : cells ≤ kc) (hn : slots ≤ ks) (hz : z &&& 1 = z) (hq : Q (some (.int z)) T.heap locs) : Go p e below (T.setTop (mkF m pc Ls (.int z :: rest))) (FinE s kc ks Q) :=
  own_retN X hx hret hlk (Or.inl rfl) hd hk hn (by show Q (some (.int (z &&& 1))) T.heap locs; rw [hz]; exact hq)
theorem own_retW (X : Stand p l e R s m args below meth c T locs cells slots) (hx : p.tables.exec = Jvm.exec) {t : FieldType} {w : Value} {i : Instr} (hret : meth.sig.returnType = some t) (hlk : meth.locks = false) (hw : narrow t w = w)
    (hi : (i = .ireturn ∧ (t = .int ∨ t = .boolean ∨ t = .byte ∨ t = .char ∨ t = .short) ∧ ∃ z, w = .int z) ∨ (i = .lreturn ∧ t = .long ∧ ∃ z, w = .long z) ∨ (i = .dreturn ∧ t = .double ∧ ∃ z, w = .double z) ∨ (i = .freturn ∧ t = .float ∧ ∃ z, w = .float z) ∨ (i = .areturn ∧ t.isReference = true ∧ w.isRef = true))
    {kc ks : Nat} {Q : Option Value → Heap → List Loc → Prop} {pc : Nat} {Ls : Array Slot} {rest : List Value}
    (hd : decode c.code pc = .ok (i, 1)) (hk : cells ≤ kc) (hn : slots ≤ ks) (hq : Q (some w) T.heap locs) : Go p e below (T.setTop (mkF m pc Ls (w :: rest))) (FinE s kc ks Q) := by
  obtain ⟨fs, hr, hrun, hended, hW, hsame⟩ := X.leave (v := some w) (fun h => by rw [hret] at h; cases h) hlk
  exact ⟨_, _, retOut X hx hret hw hi hd hr, hrun, hended, _, _, rfl, hq, ⟨_, rfl⟩, hW, hsame.mono hk hn⟩
theorem own_retI (X : Stand p l e R s m args below meth c T locs cells slots) (hx : p.tables.exec = Jvm.exec) (hret : meth.sig.returnType = some .int) (hlk : meth.locks = false) {kc ks : Nat} {Q : Option Value → Heap → List Loc → Prop} {pc : Nat} {Ls : Array Slot} {z : Int32} {rest : List Value}
    (hd : decode c.code pc = .ok (.ireturn, 1)) (hk : cells ≤ kc) (hn : slots ≤ ks) (hq : Q (some (.int z)) T.heap locs) : Go p e below (T.setTop (mkF m pc Ls (.int z :: rest))) (FinE s kc ks Q) :=
  own_retW X hx hret hlk rfl (Or.inl ⟨rfl, Or.inl rfl, _, rfl⟩) hd hk hn hq
theorem own_retA (X : Stand p l e R s m args below meth c T locs cells slots) (hx : p.tables.exec = Jvm.exec) {t : FieldType} (hret : meth.sig.returnType = some t) (hlk : meth.locks = false) (ht : t.isReference = true) {w : Value} (hw : w.isRef = true) {kc ks : Nat} {Q : Option Value → Heap → List Loc → Prop} {pc : Nat} {Ls : Array Slot} {rest : List Value}
    (hd : decode c.code pc = .ok (.areturn, 1)) (hk : cells ≤ kc) (hn : slots ≤ ks) (hq : Q (some w) T.heap locs) : Go p e below (T.setTop (mkF m pc Ls (w :: rest))) (FinE s kc ks Q) :=
  own_retW X hx hret hlk (by cases t <;> first | (cases ht; done) | (cases w <;> first | rfl | cases hw)) (Or.inr (Or.inr (Or.inr (Or.inr ⟨rfl, ht, hw⟩)))) hd hk hn hq
theorem own_retV (X : Stand p l e R s m args below meth c T locs cells slots) (hx : p.tables.exec = Jvm.exec) (hret : meth.sig.returnType = none) (hlk : meth.locks = false) {kc ks : Nat} {Q : Option Value → Heap → List Loc → Prop} {pc : Nat} {Ls : Array Slot}
    (hd : decode c.code pc = .ok (.return_, 1)) (hk : cells ≤ kc) (hn : slots ≤ ks) (hq : Q none T.heap locs) : Go p e below (T.setTop (mkF m pc Ls [])) (FinE s kc ks Q) := by
  obtain ⟨fs, hr, hrun, hended, hW, hsame⟩ := X.leave (v := none) (fun _ => rfl) hlk
  exact ⟨_, _, X.returnOut hx hret hd hr, hrun, hended, _, _, rfl, hq, ⟨_, rfl⟩, hW, hsame.mono hk hn⟩
/-- the wide end (behind a cold ldc of a String) -/
def FinW (s : State) (kc ks : Nat) (Q : Option Value → Heap → List Loc → Prop) (o : Outcome) (t : State) : Prop := ∃ v L, o = .returned v ∧ Q v t.heap L ∧ ReturnedEndW s o t L kc ks
abbrev CtrW (l : Launch) (y : MethodName) (bytes : ByteArray) (maxL : Nat) (ret : Option FieldType) (ws : List Jvm.Cond) (rm : Room) (Z : State) (as' : Array Value) (h : Heap) (Q : Option Value → Heap → List Loc → Prop) : Prop :=
  MetFree l y (head1 (Jvm.Cond.code y bytes maxL ret :: ws) rm) (fun a U => a = as' ∧ Z.Warmed39 U.vm ∧ U.heap = h) (fun _ _ _ _ _ => True) (fun _ U o U' => ∃ v L, o = .returned v ∧ Q v U'.heap L ∧ ReturnedEndW U o U' L rm.cells rm.slots)
theorem own_enterW {y : MethodName} {bytes : ByteArray} {maxL : Nat} {ret : Option FieldType} {ws : List Jvm.Cond} {rm : Room} {Z : State} {as' : Array Value} {h : Heap} {Q : Option Value → Heap → List Loc → Prop} (hpn : plainName y.cls = true)
    (body : ∀ (p : Program) (e : Env) (s : State) (m : MethodId) (below : List Frame) (meth : Method) (c : Code) (s₁ : State), p.tables.exec = Jvm.exec → c.code = bytes → c.maxLocals = maxL → s.vm.findClass y.cls = some m.cls → meth.name = y.name → meth.sig.returnType = ret → meth.locks = false → Z.Warmed39 s.vm → Stand p l e rm s m as' below meth c s₁ [] 0 0 → s₁.heap = h →
      Go p e below (s₁.setTop (entryFrame m as' maxL)) (FinW s rm.cells rm.slots Q)) : CtrW l y bytes maxL ret ws rm Z as' h Q := by
  refine MetFree.of_bodySF (plainFor_of_name hpn) hisR ?_
  intro p e s m args below meth c s₁ Bd hml0 hP hK
  obtain ⟨rfl, hZ, hh⟩ := hP
  exact body p e s m below meth c s₁ Bd.exec Bd.bytes hml0 (findClass_of_methodNamed Bd.named) (name_of_methodNamed Bd.named Bd.method).1 Bd.returns Bd.notSynchronized hZ (Stand.of_body Bd) (by rw [← hh, Bd.state]; rfl)
theorem own_retZW {vm1 : Vm} {k1 : Nat} (X : Stand p l e R (s.setVm vm1) m args below meth c T locs cells slots) (hx : p.tables.exec = Jvm.exec) (hret : meth.sig.returnType = some .boolean) (hlk : meth.locks = false) (hS : s.Since vm1 k1) (hB : k1 ≤ T.heap.size) {kc ks : Nat} {Q : Option Value → Heap → List Loc → Prop} {pc : Nat} {Ls : Array Slot} {z : Int32} {rest : List Value}
    (hd : decode c.code pc = .ok (.ireturn, 1)) (hk : cells ≤ kc) (hn : slots ≤ ks) (hz : z &&& 1 = z) (hq : Q (some (.int z)) T.heap locs) : Go p e below (T.setTop (mkF m pc Ls (.int z :: rest))) (FinW s kc ks Q) := by
  obtain ⟨fs, hr, hrun, hended, h1, h2, h3, h4⟩ := X.leaveW hS hB (v := some (.int (nar .boolean z))) (fun h => by rw [hret] at h; cases h) hlk
  have e1 : nar .boolean z = z := hz
  exact ⟨_, _, retN X hx hret (Or.inl rfl) hd hr, hrun, hended, _, _, rfl, by rw [e1]; exact hq, h1, h2, h3, h4.mono hk hn⟩
section Calls
variable {Z : State} {a0 : Array Value} {h : Heap} {y : MethodName} {bytes : ByteArray} {maxL : Nat} {ret : Option FieldType} {rm : Room} {as' : Array Value} {Q : Option Value → Heap → List Loc → Prop} {own : String} {index : Nat} {pc : Nat} {Ls : Array Slot} {st argsL rest : List Value} {ps : List FieldType} {r : Option FieldType}
theorem own_callS (X : Stand p l e R s m args below meth c T locs cells slots) (hx : p.tables.exec = Jvm.exec) (hZ : Z.Warmed39 s.vm) (hown : s.vm.findClass own = some m.cls) (w1 : (Jvm.Cond.methodLink own index y).before a0 Z = true) (w2 : (Jvm.Cond.static y).before a0 Z = true) (w3 : (Jvm.Cond.initialized y.cls).before a0 Z = true) (w4 : (Jvm.Cond.code y bytes maxL ret).before a0 Z = true)
    (hy : y.cls ≠ "java/lang/invoke/MethodHandle" ∧ y.cls ≠ "java/lang/invoke/VarHandle") (hM : Ctr l y bytes maxL ret [] rm Z as' h Q) (eT : T.heap = h) (hpd : parseMethodDescriptor y.desc = some ⟨ps, r⟩) (hd : decode c.code pc = .ok (.invokestatic index, 3)) (hsize : Ls.size = c.maxLocals)
    (hlen : argsL.length = ps.length) (hst : st = argsL.reverse ++ rest) (has : argsL.toArray = as') {W : Nat} (hW : (rest.map fun v => v.category).sum ≤ W) (hf : rm.frames + 1 ≤ R.frames) (hl : W + (maxL + 11) + rm.locals ≤ R.locals) (hc : cells + rm.cells ≤ R.cells) (hs : slots + rm.slots ≤ R.slots) :
    ∃ v T' L, Stand p l e R s m args below meth c T' (locs ++ L) (cells + rm.cells) (slots + rm.slots) ∧ Q v T'.heap L ∧ ∀ target, Steps p.tables e below (T'.setTop (mkF m (pc + 3) Ls (v.toList ++ rest))) target → Steps p.tables e below (T.setTop (mkF m pc Ls st)) target := by
  obtain ⟨v, _, ⟨T', L', k', n'⟩, -, X', ⟨Lc, hQ, l1, y1, z1⟩, st'⟩ := Jvm.LawKit.callS X hx (y := y) hown (mvT hZ w1) (mvT hZ w2) (mvT hZ w3) (mvT hZ w4) hy (backOf (W := W) hM hZ w4 w3 hf hl) (g := mkF m pc Ls st) rfl hsize (argsL := argsL) (rest := rest) (lenOf hpd hlen) hst (by show 2 * 0 + _ ≤ _; omega) hd (fun _ _ => ⟨has, eT, hc, hs⟩)
  dsimp only [Pt.U, Pt.locs, Pt.cells, Pt.slots] at X' l1 y1 z1 st' hQ
  subst l1 y1 z1
  exact ⟨v, T', Lc, X', hQ, st'⟩
theorem own_callV {C : String} {b : Addr} (X : Stand p l e R s m args below meth c T locs cells slots) (hx : p.tables.exec = Jvm.exec) (hZ : Z.Warmed39 s.vm) (hown : s.vm.findClass own = some m.cls) (w1 : (Jvm.Cond.methodLink own index y).before a0 Z = true) (w2 : (Jvm.Cond.declares y).before a0 Z = true) (w3 : (Jvm.Cond.selects C y y).before a0 Z = true) (w4 : (Jvm.Cond.instanceMethod y).before a0 Z = true)
    (w5 : (Jvm.Cond.code y bytes maxL ret).before a0 Z = true) (w6 : (Jvm.Cond.initialized y.cls).before a0 Z = true) (hy : y.cls ≠ "java/lang/invoke/MethodHandle" ∧ y.cls ≠ "java/lang/invoke/VarHandle") (hM : Ctr l y bytes maxL ret [] rm Z as' h Q) (eT : T.heap = h) (E : Exa Z h b C) (hpd : parseMethodDescriptor y.desc = some ⟨ps, r⟩) (hd : decode c.code pc = .ok (.invokevirtual index, 3)) (hsize : Ls.size = c.maxLocals)
    (hlen : argsL.length = ps.length) (hst : st = argsL.reverse ++ .ref b :: rest) (has : (.ref b :: argsL).toArray = as') {W : Nat} (hW : (rest.map fun v => v.category).sum ≤ W) (hf : rm.frames + 1 ≤ R.frames) (hl : W + (maxL + 11) + rm.locals ≤ R.locals) (hc : cells + rm.cells ≤ R.cells) (hs : slots + rm.slots ≤ R.slots) :
    ∃ v T' L, Stand p l e R s m args below meth c T' (locs ++ L) (cells + rm.cells) (slots + rm.slots) ∧ Q v T'.heap L ∧ ∀ target, Steps p.tables e below (T'.setTop (mkF m (pc + 3) Ls (v.toList ++ rest))) target → Steps p.tables e below (T.setTop (mkF m pc Ls st)) target := by
  obtain ⟨cq, kq, qa, qb, qc⟩ := isOf hZ eT E
  obtain ⟨v, _, ⟨T', L', k', n'⟩, -, X', ⟨Lc, hQ, l1, y1, z1⟩, st'⟩ := X.virtualBack hx (y := y) (z := y) hown (mvT hZ w1) (mvT hZ w2) (notFace_of_selects (args := #[]) (mvT hZ w3)) (mvT hZ w3) (mvT hZ w4) hy (backOf (W := W) hM hZ w5 w6 hf hl) qa qc (g := mkF m pc Ls st) rfl hsize (Steps.refl _) (argsL := argsL) (rest := rest) (lenOf hpd hlen) hst (by show 2 * 0 + _ ≤ _; omega) hd (fun _ _ => ⟨has, eT, hc, hs⟩)
  dsimp only [Pt.U, Pt.locs, Pt.cells, Pt.slots] at X' l1 y1 z1 st' hQ
  subst l1 y1 z1
  exact ⟨v, T', Lc, X', hQ, fun t k => st'.trans k⟩
theorem own_callI {b : Addr} (X : Stand p l e R s m args below meth c T locs cells slots) (hx : p.tables.exec = Jvm.exec) (hZ : Z.Warmed39 s.vm) (hown : s.vm.findClass own = some m.cls) (w1 : (Jvm.Cond.methodLink own index y).before a0 Z = true) (w4 : (Jvm.Cond.instanceMethod y).before a0 Z = true)
    (w5 : (Jvm.Cond.code y bytes maxL none).before a0 Z = true) (w6 : (Jvm.Cond.initialized y.cls).before a0 Z = true) (hn : y.name = "<init>") (hy : y.cls ≠ "java/lang/invoke/MethodHandle" ∧ y.cls ≠ "java/lang/invoke/VarHandle") (hM : Ctr l y bytes maxL none [] rm Z as' h Q) (eT : T.heap = h) (hpd : parseMethodDescriptor y.desc = some ⟨ps, r⟩) (hd : decode c.code pc = .ok (.invokespecial index, 3)) (hsize : Ls.size = c.maxLocals)
    (hlen : argsL.length = ps.length) (hst : st = argsL.reverse ++ .ref b :: rest) (has : (.ref b :: argsL).toArray = as') {W : Nat} (hW : (rest.map fun v => v.category).sum ≤ W) (hf : rm.frames + 1 ≤ R.frames) (hl : W + (maxL + 11) + rm.locals ≤ R.locals) (hc : cells + rm.cells ≤ R.cells) (hs : slots + rm.slots ≤ R.slots) :
    ∃ v T' L, Stand p l e R s m args below meth c T' (locs ++ L) (cells + rm.cells) (slots + rm.slots) ∧ Q v T'.heap L ∧ ∀ target, Steps p.tables e below (T'.setTop (mkF m (pc + 3) Ls (v.toList ++ rest))) target → Steps p.tables e below (T.setTop (mkF m pc Ls st)) target := by
  obtain ⟨v, _, ⟨T', L', k', n'⟩, -, X', ⟨Lc, hQ, l1, y1, z1⟩, st'⟩ := X.specialBack hx (y := y) hn hown (mvT hZ w1) (mvT hZ w4) (mvT hZ w5) hy (backOf (W := W) hM hZ w5 w6 hf hl) (g := mkF m pc Ls st) rfl hsize (Steps.refl _) (a := b) (argsL := argsL) (rest := rest) (lenOf hpd hlen) hst (by show 2 * 0 + _ ≤ _; omega) hd (fun _ _ => ⟨has, eT, hc, hs⟩)
  dsimp only [Pt.U, Pt.locs, Pt.cells, Pt.slots] at X' l1 y1 z1 st' hQ
  subst l1 y1 z1
  exact ⟨v, T', Lc, X', hQ, fun t k => st'.trans k⟩
end Calls
section Facts
variable {Z : State} {h : Heap} {a b : Addr} {C F D K O n d : String} {v w : Value}
theorem own_fld_fun (F1 : Fld Z h a C n d v) (F2 : Fld Z h a C n d w) : v = w := by
  obtain ⟨c1, cf1, k1, i1, f1, h1, h2, h3, h4, h5, h6, h7⟩ := F1
  obtain ⟨c2, cf2, k2, i2, f2, g1, g2, g3, g4, g5, g6, g7⟩ := F2
  cases h1.symm.trans g1
  cases h2.symm.trans g2
  exact Option.some.inj (h7.symm.trans g7)
theorem own_ne {i j : Int32} (F1 : Fld Z h a C n d (.int i)) (F2 : Fld Z h b C n d (.int j)) (hij : i ≠ j) : a ≠ b := fun e => by
  subst e; exact hij (Value.int.inj (own_fld_fun F1 F2))
theorem own_sta {args : Array Value} (hn : (Jvm.Cond.exactly (.static C F D) K).value args Z none Z [] = some true) (hi : (Jvm.Cond.initialized C).before args Z = true) (hl : (Jvm.Cond.laysStatic C F D).before args Z = true) :
    ∃ w : Addr, Sta Z Z.heap C F D (.ref w) ∧ Exa Z Z.heap w K ∧ (Term.static C F D).eval args Z none [] Z = some (.ref w) := by
  obtain ⟨a', c', cell, k, e1, -⟩ := Cond.exactly_spec (Cond.before_iff.mpr hn)
  exact ⟨a', Sta.start e1 (Or.inr ⟨hi, hl⟩), Exa.start e1 hn, e1⟩
theorem own_ord {args : Array Value} {k : Int32} {t : Term} (hn : (Jvm.Cond.eq (.field t O n d) (.int k)).value args Z none Z [] = some true) (ev : t.eval args Z none [] Z = some (.ref a)) : Fld Z Z.heap a O n d (.int k) := by
  refine Fld.start ?_
  simp only [Jvm.Cond.value, Term.eval, ev] at hn
  cases hq : Z.fieldOf? a O n d with
  | none => simp [hq] at hn
  | some v => cases v <;> simp_all
theorem own_fref {args : Array Value} {t u : Term} (hn : (Jvm.Cond.eq (.field t O n d) u).value args Z none Z [] = some true) (ev : t.eval args Z none [] Z = some (.ref a)) (eu : u.eval args Z none [] Z = some (.ref b)) : Fld Z Z.heap a O n d (.ref b) := by
  refine Fld.start ?_
  simp only [Jvm.Cond.value, Term.eval, ev, eu] at hn
  cases hq : Z.fieldOf? a O n d with
  | none => simp [hq] at hn
  | some v => cases v <;> simp_all
theorem own_arrOf {args : Array Value} {t : Term} {ty : FieldType} (hn : (Jvm.Cond.arrayOf t ty).value args Z none Z [] = some true) : ∃ a c, t.eval args Z none [] Z = some (.ref a) ∧ Arr Z Z.heap a c ty := by
  cases hq : t.eval args Z none [] Z with
  | none => simp [Jvm.Cond.value, hq] at hn
  | some v =>
    cases v with
    | ref a => obtain ⟨c, A⟩ := Arr.start hq hn; exact ⟨a, c, rfl, A⟩
    | _ => simp [Jvm.Cond.value, hq] at hn
theorem own_arrLen {args : Array Value} {t : Term} {ty : FieldType} {cl : Cell} {k : Int32} (A : Arr Z Z.heap a cl ty) (ev : t.eval args Z none [] Z = some (.ref a)) (hn : (Jvm.Cond.eq (.length t) (.int k)).value args Z none Z [] = some true) : cl.slots.size < 2 ^ 31 ∧ cl.slots.size.toInt32 = k := by
  have hA : Z.arrayAt? a = some cl := A.fin (Vm.Alike.refl _)
  by_cases q : cl.slots.size < 2 ^ 31
  · refine ⟨q, ?_⟩
    have e : (Term.length t).eval args Z none [] Z = some (.int cl.slots.size.toInt32) := by simp [Term.eval, ev, hA, q]
    have e2 : (Term.int k).eval args Z none [] Z = some (.int k) := rfl
    simp only [Jvm.Cond.value, e, e2] at hn
    simpa using hn
  · have e : (Term.length t).eval args Z none [] Z = none := by simp [Term.eval, ev, hA, q]
    simp [Jvm.Cond.value, e] at hn
theorem own_arrElem {args : Array Value} {t u : Term} {ty : FieldType} {cl : Cell} {j : Int32} (A : Arr Z Z.heap a cl ty) (ev : t.eval args Z none [] Z = some (.ref a)) (eu : u.eval args Z none [] Z = some (.ref b)) (hj : ¬ j < 0) (hn : (Jvm.Cond.eq (.elem t (.int j)) u).value args Z none Z [] = some true) : cl.slots[j.toNatClampNeg]? = some (.ref b) := by
  have hA : Z.arrayAt? a = some cl := A.fin (Vm.Alike.refl _)
  have e : (Term.elem t (.int j)).eval args Z none [] Z = cl.slots[j.toNatClampNeg]? := by simp [Term.eval, ev, hA, hj]
  cases hq : cl.slots[j.toNatClampNeg]? with
  | none => rw [hq] at e; simp [Jvm.Cond.value, e] at hn
  | some v => rw [hq] at e; simp only [Jvm.Cond.value, e, eu] at hn; cases v <;> simp_all
theorem own_zand (x : Int32) : (0 : Int32) &&& x = (0 : Int32) := Int32.zero_and
theorem own_nin {x a : Addr} {ws : List Addr} (h : x ≠ a) (k : x ∉ ws) : x ∉ a :: ws := fun q => (List.mem_cons.mp q).elim h k
theorem own_plain {K : String} {ws : List Addr} (E : Exa Z h a K) (k : ∀ x ∈ ws, ∃ K', Exa Z h x K') : ∀ x ∈ a :: ws, ∃ K', Exa Z h x K' := fun x q => (List.mem_cons.mp q).elim (fun e => ⟨K, e ▸ E⟩) (k x)
theorem own_sta_keep {h' : Heap} {ws : List Addr} (S : Sta Z h C n d v) (K : Keep h h' ws) (hp : ∀ x ∈ ws, ∃ K', Exa Z h x K') : Sta Z h' C n d v := by
  obtain ⟨cf, i, k, f, st, cell, h1, h2, h3, h4, h5, h6, h7⟩ := S
  refine ⟨cf, i, k, f, st, cell, h1, h2, h3, h4, K.2.1 _ _ h5 fun q => ?_, h6, h7⟩
  obtain ⟨K', cl, kk, e1, -, -, e4, -⟩ := hp _ q
  cases h5.symm.trans e1
  rw [e4] at h6; cases h6
theorem own_mem1 {h0 : Heap} {ws : List Addr} {a : Addr} (q : a ∈ ws ∨ h0.size ≤ a) : ∀ x ∈ [a], x ∈ ws ∨ h0.size ≤ x := fun x hx => by cases List.mem_singleton.mp hx; exact q
theorem own_mem2 {h0 : Heap} {ws : List Addr} {a b : Addr} (q : a ∈ ws ∨ h0.size ≤ a) (r : b ∈ ws ∨ h0.size ≤ b) : ∀ x ∈ [a, b], x ∈ ws ∨ h0.size ≤ x := fun x hx => by
  rcases List.mem_cons.mp hx with rfl | hx
  · exact q
  · cases List.mem_singleton.mp hx; exact r
theorem own_fitR {ty : FieldType} (ht : ty.isReference = true) (hv : v.isRef = true) : fits ty v = true := by cases ty <;> first | (cases ht; done) | (cases v <;> first | rfl | cases hv)
theorem own_narR {ty : FieldType} (ht : ty.isReference = true) (hv : v.isRef = true) : narrow ty v = v := by cases ty <;> first | (cases ht; done) | (cases v <;> first | rfl | cases hv)
theorem own_bit {z : Int32} (hz : z = 0 ∨ z = 1) : z &&& 1 = z := by rcases hz with rfl | rfl <;> decide
theorem own_narZ {z : Int32} (hz : z = 0 ∨ z = 1) : narrow .boolean (.int z) = .int z := by rcases hz with rfl | rfl <;> rfl
theorem own_fitZ {z : Int32} (hz : z = 0 ∨ z = 1) : fits .boolean (.int z) = true := by rcases hz with rfl | rfl <;> rfl
theorem own_pad {dv : Value} (k : Nat) (i : Nat) : (List.replicate k dv).getD i dv = ([] : List Value).getD i dv := by
  simp only [List.getD, List.getElem?_replicate]
  split <;> rfl
end Facts
end Own
section G
variable {p : Program} {l : Launch} {e : Env} {R : Room} {s : State} {m : MethodId} {args : Array Value} {below : List Frame} {meth : Method} {c : Code} {T : State} {locs : List Loc} {cells slots : Nat} {pc : Nat} {Ls : Array Slot} {st : List Value} {P : Outcome → State → Prop}
theorem g_iloadN (X : Stand p l e R s m args below meth c T locs cells slots) (hx : p.tables.exec = Jvm.exec) {k : Fin 4} {v : Int32} (hd : decode c.code pc = .ok (.iload_n k, 1)) (hl : Ls[k.val]? = some (.val (.int v))) (hr : Go p e below (T.setTop (mkF m (pc + 1) Ls (.int v :: st))) P) : Go p e below (T.setTop (mkF m pc Ls st)) P := Go.mp (fun _ k => XS.iloadN X.here hx rfl hd hl k) hr
theorem g_iload (X : Stand p l e R s m args below meth c T locs cells slots) (hx : p.tables.exec = Jvm.exec) {k : Nat} {v : Int32} (hd : decode c.code pc = .ok (.iload k, 2)) (hl : Ls[k]? = some (.val (.int v))) (hr : Go p e below (T.setTop (mkF m (pc + 2) Ls (.int v :: st))) P) : Go p e below (T.setTop (mkF m pc Ls st)) P := Go.mp (fun _ k => XS.iload X.here hx rfl hd hl k) hr
theorem g_lloadN (X : Stand p l e R s m args below meth c T locs cells slots) (hx : p.tables.exec = Jvm.exec) {k : Fin 4} {v : Int64} (hd : decode c.code pc = .ok (.lload_n k, 1)) (hl : Ls[k.val]? = some (.val (.long v))) (hr : Go p e below (T.setTop (mkF m (pc + 1) Ls (.long v :: st))) P) : Go p e below (T.setTop (mkF m pc Ls st)) P := Go.mp (fun _ k => XS.lloadN X.here hx rfl hd hl k) hr
theorem g_lload (X : Stand p l e R s m args below meth c T locs cells slots) (hx : p.tables.exec = Jvm.exec) {k : Nat} {v : Int64} (hd : decode c.code pc = .ok (.lload k, 2)) (hl : Ls[k]? = some (.val (.long v))) (hr : Go p e below (T.setTop (mkF m (pc + 2) Ls (.long v :: st))) P) : Go p e below (T.setTop (mkF m pc Ls st)) P := Go.mp (fun _ k => XS.lload X.here hx rfl hd hl k) hr
theorem g_aloadN (X : Stand p l e R s m args below meth c T locs cells slots) (hx : p.tables.exec = Jvm.exec) {k : Fin 4} {v : Value} (hd : decode c.code pc = .ok (.aload_n k, 1)) (hl : Ls[k.val]? = some (.val v)) (hv : v.isRef = true) (hr : Go p e below (T.setTop (mkF m (pc + 1) Ls (v :: st))) P) : Go p e below (T.setTop (mkF m pc Ls st)) P := Go.mp (fun _ k => XS.aloadN X.here hx rfl hd hl hv k) hr
theorem g_aload (X : Stand p l e R s m args below meth c T locs cells slots) (hx : p.tables.exec = Jvm.exec) {k : Nat} {v : Value} (hd : decode c.code pc = .ok (.aload k, 2)) (hl : Ls[k]? = some (.val v)) (hv : v.isRef = true) (hr : Go p e below (T.setTop (mkF m (pc + 2) Ls (v :: st))) P) : Go p e below (T.setTop (mkF m pc Ls st)) P := Go.mp (fun _ k => XS.aload X.here hx rfl hd hl hv k) hr
theorem g_istoreN (X : Stand p l e R s m args below meth c T locs cells slots) (hx : p.tables.exec = Jvm.exec) {k : Fin 4} {v : Int32} (l' : Array Slot) (hd : decode c.code pc = .ok (.istore_n k, 1)) (hl : storeLocals Ls k.val (.int v) = some l') (hr : Go p e below (T.setTop (mkF m (pc + 1) l' st)) P) : Go p e below (T.setTop (mkF m pc Ls (.int v :: st))) P := Go.mp (fun _ k => XS.istoreN X.here hx rfl hd rfl hl k) hr
theorem g_istore (X : Stand p l e R s m args below meth c T locs cells slots) (hx : p.tables.exec = Jvm.exec) {k : Nat} {v : Int32} (l' : Array Slot) (hd : decode c.code pc = .ok (.istore k, 2)) (hl : storeLocals Ls k (.int v) = some l') (hr : Go p e below (T.setTop (mkF m (pc + 2) l' st)) P) : Go p e below (T.setTop (mkF m pc Ls (.int v :: st))) P := Go.mp (fun _ k => XS.istore X.here hx rfl hd rfl hl k) hr
theorem g_astoreN (X : Stand p l e R s m args below meth c T locs cells slots) (hx : p.tables.exec = Jvm.exec) {k : Fin 4} {v : Value} (l' : Array Slot) (hd : decode c.code pc = .ok (.astore_n k, 1)) (hv : v.isRef = true) (hl : storeLocals Ls k.val v = some l') (hr : Go p e below (T.setTop (mkF m (pc + 1) l' st)) P) : Go p e below (T.setTop (mkF m pc Ls (v :: st))) P := Go.mp (fun _ k => XS.astoreN X.here hx rfl hd rfl hv hl k) hr
theorem g_astore (X : Stand p l e R s m args below meth c T locs cells slots) (hx : p.tables.exec = Jvm.exec) {k : Nat} {v : Value} (l' : Array Slot) (hd : decode c.code pc = .ok (.astore k, 2)) (hv : v.isRef = true) (hl : storeLocals Ls k v = some l') (hr : Go p e below (T.setTop (mkF m (pc + 2) l' st)) P) : Go p e below (T.setTop (mkF m pc Ls (v :: st))) P := Go.mp (fun _ k => XS.astore X.here hx rfl hd rfl hv hl k) hr
theorem g_iconst (X : Stand p l e R s m args below meth c T locs cells slots) (hx : p.tables.exec = Jvm.exec) {i : Int} (v : Int32) (hd : decode c.code pc = .ok (.iconst i, 1)) (hv : Int32.ofInt i = v) (hr : Go p e below (T.setTop (mkF m (pc + 1) Ls (.int v :: st))) P) : Go p e below (T.setTop (mkF m pc Ls st)) P := Go.mp (fun _ k => XT.iconstV X.here hx rfl v hd hv k) hr
theorem g_bipush (X : Stand p l e R s m args below meth c T locs cells slots) (hx : p.tables.exec = Jvm.exec) {i : Int} (v : Int32) (hd : decode c.code pc = .ok (.bipush i, 2)) (hv : (Int8.ofInt i).toInt32 = v) (hr : Go p e below (T.setTop (mkF m (pc + 2) Ls (.int v :: st))) P) : Go p e below (T.setTop (mkF m pc Ls st)) P := Go.mp (fun _ k => XT.bipushV X.here hx rfl v hd hv k) hr
theorem g_sipush (X : Stand p l e R s m args below meth c T locs cells slots) (hx : p.tables.exec = Jvm.exec) {i : Int} (v : Int32) (hd : decode c.code pc = .ok (.sipush i, 3)) (hv : (Int16.ofInt i).toInt32 = v) (hr : Go p e below (T.setTop (mkF m (pc + 3) Ls (.int v :: st))) P) : Go p e below (T.setTop (mkF m pc Ls st)) P := Go.mp (fun _ k => XT.sipushV X.here hx rfl v hd hv k) hr
theorem g_null (X : Stand p l e R s m args below meth c T locs cells slots) (hx : p.tables.exec = Jvm.exec) (hd : decode c.code pc = .ok (.aconst_null, 1)) (hr : Go p e below (T.setTop (mkF m (pc + 1) Ls (.null :: st))) P) : Go p e below (T.setTop (mkF m pc Ls st)) P := Go.mp (fun _ k => XS.aconstNull X.here hx rfl hd k) hr
theorem g_iadd (X : Stand p l e R s m args below meth c T locs cells slots) (hx : p.tables.exec = Jvm.exec) {x y : Int32} (hd : decode c.code pc = .ok (.iadd, 1)) (hr : Go p e below (T.setTop (mkF m (pc + 1) Ls (.int (x + y) :: st))) P) : Go p e below (T.setTop (mkF m pc Ls (.int y :: .int x :: st))) P := Go.mp (fun _ k => XS.iadd X.here hx rfl hd rfl k) hr
theorem g_isub (X : Stand p l e R s m args below meth c T locs cells slots) (hx : p.tables.exec = Jvm.exec) {x y : Int32} (hd : decode c.code pc = .ok (.isub, 1)) (hr : Go p e below (T.setTop (mkF m (pc + 1) Ls (.int (x - y) :: st))) P) : Go p e below (T.setTop (mkF m pc Ls (.int y :: .int x :: st))) P := Go.mp (fun _ k => XS.isub X.here hx rfl hd rfl k) hr
theorem g_iand (X : Stand p l e R s m args below meth c T locs cells slots) (hx : p.tables.exec = Jvm.exec) {x y : Int32} (hd : decode c.code pc = .ok (.iand, 1)) (hr : Go p e below (T.setTop (mkF m (pc + 1) Ls (.int (x &&& y) :: st))) P) : Go p e below (T.setTop (mkF m pc Ls (.int y :: .int x :: st))) P := Go.mp (fun _ k => XS.iand X.here hx rfl hd rfl k) hr
theorem g_ior (X : Stand p l e R s m args below meth c T locs cells slots) (hx : p.tables.exec = Jvm.exec) {x y : Int32} (hd : decode c.code pc = .ok (.ior, 1)) (hr : Go p e below (T.setTop (mkF m (pc + 1) Ls (.int (x ||| y) :: st))) P) : Go p e below (T.setTop (mkF m pc Ls (.int y :: .int x :: st))) P := Go.mp (fun _ k => XS.ior X.here hx rfl hd rfl k) hr
theorem g_ixor (X : Stand p l e R s m args below meth c T locs cells slots) (hx : p.tables.exec = Jvm.exec) {x y : Int32} (hd : decode c.code pc = .ok (.ixor, 1)) (hr : Go p e below (T.setTop (mkF m (pc + 1) Ls (.int (x ^^^ y) :: st))) P) : Go p e below (T.setTop (mkF m pc Ls (.int y :: .int x :: st))) P := Go.mp (fun _ k => XS.ixor X.here hx rfl hd rfl k) hr
theorem g_dup (X : Stand p l e R s m args below meth c T locs cells slots) (hx : p.tables.exec = Jvm.exec) {x : Value} (hd : decode c.code pc = .ok (.dup, 1)) (hc : x.category = 1) (hr : Go p e below (T.setTop (mkF m (pc + 1) Ls (x :: x :: st))) P) : Go p e below (T.setTop (mkF m pc Ls (x :: st))) P := Go.mp (fun _ k => XS.dup X.here hx rfl hd rfl hc k) hr
theorem g_pop (X : Stand p l e R s m args below meth c T locs cells slots) (hx : p.tables.exec = Jvm.exec) {x : Value} (hd : decode c.code pc = .ok (.pop, 1)) (hc : x.category = 1) (hr : Go p e below (T.setTop (mkF m (pc + 1) Ls st)) P) : Go p e below (T.setTop (mkF m pc Ls (x :: st))) P := Go.mp (fun _ k => XS.pop X.here hx rfl hd rfl hc k) hr
theorem g_goto (X : Stand p l e R s m args below meth c T locs cells slots) (hx : p.tables.exec = Jvm.exec) {o : Int} (pc' : Nat) (hd : decode c.code pc = .ok (.goto o, 3)) (ho : 0 ≤ (pc : Int) + o) (hp : ((pc : Int) + o).toNat = pc') (hr : Go p e below (T.setTop (mkF m pc' Ls st)) P) : Go p e below (T.setTop (mkF m pc Ls st)) P := Go.mp (fun _ k => XS.goto X.here hx rfl (pc0 := pc) (pc' := pc') rfl hd ho hp k) hr
theorem g_ifYes (X : Stand p l e R s m args below meth c T locs cells slots) (hx : p.tables.exec = Jvm.exec) {cd : ClassFile.Cond} {x : Int32} {o : Int} (pc' : Nat) (hd : decode c.code pc = .ok (.ifCond cd o, 3)) (hc : ifCond.holds cd x = true) (ho : 0 ≤ (pc : Int) + o) (hp : ((pc : Int) + o).toNat = pc') (hr : Go p e below (T.setTop (mkF m pc' Ls st)) P) : Go p e below (T.setTop (mkF m pc Ls (.int x :: st))) P := Go.mp (fun _ k => XS.ifYes X.here hx rfl (pc0 := pc) (pc' := pc') rfl hd rfl hc ho hp k) hr
theorem g_ifNo (X : Stand p l e R s m args below meth c T locs cells slots) (hx : p.tables.exec = Jvm.exec) {cd : ClassFile.Cond} {x : Int32} {o : Int} (hd : decode c.code pc = .ok (.ifCond cd o, 3)) (hc : ifCond.holds cd x = false) (hr : Go p e below (T.setTop (mkF m (pc + 3) Ls st)) P) : Go p e below (T.setTop (mkF m pc Ls (.int x :: st))) P := Go.mp (fun _ k => XS.ifNo X.here hx rfl hd rfl hc k) hr
theorem g_icmpYes (X : Stand p l e R s m args below meth c T locs cells slots) (hx : p.tables.exec = Jvm.exec) {cd : ClassFile.Cond} {x y : Int32} {o : Int} (pc' : Nat) (hd : decode c.code pc = .ok (.if_icmp cd o, 3)) (hc : if_icmp.holds cd x y = true) (ho : 0 ≤ (pc : Int) + o) (hp : ((pc : Int) + o).toNat = pc') (hr : Go p e below (T.setTop (mkF m pc' Ls st)) P) : Go p e below (T.setTop (mkF m pc Ls (.int y :: .int x :: st))) P := Go.mp (fun _ k => XS.icmpYes X.here hx rfl (pc0 := pc) (pc' := pc') rfl hd rfl hc ho hp k) hr
theorem g_icmpNo (X : Stand p l e R s m args below meth c T locs cells slots) (hx : p.tables.exec = Jvm.exec) {cd : ClassFile.Cond} {x y : Int32} {o : Int} (hd : decode c.code pc = .ok (.if_icmp cd o, 3)) (hc : if_icmp.holds cd x y = false) (hr : Go p e below (T.setTop (mkF m (pc + 3) Ls st)) P) : Go p e below (T.setTop (mkF m pc Ls (.int y :: .int x :: st))) P := Go.mp (fun _ k => XS.icmpNo X.here hx rfl hd rfl hc k) hr
theorem g_acmp (X : Stand p l e R s m args below meth c T locs cells slots) (hx : p.tables.exec = Jvm.exec) {cd : ACond} {x y : Value} {o : Int} (pc' : Nat) (same : Bool) (h1 : x.isRef = true) (h2 : y.isRef = true) (hd : decode c.code pc = .ok (.if_acmp cd o, 3)) (hq : decide (x = y) = same) (ho : 0 ≤ (pc : Int) + o) (hp : pc' = if acV cd same = true then ((pc : Int) + o).toNat else pc + 3) (hr : Go p e below (T.setTop (mkF m pc' Ls st)) P) : Go p e below (T.setTop (mkF m pc Ls (y :: x :: st))) P := Go.mp (fun _ k => Jvm.RoadKit.acmp (g := mkF m pc Ls (y :: x :: st)) X hx rfl h1 h2 (pc0 := pc) (pc' := pc') (same := same) rfl hd rfl hq ho hp k) hr
theorem g_irem (X : Stand p l e R s m args below meth c T locs cells slots) (hx : p.tables.exec = Jvm.exec) {x y : Int32} (hd : decode c.code pc = .ok (.irem, 1)) (hy : y ≠ 0) (hr : Go p e below (T.setTop (mkF m (pc + 1) Ls (.int (x % y) :: st))) P) : Go p e below (T.setTop (mkF m pc Ls (.int y :: .int x :: st))) P := Go.mp (fun _ k => iremM X hx rfl hd rfl hy k) hr
end G
theorem pn_0 : plainName "com/example/wombat/wombat/LockModeCombinedWithPinLaw" = true := by first | (simp [plainName, overriddenIn]; done) | decide +kernel
def f_pick (i1 : Int32) (w_IS : Addr) (w_IX : Addr) (w_S : Addr) (w_SIX : Addr) (w_X : Addr) : Addr := (if i1 = (0 : Int32) then w_IS else (if i1 = (1 : Int32) then w_IX else (if i1 = (2 : Int32) then w_S else (if i1 = (3 : Int32) then w_SIX else w_X))))
theorem d1_0 : decode method_2_code 0 = .ok (.iload_n 0, 1) := by decide +kernel
theorem d1_1 : decode method_2_code 1 = .ok (.ifCond .ne 7, 3) := by decide +kernel
theorem d1_4 : decode method_2_code 4 = .ok (.getstatic 7, 3) := by decide +kernel
theorem d1_7 : decode method_2_code 7 = .ok (.areturn, 1) := by decide +kernel
theorem d1_8 : decode method_2_code 8 = .ok (.iload_n 0, 1) := by decide +kernel
theorem d1_9 : decode method_2_code 9 = .ok (.iconst 1, 1) := by decide +kernel
theorem d1_10 : decode method_2_code 10 = .ok (.if_icmp .ne 7, 3) := by decide +kernel
theorem d1_13 : decode method_2_code 13 = .ok (.getstatic 13, 3) := by decide +kernel
theorem d1_16 : decode method_2_code 16 = .ok (.areturn, 1) := by decide +kernel
theorem d1_17 : decode method_2_code 17 = .ok (.iload_n 0, 1) := by decide +kernel
theorem d1_18 : decode method_2_code 18 = .ok (.iconst 2, 1) := by decide +kernel
theorem d1_19 : decode method_2_code 19 = .ok (.if_icmp .ne 7, 3) := by decide +kernel
theorem d1_22 : decode method_2_code 22 = .ok (.getstatic 16, 3) := by decide +kernel
theorem d1_25 : decode method_2_code 25 = .ok (.areturn, 1) := by decide +kernel
theorem d1_26 : decode method_2_code 26 = .ok (.iload_n 0, 1) := by decide +kernel
theorem d1_27 : decode method_2_code 27 = .ok (.iconst 3, 1) := by decide +kernel
theorem d1_28 : decode method_2_code 28 = .ok (.if_icmp .ne 7, 3) := by decide +kernel
theorem d1_31 : decode method_2_code 31 = .ok (.getstatic 19, 3) := by decide +kernel
theorem d1_34 : decode method_2_code 34 = .ok (.areturn, 1) := by decide +kernel
theorem d1_35 : decode method_2_code 35 = .ok (.getstatic 22, 3) := by decide +kernel
theorem d1_38 : decode method_2_code 38 = .ok (.areturn, 1) := by decide +kernel
theorem ef_rm_pick (m : MethodId) (x0 : Int32) : entryFrame m #[(.int x0)] 1 = mkF m 0 #[.val (.int x0)] [] := by first | (simp [entryFrame, mkF, argsToLocals, Value.category]; done) | rfl
set_option maxRecDepth 65536 in
set_option maxHeartbeats 40000000 in
theorem rm_pick (l : Launch) (Z : State) (a0 : Array Value) (hw : ∀ d ∈ tables_1, d.before a0 Z = true) (i1 : Int32) (w_IS : Addr) (w_IX : Addr) (w_S : Addr) (w_SIX : Addr) (w_X : Addr) (h0 : Heap) (n0 : Nat) (Z0 : n0 ≤ h0.size) (S_IS : Sta Z h0 "com/example/wombat/wombat/LockMode" "IS" "Lcom/example/wombat/wombat/LockMode;" (.ref w_IS)) (S_IX : Sta Z h0 "com/example/wombat/wombat/LockMode" "IX" "Lcom/example/wombat/wombat/LockMode;" (.ref w_IX)) (S_S : Sta Z h0 "com/example/wombat/wombat/LockMode" "S" "Lcom/example/wombat/wombat/LockMode;" (.ref w_S)) (S_SIX : Sta Z h0 "com/example/wombat/wombat/LockMode" "SIX" "Lcom/example/wombat/wombat/LockMode;" (.ref w_SIX)) (S_X : Sta Z h0 "com/example/wombat/wombat/LockMode" "X" "Lcom/example/wombat/wombat/LockMode;" (.ref w_X)) :
    Ctr l (⟨"com/example/wombat/wombat/LockModeCombinedWithPinLaw", "pick", "(I)Lcom/example/wombat/wombat/LockMode;"⟩ : MethodName) method_2_code 1 (some (FieldType.object "com/example/wombat/wombat/LockMode")) [] ({ frames := 0, cells := 0, slots := 0, locals := 0 } : Room) Z #[(.int i1)] h0 (fun v h L => v = some (.ref (f_pick i1 w_IS w_IX w_S w_SIX w_X)) ∧ Fr n0 L ∧ h = h0) := by
  refine own_enter pn_0 (fun p e s m below meth c s₁ hx hby hml hown hnm hret hlk hZ X0 e0 => ?_)
  have N0 := Fr.nil n0
  rw [ef_rm_pick m _]
  show Go p e below (s₁.setTop (mkF m 0 #[.val (.int i1)] [])) _
  refine g_iloadN X0 hx (hb hby d1_0) rfl ?_
  by_cases c1_1 : i1 = (0 : Int32)
  · refine g_ifNo X0 hx (hb hby d1_1) ((if0 _ _).trans (teq c1_1).2) ?_
    obtain ⟨T2, X2, e2, st2⟩ := getS2 X0 hx hZ hown (host := "") (Or.inl (hw _ (List.mem_of_getElem? (i := 5) rfl))) Via.refl e0 S_IS (g := (mkF m 4 #[.val (.int i1)] [])) rfl (hb hby d1_4)
    refine Go.mp st2 ?_
    show Go p e below (T2.setTop (mkF m 7 #[.val (.int i1)] [(.ref w_IS)])) _
    exact own_retA X2 hx hret hlk rfl rfl (hb hby d1_7) (by decide) (by decide) ⟨by rw [f_pick, if_pos c1_1], N0, e2⟩
  · refine g_ifYes X0 hx 8 (hb hby d1_1) ((if0 _ _).trans (feq c1_1).2) (by decide) (by decide) ?_
    refine g_iloadN X0 hx (hb hby d1_8) rfl ?_
    refine g_iconst X0 hx (1 : Int32) (hb hby d1_9) (by decide) ?_
    by_cases c10_3 : i1 = (1 : Int32)
    · refine g_icmpNo X0 hx (hb hby d1_10) (teq c10_3).2 ?_
      obtain ⟨T4, X4, e4, st4⟩ := getS2 X0 hx hZ hown (host := "") (Or.inl (hw _ (List.mem_of_getElem? (i := 31) rfl))) Via.refl e0 S_IX (g := (mkF m 13 #[.val (.int i1)] [])) rfl (hb hby d1_13)
      refine Go.mp st4 ?_
      show Go p e below (T4.setTop (mkF m 16 #[.val (.int i1)] [(.ref w_IX)])) _
      exact own_retA X4 hx hret hlk rfl rfl (hb hby d1_16) (by decide) (by decide) ⟨by rw [f_pick, if_neg c1_1, if_pos c10_3], N0, e4⟩
    · refine g_icmpYes X0 hx 17 (hb hby d1_10) (feq c10_3).2 (by decide) (by decide) ?_
      refine g_iloadN X0 hx (hb hby d1_17) rfl ?_
      refine g_iconst X0 hx (2 : Int32) (hb hby d1_18) (by decide) ?_
      by_cases c19_5 : i1 = (2 : Int32)
      · refine g_icmpNo X0 hx (hb hby d1_19) (teq c19_5).2 ?_
        obtain ⟨T6, X6, e6, st6⟩ := getS2 X0 hx hZ hown (host := "") (Or.inl (hw _ (List.mem_of_getElem? (i := 32) rfl))) Via.refl e0 S_S (g := (mkF m 22 #[.val (.int i1)] [])) rfl (hb hby d1_22)
        refine Go.mp st6 ?_
        show Go p e below (T6.setTop (mkF m 25 #[.val (.int i1)] [(.ref w_S)])) _
        exact own_retA X6 hx hret hlk rfl rfl (hb hby d1_25) (by decide) (by decide) ⟨by rw [f_pick, if_neg c1_1, if_neg c10_3, if_pos c19_5], N0, e6⟩
      · refine g_icmpYes X0 hx 26 (hb hby d1_19) (feq c19_5).2 (by decide) (by decide) ?_
        refine g_iloadN X0 hx (hb hby d1_26) rfl ?_
        refine g_iconst X0 hx (3 : Int32) (hb hby d1_27) (by decide) ?_
        by_cases c28_7 : i1 = (3 : Int32)
        · refine g_icmpNo X0 hx (hb hby d1_28) (teq c28_7).2 ?_
          obtain ⟨T8, X8, e8, st8⟩ := getS2 X0 hx hZ hown (host := "") (Or.inl (hw _ (List.mem_of_getElem? (i := 8) rfl))) Via.refl e0 S_SIX (g := (mkF m 31 #[.val (.int i1)] [])) rfl (hb hby d1_31)
          refine Go.mp st8 ?_
          show Go p e below (T8.setTop (mkF m 34 #[.val (.int i1)] [(.ref w_SIX)])) _
          exact own_retA X8 hx hret hlk rfl rfl (hb hby d1_34) (by decide) (by decide) ⟨by rw [f_pick, if_neg c1_1, if_neg c10_3, if_neg c19_5, if_pos c28_7], N0, e8⟩
        · refine g_icmpYes X0 hx 35 (hb hby d1_28) (feq c28_7).2 (by decide) (by decide) ?_
          obtain ⟨T9, X9, e9, st9⟩ := getS2 X0 hx hZ hown (host := "") (Or.inl (hw _ (List.mem_of_getElem? (i := 29) rfl))) Via.refl e0 S_X (g := (mkF m 35 #[.val (.int i1)] [])) rfl (hb hby d1_35)
          refine Go.mp st9 ?_
          show Go p e below (T9.setTop (mkF m 38 #[.val (.int i1)] [(.ref w_X)])) _
          exact own_retA X9 hx hret hlk rfl rfl (hb hby d1_38) (by decide) (by decide) ⟨by rw [f_pick, if_neg c1_1, if_neg c10_3, if_neg c19_5, if_neg c28_7], N0, e9⟩
def f_expected (a1 : Addr) (a2 : Addr) (w_IS : Addr) (w_X : Addr) (w_SIX : Addr) : Addr := (if a1 = a2 then a1 else (if a1 = w_IS then a2 else (if a2 = w_IS then a1 else (if a1 = w_X then w_X else (if a2 = w_X then w_X else w_SIX)))))
theorem d4_0 : decode method_3_code 0 = .ok (.aload_n 0, 1) := by decide +kernel
theorem d4_1 : decode method_3_code 1 = .ok (.aload_n 1, 1) := by decide +kernel
theorem d4_2 : decode method_3_code 2 = .ok (.if_acmp .ne 5, 3) := by decide +kernel
theorem d4_5 : decode method_3_code 5 = .ok (.aload_n 0, 1) := by decide +kernel
theorem d4_6 : decode method_3_code 6 = .ok (.areturn, 1) := by decide +kernel
theorem d4_7 : decode method_3_code 7 = .ok (.aload_n 0, 1) := by decide +kernel
theorem d4_8 : decode method_3_code 8 = .ok (.getstatic 7, 3) := by decide +kernel
theorem d4_11 : decode method_3_code 11 = .ok (.if_acmp .ne 5, 3) := by decide +kernel
theorem d4_14 : decode method_3_code 14 = .ok (.aload_n 1, 1) := by decide +kernel
theorem d4_15 : decode method_3_code 15 = .ok (.areturn, 1) := by decide +kernel
theorem d4_16 : decode method_3_code 16 = .ok (.aload_n 1, 1) := by decide +kernel
theorem d4_17 : decode method_3_code 17 = .ok (.getstatic 7, 3) := by decide +kernel
theorem d4_20 : decode method_3_code 20 = .ok (.if_acmp .ne 5, 3) := by decide +kernel
theorem d4_23 : decode method_3_code 23 = .ok (.aload_n 0, 1) := by decide +kernel
theorem d4_24 : decode method_3_code 24 = .ok (.areturn, 1) := by decide +kernel
theorem d4_25 : decode method_3_code 25 = .ok (.aload_n 0, 1) := by decide +kernel
theorem d4_26 : decode method_3_code 26 = .ok (.getstatic 22, 3) := by decide +kernel
theorem d4_29 : decode method_3_code 29 = .ok (.if_acmp .eq 10, 3) := by decide +kernel
theorem d4_32 : decode method_3_code 32 = .ok (.aload_n 1, 1) := by decide +kernel
theorem d4_33 : decode method_3_code 33 = .ok (.getstatic 22, 3) := by decide +kernel
theorem d4_36 : decode method_3_code 36 = .ok (.if_acmp .ne 7, 3) := by decide +kernel
theorem d4_39 : decode method_3_code 39 = .ok (.getstatic 22, 3) := by decide +kernel
theorem d4_42 : decode method_3_code 42 = .ok (.areturn, 1) := by decide +kernel
theorem d4_43 : decode method_3_code 43 = .ok (.getstatic 19, 3) := by decide +kernel
theorem d4_46 : decode method_3_code 46 = .ok (.areturn, 1) := by decide +kernel
theorem ef_rm_expected (m : MethodId) (x0 : Addr) (x1 : Addr) : entryFrame m #[(.ref x0), (.ref x1)] 2 = mkF m 0 #[.val (.ref x0), .val (.ref x1)] [] := by first | (simp [entryFrame, mkF, argsToLocals, Value.category]; done) | rfl
set_option maxRecDepth 65536 in
set_option maxHeartbeats 40000000 in
theorem rm_expected (l : Launch) (Z : State) (a0 : Array Value) (hw : ∀ d ∈ tables_1, d.before a0 Z = true) (a1 : Addr) (a2 : Addr) (w_IS : Addr) (w_X : Addr) (w_SIX : Addr) (h0 : Heap) (n0 : Nat) (Z0 : n0 ≤ h0.size) (S_IS : Sta Z h0 "com/example/wombat/wombat/LockMode" "IS" "Lcom/example/wombat/wombat/LockMode;" (.ref w_IS)) (S_X : Sta Z h0 "com/example/wombat/wombat/LockMode" "X" "Lcom/example/wombat/wombat/LockMode;" (.ref w_X)) (S_SIX : Sta Z h0 "com/example/wombat/wombat/LockMode" "SIX" "Lcom/example/wombat/wombat/LockMode;" (.ref w_SIX)) :
    Ctr l (⟨"com/example/wombat/wombat/LockModeCombinedWithPinLaw", "expected", "(Lcom/example/wombat/wombat/LockMode;Lcom/example/wombat/wombat/LockMode;)Lcom/example/wombat/wombat/LockMode;"⟩ : MethodName) method_3_code 2 (some (FieldType.object "com/example/wombat/wombat/LockMode")) [] ({ frames := 0, cells := 0, slots := 0, locals := 0 } : Room) Z #[(.ref a1), (.ref a2)] h0 (fun v h L => v = some (.ref (f_expected a1 a2 w_IS w_X w_SIX)) ∧ Fr n0 L ∧ h = h0) := by
  refine own_enter pn_0 (fun p e s m below meth c s₁ hx hby hml hown hnm hret hlk hZ X0 e0 => ?_)
  have N0 := Fr.nil n0
  rw [ef_rm_expected m _ _]
  show Go p e below (s₁.setTop (mkF m 0 #[.val (.ref a1), .val (.ref a2)] [])) _
  refine g_aloadN X0 hx (hb hby d4_0) rfl rfl ?_
  refine g_aloadN X0 hx (hb hby d4_1) rfl rfl ?_
  by_cases c2_1 : a1 = a2
  · refine g_acmp X0 hx 5 true rfl rfl (hb hby d4_2) (decide_eq_true (congrArg Value.ref c2_1)) (by decide) (by decide) ?_
    refine g_aloadN X0 hx (hb hby d4_5) rfl rfl ?_
    exact own_retA X0 hx hret hlk rfl rfl (hb hby d4_6) (by decide) (by decide) ⟨by rw [f_expected, if_pos c2_1], N0, e0⟩
  · refine g_acmp X0 hx 7 false rfl rfl (hb hby d4_2) (decide_eq_false fun q => c2_1 (Value.ref.inj q)) (by decide) (by decide) ?_
    refine g_aloadN X0 hx (hb hby d4_7) rfl rfl ?_
    obtain ⟨T2, X2, e2, st2⟩ := getS2 X0 hx hZ hown (host := "") (Or.inl (hw _ (List.mem_of_getElem? (i := 5) rfl))) Via.refl e0 S_IS (g := (mkF m 8 #[.val (.ref a1), .val (.ref a2)] [(.ref a1)])) rfl (hb hby d4_8)
    refine Go.mp st2 ?_
    show Go p e below (T2.setTop (mkF m 11 #[.val (.ref a1), .val (.ref a2)] [(.ref w_IS), (.ref a1)])) _
    by_cases c11_3 : a1 = w_IS
    · refine g_acmp X2 hx 14 true rfl rfl (hb hby d4_11) (decide_eq_true (congrArg Value.ref c11_3)) (by decide) (by decide) ?_
      refine g_aloadN X2 hx (hb hby d4_14) rfl rfl ?_
      exact own_retA X2 hx hret hlk rfl rfl (hb hby d4_15) (by decide) (by decide) ⟨by rw [f_expected, if_neg c2_1, if_pos c11_3], N0, e2⟩
    · refine g_acmp X2 hx 16 false rfl rfl (hb hby d4_11) (decide_eq_false fun q => c11_3 (Value.ref.inj q)) (by decide) (by decide) ?_
      refine g_aloadN X2 hx (hb hby d4_16) rfl rfl ?_
      obtain ⟨T4, X4, e4, st4⟩ := getS2 X2 hx hZ hown (host := "") (Or.inl (hw _ (List.mem_of_getElem? (i := 5) rfl))) Via.refl e2 S_IS (g := (mkF m 17 #[.val (.ref a1), .val (.ref a2)] [(.ref a2)])) rfl (hb hby d4_17)
      refine Go.mp st4 ?_
      show Go p e below (T4.setTop (mkF m 20 #[.val (.ref a1), .val (.ref a2)] [(.ref w_IS), (.ref a2)])) _
      by_cases c20_5 : a2 = w_IS
      · refine g_acmp X4 hx 23 true rfl rfl (hb hby d4_20) (decide_eq_true (congrArg Value.ref c20_5)) (by decide) (by decide) ?_
        refine g_aloadN X4 hx (hb hby d4_23) rfl rfl ?_
        exact own_retA X4 hx hret hlk rfl rfl (hb hby d4_24) (by decide) (by decide) ⟨by rw [f_expected, if_neg c2_1, if_neg c11_3, if_pos c20_5], N0, e4⟩
      · refine g_acmp X4 hx 25 false rfl rfl (hb hby d4_20) (decide_eq_false fun q => c20_5 (Value.ref.inj q)) (by decide) (by decide) ?_
        refine g_aloadN X4 hx (hb hby d4_25) rfl rfl ?_
        obtain ⟨T6, X6, e6, st6⟩ := getS2 X4 hx hZ hown (host := "") (Or.inl (hw _ (List.mem_of_getElem? (i := 29) rfl))) Via.refl e4 S_X (g := (mkF m 26 #[.val (.ref a1), .val (.ref a2)] [(.ref a1)])) rfl (hb hby d4_26)
        refine Go.mp st6 ?_
        show Go p e below (T6.setTop (mkF m 29 #[.val (.ref a1), .val (.ref a2)] [(.ref w_X), (.ref a1)])) _
        by_cases c29_7 : a1 = w_X
        · refine g_acmp X6 hx 39 true rfl rfl (hb hby d4_29) (decide_eq_true (congrArg Value.ref c29_7)) (by decide) (by decide) ?_
          obtain ⟨T8, X8, e8, st8⟩ := getS2 X6 hx hZ hown (host := "") (Or.inl (hw _ (List.mem_of_getElem? (i := 29) rfl))) Via.refl e6 S_X (g := (mkF m 39 #[.val (.ref a1), .val (.ref a2)] [])) rfl (hb hby d4_39)
          refine Go.mp st8 ?_
          show Go p e below (T8.setTop (mkF m 42 #[.val (.ref a1), .val (.ref a2)] [(.ref w_X)])) _
          exact own_retA X8 hx hret hlk rfl rfl (hb hby d4_42) (by decide) (by decide) ⟨by rw [f_expected, if_neg c2_1, if_neg c11_3, if_neg c20_5, if_pos c29_7], N0, e8⟩
        · refine g_acmp X6 hx 32 false rfl rfl (hb hby d4_29) (decide_eq_false fun q => c29_7 (Value.ref.inj q)) (by decide) (by decide) ?_
          refine g_aloadN X6 hx (hb hby d4_32) rfl rfl ?_
          obtain ⟨T9, X9, e9, st9⟩ := getS2 X6 hx hZ hown (host := "") (Or.inl (hw _ (List.mem_of_getElem? (i := 29) rfl))) Via.refl e6 S_X (g := (mkF m 33 #[.val (.ref a1), .val (.ref a2)] [(.ref a2)])) rfl (hb hby d4_33)
          refine Go.mp st9 ?_
          show Go p e below (T9.setTop (mkF m 36 #[.val (.ref a1), .val (.ref a2)] [(.ref w_X), (.ref a2)])) _
          by_cases c36_10 : a2 = w_X
          · refine g_acmp X9 hx 39 true rfl rfl (hb hby d4_36) (decide_eq_true (congrArg Value.ref c36_10)) (by decide) (by decide) ?_
            obtain ⟨T11, X11, e11, st11⟩ := getS2 X9 hx hZ hown (host := "") (Or.inl (hw _ (List.mem_of_getElem? (i := 29) rfl))) Via.refl e9 S_X (g := (mkF m 39 #[.val (.ref a1), .val (.ref a2)] [])) rfl (hb hby d4_39)
            refine Go.mp st11 ?_
            show Go p e below (T11.setTop (mkF m 42 #[.val (.ref a1), .val (.ref a2)] [(.ref w_X)])) _
            exact own_retA X11 hx hret hlk rfl rfl (hb hby d4_42) (by decide) (by decide) ⟨by rw [f_expected, if_neg c2_1, if_neg c11_3, if_neg c20_5, if_neg c29_7, if_pos c36_10], N0, e11⟩
          · refine g_acmp X9 hx 43 false rfl rfl (hb hby d4_36) (decide_eq_false fun q => c36_10 (Value.ref.inj q)) (by decide) (by decide) ?_
            obtain ⟨T12, X12, e12, st12⟩ := getS2 X9 hx hZ hown (host := "") (Or.inl (hw _ (List.mem_of_getElem? (i := 8) rfl))) Via.refl e9 S_SIX (g := (mkF m 43 #[.val (.ref a1), .val (.ref a2)] [])) rfl (hb hby d4_43)
            refine Go.mp st12 ?_
            show Go p e below (T12.setTop (mkF m 46 #[.val (.ref a1), .val (.ref a2)] [(.ref w_SIX)])) _
            exact own_retA X12 hx hret hlk rfl rfl (hb hby d4_46) (by decide) (by decide) ⟨by rw [f_expected, if_neg c2_1, if_neg c11_3, if_neg c20_5, if_neg c29_7, if_neg c36_10], N0, e12⟩
theorem pn_1 : plainName "com/example/wombat/wombat/LockMode" = true := by first | (simp [plainName, overriddenIn]; done) | decide +kernel
def f_covers (a1 : Addr) (a2 : Addr) (u_a1_compatible : Int32) (u_a2_compatible : Int32) : Int32 := (if (u_a1_compatible &&& (u_a2_compatible ^^^ (-1 : Int32))) = (0 : Int32) then (1 : Int32) else (0 : Int32))
theorem d3_0 : decode prog_9_method_7_code 0 = .ok (.aload_n 0, 1) := by decide +kernel
theorem d3_1 : decode prog_9_method_7_code 1 = .ok (.getfield 48, 3) := by decide +kernel
theorem d3_4 : decode prog_9_method_7_code 4 = .ok (.aload_n 1, 1) := by decide +kernel
theorem d3_5 : decode prog_9_method_7_code 5 = .ok (.getfield 48, 3) := by decide +kernel
theorem d3_8 : decode prog_9_method_7_code 8 = .ok (.iconst (-1), 1) := by decide +kernel
theorem d3_9 : decode prog_9_method_7_code 9 = .ok (.ixor, 1) := by decide +kernel
theorem d3_10 : decode prog_9_method_7_code 10 = .ok (.iand, 1) := by decide +kernel
theorem d3_11 : decode prog_9_method_7_code 11 = .ok (.ifCond .ne 7, 3) := by decide +kernel
theorem d3_14 : decode prog_9_method_7_code 14 = .ok (.iconst 1, 1) := by decide +kernel
theorem d3_15 : decode prog_9_method_7_code 15 = .ok (.goto 4, 3) := by decide +kernel
theorem d3_18 : decode prog_9_method_7_code 18 = .ok (.iconst 0, 1) := by decide +kernel
theorem d3_19 : decode prog_9_method_7_code 19 = .ok (.ireturn, 1) := by decide +kernel
theorem ef_rm_covers (m : MethodId) (x0 : Addr) (x1 : Addr) : entryFrame m #[(.ref x0), (.ref x1)] 2 = mkF m 0 #[.val (.ref x0), .val (.ref x1)] [] := by first | (simp [entryFrame, mkF, argsToLocals, Value.category]; done) | rfl
set_option maxRecDepth 65536 in
set_option maxHeartbeats 40000000 in
theorem rm_covers (l : Launch) (Z : State) (a0 : Array Value) (hw : ∀ d ∈ tables_1, d.before a0 Z = true) (a1 : Addr) (a2 : Addr) (u_a1_compatible : Int32) (u_a2_compatible : Int32) (h0 : Heap) (n0 : Nat) (Z0 : n0 ≤ h0.size) (F_a1_compatible : Fld Z h0 a1 "com/example/wombat/wombat/LockMode" "compatible" "I" (.int u_a1_compatible)) (F_a2_compatible : Fld Z h0 a2 "com/example/wombat/wombat/LockMode" "compatible" "I" (.int u_a2_compatible)) :
    Ctr l (⟨"com/example/wombat/wombat/LockMode", "covers", "(Lcom/example/wombat/wombat/LockMode;)Z"⟩ : MethodName) prog_9_method_7_code 2 (some FieldType.boolean) [] ({ frames := 0, cells := 0, slots := 0, locals := 0 } : Room) Z #[(.ref a1), (.ref a2)] h0 (fun v h L => v = some (.int (f_covers a1 a2 u_a1_compatible u_a2_compatible)) ∧ Fr n0 L ∧ h = h0) := by
  refine own_enter pn_1 (fun p e s m below meth c s₁ hx hby hml hown hnm hret hlk hZ X0 e0 => ?_)
  have N0 := Fr.nil n0
  rw [ef_rm_covers m _ _]
  show Go p e below (s₁.setTop (mkF m 0 #[.val (.ref a1), .val (.ref a2)] [])) _
  refine g_aloadN X0 hx (hb hby d3_0) rfl rfl ?_
  obtain ⟨T1, X1, e1, st1⟩ := getF X0 hx hZ hown (host := "") (Or.inl (hw _ (List.mem_of_getElem? (i := 22) rfl))) Via.refl e0 F_a1_compatible (g := (mkF m 1 #[.val (.ref a1), .val (.ref a2)] [(.ref a1)])) rfl rfl (hb hby d3_1)
  refine Go.mp st1 ?_
  show Go p e below (T1.setTop (mkF m 4 #[.val (.ref a1), .val (.ref a2)] [(.int u_a1_compatible)])) _
  refine g_aloadN X1 hx (hb hby d3_4) rfl rfl ?_
  obtain ⟨T2, X2, e2, st2⟩ := getF X1 hx hZ hown (host := "") (Or.inl (hw _ (List.mem_of_getElem? (i := 22) rfl))) Via.refl e1 F_a2_compatible (g := (mkF m 5 #[.val (.ref a1), .val (.ref a2)] [(.ref a2), (.int u_a1_compatible)])) rfl rfl (hb hby d3_5)
  refine Go.mp st2 ?_
  show Go p e below (T2.setTop (mkF m 8 #[.val (.ref a1), .val (.ref a2)] [(.int u_a2_compatible), (.int u_a1_compatible)])) _
  refine g_iconst X2 hx (-1 : Int32) (hb hby d3_8) (by decide) ?_
  refine g_ixor X2 hx (hb hby d3_9) ?_
  refine g_iand X2 hx (hb hby d3_10) ?_
  by_cases c11_3 : (u_a1_compatible &&& (u_a2_compatible ^^^ (-1 : Int32))) = (0 : Int32)
  · refine g_ifNo X2 hx (hb hby d3_11) ((if0 _ _).trans (teq c11_3).2) ?_
    refine g_iconst X2 hx (1 : Int32) (hb hby d3_14) (by decide) ?_
    refine g_goto X2 hx 19 (hb hby d3_15) (by decide) (by decide) ?_
    exact own_retZ X2 hx hret hlk (hb hby d3_19) (by decide) (by decide) (by decide) ⟨by rw [f_covers, if_pos c11_3], N0, e2⟩
  · refine g_ifYes X2 hx 18 (hb hby d3_11) ((if0 _ _).trans (feq c11_3).2) (by decide) (by decide) ?_
    refine g_iconst X2 hx (0 : Int32) (hb hby d3_18) (by decide) ?_
    exact own_retZ X2 hx hret hlk (hb hby d3_19) (by decide) (by decide) (by decide) ⟨by rw [f_covers, if_neg c11_3], N0, e2⟩
theorem pd_0 : parseMethodDescriptor "(Lcom/example/wombat/wombat/LockMode;)Z" = some ⟨[(FieldType.object "com/example/wombat/wombat/LockMode")], some FieldType.boolean⟩ := by decide +kernel
def f_combinedWith (a1 : Addr) (a2 : Addr) (u1 : Int32) (u2 : Int32) (w_WF : Addr) (kk : ClassId) (w_IS : Addr) (w_IX : Addr) (w_S : Addr) (w_SIX : Addr) (w_X : Addr) : Addr := (if ((15 : Int32) &&& (u1 ^^^ (-1 : Int32))) = (0 : Int32) then (if ((15 : Int32) &&& (u2 ^^^ (-1 : Int32))) = (0 : Int32) then w_IS else (if ((3 : Int32) &&& (u1 ^^^ (-1 : Int32))) = (0 : Int32) then (if ((3 : Int32) &&& (u2 ^^^ (-1 : Int32))) = (0 : Int32) then w_IX else (if ((5 : Int32) &&& (u1 ^^^ (-1 : Int32))) = (0 : Int32) then (if ((5 : Int32) &&& (u2 ^^^ (-1 : Int32))) = (0 : Int32) then w_S else (if ((1 : Int32) &&& (u1 ^^^ (-1 : Int32))) = (0 : Int32) then (if ((1 : Int32) &&& (u2 ^^^ (-1 : Int32))) = (0 : Int32) then w_SIX else w_X) else w_X)) else (if ((1 : Int32) &&& (u1 ^^^ (-1 : Int32))) = (0 : Int32) then (if ((1 : Int32) &&& (u2 ^^^ (-1 : Int32))) = (0 : Int32) then w_SIX else w_X) else w_X))) else (if ((5 : Int32) &&& (u1 ^^^ (-1 : Int32))) = (0 : Int32) then (if ((5 : Int32) &&& (u2 ^^^ (-1 : Int32))) = (0 : Int32) then w_S else (if ((1 : Int32) &&& (u1 ^^^ (-1 : Int32))) = (0 : Int32) then (if ((1 : Int32) &&& (u2 ^^^ (-1 : Int32))) = (0 : Int32) then w_SIX else w_X) else w_X)) else (if ((1 : Int32) &&& (u1 ^^^ (-1 : Int32))) = (0 : Int32) then (if ((1 : Int32) &&& (u2 ^^^ (-1 : Int32))) = (0 : Int32) then w_SIX else w_X) else w_X)))) else (if ((3 : Int32) &&& (u1 ^^^ (-1 : Int32))) = (0 : Int32) then (if ((3 : Int32) &&& (u2 ^^^ (-1 : Int32))) = (0 : Int32) then w_IX else (if ((5 : Int32) &&& (u1 ^^^ (-1 : Int32))) = (0 : Int32) then (if ((5 : Int32) &&& (u2 ^^^ (-1 : Int32))) = (0 : Int32) then w_S else (if ((1 : Int32) &&& (u1 ^^^ (-1 : Int32))) = (0 : Int32) then (if ((1 : Int32) &&& (u2 ^^^ (-1 : Int32))) = (0 : Int32) then w_SIX else w_X) else w_X)) else (if ((1 : Int32) &&& (u1 ^^^ (-1 : Int32))) = (0 : Int32) then (if ((1 : Int32) &&& (u2 ^^^ (-1 : Int32))) = (0 : Int32) then w_SIX else w_X) else w_X))) else (if ((5 : Int32) &&& (u1 ^^^ (-1 : Int32))) = (0 : Int32) then (if ((5 : Int32) &&& (u2 ^^^ (-1 : Int32))) = (0 : Int32) then w_S else (if ((1 : Int32) &&& (u1 ^^^ (-1 : Int32))) = (0 : Int32) then (if ((1 : Int32) &&& (u2 ^^^ (-1 : Int32))) = (0 : Int32) then w_SIX else w_X) else w_X)) else (if ((1 : Int32) &&& (u1 ^^^ (-1 : Int32))) = (0 : Int32) then (if ((1 : Int32) &&& (u2 ^^^ (-1 : Int32))) = (0 : Int32) then w_SIX else w_X) else w_X))))
theorem d2_0 : decode prog_9_method_8_code 0 = .ok (.getstatic 59, 3) := by decide +kernel
theorem d2_3 : decode prog_9_method_8_code 3 = .ok (.astore_n 2, 1) := by decide +kernel
theorem d2_4 : decode prog_9_method_8_code 4 = .ok (.aload_n 2, 1) := by decide +kernel
theorem d2_5 : decode prog_9_method_8_code 5 = .ok (.arraylength, 1) := by decide +kernel
theorem d2_6 : decode prog_9_method_8_code 6 = .ok (.istore_n 3, 1) := by decide +kernel
theorem d2_7 : decode prog_9_method_8_code 7 = .ok (.iconst 0, 1) := by decide +kernel
theorem d2_8 : decode prog_9_method_8_code 8 = .ok (.istore 4, 2) := by decide +kernel
theorem d2_10 : decode prog_9_method_8_code 10 = .ok (.iload 4, 2) := by decide +kernel
theorem d2_12 : decode prog_9_method_8_code 12 = .ok (.iload_n 3, 1) := by decide +kernel
theorem d2_13 : decode prog_9_method_8_code 13 = .ok (.if_icmp .ge 36, 3) := by decide +kernel
theorem d2_16 : decode prog_9_method_8_code 16 = .ok (.aload_n 2, 1) := by decide +kernel
theorem d2_17 : decode prog_9_method_8_code 17 = .ok (.iload 4, 2) := by decide +kernel
theorem d2_19 : decode prog_9_method_8_code 19 = .ok (.aaload, 1) := by decide +kernel
theorem d2_20 : decode prog_9_method_8_code 20 = .ok (.astore 5, 2) := by decide +kernel
theorem d2_22 : decode prog_9_method_8_code 22 = .ok (.aload 5, 2) := by decide +kernel
theorem d2_24 : decode prog_9_method_8_code 24 = .ok (.aload_n 0, 1) := by decide +kernel
theorem d2_25 : decode prog_9_method_8_code 25 = .ok (.invokevirtual 62, 3) := by decide +kernel
theorem d2_28 : decode prog_9_method_8_code 28 = .ok (.ifCond .eq 15, 3) := by decide +kernel
theorem d2_31 : decode prog_9_method_8_code 31 = .ok (.aload 5, 2) := by decide +kernel
theorem d2_33 : decode prog_9_method_8_code 33 = .ok (.aload_n 1, 1) := by decide +kernel
theorem d2_34 : decode prog_9_method_8_code 34 = .ok (.invokevirtual 62, 3) := by decide +kernel
theorem d2_37 : decode prog_9_method_8_code 37 = .ok (.ifCond .eq 6, 3) := by decide +kernel
theorem d2_40 : decode prog_9_method_8_code 40 = .ok (.aload 5, 2) := by decide +kernel
theorem d2_42 : decode prog_9_method_8_code 42 = .ok (.areturn, 1) := by decide +kernel
theorem d2_43 : decode prog_9_method_8_code 43 = .ok (.iinc 4 1, 3) := by decide +kernel
theorem d2_46 : decode prog_9_method_8_code 46 = .ok (.goto (-36), 3) := by decide +kernel
theorem ef_rm_combinedWith (m : MethodId) (x0 : Addr) (x1 : Addr) : entryFrame m #[(.ref x0), (.ref x1)] 6 = mkF m 0 #[.val (.ref x0), .val (.ref x1), .unset, .unset, .unset, .unset] [] := by first | (simp [entryFrame, mkF, argsToLocals, Value.category]; done) | rfl
set_option maxRecDepth 65536 in
set_option maxHeartbeats 40000000 in
theorem rm_combinedWith (l : Launch) (Z : State) (a0 : Array Value) (hw : ∀ d ∈ tables_1, d.before a0 Z = true) (a1 : Addr) (a2 : Addr) (u1 : Int32) (u2 : Int32) (w_WF : Addr) (kk : ClassId) (w_IS : Addr) (w_IX : Addr) (w_S : Addr) (w_SIX : Addr) (w_X : Addr) (h0 : Heap) (n0 : Nat) (Z0 : n0 ≤ h0.size) (S_WEAKEST_FIRST : Sta Z h0 "com/example/wombat/wombat/LockMode" "WEAKEST_FIRST" "[Lcom/example/wombat/wombat/LockMode;" (.ref w_WF)) (V_w_WF : Arv Z h0 w_WF kk (FieldType.object "com/example/wombat/wombat/LockMode") 5 [(.ref w_IS), (.ref w_IX), (.ref w_S), (.ref w_SIX), (.ref w_X)] .null) (E_w_IS : Exa Z h0 w_IS "com/example/wombat/wombat/LockMode") (F_w_IS_compatible : Fld Z h0 w_IS "com/example/wombat/wombat/LockMode" "compatible" "I" (.int (15 : Int32))) (E_w_IX : Exa Z h0 w_IX "com/example/wombat/wombat/LockMode") (F_w_IX_compatible : Fld Z h0 w_IX "com/example/wombat/wombat/LockMode" "compatible" "I" (.int (3 : Int32))) (E_w_S : Exa Z h0 w_S "com/example/wombat/wombat/LockMode") (F_w_S_compatible : Fld Z h0 w_S "com/example/wombat/wombat/LockMode" "compatible" "I" (.int (5 : Int32))) (E_w_SIX : Exa Z h0 w_SIX "com/example/wombat/wombat/LockMode") (F_w_SIX_compatible : Fld Z h0 w_SIX "com/example/wombat/wombat/LockMode" "compatible" "I" (.int (1 : Int32))) (E_w_X : Exa Z h0 w_X "com/example/wombat/wombat/LockMode") (F_w_X_compatible : Fld Z h0 w_X "com/example/wombat/wombat/LockMode" "compatible" "I" (.int (0 : Int32))) (F_a1_compatible : Fld Z h0 a1 "com/example/wombat/wombat/LockMode" "compatible" "I" (.int u1)) (F_a2_compatible : Fld Z h0 a2 "com/example/wombat/wombat/LockMode" "compatible" "I" (.int u2)) :
    Ctr l (⟨"com/example/wombat/wombat/LockMode", "combinedWith", "(Lcom/example/wombat/wombat/LockMode;)Lcom/example/wombat/wombat/LockMode;"⟩ : MethodName) prog_9_method_8_code 6 (some (FieldType.object "com/example/wombat/wombat/LockMode")) [] ({ frames := 1, cells := 0, slots := 0, locals := 30 } : Room) Z #[(.ref a1), (.ref a2)] h0 (fun v h L => v = some (.ref (f_combinedWith a1 a2 u1 u2 w_WF kk w_IS w_IX w_S w_SIX w_X)) ∧ Fr n0 L ∧ h = h0) := by
  refine own_enter pn_1 (fun p e s m below meth c s₁ hx hby hml hown hnm hret hlk hZ X0 e0 => ?_)
  have N0 := Fr.nil n0
  rw [ef_rm_combinedWith m _ _]
  show Go p e below (s₁.setTop (mkF m 0 #[.val (.ref a1), .val (.ref a2), .unset, .unset, .unset, .unset] [])) _
  obtain ⟨T1, X1, e1, st1⟩ := getS2 X0 hx hZ hown (host := "") (Or.inl (hw _ (List.mem_of_getElem? (i := 15) rfl))) Via.refl e0 S_WEAKEST_FIRST (g := (mkF m 0 #[.val (.ref a1), .val (.ref a2), .unset, .unset, .unset, .unset] [])) rfl (hb hby d2_0)
  refine Go.mp st1 ?_
  show Go p e below (T1.setTop (mkF m 3 #[.val (.ref a1), .val (.ref a2), .unset, .unset, .unset, .unset] [(.ref w_WF)])) _
  refine g_astoreN X1 hx #[.val (.ref a1), .val (.ref a2), .val (.ref w_WF), .unset, .unset, .unset] (hb hby d2_3) rfl rfl ?_
  refine g_aloadN X1 hx (hb hby d2_4) rfl rfl ?_
  obtain ⟨cl2, Ar2, -, sz2, nn2, -, -⟩ := id V_w_WF
  refine Go.mp (fun _ k => X1.arraylength hx (by rw [e1]; exact Ar2.1) (State.isArrayOf_alike hZ.alike Ar2.2.1) (g := (mkF m 5 #[.val (.ref a1), .val (.ref a2), .val (.ref w_WF), .unset, .unset, .unset] [(.ref w_WF)])) rfl rfl (hb hby d2_5) _ k) ?_
  rw [len_of sz2 nn2]
  show Go p e below (T1.setTop (mkF m 6 #[.val (.ref a1), .val (.ref a2), .val (.ref w_WF), .unset, .unset, .unset] [(.int (5 : Int32))])) _
  refine g_istoreN X1 hx #[.val (.ref a1), .val (.ref a2), .val (.ref w_WF), .val (.int (5 : Int32)), .unset, .unset] (hb hby d2_6) rfl ?_
  refine g_iconst X1 hx (0 : Int32) (hb hby d2_7) (by decide) ?_
  refine g_istore X1 hx #[.val (.ref a1), .val (.ref a2), .val (.ref w_WF), .val (.int (5 : Int32)), .val (.int (0 : Int32)), .unset] (hb hby d2_8) rfl ?_
  refine g_iload X1 hx (hb hby d2_10) rfl ?_
  refine g_iloadN X1 hx (hb hby d2_12) rfl ?_
  refine g_icmpNo X1 hx (hb hby d2_13) (tlt ((by decide) : (0 : Int32) < (5 : Int32))).2.1 ?_
  refine g_aloadN X1 hx (hb hby d2_16) rfl rfl ?_
  refine g_iload X1 hx (hb hby d2_17) rfl ?_
  obtain ⟨cl3, Ar3, -, sz3, -, Ha3, -⟩ := id V_w_WF
  have hin3 : ¬ ((0 : Int32) < 0 ∨ cl3.slots.size ≤ (0 : Int32).toNatClampNeg) := by rw [sz3]; decide
  have hat3 : cl3.slots[(0 : Int32).toNatClampNeg]? = some (.ref w_IS) := Ha3 0 (by rw [sz3]; decide)
  refine Go.mp (fun _ k => X1.aaload hx (j := 0) (v := (.ref w_IS)) (by rw [e1]; exact Ar3.1) (State.isArrayOf_alike hZ.alike Ar3.2.1) rfl Ar3.2.2 hin3 hat3 (g := (mkF m 19 #[.val (.ref a1), .val (.ref a2), .val (.ref w_WF), .val (.int (5 : Int32)), .val (.int (0 : Int32)), .unset] [(.int (0 : Int32)), (.ref w_WF)])) rfl rfl (hb hby d2_19) _ k) ?_
  show Go p e below (T1.setTop (mkF m 20 #[.val (.ref a1), .val (.ref a2), .val (.ref w_WF), .val (.int (5 : Int32)), .val (.int (0 : Int32)), .unset] [(.ref w_IS)])) _
  refine g_astore X1 hx #[.val (.ref a1), .val (.ref a2), .val (.ref w_WF), .val (.int (5 : Int32)), .val (.int (0 : Int32)), .val (.ref w_IS)] (hb hby d2_20) rfl rfl ?_
  refine g_aload X1 hx (hb hby d2_22) rfl rfl ?_
  refine g_aloadN X1 hx (hb hby d2_24) rfl rfl ?_
  show Go p e below (T1.setTop (mkF m 25 #[.val (.ref a1), .val (.ref a2), .val (.ref w_WF), .val (.int (5 : Int32)), .val (.int (0 : Int32)), .val (.ref w_IS)] [(.ref a1), (.ref w_IS)])) _
  by_cases c25_4 : ((15 : Int32) &&& (u1 ^^^ (-1 : Int32))) = (0 : Int32)
  · obtain ⟨v5, T5, L5, X5, q5, st5⟩ := own_callV X1 hx hZ (y := (⟨"com/example/wombat/wombat/LockMode", "covers", "(Lcom/example/wombat/wombat/LockMode;)Z"⟩ : MethodName)) (pc := 25) (Ls := #[.val (.ref a1), .val (.ref a2), .val (.ref w_WF), .val (.int (5 : Int32)), .val (.int (0 : Int32)), .val (.ref w_IS)]) (st := [(.ref a1), (.ref w_IS)]) hown (hw _ (List.mem_of_getElem? (i := 17) rfl)) (hw _ (List.mem_of_getElem? (i := 18) rfl)) (hw _ (List.mem_of_getElem? (i := 20) rfl)) (hw _ (List.mem_of_getElem? (i := 19) rfl)) (hw _ (List.mem_of_getElem? (i := 21) rfl)) (hw _ (List.mem_of_getElem? (i := 6) rfl)) (by decide) (rm_covers l Z a0 hw w_IS a1 (15 : Int32) u1 h0 n0 Z0 F_w_IS_compatible F_a1_compatible) e1 E_w_IS pd_0 (hb hby d2_25) (by rw [hml]; rfl) (argsL := [(.ref a1)]) (rest := []) rfl rfl rfl (W := 0) (Nat.le_of_eq rfl) (by decide) (by decide) (by decide) (by decide)
    obtain ⟨rfl, M5, e5⟩ := q5
    have N5 := Fr.app N0 M5
    have r5 : (f_covers w_IS a1 (15 : Int32) u1) = (1 : Int32) := by rw [f_covers, if_pos (c25_4 : ((15 : Int32) &&& (u1 ^^^ (-1 : Int32))) = (0 : Int32))]
    rw [r5] at st5
    refine Go.mp st5 ?_
    show Go p e below (T5.setTop (mkF m 28 #[.val (.ref a1), .val (.ref a2), .val (.ref w_WF), .val (.int (5 : Int32)), .val (.int (0 : Int32)), .val (.ref w_IS)] [(.int (1 : Int32))])) _
    refine g_ifNo X5 hx (hb hby d2_28) ((if0 _ _).trans (feq ((by decide) : ¬ ((1 : Int32) = (0 : Int32)))).1) ?_
    refine g_aload X5 hx (hb hby d2_31) rfl rfl ?_
    refine g_aloadN X5 hx (hb hby d2_33) rfl rfl ?_
    show Go p e below (T5.setTop (mkF m 34 #[.val (.ref a1), .val (.ref a2), .val (.ref w_WF), .val (.int (5 : Int32)), .val (.int (0 : Int32)), .val (.ref w_IS)] [(.ref a2), (.ref w_IS)])) _
    by_cases c34_6 : ((15 : Int32) &&& (u2 ^^^ (-1 : Int32))) = (0 : Int32)
    · obtain ⟨v7, T7, L7, X7, q7, st7⟩ := own_callV X5 hx hZ (y := (⟨"com/example/wombat/wombat/LockMode", "covers", "(Lcom/example/wombat/wombat/LockMode;)Z"⟩ : MethodName)) (pc := 34) (Ls := #[.val (.ref a1), .val (.ref a2), .val (.ref w_WF), .val (.int (5 : Int32)), .val (.int (0 : Int32)), .val (.ref w_IS)]) (st := [(.ref a2), (.ref w_IS)]) hown (hw _ (List.mem_of_getElem? (i := 17) rfl)) (hw _ (List.mem_of_getElem? (i := 18) rfl)) (hw _ (List.mem_of_getElem? (i := 20) rfl)) (hw _ (List.mem_of_getElem? (i := 19) rfl)) (hw _ (List.mem_of_getElem? (i := 21) rfl)) (hw _ (List.mem_of_getElem? (i := 6) rfl)) (by decide) (rm_covers l Z a0 hw w_IS a2 (15 : Int32) u2 h0 n0 Z0 F_w_IS_compatible F_a2_compatible) e5 E_w_IS pd_0 (hb hby d2_34) (by rw [hml]; rfl) (argsL := [(.ref a2)]) (rest := []) rfl rfl rfl (W := 0) (Nat.le_of_eq rfl) (by decide) (by decide) (by decide) (by decide)
      obtain ⟨rfl, M7, e7⟩ := q7
      have N7 := Fr.app N5 M7
      have r7 : (f_covers w_IS a2 (15 : Int32) u2) = (1 : Int32) := by rw [f_covers, if_pos (c34_6 : ((15 : Int32) &&& (u2 ^^^ (-1 : Int32))) = (0 : Int32))]
      rw [r7] at st7
      refine Go.mp st7 ?_
      show Go p e below (T7.setTop (mkF m 37 #[.val (.ref a1), .val (.ref a2), .val (.ref w_WF), .val (.int (5 : Int32)), .val (.int (0 : Int32)), .val (.ref w_IS)] [(.int (1 : Int32))])) _
      refine g_ifNo X7 hx (hb hby d2_37) ((if0 _ _).trans (feq ((by decide) : ¬ ((1 : Int32) = (0 : Int32)))).1) ?_
      refine g_aload X7 hx (hb hby d2_40) rfl rfl ?_
      exact own_retA X7 hx hret hlk rfl rfl (hb hby d2_42) (by decide) (by decide) ⟨by rw [f_combinedWith, if_pos c25_4, if_pos c34_6], N7, e7⟩
    · obtain ⟨v8, T8, L8, X8, q8, st8⟩ := own_callV X5 hx hZ (y := (⟨"com/example/wombat/wombat/LockMode", "covers", "(Lcom/example/wombat/wombat/LockMode;)Z"⟩ : MethodName)) (pc := 34) (Ls := #[.val (.ref a1), .val (.ref a2), .val (.ref w_WF), .val (.int (5 : Int32)), .val (.int (0 : Int32)), .val (.ref w_IS)]) (st := [(.ref a2), (.ref w_IS)]) hown (hw _ (List.mem_of_getElem? (i := 17) rfl)) (hw _ (List.mem_of_getElem? (i := 18) rfl)) (hw _ (List.mem_of_getElem? (i := 20) rfl)) (hw _ (List.mem_of_getElem? (i := 19) rfl)) (hw _ (List.mem_of_getElem? (i := 21) rfl)) (hw _ (List.mem_of_getElem? (i := 6) rfl)) (by decide) (rm_covers l Z a0 hw w_IS a2 (15 : Int32) u2 h0 n0 Z0 F_w_IS_compatible F_a2_compatible) e5 E_w_IS pd_0 (hb hby d2_34) (by rw [hml]; rfl) (argsL := [(.ref a2)]) (rest := []) rfl rfl rfl (W := 0) (Nat.le_of_eq rfl) (by decide) (by decide) (by decide) (by decide)
      obtain ⟨rfl, M8, e8⟩ := q8
      have N8 := Fr.app N5 M8
      have r8 : (f_covers w_IS a2 (15 : Int32) u2) = (0 : Int32) := by rw [f_covers, if_neg (c34_6 : ¬ (((15 : Int32) &&& (u2 ^^^ (-1 : Int32))) = (0 : Int32)))]
      rw [r8] at st8
      refine Go.mp st8 ?_
      show Go p e below (T8.setTop (mkF m 37 #[.val (.ref a1), .val (.ref a2), .val (.ref w_WF), .val (.int (5 : Int32)), .val (.int (0 : Int32)), .val (.ref w_IS)] [(.int (0 : Int32))])) _
      refine g_ifYes X8 hx 43 (hb hby d2_37) ((if0 _ _).trans (teq ((by decide) : (0 : Int32) = (0 : Int32))).1) (by decide) (by decide) ?_
      refine Go.mp (fun _ k => XS.iinc X8.here hx rfl (hb hby d2_43) rfl (l' := #[.val (.ref a1), .val (.ref a2), .val (.ref w_WF), .val (.int (5 : Int32)), .val (.int ((0 : Int32) + (1 : Int32))), .val (.ref w_IS)]) rfl k) ?_
      show Go p e below (T8.setTop (mkF m 46 #[.val (.ref a1), .val (.ref a2), .val (.ref w_WF), .val (.int (5 : Int32)), .val (.int ((0 : Int32) + (1 : Int32))), .val (.ref w_IS)] [])) _
      rw [show ((0 : Int32) + (1 : Int32)) = (1 : Int32) from by decide]
      show Go p e below (T8.setTop (mkF m 46 #[.val (.ref a1), .val (.ref a2), .val (.ref w_WF), .val (.int (5 : Int32)), .val (.int (1 : Int32)), .val (.ref w_IS)] [])) _
      refine g_goto X8 hx 10 (hb hby d2_46) (by decide) (by decide) ?_
      refine g_iload X8 hx (hb hby d2_10) rfl ?_
      refine g_iloadN X8 hx (hb hby d2_12) rfl ?_
      refine g_icmpNo X8 hx (hb hby d2_13) (tlt ((by decide) : (1 : Int32) < (5 : Int32))).2.1 ?_
      refine g_aloadN X8 hx (hb hby d2_16) rfl rfl ?_
      refine g_iload X8 hx (hb hby d2_17) rfl ?_
      obtain ⟨cl9, Ar9, -, sz9, -, Ha9, -⟩ := id V_w_WF
      have hin9 : ¬ ((1 : Int32) < 0 ∨ cl9.slots.size ≤ (1 : Int32).toNatClampNeg) := by rw [sz9]; decide
      have hat9 : cl9.slots[(1 : Int32).toNatClampNeg]? = some (.ref w_IX) := Ha9 1 (by rw [sz9]; decide)
      refine Go.mp (fun _ k => X8.aaload hx (j := 1) (v := (.ref w_IX)) (by rw [e8]; exact Ar9.1) (State.isArrayOf_alike hZ.alike Ar9.2.1) rfl Ar9.2.2 hin9 hat9 (g := (mkF m 19 #[.val (.ref a1), .val (.ref a2), .val (.ref w_WF), .val (.int (5 : Int32)), .val (.int (1 : Int32)), .val (.ref w_IS)] [(.int (1 : Int32)), (.ref w_WF)])) rfl rfl (hb hby d2_19) _ k) ?_
      show Go p e below (T8.setTop (mkF m 20 #[.val (.ref a1), .val (.ref a2), .val (.ref w_WF), .val (.int (5 : Int32)), .val (.int (1 : Int32)), .val (.ref w_IS)] [(.ref w_IX)])) _
      refine g_astore X8 hx #[.val (.ref a1), .val (.ref a2), .val (.ref w_WF), .val (.int (5 : Int32)), .val (.int (1 : Int32)), .val (.ref w_IX)] (hb hby d2_20) rfl rfl ?_
      refine g_aload X8 hx (hb hby d2_22) rfl rfl ?_
      refine g_aloadN X8 hx (hb hby d2_24) rfl rfl ?_
      show Go p e below (T8.setTop (mkF m 25 #[.val (.ref a1), .val (.ref a2), .val (.ref w_WF), .val (.int (5 : Int32)), .val (.int (1 : Int32)), .val (.ref w_IX)] [(.ref a1), (.ref w_IX)])) _
      by_cases c25_10 : ((3 : Int32) &&& (u1 ^^^ (-1 : Int32))) = (0 : Int32)
      · obtain ⟨v11, T11, L11, X11, q11, st11⟩ := own_callV X8 hx hZ (y := (⟨"com/example/wombat/wombat/LockMode", "covers", "(Lcom/example/wombat/wombat/LockMode;)Z"⟩ : MethodName)) (pc := 25) (Ls := #[.val (.ref a1), .val (.ref a2), .val (.ref w_WF), .val (.int (5 : Int32)), .val (.int (1 : Int32)), .val (.ref w_IX)]) (st := [(.ref a1), (.ref w_IX)]) hown (hw _ (List.mem_of_getElem? (i := 17) rfl)) (hw _ (List.mem_of_getElem? (i := 18) rfl)) (hw _ (List.mem_of_getElem? (i := 20) rfl)) (hw _ (List.mem_of_getElem? (i := 19) rfl)) (hw _ (List.mem_of_getElem? (i := 21) rfl)) (hw _ (List.mem_of_getElem? (i := 6) rfl)) (by decide) (rm_covers l Z a0 hw w_IX a1 (3 : Int32) u1 h0 n0 Z0 F_w_IX_compatible F_a1_compatible) e8 E_w_IX pd_0 (hb hby d2_25) (by rw [hml]; rfl) (argsL := [(.ref a1)]) (rest := []) rfl rfl rfl (W := 0) (Nat.le_of_eq rfl) (by decide) (by decide) (by decide) (by decide)
        obtain ⟨rfl, M11, e11⟩ := q11
        have N11 := Fr.app N8 M11
        have r11 : (f_covers w_IX a1 (3 : Int32) u1) = (1 : Int32) := by rw [f_covers, if_pos (c25_10 : ((3 : Int32) &&& (u1 ^^^ (-1 : Int32))) = (0 : Int32))]
        rw [r11] at st11
        refine Go.mp st11 ?_
        show Go p e below (T11.setTop (mkF m 28 #[.val (.ref a1), .val (.ref a2), .val (.ref w_WF), .val (.int (5 : Int32)), .val (.int (1 : Int32)), .val (.ref w_IX)] [(.int (1 : Int32))])) _
        refine g_ifNo X11 hx (hb hby d2_28) ((if0 _ _).trans (feq ((by decide) : ¬ ((1 : Int32) = (0 : Int32)))).1) ?_
        refine g_aload X11 hx (hb hby d2_31) rfl rfl ?_
        refine g_aloadN X11 hx (hb hby d2_33) rfl rfl ?_
        show Go p e below (T11.setTop (mkF m 34 #[.val (.ref a1), .val (.ref a2), .val (.ref w_WF), .val (.int (5 : Int32)), .val (.int (1 : Int32)), .val (.ref w_IX)] [(.ref a2), (.ref w_IX)])) _
        by_cases c34_12 : ((3 : Int32) &&& (u2 ^^^ (-1 : Int32))) = (0 : Int32)
        · obtain ⟨v13, T13, L13, X13, q13, st13⟩ := own_callV X11 hx hZ (y := (⟨"com/example/wombat/wombat/LockMode", "covers", "(Lcom/example/wombat/wombat/LockMode;)Z"⟩ : MethodName)) (pc := 34) (Ls := #[.val (.ref a1), .val (.ref a2), .val (.ref w_WF), .val (.int (5 : Int32)), .val (.int (1 : Int32)), .val (.ref w_IX)]) (st := [(.ref a2), (.ref w_IX)]) hown (hw _ (List.mem_of_getElem? (i := 17) rfl)) (hw _ (List.mem_of_getElem? (i := 18) rfl)) (hw _ (List.mem_of_getElem? (i := 20) rfl)) (hw _ (List.mem_of_getElem? (i := 19) rfl)) (hw _ (List.mem_of_getElem? (i := 21) rfl)) (hw _ (List.mem_of_getElem? (i := 6) rfl)) (by decide) (rm_covers l Z a0 hw w_IX a2 (3 : Int32) u2 h0 n0 Z0 F_w_IX_compatible F_a2_compatible) e11 E_w_IX pd_0 (hb hby d2_34) (by rw [hml]; rfl) (argsL := [(.ref a2)]) (rest := []) rfl rfl rfl (W := 0) (Nat.le_of_eq rfl) (by decide) (by decide) (by decide) (by decide)
          obtain ⟨rfl, M13, e13⟩ := q13
          have N13 := Fr.app N11 M13
          have r13 : (f_covers w_IX a2 (3 : Int32) u2) = (1 : Int32) := by rw [f_covers, if_pos (c34_12 : ((3 : Int32) &&& (u2 ^^^ (-1 : Int32))) = (0 : Int32))]
          rw [r13] at st13
          refine Go.mp st13 ?_
          show Go p e below (T13.setTop (mkF m 37 #[.val (.ref a1), .val (.ref a2), .val (.ref w_WF), .val (.int (5 : Int32)), .val (.int (1 : Int32)), .val (.ref w_IX)] [(.int (1 : Int32))])) _
          refine g_ifNo X13 hx (hb hby d2_37) ((if0 _ _).trans (feq ((by decide) : ¬ ((1 : Int32) = (0 : Int32)))).1) ?_
          refine g_aload X13 hx (hb hby d2_40) rfl rfl ?_
          exact own_retA X13 hx hret hlk rfl rfl (hb hby d2_42) (by decide) (by decide) ⟨by rw [f_combinedWith, if_pos c25_4, if_neg c34_6, if_pos c25_10, if_pos c34_12], N13, e13⟩
        · obtain ⟨v14, T14, L14, X14, q14, st14⟩ := own_callV X11 hx hZ (y := (⟨"com/example/wombat/wombat/LockMode", "covers", "(Lcom/example/wombat/wombat/LockMode;)Z"⟩ : MethodName)) (pc := 34) (Ls := #[.val (.ref a1), .val (.ref a2), .val (.ref w_WF), .val (.int (5 : Int32)), .val (.int (1 : Int32)), .val (.ref w_IX)]) (st := [(.ref a2), (.ref w_IX)]) hown (hw _ (List.mem_of_getElem? (i := 17) rfl)) (hw _ (List.mem_of_getElem? (i := 18) rfl)) (hw _ (List.mem_of_getElem? (i := 20) rfl)) (hw _ (List.mem_of_getElem? (i := 19) rfl)) (hw _ (List.mem_of_getElem? (i := 21) rfl)) (hw _ (List.mem_of_getElem? (i := 6) rfl)) (by decide) (rm_covers l Z a0 hw w_IX a2 (3 : Int32) u2 h0 n0 Z0 F_w_IX_compatible F_a2_compatible) e11 E_w_IX pd_0 (hb hby d2_34) (by rw [hml]; rfl) (argsL := [(.ref a2)]) (rest := []) rfl rfl rfl (W := 0) (Nat.le_of_eq rfl) (by decide) (by decide) (by decide) (by decide)
          obtain ⟨rfl, M14, e14⟩ := q14
          have N14 := Fr.app N11 M14
          have r14 : (f_covers w_IX a2 (3 : Int32) u2) = (0 : Int32) := by rw [f_covers, if_neg (c34_12 : ¬ (((3 : Int32) &&& (u2 ^^^ (-1 : Int32))) = (0 : Int32)))]
          rw [r14] at st14
          refine Go.mp st14 ?_
          show Go p e below (T14.setTop (mkF m 37 #[.val (.ref a1), .val (.ref a2), .val (.ref w_WF), .val (.int (5 : Int32)), .val (.int (1 : Int32)), .val (.ref w_IX)] [(.int (0 : Int32))])) _
          refine g_ifYes X14 hx 43 (hb hby d2_37) ((if0 _ _).trans (teq ((by decide) : (0 : Int32) = (0 : Int32))).1) (by decide) (by decide) ?_
          refine Go.mp (fun _ k => XS.iinc X14.here hx rfl (hb hby d2_43) rfl (l' := #[.val (.ref a1), .val (.ref a2), .val (.ref w_WF), .val (.int (5 : Int32)), .val (.int ((1 : Int32) + (1 : Int32))), .val (.ref w_IX)]) rfl k) ?_
          show Go p e below (T14.setTop (mkF m 46 #[.val (.ref a1), .val (.ref a2), .val (.ref w_WF), .val (.int (5 : Int32)), .val (.int ((1 : Int32) + (1 : Int32))), .val (.ref w_IX)] [])) _
          rw [show ((1 : Int32) + (1 : Int32)) = (2 : Int32) from by decide]
          show Go p e below (T14.setTop (mkF m 46 #[.val (.ref a1), .val (.ref a2), .val (.ref w_WF), .val (.int (5 : Int32)), .val (.int (2 : Int32)), .val (.ref w_IX)] [])) _
          refine g_goto X14 hx 10 (hb hby d2_46) (by decide) (by decide) ?_
          refine g_iload X14 hx (hb hby d2_10) rfl ?_
          refine g_iloadN X14 hx (hb hby d2_12) rfl ?_
          refine g_icmpNo X14 hx (hb hby d2_13) (tlt ((by decide) : (2 : Int32) < (5 : Int32))).2.1 ?_
          refine g_aloadN X14 hx (hb hby d2_16) rfl rfl ?_
          refine g_iload X14 hx (hb hby d2_17) rfl ?_
          obtain ⟨cl15, Ar15, -, sz15, -, Ha15, -⟩ := id V_w_WF
          have hin15 : ¬ ((2 : Int32) < 0 ∨ cl15.slots.size ≤ (2 : Int32).toNatClampNeg) := by rw [sz15]; decide
          have hat15 : cl15.slots[(2 : Int32).toNatClampNeg]? = some (.ref w_S) := Ha15 2 (by rw [sz15]; decide)
          refine Go.mp (fun _ k => X14.aaload hx (j := 2) (v := (.ref w_S)) (by rw [e14]; exact Ar15.1) (State.isArrayOf_alike hZ.alike Ar15.2.1) rfl Ar15.2.2 hin15 hat15 (g := (mkF m 19 #[.val (.ref a1), .val (.ref a2), .val (.ref w_WF), .val (.int (5 : Int32)), .val (.int (2 : Int32)), .val (.ref w_IX)] [(.int (2 : Int32)), (.ref w_WF)])) rfl rfl (hb hby d2_19) _ k) ?_
          show Go p e below (T14.setTop (mkF m 20 #[.val (.ref a1), .val (.ref a2), .val (.ref w_WF), .val (.int (5 : Int32)), .val (.int (2 : Int32)), .val (.ref w_IX)] [(.ref w_S)])) _
          refine g_astore X14 hx #[.val (.ref a1), .val (.ref a2), .val (.ref w_WF), .val (.int (5 : Int32)), .val (.int (2 : Int32)), .val (.ref w_S)] (hb hby d2_20) rfl rfl ?_
          refine g_aload X14 hx (hb hby d2_22) rfl rfl ?_
          refine g_aloadN X14 hx (hb hby d2_24) rfl rfl ?_
          show Go p e below (T14.setTop (mkF m 25 #[.val (.ref a1), .val (.ref a2), .val (.ref w_WF), .val (.int (5 : Int32)), .val (.int (2 : Int32)), .val (.ref w_S)] [(.ref a1), (.ref w_S)])) _
          by_cases c25_16 : ((5 : Int32) &&& (u1 ^^^ (-1 : Int32))) = (0 : Int32)
          · obtain ⟨v17, T17, L17, X17, q17, st17⟩ := own_callV X14 hx hZ (y := (⟨"com/example/wombat/wombat/LockMode", "covers", "(Lcom/example/wombat/wombat/LockMode;)Z"⟩ : MethodName)) (pc := 25) (Ls := #[.val (.ref a1), .val (.ref a2), .val (.ref w_WF), .val (.int (5 : Int32)), .val (.int (2 : Int32)), .val (.ref w_S)]) (st := [(.ref a1), (.ref w_S)]) hown (hw _ (List.mem_of_getElem? (i := 17) rfl)) (hw _ (List.mem_of_getElem? (i := 18) rfl)) (hw _ (List.mem_of_getElem? (i := 20) rfl)) (hw _ (List.mem_of_getElem? (i := 19) rfl)) (hw _ (List.mem_of_getElem? (i := 21) rfl)) (hw _ (List.mem_of_getElem? (i := 6) rfl)) (by decide) (rm_covers l Z a0 hw w_S a1 (5 : Int32) u1 h0 n0 Z0 F_w_S_compatible F_a1_compatible) e14 E_w_S pd_0 (hb hby d2_25) (by rw [hml]; rfl) (argsL := [(.ref a1)]) (rest := []) rfl rfl rfl (W := 0) (Nat.le_of_eq rfl) (by decide) (by decide) (by decide) (by decide)
            obtain ⟨rfl, M17, e17⟩ := q17
            have N17 := Fr.app N14 M17
            have r17 : (f_covers w_S a1 (5 : Int32) u1) = (1 : Int32) := by rw [f_covers, if_pos (c25_16 : ((5 : Int32) &&& (u1 ^^^ (-1 : Int32))) = (0 : Int32))]
            rw [r17] at st17
            refine Go.mp st17 ?_
            show Go p e below (T17.setTop (mkF m 28 #[.val (.ref a1), .val (.ref a2), .val (.ref w_WF), .val (.int (5 : Int32)), .val (.int (2 : Int32)), .val (.ref w_S)] [(.int (1 : Int32))])) _
            refine g_ifNo X17 hx (hb hby d2_28) ((if0 _ _).trans (feq ((by decide) : ¬ ((1 : Int32) = (0 : Int32)))).1) ?_
            refine g_aload X17 hx (hb hby d2_31) rfl rfl ?_
            refine g_aloadN X17 hx (hb hby d2_33) rfl rfl ?_
            show Go p e below (T17.setTop (mkF m 34 #[.val (.ref a1), .val (.ref a2), .val (.ref w_WF), .val (.int (5 : Int32)), .val (.int (2 : Int32)), .val (.ref w_S)] [(.ref a2), (.ref w_S)])) _
            by_cases c34_18 : ((5 : Int32) &&& (u2 ^^^ (-1 : Int32))) = (0 : Int32)
            · obtain ⟨v19, T19, L19, X19, q19, st19⟩ := own_callV X17 hx hZ (y := (⟨"com/example/wombat/wombat/LockMode", "covers", "(Lcom/example/wombat/wombat/LockMode;)Z"⟩ : MethodName)) (pc := 34) (Ls := #[.val (.ref a1), .val (.ref a2), .val (.ref w_WF), .val (.int (5 : Int32)), .val (.int (2 : Int32)), .val (.ref w_S)]) (st := [(.ref a2), (.ref w_S)]) hown (hw _ (List.mem_of_getElem? (i := 17) rfl)) (hw _ (List.mem_of_getElem? (i := 18) rfl)) (hw _ (List.mem_of_getElem? (i := 20) rfl)) (hw _ (List.mem_of_getElem? (i := 19) rfl)) (hw _ (List.mem_of_getElem? (i := 21) rfl)) (hw _ (List.mem_of_getElem? (i := 6) rfl)) (by decide) (rm_covers l Z a0 hw w_S a2 (5 : Int32) u2 h0 n0 Z0 F_w_S_compatible F_a2_compatible) e17 E_w_S pd_0 (hb hby d2_34) (by rw [hml]; rfl) (argsL := [(.ref a2)]) (rest := []) rfl rfl rfl (W := 0) (Nat.le_of_eq rfl) (by decide) (by decide) (by decide) (by decide)
              obtain ⟨rfl, M19, e19⟩ := q19
              have N19 := Fr.app N17 M19
              have r19 : (f_covers w_S a2 (5 : Int32) u2) = (1 : Int32) := by rw [f_covers, if_pos (c34_18 : ((5 : Int32) &&& (u2 ^^^ (-1 : Int32))) = (0 : Int32))]
              rw [r19] at st19
              refine Go.mp st19 ?_
              show Go p e below (T19.setTop (mkF m 37 #[.val (.ref a1), .val (.ref a2), .val (.ref w_WF), .val (.int (5 : Int32)), .val (.int (2 : Int32)), .val (.ref w_S)] [(.int (1 : Int32))])) _
              refine g_ifNo X19 hx (hb hby d2_37) ((if0 _ _).trans (feq ((by decide) : ¬ ((1 : Int32) = (0 : Int32)))).1) ?_
              refine g_aload X19 hx (hb hby d2_40) rfl rfl ?_
              exact own_retA X19 hx hret hlk rfl rfl (hb hby d2_42) (by decide) (by decide) ⟨by rw [f_combinedWith, if_pos c25_4, if_neg c34_6, if_pos c25_10, if_neg c34_12, if_pos c25_16, if_pos c34_18], N19, e19⟩
            · obtain ⟨v20, T20, L20, X20, q20, st20⟩ := own_callV X17 hx hZ (y := (⟨"com/example/wombat/wombat/LockMode", "covers", "(Lcom/example/wombat/wombat/LockMode;)Z"⟩ : MethodName)) (pc := 34) (Ls := #[.val (.ref a1), .val (.ref a2), .val (.ref w_WF), .val (.int (5 : Int32)), .val (.int (2 : Int32)), .val (.ref w_S)]) (st := [(.ref a2), (.ref w_S)]) hown (hw _ (List.mem_of_getElem? (i := 17) rfl)) (hw _ (List.mem_of_getElem? (i := 18) rfl)) (hw _ (List.mem_of_getElem? (i := 20) rfl)) (hw _ (List.mem_of_getElem? (i := 19) rfl)) (hw _ (List.mem_of_getElem? (i := 21) rfl)) (hw _ (List.mem_of_getElem? (i := 6) rfl)) (by decide) (rm_covers l Z a0 hw w_S a2 (5 : Int32) u2 h0 n0 Z0 F_w_S_compatible F_a2_compatible) e17 E_w_S pd_0 (hb hby d2_34) (by rw [hml]; rfl) (argsL := [(.ref a2)]) (rest := []) rfl rfl rfl (W := 0) (Nat.le_of_eq rfl) (by decide) (by decide) (by decide) (by decide)
              obtain ⟨rfl, M20, e20⟩ := q20
              have N20 := Fr.app N17 M20
              have r20 : (f_covers w_S a2 (5 : Int32) u2) = (0 : Int32) := by rw [f_covers, if_neg (c34_18 : ¬ (((5 : Int32) &&& (u2 ^^^ (-1 : Int32))) = (0 : Int32)))]
              rw [r20] at st20
              refine Go.mp st20 ?_
              show Go p e below (T20.setTop (mkF m 37 #[.val (.ref a1), .val (.ref a2), .val (.ref w_WF), .val (.int (5 : Int32)), .val (.int (2 : Int32)), .val (.ref w_S)] [(.int (0 : Int32))])) _
              refine g_ifYes X20 hx 43 (hb hby d2_37) ((if0 _ _).trans (teq ((by decide) : (0 : Int32) = (0 : Int32))).1) (by decide) (by decide) ?_
              refine Go.mp (fun _ k => XS.iinc X20.here hx rfl (hb hby d2_43) rfl (l' := #[.val (.ref a1), .val (.ref a2), .val (.ref w_WF), .val (.int (5 : Int32)), .val (.int ((2 : Int32) + (1 : Int32))), .val (.ref w_S)]) rfl k) ?_
              show Go p e below (T20.setTop (mkF m 46 #[.val (.ref a1), .val (.ref a2), .val (.ref w_WF), .val (.int (5 : Int32)), .val (.int ((2 : Int32) + (1 : Int32))), .val (.ref w_S)] [])) _
              rw [show ((2 : Int32) + (1 : Int32)) = (3 : Int32) from by decide]
              show Go p e below (T20.setTop (mkF m 46 #[.val (.ref a1), .val (.ref a2), .val (.ref w_WF), .val (.int (5 : Int32)), .val (.int (3 : Int32)), .val (.ref w_S)] [])) _
              refine g_goto X20 hx 10 (hb hby d2_46) (by decide) (by decide) ?_
              refine g_iload X20 hx (hb hby d2_10) rfl ?_
              refine g_iloadN X20 hx (hb hby d2_12) rfl ?_
              refine g_icmpNo X20 hx (hb hby d2_13) (tlt ((by decide) : (3 : Int32) < (5 : Int32))).2.1 ?_
              refine g_aloadN X20 hx (hb hby d2_16) rfl rfl ?_
              refine g_iload X20 hx (hb hby d2_17) rfl ?_
              obtain ⟨cl21, Ar21, -, sz21, -, Ha21, -⟩ := id V_w_WF
              have hin21 : ¬ ((3 : Int32) < 0 ∨ cl21.slots.size ≤ (3 : Int32).toNatClampNeg) := by rw [sz21]; decide
              have hat21 : cl21.slots[(3 : Int32).toNatClampNeg]? = some (.ref w_SIX) := Ha21 3 (by rw [sz21]; decide)
              refine Go.mp (fun _ k => X20.aaload hx (j := 3) (v := (.ref w_SIX)) (by rw [e20]; exact Ar21.1) (State.isArrayOf_alike hZ.alike Ar21.2.1) rfl Ar21.2.2 hin21 hat21 (g := (mkF m 19 #[.val (.ref a1), .val (.ref a2), .val (.ref w_WF), .val (.int (5 : Int32)), .val (.int (3 : Int32)), .val (.ref w_S)] [(.int (3 : Int32)), (.ref w_WF)])) rfl rfl (hb hby d2_19) _ k) ?_
              show Go p e below (T20.setTop (mkF m 20 #[.val (.ref a1), .val (.ref a2), .val (.ref w_WF), .val (.int (5 : Int32)), .val (.int (3 : Int32)), .val (.ref w_S)] [(.ref w_SIX)])) _
              refine g_astore X20 hx #[.val (.ref a1), .val (.ref a2), .val (.ref w_WF), .val (.int (5 : Int32)), .val (.int (3 : Int32)), .val (.ref w_SIX)] (hb hby d2_20) rfl rfl ?_
              refine g_aload X20 hx (hb hby d2_22) rfl rfl ?_
              refine g_aloadN X20 hx (hb hby d2_24) rfl rfl ?_
              show Go p e below (T20.setTop (mkF m 25 #[.val (.ref a1), .val (.ref a2), .val (.ref w_WF), .val (.int (5 : Int32)), .val (.int (3 : Int32)), .val (.ref w_SIX)] [(.ref a1), (.ref w_SIX)])) _
              by_cases c25_22 : ((1 : Int32) &&& (u1 ^^^ (-1 : Int32))) = (0 : Int32)
              · obtain ⟨v23, T23, L23, X23, q23, st23⟩ := own_callV X20 hx hZ (y := (⟨"com/example/wombat/wombat/LockMode", "covers", "(Lcom/example/wombat/wombat/LockMode;)Z"⟩ : MethodName)) (pc := 25) (Ls := #[.val (.ref a1), .val (.ref a2), .val (.ref w_WF), .val (.int (5 : Int32)), .val (.int (3 : Int32)), .val (.ref w_SIX)]) (st := [(.ref a1), (.ref w_SIX)]) hown (hw _ (List.mem_of_getElem? (i := 17) rfl)) (hw _ (List.mem_of_getElem? (i := 18) rfl)) (hw _ (List.mem_of_getElem? (i := 20) rfl)) (hw _ (List.mem_of_getElem? (i := 19) rfl)) (hw _ (List.mem_of_getElem? (i := 21) rfl)) (hw _ (List.mem_of_getElem? (i := 6) rfl)) (by decide) (rm_covers l Z a0 hw w_SIX a1 (1 : Int32) u1 h0 n0 Z0 F_w_SIX_compatible F_a1_compatible) e20 E_w_SIX pd_0 (hb hby d2_25) (by rw [hml]; rfl) (argsL := [(.ref a1)]) (rest := []) rfl rfl rfl (W := 0) (Nat.le_of_eq rfl) (by decide) (by decide) (by decide) (by decide)
                obtain ⟨rfl, M23, e23⟩ := q23
                have N23 := Fr.app N20 M23
                have r23 : (f_covers w_SIX a1 (1 : Int32) u1) = (1 : Int32) := by rw [f_covers, if_pos (c25_22 : ((1 : Int32) &&& (u1 ^^^ (-1 : Int32))) = (0 : Int32))]
                rw [r23] at st23
                refine Go.mp st23 ?_
                show Go p e below (T23.setTop (mkF m 28 #[.val (.ref a1), .val (.ref a2), .val (.ref w_WF), .val (.int (5 : Int32)), .val (.int (3 : Int32)), .val (.ref w_SIX)] [(.int (1 : Int32))])) _
                refine g_ifNo X23 hx (hb hby d2_28) ((if0 _ _).trans (feq ((by decide) : ¬ ((1 : Int32) = (0 : Int32)))).1) ?_
                refine g_aload X23 hx (hb hby d2_31) rfl rfl ?_
                refine g_aloadN X23 hx (hb hby d2_33) rfl rfl ?_
                show Go p e below (T23.setTop (mkF m 34 #[.val (.ref a1), .val (.ref a2), .val (.ref w_WF), .val (.int (5 : Int32)), .val (.int (3 : Int32)), .val (.ref w_SIX)] [(.ref a2), (.ref w_SIX)])) _
                by_cases c34_24 : ((1 : Int32) &&& (u2 ^^^ (-1 : Int32))) = (0 : Int32)
                · obtain ⟨v25, T25, L25, X25, q25, st25⟩ := own_callV X23 hx hZ (y := (⟨"com/example/wombat/wombat/LockMode", "covers", "(Lcom/example/wombat/wombat/LockMode;)Z"⟩ : MethodName)) (pc := 34) (Ls := #[.val (.ref a1), .val (.ref a2), .val (.ref w_WF), .val (.int (5 : Int32)), .val (.int (3 : Int32)), .val (.ref w_SIX)]) (st := [(.ref a2), (.ref w_SIX)]) hown (hw _ (List.mem_of_getElem? (i := 17) rfl)) (hw _ (List.mem_of_getElem? (i := 18) rfl)) (hw _ (List.mem_of_getElem? (i := 20) rfl)) (hw _ (List.mem_of_getElem? (i := 19) rfl)) (hw _ (List.mem_of_getElem? (i := 21) rfl)) (hw _ (List.mem_of_getElem? (i := 6) rfl)) (by decide) (rm_covers l Z a0 hw w_SIX a2 (1 : Int32) u2 h0 n0 Z0 F_w_SIX_compatible F_a2_compatible) e23 E_w_SIX pd_0 (hb hby d2_34) (by rw [hml]; rfl) (argsL := [(.ref a2)]) (rest := []) rfl rfl rfl (W := 0) (Nat.le_of_eq rfl) (by decide) (by decide) (by decide) (by decide)
                  obtain ⟨rfl, M25, e25⟩ := q25
                  have N25 := Fr.app N23 M25
                  have r25 : (f_covers w_SIX a2 (1 : Int32) u2) = (1 : Int32) := by rw [f_covers, if_pos (c34_24 : ((1 : Int32) &&& (u2 ^^^ (-1 : Int32))) = (0 : Int32))]
                  rw [r25] at st25
                  refine Go.mp st25 ?_
                  show Go p e below (T25.setTop (mkF m 37 #[.val (.ref a1), .val (.ref a2), .val (.ref w_WF), .val (.int (5 : Int32)), .val (.int (3 : Int32)), .val (.ref w_SIX)] [(.int (1 : Int32))])) _
                  refine g_ifNo X25 hx (hb hby d2_37) ((if0 _ _).trans (feq ((by decide) : ¬ ((1 : Int32) = (0 : Int32)))).1) ?_
                  refine g_aload X25 hx (hb hby d2_40) rfl rfl ?_
                  exact own_retA X25 hx hret hlk rfl rfl (hb hby d2_42) (by decide) (by decide) ⟨by rw [f_combinedWith, if_pos c25_4, if_neg c34_6, if_pos c25_10, if_neg c34_12, if_pos c25_16, if_neg c34_18, if_pos c25_22, if_pos c34_24], N25, e25⟩
                · obtain ⟨v26, T26, L26, X26, q26, st26⟩ := own_callV X23 hx hZ (y := (⟨"com/example/wombat/wombat/LockMode", "covers", "(Lcom/example/wombat/wombat/LockMode;)Z"⟩ : MethodName)) (pc := 34) (Ls := #[.val (.ref a1), .val (.ref a2), .val (.ref w_WF), .val (.int (5 : Int32)), .val (.int (3 : Int32)), .val (.ref w_SIX)]) (st := [(.ref a2), (.ref w_SIX)]) hown (hw _ (List.mem_of_getElem? (i := 17) rfl)) (hw _ (List.mem_of_getElem? (i := 18) rfl)) (hw _ (List.mem_of_getElem? (i := 20) rfl)) (hw _ (List.mem_of_getElem? (i := 19) rfl)) (hw _ (List.mem_of_getElem? (i := 21) rfl)) (hw _ (List.mem_of_getElem? (i := 6) rfl)) (by decide) (rm_covers l Z a0 hw w_SIX a2 (1 : Int32) u2 h0 n0 Z0 F_w_SIX_compatible F_a2_compatible) e23 E_w_SIX pd_0 (hb hby d2_34) (by rw [hml]; rfl) (argsL := [(.ref a2)]) (rest := []) rfl rfl rfl (W := 0) (Nat.le_of_eq rfl) (by decide) (by decide) (by decide) (by decide)
                  obtain ⟨rfl, M26, e26⟩ := q26
                  have N26 := Fr.app N23 M26
                  have r26 : (f_covers w_SIX a2 (1 : Int32) u2) = (0 : Int32) := by rw [f_covers, if_neg (c34_24 : ¬ (((1 : Int32) &&& (u2 ^^^ (-1 : Int32))) = (0 : Int32)))]
                  rw [r26] at st26
                  refine Go.mp st26 ?_
                  show Go p e below (T26.setTop (mkF m 37 #[.val (.ref a1), .val (.ref a2), .val (.ref w_WF), .val (.int (5 : Int32)), .val (.int (3 : Int32)), .val (.ref w_SIX)] [(.int (0 : Int32))])) _
                  refine g_ifYes X26 hx 43 (hb hby d2_37) ((if0 _ _).trans (teq ((by decide) : (0 : Int32) = (0 : Int32))).1) (by decide) (by decide) ?_
                  refine Go.mp (fun _ k => XS.iinc X26.here hx rfl (hb hby d2_43) rfl (l' := #[.val (.ref a1), .val (.ref a2), .val (.ref w_WF), .val (.int (5 : Int32)), .val (.int ((3 : Int32) + (1 : Int32))), .val (.ref w_SIX)]) rfl k) ?_
                  show Go p e below (T26.setTop (mkF m 46 #[.val (.ref a1), .val (.ref a2), .val (.ref w_WF), .val (.int (5 : Int32)), .val (.int ((3 : Int32) + (1 : Int32))), .val (.ref w_SIX)] [])) _
                  rw [show ((3 : Int32) + (1 : Int32)) = (4 : Int32) from by decide]
                  show Go p e below (T26.setTop (mkF m 46 #[.val (.ref a1), .val (.ref a2), .val (.ref w_WF), .val (.int (5 : Int32)), .val (.int (4 : Int32)), .val (.ref w_SIX)] [])) _
                  refine g_goto X26 hx 10 (hb hby d2_46) (by decide) (by decide) ?_
                  refine g_iload X26 hx (hb hby d2_10) rfl ?_
                  refine g_iloadN X26 hx (hb hby d2_12) rfl ?_
                  refine g_icmpNo X26 hx (hb hby d2_13) (tlt ((by decide) : (4 : Int32) < (5 : Int32))).2.1 ?_
                  refine g_aloadN X26 hx (hb hby d2_16) rfl rfl ?_
                  refine g_iload X26 hx (hb hby d2_17) rfl ?_
                  obtain ⟨cl27, Ar27, -, sz27, -, Ha27, -⟩ := id V_w_WF
                  have hin27 : ¬ ((4 : Int32) < 0 ∨ cl27.slots.size ≤ (4 : Int32).toNatClampNeg) := by rw [sz27]; decide
                  have hat27 : cl27.slots[(4 : Int32).toNatClampNeg]? = some (.ref w_X) := Ha27 4 (by rw [sz27]; decide)
                  refine Go.mp (fun _ k => X26.aaload hx (j := 4) (v := (.ref w_X)) (by rw [e26]; exact Ar27.1) (State.isArrayOf_alike hZ.alike Ar27.2.1) rfl Ar27.2.2 hin27 hat27 (g := (mkF m 19 #[.val (.ref a1), .val (.ref a2), .val (.ref w_WF), .val (.int (5 : Int32)), .val (.int (4 : Int32)), .val (.ref w_SIX)] [(.int (4 : Int32)), (.ref w_WF)])) rfl rfl (hb hby d2_19) _ k) ?_
                  show Go p e below (T26.setTop (mkF m 20 #[.val (.ref a1), .val (.ref a2), .val (.ref w_WF), .val (.int (5 : Int32)), .val (.int (4 : Int32)), .val (.ref w_SIX)] [(.ref w_X)])) _
                  refine g_astore X26 hx #[.val (.ref a1), .val (.ref a2), .val (.ref w_WF), .val (.int (5 : Int32)), .val (.int (4 : Int32)), .val (.ref w_X)] (hb hby d2_20) rfl rfl ?_
                  refine g_aload X26 hx (hb hby d2_22) rfl rfl ?_
                  refine g_aloadN X26 hx (hb hby d2_24) rfl rfl ?_
                  show Go p e below (T26.setTop (mkF m 25 #[.val (.ref a1), .val (.ref a2), .val (.ref w_WF), .val (.int (5 : Int32)), .val (.int (4 : Int32)), .val (.ref w_X)] [(.ref a1), (.ref w_X)])) _
                  obtain ⟨v28, T28, L28, X28, q28, st28⟩ := own_callV X26 hx hZ (y := (⟨"com/example/wombat/wombat/LockMode", "covers", "(Lcom/example/wombat/wombat/LockMode;)Z"⟩ : MethodName)) (pc := 25) (Ls := #[.val (.ref a1), .val (.ref a2), .val (.ref w_WF), .val (.int (5 : Int32)), .val (.int (4 : Int32)), .val (.ref w_X)]) (st := [(.ref a1), (.ref w_X)]) hown (hw _ (List.mem_of_getElem? (i := 17) rfl)) (hw _ (List.mem_of_getElem? (i := 18) rfl)) (hw _ (List.mem_of_getElem? (i := 20) rfl)) (hw _ (List.mem_of_getElem? (i := 19) rfl)) (hw _ (List.mem_of_getElem? (i := 21) rfl)) (hw _ (List.mem_of_getElem? (i := 6) rfl)) (by decide) (rm_covers l Z a0 hw w_X a1 (0 : Int32) u1 h0 n0 Z0 F_w_X_compatible F_a1_compatible) e26 E_w_X pd_0 (hb hby d2_25) (by rw [hml]; rfl) (argsL := [(.ref a1)]) (rest := []) rfl rfl rfl (W := 0) (Nat.le_of_eq rfl) (by decide) (by decide) (by decide) (by decide)
                  obtain ⟨rfl, M28, e28⟩ := q28
                  have N28 := Fr.app N26 M28
                  have r28 : (f_covers w_X a1 (0 : Int32) u1) = (1 : Int32) := by rw [f_covers, if_pos ((own_zand _) : ((0 : Int32) &&& (u1 ^^^ (-1 : Int32))) = (0 : Int32))]
                  rw [r28] at st28
                  refine Go.mp st28 ?_
                  show Go p e below (T28.setTop (mkF m 28 #[.val (.ref a1), .val (.ref a2), .val (.ref w_WF), .val (.int (5 : Int32)), .val (.int (4 : Int32)), .val (.ref w_X)] [(.int (1 : Int32))])) _
                  refine g_ifNo X28 hx (hb hby d2_28) ((if0 _ _).trans (feq ((by decide) : ¬ ((1 : Int32) = (0 : Int32)))).1) ?_
                  refine g_aload X28 hx (hb hby d2_31) rfl rfl ?_
                  refine g_aloadN X28 hx (hb hby d2_33) rfl rfl ?_
                  show Go p e below (T28.setTop (mkF m 34 #[.val (.ref a1), .val (.ref a2), .val (.ref w_WF), .val (.int (5 : Int32)), .val (.int (4 : Int32)), .val (.ref w_X)] [(.ref a2), (.ref w_X)])) _
                  obtain ⟨v29, T29, L29, X29, q29, st29⟩ := own_callV X28 hx hZ (y := (⟨"com/example/wombat/wombat/LockMode", "covers", "(Lcom/example/wombat/wombat/LockMode;)Z"⟩ : MethodName)) (pc := 34) (Ls := #[.val (.ref a1), .val (.ref a2), .val (.ref w_WF), .val (.int (5 : Int32)), .val (.int (4 : Int32)), .val (.ref w_X)]) (st := [(.ref a2), (.ref w_X)]) hown (hw _ (List.mem_of_getElem? (i := 17) rfl)) (hw _ (List.mem_of_getElem? (i := 18) rfl)) (hw _ (List.mem_of_getElem? (i := 20) rfl)) (hw _ (List.mem_of_getElem? (i := 19) rfl)) (hw _ (List.mem_of_getElem? (i := 21) rfl)) (hw _ (List.mem_of_getElem? (i := 6) rfl)) (by decide) (rm_covers l Z a0 hw w_X a2 (0 : Int32) u2 h0 n0 Z0 F_w_X_compatible F_a2_compatible) e28 E_w_X pd_0 (hb hby d2_34) (by rw [hml]; rfl) (argsL := [(.ref a2)]) (rest := []) rfl rfl rfl (W := 0) (Nat.le_of_eq rfl) (by decide) (by decide) (by decide) (by decide)
                  obtain ⟨rfl, M29, e29⟩ := q29
                  have N29 := Fr.app N28 M29
                  have r29 : (f_covers w_X a2 (0 : Int32) u2) = (1 : Int32) := by rw [f_covers, if_pos ((own_zand _) : ((0 : Int32) &&& (u2 ^^^ (-1 : Int32))) = (0 : Int32))]
                  rw [r29] at st29
                  refine Go.mp st29 ?_
                  show Go p e below (T29.setTop (mkF m 37 #[.val (.ref a1), .val (.ref a2), .val (.ref w_WF), .val (.int (5 : Int32)), .val (.int (4 : Int32)), .val (.ref w_X)] [(.int (1 : Int32))])) _
                  refine g_ifNo X29 hx (hb hby d2_37) ((if0 _ _).trans (feq ((by decide) : ¬ ((1 : Int32) = (0 : Int32)))).1) ?_
                  refine g_aload X29 hx (hb hby d2_40) rfl rfl ?_
                  exact own_retA X29 hx hret hlk rfl rfl (hb hby d2_42) (by decide) (by decide) ⟨by rw [f_combinedWith, if_pos c25_4, if_neg c34_6, if_pos c25_10, if_neg c34_12, if_pos c25_16, if_neg c34_18, if_pos c25_22, if_neg c34_24], N29, e29⟩
              · obtain ⟨v30, T30, L30, X30, q30, st30⟩ := own_callV X20 hx hZ (y := (⟨"com/example/wombat/wombat/LockMode", "covers", "(Lcom/example/wombat/wombat/LockMode;)Z"⟩ : MethodName)) (pc := 25) (Ls := #[.val (.ref a1), .val (.ref a2), .val (.ref w_WF), .val (.int (5 : Int32)), .val (.int (3 : Int32)), .val (.ref w_SIX)]) (st := [(.ref a1), (.ref w_SIX)]) hown (hw _ (List.mem_of_getElem? (i := 17) rfl)) (hw _ (List.mem_of_getElem? (i := 18) rfl)) (hw _ (List.mem_of_getElem? (i := 20) rfl)) (hw _ (List.mem_of_getElem? (i := 19) rfl)) (hw _ (List.mem_of_getElem? (i := 21) rfl)) (hw _ (List.mem_of_getElem? (i := 6) rfl)) (by decide) (rm_covers l Z a0 hw w_SIX a1 (1 : Int32) u1 h0 n0 Z0 F_w_SIX_compatible F_a1_compatible) e20 E_w_SIX pd_0 (hb hby d2_25) (by rw [hml]; rfl) (argsL := [(.ref a1)]) (rest := []) rfl rfl rfl (W := 0) (Nat.le_of_eq rfl) (by decide) (by decide) (by decide) (by decide)
                obtain ⟨rfl, M30, e30⟩ := q30
                have N30 := Fr.app N20 M30
                have r30 : (f_covers w_SIX a1 (1 : Int32) u1) = (0 : Int32) := by rw [f_covers, if_neg (c25_22 : ¬ (((1 : Int32) &&& (u1 ^^^ (-1 : Int32))) = (0 : Int32)))]
                rw [r30] at st30
                refine Go.mp st30 ?_
                show Go p e below (T30.setTop (mkF m 28 #[.val (.ref a1), .val (.ref a2), .val (.ref w_WF), .val (.int (5 : Int32)), .val (.int (3 : Int32)), .val (.ref w_SIX)] [(.int (0 : Int32))])) _
                refine g_ifYes X30 hx 43 (hb hby d2_28) ((if0 _ _).trans (teq ((by decide) : (0 : Int32) = (0 : Int32))).1) (by decide) (by decide) ?_
                refine Go.mp (fun _ k => XS.iinc X30.here hx rfl (hb hby d2_43) rfl (l' := #[.val (.ref a1), .val (.ref a2), .val (.ref w_WF), .val (.int (5 : Int32)), .val (.int ((3 : Int32) + (1 : Int32))), .val (.ref w_SIX)]) rfl k) ?_
                show Go p e below (T30.setTop (mkF m 46 #[.val (.ref a1), .val (.ref a2), .val (.ref w_WF), .val (.int (5 : Int32)), .val (.int ((3 : Int32) + (1 : Int32))), .val (.ref w_SIX)] [])) _
                rw [show ((3 : Int32) + (1 : Int32)) = (4 : Int32) from by decide]
                show Go p e below (T30.setTop (mkF m 46 #[.val (.ref a1), .val (.ref a2), .val (.ref w_WF), .val (.int (5 : Int32)), .val (.int (4 : Int32)), .val (.ref w_SIX)] [])) _
                refine g_goto X30 hx 10 (hb hby d2_46) (by decide) (by decide) ?_
                refine g_iload X30 hx (hb hby d2_10) rfl ?_
                refine g_iloadN X30 hx (hb hby d2_12) rfl ?_
                refine g_icmpNo X30 hx (hb hby d2_13) (tlt ((by decide) : (4 : Int32) < (5 : Int32))).2.1 ?_
                refine g_aloadN X30 hx (hb hby d2_16) rfl rfl ?_
                refine g_iload X30 hx (hb hby d2_17) rfl ?_
                obtain ⟨cl31, Ar31, -, sz31, -, Ha31, -⟩ := id V_w_WF
                have hin31 : ¬ ((4 : Int32) < 0 ∨ cl31.slots.size ≤ (4 : Int32).toNatClampNeg) := by rw [sz31]; decide
                have hat31 : cl31.slots[(4 : Int32).toNatClampNeg]? = some (.ref w_X) := Ha31 4 (by rw [sz31]; decide)
                refine Go.mp (fun _ k => X30.aaload hx (j := 4) (v := (.ref w_X)) (by rw [e30]; exact Ar31.1) (State.isArrayOf_alike hZ.alike Ar31.2.1) rfl Ar31.2.2 hin31 hat31 (g := (mkF m 19 #[.val (.ref a1), .val (.ref a2), .val (.ref w_WF), .val (.int (5 : Int32)), .val (.int (4 : Int32)), .val (.ref w_SIX)] [(.int (4 : Int32)), (.ref w_WF)])) rfl rfl (hb hby d2_19) _ k) ?_
                show Go p e below (T30.setTop (mkF m 20 #[.val (.ref a1), .val (.ref a2), .val (.ref w_WF), .val (.int (5 : Int32)), .val (.int (4 : Int32)), .val (.ref w_SIX)] [(.ref w_X)])) _
                refine g_astore X30 hx #[.val (.ref a1), .val (.ref a2), .val (.ref w_WF), .val (.int (5 : Int32)), .val (.int (4 : Int32)), .val (.ref w_X)] (hb hby d2_20) rfl rfl ?_
                refine g_aload X30 hx (hb hby d2_22) rfl rfl ?_
                refine g_aloadN X30 hx (hb hby d2_24) rfl rfl ?_
                show Go p e below (T30.setTop (mkF m 25 #[.val (.ref a1), .val (.ref a2), .val (.ref w_WF), .val (.int (5 : Int32)), .val (.int (4 : Int32)), .val (.ref w_X)] [(.ref a1), (.ref w_X)])) _
                obtain ⟨v32, T32, L32, X32, q32, st32⟩ := own_callV X30 hx hZ (y := (⟨"com/example/wombat/wombat/LockMode", "covers", "(Lcom/example/wombat/wombat/LockMode;)Z"⟩ : MethodName)) (pc := 25) (Ls := #[.val (.ref a1), .val (.ref a2), .val (.ref w_WF), .val (.int (5 : Int32)), .val (.int (4 : Int32)), .val (.ref w_X)]) (st := [(.ref a1), (.ref w_X)]) hown (hw _ (List.mem_of_getElem? (i := 17) rfl)) (hw _ (List.mem_of_getElem? (i := 18) rfl)) (hw _ (List.mem_of_getElem? (i := 20) rfl)) (hw _ (List.mem_of_getElem? (i := 19) rfl)) (hw _ (List.mem_of_getElem? (i := 21) rfl)) (hw _ (List.mem_of_getElem? (i := 6) rfl)) (by decide) (rm_covers l Z a0 hw w_X a1 (0 : Int32) u1 h0 n0 Z0 F_w_X_compatible F_a1_compatible) e30 E_w_X pd_0 (hb hby d2_25) (by rw [hml]; rfl) (argsL := [(.ref a1)]) (rest := []) rfl rfl rfl (W := 0) (Nat.le_of_eq rfl) (by decide) (by decide) (by decide) (by decide)
                obtain ⟨rfl, M32, e32⟩ := q32
                have N32 := Fr.app N30 M32
                have r32 : (f_covers w_X a1 (0 : Int32) u1) = (1 : Int32) := by rw [f_covers, if_pos ((own_zand _) : ((0 : Int32) &&& (u1 ^^^ (-1 : Int32))) = (0 : Int32))]
                rw [r32] at st32
                refine Go.mp st32 ?_
                show Go p e below (T32.setTop (mkF m 28 #[.val (.ref a1), .val (.ref a2), .val (.ref w_WF), .val (.int (5 : Int32)), .val (.int (4 : Int32)), .val (.ref w_X)] [(.int (1 : Int32))])) _
                refine g_ifNo X32 hx (hb hby d2_28) ((if0 _ _).trans (feq ((by decide) : ¬ ((1 : Int32) = (0 : Int32)))).1) ?_
                refine g_aload X32 hx (hb hby d2_31) rfl rfl ?_
                refine g_aloadN X32 hx (hb hby d2_33) rfl rfl ?_
                show Go p e below (T32.setTop (mkF m 34 #[.val (.ref a1), .val (.ref a2), .val (.ref w_WF), .val (.int (5 : Int32)), .val (.int (4 : Int32)), .val (.ref w_X)] [(.ref a2), (.ref w_X)])) _
                obtain ⟨v33, T33, L33, X33, q33, st33⟩ := own_callV X32 hx hZ (y := (⟨"com/example/wombat/wombat/LockMode", "covers", "(Lcom/example/wombat/wombat/LockMode;)Z"⟩ : MethodName)) (pc := 34) (Ls := #[.val (.ref a1), .val (.ref a2), .val (.ref w_WF), .val (.int (5 : Int32)), .val (.int (4 : Int32)), .val (.ref w_X)]) (st := [(.ref a2), (.ref w_X)]) hown (hw _ (List.mem_of_getElem? (i := 17) rfl)) (hw _ (List.mem_of_getElem? (i := 18) rfl)) (hw _ (List.mem_of_getElem? (i := 20) rfl)) (hw _ (List.mem_of_getElem? (i := 19) rfl)) (hw _ (List.mem_of_getElem? (i := 21) rfl)) (hw _ (List.mem_of_getElem? (i := 6) rfl)) (by decide) (rm_covers l Z a0 hw w_X a2 (0 : Int32) u2 h0 n0 Z0 F_w_X_compatible F_a2_compatible) e32 E_w_X pd_0 (hb hby d2_34) (by rw [hml]; rfl) (argsL := [(.ref a2)]) (rest := []) rfl rfl rfl (W := 0) (Nat.le_of_eq rfl) (by decide) (by decide) (by decide) (by decide)
                obtain ⟨rfl, M33, e33⟩ := q33
                have N33 := Fr.app N32 M33
                have r33 : (f_covers w_X a2 (0 : Int32) u2) = (1 : Int32) := by rw [f_covers, if_pos ((own_zand _) : ((0 : Int32) &&& (u2 ^^^ (-1 : Int32))) = (0 : Int32))]
                rw [r33] at st33
                refine Go.mp st33 ?_
                show Go p e below (T33.setTop (mkF m 37 #[.val (.ref a1), .val (.ref a2), .val (.ref w_WF), .val (.int (5 : Int32)), .val (.int (4 : Int32)), .val (.ref w_X)] [(.int (1 : Int32))])) _
                refine g_ifNo X33 hx (hb hby d2_37) ((if0 _ _).trans (feq ((by decide) : ¬ ((1 : Int32) = (0 : Int32)))).1) ?_
                refine g_aload X33 hx (hb hby d2_40) rfl rfl ?_
                exact own_retA X33 hx hret hlk rfl rfl (hb hby d2_42) (by decide) (by decide) ⟨by rw [f_combinedWith, if_pos c25_4, if_neg c34_6, if_pos c25_10, if_neg c34_12, if_pos c25_16, if_neg c34_18, if_neg c25_22], N33, e33⟩
          · obtain ⟨v34, T34, L34, X34, q34, st34⟩ := own_callV X14 hx hZ (y := (⟨"com/example/wombat/wombat/LockMode", "covers", "(Lcom/example/wombat/wombat/LockMode;)Z"⟩ : MethodName)) (pc := 25) (Ls := #[.val (.ref a1), .val (.ref a2), .val (.ref w_WF), .val (.int (5 : Int32)), .val (.int (2 : Int32)), .val (.ref w_S)]) (st := [(.ref a1), (.ref w_S)]) hown (hw _ (List.mem_of_getElem? (i := 17) rfl)) (hw _ (List.mem_of_getElem? (i := 18) rfl)) (hw _ (List.mem_of_getElem? (i := 20) rfl)) (hw _ (List.mem_of_getElem? (i := 19) rfl)) (hw _ (List.mem_of_getElem? (i := 21) rfl)) (hw _ (List.mem_of_getElem? (i := 6) rfl)) (by decide) (rm_covers l Z a0 hw w_S a1 (5 : Int32) u1 h0 n0 Z0 F_w_S_compatible F_a1_compatible) e14 E_w_S pd_0 (hb hby d2_25) (by rw [hml]; rfl) (argsL := [(.ref a1)]) (rest := []) rfl rfl rfl (W := 0) (Nat.le_of_eq rfl) (by decide) (by decide) (by decide) (by decide)
            obtain ⟨rfl, M34, e34⟩ := q34
            have N34 := Fr.app N14 M34
            have r34 : (f_covers w_S a1 (5 : Int32) u1) = (0 : Int32) := by rw [f_covers, if_neg (c25_16 : ¬ (((5 : Int32) &&& (u1 ^^^ (-1 : Int32))) = (0 : Int32)))]
            rw [r34] at st34
            refine Go.mp st34 ?_
            show Go p e below (T34.setTop (mkF m 28 #[.val (.ref a1), .val (.ref a2), .val (.ref w_WF), .val (.int (5 : Int32)), .val (.int (2 : Int32)), .val (.ref w_S)] [(.int (0 : Int32))])) _
            refine g_ifYes X34 hx 43 (hb hby d2_28) ((if0 _ _).trans (teq ((by decide) : (0 : Int32) = (0 : Int32))).1) (by decide) (by decide) ?_
            refine Go.mp (fun _ k => XS.iinc X34.here hx rfl (hb hby d2_43) rfl (l' := #[.val (.ref a1), .val (.ref a2), .val (.ref w_WF), .val (.int (5 : Int32)), .val (.int ((2 : Int32) + (1 : Int32))), .val (.ref w_S)]) rfl k) ?_
            show Go p e below (T34.setTop (mkF m 46 #[.val (.ref a1), .val (.ref a2), .val (.ref w_WF), .val (.int (5 : Int32)), .val (.int ((2 : Int32) + (1 : Int32))), .val (.ref w_S)] [])) _
            rw [show ((2 : Int32) + (1 : Int32)) = (3 : Int32) from by decide]
            show Go p e below (T34.setTop (mkF m 46 #[.val (.ref a1), .val (.ref a2), .val (.ref w_WF), .val (.int (5 : Int32)), .val (.int (3 : Int32)), .val (.ref w_S)] [])) _
            refine g_goto X34 hx 10 (hb hby d2_46) (by decide) (by decide) ?_
            refine g_iload X34 hx (hb hby d2_10) rfl ?_
            refine g_iloadN X34 hx (hb hby d2_12) rfl ?_
            refine g_icmpNo X34 hx (hb hby d2_13) (tlt ((by decide) : (3 : Int32) < (5 : Int32))).2.1 ?_
            refine g_aloadN X34 hx (hb hby d2_16) rfl rfl ?_
            refine g_iload X34 hx (hb hby d2_17) rfl ?_
            obtain ⟨cl35, Ar35, -, sz35, -, Ha35, -⟩ := id V_w_WF
            have hin35 : ¬ ((3 : Int32) < 0 ∨ cl35.slots.size ≤ (3 : Int32).toNatClampNeg) := by rw [sz35]; decide
            have hat35 : cl35.slots[(3 : Int32).toNatClampNeg]? = some (.ref w_SIX) := Ha35 3 (by rw [sz35]; decide)
            refine Go.mp (fun _ k => X34.aaload hx (j := 3) (v := (.ref w_SIX)) (by rw [e34]; exact Ar35.1) (State.isArrayOf_alike hZ.alike Ar35.2.1) rfl Ar35.2.2 hin35 hat35 (g := (mkF m 19 #[.val (.ref a1), .val (.ref a2), .val (.ref w_WF), .val (.int (5 : Int32)), .val (.int (3 : Int32)), .val (.ref w_S)] [(.int (3 : Int32)), (.ref w_WF)])) rfl rfl (hb hby d2_19) _ k) ?_
            show Go p e below (T34.setTop (mkF m 20 #[.val (.ref a1), .val (.ref a2), .val (.ref w_WF), .val (.int (5 : Int32)), .val (.int (3 : Int32)), .val (.ref w_S)] [(.ref w_SIX)])) _
            refine g_astore X34 hx #[.val (.ref a1), .val (.ref a2), .val (.ref w_WF), .val (.int (5 : Int32)), .val (.int (3 : Int32)), .val (.ref w_SIX)] (hb hby d2_20) rfl rfl ?_
            refine g_aload X34 hx (hb hby d2_22) rfl rfl ?_
            refine g_aloadN X34 hx (hb hby d2_24) rfl rfl ?_
            show Go p e below (T34.setTop (mkF m 25 #[.val (.ref a1), .val (.ref a2), .val (.ref w_WF), .val (.int (5 : Int32)), .val (.int (3 : Int32)), .val (.ref w_SIX)] [(.ref a1), (.ref w_SIX)])) _
            by_cases c25_36 : ((1 : Int32) &&& (u1 ^^^ (-1 : Int32))) = (0 : Int32)
            · obtain ⟨v37, T37, L37, X37, q37, st37⟩ := own_callV X34 hx hZ (y := (⟨"com/example/wombat/wombat/LockMode", "covers", "(Lcom/example/wombat/wombat/LockMode;)Z"⟩ : MethodName)) (pc := 25) (Ls := #[.val (.ref a1), .val (.ref a2), .val (.ref w_WF), .val (.int (5 : Int32)), .val (.int (3 : Int32)), .val (.ref w_SIX)]) (st := [(.ref a1), (.ref w_SIX)]) hown (hw _ (List.mem_of_getElem? (i := 17) rfl)) (hw _ (List.mem_of_getElem? (i := 18) rfl)) (hw _ (List.mem_of_getElem? (i := 20) rfl)) (hw _ (List.mem_of_getElem? (i := 19) rfl)) (hw _ (List.mem_of_getElem? (i := 21) rfl)) (hw _ (List.mem_of_getElem? (i := 6) rfl)) (by decide) (rm_covers l Z a0 hw w_SIX a1 (1 : Int32) u1 h0 n0 Z0 F_w_SIX_compatible F_a1_compatible) e34 E_w_SIX pd_0 (hb hby d2_25) (by rw [hml]; rfl) (argsL := [(.ref a1)]) (rest := []) rfl rfl rfl (W := 0) (Nat.le_of_eq rfl) (by decide) (by decide) (by decide) (by decide)
              obtain ⟨rfl, M37, e37⟩ := q37
              have N37 := Fr.app N34 M37
              have r37 : (f_covers w_SIX a1 (1 : Int32) u1) = (1 : Int32) := by rw [f_covers, if_pos (c25_36 : ((1 : Int32) &&& (u1 ^^^ (-1 : Int32))) = (0 : Int32))]
              rw [r37] at st37
              refine Go.mp st37 ?_
              show Go p e below (T37.setTop (mkF m 28 #[.val (.ref a1), .val (.ref a2), .val (.ref w_WF), .val (.int (5 : Int32)), .val (.int (3 : Int32)), .val (.ref w_SIX)] [(.int (1 : Int32))])) _
              refine g_ifNo X37 hx (hb hby d2_28) ((if0 _ _).trans (feq ((by decide) : ¬ ((1 : Int32) = (0 : Int32)))).1) ?_
              refine g_aload X37 hx (hb hby d2_31) rfl rfl ?_
              refine g_aloadN X37 hx (hb hby d2_33) rfl rfl ?_
              show Go p e below (T37.setTop (mkF m 34 #[.val (.ref a1), .val (.ref a2), .val (.ref w_WF), .val (.int (5 : Int32)), .val (.int (3 : Int32)), .val (.ref w_SIX)] [(.ref a2), (.ref w_SIX)])) _
              by_cases c34_38 : ((1 : Int32) &&& (u2 ^^^ (-1 : Int32))) = (0 : Int32)
              · obtain ⟨v39, T39, L39, X39, q39, st39⟩ := own_callV X37 hx hZ (y := (⟨"com/example/wombat/wombat/LockMode", "covers", "(Lcom/example/wombat/wombat/LockMode;)Z"⟩ : MethodName)) (pc := 34) (Ls := #[.val (.ref a1), .val (.ref a2), .val (.ref w_WF), .val (.int (5 : Int32)), .val (.int (3 : Int32)), .val (.ref w_SIX)]) (st := [(.ref a2), (.ref w_SIX)]) hown (hw _ (List.mem_of_getElem? (i := 17) rfl)) (hw _ (List.mem_of_getElem? (i := 18) rfl)) (hw _ (List.mem_of_getElem? (i := 20) rfl)) (hw _ (List.mem_of_getElem? (i := 19) rfl)) (hw _ (List.mem_of_getElem? (i := 21) rfl)) (hw _ (List.mem_of_getElem? (i := 6) rfl)) (by decide) (rm_covers l Z a0 hw w_SIX a2 (1 : Int32) u2 h0 n0 Z0 F_w_SIX_compatible F_a2_compatible) e37 E_w_SIX pd_0 (hb hby d2_34) (by rw [hml]; rfl) (argsL := [(.ref a2)]) (rest := []) rfl rfl rfl (W := 0) (Nat.le_of_eq rfl) (by decide) (by decide) (by decide) (by decide)
                obtain ⟨rfl, M39, e39⟩ := q39
                have N39 := Fr.app N37 M39
                have r39 : (f_covers w_SIX a2 (1 : Int32) u2) = (1 : Int32) := by rw [f_covers, if_pos (c34_38 : ((1 : Int32) &&& (u2 ^^^ (-1 : Int32))) = (0 : Int32))]
                rw [r39] at st39
                refine Go.mp st39 ?_
                show Go p e below (T39.setTop (mkF m 37 #[.val (.ref a1), .val (.ref a2), .val (.ref w_WF), .val (.int (5 : Int32)), .val (.int (3 : Int32)), .val (.ref w_SIX)] [(.int (1 : Int32))])) _
                refine g_ifNo X39 hx (hb hby d2_37) ((if0 _ _).trans (feq ((by decide) : ¬ ((1 : Int32) = (0 : Int32)))).1) ?_
                refine g_aload X39 hx (hb hby d2_40) rfl rfl ?_
                exact own_retA X39 hx hret hlk rfl rfl (hb hby d2_42) (by decide) (by decide) ⟨by rw [f_combinedWith, if_pos c25_4, if_neg c34_6, if_pos c25_10, if_neg c34_12, if_neg c25_16, if_pos c25_36, if_pos c34_38], N39, e39⟩
              · obtain ⟨v40, T40, L40, X40, q40, st40⟩ := own_callV X37 hx hZ (y := (⟨"com/example/wombat/wombat/LockMode", "covers", "(Lcom/example/wombat/wombat/LockMode;)Z"⟩ : MethodName)) (pc := 34) (Ls := #[.val (.ref a1), .val (.ref a2), .val (.ref w_WF), .val (.int (5 : Int32)), .val (.int (3 : Int32)), .val (.ref w_SIX)]) (st := [(.ref a2), (.ref w_SIX)]) hown (hw _ (List.mem_of_getElem? (i := 17) rfl)) (hw _ (List.mem_of_getElem? (i := 18) rfl)) (hw _ (List.mem_of_getElem? (i := 20) rfl)) (hw _ (List.mem_of_getElem? (i := 19) rfl)) (hw _ (List.mem_of_getElem? (i := 21) rfl)) (hw _ (List.mem_of_getElem? (i := 6) rfl)) (by decide) (rm_covers l Z a0 hw w_SIX a2 (1 : Int32) u2 h0 n0 Z0 F_w_SIX_compatible F_a2_compatible) e37 E_w_SIX pd_0 (hb hby d2_34) (by rw [hml]; rfl) (argsL := [(.ref a2)]) (rest := []) rfl rfl rfl (W := 0) (Nat.le_of_eq rfl) (by decide) (by decide) (by decide) (by decide)
                obtain ⟨rfl, M40, e40⟩ := q40
                have N40 := Fr.app N37 M40
                have r40 : (f_covers w_SIX a2 (1 : Int32) u2) = (0 : Int32) := by rw [f_covers, if_neg (c34_38 : ¬ (((1 : Int32) &&& (u2 ^^^ (-1 : Int32))) = (0 : Int32)))]
                rw [r40] at st40
                refine Go.mp st40 ?_
                show Go p e below (T40.setTop (mkF m 37 #[.val (.ref a1), .val (.ref a2), .val (.ref w_WF), .val (.int (5 : Int32)), .val (.int (3 : Int32)), .val (.ref w_SIX)] [(.int (0 : Int32))])) _
                refine g_ifYes X40 hx 43 (hb hby d2_37) ((if0 _ _).trans (teq ((by decide) : (0 : Int32) = (0 : Int32))).1) (by decide) (by decide) ?_
                refine Go.mp (fun _ k => XS.iinc X40.here hx rfl (hb hby d2_43) rfl (l' := #[.val (.ref a1), .val (.ref a2), .val (.ref w_WF), .val (.int (5 : Int32)), .val (.int ((3 : Int32) + (1 : Int32))), .val (.ref w_SIX)]) rfl k) ?_
                show Go p e below (T40.setTop (mkF m 46 #[.val (.ref a1), .val (.ref a2), .val (.ref w_WF), .val (.int (5 : Int32)), .val (.int ((3 : Int32) + (1 : Int32))), .val (.ref w_SIX)] [])) _
                rw [show ((3 : Int32) + (1 : Int32)) = (4 : Int32) from by decide]
                show Go p e below (T40.setTop (mkF m 46 #[.val (.ref a1), .val (.ref a2), .val (.ref w_WF), .val (.int (5 : Int32)), .val (.int (4 : Int32)), .val (.ref w_SIX)] [])) _
                refine g_goto X40 hx 10 (hb hby d2_46) (by decide) (by decide) ?_
                refine g_iload X40 hx (hb hby d2_10) rfl ?_
                refine g_iloadN X40 hx (hb hby d2_12) rfl ?_
                refine g_icmpNo X40 hx (hb hby d2_13) (tlt ((by decide) : (4 : Int32) < (5 : Int32))).2.1 ?_
                refine g_aloadN X40 hx (hb hby d2_16) rfl rfl ?_
                refine g_iload X40 hx (hb hby d2_17) rfl ?_
                obtain ⟨cl41, Ar41, -, sz41, -, Ha41, -⟩ := id V_w_WF
                have hin41 : ¬ ((4 : Int32) < 0 ∨ cl41.slots.size ≤ (4 : Int32).toNatClampNeg) := by rw [sz41]; decide
                have hat41 : cl41.slots[(4 : Int32).toNatClampNeg]? = some (.ref w_X) := Ha41 4 (by rw [sz41]; decide)
                refine Go.mp (fun _ k => X40.aaload hx (j := 4) (v := (.ref w_X)) (by rw [e40]; exact Ar41.1) (State.isArrayOf_alike hZ.alike Ar41.2.1) rfl Ar41.2.2 hin41 hat41 (g := (mkF m 19 #[.val (.ref a1), .val (.ref a2), .val (.ref w_WF), .val (.int (5 : Int32)), .val (.int (4 : Int32)), .val (.ref w_SIX)] [(.int (4 : Int32)), (.ref w_WF)])) rfl rfl (hb hby d2_19) _ k) ?_
                show Go p e below (T40.setTop (mkF m 20 #[.val (.ref a1), .val (.ref a2), .val (.ref w_WF), .val (.int (5 : Int32)), .val (.int (4 : Int32)), .val (.ref w_SIX)] [(.ref w_X)])) _
                refine g_astore X40 hx #[.val (.ref a1), .val (.ref a2), .val (.ref w_WF), .val (.int (5 : Int32)), .val (.int (4 : Int32)), .val (.ref w_X)] (hb hby d2_20) rfl rfl ?_
                refine g_aload X40 hx (hb hby d2_22) rfl rfl ?_
                refine g_aloadN X40 hx (hb hby d2_24) rfl rfl ?_
                show Go p e below (T40.setTop (mkF m 25 #[.val (.ref a1), .val (.ref a2), .val (.ref w_WF), .val (.int (5 : Int32)), .val (.int (4 : Int32)), .val (.ref w_X)] [(.ref a1), (.ref w_X)])) _
                obtain ⟨v42, T42, L42, X42, q42, st42⟩ := own_callV X40 hx hZ (y := (⟨"com/example/wombat/wombat/LockMode", "covers", "(Lcom/example/wombat/wombat/LockMode;)Z"⟩ : MethodName)) (pc := 25) (Ls := #[.val (.ref a1), .val (.ref a2), .val (.ref w_WF), .val (.int (5 : Int32)), .val (.int (4 : Int32)), .val (.ref w_X)]) (st := [(.ref a1), (.ref w_X)]) hown (hw _ (List.mem_of_getElem? (i := 17) rfl)) (hw _ (List.mem_of_getElem? (i := 18) rfl)) (hw _ (List.mem_of_getElem? (i := 20) rfl)) (hw _ (List.mem_of_getElem? (i := 19) rfl)) (hw _ (List.mem_of_getElem? (i := 21) rfl)) (hw _ (List.mem_of_getElem? (i := 6) rfl)) (by decide) (rm_covers l Z a0 hw w_X a1 (0 : Int32) u1 h0 n0 Z0 F_w_X_compatible F_a1_compatible) e40 E_w_X pd_0 (hb hby d2_25) (by rw [hml]; rfl) (argsL := [(.ref a1)]) (rest := []) rfl rfl rfl (W := 0) (Nat.le_of_eq rfl) (by decide) (by decide) (by decide) (by decide)
                obtain ⟨rfl, M42, e42⟩ := q42
                have N42 := Fr.app N40 M42
                have r42 : (f_covers w_X a1 (0 : Int32) u1) = (1 : Int32) := by rw [f_covers, if_pos ((own_zand _) : ((0 : Int32) &&& (u1 ^^^ (-1 : Int32))) = (0 : Int32))]
                rw [r42] at st42
                refine Go.mp st42 ?_
                show Go p e below (T42.setTop (mkF m 28 #[.val (.ref a1), .val (.ref a2), .val (.ref w_WF), .val (.int (5 : Int32)), .val (.int (4 : Int32)), .val (.ref w_X)] [(.int (1 : Int32))])) _
                refine g_ifNo X42 hx (hb hby d2_28) ((if0 _ _).trans (feq ((by decide) : ¬ ((1 : Int32) = (0 : Int32)))).1) ?_
                refine g_aload X42 hx (hb hby d2_31) rfl rfl ?_
                refine g_aloadN X42 hx (hb hby d2_33) rfl rfl ?_
                show Go p e below (T42.setTop (mkF m 34 #[.val (.ref a1), .val (.ref a2), .val (.ref w_WF), .val (.int (5 : Int32)), .val (.int (4 : Int32)), .val (.ref w_X)] [(.ref a2), (.ref w_X)])) _
                obtain ⟨v43, T43, L43, X43, q43, st43⟩ := own_callV X42 hx hZ (y := (⟨"com/example/wombat/wombat/LockMode", "covers", "(Lcom/example/wombat/wombat/LockMode;)Z"⟩ : MethodName)) (pc := 34) (Ls := #[.val (.ref a1), .val (.ref a2), .val (.ref w_WF), .val (.int (5 : Int32)), .val (.int (4 : Int32)), .val (.ref w_X)]) (st := [(.ref a2), (.ref w_X)]) hown (hw _ (List.mem_of_getElem? (i := 17) rfl)) (hw _ (List.mem_of_getElem? (i := 18) rfl)) (hw _ (List.mem_of_getElem? (i := 20) rfl)) (hw _ (List.mem_of_getElem? (i := 19) rfl)) (hw _ (List.mem_of_getElem? (i := 21) rfl)) (hw _ (List.mem_of_getElem? (i := 6) rfl)) (by decide) (rm_covers l Z a0 hw w_X a2 (0 : Int32) u2 h0 n0 Z0 F_w_X_compatible F_a2_compatible) e42 E_w_X pd_0 (hb hby d2_34) (by rw [hml]; rfl) (argsL := [(.ref a2)]) (rest := []) rfl rfl rfl (W := 0) (Nat.le_of_eq rfl) (by decide) (by decide) (by decide) (by decide)
                obtain ⟨rfl, M43, e43⟩ := q43
                have N43 := Fr.app N42 M43
                have r43 : (f_covers w_X a2 (0 : Int32) u2) = (1 : Int32) := by rw [f_covers, if_pos ((own_zand _) : ((0 : Int32) &&& (u2 ^^^ (-1 : Int32))) = (0 : Int32))]
                rw [r43] at st43
                refine Go.mp st43 ?_
                show Go p e below (T43.setTop (mkF m 37 #[.val (.ref a1), .val (.ref a2), .val (.ref w_WF), .val (.int (5 : Int32)), .val (.int (4 : Int32)), .val (.ref w_X)] [(.int (1 : Int32))])) _
                refine g_ifNo X43 hx (hb hby d2_37) ((if0 _ _).trans (feq ((by decide) : ¬ ((1 : Int32) = (0 : Int32)))).1) ?_
                refine g_aload X43 hx (hb hby d2_40) rfl rfl ?_
                exact own_retA X43 hx hret hlk rfl rfl (hb hby d2_42) (by decide) (by decide) ⟨by rw [f_combinedWith, if_pos c25_4, if_neg c34_6, if_pos c25_10, if_neg c34_12, if_neg c25_16, if_pos c25_36, if_neg c34_38], N43, e43⟩
            · obtain ⟨v44, T44, L44, X44, q44, st44⟩ := own_callV X34 hx hZ (y := (⟨"com/example/wombat/wombat/LockMode", "covers", "(Lcom/example/wombat/wombat/LockMode;)Z"⟩ : MethodName)) (pc := 25) (Ls := #[.val (.ref a1), .val (.ref a2), .val (.ref w_WF), .val (.int (5 : Int32)), .val (.int (3 : Int32)), .val (.ref w_SIX)]) (st := [(.ref a1), (.ref w_SIX)]) hown (hw _ (List.mem_of_getElem? (i := 17) rfl)) (hw _ (List.mem_of_getElem? (i := 18) rfl)) (hw _ (List.mem_of_getElem? (i := 20) rfl)) (hw _ (List.mem_of_getElem? (i := 19) rfl)) (hw _ (List.mem_of_getElem? (i := 21) rfl)) (hw _ (List.mem_of_getElem? (i := 6) rfl)) (by decide) (rm_covers l Z a0 hw w_SIX a1 (1 : Int32) u1 h0 n0 Z0 F_w_SIX_compatible F_a1_compatible) e34 E_w_SIX pd_0 (hb hby d2_25) (by rw [hml]; rfl) (argsL := [(.ref a1)]) (rest := []) rfl rfl rfl (W := 0) (Nat.le_of_eq rfl) (by decide) (by decide) (by decide) (by decide)
              obtain ⟨rfl, M44, e44⟩ := q44
              have N44 := Fr.app N34 M44
              have r44 : (f_covers w_SIX a1 (1 : Int32) u1) = (0 : Int32) := by rw [f_covers, if_neg (c25_36 : ¬ (((1 : Int32) &&& (u1 ^^^ (-1 : Int32))) = (0 : Int32)))]
              rw [r44] at st44
              refine Go.mp st44 ?_
              show Go p e below (T44.setTop (mkF m 28 #[.val (.ref a1), .val (.ref a2), .val (.ref w_WF), .val (.int (5 : Int32)), .val (.int (3 : Int32)), .val (.ref w_SIX)] [(.int (0 : Int32))])) _
              refine g_ifYes X44 hx 43 (hb hby d2_28) ((if0 _ _).trans (teq ((by decide) : (0 : Int32) = (0 : Int32))).1) (by decide) (by decide) ?_
              refine Go.mp (fun _ k => XS.iinc X44.here hx rfl (hb hby d2_43) rfl (l' := #[.val (.ref a1), .val (.ref a2), .val (.ref w_WF), .val (.int (5 : Int32)), .val (.int ((3 : Int32) + (1 : Int32))), .val (.ref w_SIX)]) rfl k) ?_
              show Go p e below (T44.setTop (mkF m 46 #[.val (.ref a1), .val (.ref a2), .val (.ref w_WF), .val (.int (5 : Int32)), .val (.int ((3 : Int32) + (1 : Int32))), .val (.ref w_SIX)] [])) _
              rw [show ((3 : Int32) + (1 : Int32)) = (4 : Int32) from by decide]
              show Go p e below (T44.setTop (mkF m 46 #[.val (.ref a1), .val (.ref a2), .val (.ref w_WF), .val (.int (5 : Int32)), .val (.int (4 : Int32)), .val (.ref w_SIX)] [])) _
              refine g_goto X44 hx 10 (hb hby d2_46) (by decide) (by decide) ?_
              refine g_iload X44 hx (hb hby d2_10) rfl ?_
              refine g_iloadN X44 hx (hb hby d2_12) rfl ?_
              refine g_icmpNo X44 hx (hb hby d2_13) (tlt ((by decide) : (4 : Int32) < (5 : Int32))).2.1 ?_
              refine g_aloadN X44 hx (hb hby d2_16) rfl rfl ?_
              refine g_iload X44 hx (hb hby d2_17) rfl ?_
              obtain ⟨cl45, Ar45, -, sz45, -, Ha45, -⟩ := id V_w_WF
              have hin45 : ¬ ((4 : Int32) < 0 ∨ cl45.slots.size ≤ (4 : Int32).toNatClampNeg) := by rw [sz45]; decide
              have hat45 : cl45.slots[(4 : Int32).toNatClampNeg]? = some (.ref w_X) := Ha45 4 (by rw [sz45]; decide)
              refine Go.mp (fun _ k => X44.aaload hx (j := 4) (v := (.ref w_X)) (by rw [e44]; exact Ar45.1) (State.isArrayOf_alike hZ.alike Ar45.2.1) rfl Ar45.2.2 hin45 hat45 (g := (mkF m 19 #[.val (.ref a1), .val (.ref a2), .val (.ref w_WF), .val (.int (5 : Int32)), .val (.int (4 : Int32)), .val (.ref w_SIX)] [(.int (4 : Int32)), (.ref w_WF)])) rfl rfl (hb hby d2_19) _ k) ?_
              show Go p e below (T44.setTop (mkF m 20 #[.val (.ref a1), .val (.ref a2), .val (.ref w_WF), .val (.int (5 : Int32)), .val (.int (4 : Int32)), .val (.ref w_SIX)] [(.ref w_X)])) _
              refine g_astore X44 hx #[.val (.ref a1), .val (.ref a2), .val (.ref w_WF), .val (.int (5 : Int32)), .val (.int (4 : Int32)), .val (.ref w_X)] (hb hby d2_20) rfl rfl ?_
              refine g_aload X44 hx (hb hby d2_22) rfl rfl ?_
              refine g_aloadN X44 hx (hb hby d2_24) rfl rfl ?_
              show Go p e below (T44.setTop (mkF m 25 #[.val (.ref a1), .val (.ref a2), .val (.ref w_WF), .val (.int (5 : Int32)), .val (.int (4 : Int32)), .val (.ref w_X)] [(.ref a1), (.ref w_X)])) _
              obtain ⟨v46, T46, L46, X46, q46, st46⟩ := own_callV X44 hx hZ (y := (⟨"com/example/wombat/wombat/LockMode", "covers", "(Lcom/example/wombat/wombat/LockMode;)Z"⟩ : MethodName)) (pc := 25) (Ls := #[.val (.ref a1), .val (.ref a2), .val (.ref w_WF), .val (.int (5 : Int32)), .val (.int (4 : Int32)), .val (.ref w_X)]) (st := [(.ref a1), (.ref w_X)]) hown (hw _ (List.mem_of_getElem? (i := 17) rfl)) (hw _ (List.mem_of_getElem? (i := 18) rfl)) (hw _ (List.mem_of_getElem? (i := 20) rfl)) (hw _ (List.mem_of_getElem? (i := 19) rfl)) (hw _ (List.mem_of_getElem? (i := 21) rfl)) (hw _ (List.mem_of_getElem? (i := 6) rfl)) (by decide) (rm_covers l Z a0 hw w_X a1 (0 : Int32) u1 h0 n0 Z0 F_w_X_compatible F_a1_compatible) e44 E_w_X pd_0 (hb hby d2_25) (by rw [hml]; rfl) (argsL := [(.ref a1)]) (rest := []) rfl rfl rfl (W := 0) (Nat.le_of_eq rfl) (by decide) (by decide) (by decide) (by decide)
              obtain ⟨rfl, M46, e46⟩ := q46
              have N46 := Fr.app N44 M46
              have r46 : (f_covers w_X a1 (0 : Int32) u1) = (1 : Int32) := by rw [f_covers, if_pos ((own_zand _) : ((0 : Int32) &&& (u1 ^^^ (-1 : Int32))) = (0 : Int32))]
              rw [r46] at st46
              refine Go.mp st46 ?_
              show Go p e below (T46.setTop (mkF m 28 #[.val (.ref a1), .val (.ref a2), .val (.ref w_WF), .val (.int (5 : Int32)), .val (.int (4 : Int32)), .val (.ref w_X)] [(.int (1 : Int32))])) _
              refine g_ifNo X46 hx (hb hby d2_28) ((if0 _ _).trans (feq ((by decide) : ¬ ((1 : Int32) = (0 : Int32)))).1) ?_
              refine g_aload X46 hx (hb hby d2_31) rfl rfl ?_
              refine g_aloadN X46 hx (hb hby d2_33) rfl rfl ?_
              show Go p e below (T46.setTop (mkF m 34 #[.val (.ref a1), .val (.ref a2), .val (.ref w_WF), .val (.int (5 : Int32)), .val (.int (4 : Int32)), .val (.ref w_X)] [(.ref a2), (.ref w_X)])) _
              obtain ⟨v47, T47, L47, X47, q47, st47⟩ := own_callV X46 hx hZ (y := (⟨"com/example/wombat/wombat/LockMode", "covers", "(Lcom/example/wombat/wombat/LockMode;)Z"⟩ : MethodName)) (pc := 34) (Ls := #[.val (.ref a1), .val (.ref a2), .val (.ref w_WF), .val (.int (5 : Int32)), .val (.int (4 : Int32)), .val (.ref w_X)]) (st := [(.ref a2), (.ref w_X)]) hown (hw _ (List.mem_of_getElem? (i := 17) rfl)) (hw _ (List.mem_of_getElem? (i := 18) rfl)) (hw _ (List.mem_of_getElem? (i := 20) rfl)) (hw _ (List.mem_of_getElem? (i := 19) rfl)) (hw _ (List.mem_of_getElem? (i := 21) rfl)) (hw _ (List.mem_of_getElem? (i := 6) rfl)) (by decide) (rm_covers l Z a0 hw w_X a2 (0 : Int32) u2 h0 n0 Z0 F_w_X_compatible F_a2_compatible) e46 E_w_X pd_0 (hb hby d2_34) (by rw [hml]; rfl) (argsL := [(.ref a2)]) (rest := []) rfl rfl rfl (W := 0) (Nat.le_of_eq rfl) (by decide) (by decide) (by decide) (by decide)
              obtain ⟨rfl, M47, e47⟩ := q47
              have N47 := Fr.app N46 M47
              have r47 : (f_covers w_X a2 (0 : Int32) u2) = (1 : Int32) := by rw [f_covers, if_pos ((own_zand _) : ((0 : Int32) &&& (u2 ^^^ (-1 : Int32))) = (0 : Int32))]
              rw [r47] at st47
              refine Go.mp st47 ?_
              show Go p e below (T47.setTop (mkF m 37 #[.val (.ref a1), .val (.ref a2), .val (.ref w_WF), .val (.int (5 : Int32)), .val (.int (4 : Int32)), .val (.ref w_X)] [(.int (1 : Int32))])) _
              refine g_ifNo X47 hx (hb hby d2_37) ((if0 _ _).trans (feq ((by decide) : ¬ ((1 : Int32) = (0 : Int32)))).1) ?_
              refine g_aload X47 hx (hb hby d2_40) rfl rfl ?_
              exact own_retA X47 hx hret hlk rfl rfl (hb hby d2_42) (by decide) (by decide) ⟨by rw [f_combinedWith, if_pos c25_4, if_neg c34_6, if_pos c25_10, if_neg c34_12, if_neg c25_16, if_neg c25_36], N47, e47⟩
      · obtain ⟨v48, T48, L48, X48, q48, st48⟩ := own_callV X8 hx hZ (y := (⟨"com/example/wombat/wombat/LockMode", "covers", "(Lcom/example/wombat/wombat/LockMode;)Z"⟩ : MethodName)) (pc := 25) (Ls := #[.val (.ref a1), .val (.ref a2), .val (.ref w_WF), .val (.int (5 : Int32)), .val (.int (1 : Int32)), .val (.ref w_IX)]) (st := [(.ref a1), (.ref w_IX)]) hown (hw _ (List.mem_of_getElem? (i := 17) rfl)) (hw _ (List.mem_of_getElem? (i := 18) rfl)) (hw _ (List.mem_of_getElem? (i := 20) rfl)) (hw _ (List.mem_of_getElem? (i := 19) rfl)) (hw _ (List.mem_of_getElem? (i := 21) rfl)) (hw _ (List.mem_of_getElem? (i := 6) rfl)) (by decide) (rm_covers l Z a0 hw w_IX a1 (3 : Int32) u1 h0 n0 Z0 F_w_IX_compatible F_a1_compatible) e8 E_w_IX pd_0 (hb hby d2_25) (by rw [hml]; rfl) (argsL := [(.ref a1)]) (rest := []) rfl rfl rfl (W := 0) (Nat.le_of_eq rfl) (by decide) (by decide) (by decide) (by decide)
        obtain ⟨rfl, M48, e48⟩ := q48
        have N48 := Fr.app N8 M48
        have r48 : (f_covers w_IX a1 (3 : Int32) u1) = (0 : Int32) := by rw [f_covers, if_neg (c25_10 : ¬ (((3 : Int32) &&& (u1 ^^^ (-1 : Int32))) = (0 : Int32)))]
        rw [r48] at st48
        refine Go.mp st48 ?_
        show Go p e below (T48.setTop (mkF m 28 #[.val (.ref a1), .val (.ref a2), .val (.ref w_WF), .val (.int (5 : Int32)), .val (.int (1 : Int32)), .val (.ref w_IX)] [(.int (0 : Int32))])) _
        refine g_ifYes X48 hx 43 (hb hby d2_28) ((if0 _ _).trans (teq ((by decide) : (0 : Int32) = (0 : Int32))).1) (by decide) (by decide) ?_
        refine Go.mp (fun _ k => XS.iinc X48.here hx rfl (hb hby d2_43) rfl (l' := #[.val (.ref a1), .val (.ref a2), .val (.ref w_WF), .val (.int (5 : Int32)), .val (.int ((1 : Int32) + (1 : Int32))), .val (.ref w_IX)]) rfl k) ?_
        show Go p e below (T48.setTop (mkF m 46 #[.val (.ref a1), .val (.ref a2), .val (.ref w_WF), .val (.int (5 : Int32)), .val (.int ((1 : Int32) + (1 : Int32))), .val (.ref w_IX)] [])) _
        rw [show ((1 : Int32) + (1 : Int32)) = (2 : Int32) from by decide]
        show Go p e below (T48.setTop (mkF m 46 #[.val (.ref a1), .val (.ref a2), .val (.ref w_WF), .val (.int (5 : Int32)), .val (.int (2 : Int32)), .val (.ref w_IX)] [])) _
        refine g_goto X48 hx 10 (hb hby d2_46) (by decide) (by decide) ?_
        refine g_iload X48 hx (hb hby d2_10) rfl ?_
        refine g_iloadN X48 hx (hb hby d2_12) rfl ?_
        refine g_icmpNo X48 hx (hb hby d2_13) (tlt ((by decide) : (2 : Int32) < (5 : Int32))).2.1 ?_
        refine g_aloadN X48 hx (hb hby d2_16) rfl rfl ?_
        refine g_iload X48 hx (hb hby d2_17) rfl ?_
        obtain ⟨cl49, Ar49, -, sz49, -, Ha49, -⟩ := id V_w_WF
        have hin49 : ¬ ((2 : Int32) < 0 ∨ cl49.slots.size ≤ (2 : Int32).toNatClampNeg) := by rw [sz49]; decide
        have hat49 : cl49.slots[(2 : Int32).toNatClampNeg]? = some (.ref w_S) := Ha49 2 (by rw [sz49]; decide)
        refine Go.mp (fun _ k => X48.aaload hx (j := 2) (v := (.ref w_S)) (by rw [e48]; exact Ar49.1) (State.isArrayOf_alike hZ.alike Ar49.2.1) rfl Ar49.2.2 hin49 hat49 (g := (mkF m 19 #[.val (.ref a1), .val (.ref a2), .val (.ref w_WF), .val (.int (5 : Int32)), .val (.int (2 : Int32)), .val (.ref w_IX)] [(.int (2 : Int32)), (.ref w_WF)])) rfl rfl (hb hby d2_19) _ k) ?_
        show Go p e below (T48.setTop (mkF m 20 #[.val (.ref a1), .val (.ref a2), .val (.ref w_WF), .val (.int (5 : Int32)), .val (.int (2 : Int32)), .val (.ref w_IX)] [(.ref w_S)])) _
        refine g_astore X48 hx #[.val (.ref a1), .val (.ref a2), .val (.ref w_WF), .val (.int (5 : Int32)), .val (.int (2 : Int32)), .val (.ref w_S)] (hb hby d2_20) rfl rfl ?_
        refine g_aload X48 hx (hb hby d2_22) rfl rfl ?_
        refine g_aloadN X48 hx (hb hby d2_24) rfl rfl ?_
        show Go p e below (T48.setTop (mkF m 25 #[.val (.ref a1), .val (.ref a2), .val (.ref w_WF), .val (.int (5 : Int32)), .val (.int (2 : Int32)), .val (.ref w_S)] [(.ref a1), (.ref w_S)])) _
        by_cases c25_50 : ((5 : Int32) &&& (u1 ^^^ (-1 : Int32))) = (0 : Int32)
        · obtain ⟨v51, T51, L51, X51, q51, st51⟩ := own_callV X48 hx hZ (y := (⟨"com/example/wombat/wombat/LockMode", "covers", "(Lcom/example/wombat/wombat/LockMode;)Z"⟩ : MethodName)) (pc := 25) (Ls := #[.val (.ref a1), .val (.ref a2), .val (.ref w_WF), .val (.int (5 : Int32)), .val (.int (2 : Int32)), .val (.ref w_S)]) (st := [(.ref a1), (.ref w_S)]) hown (hw _ (List.mem_of_getElem? (i := 17) rfl)) (hw _ (List.mem_of_getElem? (i := 18) rfl)) (hw _ (List.mem_of_getElem? (i := 20) rfl)) (hw _ (List.mem_of_getElem? (i := 19) rfl)) (hw _ (List.mem_of_getElem? (i := 21) rfl)) (hw _ (List.mem_of_getElem? (i := 6) rfl)) (by decide) (rm_covers l Z a0 hw w_S a1 (5 : Int32) u1 h0 n0 Z0 F_w_S_compatible F_a1_compatible) e48 E_w_S pd_0 (hb hby d2_25) (by rw [hml]; rfl) (argsL := [(.ref a1)]) (rest := []) rfl rfl rfl (W := 0) (Nat.le_of_eq rfl) (by decide) (by decide) (by decide) (by decide)
          obtain ⟨rfl, M51, e51⟩ := q51
          have N51 := Fr.app N48 M51
          have r51 : (f_covers w_S a1 (5 : Int32) u1) = (1 : Int32) := by rw [f_covers, if_pos (c25_50 : ((5 : Int32) &&& (u1 ^^^ (-1 : Int32))) = (0 : Int32))]
          rw [r51] at st51
          refine Go.mp st51 ?_
          show Go p e below (T51.setTop (mkF m 28 #[.val (.ref a1), .val (.ref a2), .val (.ref w_WF), .val (.int (5 : Int32)), .val (.int (2 : Int32)), .val (.ref w_S)] [(.int (1 : Int32))])) _
          refine g_ifNo X51 hx (hb hby d2_28) ((if0 _ _).trans (feq ((by decide) : ¬ ((1 : Int32) = (0 : Int32)))).1) ?_
          refine g_aload X51 hx (hb hby d2_31) rfl rfl ?_
          refine g_aloadN X51 hx (hb hby d2_33) rfl rfl ?_
          show Go p e below (T51.setTop (mkF m 34 #[.val (.ref a1), .val (.ref a2), .val (.ref w_WF), .val (.int (5 : Int32)), .val (.int (2 : Int32)), .val (.ref w_S)] [(.ref a2), (.ref w_S)])) _
          by_cases c34_52 : ((5 : Int32) &&& (u2 ^^^ (-1 : Int32))) = (0 : Int32)
          · obtain ⟨v53, T53, L53, X53, q53, st53⟩ := own_callV X51 hx hZ (y := (⟨"com/example/wombat/wombat/LockMode", "covers", "(Lcom/example/wombat/wombat/LockMode;)Z"⟩ : MethodName)) (pc := 34) (Ls := #[.val (.ref a1), .val (.ref a2), .val (.ref w_WF), .val (.int (5 : Int32)), .val (.int (2 : Int32)), .val (.ref w_S)]) (st := [(.ref a2), (.ref w_S)]) hown (hw _ (List.mem_of_getElem? (i := 17) rfl)) (hw _ (List.mem_of_getElem? (i := 18) rfl)) (hw _ (List.mem_of_getElem? (i := 20) rfl)) (hw _ (List.mem_of_getElem? (i := 19) rfl)) (hw _ (List.mem_of_getElem? (i := 21) rfl)) (hw _ (List.mem_of_getElem? (i := 6) rfl)) (by decide) (rm_covers l Z a0 hw w_S a2 (5 : Int32) u2 h0 n0 Z0 F_w_S_compatible F_a2_compatible) e51 E_w_S pd_0 (hb hby d2_34) (by rw [hml]; rfl) (argsL := [(.ref a2)]) (rest := []) rfl rfl rfl (W := 0) (Nat.le_of_eq rfl) (by decide) (by decide) (by decide) (by decide)
            obtain ⟨rfl, M53, e53⟩ := q53
            have N53 := Fr.app N51 M53
            have r53 : (f_covers w_S a2 (5 : Int32) u2) = (1 : Int32) := by rw [f_covers, if_pos (c34_52 : ((5 : Int32) &&& (u2 ^^^ (-1 : Int32))) = (0 : Int32))]
            rw [r53] at st53
            refine Go.mp st53 ?_
            show Go p e below (T53.setTop (mkF m 37 #[.val (.ref a1), .val (.ref a2), .val (.ref w_WF), .val (.int (5 : Int32)), .val (.int (2 : Int32)), .val (.ref w_S)] [(.int (1 : Int32))])) _
            refine g_ifNo X53 hx (hb hby d2_37) ((if0 _ _).trans (feq ((by decide) : ¬ ((1 : Int32) = (0 : Int32)))).1) ?_
            refine g_aload X53 hx (hb hby d2_40) rfl rfl ?_
            exact own_retA X53 hx hret hlk rfl rfl (hb hby d2_42) (by decide) (by decide) ⟨by rw [f_combinedWith, if_pos c25_4, if_neg c34_6, if_neg c25_10, if_pos c25_50, if_pos c34_52], N53, e53⟩
          · obtain ⟨v54, T54, L54, X54, q54, st54⟩ := own_callV X51 hx hZ (y := (⟨"com/example/wombat/wombat/LockMode", "covers", "(Lcom/example/wombat/wombat/LockMode;)Z"⟩ : MethodName)) (pc := 34) (Ls := #[.val (.ref a1), .val (.ref a2), .val (.ref w_WF), .val (.int (5 : Int32)), .val (.int (2 : Int32)), .val (.ref w_S)]) (st := [(.ref a2), (.ref w_S)]) hown (hw _ (List.mem_of_getElem? (i := 17) rfl)) (hw _ (List.mem_of_getElem? (i := 18) rfl)) (hw _ (List.mem_of_getElem? (i := 20) rfl)) (hw _ (List.mem_of_getElem? (i := 19) rfl)) (hw _ (List.mem_of_getElem? (i := 21) rfl)) (hw _ (List.mem_of_getElem? (i := 6) rfl)) (by decide) (rm_covers l Z a0 hw w_S a2 (5 : Int32) u2 h0 n0 Z0 F_w_S_compatible F_a2_compatible) e51 E_w_S pd_0 (hb hby d2_34) (by rw [hml]; rfl) (argsL := [(.ref a2)]) (rest := []) rfl rfl rfl (W := 0) (Nat.le_of_eq rfl) (by decide) (by decide) (by decide) (by decide)
            obtain ⟨rfl, M54, e54⟩ := q54
            have N54 := Fr.app N51 M54
            have r54 : (f_covers w_S a2 (5 : Int32) u2) = (0 : Int32) := by rw [f_covers, if_neg (c34_52 : ¬ (((5 : Int32) &&& (u2 ^^^ (-1 : Int32))) = (0 : Int32)))]
            rw [r54] at st54
            refine Go.mp st54 ?_
            show Go p e below (T54.setTop (mkF m 37 #[.val (.ref a1), .val (.ref a2), .val (.ref w_WF), .val (.int (5 : Int32)), .val (.int (2 : Int32)), .val (.ref w_S)] [(.int (0 : Int32))])) _
            refine g_ifYes X54 hx 43 (hb hby d2_37) ((if0 _ _).trans (teq ((by decide) : (0 : Int32) = (0 : Int32))).1) (by decide) (by decide) ?_
            refine Go.mp (fun _ k => XS.iinc X54.here hx rfl (hb hby d2_43) rfl (l' := #[.val (.ref a1), .val (.ref a2), .val (.ref w_WF), .val (.int (5 : Int32)), .val (.int ((2 : Int32) + (1 : Int32))), .val (.ref w_S)]) rfl k) ?_
            show Go p e below (T54.setTop (mkF m 46 #[.val (.ref a1), .val (.ref a2), .val (.ref w_WF), .val (.int (5 : Int32)), .val (.int ((2 : Int32) + (1 : Int32))), .val (.ref w_S)] [])) _
            rw [show ((2 : Int32) + (1 : Int32)) = (3 : Int32) from by decide]
            show Go p e below (T54.setTop (mkF m 46 #[.val (.ref a1), .val (.ref a2), .val (.ref w_WF), .val (.int (5 : Int32)), .val (.int (3 : Int32)), .val (.ref w_S)] [])) _
            refine g_goto X54 hx 10 (hb hby d2_46) (by decide) (by decide) ?_
            refine g_iload X54 hx (hb hby d2_10) rfl ?_
            refine g_iloadN X54 hx (hb hby d2_12) rfl ?_
            refine g_icmpNo X54 hx (hb hby d2_13) (tlt ((by decide) : (3 : Int32) < (5 : Int32))).2.1 ?_
            refine g_aloadN X54 hx (hb hby d2_16) rfl rfl ?_
            refine g_iload X54 hx (hb hby d2_17) rfl ?_
            obtain ⟨cl55, Ar55, -, sz55, -, Ha55, -⟩ := id V_w_WF
            have hin55 : ¬ ((3 : Int32) < 0 ∨ cl55.slots.size ≤ (3 : Int32).toNatClampNeg) := by rw [sz55]; decide
            have hat55 : cl55.slots[(3 : Int32).toNatClampNeg]? = some (.ref w_SIX) := Ha55 3 (by rw [sz55]; decide)
            refine Go.mp (fun _ k => X54.aaload hx (j := 3) (v := (.ref w_SIX)) (by rw [e54]; exact Ar55.1) (State.isArrayOf_alike hZ.alike Ar55.2.1) rfl Ar55.2.2 hin55 hat55 (g := (mkF m 19 #[.val (.ref a1), .val (.ref a2), .val (.ref w_WF), .val (.int (5 : Int32)), .val (.int (3 : Int32)), .val (.ref w_S)] [(.int (3 : Int32)), (.ref w_WF)])) rfl rfl (hb hby d2_19) _ k) ?_
            show Go p e below (T54.setTop (mkF m 20 #[.val (.ref a1), .val (.ref a2), .val (.ref w_WF), .val (.int (5 : Int32)), .val (.int (3 : Int32)), .val (.ref w_S)] [(.ref w_SIX)])) _
            refine g_astore X54 hx #[.val (.ref a1), .val (.ref a2), .val (.ref w_WF), .val (.int (5 : Int32)), .val (.int (3 : Int32)), .val (.ref w_SIX)] (hb hby d2_20) rfl rfl ?_
            refine g_aload X54 hx (hb hby d2_22) rfl rfl ?_
            refine g_aloadN X54 hx (hb hby d2_24) rfl rfl ?_
            show Go p e below (T54.setTop (mkF m 25 #[.val (.ref a1), .val (.ref a2), .val (.ref w_WF), .val (.int (5 : Int32)), .val (.int (3 : Int32)), .val (.ref w_SIX)] [(.ref a1), (.ref w_SIX)])) _
            by_cases c25_56 : ((1 : Int32) &&& (u1 ^^^ (-1 : Int32))) = (0 : Int32)
            · obtain ⟨v57, T57, L57, X57, q57, st57⟩ := own_callV X54 hx hZ (y := (⟨"com/example/wombat/wombat/LockMode", "covers", "(Lcom/example/wombat/wombat/LockMode;)Z"⟩ : MethodName)) (pc := 25) (Ls := #[.val (.ref a1), .val (.ref a2), .val (.ref w_WF), .val (.int (5 : Int32)), .val (.int (3 : Int32)), .val (.ref w_SIX)]) (st := [(.ref a1), (.ref w_SIX)]) hown (hw _ (List.mem_of_getElem? (i := 17) rfl)) (hw _ (List.mem_of_getElem? (i := 18) rfl)) (hw _ (List.mem_of_getElem? (i := 20) rfl)) (hw _ (List.mem_of_getElem? (i := 19) rfl)) (hw _ (List.mem_of_getElem? (i := 21) rfl)) (hw _ (List.mem_of_getElem? (i := 6) rfl)) (by decide) (rm_covers l Z a0 hw w_SIX a1 (1 : Int32) u1 h0 n0 Z0 F_w_SIX_compatible F_a1_compatible) e54 E_w_SIX pd_0 (hb hby d2_25) (by rw [hml]; rfl) (argsL := [(.ref a1)]) (rest := []) rfl rfl rfl (W := 0) (Nat.le_of_eq rfl) (by decide) (by decide) (by decide) (by decide)
              obtain ⟨rfl, M57, e57⟩ := q57
              have N57 := Fr.app N54 M57
              have r57 : (f_covers w_SIX a1 (1 : Int32) u1) = (1 : Int32) := by rw [f_covers, if_pos (c25_56 : ((1 : Int32) &&& (u1 ^^^ (-1 : Int32))) = (0 : Int32))]
              rw [r57] at st57
              refine Go.mp st57 ?_
              show Go p e below (T57.setTop (mkF m 28 #[.val (.ref a1), .val (.ref a2), .val (.ref w_WF), .val (.int (5 : Int32)), .val (.int (3 : Int32)), .val (.ref w_SIX)] [(.int (1 : Int32))])) _
              refine g_ifNo X57 hx (hb hby d2_28) ((if0 _ _).trans (feq ((by decide) : ¬ ((1 : Int32) = (0 : Int32)))).1) ?_
              refine g_aload X57 hx (hb hby d2_31) rfl rfl ?_
              refine g_aloadN X57 hx (hb hby d2_33) rfl rfl ?_
              show Go p e below (T57.setTop (mkF m 34 #[.val (.ref a1), .val (.ref a2), .val (.ref w_WF), .val (.int (5 : Int32)), .val (.int (3 : Int32)), .val (.ref w_SIX)] [(.ref a2), (.ref w_SIX)])) _
              by_cases c34_58 : ((1 : Int32) &&& (u2 ^^^ (-1 : Int32))) = (0 : Int32)
              · obtain ⟨v59, T59, L59, X59, q59, st59⟩ := own_callV X57 hx hZ (y := (⟨"com/example/wombat/wombat/LockMode", "covers", "(Lcom/example/wombat/wombat/LockMode;)Z"⟩ : MethodName)) (pc := 34) (Ls := #[.val (.ref a1), .val (.ref a2), .val (.ref w_WF), .val (.int (5 : Int32)), .val (.int (3 : Int32)), .val (.ref w_SIX)]) (st := [(.ref a2), (.ref w_SIX)]) hown (hw _ (List.mem_of_getElem? (i := 17) rfl)) (hw _ (List.mem_of_getElem? (i := 18) rfl)) (hw _ (List.mem_of_getElem? (i := 20) rfl)) (hw _ (List.mem_of_getElem? (i := 19) rfl)) (hw _ (List.mem_of_getElem? (i := 21) rfl)) (hw _ (List.mem_of_getElem? (i := 6) rfl)) (by decide) (rm_covers l Z a0 hw w_SIX a2 (1 : Int32) u2 h0 n0 Z0 F_w_SIX_compatible F_a2_compatible) e57 E_w_SIX pd_0 (hb hby d2_34) (by rw [hml]; rfl) (argsL := [(.ref a2)]) (rest := []) rfl rfl rfl (W := 0) (Nat.le_of_eq rfl) (by decide) (by decide) (by decide) (by decide)
                obtain ⟨rfl, M59, e59⟩ := q59
                have N59 := Fr.app N57 M59
                have r59 : (f_covers w_SIX a2 (1 : Int32) u2) = (1 : Int32) := by rw [f_covers, if_pos (c34_58 : ((1 : Int32) &&& (u2 ^^^ (-1 : Int32))) = (0 : Int32))]
                rw [r59] at st59
                refine Go.mp st59 ?_
                show Go p e below (T59.setTop (mkF m 37 #[.val (.ref a1), .val (.ref a2), .val (.ref w_WF), .val (.int (5 : Int32)), .val (.int (3 : Int32)), .val (.ref w_SIX)] [(.int (1 : Int32))])) _
                refine g_ifNo X59 hx (hb hby d2_37) ((if0 _ _).trans (feq ((by decide) : ¬ ((1 : Int32) = (0 : Int32)))).1) ?_
                refine g_aload X59 hx (hb hby d2_40) rfl rfl ?_
                exact own_retA X59 hx hret hlk rfl rfl (hb hby d2_42) (by decide) (by decide) ⟨by rw [f_combinedWith, if_pos c25_4, if_neg c34_6, if_neg c25_10, if_pos c25_50, if_neg c34_52, if_pos c25_56, if_pos c34_58], N59, e59⟩
              · obtain ⟨v60, T60, L60, X60, q60, st60⟩ := own_callV X57 hx hZ (y := (⟨"com/example/wombat/wombat/LockMode", "covers", "(Lcom/example/wombat/wombat/LockMode;)Z"⟩ : MethodName)) (pc := 34) (Ls := #[.val (.ref a1), .val (.ref a2), .val (.ref w_WF), .val (.int (5 : Int32)), .val (.int (3 : Int32)), .val (.ref w_SIX)]) (st := [(.ref a2), (.ref w_SIX)]) hown (hw _ (List.mem_of_getElem? (i := 17) rfl)) (hw _ (List.mem_of_getElem? (i := 18) rfl)) (hw _ (List.mem_of_getElem? (i := 20) rfl)) (hw _ (List.mem_of_getElem? (i := 19) rfl)) (hw _ (List.mem_of_getElem? (i := 21) rfl)) (hw _ (List.mem_of_getElem? (i := 6) rfl)) (by decide) (rm_covers l Z a0 hw w_SIX a2 (1 : Int32) u2 h0 n0 Z0 F_w_SIX_compatible F_a2_compatible) e57 E_w_SIX pd_0 (hb hby d2_34) (by rw [hml]; rfl) (argsL := [(.ref a2)]) (rest := []) rfl rfl rfl (W := 0) (Nat.le_of_eq rfl) (by decide) (by decide) (by decide) (by decide)
                obtain ⟨rfl, M60, e60⟩ := q60
                have N60 := Fr.app N57 M60
                have r60 : (f_covers w_SIX a2 (1 : Int32) u2) = (0 : Int32) := by rw [f_covers, if_neg (c34_58 : ¬ (((1 : Int32) &&& (u2 ^^^ (-1 : Int32))) = (0 : Int32)))]
                rw [r60] at st60
                refine Go.mp st60 ?_
                show Go p e below (T60.setTop (mkF m 37 #[.val (.ref a1), .val (.ref a2), .val (.ref w_WF), .val (.int (5 : Int32)), .val (.int (3 : Int32)), .val (.ref w_SIX)] [(.int (0 : Int32))])) _
                refine g_ifYes X60 hx 43 (hb hby d2_37) ((if0 _ _).trans (teq ((by decide) : (0 : Int32) = (0 : Int32))).1) (by decide) (by decide) ?_
                refine Go.mp (fun _ k => XS.iinc X60.here hx rfl (hb hby d2_43) rfl (l' := #[.val (.ref a1), .val (.ref a2), .val (.ref w_WF), .val (.int (5 : Int32)), .val (.int ((3 : Int32) + (1 : Int32))), .val (.ref w_SIX)]) rfl k) ?_
                show Go p e below (T60.setTop (mkF m 46 #[.val (.ref a1), .val (.ref a2), .val (.ref w_WF), .val (.int (5 : Int32)), .val (.int ((3 : Int32) + (1 : Int32))), .val (.ref w_SIX)] [])) _
                rw [show ((3 : Int32) + (1 : Int32)) = (4 : Int32) from by decide]
                show Go p e below (T60.setTop (mkF m 46 #[.val (.ref a1), .val (.ref a2), .val (.ref w_WF), .val (.int (5 : Int32)), .val (.int (4 : Int32)), .val (.ref w_SIX)] [])) _
                refine g_goto X60 hx 10 (hb hby d2_46) (by decide) (by decide) ?_
                refine g_iload X60 hx (hb hby d2_10) rfl ?_
                refine g_iloadN X60 hx (hb hby d2_12) rfl ?_
                refine g_icmpNo X60 hx (hb hby d2_13) (tlt ((by decide) : (4 : Int32) < (5 : Int32))).2.1 ?_
                refine g_aloadN X60 hx (hb hby d2_16) rfl rfl ?_
                refine g_iload X60 hx (hb hby d2_17) rfl ?_
                obtain ⟨cl61, Ar61, -, sz61, -, Ha61, -⟩ := id V_w_WF
                have hin61 : ¬ ((4 : Int32) < 0 ∨ cl61.slots.size ≤ (4 : Int32).toNatClampNeg) := by rw [sz61]; decide
                have hat61 : cl61.slots[(4 : Int32).toNatClampNeg]? = some (.ref w_X) := Ha61 4 (by rw [sz61]; decide)
                refine Go.mp (fun _ k => X60.aaload hx (j := 4) (v := (.ref w_X)) (by rw [e60]; exact Ar61.1) (State.isArrayOf_alike hZ.alike Ar61.2.1) rfl Ar61.2.2 hin61 hat61 (g := (mkF m 19 #[.val (.ref a1), .val (.ref a2), .val (.ref w_WF), .val (.int (5 : Int32)), .val (.int (4 : Int32)), .val (.ref w_SIX)] [(.int (4 : Int32)), (.ref w_WF)])) rfl rfl (hb hby d2_19) _ k) ?_
                show Go p e below (T60.setTop (mkF m 20 #[.val (.ref a1), .val (.ref a2), .val (.ref w_WF), .val (.int (5 : Int32)), .val (.int (4 : Int32)), .val (.ref w_SIX)] [(.ref w_X)])) _
                refine g_astore X60 hx #[.val (.ref a1), .val (.ref a2), .val (.ref w_WF), .val (.int (5 : Int32)), .val (.int (4 : Int32)), .val (.ref w_X)] (hb hby d2_20) rfl rfl ?_
                refine g_aload X60 hx (hb hby d2_22) rfl rfl ?_
                refine g_aloadN X60 hx (hb hby d2_24) rfl rfl ?_
                show Go p e below (T60.setTop (mkF m 25 #[.val (.ref a1), .val (.ref a2), .val (.ref w_WF), .val (.int (5 : Int32)), .val (.int (4 : Int32)), .val (.ref w_X)] [(.ref a1), (.ref w_X)])) _
                obtain ⟨v62, T62, L62, X62, q62, st62⟩ := own_callV X60 hx hZ (y := (⟨"com/example/wombat/wombat/LockMode", "covers", "(Lcom/example/wombat/wombat/LockMode;)Z"⟩ : MethodName)) (pc := 25) (Ls := #[.val (.ref a1), .val (.ref a2), .val (.ref w_WF), .val (.int (5 : Int32)), .val (.int (4 : Int32)), .val (.ref w_X)]) (st := [(.ref a1), (.ref w_X)]) hown (hw _ (List.mem_of_getElem? (i := 17) rfl)) (hw _ (List.mem_of_getElem? (i := 18) rfl)) (hw _ (List.mem_of_getElem? (i := 20) rfl)) (hw _ (List.mem_of_getElem? (i := 19) rfl)) (hw _ (List.mem_of_getElem? (i := 21) rfl)) (hw _ (List.mem_of_getElem? (i := 6) rfl)) (by decide) (rm_covers l Z a0 hw w_X a1 (0 : Int32) u1 h0 n0 Z0 F_w_X_compatible F_a1_compatible) e60 E_w_X pd_0 (hb hby d2_25) (by rw [hml]; rfl) (argsL := [(.ref a1)]) (rest := []) rfl rfl rfl (W := 0) (Nat.le_of_eq rfl) (by decide) (by decide) (by decide) (by decide)
                obtain ⟨rfl, M62, e62⟩ := q62
                have N62 := Fr.app N60 M62
                have r62 : (f_covers w_X a1 (0 : Int32) u1) = (1 : Int32) := by rw [f_covers, if_pos ((own_zand _) : ((0 : Int32) &&& (u1 ^^^ (-1 : Int32))) = (0 : Int32))]
                rw [r62] at st62
                refine Go.mp st62 ?_
                show Go p e below (T62.setTop (mkF m 28 #[.val (.ref a1), .val (.ref a2), .val (.ref w_WF), .val (.int (5 : Int32)), .val (.int (4 : Int32)), .val (.ref w_X)] [(.int (1 : Int32))])) _
                refine g_ifNo X62 hx (hb hby d2_28) ((if0 _ _).trans (feq ((by decide) : ¬ ((1 : Int32) = (0 : Int32)))).1) ?_
                refine g_aload X62 hx (hb hby d2_31) rfl rfl ?_
                refine g_aloadN X62 hx (hb hby d2_33) rfl rfl ?_
                show Go p e below (T62.setTop (mkF m 34 #[.val (.ref a1), .val (.ref a2), .val (.ref w_WF), .val (.int (5 : Int32)), .val (.int (4 : Int32)), .val (.ref w_X)] [(.ref a2), (.ref w_X)])) _
                obtain ⟨v63, T63, L63, X63, q63, st63⟩ := own_callV X62 hx hZ (y := (⟨"com/example/wombat/wombat/LockMode", "covers", "(Lcom/example/wombat/wombat/LockMode;)Z"⟩ : MethodName)) (pc := 34) (Ls := #[.val (.ref a1), .val (.ref a2), .val (.ref w_WF), .val (.int (5 : Int32)), .val (.int (4 : Int32)), .val (.ref w_X)]) (st := [(.ref a2), (.ref w_X)]) hown (hw _ (List.mem_of_getElem? (i := 17) rfl)) (hw _ (List.mem_of_getElem? (i := 18) rfl)) (hw _ (List.mem_of_getElem? (i := 20) rfl)) (hw _ (List.mem_of_getElem? (i := 19) rfl)) (hw _ (List.mem_of_getElem? (i := 21) rfl)) (hw _ (List.mem_of_getElem? (i := 6) rfl)) (by decide) (rm_covers l Z a0 hw w_X a2 (0 : Int32) u2 h0 n0 Z0 F_w_X_compatible F_a2_compatible) e62 E_w_X pd_0 (hb hby d2_34) (by rw [hml]; rfl) (argsL := [(.ref a2)]) (rest := []) rfl rfl rfl (W := 0) (Nat.le_of_eq rfl) (by decide) (by decide) (by decide) (by decide)
                obtain ⟨rfl, M63, e63⟩ := q63
                have N63 := Fr.app N62 M63
                have r63 : (f_covers w_X a2 (0 : Int32) u2) = (1 : Int32) := by rw [f_covers, if_pos ((own_zand _) : ((0 : Int32) &&& (u2 ^^^ (-1 : Int32))) = (0 : Int32))]
                rw [r63] at st63
                refine Go.mp st63 ?_
                show Go p e below (T63.setTop (mkF m 37 #[.val (.ref a1), .val (.ref a2), .val (.ref w_WF), .val (.int (5 : Int32)), .val (.int (4 : Int32)), .val (.ref w_X)] [(.int (1 : Int32))])) _
                refine g_ifNo X63 hx (hb hby d2_37) ((if0 _ _).trans (feq ((by decide) : ¬ ((1 : Int32) = (0 : Int32)))).1) ?_
                refine g_aload X63 hx (hb hby d2_40) rfl rfl ?_
                exact own_retA X63 hx hret hlk rfl rfl (hb hby d2_42) (by decide) (by decide) ⟨by rw [f_combinedWith, if_pos c25_4, if_neg c34_6, if_neg c25_10, if_pos c25_50, if_neg c34_52, if_pos c25_56, if_neg c34_58], N63, e63⟩
            · obtain ⟨v64, T64, L64, X64, q64, st64⟩ := own_callV X54 hx hZ (y := (⟨"com/example/wombat/wombat/LockMode", "covers", "(Lcom/example/wombat/wombat/LockMode;)Z"⟩ : MethodName)) (pc := 25) (Ls := #[.val (.ref a1), .val (.ref a2), .val (.ref w_WF), .val (.int (5 : Int32)), .val (.int (3 : Int32)), .val (.ref w_SIX)]) (st := [(.ref a1), (.ref w_SIX)]) hown (hw _ (List.mem_of_getElem? (i := 17) rfl)) (hw _ (List.mem_of_getElem? (i := 18) rfl)) (hw _ (List.mem_of_getElem? (i := 20) rfl)) (hw _ (List.mem_of_getElem? (i := 19) rfl)) (hw _ (List.mem_of_getElem? (i := 21) rfl)) (hw _ (List.mem_of_getElem? (i := 6) rfl)) (by decide) (rm_covers l Z a0 hw w_SIX a1 (1 : Int32) u1 h0 n0 Z0 F_w_SIX_compatible F_a1_compatible) e54 E_w_SIX pd_0 (hb hby d2_25) (by rw [hml]; rfl) (argsL := [(.ref a1)]) (rest := []) rfl rfl rfl (W := 0) (Nat.le_of_eq rfl) (by decide) (by decide) (by decide) (by decide)
              obtain ⟨rfl, M64, e64⟩ := q64
              have N64 := Fr.app N54 M64
              have r64 : (f_covers w_SIX a1 (1 : Int32) u1) = (0 : Int32) := by rw [f_covers, if_neg (c25_56 : ¬ (((1 : Int32) &&& (u1 ^^^ (-1 : Int32))) = (0 : Int32)))]
              rw [r64] at st64
              refine Go.mp st64 ?_
              show Go p e below (T64.setTop (mkF m 28 #[.val (.ref a1), .val (.ref a2), .val (.ref w_WF), .val (.int (5 : Int32)), .val (.int (3 : Int32)), .val (.ref w_SIX)] [(.int (0 : Int32))])) _
              refine g_ifYes X64 hx 43 (hb hby d2_28) ((if0 _ _).trans (teq ((by decide) : (0 : Int32) = (0 : Int32))).1) (by decide) (by decide) ?_
              refine Go.mp (fun _ k => XS.iinc X64.here hx rfl (hb hby d2_43) rfl (l' := #[.val (.ref a1), .val (.ref a2), .val (.ref w_WF), .val (.int (5 : Int32)), .val (.int ((3 : Int32) + (1 : Int32))), .val (.ref w_SIX)]) rfl k) ?_
              show Go p e below (T64.setTop (mkF m 46 #[.val (.ref a1), .val (.ref a2), .val (.ref w_WF), .val (.int (5 : Int32)), .val (.int ((3 : Int32) + (1 : Int32))), .val (.ref w_SIX)] [])) _
              rw [show ((3 : Int32) + (1 : Int32)) = (4 : Int32) from by decide]
              show Go p e below (T64.setTop (mkF m 46 #[.val (.ref a1), .val (.ref a2), .val (.ref w_WF), .val (.int (5 : Int32)), .val (.int (4 : Int32)), .val (.ref w_SIX)] [])) _
              refine g_goto X64 hx 10 (hb hby d2_46) (by decide) (by decide) ?_
              refine g_iload X64 hx (hb hby d2_10) rfl ?_
              refine g_iloadN X64 hx (hb hby d2_12) rfl ?_
              refine g_icmpNo X64 hx (hb hby d2_13) (tlt ((by decide) : (4 : Int32) < (5 : Int32))).2.1 ?_
              refine g_aloadN X64 hx (hb hby d2_16) rfl rfl ?_
              refine g_iload X64 hx (hb hby d2_17) rfl ?_
              obtain ⟨cl65, Ar65, -, sz65, -, Ha65, -⟩ := id V_w_WF
              have hin65 : ¬ ((4 : Int32) < 0 ∨ cl65.slots.size ≤ (4 : Int32).toNatClampNeg) := by rw [sz65]; decide
              have hat65 : cl65.slots[(4 : Int32).toNatClampNeg]? = some (.ref w_X) := Ha65 4 (by rw [sz65]; decide)
              refine Go.mp (fun _ k => X64.aaload hx (j := 4) (v := (.ref w_X)) (by rw [e64]; exact Ar65.1) (State.isArrayOf_alike hZ.alike Ar65.2.1) rfl Ar65.2.2 hin65 hat65 (g := (mkF m 19 #[.val (.ref a1), .val (.ref a2), .val (.ref w_WF), .val (.int (5 : Int32)), .val (.int (4 : Int32)), .val (.ref w_SIX)] [(.int (4 : Int32)), (.ref w_WF)])) rfl rfl (hb hby d2_19) _ k) ?_
              show Go p e below (T64.setTop (mkF m 20 #[.val (.ref a1), .val (.ref a2), .val (.ref w_WF), .val (.int (5 : Int32)), .val (.int (4 : Int32)), .val (.ref w_SIX)] [(.ref w_X)])) _
              refine g_astore X64 hx #[.val (.ref a1), .val (.ref a2), .val (.ref w_WF), .val (.int (5 : Int32)), .val (.int (4 : Int32)), .val (.ref w_X)] (hb hby d2_20) rfl rfl ?_
              refine g_aload X64 hx (hb hby d2_22) rfl rfl ?_
              refine g_aloadN X64 hx (hb hby d2_24) rfl rfl ?_
              show Go p e below (T64.setTop (mkF m 25 #[.val (.ref a1), .val (.ref a2), .val (.ref w_WF), .val (.int (5 : Int32)), .val (.int (4 : Int32)), .val (.ref w_X)] [(.ref a1), (.ref w_X)])) _
              obtain ⟨v66, T66, L66, X66, q66, st66⟩ := own_callV X64 hx hZ (y := (⟨"com/example/wombat/wombat/LockMode", "covers", "(Lcom/example/wombat/wombat/LockMode;)Z"⟩ : MethodName)) (pc := 25) (Ls := #[.val (.ref a1), .val (.ref a2), .val (.ref w_WF), .val (.int (5 : Int32)), .val (.int (4 : Int32)), .val (.ref w_X)]) (st := [(.ref a1), (.ref w_X)]) hown (hw _ (List.mem_of_getElem? (i := 17) rfl)) (hw _ (List.mem_of_getElem? (i := 18) rfl)) (hw _ (List.mem_of_getElem? (i := 20) rfl)) (hw _ (List.mem_of_getElem? (i := 19) rfl)) (hw _ (List.mem_of_getElem? (i := 21) rfl)) (hw _ (List.mem_of_getElem? (i := 6) rfl)) (by decide) (rm_covers l Z a0 hw w_X a1 (0 : Int32) u1 h0 n0 Z0 F_w_X_compatible F_a1_compatible) e64 E_w_X pd_0 (hb hby d2_25) (by rw [hml]; rfl) (argsL := [(.ref a1)]) (rest := []) rfl rfl rfl (W := 0) (Nat.le_of_eq rfl) (by decide) (by decide) (by decide) (by decide)
              obtain ⟨rfl, M66, e66⟩ := q66
              have N66 := Fr.app N64 M66
              have r66 : (f_covers w_X a1 (0 : Int32) u1) = (1 : Int32) := by rw [f_covers, if_pos ((own_zand _) : ((0 : Int32) &&& (u1 ^^^ (-1 : Int32))) = (0 : Int32))]
              rw [r66] at st66
              refine Go.mp st66 ?_
              show Go p e below (T66.setTop (mkF m 28 #[.val (.ref a1), .val (.ref a2), .val (.ref w_WF), .val (.int (5 : Int32)), .val (.int (4 : Int32)), .val (.ref w_X)] [(.int (1 : Int32))])) _
              refine g_ifNo X66 hx (hb hby d2_28) ((if0 _ _).trans (feq ((by decide) : ¬ ((1 : Int32) = (0 : Int32)))).1) ?_
              refine g_aload X66 hx (hb hby d2_31) rfl rfl ?_
              refine g_aloadN X66 hx (hb hby d2_33) rfl rfl ?_
              show Go p e below (T66.setTop (mkF m 34 #[.val (.ref a1), .val (.ref a2), .val (.ref w_WF), .val (.int (5 : Int32)), .val (.int (4 : Int32)), .val (.ref w_X)] [(.ref a2), (.ref w_X)])) _
              obtain ⟨v67, T67, L67, X67, q67, st67⟩ := own_callV X66 hx hZ (y := (⟨"com/example/wombat/wombat/LockMode", "covers", "(Lcom/example/wombat/wombat/LockMode;)Z"⟩ : MethodName)) (pc := 34) (Ls := #[.val (.ref a1), .val (.ref a2), .val (.ref w_WF), .val (.int (5 : Int32)), .val (.int (4 : Int32)), .val (.ref w_X)]) (st := [(.ref a2), (.ref w_X)]) hown (hw _ (List.mem_of_getElem? (i := 17) rfl)) (hw _ (List.mem_of_getElem? (i := 18) rfl)) (hw _ (List.mem_of_getElem? (i := 20) rfl)) (hw _ (List.mem_of_getElem? (i := 19) rfl)) (hw _ (List.mem_of_getElem? (i := 21) rfl)) (hw _ (List.mem_of_getElem? (i := 6) rfl)) (by decide) (rm_covers l Z a0 hw w_X a2 (0 : Int32) u2 h0 n0 Z0 F_w_X_compatible F_a2_compatible) e66 E_w_X pd_0 (hb hby d2_34) (by rw [hml]; rfl) (argsL := [(.ref a2)]) (rest := []) rfl rfl rfl (W := 0) (Nat.le_of_eq rfl) (by decide) (by decide) (by decide) (by decide)
              obtain ⟨rfl, M67, e67⟩ := q67
              have N67 := Fr.app N66 M67
              have r67 : (f_covers w_X a2 (0 : Int32) u2) = (1 : Int32) := by rw [f_covers, if_pos ((own_zand _) : ((0 : Int32) &&& (u2 ^^^ (-1 : Int32))) = (0 : Int32))]
              rw [r67] at st67
              refine Go.mp st67 ?_
              show Go p e below (T67.setTop (mkF m 37 #[.val (.ref a1), .val (.ref a2), .val (.ref w_WF), .val (.int (5 : Int32)), .val (.int (4 : Int32)), .val (.ref w_X)] [(.int (1 : Int32))])) _
              refine g_ifNo X67 hx (hb hby d2_37) ((if0 _ _).trans (feq ((by decide) : ¬ ((1 : Int32) = (0 : Int32)))).1) ?_
              refine g_aload X67 hx (hb hby d2_40) rfl rfl ?_
              exact own_retA X67 hx hret hlk rfl rfl (hb hby d2_42) (by decide) (by decide) ⟨by rw [f_combinedWith, if_pos c25_4, if_neg c34_6, if_neg c25_10, if_pos c25_50, if_neg c34_52, if_neg c25_56], N67, e67⟩
        · obtain ⟨v68, T68, L68, X68, q68, st68⟩ := own_callV X48 hx hZ (y := (⟨"com/example/wombat/wombat/LockMode", "covers", "(Lcom/example/wombat/wombat/LockMode;)Z"⟩ : MethodName)) (pc := 25) (Ls := #[.val (.ref a1), .val (.ref a2), .val (.ref w_WF), .val (.int (5 : Int32)), .val (.int (2 : Int32)), .val (.ref w_S)]) (st := [(.ref a1), (.ref w_S)]) hown (hw _ (List.mem_of_getElem? (i := 17) rfl)) (hw _ (List.mem_of_getElem? (i := 18) rfl)) (hw _ (List.mem_of_getElem? (i := 20) rfl)) (hw _ (List.mem_of_getElem? (i := 19) rfl)) (hw _ (List.mem_of_getElem? (i := 21) rfl)) (hw _ (List.mem_of_getElem? (i := 6) rfl)) (by decide) (rm_covers l Z a0 hw w_S a1 (5 : Int32) u1 h0 n0 Z0 F_w_S_compatible F_a1_compatible) e48 E_w_S pd_0 (hb hby d2_25) (by rw [hml]; rfl) (argsL := [(.ref a1)]) (rest := []) rfl rfl rfl (W := 0) (Nat.le_of_eq rfl) (by decide) (by decide) (by decide) (by decide)
          obtain ⟨rfl, M68, e68⟩ := q68
          have N68 := Fr.app N48 M68
          have r68 : (f_covers w_S a1 (5 : Int32) u1) = (0 : Int32) := by rw [f_covers, if_neg (c25_50 : ¬ (((5 : Int32) &&& (u1 ^^^ (-1 : Int32))) = (0 : Int32)))]
          rw [r68] at st68
          refine Go.mp st68 ?_
          show Go p e below (T68.setTop (mkF m 28 #[.val (.ref a1), .val (.ref a2), .val (.ref w_WF), .val (.int (5 : Int32)), .val (.int (2 : Int32)), .val (.ref w_S)] [(.int (0 : Int32))])) _
          refine g_ifYes X68 hx 43 (hb hby d2_28) ((if0 _ _).trans (teq ((by decide) : (0 : Int32) = (0 : Int32))).1) (by decide) (by decide) ?_
          refine Go.mp (fun _ k => XS.iinc X68.here hx rfl (hb hby d2_43) rfl (l' := #[.val (.ref a1), .val (.ref a2), .val (.ref w_WF), .val (.int (5 : Int32)), .val (.int ((2 : Int32) + (1 : Int32))), .val (.ref w_S)]) rfl k) ?_
          show Go p e below (T68.setTop (mkF m 46 #[.val (.ref a1), .val (.ref a2), .val (.ref w_WF), .val (.int (5 : Int32)), .val (.int ((2 : Int32) + (1 : Int32))), .val (.ref w_S)] [])) _
          rw [show ((2 : Int32) + (1 : Int32)) = (3 : Int32) from by decide]
          show Go p e below (T68.setTop (mkF m 46 #[.val (.ref a1), .val (.ref a2), .val (.ref w_WF), .val (.int (5 : Int32)), .val (.int (3 : Int32)), .val (.ref w_S)] [])) _
          refine g_goto X68 hx 10 (hb hby d2_46) (by decide) (by decide) ?_
          refine g_iload X68 hx (hb hby d2_10) rfl ?_
          refine g_iloadN X68 hx (hb hby d2_12) rfl ?_
          refine g_icmpNo X68 hx (hb hby d2_13) (tlt ((by decide) : (3 : Int32) < (5 : Int32))).2.1 ?_
          refine g_aloadN X68 hx (hb hby d2_16) rfl rfl ?_
          refine g_iload X68 hx (hb hby d2_17) rfl ?_
          obtain ⟨cl69, Ar69, -, sz69, -, Ha69, -⟩ := id V_w_WF
          have hin69 : ¬ ((3 : Int32) < 0 ∨ cl69.slots.size ≤ (3 : Int32).toNatClampNeg) := by rw [sz69]; decide
          have hat69 : cl69.slots[(3 : Int32).toNatClampNeg]? = some (.ref w_SIX) := Ha69 3 (by rw [sz69]; decide)
          refine Go.mp (fun _ k => X68.aaload hx (j := 3) (v := (.ref w_SIX)) (by rw [e68]; exact Ar69.1) (State.isArrayOf_alike hZ.alike Ar69.2.1) rfl Ar69.2.2 hin69 hat69 (g := (mkF m 19 #[.val (.ref a1), .val (.ref a2), .val (.ref w_WF), .val (.int (5 : Int32)), .val (.int (3 : Int32)), .val (.ref w_S)] [(.int (3 : Int32)), (.ref w_WF)])) rfl rfl (hb hby d2_19) _ k) ?_
          show Go p e below (T68.setTop (mkF m 20 #[.val (.ref a1), .val (.ref a2), .val (.ref w_WF), .val (.int (5 : Int32)), .val (.int (3 : Int32)), .val (.ref w_S)] [(.ref w_SIX)])) _
          refine g_astore X68 hx #[.val (.ref a1), .val (.ref a2), .val (.ref w_WF), .val (.int (5 : Int32)), .val (.int (3 : Int32)), .val (.ref w_SIX)] (hb hby d2_20) rfl rfl ?_
          refine g_aload X68 hx (hb hby d2_22) rfl rfl ?_
          refine g_aloadN X68 hx (hb hby d2_24) rfl rfl ?_
          show Go p e below (T68.setTop (mkF m 25 #[.val (.ref a1), .val (.ref a2), .val (.ref w_WF), .val (.int (5 : Int32)), .val (.int (3 : Int32)), .val (.ref w_SIX)] [(.ref a1), (.ref w_SIX)])) _
          by_cases c25_70 : ((1 : Int32) &&& (u1 ^^^ (-1 : Int32))) = (0 : Int32)
          · obtain ⟨v71, T71, L71, X71, q71, st71⟩ := own_callV X68 hx hZ (y := (⟨"com/example/wombat/wombat/LockMode", "covers", "(Lcom/example/wombat/wombat/LockMode;)Z"⟩ : MethodName)) (pc := 25) (Ls := #[.val (.ref a1), .val (.ref a2), .val (.ref w_WF), .val (.int (5 : Int32)), .val (.int (3 : Int32)), .val (.ref w_SIX)]) (st := [(.ref a1), (.ref w_SIX)]) hown (hw _ (List.mem_of_getElem? (i := 17) rfl)) (hw _ (List.mem_of_getElem? (i := 18) rfl)) (hw _ (List.mem_of_getElem? (i := 20) rfl)) (hw _ (List.mem_of_getElem? (i := 19) rfl)) (hw _ (List.mem_of_getElem? (i := 21) rfl)) (hw _ (List.mem_of_getElem? (i := 6) rfl)) (by decide) (rm_covers l Z a0 hw w_SIX a1 (1 : Int32) u1 h0 n0 Z0 F_w_SIX_compatible F_a1_compatible) e68 E_w_SIX pd_0 (hb hby d2_25) (by rw [hml]; rfl) (argsL := [(.ref a1)]) (rest := []) rfl rfl rfl (W := 0) (Nat.le_of_eq rfl) (by decide) (by decide) (by decide) (by decide)
            obtain ⟨rfl, M71, e71⟩ := q71
            have N71 := Fr.app N68 M71
            have r71 : (f_covers w_SIX a1 (1 : Int32) u1) = (1 : Int32) := by rw [f_covers, if_pos (c25_70 : ((1 : Int32) &&& (u1 ^^^ (-1 : Int32))) = (0 : Int32))]
            rw [r71] at st71
            refine Go.mp st71 ?_
            show Go p e below (T71.setTop (mkF m 28 #[.val (.ref a1), .val (.ref a2), .val (.ref w_WF), .val (.int (5 : Int32)), .val (.int (3 : Int32)), .val (.ref w_SIX)] [(.int (1 : Int32))])) _
            refine g_ifNo X71 hx (hb hby d2_28) ((if0 _ _).trans (feq ((by decide) : ¬ ((1 : Int32) = (0 : Int32)))).1) ?_
            refine g_aload X71 hx (hb hby d2_31) rfl rfl ?_
            refine g_aloadN X71 hx (hb hby d2_33) rfl rfl ?_
            show Go p e below (T71.setTop (mkF m 34 #[.val (.ref a1), .val (.ref a2), .val (.ref w_WF), .val (.int (5 : Int32)), .val (.int (3 : Int32)), .val (.ref w_SIX)] [(.ref a2), (.ref w_SIX)])) _
            by_cases c34_72 : ((1 : Int32) &&& (u2 ^^^ (-1 : Int32))) = (0 : Int32)
            · obtain ⟨v73, T73, L73, X73, q73, st73⟩ := own_callV X71 hx hZ (y := (⟨"com/example/wombat/wombat/LockMode", "covers", "(Lcom/example/wombat/wombat/LockMode;)Z"⟩ : MethodName)) (pc := 34) (Ls := #[.val (.ref a1), .val (.ref a2), .val (.ref w_WF), .val (.int (5 : Int32)), .val (.int (3 : Int32)), .val (.ref w_SIX)]) (st := [(.ref a2), (.ref w_SIX)]) hown (hw _ (List.mem_of_getElem? (i := 17) rfl)) (hw _ (List.mem_of_getElem? (i := 18) rfl)) (hw _ (List.mem_of_getElem? (i := 20) rfl)) (hw _ (List.mem_of_getElem? (i := 19) rfl)) (hw _ (List.mem_of_getElem? (i := 21) rfl)) (hw _ (List.mem_of_getElem? (i := 6) rfl)) (by decide) (rm_covers l Z a0 hw w_SIX a2 (1 : Int32) u2 h0 n0 Z0 F_w_SIX_compatible F_a2_compatible) e71 E_w_SIX pd_0 (hb hby d2_34) (by rw [hml]; rfl) (argsL := [(.ref a2)]) (rest := []) rfl rfl rfl (W := 0) (Nat.le_of_eq rfl) (by decide) (by decide) (by decide) (by decide)
              obtain ⟨rfl, M73, e73⟩ := q73
              have N73 := Fr.app N71 M73
              have r73 : (f_covers w_SIX a2 (1 : Int32) u2) = (1 : Int32) := by rw [f_covers, if_pos (c34_72 : ((1 : Int32) &&& (u2 ^^^ (-1 : Int32))) = (0 : Int32))]
              rw [r73] at st73
              refine Go.mp st73 ?_
              show Go p e below (T73.setTop (mkF m 37 #[.val (.ref a1), .val (.ref a2), .val (.ref w_WF), .val (.int (5 : Int32)), .val (.int (3 : Int32)), .val (.ref w_SIX)] [(.int (1 : Int32))])) _
              refine g_ifNo X73 hx (hb hby d2_37) ((if0 _ _).trans (feq ((by decide) : ¬ ((1 : Int32) = (0 : Int32)))).1) ?_
              refine g_aload X73 hx (hb hby d2_40) rfl rfl ?_
              exact own_retA X73 hx hret hlk rfl rfl (hb hby d2_42) (by decide) (by decide) ⟨by rw [f_combinedWith, if_pos c25_4, if_neg c34_6, if_neg c25_10, if_neg c25_50, if_pos c25_70, if_pos c34_72], N73, e73⟩
            · obtain ⟨v74, T74, L74, X74, q74, st74⟩ := own_callV X71 hx hZ (y := (⟨"com/example/wombat/wombat/LockMode", "covers", "(Lcom/example/wombat/wombat/LockMode;)Z"⟩ : MethodName)) (pc := 34) (Ls := #[.val (.ref a1), .val (.ref a2), .val (.ref w_WF), .val (.int (5 : Int32)), .val (.int (3 : Int32)), .val (.ref w_SIX)]) (st := [(.ref a2), (.ref w_SIX)]) hown (hw _ (List.mem_of_getElem? (i := 17) rfl)) (hw _ (List.mem_of_getElem? (i := 18) rfl)) (hw _ (List.mem_of_getElem? (i := 20) rfl)) (hw _ (List.mem_of_getElem? (i := 19) rfl)) (hw _ (List.mem_of_getElem? (i := 21) rfl)) (hw _ (List.mem_of_getElem? (i := 6) rfl)) (by decide) (rm_covers l Z a0 hw w_SIX a2 (1 : Int32) u2 h0 n0 Z0 F_w_SIX_compatible F_a2_compatible) e71 E_w_SIX pd_0 (hb hby d2_34) (by rw [hml]; rfl) (argsL := [(.ref a2)]) (rest := []) rfl rfl rfl (W := 0) (Nat.le_of_eq rfl) (by decide) (by decide) (by decide) (by decide)
              obtain ⟨rfl, M74, e74⟩ := q74
              have N74 := Fr.app N71 M74
              have r74 : (f_covers w_SIX a2 (1 : Int32) u2) = (0 : Int32) := by rw [f_covers, if_neg (c34_72 : ¬ (((1 : Int32) &&& (u2 ^^^ (-1 : Int32))) = (0 : Int32)))]
              rw [r74] at st74
              refine Go.mp st74 ?_
              show Go p e below (T74.setTop (mkF m 37 #[.val (.ref a1), .val (.ref a2), .val (.ref w_WF), .val (.int (5 : Int32)), .val (.int (3 : Int32)), .val (.ref w_SIX)] [(.int (0 : Int32))])) _
              refine g_ifYes X74 hx 43 (hb hby d2_37) ((if0 _ _).trans (teq ((by decide) : (0 : Int32) = (0 : Int32))).1) (by decide) (by decide) ?_
              refine Go.mp (fun _ k => XS.iinc X74.here hx rfl (hb hby d2_43) rfl (l' := #[.val (.ref a1), .val (.ref a2), .val (.ref w_WF), .val (.int (5 : Int32)), .val (.int ((3 : Int32) + (1 : Int32))), .val (.ref w_SIX)]) rfl k) ?_
              show Go p e below (T74.setTop (mkF m 46 #[.val (.ref a1), .val (.ref a2), .val (.ref w_WF), .val (.int (5 : Int32)), .val (.int ((3 : Int32) + (1 : Int32))), .val (.ref w_SIX)] [])) _
              rw [show ((3 : Int32) + (1 : Int32)) = (4 : Int32) from by decide]
              show Go p e below (T74.setTop (mkF m 46 #[.val (.ref a1), .val (.ref a2), .val (.ref w_WF), .val (.int (5 : Int32)), .val (.int (4 : Int32)), .val (.ref w_SIX)] [])) _
              refine g_goto X74 hx 10 (hb hby d2_46) (by decide) (by decide) ?_
              refine g_iload X74 hx (hb hby d2_10) rfl ?_
              refine g_iloadN X74 hx (hb hby d2_12) rfl ?_
              refine g_icmpNo X74 hx (hb hby d2_13) (tlt ((by decide) : (4 : Int32) < (5 : Int32))).2.1 ?_
              refine g_aloadN X74 hx (hb hby d2_16) rfl rfl ?_
              refine g_iload X74 hx (hb hby d2_17) rfl ?_
              obtain ⟨cl75, Ar75, -, sz75, -, Ha75, -⟩ := id V_w_WF
              have hin75 : ¬ ((4 : Int32) < 0 ∨ cl75.slots.size ≤ (4 : Int32).toNatClampNeg) := by rw [sz75]; decide
              have hat75 : cl75.slots[(4 : Int32).toNatClampNeg]? = some (.ref w_X) := Ha75 4 (by rw [sz75]; decide)
              refine Go.mp (fun _ k => X74.aaload hx (j := 4) (v := (.ref w_X)) (by rw [e74]; exact Ar75.1) (State.isArrayOf_alike hZ.alike Ar75.2.1) rfl Ar75.2.2 hin75 hat75 (g := (mkF m 19 #[.val (.ref a1), .val (.ref a2), .val (.ref w_WF), .val (.int (5 : Int32)), .val (.int (4 : Int32)), .val (.ref w_SIX)] [(.int (4 : Int32)), (.ref w_WF)])) rfl rfl (hb hby d2_19) _ k) ?_
              show Go p e below (T74.setTop (mkF m 20 #[.val (.ref a1), .val (.ref a2), .val (.ref w_WF), .val (.int (5 : Int32)), .val (.int (4 : Int32)), .val (.ref w_SIX)] [(.ref w_X)])) _
              refine g_astore X74 hx #[.val (.ref a1), .val (.ref a2), .val (.ref w_WF), .val (.int (5 : Int32)), .val (.int (4 : Int32)), .val (.ref w_X)] (hb hby d2_20) rfl rfl ?_
              refine g_aload X74 hx (hb hby d2_22) rfl rfl ?_
              refine g_aloadN X74 hx (hb hby d2_24) rfl rfl ?_
              show Go p e below (T74.setTop (mkF m 25 #[.val (.ref a1), .val (.ref a2), .val (.ref w_WF), .val (.int (5 : Int32)), .val (.int (4 : Int32)), .val (.ref w_X)] [(.ref a1), (.ref w_X)])) _
              obtain ⟨v76, T76, L76, X76, q76, st76⟩ := own_callV X74 hx hZ (y := (⟨"com/example/wombat/wombat/LockMode", "covers", "(Lcom/example/wombat/wombat/LockMode;)Z"⟩ : MethodName)) (pc := 25) (Ls := #[.val (.ref a1), .val (.ref a2), .val (.ref w_WF), .val (.int (5 : Int32)), .val (.int (4 : Int32)), .val (.ref w_X)]) (st := [(.ref a1), (.ref w_X)]) hown (hw _ (List.mem_of_getElem? (i := 17) rfl)) (hw _ (List.mem_of_getElem? (i := 18) rfl)) (hw _ (List.mem_of_getElem? (i := 20) rfl)) (hw _ (List.mem_of_getElem? (i := 19) rfl)) (hw _ (List.mem_of_getElem? (i := 21) rfl)) (hw _ (List.mem_of_getElem? (i := 6) rfl)) (by decide) (rm_covers l Z a0 hw w_X a1 (0 : Int32) u1 h0 n0 Z0 F_w_X_compatible F_a1_compatible) e74 E_w_X pd_0 (hb hby d2_25) (by rw [hml]; rfl) (argsL := [(.ref a1)]) (rest := []) rfl rfl rfl (W := 0) (Nat.le_of_eq rfl) (by decide) (by decide) (by decide) (by decide)
              obtain ⟨rfl, M76, e76⟩ := q76
              have N76 := Fr.app N74 M76
              have r76 : (f_covers w_X a1 (0 : Int32) u1) = (1 : Int32) := by rw [f_covers, if_pos ((own_zand _) : ((0 : Int32) &&& (u1 ^^^ (-1 : Int32))) = (0 : Int32))]
              rw [r76] at st76
              refine Go.mp st76 ?_
              show Go p e below (T76.setTop (mkF m 28 #[.val (.ref a1), .val (.ref a2), .val (.ref w_WF), .val (.int (5 : Int32)), .val (.int (4 : Int32)), .val (.ref w_X)] [(.int (1 : Int32))])) _
              refine g_ifNo X76 hx (hb hby d2_28) ((if0 _ _).trans (feq ((by decide) : ¬ ((1 : Int32) = (0 : Int32)))).1) ?_
              refine g_aload X76 hx (hb hby d2_31) rfl rfl ?_
              refine g_aloadN X76 hx (hb hby d2_33) rfl rfl ?_
              show Go p e below (T76.setTop (mkF m 34 #[.val (.ref a1), .val (.ref a2), .val (.ref w_WF), .val (.int (5 : Int32)), .val (.int (4 : Int32)), .val (.ref w_X)] [(.ref a2), (.ref w_X)])) _
              obtain ⟨v77, T77, L77, X77, q77, st77⟩ := own_callV X76 hx hZ (y := (⟨"com/example/wombat/wombat/LockMode", "covers", "(Lcom/example/wombat/wombat/LockMode;)Z"⟩ : MethodName)) (pc := 34) (Ls := #[.val (.ref a1), .val (.ref a2), .val (.ref w_WF), .val (.int (5 : Int32)), .val (.int (4 : Int32)), .val (.ref w_X)]) (st := [(.ref a2), (.ref w_X)]) hown (hw _ (List.mem_of_getElem? (i := 17) rfl)) (hw _ (List.mem_of_getElem? (i := 18) rfl)) (hw _ (List.mem_of_getElem? (i := 20) rfl)) (hw _ (List.mem_of_getElem? (i := 19) rfl)) (hw _ (List.mem_of_getElem? (i := 21) rfl)) (hw _ (List.mem_of_getElem? (i := 6) rfl)) (by decide) (rm_covers l Z a0 hw w_X a2 (0 : Int32) u2 h0 n0 Z0 F_w_X_compatible F_a2_compatible) e76 E_w_X pd_0 (hb hby d2_34) (by rw [hml]; rfl) (argsL := [(.ref a2)]) (rest := []) rfl rfl rfl (W := 0) (Nat.le_of_eq rfl) (by decide) (by decide) (by decide) (by decide)
              obtain ⟨rfl, M77, e77⟩ := q77
              have N77 := Fr.app N76 M77
              have r77 : (f_covers w_X a2 (0 : Int32) u2) = (1 : Int32) := by rw [f_covers, if_pos ((own_zand _) : ((0 : Int32) &&& (u2 ^^^ (-1 : Int32))) = (0 : Int32))]
              rw [r77] at st77
              refine Go.mp st77 ?_
              show Go p e below (T77.setTop (mkF m 37 #[.val (.ref a1), .val (.ref a2), .val (.ref w_WF), .val (.int (5 : Int32)), .val (.int (4 : Int32)), .val (.ref w_X)] [(.int (1 : Int32))])) _
              refine g_ifNo X77 hx (hb hby d2_37) ((if0 _ _).trans (feq ((by decide) : ¬ ((1 : Int32) = (0 : Int32)))).1) ?_
              refine g_aload X77 hx (hb hby d2_40) rfl rfl ?_
              exact own_retA X77 hx hret hlk rfl rfl (hb hby d2_42) (by decide) (by decide) ⟨by rw [f_combinedWith, if_pos c25_4, if_neg c34_6, if_neg c25_10, if_neg c25_50, if_pos c25_70, if_neg c34_72], N77, e77⟩
          · obtain ⟨v78, T78, L78, X78, q78, st78⟩ := own_callV X68 hx hZ (y := (⟨"com/example/wombat/wombat/LockMode", "covers", "(Lcom/example/wombat/wombat/LockMode;)Z"⟩ : MethodName)) (pc := 25) (Ls := #[.val (.ref a1), .val (.ref a2), .val (.ref w_WF), .val (.int (5 : Int32)), .val (.int (3 : Int32)), .val (.ref w_SIX)]) (st := [(.ref a1), (.ref w_SIX)]) hown (hw _ (List.mem_of_getElem? (i := 17) rfl)) (hw _ (List.mem_of_getElem? (i := 18) rfl)) (hw _ (List.mem_of_getElem? (i := 20) rfl)) (hw _ (List.mem_of_getElem? (i := 19) rfl)) (hw _ (List.mem_of_getElem? (i := 21) rfl)) (hw _ (List.mem_of_getElem? (i := 6) rfl)) (by decide) (rm_covers l Z a0 hw w_SIX a1 (1 : Int32) u1 h0 n0 Z0 F_w_SIX_compatible F_a1_compatible) e68 E_w_SIX pd_0 (hb hby d2_25) (by rw [hml]; rfl) (argsL := [(.ref a1)]) (rest := []) rfl rfl rfl (W := 0) (Nat.le_of_eq rfl) (by decide) (by decide) (by decide) (by decide)
            obtain ⟨rfl, M78, e78⟩ := q78
            have N78 := Fr.app N68 M78
            have r78 : (f_covers w_SIX a1 (1 : Int32) u1) = (0 : Int32) := by rw [f_covers, if_neg (c25_70 : ¬ (((1 : Int32) &&& (u1 ^^^ (-1 : Int32))) = (0 : Int32)))]
            rw [r78] at st78
            refine Go.mp st78 ?_
            show Go p e below (T78.setTop (mkF m 28 #[.val (.ref a1), .val (.ref a2), .val (.ref w_WF), .val (.int (5 : Int32)), .val (.int (3 : Int32)), .val (.ref w_SIX)] [(.int (0 : Int32))])) _
            refine g_ifYes X78 hx 43 (hb hby d2_28) ((if0 _ _).trans (teq ((by decide) : (0 : Int32) = (0 : Int32))).1) (by decide) (by decide) ?_
            refine Go.mp (fun _ k => XS.iinc X78.here hx rfl (hb hby d2_43) rfl (l' := #[.val (.ref a1), .val (.ref a2), .val (.ref w_WF), .val (.int (5 : Int32)), .val (.int ((3 : Int32) + (1 : Int32))), .val (.ref w_SIX)]) rfl k) ?_
            show Go p e below (T78.setTop (mkF m 46 #[.val (.ref a1), .val (.ref a2), .val (.ref w_WF), .val (.int (5 : Int32)), .val (.int ((3 : Int32) + (1 : Int32))), .val (.ref w_SIX)] [])) _
            rw [show ((3 : Int32) + (1 : Int32)) = (4 : Int32) from by decide]
            show Go p e below (T78.setTop (mkF m 46 #[.val (.ref a1), .val (.ref a2), .val (.ref w_WF), .val (.int (5 : Int32)), .val (.int (4 : Int32)), .val (.ref w_SIX)] [])) _
            refine g_goto X78 hx 10 (hb hby d2_46) (by decide) (by decide) ?_
            refine g_iload X78 hx (hb hby d2_10) rfl ?_
            refine g_iloadN X78 hx (hb hby d2_12) rfl ?_
            refine g_icmpNo X78 hx (hb hby d2_13) (tlt ((by decide) : (4 : Int32) < (5 : Int32))).2.1 ?_
            refine g_aloadN X78 hx (hb hby d2_16) rfl rfl ?_
            refine g_iload X78 hx (hb hby d2_17) rfl ?_
            obtain ⟨cl79, Ar79, -, sz79, -, Ha79, -⟩ := id V_w_WF
            have hin79 : ¬ ((4 : Int32) < 0 ∨ cl79.slots.size ≤ (4 : Int32).toNatClampNeg) := by rw [sz79]; decide
            have hat79 : cl79.slots[(4 : Int32).toNatClampNeg]? = some (.ref w_X) := Ha79 4 (by rw [sz79]; decide)
            refine Go.mp (fun _ k => X78.aaload hx (j := 4) (v := (.ref w_X)) (by rw [e78]; exact Ar79.1) (State.isArrayOf_alike hZ.alike Ar79.2.1) rfl Ar79.2.2 hin79 hat79 (g := (mkF m 19 #[.val (.ref a1), .val (.ref a2), .val (.ref w_WF), .val (.int (5 : Int32)), .val (.int (4 : Int32)), .val (.ref w_SIX)] [(.int (4 : Int32)), (.ref w_WF)])) rfl rfl (hb hby d2_19) _ k) ?_
            show Go p e below (T78.setTop (mkF m 20 #[.val (.ref a1), .val (.ref a2), .val (.ref w_WF), .val (.int (5 : Int32)), .val (.int (4 : Int32)), .val (.ref w_SIX)] [(.ref w_X)])) _
            refine g_astore X78 hx #[.val (.ref a1), .val (.ref a2), .val (.ref w_WF), .val (.int (5 : Int32)), .val (.int (4 : Int32)), .val (.ref w_X)] (hb hby d2_20) rfl rfl ?_
            refine g_aload X78 hx (hb hby d2_22) rfl rfl ?_
            refine g_aloadN X78 hx (hb hby d2_24) rfl rfl ?_
            show Go p e below (T78.setTop (mkF m 25 #[.val (.ref a1), .val (.ref a2), .val (.ref w_WF), .val (.int (5 : Int32)), .val (.int (4 : Int32)), .val (.ref w_X)] [(.ref a1), (.ref w_X)])) _
            obtain ⟨v80, T80, L80, X80, q80, st80⟩ := own_callV X78 hx hZ (y := (⟨"com/example/wombat/wombat/LockMode", "covers", "(Lcom/example/wombat/wombat/LockMode;)Z"⟩ : MethodName)) (pc := 25) (Ls := #[.val (.ref a1), .val (.ref a2), .val (.ref w_WF), .val (.int (5 : Int32)), .val (.int (4 : Int32)), .val (.ref w_X)]) (st := [(.ref a1), (.ref w_X)]) hown (hw _ (List.mem_of_getElem? (i := 17) rfl)) (hw _ (List.mem_of_getElem? (i := 18) rfl)) (hw _ (List.mem_of_getElem? (i := 20) rfl)) (hw _ (List.mem_of_getElem? (i := 19) rfl)) (hw _ (List.mem_of_getElem? (i := 21) rfl)) (hw _ (List.mem_of_getElem? (i := 6) rfl)) (by decide) (rm_covers l Z a0 hw w_X a1 (0 : Int32) u1 h0 n0 Z0 F_w_X_compatible F_a1_compatible) e78 E_w_X pd_0 (hb hby d2_25) (by rw [hml]; rfl) (argsL := [(.ref a1)]) (rest := []) rfl rfl rfl (W := 0) (Nat.le_of_eq rfl) (by decide) (by decide) (by decide) (by decide)
            obtain ⟨rfl, M80, e80⟩ := q80
            have N80 := Fr.app N78 M80
            have r80 : (f_covers w_X a1 (0 : Int32) u1) = (1 : Int32) := by rw [f_covers, if_pos ((own_zand _) : ((0 : Int32) &&& (u1 ^^^ (-1 : Int32))) = (0 : Int32))]
            rw [r80] at st80
            refine Go.mp st80 ?_
            show Go p e below (T80.setTop (mkF m 28 #[.val (.ref a1), .val (.ref a2), .val (.ref w_WF), .val (.int (5 : Int32)), .val (.int (4 : Int32)), .val (.ref w_X)] [(.int (1 : Int32))])) _
            refine g_ifNo X80 hx (hb hby d2_28) ((if0 _ _).trans (feq ((by decide) : ¬ ((1 : Int32) = (0 : Int32)))).1) ?_
            refine g_aload X80 hx (hb hby d2_31) rfl rfl ?_
            refine g_aloadN X80 hx (hb hby d2_33) rfl rfl ?_
            show Go p e below (T80.setTop (mkF m 34 #[.val (.ref a1), .val (.ref a2), .val (.ref w_WF), .val (.int (5 : Int32)), .val (.int (4 : Int32)), .val (.ref w_X)] [(.ref a2), (.ref w_X)])) _
            obtain ⟨v81, T81, L81, X81, q81, st81⟩ := own_callV X80 hx hZ (y := (⟨"com/example/wombat/wombat/LockMode", "covers", "(Lcom/example/wombat/wombat/LockMode;)Z"⟩ : MethodName)) (pc := 34) (Ls := #[.val (.ref a1), .val (.ref a2), .val (.ref w_WF), .val (.int (5 : Int32)), .val (.int (4 : Int32)), .val (.ref w_X)]) (st := [(.ref a2), (.ref w_X)]) hown (hw _ (List.mem_of_getElem? (i := 17) rfl)) (hw _ (List.mem_of_getElem? (i := 18) rfl)) (hw _ (List.mem_of_getElem? (i := 20) rfl)) (hw _ (List.mem_of_getElem? (i := 19) rfl)) (hw _ (List.mem_of_getElem? (i := 21) rfl)) (hw _ (List.mem_of_getElem? (i := 6) rfl)) (by decide) (rm_covers l Z a0 hw w_X a2 (0 : Int32) u2 h0 n0 Z0 F_w_X_compatible F_a2_compatible) e80 E_w_X pd_0 (hb hby d2_34) (by rw [hml]; rfl) (argsL := [(.ref a2)]) (rest := []) rfl rfl rfl (W := 0) (Nat.le_of_eq rfl) (by decide) (by decide) (by decide) (by decide)
            obtain ⟨rfl, M81, e81⟩ := q81
            have N81 := Fr.app N80 M81
            have r81 : (f_covers w_X a2 (0 : Int32) u2) = (1 : Int32) := by rw [f_covers, if_pos ((own_zand _) : ((0 : Int32) &&& (u2 ^^^ (-1 : Int32))) = (0 : Int32))]
            rw [r81] at st81
            refine Go.mp st81 ?_
            show Go p e below (T81.setTop (mkF m 37 #[.val (.ref a1), .val (.ref a2), .val (.ref w_WF), .val (.int (5 : Int32)), .val (.int (4 : Int32)), .val (.ref w_X)] [(.int (1 : Int32))])) _
            refine g_ifNo X81 hx (hb hby d2_37) ((if0 _ _).trans (feq ((by decide) : ¬ ((1 : Int32) = (0 : Int32)))).1) ?_
            refine g_aload X81 hx (hb hby d2_40) rfl rfl ?_
            exact own_retA X81 hx hret hlk rfl rfl (hb hby d2_42) (by decide) (by decide) ⟨by rw [f_combinedWith, if_pos c25_4, if_neg c34_6, if_neg c25_10, if_neg c25_50, if_neg c25_70], N81, e81⟩
  · obtain ⟨v82, T82, L82, X82, q82, st82⟩ := own_callV X1 hx hZ (y := (⟨"com/example/wombat/wombat/LockMode", "covers", "(Lcom/example/wombat/wombat/LockMode;)Z"⟩ : MethodName)) (pc := 25) (Ls := #[.val (.ref a1), .val (.ref a2), .val (.ref w_WF), .val (.int (5 : Int32)), .val (.int (0 : Int32)), .val (.ref w_IS)]) (st := [(.ref a1), (.ref w_IS)]) hown (hw _ (List.mem_of_getElem? (i := 17) rfl)) (hw _ (List.mem_of_getElem? (i := 18) rfl)) (hw _ (List.mem_of_getElem? (i := 20) rfl)) (hw _ (List.mem_of_getElem? (i := 19) rfl)) (hw _ (List.mem_of_getElem? (i := 21) rfl)) (hw _ (List.mem_of_getElem? (i := 6) rfl)) (by decide) (rm_covers l Z a0 hw w_IS a1 (15 : Int32) u1 h0 n0 Z0 F_w_IS_compatible F_a1_compatible) e1 E_w_IS pd_0 (hb hby d2_25) (by rw [hml]; rfl) (argsL := [(.ref a1)]) (rest := []) rfl rfl rfl (W := 0) (Nat.le_of_eq rfl) (by decide) (by decide) (by decide) (by decide)
    obtain ⟨rfl, M82, e82⟩ := q82
    have N82 := Fr.app N0 M82
    have r82 : (f_covers w_IS a1 (15 : Int32) u1) = (0 : Int32) := by rw [f_covers, if_neg (c25_4 : ¬ (((15 : Int32) &&& (u1 ^^^ (-1 : Int32))) = (0 : Int32)))]
    rw [r82] at st82
    refine Go.mp st82 ?_
    show Go p e below (T82.setTop (mkF m 28 #[.val (.ref a1), .val (.ref a2), .val (.ref w_WF), .val (.int (5 : Int32)), .val (.int (0 : Int32)), .val (.ref w_IS)] [(.int (0 : Int32))])) _
    refine g_ifYes X82 hx 43 (hb hby d2_28) ((if0 _ _).trans (teq ((by decide) : (0 : Int32) = (0 : Int32))).1) (by decide) (by decide) ?_
    refine Go.mp (fun _ k => XS.iinc X82.here hx rfl (hb hby d2_43) rfl (l' := #[.val (.ref a1), .val (.ref a2), .val (.ref w_WF), .val (.int (5 : Int32)), .val (.int ((0 : Int32) + (1 : Int32))), .val (.ref w_IS)]) rfl k) ?_
    show Go p e below (T82.setTop (mkF m 46 #[.val (.ref a1), .val (.ref a2), .val (.ref w_WF), .val (.int (5 : Int32)), .val (.int ((0 : Int32) + (1 : Int32))), .val (.ref w_IS)] [])) _
    rw [show ((0 : Int32) + (1 : Int32)) = (1 : Int32) from by decide]
    show Go p e below (T82.setTop (mkF m 46 #[.val (.ref a1), .val (.ref a2), .val (.ref w_WF), .val (.int (5 : Int32)), .val (.int (1 : Int32)), .val (.ref w_IS)] [])) _
    refine g_goto X82 hx 10 (hb hby d2_46) (by decide) (by decide) ?_
    refine g_iload X82 hx (hb hby d2_10) rfl ?_
    refine g_iloadN X82 hx (hb hby d2_12) rfl ?_
    refine g_icmpNo X82 hx (hb hby d2_13) (tlt ((by decide) : (1 : Int32) < (5 : Int32))).2.1 ?_
    refine g_aloadN X82 hx (hb hby d2_16) rfl rfl ?_
    refine g_iload X82 hx (hb hby d2_17) rfl ?_
    obtain ⟨cl83, Ar83, -, sz83, -, Ha83, -⟩ := id V_w_WF
    have hin83 : ¬ ((1 : Int32) < 0 ∨ cl83.slots.size ≤ (1 : Int32).toNatClampNeg) := by rw [sz83]; decide
    have hat83 : cl83.slots[(1 : Int32).toNatClampNeg]? = some (.ref w_IX) := Ha83 1 (by rw [sz83]; decide)
    refine Go.mp (fun _ k => X82.aaload hx (j := 1) (v := (.ref w_IX)) (by rw [e82]; exact Ar83.1) (State.isArrayOf_alike hZ.alike Ar83.2.1) rfl Ar83.2.2 hin83 hat83 (g := (mkF m 19 #[.val (.ref a1), .val (.ref a2), .val (.ref w_WF), .val (.int (5 : Int32)), .val (.int (1 : Int32)), .val (.ref w_IS)] [(.int (1 : Int32)), (.ref w_WF)])) rfl rfl (hb hby d2_19) _ k) ?_
    show Go p e below (T82.setTop (mkF m 20 #[.val (.ref a1), .val (.ref a2), .val (.ref w_WF), .val (.int (5 : Int32)), .val (.int (1 : Int32)), .val (.ref w_IS)] [(.ref w_IX)])) _
    refine g_astore X82 hx #[.val (.ref a1), .val (.ref a2), .val (.ref w_WF), .val (.int (5 : Int32)), .val (.int (1 : Int32)), .val (.ref w_IX)] (hb hby d2_20) rfl rfl ?_
    refine g_aload X82 hx (hb hby d2_22) rfl rfl ?_
    refine g_aloadN X82 hx (hb hby d2_24) rfl rfl ?_
    show Go p e below (T82.setTop (mkF m 25 #[.val (.ref a1), .val (.ref a2), .val (.ref w_WF), .val (.int (5 : Int32)), .val (.int (1 : Int32)), .val (.ref w_IX)] [(.ref a1), (.ref w_IX)])) _
    by_cases c25_84 : ((3 : Int32) &&& (u1 ^^^ (-1 : Int32))) = (0 : Int32)
    · obtain ⟨v85, T85, L85, X85, q85, st85⟩ := own_callV X82 hx hZ (y := (⟨"com/example/wombat/wombat/LockMode", "covers", "(Lcom/example/wombat/wombat/LockMode;)Z"⟩ : MethodName)) (pc := 25) (Ls := #[.val (.ref a1), .val (.ref a2), .val (.ref w_WF), .val (.int (5 : Int32)), .val (.int (1 : Int32)), .val (.ref w_IX)]) (st := [(.ref a1), (.ref w_IX)]) hown (hw _ (List.mem_of_getElem? (i := 17) rfl)) (hw _ (List.mem_of_getElem? (i := 18) rfl)) (hw _ (List.mem_of_getElem? (i := 20) rfl)) (hw _ (List.mem_of_getElem? (i := 19) rfl)) (hw _ (List.mem_of_getElem? (i := 21) rfl)) (hw _ (List.mem_of_getElem? (i := 6) rfl)) (by decide) (rm_covers l Z a0 hw w_IX a1 (3 : Int32) u1 h0 n0 Z0 F_w_IX_compatible F_a1_compatible) e82 E_w_IX pd_0 (hb hby d2_25) (by rw [hml]; rfl) (argsL := [(.ref a1)]) (rest := []) rfl rfl rfl (W := 0) (Nat.le_of_eq rfl) (by decide) (by decide) (by decide) (by decide)
      obtain ⟨rfl, M85, e85⟩ := q85
      have N85 := Fr.app N82 M85
      have r85 : (f_covers w_IX a1 (3 : Int32) u1) = (1 : Int32) := by rw [f_covers, if_pos (c25_84 : ((3 : Int32) &&& (u1 ^^^ (-1 : Int32))) = (0 : Int32))]
      rw [r85] at st85
      refine Go.mp st85 ?_
      show Go p e below (T85.setTop (mkF m 28 #[.val (.ref a1), .val (.ref a2), .val (.ref w_WF), .val (.int (5 : Int32)), .val (.int (1 : Int32)), .val (.ref w_IX)] [(.int (1 : Int32))])) _
      refine g_ifNo X85 hx (hb hby d2_28) ((if0 _ _).trans (feq ((by decide) : ¬ ((1 : Int32) = (0 : Int32)))).1) ?_
      refine g_aload X85 hx (hb hby d2_31) rfl rfl ?_
      refine g_aloadN X85 hx (hb hby d2_33) rfl rfl ?_
      show Go p e below (T85.setTop (mkF m 34 #[.val (.ref a1), .val (.ref a2), .val (.ref w_WF), .val (.int (5 : Int32)), .val (.int (1 : Int32)), .val (.ref w_IX)] [(.ref a2), (.ref w_IX)])) _
      by_cases c34_86 : ((3 : Int32) &&& (u2 ^^^ (-1 : Int32))) = (0 : Int32)
      · obtain ⟨v87, T87, L87, X87, q87, st87⟩ := own_callV X85 hx hZ (y := (⟨"com/example/wombat/wombat/LockMode", "covers", "(Lcom/example/wombat/wombat/LockMode;)Z"⟩ : MethodName)) (pc := 34) (Ls := #[.val (.ref a1), .val (.ref a2), .val (.ref w_WF), .val (.int (5 : Int32)), .val (.int (1 : Int32)), .val (.ref w_IX)]) (st := [(.ref a2), (.ref w_IX)]) hown (hw _ (List.mem_of_getElem? (i := 17) rfl)) (hw _ (List.mem_of_getElem? (i := 18) rfl)) (hw _ (List.mem_of_getElem? (i := 20) rfl)) (hw _ (List.mem_of_getElem? (i := 19) rfl)) (hw _ (List.mem_of_getElem? (i := 21) rfl)) (hw _ (List.mem_of_getElem? (i := 6) rfl)) (by decide) (rm_covers l Z a0 hw w_IX a2 (3 : Int32) u2 h0 n0 Z0 F_w_IX_compatible F_a2_compatible) e85 E_w_IX pd_0 (hb hby d2_34) (by rw [hml]; rfl) (argsL := [(.ref a2)]) (rest := []) rfl rfl rfl (W := 0) (Nat.le_of_eq rfl) (by decide) (by decide) (by decide) (by decide)
        obtain ⟨rfl, M87, e87⟩ := q87
        have N87 := Fr.app N85 M87
        have r87 : (f_covers w_IX a2 (3 : Int32) u2) = (1 : Int32) := by rw [f_covers, if_pos (c34_86 : ((3 : Int32) &&& (u2 ^^^ (-1 : Int32))) = (0 : Int32))]
        rw [r87] at st87
        refine Go.mp st87 ?_
        show Go p e below (T87.setTop (mkF m 37 #[.val (.ref a1), .val (.ref a2), .val (.ref w_WF), .val (.int (5 : Int32)), .val (.int (1 : Int32)), .val (.ref w_IX)] [(.int (1 : Int32))])) _
        refine g_ifNo X87 hx (hb hby d2_37) ((if0 _ _).trans (feq ((by decide) : ¬ ((1 : Int32) = (0 : Int32)))).1) ?_
        refine g_aload X87 hx (hb hby d2_40) rfl rfl ?_
        exact own_retA X87 hx hret hlk rfl rfl (hb hby d2_42) (by decide) (by decide) ⟨by rw [f_combinedWith, if_neg c25_4, if_pos c25_84, if_pos c34_86], N87, e87⟩
      · obtain ⟨v88, T88, L88, X88, q88, st88⟩ := own_callV X85 hx hZ (y := (⟨"com/example/wombat/wombat/LockMode", "covers", "(Lcom/example/wombat/wombat/LockMode;)Z"⟩ : MethodName)) (pc := 34) (Ls := #[.val (.ref a1), .val (.ref a2), .val (.ref w_WF), .val (.int (5 : Int32)), .val (.int (1 : Int32)), .val (.ref w_IX)]) (st := [(.ref a2), (.ref w_IX)]) hown (hw _ (List.mem_of_getElem? (i := 17) rfl)) (hw _ (List.mem_of_getElem? (i := 18) rfl)) (hw _ (List.mem_of_getElem? (i := 20) rfl)) (hw _ (List.mem_of_getElem? (i := 19) rfl)) (hw _ (List.mem_of_getElem? (i := 21) rfl)) (hw _ (List.mem_of_getElem? (i := 6) rfl)) (by decide) (rm_covers l Z a0 hw w_IX a2 (3 : Int32) u2 h0 n0 Z0 F_w_IX_compatible F_a2_compatible) e85 E_w_IX pd_0 (hb hby d2_34) (by rw [hml]; rfl) (argsL := [(.ref a2)]) (rest := []) rfl rfl rfl (W := 0) (Nat.le_of_eq rfl) (by decide) (by decide) (by decide) (by decide)
        obtain ⟨rfl, M88, e88⟩ := q88
        have N88 := Fr.app N85 M88
        have r88 : (f_covers w_IX a2 (3 : Int32) u2) = (0 : Int32) := by rw [f_covers, if_neg (c34_86 : ¬ (((3 : Int32) &&& (u2 ^^^ (-1 : Int32))) = (0 : Int32)))]
        rw [r88] at st88
        refine Go.mp st88 ?_
        show Go p e below (T88.setTop (mkF m 37 #[.val (.ref a1), .val (.ref a2), .val (.ref w_WF), .val (.int (5 : Int32)), .val (.int (1 : Int32)), .val (.ref w_IX)] [(.int (0 : Int32))])) _
        refine g_ifYes X88 hx 43 (hb hby d2_37) ((if0 _ _).trans (teq ((by decide) : (0 : Int32) = (0 : Int32))).1) (by decide) (by decide) ?_
        refine Go.mp (fun _ k => XS.iinc X88.here hx rfl (hb hby d2_43) rfl (l' := #[.val (.ref a1), .val (.ref a2), .val (.ref w_WF), .val (.int (5 : Int32)), .val (.int ((1 : Int32) + (1 : Int32))), .val (.ref w_IX)]) rfl k) ?_
        show Go p e below (T88.setTop (mkF m 46 #[.val (.ref a1), .val (.ref a2), .val (.ref w_WF), .val (.int (5 : Int32)), .val (.int ((1 : Int32) + (1 : Int32))), .val (.ref w_IX)] [])) _
        rw [show ((1 : Int32) + (1 : Int32)) = (2 : Int32) from by decide]
        show Go p e below (T88.setTop (mkF m 46 #[.val (.ref a1), .val (.ref a2), .val (.ref w_WF), .val (.int (5 : Int32)), .val (.int (2 : Int32)), .val (.ref w_IX)] [])) _
        refine g_goto X88 hx 10 (hb hby d2_46) (by decide) (by decide) ?_
        refine g_iload X88 hx (hb hby d2_10) rfl ?_
        refine g_iloadN X88 hx (hb hby d2_12) rfl ?_
        refine g_icmpNo X88 hx (hb hby d2_13) (tlt ((by decide) : (2 : Int32) < (5 : Int32))).2.1 ?_
        refine g_aloadN X88 hx (hb hby d2_16) rfl rfl ?_
        refine g_iload X88 hx (hb hby d2_17) rfl ?_
        obtain ⟨cl89, Ar89, -, sz89, -, Ha89, -⟩ := id V_w_WF
        have hin89 : ¬ ((2 : Int32) < 0 ∨ cl89.slots.size ≤ (2 : Int32).toNatClampNeg) := by rw [sz89]; decide
        have hat89 : cl89.slots[(2 : Int32).toNatClampNeg]? = some (.ref w_S) := Ha89 2 (by rw [sz89]; decide)
        refine Go.mp (fun _ k => X88.aaload hx (j := 2) (v := (.ref w_S)) (by rw [e88]; exact Ar89.1) (State.isArrayOf_alike hZ.alike Ar89.2.1) rfl Ar89.2.2 hin89 hat89 (g := (mkF m 19 #[.val (.ref a1), .val (.ref a2), .val (.ref w_WF), .val (.int (5 : Int32)), .val (.int (2 : Int32)), .val (.ref w_IX)] [(.int (2 : Int32)), (.ref w_WF)])) rfl rfl (hb hby d2_19) _ k) ?_
        show Go p e below (T88.setTop (mkF m 20 #[.val (.ref a1), .val (.ref a2), .val (.ref w_WF), .val (.int (5 : Int32)), .val (.int (2 : Int32)), .val (.ref w_IX)] [(.ref w_S)])) _
        refine g_astore X88 hx #[.val (.ref a1), .val (.ref a2), .val (.ref w_WF), .val (.int (5 : Int32)), .val (.int (2 : Int32)), .val (.ref w_S)] (hb hby d2_20) rfl rfl ?_
        refine g_aload X88 hx (hb hby d2_22) rfl rfl ?_
        refine g_aloadN X88 hx (hb hby d2_24) rfl rfl ?_
        show Go p e below (T88.setTop (mkF m 25 #[.val (.ref a1), .val (.ref a2), .val (.ref w_WF), .val (.int (5 : Int32)), .val (.int (2 : Int32)), .val (.ref w_S)] [(.ref a1), (.ref w_S)])) _
        by_cases c25_90 : ((5 : Int32) &&& (u1 ^^^ (-1 : Int32))) = (0 : Int32)
        · obtain ⟨v91, T91, L91, X91, q91, st91⟩ := own_callV X88 hx hZ (y := (⟨"com/example/wombat/wombat/LockMode", "covers", "(Lcom/example/wombat/wombat/LockMode;)Z"⟩ : MethodName)) (pc := 25) (Ls := #[.val (.ref a1), .val (.ref a2), .val (.ref w_WF), .val (.int (5 : Int32)), .val (.int (2 : Int32)), .val (.ref w_S)]) (st := [(.ref a1), (.ref w_S)]) hown (hw _ (List.mem_of_getElem? (i := 17) rfl)) (hw _ (List.mem_of_getElem? (i := 18) rfl)) (hw _ (List.mem_of_getElem? (i := 20) rfl)) (hw _ (List.mem_of_getElem? (i := 19) rfl)) (hw _ (List.mem_of_getElem? (i := 21) rfl)) (hw _ (List.mem_of_getElem? (i := 6) rfl)) (by decide) (rm_covers l Z a0 hw w_S a1 (5 : Int32) u1 h0 n0 Z0 F_w_S_compatible F_a1_compatible) e88 E_w_S pd_0 (hb hby d2_25) (by rw [hml]; rfl) (argsL := [(.ref a1)]) (rest := []) rfl rfl rfl (W := 0) (Nat.le_of_eq rfl) (by decide) (by decide) (by decide) (by decide)
          obtain ⟨rfl, M91, e91⟩ := q91
          have N91 := Fr.app N88 M91
          have r91 : (f_covers w_S a1 (5 : Int32) u1) = (1 : Int32) := by rw [f_covers, if_pos (c25_90 : ((5 : Int32) &&& (u1 ^^^ (-1 : Int32))) = (0 : Int32))]
          rw [r91] at st91
          refine Go.mp st91 ?_
          show Go p e below (T91.setTop (mkF m 28 #[.val (.ref a1), .val (.ref a2), .val (.ref w_WF), .val (.int (5 : Int32)), .val (.int (2 : Int32)), .val (.ref w_S)] [(.int (1 : Int32))])) _
          refine g_ifNo X91 hx (hb hby d2_28) ((if0 _ _).trans (feq ((by decide) : ¬ ((1 : Int32) = (0 : Int32)))).1) ?_
          refine g_aload X91 hx (hb hby d2_31) rfl rfl ?_
          refine g_aloadN X91 hx (hb hby d2_33) rfl rfl ?_
          show Go p e below (T91.setTop (mkF m 34 #[.val (.ref a1), .val (.ref a2), .val (.ref w_WF), .val (.int (5 : Int32)), .val (.int (2 : Int32)), .val (.ref w_S)] [(.ref a2), (.ref w_S)])) _
          by_cases c34_92 : ((5 : Int32) &&& (u2 ^^^ (-1 : Int32))) = (0 : Int32)
          · obtain ⟨v93, T93, L93, X93, q93, st93⟩ := own_callV X91 hx hZ (y := (⟨"com/example/wombat/wombat/LockMode", "covers", "(Lcom/example/wombat/wombat/LockMode;)Z"⟩ : MethodName)) (pc := 34) (Ls := #[.val (.ref a1), .val (.ref a2), .val (.ref w_WF), .val (.int (5 : Int32)), .val (.int (2 : Int32)), .val (.ref w_S)]) (st := [(.ref a2), (.ref w_S)]) hown (hw _ (List.mem_of_getElem? (i := 17) rfl)) (hw _ (List.mem_of_getElem? (i := 18) rfl)) (hw _ (List.mem_of_getElem? (i := 20) rfl)) (hw _ (List.mem_of_getElem? (i := 19) rfl)) (hw _ (List.mem_of_getElem? (i := 21) rfl)) (hw _ (List.mem_of_getElem? (i := 6) rfl)) (by decide) (rm_covers l Z a0 hw w_S a2 (5 : Int32) u2 h0 n0 Z0 F_w_S_compatible F_a2_compatible) e91 E_w_S pd_0 (hb hby d2_34) (by rw [hml]; rfl) (argsL := [(.ref a2)]) (rest := []) rfl rfl rfl (W := 0) (Nat.le_of_eq rfl) (by decide) (by decide) (by decide) (by decide)
            obtain ⟨rfl, M93, e93⟩ := q93
            have N93 := Fr.app N91 M93
            have r93 : (f_covers w_S a2 (5 : Int32) u2) = (1 : Int32) := by rw [f_covers, if_pos (c34_92 : ((5 : Int32) &&& (u2 ^^^ (-1 : Int32))) = (0 : Int32))]
            rw [r93] at st93
            refine Go.mp st93 ?_
            show Go p e below (T93.setTop (mkF m 37 #[.val (.ref a1), .val (.ref a2), .val (.ref w_WF), .val (.int (5 : Int32)), .val (.int (2 : Int32)), .val (.ref w_S)] [(.int (1 : Int32))])) _
            refine g_ifNo X93 hx (hb hby d2_37) ((if0 _ _).trans (feq ((by decide) : ¬ ((1 : Int32) = (0 : Int32)))).1) ?_
            refine g_aload X93 hx (hb hby d2_40) rfl rfl ?_
            exact own_retA X93 hx hret hlk rfl rfl (hb hby d2_42) (by decide) (by decide) ⟨by rw [f_combinedWith, if_neg c25_4, if_pos c25_84, if_neg c34_86, if_pos c25_90, if_pos c34_92], N93, e93⟩
          · obtain ⟨v94, T94, L94, X94, q94, st94⟩ := own_callV X91 hx hZ (y := (⟨"com/example/wombat/wombat/LockMode", "covers", "(Lcom/example/wombat/wombat/LockMode;)Z"⟩ : MethodName)) (pc := 34) (Ls := #[.val (.ref a1), .val (.ref a2), .val (.ref w_WF), .val (.int (5 : Int32)), .val (.int (2 : Int32)), .val (.ref w_S)]) (st := [(.ref a2), (.ref w_S)]) hown (hw _ (List.mem_of_getElem? (i := 17) rfl)) (hw _ (List.mem_of_getElem? (i := 18) rfl)) (hw _ (List.mem_of_getElem? (i := 20) rfl)) (hw _ (List.mem_of_getElem? (i := 19) rfl)) (hw _ (List.mem_of_getElem? (i := 21) rfl)) (hw _ (List.mem_of_getElem? (i := 6) rfl)) (by decide) (rm_covers l Z a0 hw w_S a2 (5 : Int32) u2 h0 n0 Z0 F_w_S_compatible F_a2_compatible) e91 E_w_S pd_0 (hb hby d2_34) (by rw [hml]; rfl) (argsL := [(.ref a2)]) (rest := []) rfl rfl rfl (W := 0) (Nat.le_of_eq rfl) (by decide) (by decide) (by decide) (by decide)
            obtain ⟨rfl, M94, e94⟩ := q94
            have N94 := Fr.app N91 M94
            have r94 : (f_covers w_S a2 (5 : Int32) u2) = (0 : Int32) := by rw [f_covers, if_neg (c34_92 : ¬ (((5 : Int32) &&& (u2 ^^^ (-1 : Int32))) = (0 : Int32)))]
            rw [r94] at st94
            refine Go.mp st94 ?_
            show Go p e below (T94.setTop (mkF m 37 #[.val (.ref a1), .val (.ref a2), .val (.ref w_WF), .val (.int (5 : Int32)), .val (.int (2 : Int32)), .val (.ref w_S)] [(.int (0 : Int32))])) _
            refine g_ifYes X94 hx 43 (hb hby d2_37) ((if0 _ _).trans (teq ((by decide) : (0 : Int32) = (0 : Int32))).1) (by decide) (by decide) ?_
            refine Go.mp (fun _ k => XS.iinc X94.here hx rfl (hb hby d2_43) rfl (l' := #[.val (.ref a1), .val (.ref a2), .val (.ref w_WF), .val (.int (5 : Int32)), .val (.int ((2 : Int32) + (1 : Int32))), .val (.ref w_S)]) rfl k) ?_
            show Go p e below (T94.setTop (mkF m 46 #[.val (.ref a1), .val (.ref a2), .val (.ref w_WF), .val (.int (5 : Int32)), .val (.int ((2 : Int32) + (1 : Int32))), .val (.ref w_S)] [])) _
            rw [show ((2 : Int32) + (1 : Int32)) = (3 : Int32) from by decide]
            show Go p e below (T94.setTop (mkF m 46 #[.val (.ref a1), .val (.ref a2), .val (.ref w_WF), .val (.int (5 : Int32)), .val (.int (3 : Int32)), .val (.ref w_S)] [])) _
            refine g_goto X94 hx 10 (hb hby d2_46) (by decide) (by decide) ?_
            refine g_iload X94 hx (hb hby d2_10) rfl ?_
            refine g_iloadN X94 hx (hb hby d2_12) rfl ?_
            refine g_icmpNo X94 hx (hb hby d2_13) (tlt ((by decide) : (3 : Int32) < (5 : Int32))).2.1 ?_
            refine g_aloadN X94 hx (hb hby d2_16) rfl rfl ?_
            refine g_iload X94 hx (hb hby d2_17) rfl ?_
            obtain ⟨cl95, Ar95, -, sz95, -, Ha95, -⟩ := id V_w_WF
            have hin95 : ¬ ((3 : Int32) < 0 ∨ cl95.slots.size ≤ (3 : Int32).toNatClampNeg) := by rw [sz95]; decide
            have hat95 : cl95.slots[(3 : Int32).toNatClampNeg]? = some (.ref w_SIX) := Ha95 3 (by rw [sz95]; decide)
            refine Go.mp (fun _ k => X94.aaload hx (j := 3) (v := (.ref w_SIX)) (by rw [e94]; exact Ar95.1) (State.isArrayOf_alike hZ.alike Ar95.2.1) rfl Ar95.2.2 hin95 hat95 (g := (mkF m 19 #[.val (.ref a1), .val (.ref a2), .val (.ref w_WF), .val (.int (5 : Int32)), .val (.int (3 : Int32)), .val (.ref w_S)] [(.int (3 : Int32)), (.ref w_WF)])) rfl rfl (hb hby d2_19) _ k) ?_
            show Go p e below (T94.setTop (mkF m 20 #[.val (.ref a1), .val (.ref a2), .val (.ref w_WF), .val (.int (5 : Int32)), .val (.int (3 : Int32)), .val (.ref w_S)] [(.ref w_SIX)])) _
            refine g_astore X94 hx #[.val (.ref a1), .val (.ref a2), .val (.ref w_WF), .val (.int (5 : Int32)), .val (.int (3 : Int32)), .val (.ref w_SIX)] (hb hby d2_20) rfl rfl ?_
            refine g_aload X94 hx (hb hby d2_22) rfl rfl ?_
            refine g_aloadN X94 hx (hb hby d2_24) rfl rfl ?_
            show Go p e below (T94.setTop (mkF m 25 #[.val (.ref a1), .val (.ref a2), .val (.ref w_WF), .val (.int (5 : Int32)), .val (.int (3 : Int32)), .val (.ref w_SIX)] [(.ref a1), (.ref w_SIX)])) _
            by_cases c25_96 : ((1 : Int32) &&& (u1 ^^^ (-1 : Int32))) = (0 : Int32)
            · obtain ⟨v97, T97, L97, X97, q97, st97⟩ := own_callV X94 hx hZ (y := (⟨"com/example/wombat/wombat/LockMode", "covers", "(Lcom/example/wombat/wombat/LockMode;)Z"⟩ : MethodName)) (pc := 25) (Ls := #[.val (.ref a1), .val (.ref a2), .val (.ref w_WF), .val (.int (5 : Int32)), .val (.int (3 : Int32)), .val (.ref w_SIX)]) (st := [(.ref a1), (.ref w_SIX)]) hown (hw _ (List.mem_of_getElem? (i := 17) rfl)) (hw _ (List.mem_of_getElem? (i := 18) rfl)) (hw _ (List.mem_of_getElem? (i := 20) rfl)) (hw _ (List.mem_of_getElem? (i := 19) rfl)) (hw _ (List.mem_of_getElem? (i := 21) rfl)) (hw _ (List.mem_of_getElem? (i := 6) rfl)) (by decide) (rm_covers l Z a0 hw w_SIX a1 (1 : Int32) u1 h0 n0 Z0 F_w_SIX_compatible F_a1_compatible) e94 E_w_SIX pd_0 (hb hby d2_25) (by rw [hml]; rfl) (argsL := [(.ref a1)]) (rest := []) rfl rfl rfl (W := 0) (Nat.le_of_eq rfl) (by decide) (by decide) (by decide) (by decide)
              obtain ⟨rfl, M97, e97⟩ := q97
              have N97 := Fr.app N94 M97
              have r97 : (f_covers w_SIX a1 (1 : Int32) u1) = (1 : Int32) := by rw [f_covers, if_pos (c25_96 : ((1 : Int32) &&& (u1 ^^^ (-1 : Int32))) = (0 : Int32))]
              rw [r97] at st97
              refine Go.mp st97 ?_
              show Go p e below (T97.setTop (mkF m 28 #[.val (.ref a1), .val (.ref a2), .val (.ref w_WF), .val (.int (5 : Int32)), .val (.int (3 : Int32)), .val (.ref w_SIX)] [(.int (1 : Int32))])) _
              refine g_ifNo X97 hx (hb hby d2_28) ((if0 _ _).trans (feq ((by decide) : ¬ ((1 : Int32) = (0 : Int32)))).1) ?_
              refine g_aload X97 hx (hb hby d2_31) rfl rfl ?_
              refine g_aloadN X97 hx (hb hby d2_33) rfl rfl ?_
              show Go p e below (T97.setTop (mkF m 34 #[.val (.ref a1), .val (.ref a2), .val (.ref w_WF), .val (.int (5 : Int32)), .val (.int (3 : Int32)), .val (.ref w_SIX)] [(.ref a2), (.ref w_SIX)])) _
              by_cases c34_98 : ((1 : Int32) &&& (u2 ^^^ (-1 : Int32))) = (0 : Int32)
              · obtain ⟨v99, T99, L99, X99, q99, st99⟩ := own_callV X97 hx hZ (y := (⟨"com/example/wombat/wombat/LockMode", "covers", "(Lcom/example/wombat/wombat/LockMode;)Z"⟩ : MethodName)) (pc := 34) (Ls := #[.val (.ref a1), .val (.ref a2), .val (.ref w_WF), .val (.int (5 : Int32)), .val (.int (3 : Int32)), .val (.ref w_SIX)]) (st := [(.ref a2), (.ref w_SIX)]) hown (hw _ (List.mem_of_getElem? (i := 17) rfl)) (hw _ (List.mem_of_getElem? (i := 18) rfl)) (hw _ (List.mem_of_getElem? (i := 20) rfl)) (hw _ (List.mem_of_getElem? (i := 19) rfl)) (hw _ (List.mem_of_getElem? (i := 21) rfl)) (hw _ (List.mem_of_getElem? (i := 6) rfl)) (by decide) (rm_covers l Z a0 hw w_SIX a2 (1 : Int32) u2 h0 n0 Z0 F_w_SIX_compatible F_a2_compatible) e97 E_w_SIX pd_0 (hb hby d2_34) (by rw [hml]; rfl) (argsL := [(.ref a2)]) (rest := []) rfl rfl rfl (W := 0) (Nat.le_of_eq rfl) (by decide) (by decide) (by decide) (by decide)
                obtain ⟨rfl, M99, e99⟩ := q99
                have N99 := Fr.app N97 M99
                have r99 : (f_covers w_SIX a2 (1 : Int32) u2) = (1 : Int32) := by rw [f_covers, if_pos (c34_98 : ((1 : Int32) &&& (u2 ^^^ (-1 : Int32))) = (0 : Int32))]
                rw [r99] at st99
                refine Go.mp st99 ?_
                show Go p e below (T99.setTop (mkF m 37 #[.val (.ref a1), .val (.ref a2), .val (.ref w_WF), .val (.int (5 : Int32)), .val (.int (3 : Int32)), .val (.ref w_SIX)] [(.int (1 : Int32))])) _
                refine g_ifNo X99 hx (hb hby d2_37) ((if0 _ _).trans (feq ((by decide) : ¬ ((1 : Int32) = (0 : Int32)))).1) ?_
                refine g_aload X99 hx (hb hby d2_40) rfl rfl ?_
                exact own_retA X99 hx hret hlk rfl rfl (hb hby d2_42) (by decide) (by decide) ⟨by rw [f_combinedWith, if_neg c25_4, if_pos c25_84, if_neg c34_86, if_pos c25_90, if_neg c34_92, if_pos c25_96, if_pos c34_98], N99, e99⟩
              · obtain ⟨v100, T100, L100, X100, q100, st100⟩ := own_callV X97 hx hZ (y := (⟨"com/example/wombat/wombat/LockMode", "covers", "(Lcom/example/wombat/wombat/LockMode;)Z"⟩ : MethodName)) (pc := 34) (Ls := #[.val (.ref a1), .val (.ref a2), .val (.ref w_WF), .val (.int (5 : Int32)), .val (.int (3 : Int32)), .val (.ref w_SIX)]) (st := [(.ref a2), (.ref w_SIX)]) hown (hw _ (List.mem_of_getElem? (i := 17) rfl)) (hw _ (List.mem_of_getElem? (i := 18) rfl)) (hw _ (List.mem_of_getElem? (i := 20) rfl)) (hw _ (List.mem_of_getElem? (i := 19) rfl)) (hw _ (List.mem_of_getElem? (i := 21) rfl)) (hw _ (List.mem_of_getElem? (i := 6) rfl)) (by decide) (rm_covers l Z a0 hw w_SIX a2 (1 : Int32) u2 h0 n0 Z0 F_w_SIX_compatible F_a2_compatible) e97 E_w_SIX pd_0 (hb hby d2_34) (by rw [hml]; rfl) (argsL := [(.ref a2)]) (rest := []) rfl rfl rfl (W := 0) (Nat.le_of_eq rfl) (by decide) (by decide) (by decide) (by decide)
                obtain ⟨rfl, M100, e100⟩ := q100
                have N100 := Fr.app N97 M100
                have r100 : (f_covers w_SIX a2 (1 : Int32) u2) = (0 : Int32) := by rw [f_covers, if_neg (c34_98 : ¬ (((1 : Int32) &&& (u2 ^^^ (-1 : Int32))) = (0 : Int32)))]
                rw [r100] at st100
                refine Go.mp st100 ?_
                show Go p e below (T100.setTop (mkF m 37 #[.val (.ref a1), .val (.ref a2), .val (.ref w_WF), .val (.int (5 : Int32)), .val (.int (3 : Int32)), .val (.ref w_SIX)] [(.int (0 : Int32))])) _
                refine g_ifYes X100 hx 43 (hb hby d2_37) ((if0 _ _).trans (teq ((by decide) : (0 : Int32) = (0 : Int32))).1) (by decide) (by decide) ?_
                refine Go.mp (fun _ k => XS.iinc X100.here hx rfl (hb hby d2_43) rfl (l' := #[.val (.ref a1), .val (.ref a2), .val (.ref w_WF), .val (.int (5 : Int32)), .val (.int ((3 : Int32) + (1 : Int32))), .val (.ref w_SIX)]) rfl k) ?_
                show Go p e below (T100.setTop (mkF m 46 #[.val (.ref a1), .val (.ref a2), .val (.ref w_WF), .val (.int (5 : Int32)), .val (.int ((3 : Int32) + (1 : Int32))), .val (.ref w_SIX)] [])) _
                rw [show ((3 : Int32) + (1 : Int32)) = (4 : Int32) from by decide]
                show Go p e below (T100.setTop (mkF m 46 #[.val (.ref a1), .val (.ref a2), .val (.ref w_WF), .val (.int (5 : Int32)), .val (.int (4 : Int32)), .val (.ref w_SIX)] [])) _
                refine g_goto X100 hx 10 (hb hby d2_46) (by decide) (by decide) ?_
                refine g_iload X100 hx (hb hby d2_10) rfl ?_
                refine g_iloadN X100 hx (hb hby d2_12) rfl ?_
                refine g_icmpNo X100 hx (hb hby d2_13) (tlt ((by decide) : (4 : Int32) < (5 : Int32))).2.1 ?_
                refine g_aloadN X100 hx (hb hby d2_16) rfl rfl ?_
                refine g_iload X100 hx (hb hby d2_17) rfl ?_
                obtain ⟨cl101, Ar101, -, sz101, -, Ha101, -⟩ := id V_w_WF
                have hin101 : ¬ ((4 : Int32) < 0 ∨ cl101.slots.size ≤ (4 : Int32).toNatClampNeg) := by rw [sz101]; decide
                have hat101 : cl101.slots[(4 : Int32).toNatClampNeg]? = some (.ref w_X) := Ha101 4 (by rw [sz101]; decide)
                refine Go.mp (fun _ k => X100.aaload hx (j := 4) (v := (.ref w_X)) (by rw [e100]; exact Ar101.1) (State.isArrayOf_alike hZ.alike Ar101.2.1) rfl Ar101.2.2 hin101 hat101 (g := (mkF m 19 #[.val (.ref a1), .val (.ref a2), .val (.ref w_WF), .val (.int (5 : Int32)), .val (.int (4 : Int32)), .val (.ref w_SIX)] [(.int (4 : Int32)), (.ref w_WF)])) rfl rfl (hb hby d2_19) _ k) ?_
                show Go p e below (T100.setTop (mkF m 20 #[.val (.ref a1), .val (.ref a2), .val (.ref w_WF), .val (.int (5 : Int32)), .val (.int (4 : Int32)), .val (.ref w_SIX)] [(.ref w_X)])) _
                refine g_astore X100 hx #[.val (.ref a1), .val (.ref a2), .val (.ref w_WF), .val (.int (5 : Int32)), .val (.int (4 : Int32)), .val (.ref w_X)] (hb hby d2_20) rfl rfl ?_
                refine g_aload X100 hx (hb hby d2_22) rfl rfl ?_
                refine g_aloadN X100 hx (hb hby d2_24) rfl rfl ?_
                show Go p e below (T100.setTop (mkF m 25 #[.val (.ref a1), .val (.ref a2), .val (.ref w_WF), .val (.int (5 : Int32)), .val (.int (4 : Int32)), .val (.ref w_X)] [(.ref a1), (.ref w_X)])) _
                obtain ⟨v102, T102, L102, X102, q102, st102⟩ := own_callV X100 hx hZ (y := (⟨"com/example/wombat/wombat/LockMode", "covers", "(Lcom/example/wombat/wombat/LockMode;)Z"⟩ : MethodName)) (pc := 25) (Ls := #[.val (.ref a1), .val (.ref a2), .val (.ref w_WF), .val (.int (5 : Int32)), .val (.int (4 : Int32)), .val (.ref w_X)]) (st := [(.ref a1), (.ref w_X)]) hown (hw _ (List.mem_of_getElem? (i := 17) rfl)) (hw _ (List.mem_of_getElem? (i := 18) rfl)) (hw _ (List.mem_of_getElem? (i := 20) rfl)) (hw _ (List.mem_of_getElem? (i := 19) rfl)) (hw _ (List.mem_of_getElem? (i := 21) rfl)) (hw _ (List.mem_of_getElem? (i := 6) rfl)) (by decide) (rm_covers l Z a0 hw w_X a1 (0 : Int32) u1 h0 n0 Z0 F_w_X_compatible F_a1_compatible) e100 E_w_X pd_0 (hb hby d2_25) (by rw [hml]; rfl) (argsL := [(.ref a1)]) (rest := []) rfl rfl rfl (W := 0) (Nat.le_of_eq rfl) (by decide) (by decide) (by decide) (by decide)
                obtain ⟨rfl, M102, e102⟩ := q102
                have N102 := Fr.app N100 M102
                have r102 : (f_covers w_X a1 (0 : Int32) u1) = (1 : Int32) := by rw [f_covers, if_pos ((own_zand _) : ((0 : Int32) &&& (u1 ^^^ (-1 : Int32))) = (0 : Int32))]
                rw [r102] at st102
                refine Go.mp st102 ?_
                show Go p e below (T102.setTop (mkF m 28 #[.val (.ref a1), .val (.ref a2), .val (.ref w_WF), .val (.int (5 : Int32)), .val (.int (4 : Int32)), .val (.ref w_X)] [(.int (1 : Int32))])) _
                refine g_ifNo X102 hx (hb hby d2_28) ((if0 _ _).trans (feq ((by decide) : ¬ ((1 : Int32) = (0 : Int32)))).1) ?_
                refine g_aload X102 hx (hb hby d2_31) rfl rfl ?_
                refine g_aloadN X102 hx (hb hby d2_33) rfl rfl ?_
                show Go p e below (T102.setTop (mkF m 34 #[.val (.ref a1), .val (.ref a2), .val (.ref w_WF), .val (.int (5 : Int32)), .val (.int (4 : Int32)), .val (.ref w_X)] [(.ref a2), (.ref w_X)])) _
                obtain ⟨v103, T103, L103, X103, q103, st103⟩ := own_callV X102 hx hZ (y := (⟨"com/example/wombat/wombat/LockMode", "covers", "(Lcom/example/wombat/wombat/LockMode;)Z"⟩ : MethodName)) (pc := 34) (Ls := #[.val (.ref a1), .val (.ref a2), .val (.ref w_WF), .val (.int (5 : Int32)), .val (.int (4 : Int32)), .val (.ref w_X)]) (st := [(.ref a2), (.ref w_X)]) hown (hw _ (List.mem_of_getElem? (i := 17) rfl)) (hw _ (List.mem_of_getElem? (i := 18) rfl)) (hw _ (List.mem_of_getElem? (i := 20) rfl)) (hw _ (List.mem_of_getElem? (i := 19) rfl)) (hw _ (List.mem_of_getElem? (i := 21) rfl)) (hw _ (List.mem_of_getElem? (i := 6) rfl)) (by decide) (rm_covers l Z a0 hw w_X a2 (0 : Int32) u2 h0 n0 Z0 F_w_X_compatible F_a2_compatible) e102 E_w_X pd_0 (hb hby d2_34) (by rw [hml]; rfl) (argsL := [(.ref a2)]) (rest := []) rfl rfl rfl (W := 0) (Nat.le_of_eq rfl) (by decide) (by decide) (by decide) (by decide)
                obtain ⟨rfl, M103, e103⟩ := q103
                have N103 := Fr.app N102 M103
                have r103 : (f_covers w_X a2 (0 : Int32) u2) = (1 : Int32) := by rw [f_covers, if_pos ((own_zand _) : ((0 : Int32) &&& (u2 ^^^ (-1 : Int32))) = (0 : Int32))]
                rw [r103] at st103
                refine Go.mp st103 ?_
                show Go p e below (T103.setTop (mkF m 37 #[.val (.ref a1), .val (.ref a2), .val (.ref w_WF), .val (.int (5 : Int32)), .val (.int (4 : Int32)), .val (.ref w_X)] [(.int (1 : Int32))])) _
                refine g_ifNo X103 hx (hb hby d2_37) ((if0 _ _).trans (feq ((by decide) : ¬ ((1 : Int32) = (0 : Int32)))).1) ?_
                refine g_aload X103 hx (hb hby d2_40) rfl rfl ?_
                exact own_retA X103 hx hret hlk rfl rfl (hb hby d2_42) (by decide) (by decide) ⟨by rw [f_combinedWith, if_neg c25_4, if_pos c25_84, if_neg c34_86, if_pos c25_90, if_neg c34_92, if_pos c25_96, if_neg c34_98], N103, e103⟩
            · obtain ⟨v104, T104, L104, X104, q104, st104⟩ := own_callV X94 hx hZ (y := (⟨"com/example/wombat/wombat/LockMode", "covers", "(Lcom/example/wombat/wombat/LockMode;)Z"⟩ : MethodName)) (pc := 25) (Ls := #[.val (.ref a1), .val (.ref a2), .val (.ref w_WF), .val (.int (5 : Int32)), .val (.int (3 : Int32)), .val (.ref w_SIX)]) (st := [(.ref a1), (.ref w_SIX)]) hown (hw _ (List.mem_of_getElem? (i := 17) rfl)) (hw _ (List.mem_of_getElem? (i := 18) rfl)) (hw _ (List.mem_of_getElem? (i := 20) rfl)) (hw _ (List.mem_of_getElem? (i := 19) rfl)) (hw _ (List.mem_of_getElem? (i := 21) rfl)) (hw _ (List.mem_of_getElem? (i := 6) rfl)) (by decide) (rm_covers l Z a0 hw w_SIX a1 (1 : Int32) u1 h0 n0 Z0 F_w_SIX_compatible F_a1_compatible) e94 E_w_SIX pd_0 (hb hby d2_25) (by rw [hml]; rfl) (argsL := [(.ref a1)]) (rest := []) rfl rfl rfl (W := 0) (Nat.le_of_eq rfl) (by decide) (by decide) (by decide) (by decide)
              obtain ⟨rfl, M104, e104⟩ := q104
              have N104 := Fr.app N94 M104
              have r104 : (f_covers w_SIX a1 (1 : Int32) u1) = (0 : Int32) := by rw [f_covers, if_neg (c25_96 : ¬ (((1 : Int32) &&& (u1 ^^^ (-1 : Int32))) = (0 : Int32)))]
              rw [r104] at st104
              refine Go.mp st104 ?_
              show Go p e below (T104.setTop (mkF m 28 #[.val (.ref a1), .val (.ref a2), .val (.ref w_WF), .val (.int (5 : Int32)), .val (.int (3 : Int32)), .val (.ref w_SIX)] [(.int (0 : Int32))])) _
              refine g_ifYes X104 hx 43 (hb hby d2_28) ((if0 _ _).trans (teq ((by decide) : (0 : Int32) = (0 : Int32))).1) (by decide) (by decide) ?_
              refine Go.mp (fun _ k => XS.iinc X104.here hx rfl (hb hby d2_43) rfl (l' := #[.val (.ref a1), .val (.ref a2), .val (.ref w_WF), .val (.int (5 : Int32)), .val (.int ((3 : Int32) + (1 : Int32))), .val (.ref w_SIX)]) rfl k) ?_
              show Go p e below (T104.setTop (mkF m 46 #[.val (.ref a1), .val (.ref a2), .val (.ref w_WF), .val (.int (5 : Int32)), .val (.int ((3 : Int32) + (1 : Int32))), .val (.ref w_SIX)] [])) _
              rw [show ((3 : Int32) + (1 : Int32)) = (4 : Int32) from by decide]
              show Go p e below (T104.setTop (mkF m 46 #[.val (.ref a1), .val (.ref a2), .val (.ref w_WF), .val (.int (5 : Int32)), .val (.int (4 : Int32)), .val (.ref w_SIX)] [])) _
              refine g_goto X104 hx 10 (hb hby d2_46) (by decide) (by decide) ?_
              refine g_iload X104 hx (hb hby d2_10) rfl ?_
              refine g_iloadN X104 hx (hb hby d2_12) rfl ?_
              refine g_icmpNo X104 hx (hb hby d2_13) (tlt ((by decide) : (4 : Int32) < (5 : Int32))).2.1 ?_
              refine g_aloadN X104 hx (hb hby d2_16) rfl rfl ?_
              refine g_iload X104 hx (hb hby d2_17) rfl ?_
              obtain ⟨cl105, Ar105, -, sz105, -, Ha105, -⟩ := id V_w_WF
              have hin105 : ¬ ((4 : Int32) < 0 ∨ cl105.slots.size ≤ (4 : Int32).toNatClampNeg) := by rw [sz105]; decide
              have hat105 : cl105.slots[(4 : Int32).toNatClampNeg]? = some (.ref w_X) := Ha105 4 (by rw [sz105]; decide)
              refine Go.mp (fun _ k => X104.aaload hx (j := 4) (v := (.ref w_X)) (by rw [e104]; exact Ar105.1) (State.isArrayOf_alike hZ.alike Ar105.2.1) rfl Ar105.2.2 hin105 hat105 (g := (mkF m 19 #[.val (.ref a1), .val (.ref a2), .val (.ref w_WF), .val (.int (5 : Int32)), .val (.int (4 : Int32)), .val (.ref w_SIX)] [(.int (4 : Int32)), (.ref w_WF)])) rfl rfl (hb hby d2_19) _ k) ?_
              show Go p e below (T104.setTop (mkF m 20 #[.val (.ref a1), .val (.ref a2), .val (.ref w_WF), .val (.int (5 : Int32)), .val (.int (4 : Int32)), .val (.ref w_SIX)] [(.ref w_X)])) _
              refine g_astore X104 hx #[.val (.ref a1), .val (.ref a2), .val (.ref w_WF), .val (.int (5 : Int32)), .val (.int (4 : Int32)), .val (.ref w_X)] (hb hby d2_20) rfl rfl ?_
              refine g_aload X104 hx (hb hby d2_22) rfl rfl ?_
              refine g_aloadN X104 hx (hb hby d2_24) rfl rfl ?_
              show Go p e below (T104.setTop (mkF m 25 #[.val (.ref a1), .val (.ref a2), .val (.ref w_WF), .val (.int (5 : Int32)), .val (.int (4 : Int32)), .val (.ref w_X)] [(.ref a1), (.ref w_X)])) _
              obtain ⟨v106, T106, L106, X106, q106, st106⟩ := own_callV X104 hx hZ (y := (⟨"com/example/wombat/wombat/LockMode", "covers", "(Lcom/example/wombat/wombat/LockMode;)Z"⟩ : MethodName)) (pc := 25) (Ls := #[.val (.ref a1), .val (.ref a2), .val (.ref w_WF), .val (.int (5 : Int32)), .val (.int (4 : Int32)), .val (.ref w_X)]) (st := [(.ref a1), (.ref w_X)]) hown (hw _ (List.mem_of_getElem? (i := 17) rfl)) (hw _ (List.mem_of_getElem? (i := 18) rfl)) (hw _ (List.mem_of_getElem? (i := 20) rfl)) (hw _ (List.mem_of_getElem? (i := 19) rfl)) (hw _ (List.mem_of_getElem? (i := 21) rfl)) (hw _ (List.mem_of_getElem? (i := 6) rfl)) (by decide) (rm_covers l Z a0 hw w_X a1 (0 : Int32) u1 h0 n0 Z0 F_w_X_compatible F_a1_compatible) e104 E_w_X pd_0 (hb hby d2_25) (by rw [hml]; rfl) (argsL := [(.ref a1)]) (rest := []) rfl rfl rfl (W := 0) (Nat.le_of_eq rfl) (by decide) (by decide) (by decide) (by decide)
              obtain ⟨rfl, M106, e106⟩ := q106
              have N106 := Fr.app N104 M106
              have r106 : (f_covers w_X a1 (0 : Int32) u1) = (1 : Int32) := by rw [f_covers, if_pos ((own_zand _) : ((0 : Int32) &&& (u1 ^^^ (-1 : Int32))) = (0 : Int32))]
              rw [r106] at st106
              refine Go.mp st106 ?_
              show Go p e below (T106.setTop (mkF m 28 #[.val (.ref a1), .val (.ref a2), .val (.ref w_WF), .val (.int (5 : Int32)), .val (.int (4 : Int32)), .val (.ref w_X)] [(.int (1 : Int32))])) _
              refine g_ifNo X106 hx (hb hby d2_28) ((if0 _ _).trans (feq ((by decide) : ¬ ((1 : Int32) = (0 : Int32)))).1) ?_
              refine g_aload X106 hx (hb hby d2_31) rfl rfl ?_
              refine g_aloadN X106 hx (hb hby d2_33) rfl rfl ?_
              show Go p e below (T106.setTop (mkF m 34 #[.val (.ref a1), .val (.ref a2), .val (.ref w_WF), .val (.int (5 : Int32)), .val (.int (4 : Int32)), .val (.ref w_X)] [(.ref a2), (.ref w_X)])) _
              obtain ⟨v107, T107, L107, X107, q107, st107⟩ := own_callV X106 hx hZ (y := (⟨"com/example/wombat/wombat/LockMode", "covers", "(Lcom/example/wombat/wombat/LockMode;)Z"⟩ : MethodName)) (pc := 34) (Ls := #[.val (.ref a1), .val (.ref a2), .val (.ref w_WF), .val (.int (5 : Int32)), .val (.int (4 : Int32)), .val (.ref w_X)]) (st := [(.ref a2), (.ref w_X)]) hown (hw _ (List.mem_of_getElem? (i := 17) rfl)) (hw _ (List.mem_of_getElem? (i := 18) rfl)) (hw _ (List.mem_of_getElem? (i := 20) rfl)) (hw _ (List.mem_of_getElem? (i := 19) rfl)) (hw _ (List.mem_of_getElem? (i := 21) rfl)) (hw _ (List.mem_of_getElem? (i := 6) rfl)) (by decide) (rm_covers l Z a0 hw w_X a2 (0 : Int32) u2 h0 n0 Z0 F_w_X_compatible F_a2_compatible) e106 E_w_X pd_0 (hb hby d2_34) (by rw [hml]; rfl) (argsL := [(.ref a2)]) (rest := []) rfl rfl rfl (W := 0) (Nat.le_of_eq rfl) (by decide) (by decide) (by decide) (by decide)
              obtain ⟨rfl, M107, e107⟩ := q107
              have N107 := Fr.app N106 M107
              have r107 : (f_covers w_X a2 (0 : Int32) u2) = (1 : Int32) := by rw [f_covers, if_pos ((own_zand _) : ((0 : Int32) &&& (u2 ^^^ (-1 : Int32))) = (0 : Int32))]
              rw [r107] at st107
              refine Go.mp st107 ?_
              show Go p e below (T107.setTop (mkF m 37 #[.val (.ref a1), .val (.ref a2), .val (.ref w_WF), .val (.int (5 : Int32)), .val (.int (4 : Int32)), .val (.ref w_X)] [(.int (1 : Int32))])) _
              refine g_ifNo X107 hx (hb hby d2_37) ((if0 _ _).trans (feq ((by decide) : ¬ ((1 : Int32) = (0 : Int32)))).1) ?_
              refine g_aload X107 hx (hb hby d2_40) rfl rfl ?_
              exact own_retA X107 hx hret hlk rfl rfl (hb hby d2_42) (by decide) (by decide) ⟨by rw [f_combinedWith, if_neg c25_4, if_pos c25_84, if_neg c34_86, if_pos c25_90, if_neg c34_92, if_neg c25_96], N107, e107⟩
        · obtain ⟨v108, T108, L108, X108, q108, st108⟩ := own_callV X88 hx hZ (y := (⟨"com/example/wombat/wombat/LockMode", "covers", "(Lcom/example/wombat/wombat/LockMode;)Z"⟩ : MethodName)) (pc := 25) (Ls := #[.val (.ref a1), .val (.ref a2), .val (.ref w_WF), .val (.int (5 : Int32)), .val (.int (2 : Int32)), .val (.ref w_S)]) (st := [(.ref a1), (.ref w_S)]) hown (hw _ (List.mem_of_getElem? (i := 17) rfl)) (hw _ (List.mem_of_getElem? (i := 18) rfl)) (hw _ (List.mem_of_getElem? (i := 20) rfl)) (hw _ (List.mem_of_getElem? (i := 19) rfl)) (hw _ (List.mem_of_getElem? (i := 21) rfl)) (hw _ (List.mem_of_getElem? (i := 6) rfl)) (by decide) (rm_covers l Z a0 hw w_S a1 (5 : Int32) u1 h0 n0 Z0 F_w_S_compatible F_a1_compatible) e88 E_w_S pd_0 (hb hby d2_25) (by rw [hml]; rfl) (argsL := [(.ref a1)]) (rest := []) rfl rfl rfl (W := 0) (Nat.le_of_eq rfl) (by decide) (by decide) (by decide) (by decide)
          obtain ⟨rfl, M108, e108⟩ := q108
          have N108 := Fr.app N88 M108
          have r108 : (f_covers w_S a1 (5 : Int32) u1) = (0 : Int32) := by rw [f_covers, if_neg (c25_90 : ¬ (((5 : Int32) &&& (u1 ^^^ (-1 : Int32))) = (0 : Int32)))]
          rw [r108] at st108
          refine Go.mp st108 ?_
          show Go p e below (T108.setTop (mkF m 28 #[.val (.ref a1), .val (.ref a2), .val (.ref w_WF), .val (.int (5 : Int32)), .val (.int (2 : Int32)), .val (.ref w_S)] [(.int (0 : Int32))])) _
          refine g_ifYes X108 hx 43 (hb hby d2_28) ((if0 _ _).trans (teq ((by decide) : (0 : Int32) = (0 : Int32))).1) (by decide) (by decide) ?_
          refine Go.mp (fun _ k => XS.iinc X108.here hx rfl (hb hby d2_43) rfl (l' := #[.val (.ref a1), .val (.ref a2), .val (.ref w_WF), .val (.int (5 : Int32)), .val (.int ((2 : Int32) + (1 : Int32))), .val (.ref w_S)]) rfl k) ?_
          show Go p e below (T108.setTop (mkF m 46 #[.val (.ref a1), .val (.ref a2), .val (.ref w_WF), .val (.int (5 : Int32)), .val (.int ((2 : Int32) + (1 : Int32))), .val (.ref w_S)] [])) _
          rw [show ((2 : Int32) + (1 : Int32)) = (3 : Int32) from by decide]
          show Go p e below (T108.setTop (mkF m 46 #[.val (.ref a1), .val (.ref a2), .val (.ref w_WF), .val (.int (5 : Int32)), .val (.int (3 : Int32)), .val (.ref w_S)] [])) _
          refine g_goto X108 hx 10 (hb hby d2_46) (by decide) (by decide) ?_
          refine g_iload X108 hx (hb hby d2_10) rfl ?_
          refine g_iloadN X108 hx (hb hby d2_12) rfl ?_
          refine g_icmpNo X108 hx (hb hby d2_13) (tlt ((by decide) : (3 : Int32) < (5 : Int32))).2.1 ?_
          refine g_aloadN X108 hx (hb hby d2_16) rfl rfl ?_
          refine g_iload X108 hx (hb hby d2_17) rfl ?_
          obtain ⟨cl109, Ar109, -, sz109, -, Ha109, -⟩ := id V_w_WF
          have hin109 : ¬ ((3 : Int32) < 0 ∨ cl109.slots.size ≤ (3 : Int32).toNatClampNeg) := by rw [sz109]; decide
          have hat109 : cl109.slots[(3 : Int32).toNatClampNeg]? = some (.ref w_SIX) := Ha109 3 (by rw [sz109]; decide)
          refine Go.mp (fun _ k => X108.aaload hx (j := 3) (v := (.ref w_SIX)) (by rw [e108]; exact Ar109.1) (State.isArrayOf_alike hZ.alike Ar109.2.1) rfl Ar109.2.2 hin109 hat109 (g := (mkF m 19 #[.val (.ref a1), .val (.ref a2), .val (.ref w_WF), .val (.int (5 : Int32)), .val (.int (3 : Int32)), .val (.ref w_S)] [(.int (3 : Int32)), (.ref w_WF)])) rfl rfl (hb hby d2_19) _ k) ?_
          show Go p e below (T108.setTop (mkF m 20 #[.val (.ref a1), .val (.ref a2), .val (.ref w_WF), .val (.int (5 : Int32)), .val (.int (3 : Int32)), .val (.ref w_S)] [(.ref w_SIX)])) _
          refine g_astore X108 hx #[.val (.ref a1), .val (.ref a2), .val (.ref w_WF), .val (.int (5 : Int32)), .val (.int (3 : Int32)), .val (.ref w_SIX)] (hb hby d2_20) rfl rfl ?_
          refine g_aload X108 hx (hb hby d2_22) rfl rfl ?_
          refine g_aloadN X108 hx (hb hby d2_24) rfl rfl ?_
          show Go p e below (T108.setTop (mkF m 25 #[.val (.ref a1), .val (.ref a2), .val (.ref w_WF), .val (.int (5 : Int32)), .val (.int (3 : Int32)), .val (.ref w_SIX)] [(.ref a1), (.ref w_SIX)])) _
          by_cases c25_110 : ((1 : Int32) &&& (u1 ^^^ (-1 : Int32))) = (0 : Int32)
          · obtain ⟨v111, T111, L111, X111, q111, st111⟩ := own_callV X108 hx hZ (y := (⟨"com/example/wombat/wombat/LockMode", "covers", "(Lcom/example/wombat/wombat/LockMode;)Z"⟩ : MethodName)) (pc := 25) (Ls := #[.val (.ref a1), .val (.ref a2), .val (.ref w_WF), .val (.int (5 : Int32)), .val (.int (3 : Int32)), .val (.ref w_SIX)]) (st := [(.ref a1), (.ref w_SIX)]) hown (hw _ (List.mem_of_getElem? (i := 17) rfl)) (hw _ (List.mem_of_getElem? (i := 18) rfl)) (hw _ (List.mem_of_getElem? (i := 20) rfl)) (hw _ (List.mem_of_getElem? (i := 19) rfl)) (hw _ (List.mem_of_getElem? (i := 21) rfl)) (hw _ (List.mem_of_getElem? (i := 6) rfl)) (by decide) (rm_covers l Z a0 hw w_SIX a1 (1 : Int32) u1 h0 n0 Z0 F_w_SIX_compatible F_a1_compatible) e108 E_w_SIX pd_0 (hb hby d2_25) (by rw [hml]; rfl) (argsL := [(.ref a1)]) (rest := []) rfl rfl rfl (W := 0) (Nat.le_of_eq rfl) (by decide) (by decide) (by decide) (by decide)
            obtain ⟨rfl, M111, e111⟩ := q111
            have N111 := Fr.app N108 M111
            have r111 : (f_covers w_SIX a1 (1 : Int32) u1) = (1 : Int32) := by rw [f_covers, if_pos (c25_110 : ((1 : Int32) &&& (u1 ^^^ (-1 : Int32))) = (0 : Int32))]
            rw [r111] at st111
            refine Go.mp st111 ?_
            show Go p e below (T111.setTop (mkF m 28 #[.val (.ref a1), .val (.ref a2), .val (.ref w_WF), .val (.int (5 : Int32)), .val (.int (3 : Int32)), .val (.ref w_SIX)] [(.int (1 : Int32))])) _
            refine g_ifNo X111 hx (hb hby d2_28) ((if0 _ _).trans (feq ((by decide) : ¬ ((1 : Int32) = (0 : Int32)))).1) ?_
            refine g_aload X111 hx (hb hby d2_31) rfl rfl ?_
            refine g_aloadN X111 hx (hb hby d2_33) rfl rfl ?_
            show Go p e below (T111.setTop (mkF m 34 #[.val (.ref a1), .val (.ref a2), .val (.ref w_WF), .val (.int (5 : Int32)), .val (.int (3 : Int32)), .val (.ref w_SIX)] [(.ref a2), (.ref w_SIX)])) _
            by_cases c34_112 : ((1 : Int32) &&& (u2 ^^^ (-1 : Int32))) = (0 : Int32)
            · obtain ⟨v113, T113, L113, X113, q113, st113⟩ := own_callV X111 hx hZ (y := (⟨"com/example/wombat/wombat/LockMode", "covers", "(Lcom/example/wombat/wombat/LockMode;)Z"⟩ : MethodName)) (pc := 34) (Ls := #[.val (.ref a1), .val (.ref a2), .val (.ref w_WF), .val (.int (5 : Int32)), .val (.int (3 : Int32)), .val (.ref w_SIX)]) (st := [(.ref a2), (.ref w_SIX)]) hown (hw _ (List.mem_of_getElem? (i := 17) rfl)) (hw _ (List.mem_of_getElem? (i := 18) rfl)) (hw _ (List.mem_of_getElem? (i := 20) rfl)) (hw _ (List.mem_of_getElem? (i := 19) rfl)) (hw _ (List.mem_of_getElem? (i := 21) rfl)) (hw _ (List.mem_of_getElem? (i := 6) rfl)) (by decide) (rm_covers l Z a0 hw w_SIX a2 (1 : Int32) u2 h0 n0 Z0 F_w_SIX_compatible F_a2_compatible) e111 E_w_SIX pd_0 (hb hby d2_34) (by rw [hml]; rfl) (argsL := [(.ref a2)]) (rest := []) rfl rfl rfl (W := 0) (Nat.le_of_eq rfl) (by decide) (by decide) (by decide) (by decide)
              obtain ⟨rfl, M113, e113⟩ := q113
              have N113 := Fr.app N111 M113
              have r113 : (f_covers w_SIX a2 (1 : Int32) u2) = (1 : Int32) := by rw [f_covers, if_pos (c34_112 : ((1 : Int32) &&& (u2 ^^^ (-1 : Int32))) = (0 : Int32))]
              rw [r113] at st113
              refine Go.mp st113 ?_
              show Go p e below (T113.setTop (mkF m 37 #[.val (.ref a1), .val (.ref a2), .val (.ref w_WF), .val (.int (5 : Int32)), .val (.int (3 : Int32)), .val (.ref w_SIX)] [(.int (1 : Int32))])) _
              refine g_ifNo X113 hx (hb hby d2_37) ((if0 _ _).trans (feq ((by decide) : ¬ ((1 : Int32) = (0 : Int32)))).1) ?_
              refine g_aload X113 hx (hb hby d2_40) rfl rfl ?_
              exact own_retA X113 hx hret hlk rfl rfl (hb hby d2_42) (by decide) (by decide) ⟨by rw [f_combinedWith, if_neg c25_4, if_pos c25_84, if_neg c34_86, if_neg c25_90, if_pos c25_110, if_pos c34_112], N113, e113⟩
            · obtain ⟨v114, T114, L114, X114, q114, st114⟩ := own_callV X111 hx hZ (y := (⟨"com/example/wombat/wombat/LockMode", "covers", "(Lcom/example/wombat/wombat/LockMode;)Z"⟩ : MethodName)) (pc := 34) (Ls := #[.val (.ref a1), .val (.ref a2), .val (.ref w_WF), .val (.int (5 : Int32)), .val (.int (3 : Int32)), .val (.ref w_SIX)]) (st := [(.ref a2), (.ref w_SIX)]) hown (hw _ (List.mem_of_getElem? (i := 17) rfl)) (hw _ (List.mem_of_getElem? (i := 18) rfl)) (hw _ (List.mem_of_getElem? (i := 20) rfl)) (hw _ (List.mem_of_getElem? (i := 19) rfl)) (hw _ (List.mem_of_getElem? (i := 21) rfl)) (hw _ (List.mem_of_getElem? (i := 6) rfl)) (by decide) (rm_covers l Z a0 hw w_SIX a2 (1 : Int32) u2 h0 n0 Z0 F_w_SIX_compatible F_a2_compatible) e111 E_w_SIX pd_0 (hb hby d2_34) (by rw [hml]; rfl) (argsL := [(.ref a2)]) (rest := []) rfl rfl rfl (W := 0) (Nat.le_of_eq rfl) (by decide) (by decide) (by decide) (by decide)
              obtain ⟨rfl, M114, e114⟩ := q114
              have N114 := Fr.app N111 M114
              have r114 : (f_covers w_SIX a2 (1 : Int32) u2) = (0 : Int32) := by rw [f_covers, if_neg (c34_112 : ¬ (((1 : Int32) &&& (u2 ^^^ (-1 : Int32))) = (0 : Int32)))]
              rw [r114] at st114
              refine Go.mp st114 ?_
              show Go p e below (T114.setTop (mkF m 37 #[.val (.ref a1), .val (.ref a2), .val (.ref w_WF), .val (.int (5 : Int32)), .val (.int (3 : Int32)), .val (.ref w_SIX)] [(.int (0 : Int32))])) _
              refine g_ifYes X114 hx 43 (hb hby d2_37) ((if0 _ _).trans (teq ((by decide) : (0 : Int32) = (0 : Int32))).1) (by decide) (by decide) ?_
              refine Go.mp (fun _ k => XS.iinc X114.here hx rfl (hb hby d2_43) rfl (l' := #[.val (.ref a1), .val (.ref a2), .val (.ref w_WF), .val (.int (5 : Int32)), .val (.int ((3 : Int32) + (1 : Int32))), .val (.ref w_SIX)]) rfl k) ?_
              show Go p e below (T114.setTop (mkF m 46 #[.val (.ref a1), .val (.ref a2), .val (.ref w_WF), .val (.int (5 : Int32)), .val (.int ((3 : Int32) + (1 : Int32))), .val (.ref w_SIX)] [])) _
              rw [show ((3 : Int32) + (1 : Int32)) = (4 : Int32) from by decide]
              show Go p e below (T114.setTop (mkF m 46 #[.val (.ref a1), .val (.ref a2), .val (.ref w_WF), .val (.int (5 : Int32)), .val (.int (4 : Int32)), .val (.ref w_SIX)] [])) _
              refine g_goto X114 hx 10 (hb hby d2_46) (by decide) (by decide) ?_
              refine g_iload X114 hx (hb hby d2_10) rfl ?_
              refine g_iloadN X114 hx (hb hby d2_12) rfl ?_
              refine g_icmpNo X114 hx (hb hby d2_13) (tlt ((by decide) : (4 : Int32) < (5 : Int32))).2.1 ?_
              refine g_aloadN X114 hx (hb hby d2_16) rfl rfl ?_
              refine g_iload X114 hx (hb hby d2_17) rfl ?_
              obtain ⟨cl115, Ar115, -, sz115, -, Ha115, -⟩ := id V_w_WF
              have hin115 : ¬ ((4 : Int32) < 0 ∨ cl115.slots.size ≤ (4 : Int32).toNatClampNeg) := by rw [sz115]; decide
              have hat115 : cl115.slots[(4 : Int32).toNatClampNeg]? = some (.ref w_X) := Ha115 4 (by rw [sz115]; decide)
              refine Go.mp (fun _ k => X114.aaload hx (j := 4) (v := (.ref w_X)) (by rw [e114]; exact Ar115.1) (State.isArrayOf_alike hZ.alike Ar115.2.1) rfl Ar115.2.2 hin115 hat115 (g := (mkF m 19 #[.val (.ref a1), .val (.ref a2), .val (.ref w_WF), .val (.int (5 : Int32)), .val (.int (4 : Int32)), .val (.ref w_SIX)] [(.int (4 : Int32)), (.ref w_WF)])) rfl rfl (hb hby d2_19) _ k) ?_
              show Go p e below (T114.setTop (mkF m 20 #[.val (.ref a1), .val (.ref a2), .val (.ref w_WF), .val (.int (5 : Int32)), .val (.int (4 : Int32)), .val (.ref w_SIX)] [(.ref w_X)])) _
              refine g_astore X114 hx #[.val (.ref a1), .val (.ref a2), .val (.ref w_WF), .val (.int (5 : Int32)), .val (.int (4 : Int32)), .val (.ref w_X)] (hb hby d2_20) rfl rfl ?_
              refine g_aload X114 hx (hb hby d2_22) rfl rfl ?_
              refine g_aloadN X114 hx (hb hby d2_24) rfl rfl ?_
              show Go p e below (T114.setTop (mkF m 25 #[.val (.ref a1), .val (.ref a2), .val (.ref w_WF), .val (.int (5 : Int32)), .val (.int (4 : Int32)), .val (.ref w_X)] [(.ref a1), (.ref w_X)])) _
              obtain ⟨v116, T116, L116, X116, q116, st116⟩ := own_callV X114 hx hZ (y := (⟨"com/example/wombat/wombat/LockMode", "covers", "(Lcom/example/wombat/wombat/LockMode;)Z"⟩ : MethodName)) (pc := 25) (Ls := #[.val (.ref a1), .val (.ref a2), .val (.ref w_WF), .val (.int (5 : Int32)), .val (.int (4 : Int32)), .val (.ref w_X)]) (st := [(.ref a1), (.ref w_X)]) hown (hw _ (List.mem_of_getElem? (i := 17) rfl)) (hw _ (List.mem_of_getElem? (i := 18) rfl)) (hw _ (List.mem_of_getElem? (i := 20) rfl)) (hw _ (List.mem_of_getElem? (i := 19) rfl)) (hw _ (List.mem_of_getElem? (i := 21) rfl)) (hw _ (List.mem_of_getElem? (i := 6) rfl)) (by decide) (rm_covers l Z a0 hw w_X a1 (0 : Int32) u1 h0 n0 Z0 F_w_X_compatible F_a1_compatible) e114 E_w_X pd_0 (hb hby d2_25) (by rw [hml]; rfl) (argsL := [(.ref a1)]) (rest := []) rfl rfl rfl (W := 0) (Nat.le_of_eq rfl) (by decide) (by decide) (by decide) (by decide)
              obtain ⟨rfl, M116, e116⟩ := q116
              have N116 := Fr.app N114 M116
              have r116 : (f_covers w_X a1 (0 : Int32) u1) = (1 : Int32) := by rw [f_covers, if_pos ((own_zand _) : ((0 : Int32) &&& (u1 ^^^ (-1 : Int32))) = (0 : Int32))]
              rw [r116] at st116
              refine Go.mp st116 ?_
              show Go p e below (T116.setTop (mkF m 28 #[.val (.ref a1), .val (.ref a2), .val (.ref w_WF), .val (.int (5 : Int32)), .val (.int (4 : Int32)), .val (.ref w_X)] [(.int (1 : Int32))])) _
              refine g_ifNo X116 hx (hb hby d2_28) ((if0 _ _).trans (feq ((by decide) : ¬ ((1 : Int32) = (0 : Int32)))).1) ?_
              refine g_aload X116 hx (hb hby d2_31) rfl rfl ?_
              refine g_aloadN X116 hx (hb hby d2_33) rfl rfl ?_
              show Go p e below (T116.setTop (mkF m 34 #[.val (.ref a1), .val (.ref a2), .val (.ref w_WF), .val (.int (5 : Int32)), .val (.int (4 : Int32)), .val (.ref w_X)] [(.ref a2), (.ref w_X)])) _
              obtain ⟨v117, T117, L117, X117, q117, st117⟩ := own_callV X116 hx hZ (y := (⟨"com/example/wombat/wombat/LockMode", "covers", "(Lcom/example/wombat/wombat/LockMode;)Z"⟩ : MethodName)) (pc := 34) (Ls := #[.val (.ref a1), .val (.ref a2), .val (.ref w_WF), .val (.int (5 : Int32)), .val (.int (4 : Int32)), .val (.ref w_X)]) (st := [(.ref a2), (.ref w_X)]) hown (hw _ (List.mem_of_getElem? (i := 17) rfl)) (hw _ (List.mem_of_getElem? (i := 18) rfl)) (hw _ (List.mem_of_getElem? (i := 20) rfl)) (hw _ (List.mem_of_getElem? (i := 19) rfl)) (hw _ (List.mem_of_getElem? (i := 21) rfl)) (hw _ (List.mem_of_getElem? (i := 6) rfl)) (by decide) (rm_covers l Z a0 hw w_X a2 (0 : Int32) u2 h0 n0 Z0 F_w_X_compatible F_a2_compatible) e116 E_w_X pd_0 (hb hby d2_34) (by rw [hml]; rfl) (argsL := [(.ref a2)]) (rest := []) rfl rfl rfl (W := 0) (Nat.le_of_eq rfl) (by decide) (by decide) (by decide) (by decide)
              obtain ⟨rfl, M117, e117⟩ := q117
              have N117 := Fr.app N116 M117
              have r117 : (f_covers w_X a2 (0 : Int32) u2) = (1 : Int32) := by rw [f_covers, if_pos ((own_zand _) : ((0 : Int32) &&& (u2 ^^^ (-1 : Int32))) = (0 : Int32))]
              rw [r117] at st117
              refine Go.mp st117 ?_
              show Go p e below (T117.setTop (mkF m 37 #[.val (.ref a1), .val (.ref a2), .val (.ref w_WF), .val (.int (5 : Int32)), .val (.int (4 : Int32)), .val (.ref w_X)] [(.int (1 : Int32))])) _
              refine g_ifNo X117 hx (hb hby d2_37) ((if0 _ _).trans (feq ((by decide) : ¬ ((1 : Int32) = (0 : Int32)))).1) ?_
              refine g_aload X117 hx (hb hby d2_40) rfl rfl ?_
              exact own_retA X117 hx hret hlk rfl rfl (hb hby d2_42) (by decide) (by decide) ⟨by rw [f_combinedWith, if_neg c25_4, if_pos c25_84, if_neg c34_86, if_neg c25_90, if_pos c25_110, if_neg c34_112], N117, e117⟩
          · obtain ⟨v118, T118, L118, X118, q118, st118⟩ := own_callV X108 hx hZ (y := (⟨"com/example/wombat/wombat/LockMode", "covers", "(Lcom/example/wombat/wombat/LockMode;)Z"⟩ : MethodName)) (pc := 25) (Ls := #[.val (.ref a1), .val (.ref a2), .val (.ref w_WF), .val (.int (5 : Int32)), .val (.int (3 : Int32)), .val (.ref w_SIX)]) (st := [(.ref a1), (.ref w_SIX)]) hown (hw _ (List.mem_of_getElem? (i := 17) rfl)) (hw _ (List.mem_of_getElem? (i := 18) rfl)) (hw _ (List.mem_of_getElem? (i := 20) rfl)) (hw _ (List.mem_of_getElem? (i := 19) rfl)) (hw _ (List.mem_of_getElem? (i := 21) rfl)) (hw _ (List.mem_of_getElem? (i := 6) rfl)) (by decide) (rm_covers l Z a0 hw w_SIX a1 (1 : Int32) u1 h0 n0 Z0 F_w_SIX_compatible F_a1_compatible) e108 E_w_SIX pd_0 (hb hby d2_25) (by rw [hml]; rfl) (argsL := [(.ref a1)]) (rest := []) rfl rfl rfl (W := 0) (Nat.le_of_eq rfl) (by decide) (by decide) (by decide) (by decide)
            obtain ⟨rfl, M118, e118⟩ := q118
            have N118 := Fr.app N108 M118
            have r118 : (f_covers w_SIX a1 (1 : Int32) u1) = (0 : Int32) := by rw [f_covers, if_neg (c25_110 : ¬ (((1 : Int32) &&& (u1 ^^^ (-1 : Int32))) = (0 : Int32)))]
            rw [r118] at st118
            refine Go.mp st118 ?_
            show Go p e below (T118.setTop (mkF m 28 #[.val (.ref a1), .val (.ref a2), .val (.ref w_WF), .val (.int (5 : Int32)), .val (.int (3 : Int32)), .val (.ref w_SIX)] [(.int (0 : Int32))])) _
            refine g_ifYes X118 hx 43 (hb hby d2_28) ((if0 _ _).trans (teq ((by decide) : (0 : Int32) = (0 : Int32))).1) (by decide) (by decide) ?_
            refine Go.mp (fun _ k => XS.iinc X118.here hx rfl (hb hby d2_43) rfl (l' := #[.val (.ref a1), .val (.ref a2), .val (.ref w_WF), .val (.int (5 : Int32)), .val (.int ((3 : Int32) + (1 : Int32))), .val (.ref w_SIX)]) rfl k) ?_
            show Go p e below (T118.setTop (mkF m 46 #[.val (.ref a1), .val (.ref a2), .val (.ref w_WF), .val (.int (5 : Int32)), .val (.int ((3 : Int32) + (1 : Int32))), .val (.ref w_SIX)] [])) _
            rw [show ((3 : Int32) + (1 : Int32)) = (4 : Int32) from by decide]
            show Go p e below (T118.setTop (mkF m 46 #[.val (.ref a1), .val (.ref a2), .val (.ref w_WF), .val (.int (5 : Int32)), .val (.int (4 : Int32)), .val (.ref w_SIX)] [])) _
            refine g_goto X118 hx 10 (hb hby d2_46) (by decide) (by decide) ?_
            refine g_iload X118 hx (hb hby d2_10) rfl ?_
            refine g_iloadN X118 hx (hb hby d2_12) rfl ?_
            refine g_icmpNo X118 hx (hb hby d2_13) (tlt ((by decide) : (4 : Int32) < (5 : Int32))).2.1 ?_
            refine g_aloadN X118 hx (hb hby d2_16) rfl rfl ?_
            refine g_iload X118 hx (hb hby d2_17) rfl ?_
            obtain ⟨cl119, Ar119, -, sz119, -, Ha119, -⟩ := id V_w_WF
            have hin119 : ¬ ((4 : Int32) < 0 ∨ cl119.slots.size ≤ (4 : Int32).toNatClampNeg) := by rw [sz119]; decide
            have hat119 : cl119.slots[(4 : Int32).toNatClampNeg]? = some (.ref w_X) := Ha119 4 (by rw [sz119]; decide)
            refine Go.mp (fun _ k => X118.aaload hx (j := 4) (v := (.ref w_X)) (by rw [e118]; exact Ar119.1) (State.isArrayOf_alike hZ.alike Ar119.2.1) rfl Ar119.2.2 hin119 hat119 (g := (mkF m 19 #[.val (.ref a1), .val (.ref a2), .val (.ref w_WF), .val (.int (5 : Int32)), .val (.int (4 : Int32)), .val (.ref w_SIX)] [(.int (4 : Int32)), (.ref w_WF)])) rfl rfl (hb hby d2_19) _ k) ?_
            show Go p e below (T118.setTop (mkF m 20 #[.val (.ref a1), .val (.ref a2), .val (.ref w_WF), .val (.int (5 : Int32)), .val (.int (4 : Int32)), .val (.ref w_SIX)] [(.ref w_X)])) _
            refine g_astore X118 hx #[.val (.ref a1), .val (.ref a2), .val (.ref w_WF), .val (.int (5 : Int32)), .val (.int (4 : Int32)), .val (.ref w_X)] (hb hby d2_20) rfl rfl ?_
            refine g_aload X118 hx (hb hby d2_22) rfl rfl ?_
            refine g_aloadN X118 hx (hb hby d2_24) rfl rfl ?_
            show Go p e below (T118.setTop (mkF m 25 #[.val (.ref a1), .val (.ref a2), .val (.ref w_WF), .val (.int (5 : Int32)), .val (.int (4 : Int32)), .val (.ref w_X)] [(.ref a1), (.ref w_X)])) _
            obtain ⟨v120, T120, L120, X120, q120, st120⟩ := own_callV X118 hx hZ (y := (⟨"com/example/wombat/wombat/LockMode", "covers", "(Lcom/example/wombat/wombat/LockMode;)Z"⟩ : MethodName)) (pc := 25) (Ls := #[.val (.ref a1), .val (.ref a2), .val (.ref w_WF), .val (.int (5 : Int32)), .val (.int (4 : Int32)), .val (.ref w_X)]) (st := [(.ref a1), (.ref w_X)]) hown (hw _ (List.mem_of_getElem? (i := 17) rfl)) (hw _ (List.mem_of_getElem? (i := 18) rfl)) (hw _ (List.mem_of_getElem? (i := 20) rfl)) (hw _ (List.mem_of_getElem? (i := 19) rfl)) (hw _ (List.mem_of_getElem? (i := 21) rfl)) (hw _ (List.mem_of_getElem? (i := 6) rfl)) (by decide) (rm_covers l Z a0 hw w_X a1 (0 : Int32) u1 h0 n0 Z0 F_w_X_compatible F_a1_compatible) e118 E_w_X pd_0 (hb hby d2_25) (by rw [hml]; rfl) (argsL := [(.ref a1)]) (rest := []) rfl rfl rfl (W := 0) (Nat.le_of_eq rfl) (by decide) (by decide) (by decide) (by decide)
            obtain ⟨rfl, M120, e120⟩ := q120
            have N120 := Fr.app N118 M120
            have r120 : (f_covers w_X a1 (0 : Int32) u1) = (1 : Int32) := by rw [f_covers, if_pos ((own_zand _) : ((0 : Int32) &&& (u1 ^^^ (-1 : Int32))) = (0 : Int32))]
            rw [r120] at st120
            refine Go.mp st120 ?_
            show Go p e below (T120.setTop (mkF m 28 #[.val (.ref a1), .val (.ref a2), .val (.ref w_WF), .val (.int (5 : Int32)), .val (.int (4 : Int32)), .val (.ref w_X)] [(.int (1 : Int32))])) _
            refine g_ifNo X120 hx (hb hby d2_28) ((if0 _ _).trans (feq ((by decide) : ¬ ((1 : Int32) = (0 : Int32)))).1) ?_
            refine g_aload X120 hx (hb hby d2_31) rfl rfl ?_
            refine g_aloadN X120 hx (hb hby d2_33) rfl rfl ?_
            show Go p e below (T120.setTop (mkF m 34 #[.val (.ref a1), .val (.ref a2), .val (.ref w_WF), .val (.int (5 : Int32)), .val (.int (4 : Int32)), .val (.ref w_X)] [(.ref a2), (.ref w_X)])) _
            obtain ⟨v121, T121, L121, X121, q121, st121⟩ := own_callV X120 hx hZ (y := (⟨"com/example/wombat/wombat/LockMode", "covers", "(Lcom/example/wombat/wombat/LockMode;)Z"⟩ : MethodName)) (pc := 34) (Ls := #[.val (.ref a1), .val (.ref a2), .val (.ref w_WF), .val (.int (5 : Int32)), .val (.int (4 : Int32)), .val (.ref w_X)]) (st := [(.ref a2), (.ref w_X)]) hown (hw _ (List.mem_of_getElem? (i := 17) rfl)) (hw _ (List.mem_of_getElem? (i := 18) rfl)) (hw _ (List.mem_of_getElem? (i := 20) rfl)) (hw _ (List.mem_of_getElem? (i := 19) rfl)) (hw _ (List.mem_of_getElem? (i := 21) rfl)) (hw _ (List.mem_of_getElem? (i := 6) rfl)) (by decide) (rm_covers l Z a0 hw w_X a2 (0 : Int32) u2 h0 n0 Z0 F_w_X_compatible F_a2_compatible) e120 E_w_X pd_0 (hb hby d2_34) (by rw [hml]; rfl) (argsL := [(.ref a2)]) (rest := []) rfl rfl rfl (W := 0) (Nat.le_of_eq rfl) (by decide) (by decide) (by decide) (by decide)
            obtain ⟨rfl, M121, e121⟩ := q121
            have N121 := Fr.app N120 M121
            have r121 : (f_covers w_X a2 (0 : Int32) u2) = (1 : Int32) := by rw [f_covers, if_pos ((own_zand _) : ((0 : Int32) &&& (u2 ^^^ (-1 : Int32))) = (0 : Int32))]
            rw [r121] at st121
            refine Go.mp st121 ?_
            show Go p e below (T121.setTop (mkF m 37 #[.val (.ref a1), .val (.ref a2), .val (.ref w_WF), .val (.int (5 : Int32)), .val (.int (4 : Int32)), .val (.ref w_X)] [(.int (1 : Int32))])) _
            refine g_ifNo X121 hx (hb hby d2_37) ((if0 _ _).trans (feq ((by decide) : ¬ ((1 : Int32) = (0 : Int32)))).1) ?_
            refine g_aload X121 hx (hb hby d2_40) rfl rfl ?_
            exact own_retA X121 hx hret hlk rfl rfl (hb hby d2_42) (by decide) (by decide) ⟨by rw [f_combinedWith, if_neg c25_4, if_pos c25_84, if_neg c34_86, if_neg c25_90, if_neg c25_110], N121, e121⟩
    · obtain ⟨v122, T122, L122, X122, q122, st122⟩ := own_callV X82 hx hZ (y := (⟨"com/example/wombat/wombat/LockMode", "covers", "(Lcom/example/wombat/wombat/LockMode;)Z"⟩ : MethodName)) (pc := 25) (Ls := #[.val (.ref a1), .val (.ref a2), .val (.ref w_WF), .val (.int (5 : Int32)), .val (.int (1 : Int32)), .val (.ref w_IX)]) (st := [(.ref a1), (.ref w_IX)]) hown (hw _ (List.mem_of_getElem? (i := 17) rfl)) (hw _ (List.mem_of_getElem? (i := 18) rfl)) (hw _ (List.mem_of_getElem? (i := 20) rfl)) (hw _ (List.mem_of_getElem? (i := 19) rfl)) (hw _ (List.mem_of_getElem? (i := 21) rfl)) (hw _ (List.mem_of_getElem? (i := 6) rfl)) (by decide) (rm_covers l Z a0 hw w_IX a1 (3 : Int32) u1 h0 n0 Z0 F_w_IX_compatible F_a1_compatible) e82 E_w_IX pd_0 (hb hby d2_25) (by rw [hml]; rfl) (argsL := [(.ref a1)]) (rest := []) rfl rfl rfl (W := 0) (Nat.le_of_eq rfl) (by decide) (by decide) (by decide) (by decide)
      obtain ⟨rfl, M122, e122⟩ := q122
      have N122 := Fr.app N82 M122
      have r122 : (f_covers w_IX a1 (3 : Int32) u1) = (0 : Int32) := by rw [f_covers, if_neg (c25_84 : ¬ (((3 : Int32) &&& (u1 ^^^ (-1 : Int32))) = (0 : Int32)))]
      rw [r122] at st122
      refine Go.mp st122 ?_
      show Go p e below (T122.setTop (mkF m 28 #[.val (.ref a1), .val (.ref a2), .val (.ref w_WF), .val (.int (5 : Int32)), .val (.int (1 : Int32)), .val (.ref w_IX)] [(.int (0 : Int32))])) _
      refine g_ifYes X122 hx 43 (hb hby d2_28) ((if0 _ _).trans (teq ((by decide) : (0 : Int32) = (0 : Int32))).1) (by decide) (by decide) ?_
      refine Go.mp (fun _ k => XS.iinc X122.here hx rfl (hb hby d2_43) rfl (l' := #[.val (.ref a1), .val (.ref a2), .val (.ref w_WF), .val (.int (5 : Int32)), .val (.int ((1 : Int32) + (1 : Int32))), .val (.ref w_IX)]) rfl k) ?_
      show Go p e below (T122.setTop (mkF m 46 #[.val (.ref a1), .val (.ref a2), .val (.ref w_WF), .val (.int (5 : Int32)), .val (.int ((1 : Int32) + (1 : Int32))), .val (.ref w_IX)] [])) _
      rw [show ((1 : Int32) + (1 : Int32)) = (2 : Int32) from by decide]
      show Go p e below (T122.setTop (mkF m 46 #[.val (.ref a1), .val (.ref a2), .val (.ref w_WF), .val (.int (5 : Int32)), .val (.int (2 : Int32)), .val (.ref w_IX)] [])) _
      refine g_goto X122 hx 10 (hb hby d2_46) (by decide) (by decide) ?_
      refine g_iload X122 hx (hb hby d2_10) rfl ?_
      refine g_iloadN X122 hx (hb hby d2_12) rfl ?_
      refine g_icmpNo X122 hx (hb hby d2_13) (tlt ((by decide) : (2 : Int32) < (5 : Int32))).2.1 ?_
      refine g_aloadN X122 hx (hb hby d2_16) rfl rfl ?_
      refine g_iload X122 hx (hb hby d2_17) rfl ?_
      obtain ⟨cl123, Ar123, -, sz123, -, Ha123, -⟩ := id V_w_WF
      have hin123 : ¬ ((2 : Int32) < 0 ∨ cl123.slots.size ≤ (2 : Int32).toNatClampNeg) := by rw [sz123]; decide
      have hat123 : cl123.slots[(2 : Int32).toNatClampNeg]? = some (.ref w_S) := Ha123 2 (by rw [sz123]; decide)
      refine Go.mp (fun _ k => X122.aaload hx (j := 2) (v := (.ref w_S)) (by rw [e122]; exact Ar123.1) (State.isArrayOf_alike hZ.alike Ar123.2.1) rfl Ar123.2.2 hin123 hat123 (g := (mkF m 19 #[.val (.ref a1), .val (.ref a2), .val (.ref w_WF), .val (.int (5 : Int32)), .val (.int (2 : Int32)), .val (.ref w_IX)] [(.int (2 : Int32)), (.ref w_WF)])) rfl rfl (hb hby d2_19) _ k) ?_
      show Go p e below (T122.setTop (mkF m 20 #[.val (.ref a1), .val (.ref a2), .val (.ref w_WF), .val (.int (5 : Int32)), .val (.int (2 : Int32)), .val (.ref w_IX)] [(.ref w_S)])) _
      refine g_astore X122 hx #[.val (.ref a1), .val (.ref a2), .val (.ref w_WF), .val (.int (5 : Int32)), .val (.int (2 : Int32)), .val (.ref w_S)] (hb hby d2_20) rfl rfl ?_
      refine g_aload X122 hx (hb hby d2_22) rfl rfl ?_
      refine g_aloadN X122 hx (hb hby d2_24) rfl rfl ?_
      show Go p e below (T122.setTop (mkF m 25 #[.val (.ref a1), .val (.ref a2), .val (.ref w_WF), .val (.int (5 : Int32)), .val (.int (2 : Int32)), .val (.ref w_S)] [(.ref a1), (.ref w_S)])) _
      by_cases c25_124 : ((5 : Int32) &&& (u1 ^^^ (-1 : Int32))) = (0 : Int32)
      · obtain ⟨v125, T125, L125, X125, q125, st125⟩ := own_callV X122 hx hZ (y := (⟨"com/example/wombat/wombat/LockMode", "covers", "(Lcom/example/wombat/wombat/LockMode;)Z"⟩ : MethodName)) (pc := 25) (Ls := #[.val (.ref a1), .val (.ref a2), .val (.ref w_WF), .val (.int (5 : Int32)), .val (.int (2 : Int32)), .val (.ref w_S)]) (st := [(.ref a1), (.ref w_S)]) hown (hw _ (List.mem_of_getElem? (i := 17) rfl)) (hw _ (List.mem_of_getElem? (i := 18) rfl)) (hw _ (List.mem_of_getElem? (i := 20) rfl)) (hw _ (List.mem_of_getElem? (i := 19) rfl)) (hw _ (List.mem_of_getElem? (i := 21) rfl)) (hw _ (List.mem_of_getElem? (i := 6) rfl)) (by decide) (rm_covers l Z a0 hw w_S a1 (5 : Int32) u1 h0 n0 Z0 F_w_S_compatible F_a1_compatible) e122 E_w_S pd_0 (hb hby d2_25) (by rw [hml]; rfl) (argsL := [(.ref a1)]) (rest := []) rfl rfl rfl (W := 0) (Nat.le_of_eq rfl) (by decide) (by decide) (by decide) (by decide)
        obtain ⟨rfl, M125, e125⟩ := q125
        have N125 := Fr.app N122 M125
        have r125 : (f_covers w_S a1 (5 : Int32) u1) = (1 : Int32) := by rw [f_covers, if_pos (c25_124 : ((5 : Int32) &&& (u1 ^^^ (-1 : Int32))) = (0 : Int32))]
        rw [r125] at st125
        refine Go.mp st125 ?_
        show Go p e below (T125.setTop (mkF m 28 #[.val (.ref a1), .val (.ref a2), .val (.ref w_WF), .val (.int (5 : Int32)), .val (.int (2 : Int32)), .val (.ref w_S)] [(.int (1 : Int32))])) _
        refine g_ifNo X125 hx (hb hby d2_28) ((if0 _ _).trans (feq ((by decide) : ¬ ((1 : Int32) = (0 : Int32)))).1) ?_
        refine g_aload X125 hx (hb hby d2_31) rfl rfl ?_
        refine g_aloadN X125 hx (hb hby d2_33) rfl rfl ?_
        show Go p e below (T125.setTop (mkF m 34 #[.val (.ref a1), .val (.ref a2), .val (.ref w_WF), .val (.int (5 : Int32)), .val (.int (2 : Int32)), .val (.ref w_S)] [(.ref a2), (.ref w_S)])) _
        by_cases c34_126 : ((5 : Int32) &&& (u2 ^^^ (-1 : Int32))) = (0 : Int32)
        · obtain ⟨v127, T127, L127, X127, q127, st127⟩ := own_callV X125 hx hZ (y := (⟨"com/example/wombat/wombat/LockMode", "covers", "(Lcom/example/wombat/wombat/LockMode;)Z"⟩ : MethodName)) (pc := 34) (Ls := #[.val (.ref a1), .val (.ref a2), .val (.ref w_WF), .val (.int (5 : Int32)), .val (.int (2 : Int32)), .val (.ref w_S)]) (st := [(.ref a2), (.ref w_S)]) hown (hw _ (List.mem_of_getElem? (i := 17) rfl)) (hw _ (List.mem_of_getElem? (i := 18) rfl)) (hw _ (List.mem_of_getElem? (i := 20) rfl)) (hw _ (List.mem_of_getElem? (i := 19) rfl)) (hw _ (List.mem_of_getElem? (i := 21) rfl)) (hw _ (List.mem_of_getElem? (i := 6) rfl)) (by decide) (rm_covers l Z a0 hw w_S a2 (5 : Int32) u2 h0 n0 Z0 F_w_S_compatible F_a2_compatible) e125 E_w_S pd_0 (hb hby d2_34) (by rw [hml]; rfl) (argsL := [(.ref a2)]) (rest := []) rfl rfl rfl (W := 0) (Nat.le_of_eq rfl) (by decide) (by decide) (by decide) (by decide)
          obtain ⟨rfl, M127, e127⟩ := q127
          have N127 := Fr.app N125 M127
          have r127 : (f_covers w_S a2 (5 : Int32) u2) = (1 : Int32) := by rw [f_covers, if_pos (c34_126 : ((5 : Int32) &&& (u2 ^^^ (-1 : Int32))) = (0 : Int32))]
          rw [r127] at st127
          refine Go.mp st127 ?_
          show Go p e below (T127.setTop (mkF m 37 #[.val (.ref a1), .val (.ref a2), .val (.ref w_WF), .val (.int (5 : Int32)), .val (.int (2 : Int32)), .val (.ref w_S)] [(.int (1 : Int32))])) _
          refine g_ifNo X127 hx (hb hby d2_37) ((if0 _ _).trans (feq ((by decide) : ¬ ((1 : Int32) = (0 : Int32)))).1) ?_
          refine g_aload X127 hx (hb hby d2_40) rfl rfl ?_
          exact own_retA X127 hx hret hlk rfl rfl (hb hby d2_42) (by decide) (by decide) ⟨by rw [f_combinedWith, if_neg c25_4, if_neg c25_84, if_pos c25_124, if_pos c34_126], N127, e127⟩
        · obtain ⟨v128, T128, L128, X128, q128, st128⟩ := own_callV X125 hx hZ (y := (⟨"com/example/wombat/wombat/LockMode", "covers", "(Lcom/example/wombat/wombat/LockMode;)Z"⟩ : MethodName)) (pc := 34) (Ls := #[.val (.ref a1), .val (.ref a2), .val (.ref w_WF), .val (.int (5 : Int32)), .val (.int (2 : Int32)), .val (.ref w_S)]) (st := [(.ref a2), (.ref w_S)]) hown (hw _ (List.mem_of_getElem? (i := 17) rfl)) (hw _ (List.mem_of_getElem? (i := 18) rfl)) (hw _ (List.mem_of_getElem? (i := 20) rfl)) (hw _ (List.mem_of_getElem? (i := 19) rfl)) (hw _ (List.mem_of_getElem? (i := 21) rfl)) (hw _ (List.mem_of_getElem? (i := 6) rfl)) (by decide) (rm_covers l Z a0 hw w_S a2 (5 : Int32) u2 h0 n0 Z0 F_w_S_compatible F_a2_compatible) e125 E_w_S pd_0 (hb hby d2_34) (by rw [hml]; rfl) (argsL := [(.ref a2)]) (rest := []) rfl rfl rfl (W := 0) (Nat.le_of_eq rfl) (by decide) (by decide) (by decide) (by decide)
          obtain ⟨rfl, M128, e128⟩ := q128
          have N128 := Fr.app N125 M128
          have r128 : (f_covers w_S a2 (5 : Int32) u2) = (0 : Int32) := by rw [f_covers, if_neg (c34_126 : ¬ (((5 : Int32) &&& (u2 ^^^ (-1 : Int32))) = (0 : Int32)))]
          rw [r128] at st128
          refine Go.mp st128 ?_
          show Go p e below (T128.setTop (mkF m 37 #[.val (.ref a1), .val (.ref a2), .val (.ref w_WF), .val (.int (5 : Int32)), .val (.int (2 : Int32)), .val (.ref w_S)] [(.int (0 : Int32))])) _
          refine g_ifYes X128 hx 43 (hb hby d2_37) ((if0 _ _).trans (teq ((by decide) : (0 : Int32) = (0 : Int32))).1) (by decide) (by decide) ?_
          refine Go.mp (fun _ k => XS.iinc X128.here hx rfl (hb hby d2_43) rfl (l' := #[.val (.ref a1), .val (.ref a2), .val (.ref w_WF), .val (.int (5 : Int32)), .val (.int ((2 : Int32) + (1 : Int32))), .val (.ref w_S)]) rfl k) ?_
          show Go p e below (T128.setTop (mkF m 46 #[.val (.ref a1), .val (.ref a2), .val (.ref w_WF), .val (.int (5 : Int32)), .val (.int ((2 : Int32) + (1 : Int32))), .val (.ref w_S)] [])) _
          rw [show ((2 : Int32) + (1 : Int32)) = (3 : Int32) from by decide]
          show Go p e below (T128.setTop (mkF m 46 #[.val (.ref a1), .val (.ref a2), .val (.ref w_WF), .val (.int (5 : Int32)), .val (.int (3 : Int32)), .val (.ref w_S)] [])) _
          refine g_goto X128 hx 10 (hb hby d2_46) (by decide) (by decide) ?_
          refine g_iload X128 hx (hb hby d2_10) rfl ?_
          refine g_iloadN X128 hx (hb hby d2_12) rfl ?_
          refine g_icmpNo X128 hx (hb hby d2_13) (tlt ((by decide) : (3 : Int32) < (5 : Int32))).2.1 ?_
          refine g_aloadN X128 hx (hb hby d2_16) rfl rfl ?_
          refine g_iload X128 hx (hb hby d2_17) rfl ?_
          obtain ⟨cl129, Ar129, -, sz129, -, Ha129, -⟩ := id V_w_WF
          have hin129 : ¬ ((3 : Int32) < 0 ∨ cl129.slots.size ≤ (3 : Int32).toNatClampNeg) := by rw [sz129]; decide
          have hat129 : cl129.slots[(3 : Int32).toNatClampNeg]? = some (.ref w_SIX) := Ha129 3 (by rw [sz129]; decide)
          refine Go.mp (fun _ k => X128.aaload hx (j := 3) (v := (.ref w_SIX)) (by rw [e128]; exact Ar129.1) (State.isArrayOf_alike hZ.alike Ar129.2.1) rfl Ar129.2.2 hin129 hat129 (g := (mkF m 19 #[.val (.ref a1), .val (.ref a2), .val (.ref w_WF), .val (.int (5 : Int32)), .val (.int (3 : Int32)), .val (.ref w_S)] [(.int (3 : Int32)), (.ref w_WF)])) rfl rfl (hb hby d2_19) _ k) ?_
          show Go p e below (T128.setTop (mkF m 20 #[.val (.ref a1), .val (.ref a2), .val (.ref w_WF), .val (.int (5 : Int32)), .val (.int (3 : Int32)), .val (.ref w_S)] [(.ref w_SIX)])) _
          refine g_astore X128 hx #[.val (.ref a1), .val (.ref a2), .val (.ref w_WF), .val (.int (5 : Int32)), .val (.int (3 : Int32)), .val (.ref w_SIX)] (hb hby d2_20) rfl rfl ?_
          refine g_aload X128 hx (hb hby d2_22) rfl rfl ?_
          refine g_aloadN X128 hx (hb hby d2_24) rfl rfl ?_
          show Go p e below (T128.setTop (mkF m 25 #[.val (.ref a1), .val (.ref a2), .val (.ref w_WF), .val (.int (5 : Int32)), .val (.int (3 : Int32)), .val (.ref w_SIX)] [(.ref a1), (.ref w_SIX)])) _
          by_cases c25_130 : ((1 : Int32) &&& (u1 ^^^ (-1 : Int32))) = (0 : Int32)
          · obtain ⟨v131, T131, L131, X131, q131, st131⟩ := own_callV X128 hx hZ (y := (⟨"com/example/wombat/wombat/LockMode", "covers", "(Lcom/example/wombat/wombat/LockMode;)Z"⟩ : MethodName)) (pc := 25) (Ls := #[.val (.ref a1), .val (.ref a2), .val (.ref w_WF), .val (.int (5 : Int32)), .val (.int (3 : Int32)), .val (.ref w_SIX)]) (st := [(.ref a1), (.ref w_SIX)]) hown (hw _ (List.mem_of_getElem? (i := 17) rfl)) (hw _ (List.mem_of_getElem? (i := 18) rfl)) (hw _ (List.mem_of_getElem? (i := 20) rfl)) (hw _ (List.mem_of_getElem? (i := 19) rfl)) (hw _ (List.mem_of_getElem? (i := 21) rfl)) (hw _ (List.mem_of_getElem? (i := 6) rfl)) (by decide) (rm_covers l Z a0 hw w_SIX a1 (1 : Int32) u1 h0 n0 Z0 F_w_SIX_compatible F_a1_compatible) e128 E_w_SIX pd_0 (hb hby d2_25) (by rw [hml]; rfl) (argsL := [(.ref a1)]) (rest := []) rfl rfl rfl (W := 0) (Nat.le_of_eq rfl) (by decide) (by decide) (by decide) (by decide)
            obtain ⟨rfl, M131, e131⟩ := q131
            have N131 := Fr.app N128 M131
            have r131 : (f_covers w_SIX a1 (1 : Int32) u1) = (1 : Int32) := by rw [f_covers, if_pos (c25_130 : ((1 : Int32) &&& (u1 ^^^ (-1 : Int32))) = (0 : Int32))]
            rw [r131] at st131
            refine Go.mp st131 ?_
            show Go p e below (T131.setTop (mkF m 28 #[.val (.ref a1), .val (.ref a2), .val (.ref w_WF), .val (.int (5 : Int32)), .val (.int (3 : Int32)), .val (.ref w_SIX)] [(.int (1 : Int32))])) _
            refine g_ifNo X131 hx (hb hby d2_28) ((if0 _ _).trans (feq ((by decide) : ¬ ((1 : Int32) = (0 : Int32)))).1) ?_
            refine g_aload X131 hx (hb hby d2_31) rfl rfl ?_
            refine g_aloadN X131 hx (hb hby d2_33) rfl rfl ?_
            show Go p e below (T131.setTop (mkF m 34 #[.val (.ref a1), .val (.ref a2), .val (.ref w_WF), .val (.int (5 : Int32)), .val (.int (3 : Int32)), .val (.ref w_SIX)] [(.ref a2), (.ref w_SIX)])) _
            by_cases c34_132 : ((1 : Int32) &&& (u2 ^^^ (-1 : Int32))) = (0 : Int32)
            · obtain ⟨v133, T133, L133, X133, q133, st133⟩ := own_callV X131 hx hZ (y := (⟨"com/example/wombat/wombat/LockMode", "covers", "(Lcom/example/wombat/wombat/LockMode;)Z"⟩ : MethodName)) (pc := 34) (Ls := #[.val (.ref a1), .val (.ref a2), .val (.ref w_WF), .val (.int (5 : Int32)), .val (.int (3 : Int32)), .val (.ref w_SIX)]) (st := [(.ref a2), (.ref w_SIX)]) hown (hw _ (List.mem_of_getElem? (i := 17) rfl)) (hw _ (List.mem_of_getElem? (i := 18) rfl)) (hw _ (List.mem_of_getElem? (i := 20) rfl)) (hw _ (List.mem_of_getElem? (i := 19) rfl)) (hw _ (List.mem_of_getElem? (i := 21) rfl)) (hw _ (List.mem_of_getElem? (i := 6) rfl)) (by decide) (rm_covers l Z a0 hw w_SIX a2 (1 : Int32) u2 h0 n0 Z0 F_w_SIX_compatible F_a2_compatible) e131 E_w_SIX pd_0 (hb hby d2_34) (by rw [hml]; rfl) (argsL := [(.ref a2)]) (rest := []) rfl rfl rfl (W := 0) (Nat.le_of_eq rfl) (by decide) (by decide) (by decide) (by decide)
              obtain ⟨rfl, M133, e133⟩ := q133
              have N133 := Fr.app N131 M133
              have r133 : (f_covers w_SIX a2 (1 : Int32) u2) = (1 : Int32) := by rw [f_covers, if_pos (c34_132 : ((1 : Int32) &&& (u2 ^^^ (-1 : Int32))) = (0 : Int32))]
              rw [r133] at st133
              refine Go.mp st133 ?_
              show Go p e below (T133.setTop (mkF m 37 #[.val (.ref a1), .val (.ref a2), .val (.ref w_WF), .val (.int (5 : Int32)), .val (.int (3 : Int32)), .val (.ref w_SIX)] [(.int (1 : Int32))])) _
              refine g_ifNo X133 hx (hb hby d2_37) ((if0 _ _).trans (feq ((by decide) : ¬ ((1 : Int32) = (0 : Int32)))).1) ?_
              refine g_aload X133 hx (hb hby d2_40) rfl rfl ?_
              exact own_retA X133 hx hret hlk rfl rfl (hb hby d2_42) (by decide) (by decide) ⟨by rw [f_combinedWith, if_neg c25_4, if_neg c25_84, if_pos c25_124, if_neg c34_126, if_pos c25_130, if_pos c34_132], N133, e133⟩
            · obtain ⟨v134, T134, L134, X134, q134, st134⟩ := own_callV X131 hx hZ (y := (⟨"com/example/wombat/wombat/LockMode", "covers", "(Lcom/example/wombat/wombat/LockMode;)Z"⟩ : MethodName)) (pc := 34) (Ls := #[.val (.ref a1), .val (.ref a2), .val (.ref w_WF), .val (.int (5 : Int32)), .val (.int (3 : Int32)), .val (.ref w_SIX)]) (st := [(.ref a2), (.ref w_SIX)]) hown (hw _ (List.mem_of_getElem? (i := 17) rfl)) (hw _ (List.mem_of_getElem? (i := 18) rfl)) (hw _ (List.mem_of_getElem? (i := 20) rfl)) (hw _ (List.mem_of_getElem? (i := 19) rfl)) (hw _ (List.mem_of_getElem? (i := 21) rfl)) (hw _ (List.mem_of_getElem? (i := 6) rfl)) (by decide) (rm_covers l Z a0 hw w_SIX a2 (1 : Int32) u2 h0 n0 Z0 F_w_SIX_compatible F_a2_compatible) e131 E_w_SIX pd_0 (hb hby d2_34) (by rw [hml]; rfl) (argsL := [(.ref a2)]) (rest := []) rfl rfl rfl (W := 0) (Nat.le_of_eq rfl) (by decide) (by decide) (by decide) (by decide)
              obtain ⟨rfl, M134, e134⟩ := q134
              have N134 := Fr.app N131 M134
              have r134 : (f_covers w_SIX a2 (1 : Int32) u2) = (0 : Int32) := by rw [f_covers, if_neg (c34_132 : ¬ (((1 : Int32) &&& (u2 ^^^ (-1 : Int32))) = (0 : Int32)))]
              rw [r134] at st134
              refine Go.mp st134 ?_
              show Go p e below (T134.setTop (mkF m 37 #[.val (.ref a1), .val (.ref a2), .val (.ref w_WF), .val (.int (5 : Int32)), .val (.int (3 : Int32)), .val (.ref w_SIX)] [(.int (0 : Int32))])) _
              refine g_ifYes X134 hx 43 (hb hby d2_37) ((if0 _ _).trans (teq ((by decide) : (0 : Int32) = (0 : Int32))).1) (by decide) (by decide) ?_
              refine Go.mp (fun _ k => XS.iinc X134.here hx rfl (hb hby d2_43) rfl (l' := #[.val (.ref a1), .val (.ref a2), .val (.ref w_WF), .val (.int (5 : Int32)), .val (.int ((3 : Int32) + (1 : Int32))), .val (.ref w_SIX)]) rfl k) ?_
              show Go p e below (T134.setTop (mkF m 46 #[.val (.ref a1), .val (.ref a2), .val (.ref w_WF), .val (.int (5 : Int32)), .val (.int ((3 : Int32) + (1 : Int32))), .val (.ref w_SIX)] [])) _
              rw [show ((3 : Int32) + (1 : Int32)) = (4 : Int32) from by decide]
              show Go p e below (T134.setTop (mkF m 46 #[.val (.ref a1), .val (.ref a2), .val (.ref w_WF), .val (.int (5 : Int32)), .val (.int (4 : Int32)), .val (.ref w_SIX)] [])) _
              refine g_goto X134 hx 10 (hb hby d2_46) (by decide) (by decide) ?_
              refine g_iload X134 hx (hb hby d2_10) rfl ?_
              refine g_iloadN X134 hx (hb hby d2_12) rfl ?_
              refine g_icmpNo X134 hx (hb hby d2_13) (tlt ((by decide) : (4 : Int32) < (5 : Int32))).2.1 ?_
              refine g_aloadN X134 hx (hb hby d2_16) rfl rfl ?_
              refine g_iload X134 hx (hb hby d2_17) rfl ?_
              obtain ⟨cl135, Ar135, -, sz135, -, Ha135, -⟩ := id V_w_WF
              have hin135 : ¬ ((4 : Int32) < 0 ∨ cl135.slots.size ≤ (4 : Int32).toNatClampNeg) := by rw [sz135]; decide
              have hat135 : cl135.slots[(4 : Int32).toNatClampNeg]? = some (.ref w_X) := Ha135 4 (by rw [sz135]; decide)
              refine Go.mp (fun _ k => X134.aaload hx (j := 4) (v := (.ref w_X)) (by rw [e134]; exact Ar135.1) (State.isArrayOf_alike hZ.alike Ar135.2.1) rfl Ar135.2.2 hin135 hat135 (g := (mkF m 19 #[.val (.ref a1), .val (.ref a2), .val (.ref w_WF), .val (.int (5 : Int32)), .val (.int (4 : Int32)), .val (.ref w_SIX)] [(.int (4 : Int32)), (.ref w_WF)])) rfl rfl (hb hby d2_19) _ k) ?_
              show Go p e below (T134.setTop (mkF m 20 #[.val (.ref a1), .val (.ref a2), .val (.ref w_WF), .val (.int (5 : Int32)), .val (.int (4 : Int32)), .val (.ref w_SIX)] [(.ref w_X)])) _
              refine g_astore X134 hx #[.val (.ref a1), .val (.ref a2), .val (.ref w_WF), .val (.int (5 : Int32)), .val (.int (4 : Int32)), .val (.ref w_X)] (hb hby d2_20) rfl rfl ?_
              refine g_aload X134 hx (hb hby d2_22) rfl rfl ?_
              refine g_aloadN X134 hx (hb hby d2_24) rfl rfl ?_
              show Go p e below (T134.setTop (mkF m 25 #[.val (.ref a1), .val (.ref a2), .val (.ref w_WF), .val (.int (5 : Int32)), .val (.int (4 : Int32)), .val (.ref w_X)] [(.ref a1), (.ref w_X)])) _
              obtain ⟨v136, T136, L136, X136, q136, st136⟩ := own_callV X134 hx hZ (y := (⟨"com/example/wombat/wombat/LockMode", "covers", "(Lcom/example/wombat/wombat/LockMode;)Z"⟩ : MethodName)) (pc := 25) (Ls := #[.val (.ref a1), .val (.ref a2), .val (.ref w_WF), .val (.int (5 : Int32)), .val (.int (4 : Int32)), .val (.ref w_X)]) (st := [(.ref a1), (.ref w_X)]) hown (hw _ (List.mem_of_getElem? (i := 17) rfl)) (hw _ (List.mem_of_getElem? (i := 18) rfl)) (hw _ (List.mem_of_getElem? (i := 20) rfl)) (hw _ (List.mem_of_getElem? (i := 19) rfl)) (hw _ (List.mem_of_getElem? (i := 21) rfl)) (hw _ (List.mem_of_getElem? (i := 6) rfl)) (by decide) (rm_covers l Z a0 hw w_X a1 (0 : Int32) u1 h0 n0 Z0 F_w_X_compatible F_a1_compatible) e134 E_w_X pd_0 (hb hby d2_25) (by rw [hml]; rfl) (argsL := [(.ref a1)]) (rest := []) rfl rfl rfl (W := 0) (Nat.le_of_eq rfl) (by decide) (by decide) (by decide) (by decide)
              obtain ⟨rfl, M136, e136⟩ := q136
              have N136 := Fr.app N134 M136
              have r136 : (f_covers w_X a1 (0 : Int32) u1) = (1 : Int32) := by rw [f_covers, if_pos ((own_zand _) : ((0 : Int32) &&& (u1 ^^^ (-1 : Int32))) = (0 : Int32))]
              rw [r136] at st136
              refine Go.mp st136 ?_
              show Go p e below (T136.setTop (mkF m 28 #[.val (.ref a1), .val (.ref a2), .val (.ref w_WF), .val (.int (5 : Int32)), .val (.int (4 : Int32)), .val (.ref w_X)] [(.int (1 : Int32))])) _
              refine g_ifNo X136 hx (hb hby d2_28) ((if0 _ _).trans (feq ((by decide) : ¬ ((1 : Int32) = (0 : Int32)))).1) ?_
              refine g_aload X136 hx (hb hby d2_31) rfl rfl ?_
              refine g_aloadN X136 hx (hb hby d2_33) rfl rfl ?_
              show Go p e below (T136.setTop (mkF m 34 #[.val (.ref a1), .val (.ref a2), .val (.ref w_WF), .val (.int (5 : Int32)), .val (.int (4 : Int32)), .val (.ref w_X)] [(.ref a2), (.ref w_X)])) _
              obtain ⟨v137, T137, L137, X137, q137, st137⟩ := own_callV X136 hx hZ (y := (⟨"com/example/wombat/wombat/LockMode", "covers", "(Lcom/example/wombat/wombat/LockMode;)Z"⟩ : MethodName)) (pc := 34) (Ls := #[.val (.ref a1), .val (.ref a2), .val (.ref w_WF), .val (.int (5 : Int32)), .val (.int (4 : Int32)), .val (.ref w_X)]) (st := [(.ref a2), (.ref w_X)]) hown (hw _ (List.mem_of_getElem? (i := 17) rfl)) (hw _ (List.mem_of_getElem? (i := 18) rfl)) (hw _ (List.mem_of_getElem? (i := 20) rfl)) (hw _ (List.mem_of_getElem? (i := 19) rfl)) (hw _ (List.mem_of_getElem? (i := 21) rfl)) (hw _ (List.mem_of_getElem? (i := 6) rfl)) (by decide) (rm_covers l Z a0 hw w_X a2 (0 : Int32) u2 h0 n0 Z0 F_w_X_compatible F_a2_compatible) e136 E_w_X pd_0 (hb hby d2_34) (by rw [hml]; rfl) (argsL := [(.ref a2)]) (rest := []) rfl rfl rfl (W := 0) (Nat.le_of_eq rfl) (by decide) (by decide) (by decide) (by decide)
              obtain ⟨rfl, M137, e137⟩ := q137
              have N137 := Fr.app N136 M137
              have r137 : (f_covers w_X a2 (0 : Int32) u2) = (1 : Int32) := by rw [f_covers, if_pos ((own_zand _) : ((0 : Int32) &&& (u2 ^^^ (-1 : Int32))) = (0 : Int32))]
              rw [r137] at st137
              refine Go.mp st137 ?_
              show Go p e below (T137.setTop (mkF m 37 #[.val (.ref a1), .val (.ref a2), .val (.ref w_WF), .val (.int (5 : Int32)), .val (.int (4 : Int32)), .val (.ref w_X)] [(.int (1 : Int32))])) _
              refine g_ifNo X137 hx (hb hby d2_37) ((if0 _ _).trans (feq ((by decide) : ¬ ((1 : Int32) = (0 : Int32)))).1) ?_
              refine g_aload X137 hx (hb hby d2_40) rfl rfl ?_
              exact own_retA X137 hx hret hlk rfl rfl (hb hby d2_42) (by decide) (by decide) ⟨by rw [f_combinedWith, if_neg c25_4, if_neg c25_84, if_pos c25_124, if_neg c34_126, if_pos c25_130, if_neg c34_132], N137, e137⟩
          · obtain ⟨v138, T138, L138, X138, q138, st138⟩ := own_callV X128 hx hZ (y := (⟨"com/example/wombat/wombat/LockMode", "covers", "(Lcom/example/wombat/wombat/LockMode;)Z"⟩ : MethodName)) (pc := 25) (Ls := #[.val (.ref a1), .val (.ref a2), .val (.ref w_WF), .val (.int (5 : Int32)), .val (.int (3 : Int32)), .val (.ref w_SIX)]) (st := [(.ref a1), (.ref w_SIX)]) hown (hw _ (List.mem_of_getElem? (i := 17) rfl)) (hw _ (List.mem_of_getElem? (i := 18) rfl)) (hw _ (List.mem_of_getElem? (i := 20) rfl)) (hw _ (List.mem_of_getElem? (i := 19) rfl)) (hw _ (List.mem_of_getElem? (i := 21) rfl)) (hw _ (List.mem_of_getElem? (i := 6) rfl)) (by decide) (rm_covers l Z a0 hw w_SIX a1 (1 : Int32) u1 h0 n0 Z0 F_w_SIX_compatible F_a1_compatible) e128 E_w_SIX pd_0 (hb hby d2_25) (by rw [hml]; rfl) (argsL := [(.ref a1)]) (rest := []) rfl rfl rfl (W := 0) (Nat.le_of_eq rfl) (by decide) (by decide) (by decide) (by decide)
            obtain ⟨rfl, M138, e138⟩ := q138
            have N138 := Fr.app N128 M138
            have r138 : (f_covers w_SIX a1 (1 : Int32) u1) = (0 : Int32) := by rw [f_covers, if_neg (c25_130 : ¬ (((1 : Int32) &&& (u1 ^^^ (-1 : Int32))) = (0 : Int32)))]
            rw [r138] at st138
            refine Go.mp st138 ?_
            show Go p e below (T138.setTop (mkF m 28 #[.val (.ref a1), .val (.ref a2), .val (.ref w_WF), .val (.int (5 : Int32)), .val (.int (3 : Int32)), .val (.ref w_SIX)] [(.int (0 : Int32))])) _
            refine g_ifYes X138 hx 43 (hb hby d2_28) ((if0 _ _).trans (teq ((by decide) : (0 : Int32) = (0 : Int32))).1) (by decide) (by decide) ?_
            refine Go.mp (fun _ k => XS.iinc X138.here hx rfl (hb hby d2_43) rfl (l' := #[.val (.ref a1), .val (.ref a2), .val (.ref w_WF), .val (.int (5 : Int32)), .val (.int ((3 : Int32) + (1 : Int32))), .val (.ref w_SIX)]) rfl k) ?_
            show Go p e below (T138.setTop (mkF m 46 #[.val (.ref a1), .val (.ref a2), .val (.ref w_WF), .val (.int (5 : Int32)), .val (.int ((3 : Int32) + (1 : Int32))), .val (.ref w_SIX)] [])) _
            rw [show ((3 : Int32) + (1 : Int32)) = (4 : Int32) from by decide]
            show Go p e below (T138.setTop (mkF m 46 #[.val (.ref a1), .val (.ref a2), .val (.ref w_WF), .val (.int (5 : Int32)), .val (.int (4 : Int32)), .val (.ref w_SIX)] [])) _
            refine g_goto X138 hx 10 (hb hby d2_46) (by decide) (by decide) ?_
            refine g_iload X138 hx (hb hby d2_10) rfl ?_
            refine g_iloadN X138 hx (hb hby d2_12) rfl ?_
            refine g_icmpNo X138 hx (hb hby d2_13) (tlt ((by decide) : (4 : Int32) < (5 : Int32))).2.1 ?_
            refine g_aloadN X138 hx (hb hby d2_16) rfl rfl ?_
            refine g_iload X138 hx (hb hby d2_17) rfl ?_
            obtain ⟨cl139, Ar139, -, sz139, -, Ha139, -⟩ := id V_w_WF
            have hin139 : ¬ ((4 : Int32) < 0 ∨ cl139.slots.size ≤ (4 : Int32).toNatClampNeg) := by rw [sz139]; decide
            have hat139 : cl139.slots[(4 : Int32).toNatClampNeg]? = some (.ref w_X) := Ha139 4 (by rw [sz139]; decide)
            refine Go.mp (fun _ k => X138.aaload hx (j := 4) (v := (.ref w_X)) (by rw [e138]; exact Ar139.1) (State.isArrayOf_alike hZ.alike Ar139.2.1) rfl Ar139.2.2 hin139 hat139 (g := (mkF m 19 #[.val (.ref a1), .val (.ref a2), .val (.ref w_WF), .val (.int (5 : Int32)), .val (.int (4 : Int32)), .val (.ref w_SIX)] [(.int (4 : Int32)), (.ref w_WF)])) rfl rfl (hb hby d2_19) _ k) ?_
            show Go p e below (T138.setTop (mkF m 20 #[.val (.ref a1), .val (.ref a2), .val (.ref w_WF), .val (.int (5 : Int32)), .val (.int (4 : Int32)), .val (.ref w_SIX)] [(.ref w_X)])) _
            refine g_astore X138 hx #[.val (.ref a1), .val (.ref a2), .val (.ref w_WF), .val (.int (5 : Int32)), .val (.int (4 : Int32)), .val (.ref w_X)] (hb hby d2_20) rfl rfl ?_
            refine g_aload X138 hx (hb hby d2_22) rfl rfl ?_
            refine g_aloadN X138 hx (hb hby d2_24) rfl rfl ?_
            show Go p e below (T138.setTop (mkF m 25 #[.val (.ref a1), .val (.ref a2), .val (.ref w_WF), .val (.int (5 : Int32)), .val (.int (4 : Int32)), .val (.ref w_X)] [(.ref a1), (.ref w_X)])) _
            obtain ⟨v140, T140, L140, X140, q140, st140⟩ := own_callV X138 hx hZ (y := (⟨"com/example/wombat/wombat/LockMode", "covers", "(Lcom/example/wombat/wombat/LockMode;)Z"⟩ : MethodName)) (pc := 25) (Ls := #[.val (.ref a1), .val (.ref a2), .val (.ref w_WF), .val (.int (5 : Int32)), .val (.int (4 : Int32)), .val (.ref w_X)]) (st := [(.ref a1), (.ref w_X)]) hown (hw _ (List.mem_of_getElem? (i := 17) rfl)) (hw _ (List.mem_of_getElem? (i := 18) rfl)) (hw _ (List.mem_of_getElem? (i := 20) rfl)) (hw _ (List.mem_of_getElem? (i := 19) rfl)) (hw _ (List.mem_of_getElem? (i := 21) rfl)) (hw _ (List.mem_of_getElem? (i := 6) rfl)) (by decide) (rm_covers l Z a0 hw w_X a1 (0 : Int32) u1 h0 n0 Z0 F_w_X_compatible F_a1_compatible) e138 E_w_X pd_0 (hb hby d2_25) (by rw [hml]; rfl) (argsL := [(.ref a1)]) (rest := []) rfl rfl rfl (W := 0) (Nat.le_of_eq rfl) (by decide) (by decide) (by decide) (by decide)
            obtain ⟨rfl, M140, e140⟩ := q140
            have N140 := Fr.app N138 M140
            have r140 : (f_covers w_X a1 (0 : Int32) u1) = (1 : Int32) := by rw [f_covers, if_pos ((own_zand _) : ((0 : Int32) &&& (u1 ^^^ (-1 : Int32))) = (0 : Int32))]
            rw [r140] at st140
            refine Go.mp st140 ?_
            show Go p e below (T140.setTop (mkF m 28 #[.val (.ref a1), .val (.ref a2), .val (.ref w_WF), .val (.int (5 : Int32)), .val (.int (4 : Int32)), .val (.ref w_X)] [(.int (1 : Int32))])) _
            refine g_ifNo X140 hx (hb hby d2_28) ((if0 _ _).trans (feq ((by decide) : ¬ ((1 : Int32) = (0 : Int32)))).1) ?_
            refine g_aload X140 hx (hb hby d2_31) rfl rfl ?_
            refine g_aloadN X140 hx (hb hby d2_33) rfl rfl ?_
            show Go p e below (T140.setTop (mkF m 34 #[.val (.ref a1), .val (.ref a2), .val (.ref w_WF), .val (.int (5 : Int32)), .val (.int (4 : Int32)), .val (.ref w_X)] [(.ref a2), (.ref w_X)])) _
            obtain ⟨v141, T141, L141, X141, q141, st141⟩ := own_callV X140 hx hZ (y := (⟨"com/example/wombat/wombat/LockMode", "covers", "(Lcom/example/wombat/wombat/LockMode;)Z"⟩ : MethodName)) (pc := 34) (Ls := #[.val (.ref a1), .val (.ref a2), .val (.ref w_WF), .val (.int (5 : Int32)), .val (.int (4 : Int32)), .val (.ref w_X)]) (st := [(.ref a2), (.ref w_X)]) hown (hw _ (List.mem_of_getElem? (i := 17) rfl)) (hw _ (List.mem_of_getElem? (i := 18) rfl)) (hw _ (List.mem_of_getElem? (i := 20) rfl)) (hw _ (List.mem_of_getElem? (i := 19) rfl)) (hw _ (List.mem_of_getElem? (i := 21) rfl)) (hw _ (List.mem_of_getElem? (i := 6) rfl)) (by decide) (rm_covers l Z a0 hw w_X a2 (0 : Int32) u2 h0 n0 Z0 F_w_X_compatible F_a2_compatible) e140 E_w_X pd_0 (hb hby d2_34) (by rw [hml]; rfl) (argsL := [(.ref a2)]) (rest := []) rfl rfl rfl (W := 0) (Nat.le_of_eq rfl) (by decide) (by decide) (by decide) (by decide)
            obtain ⟨rfl, M141, e141⟩ := q141
            have N141 := Fr.app N140 M141
            have r141 : (f_covers w_X a2 (0 : Int32) u2) = (1 : Int32) := by rw [f_covers, if_pos ((own_zand _) : ((0 : Int32) &&& (u2 ^^^ (-1 : Int32))) = (0 : Int32))]
            rw [r141] at st141
            refine Go.mp st141 ?_
            show Go p e below (T141.setTop (mkF m 37 #[.val (.ref a1), .val (.ref a2), .val (.ref w_WF), .val (.int (5 : Int32)), .val (.int (4 : Int32)), .val (.ref w_X)] [(.int (1 : Int32))])) _
            refine g_ifNo X141 hx (hb hby d2_37) ((if0 _ _).trans (feq ((by decide) : ¬ ((1 : Int32) = (0 : Int32)))).1) ?_
            refine g_aload X141 hx (hb hby d2_40) rfl rfl ?_
            exact own_retA X141 hx hret hlk rfl rfl (hb hby d2_42) (by decide) (by decide) ⟨by rw [f_combinedWith, if_neg c25_4, if_neg c25_84, if_pos c25_124, if_neg c34_126, if_neg c25_130], N141, e141⟩
      · obtain ⟨v142, T142, L142, X142, q142, st142⟩ := own_callV X122 hx hZ (y := (⟨"com/example/wombat/wombat/LockMode", "covers", "(Lcom/example/wombat/wombat/LockMode;)Z"⟩ : MethodName)) (pc := 25) (Ls := #[.val (.ref a1), .val (.ref a2), .val (.ref w_WF), .val (.int (5 : Int32)), .val (.int (2 : Int32)), .val (.ref w_S)]) (st := [(.ref a1), (.ref w_S)]) hown (hw _ (List.mem_of_getElem? (i := 17) rfl)) (hw _ (List.mem_of_getElem? (i := 18) rfl)) (hw _ (List.mem_of_getElem? (i := 20) rfl)) (hw _ (List.mem_of_getElem? (i := 19) rfl)) (hw _ (List.mem_of_getElem? (i := 21) rfl)) (hw _ (List.mem_of_getElem? (i := 6) rfl)) (by decide) (rm_covers l Z a0 hw w_S a1 (5 : Int32) u1 h0 n0 Z0 F_w_S_compatible F_a1_compatible) e122 E_w_S pd_0 (hb hby d2_25) (by rw [hml]; rfl) (argsL := [(.ref a1)]) (rest := []) rfl rfl rfl (W := 0) (Nat.le_of_eq rfl) (by decide) (by decide) (by decide) (by decide)
        obtain ⟨rfl, M142, e142⟩ := q142
        have N142 := Fr.app N122 M142
        have r142 : (f_covers w_S a1 (5 : Int32) u1) = (0 : Int32) := by rw [f_covers, if_neg (c25_124 : ¬ (((5 : Int32) &&& (u1 ^^^ (-1 : Int32))) = (0 : Int32)))]
        rw [r142] at st142
        refine Go.mp st142 ?_
        show Go p e below (T142.setTop (mkF m 28 #[.val (.ref a1), .val (.ref a2), .val (.ref w_WF), .val (.int (5 : Int32)), .val (.int (2 : Int32)), .val (.ref w_S)] [(.int (0 : Int32))])) _
        refine g_ifYes X142 hx 43 (hb hby d2_28) ((if0 _ _).trans (teq ((by decide) : (0 : Int32) = (0 : Int32))).1) (by decide) (by decide) ?_
        refine Go.mp (fun _ k => XS.iinc X142.here hx rfl (hb hby d2_43) rfl (l' := #[.val (.ref a1), .val (.ref a2), .val (.ref w_WF), .val (.int (5 : Int32)), .val (.int ((2 : Int32) + (1 : Int32))), .val (.ref w_S)]) rfl k) ?_
        show Go p e below (T142.setTop (mkF m 46 #[.val (.ref a1), .val (.ref a2), .val (.ref w_WF), .val (.int (5 : Int32)), .val (.int ((2 : Int32) + (1 : Int32))), .val (.ref w_S)] [])) _
        rw [show ((2 : Int32) + (1 : Int32)) = (3 : Int32) from by decide]
        show Go p e below (T142.setTop (mkF m 46 #[.val (.ref a1), .val (.ref a2), .val (.ref w_WF), .val (.int (5 : Int32)), .val (.int (3 : Int32)), .val (.ref w_S)] [])) _
        refine g_goto X142 hx 10 (hb hby d2_46) (by decide) (by decide) ?_
        refine g_iload X142 hx (hb hby d2_10) rfl ?_
        refine g_iloadN X142 hx (hb hby d2_12) rfl ?_
        refine g_icmpNo X142 hx (hb hby d2_13) (tlt ((by decide) : (3 : Int32) < (5 : Int32))).2.1 ?_
        refine g_aloadN X142 hx (hb hby d2_16) rfl rfl ?_
        refine g_iload X142 hx (hb hby d2_17) rfl ?_
        obtain ⟨cl143, Ar143, -, sz143, -, Ha143, -⟩ := id V_w_WF
        have hin143 : ¬ ((3 : Int32) < 0 ∨ cl143.slots.size ≤ (3 : Int32).toNatClampNeg) := by rw [sz143]; decide
        have hat143 : cl143.slots[(3 : Int32).toNatClampNeg]? = some (.ref w_SIX) := Ha143 3 (by rw [sz143]; decide)
        refine Go.mp (fun _ k => X142.aaload hx (j := 3) (v := (.ref w_SIX)) (by rw [e142]; exact Ar143.1) (State.isArrayOf_alike hZ.alike Ar143.2.1) rfl Ar143.2.2 hin143 hat143 (g := (mkF m 19 #[.val (.ref a1), .val (.ref a2), .val (.ref w_WF), .val (.int (5 : Int32)), .val (.int (3 : Int32)), .val (.ref w_S)] [(.int (3 : Int32)), (.ref w_WF)])) rfl rfl (hb hby d2_19) _ k) ?_
        show Go p e below (T142.setTop (mkF m 20 #[.val (.ref a1), .val (.ref a2), .val (.ref w_WF), .val (.int (5 : Int32)), .val (.int (3 : Int32)), .val (.ref w_S)] [(.ref w_SIX)])) _
        refine g_astore X142 hx #[.val (.ref a1), .val (.ref a2), .val (.ref w_WF), .val (.int (5 : Int32)), .val (.int (3 : Int32)), .val (.ref w_SIX)] (hb hby d2_20) rfl rfl ?_
        refine g_aload X142 hx (hb hby d2_22) rfl rfl ?_
        refine g_aloadN X142 hx (hb hby d2_24) rfl rfl ?_
        show Go p e below (T142.setTop (mkF m 25 #[.val (.ref a1), .val (.ref a2), .val (.ref w_WF), .val (.int (5 : Int32)), .val (.int (3 : Int32)), .val (.ref w_SIX)] [(.ref a1), (.ref w_SIX)])) _
        by_cases c25_144 : ((1 : Int32) &&& (u1 ^^^ (-1 : Int32))) = (0 : Int32)
        · obtain ⟨v145, T145, L145, X145, q145, st145⟩ := own_callV X142 hx hZ (y := (⟨"com/example/wombat/wombat/LockMode", "covers", "(Lcom/example/wombat/wombat/LockMode;)Z"⟩ : MethodName)) (pc := 25) (Ls := #[.val (.ref a1), .val (.ref a2), .val (.ref w_WF), .val (.int (5 : Int32)), .val (.int (3 : Int32)), .val (.ref w_SIX)]) (st := [(.ref a1), (.ref w_SIX)]) hown (hw _ (List.mem_of_getElem? (i := 17) rfl)) (hw _ (List.mem_of_getElem? (i := 18) rfl)) (hw _ (List.mem_of_getElem? (i := 20) rfl)) (hw _ (List.mem_of_getElem? (i := 19) rfl)) (hw _ (List.mem_of_getElem? (i := 21) rfl)) (hw _ (List.mem_of_getElem? (i := 6) rfl)) (by decide) (rm_covers l Z a0 hw w_SIX a1 (1 : Int32) u1 h0 n0 Z0 F_w_SIX_compatible F_a1_compatible) e142 E_w_SIX pd_0 (hb hby d2_25) (by rw [hml]; rfl) (argsL := [(.ref a1)]) (rest := []) rfl rfl rfl (W := 0) (Nat.le_of_eq rfl) (by decide) (by decide) (by decide) (by decide)
          obtain ⟨rfl, M145, e145⟩ := q145
          have N145 := Fr.app N142 M145
          have r145 : (f_covers w_SIX a1 (1 : Int32) u1) = (1 : Int32) := by rw [f_covers, if_pos (c25_144 : ((1 : Int32) &&& (u1 ^^^ (-1 : Int32))) = (0 : Int32))]
          rw [r145] at st145
          refine Go.mp st145 ?_
          show Go p e below (T145.setTop (mkF m 28 #[.val (.ref a1), .val (.ref a2), .val (.ref w_WF), .val (.int (5 : Int32)), .val (.int (3 : Int32)), .val (.ref w_SIX)] [(.int (1 : Int32))])) _
          refine g_ifNo X145 hx (hb hby d2_28) ((if0 _ _).trans (feq ((by decide) : ¬ ((1 : Int32) = (0 : Int32)))).1) ?_
          refine g_aload X145 hx (hb hby d2_31) rfl rfl ?_
          refine g_aloadN X145 hx (hb hby d2_33) rfl rfl ?_
          show Go p e below (T145.setTop (mkF m 34 #[.val (.ref a1), .val (.ref a2), .val (.ref w_WF), .val (.int (5 : Int32)), .val (.int (3 : Int32)), .val (.ref w_SIX)] [(.ref a2), (.ref w_SIX)])) _
          by_cases c34_146 : ((1 : Int32) &&& (u2 ^^^ (-1 : Int32))) = (0 : Int32)
          · obtain ⟨v147, T147, L147, X147, q147, st147⟩ := own_callV X145 hx hZ (y := (⟨"com/example/wombat/wombat/LockMode", "covers", "(Lcom/example/wombat/wombat/LockMode;)Z"⟩ : MethodName)) (pc := 34) (Ls := #[.val (.ref a1), .val (.ref a2), .val (.ref w_WF), .val (.int (5 : Int32)), .val (.int (3 : Int32)), .val (.ref w_SIX)]) (st := [(.ref a2), (.ref w_SIX)]) hown (hw _ (List.mem_of_getElem? (i := 17) rfl)) (hw _ (List.mem_of_getElem? (i := 18) rfl)) (hw _ (List.mem_of_getElem? (i := 20) rfl)) (hw _ (List.mem_of_getElem? (i := 19) rfl)) (hw _ (List.mem_of_getElem? (i := 21) rfl)) (hw _ (List.mem_of_getElem? (i := 6) rfl)) (by decide) (rm_covers l Z a0 hw w_SIX a2 (1 : Int32) u2 h0 n0 Z0 F_w_SIX_compatible F_a2_compatible) e145 E_w_SIX pd_0 (hb hby d2_34) (by rw [hml]; rfl) (argsL := [(.ref a2)]) (rest := []) rfl rfl rfl (W := 0) (Nat.le_of_eq rfl) (by decide) (by decide) (by decide) (by decide)
            obtain ⟨rfl, M147, e147⟩ := q147
            have N147 := Fr.app N145 M147
            have r147 : (f_covers w_SIX a2 (1 : Int32) u2) = (1 : Int32) := by rw [f_covers, if_pos (c34_146 : ((1 : Int32) &&& (u2 ^^^ (-1 : Int32))) = (0 : Int32))]
            rw [r147] at st147
            refine Go.mp st147 ?_
            show Go p e below (T147.setTop (mkF m 37 #[.val (.ref a1), .val (.ref a2), .val (.ref w_WF), .val (.int (5 : Int32)), .val (.int (3 : Int32)), .val (.ref w_SIX)] [(.int (1 : Int32))])) _
            refine g_ifNo X147 hx (hb hby d2_37) ((if0 _ _).trans (feq ((by decide) : ¬ ((1 : Int32) = (0 : Int32)))).1) ?_
            refine g_aload X147 hx (hb hby d2_40) rfl rfl ?_
            exact own_retA X147 hx hret hlk rfl rfl (hb hby d2_42) (by decide) (by decide) ⟨by rw [f_combinedWith, if_neg c25_4, if_neg c25_84, if_neg c25_124, if_pos c25_144, if_pos c34_146], N147, e147⟩
          · obtain ⟨v148, T148, L148, X148, q148, st148⟩ := own_callV X145 hx hZ (y := (⟨"com/example/wombat/wombat/LockMode", "covers", "(Lcom/example/wombat/wombat/LockMode;)Z"⟩ : MethodName)) (pc := 34) (Ls := #[.val (.ref a1), .val (.ref a2), .val (.ref w_WF), .val (.int (5 : Int32)), .val (.int (3 : Int32)), .val (.ref w_SIX)]) (st := [(.ref a2), (.ref w_SIX)]) hown (hw _ (List.mem_of_getElem? (i := 17) rfl)) (hw _ (List.mem_of_getElem? (i := 18) rfl)) (hw _ (List.mem_of_getElem? (i := 20) rfl)) (hw _ (List.mem_of_getElem? (i := 19) rfl)) (hw _ (List.mem_of_getElem? (i := 21) rfl)) (hw _ (List.mem_of_getElem? (i := 6) rfl)) (by decide) (rm_covers l Z a0 hw w_SIX a2 (1 : Int32) u2 h0 n0 Z0 F_w_SIX_compatible F_a2_compatible) e145 E_w_SIX pd_0 (hb hby d2_34) (by rw [hml]; rfl) (argsL := [(.ref a2)]) (rest := []) rfl rfl rfl (W := 0) (Nat.le_of_eq rfl) (by decide) (by decide) (by decide) (by decide)
            obtain ⟨rfl, M148, e148⟩ := q148
            have N148 := Fr.app N145 M148
            have r148 : (f_covers w_SIX a2 (1 : Int32) u2) = (0 : Int32) := by rw [f_covers, if_neg (c34_146 : ¬ (((1 : Int32) &&& (u2 ^^^ (-1 : Int32))) = (0 : Int32)))]
            rw [r148] at st148
            refine Go.mp st148 ?_
            show Go p e below (T148.setTop (mkF m 37 #[.val (.ref a1), .val (.ref a2), .val (.ref w_WF), .val (.int (5 : Int32)), .val (.int (3 : Int32)), .val (.ref w_SIX)] [(.int (0 : Int32))])) _
            refine g_ifYes X148 hx 43 (hb hby d2_37) ((if0 _ _).trans (teq ((by decide) : (0 : Int32) = (0 : Int32))).1) (by decide) (by decide) ?_
            refine Go.mp (fun _ k => XS.iinc X148.here hx rfl (hb hby d2_43) rfl (l' := #[.val (.ref a1), .val (.ref a2), .val (.ref w_WF), .val (.int (5 : Int32)), .val (.int ((3 : Int32) + (1 : Int32))), .val (.ref w_SIX)]) rfl k) ?_
            show Go p e below (T148.setTop (mkF m 46 #[.val (.ref a1), .val (.ref a2), .val (.ref w_WF), .val (.int (5 : Int32)), .val (.int ((3 : Int32) + (1 : Int32))), .val (.ref w_SIX)] [])) _
            rw [show ((3 : Int32) + (1 : Int32)) = (4 : Int32) from by decide]
            show Go p e below (T148.setTop (mkF m 46 #[.val (.ref a1), .val (.ref a2), .val (.ref w_WF), .val (.int (5 : Int32)), .val (.int (4 : Int32)), .val (.ref w_SIX)] [])) _
            refine g_goto X148 hx 10 (hb hby d2_46) (by decide) (by decide) ?_
            refine g_iload X148 hx (hb hby d2_10) rfl ?_
            refine g_iloadN X148 hx (hb hby d2_12) rfl ?_
            refine g_icmpNo X148 hx (hb hby d2_13) (tlt ((by decide) : (4 : Int32) < (5 : Int32))).2.1 ?_
            refine g_aloadN X148 hx (hb hby d2_16) rfl rfl ?_
            refine g_iload X148 hx (hb hby d2_17) rfl ?_
            obtain ⟨cl149, Ar149, -, sz149, -, Ha149, -⟩ := id V_w_WF
            have hin149 : ¬ ((4 : Int32) < 0 ∨ cl149.slots.size ≤ (4 : Int32).toNatClampNeg) := by rw [sz149]; decide
            have hat149 : cl149.slots[(4 : Int32).toNatClampNeg]? = some (.ref w_X) := Ha149 4 (by rw [sz149]; decide)
            refine Go.mp (fun _ k => X148.aaload hx (j := 4) (v := (.ref w_X)) (by rw [e148]; exact Ar149.1) (State.isArrayOf_alike hZ.alike Ar149.2.1) rfl Ar149.2.2 hin149 hat149 (g := (mkF m 19 #[.val (.ref a1), .val (.ref a2), .val (.ref w_WF), .val (.int (5 : Int32)), .val (.int (4 : Int32)), .val (.ref w_SIX)] [(.int (4 : Int32)), (.ref w_WF)])) rfl rfl (hb hby d2_19) _ k) ?_
            show Go p e below (T148.setTop (mkF m 20 #[.val (.ref a1), .val (.ref a2), .val (.ref w_WF), .val (.int (5 : Int32)), .val (.int (4 : Int32)), .val (.ref w_SIX)] [(.ref w_X)])) _
            refine g_astore X148 hx #[.val (.ref a1), .val (.ref a2), .val (.ref w_WF), .val (.int (5 : Int32)), .val (.int (4 : Int32)), .val (.ref w_X)] (hb hby d2_20) rfl rfl ?_
            refine g_aload X148 hx (hb hby d2_22) rfl rfl ?_
            refine g_aloadN X148 hx (hb hby d2_24) rfl rfl ?_
            show Go p e below (T148.setTop (mkF m 25 #[.val (.ref a1), .val (.ref a2), .val (.ref w_WF), .val (.int (5 : Int32)), .val (.int (4 : Int32)), .val (.ref w_X)] [(.ref a1), (.ref w_X)])) _
            obtain ⟨v150, T150, L150, X150, q150, st150⟩ := own_callV X148 hx hZ (y := (⟨"com/example/wombat/wombat/LockMode", "covers", "(Lcom/example/wombat/wombat/LockMode;)Z"⟩ : MethodName)) (pc := 25) (Ls := #[.val (.ref a1), .val (.ref a2), .val (.ref w_WF), .val (.int (5 : Int32)), .val (.int (4 : Int32)), .val (.ref w_X)]) (st := [(.ref a1), (.ref w_X)]) hown (hw _ (List.mem_of_getElem? (i := 17) rfl)) (hw _ (List.mem_of_getElem? (i := 18) rfl)) (hw _ (List.mem_of_getElem? (i := 20) rfl)) (hw _ (List.mem_of_getElem? (i := 19) rfl)) (hw _ (List.mem_of_getElem? (i := 21) rfl)) (hw _ (List.mem_of_getElem? (i := 6) rfl)) (by decide) (rm_covers l Z a0 hw w_X a1 (0 : Int32) u1 h0 n0 Z0 F_w_X_compatible F_a1_compatible) e148 E_w_X pd_0 (hb hby d2_25) (by rw [hml]; rfl) (argsL := [(.ref a1)]) (rest := []) rfl rfl rfl (W := 0) (Nat.le_of_eq rfl) (by decide) (by decide) (by decide) (by decide)
            obtain ⟨rfl, M150, e150⟩ := q150
            have N150 := Fr.app N148 M150
            have r150 : (f_covers w_X a1 (0 : Int32) u1) = (1 : Int32) := by rw [f_covers, if_pos ((own_zand _) : ((0 : Int32) &&& (u1 ^^^ (-1 : Int32))) = (0 : Int32))]
            rw [r150] at st150
            refine Go.mp st150 ?_
            show Go p e below (T150.setTop (mkF m 28 #[.val (.ref a1), .val (.ref a2), .val (.ref w_WF), .val (.int (5 : Int32)), .val (.int (4 : Int32)), .val (.ref w_X)] [(.int (1 : Int32))])) _
            refine g_ifNo X150 hx (hb hby d2_28) ((if0 _ _).trans (feq ((by decide) : ¬ ((1 : Int32) = (0 : Int32)))).1) ?_
            refine g_aload X150 hx (hb hby d2_31) rfl rfl ?_
            refine g_aloadN X150 hx (hb hby d2_33) rfl rfl ?_
            show Go p e below (T150.setTop (mkF m 34 #[.val (.ref a1), .val (.ref a2), .val (.ref w_WF), .val (.int (5 : Int32)), .val (.int (4 : Int32)), .val (.ref w_X)] [(.ref a2), (.ref w_X)])) _
            obtain ⟨v151, T151, L151, X151, q151, st151⟩ := own_callV X150 hx hZ (y := (⟨"com/example/wombat/wombat/LockMode", "covers", "(Lcom/example/wombat/wombat/LockMode;)Z"⟩ : MethodName)) (pc := 34) (Ls := #[.val (.ref a1), .val (.ref a2), .val (.ref w_WF), .val (.int (5 : Int32)), .val (.int (4 : Int32)), .val (.ref w_X)]) (st := [(.ref a2), (.ref w_X)]) hown (hw _ (List.mem_of_getElem? (i := 17) rfl)) (hw _ (List.mem_of_getElem? (i := 18) rfl)) (hw _ (List.mem_of_getElem? (i := 20) rfl)) (hw _ (List.mem_of_getElem? (i := 19) rfl)) (hw _ (List.mem_of_getElem? (i := 21) rfl)) (hw _ (List.mem_of_getElem? (i := 6) rfl)) (by decide) (rm_covers l Z a0 hw w_X a2 (0 : Int32) u2 h0 n0 Z0 F_w_X_compatible F_a2_compatible) e150 E_w_X pd_0 (hb hby d2_34) (by rw [hml]; rfl) (argsL := [(.ref a2)]) (rest := []) rfl rfl rfl (W := 0) (Nat.le_of_eq rfl) (by decide) (by decide) (by decide) (by decide)
            obtain ⟨rfl, M151, e151⟩ := q151
            have N151 := Fr.app N150 M151
            have r151 : (f_covers w_X a2 (0 : Int32) u2) = (1 : Int32) := by rw [f_covers, if_pos ((own_zand _) : ((0 : Int32) &&& (u2 ^^^ (-1 : Int32))) = (0 : Int32))]
            rw [r151] at st151
            refine Go.mp st151 ?_
            show Go p e below (T151.setTop (mkF m 37 #[.val (.ref a1), .val (.ref a2), .val (.ref w_WF), .val (.int (5 : Int32)), .val (.int (4 : Int32)), .val (.ref w_X)] [(.int (1 : Int32))])) _
            refine g_ifNo X151 hx (hb hby d2_37) ((if0 _ _).trans (feq ((by decide) : ¬ ((1 : Int32) = (0 : Int32)))).1) ?_
            refine g_aload X151 hx (hb hby d2_40) rfl rfl ?_
            exact own_retA X151 hx hret hlk rfl rfl (hb hby d2_42) (by decide) (by decide) ⟨by rw [f_combinedWith, if_neg c25_4, if_neg c25_84, if_neg c25_124, if_pos c25_144, if_neg c34_146], N151, e151⟩
        · obtain ⟨v152, T152, L152, X152, q152, st152⟩ := own_callV X142 hx hZ (y := (⟨"com/example/wombat/wombat/LockMode", "covers", "(Lcom/example/wombat/wombat/LockMode;)Z"⟩ : MethodName)) (pc := 25) (Ls := #[.val (.ref a1), .val (.ref a2), .val (.ref w_WF), .val (.int (5 : Int32)), .val (.int (3 : Int32)), .val (.ref w_SIX)]) (st := [(.ref a1), (.ref w_SIX)]) hown (hw _ (List.mem_of_getElem? (i := 17) rfl)) (hw _ (List.mem_of_getElem? (i := 18) rfl)) (hw _ (List.mem_of_getElem? (i := 20) rfl)) (hw _ (List.mem_of_getElem? (i := 19) rfl)) (hw _ (List.mem_of_getElem? (i := 21) rfl)) (hw _ (List.mem_of_getElem? (i := 6) rfl)) (by decide) (rm_covers l Z a0 hw w_SIX a1 (1 : Int32) u1 h0 n0 Z0 F_w_SIX_compatible F_a1_compatible) e142 E_w_SIX pd_0 (hb hby d2_25) (by rw [hml]; rfl) (argsL := [(.ref a1)]) (rest := []) rfl rfl rfl (W := 0) (Nat.le_of_eq rfl) (by decide) (by decide) (by decide) (by decide)
          obtain ⟨rfl, M152, e152⟩ := q152
          have N152 := Fr.app N142 M152
          have r152 : (f_covers w_SIX a1 (1 : Int32) u1) = (0 : Int32) := by rw [f_covers, if_neg (c25_144 : ¬ (((1 : Int32) &&& (u1 ^^^ (-1 : Int32))) = (0 : Int32)))]
          rw [r152] at st152
          refine Go.mp st152 ?_
          show Go p e below (T152.setTop (mkF m 28 #[.val (.ref a1), .val (.ref a2), .val (.ref w_WF), .val (.int (5 : Int32)), .val (.int (3 : Int32)), .val (.ref w_SIX)] [(.int (0 : Int32))])) _
          refine g_ifYes X152 hx 43 (hb hby d2_28) ((if0 _ _).trans (teq ((by decide) : (0 : Int32) = (0 : Int32))).1) (by decide) (by decide) ?_
          refine Go.mp (fun _ k => XS.iinc X152.here hx rfl (hb hby d2_43) rfl (l' := #[.val (.ref a1), .val (.ref a2), .val (.ref w_WF), .val (.int (5 : Int32)), .val (.int ((3 : Int32) + (1 : Int32))), .val (.ref w_SIX)]) rfl k) ?_
          show Go p e below (T152.setTop (mkF m 46 #[.val (.ref a1), .val (.ref a2), .val (.ref w_WF), .val (.int (5 : Int32)), .val (.int ((3 : Int32) + (1 : Int32))), .val (.ref w_SIX)] [])) _
          rw [show ((3 : Int32) + (1 : Int32)) = (4 : Int32) from by decide]
          show Go p e below (T152.setTop (mkF m 46 #[.val (.ref a1), .val (.ref a2), .val (.ref w_WF), .val (.int (5 : Int32)), .val (.int (4 : Int32)), .val (.ref w_SIX)] [])) _
          refine g_goto X152 hx 10 (hb hby d2_46) (by decide) (by decide) ?_
          refine g_iload X152 hx (hb hby d2_10) rfl ?_
          refine g_iloadN X152 hx (hb hby d2_12) rfl ?_
          refine g_icmpNo X152 hx (hb hby d2_13) (tlt ((by decide) : (4 : Int32) < (5 : Int32))).2.1 ?_
          refine g_aloadN X152 hx (hb hby d2_16) rfl rfl ?_
          refine g_iload X152 hx (hb hby d2_17) rfl ?_
          obtain ⟨cl153, Ar153, -, sz153, -, Ha153, -⟩ := id V_w_WF
          have hin153 : ¬ ((4 : Int32) < 0 ∨ cl153.slots.size ≤ (4 : Int32).toNatClampNeg) := by rw [sz153]; decide
          have hat153 : cl153.slots[(4 : Int32).toNatClampNeg]? = some (.ref w_X) := Ha153 4 (by rw [sz153]; decide)
          refine Go.mp (fun _ k => X152.aaload hx (j := 4) (v := (.ref w_X)) (by rw [e152]; exact Ar153.1) (State.isArrayOf_alike hZ.alike Ar153.2.1) rfl Ar153.2.2 hin153 hat153 (g := (mkF m 19 #[.val (.ref a1), .val (.ref a2), .val (.ref w_WF), .val (.int (5 : Int32)), .val (.int (4 : Int32)), .val (.ref w_SIX)] [(.int (4 : Int32)), (.ref w_WF)])) rfl rfl (hb hby d2_19) _ k) ?_
          show Go p e below (T152.setTop (mkF m 20 #[.val (.ref a1), .val (.ref a2), .val (.ref w_WF), .val (.int (5 : Int32)), .val (.int (4 : Int32)), .val (.ref w_SIX)] [(.ref w_X)])) _
          refine g_astore X152 hx #[.val (.ref a1), .val (.ref a2), .val (.ref w_WF), .val (.int (5 : Int32)), .val (.int (4 : Int32)), .val (.ref w_X)] (hb hby d2_20) rfl rfl ?_
          refine g_aload X152 hx (hb hby d2_22) rfl rfl ?_
          refine g_aloadN X152 hx (hb hby d2_24) rfl rfl ?_
          show Go p e below (T152.setTop (mkF m 25 #[.val (.ref a1), .val (.ref a2), .val (.ref w_WF), .val (.int (5 : Int32)), .val (.int (4 : Int32)), .val (.ref w_X)] [(.ref a1), (.ref w_X)])) _
          obtain ⟨v154, T154, L154, X154, q154, st154⟩ := own_callV X152 hx hZ (y := (⟨"com/example/wombat/wombat/LockMode", "covers", "(Lcom/example/wombat/wombat/LockMode;)Z"⟩ : MethodName)) (pc := 25) (Ls := #[.val (.ref a1), .val (.ref a2), .val (.ref w_WF), .val (.int (5 : Int32)), .val (.int (4 : Int32)), .val (.ref w_X)]) (st := [(.ref a1), (.ref w_X)]) hown (hw _ (List.mem_of_getElem? (i := 17) rfl)) (hw _ (List.mem_of_getElem? (i := 18) rfl)) (hw _ (List.mem_of_getElem? (i := 20) rfl)) (hw _ (List.mem_of_getElem? (i := 19) rfl)) (hw _ (List.mem_of_getElem? (i := 21) rfl)) (hw _ (List.mem_of_getElem? (i := 6) rfl)) (by decide) (rm_covers l Z a0 hw w_X a1 (0 : Int32) u1 h0 n0 Z0 F_w_X_compatible F_a1_compatible) e152 E_w_X pd_0 (hb hby d2_25) (by rw [hml]; rfl) (argsL := [(.ref a1)]) (rest := []) rfl rfl rfl (W := 0) (Nat.le_of_eq rfl) (by decide) (by decide) (by decide) (by decide)
          obtain ⟨rfl, M154, e154⟩ := q154
          have N154 := Fr.app N152 M154
          have r154 : (f_covers w_X a1 (0 : Int32) u1) = (1 : Int32) := by rw [f_covers, if_pos ((own_zand _) : ((0 : Int32) &&& (u1 ^^^ (-1 : Int32))) = (0 : Int32))]
          rw [r154] at st154
          refine Go.mp st154 ?_
          show Go p e below (T154.setTop (mkF m 28 #[.val (.ref a1), .val (.ref a2), .val (.ref w_WF), .val (.int (5 : Int32)), .val (.int (4 : Int32)), .val (.ref w_X)] [(.int (1 : Int32))])) _
          refine g_ifNo X154 hx (hb hby d2_28) ((if0 _ _).trans (feq ((by decide) : ¬ ((1 : Int32) = (0 : Int32)))).1) ?_
          refine g_aload X154 hx (hb hby d2_31) rfl rfl ?_
          refine g_aloadN X154 hx (hb hby d2_33) rfl rfl ?_
          show Go p e below (T154.setTop (mkF m 34 #[.val (.ref a1), .val (.ref a2), .val (.ref w_WF), .val (.int (5 : Int32)), .val (.int (4 : Int32)), .val (.ref w_X)] [(.ref a2), (.ref w_X)])) _
          obtain ⟨v155, T155, L155, X155, q155, st155⟩ := own_callV X154 hx hZ (y := (⟨"com/example/wombat/wombat/LockMode", "covers", "(Lcom/example/wombat/wombat/LockMode;)Z"⟩ : MethodName)) (pc := 34) (Ls := #[.val (.ref a1), .val (.ref a2), .val (.ref w_WF), .val (.int (5 : Int32)), .val (.int (4 : Int32)), .val (.ref w_X)]) (st := [(.ref a2), (.ref w_X)]) hown (hw _ (List.mem_of_getElem? (i := 17) rfl)) (hw _ (List.mem_of_getElem? (i := 18) rfl)) (hw _ (List.mem_of_getElem? (i := 20) rfl)) (hw _ (List.mem_of_getElem? (i := 19) rfl)) (hw _ (List.mem_of_getElem? (i := 21) rfl)) (hw _ (List.mem_of_getElem? (i := 6) rfl)) (by decide) (rm_covers l Z a0 hw w_X a2 (0 : Int32) u2 h0 n0 Z0 F_w_X_compatible F_a2_compatible) e154 E_w_X pd_0 (hb hby d2_34) (by rw [hml]; rfl) (argsL := [(.ref a2)]) (rest := []) rfl rfl rfl (W := 0) (Nat.le_of_eq rfl) (by decide) (by decide) (by decide) (by decide)
          obtain ⟨rfl, M155, e155⟩ := q155
          have N155 := Fr.app N154 M155
          have r155 : (f_covers w_X a2 (0 : Int32) u2) = (1 : Int32) := by rw [f_covers, if_pos ((own_zand _) : ((0 : Int32) &&& (u2 ^^^ (-1 : Int32))) = (0 : Int32))]
          rw [r155] at st155
          refine Go.mp st155 ?_
          show Go p e below (T155.setTop (mkF m 37 #[.val (.ref a1), .val (.ref a2), .val (.ref w_WF), .val (.int (5 : Int32)), .val (.int (4 : Int32)), .val (.ref w_X)] [(.int (1 : Int32))])) _
          refine g_ifNo X155 hx (hb hby d2_37) ((if0 _ _).trans (feq ((by decide) : ¬ ((1 : Int32) = (0 : Int32)))).1) ?_
          refine g_aload X155 hx (hb hby d2_40) rfl rfl ?_
          exact own_retA X155 hx hret hlk rfl rfl (hb hby d2_42) (by decide) (by decide) ⟨by rw [f_combinedWith, if_neg c25_4, if_neg c25_84, if_neg c25_124, if_neg c25_144], N155, e155⟩
theorem own_mod5 (x : Int32) : ((x &&& (2147483647 : Int32)) % (5 : Int32)) = (0 : Int32) ∨ ((x &&& (2147483647 : Int32)) % (5 : Int32)) = (1 : Int32) ∨ ((x &&& (2147483647 : Int32)) % (5 : Int32)) = (2 : Int32) ∨ ((x &&& (2147483647 : Int32)) % (5 : Int32)) = (3 : Int32) ∨ ((x &&& (2147483647 : Int32)) % (5 : Int32)) = (4 : Int32) := by
  have a : 0 ≤ (x &&& (2147483647 : Int32)).toInt := (c_and x 2147483647 (by decide)).1
  have b := (c_irem (x &&& (2147483647 : Int32)) (5 : Int32) 5 rfl).1 a
  simp only [← Int32.toInt_inj, b, Int32.reduceToInt]
  omega
theorem pd_1 : parseMethodDescriptor "(I)Lcom/example/wombat/wombat/LockMode;" = some ⟨[FieldType.int], some (FieldType.object "com/example/wombat/wombat/LockMode")⟩ := by decide +kernel
theorem pd_2 : parseMethodDescriptor "(Lcom/example/wombat/wombat/LockMode;)Lcom/example/wombat/wombat/LockMode;" = some ⟨[(FieldType.object "com/example/wombat/wombat/LockMode")], some (FieldType.object "com/example/wombat/wombat/LockMode")⟩ := by decide +kernel
theorem pd_3 : parseMethodDescriptor "(Lcom/example/wombat/wombat/LockMode;Lcom/example/wombat/wombat/LockMode;)Lcom/example/wombat/wombat/LockMode;" = some ⟨[(FieldType.object "com/example/wombat/wombat/LockMode"), (FieldType.object "com/example/wombat/wombat/LockMode")], some (FieldType.object "com/example/wombat/wombat/LockMode")⟩ := by decide +kernel
theorem ef_rm_law (m : MethodId) (x0 : Int32) (x1 : Int32) : entryFrame m #[(.int x0), (.int x1)] maxLocals = mkF m 0 #[.val (.int x0), .val (.int x1), .unset, .unset, .unset] [] := by first | (simp [entryFrame, mkF, argsToLocals, Value.category, maxLocals]; done) | rfl
set_option maxRecDepth 65536 in
set_option maxHeartbeats 40000000 in
theorem rm_law (l : Launch) (Z : State) (a0 : Array Value) (hw : ∀ d ∈ tables_1, d.before a0 Z = true) (p1 : Int32) (p2 : Int32) (w_IS : Addr) (w_SIX : Addr) (w_IX : Addr) (w_S : Addr) (w_X : Addr) (w_WF : Addr) (kk : ClassId) (h0 : Heap) (n0 : Nat) (Z0 : n0 ≤ h0.size) (S_IS : Sta Z h0 "com/example/wombat/wombat/LockMode" "IS" "Lcom/example/wombat/wombat/LockMode;" (.ref w_IS)) (E_w_IS : Exa Z h0 w_IS "com/example/wombat/wombat/LockMode") (S_SIX : Sta Z h0 "com/example/wombat/wombat/LockMode" "SIX" "Lcom/example/wombat/wombat/LockMode;" (.ref w_SIX)) (E_w_SIX : Exa Z h0 w_SIX "com/example/wombat/wombat/LockMode") (S_IX : Sta Z h0 "com/example/wombat/wombat/LockMode" "IX" "Lcom/example/wombat/wombat/LockMode;" (.ref w_IX)) (E_w_IX : Exa Z h0 w_IX "com/example/wombat/wombat/LockMode") (S_S : Sta Z h0 "com/example/wombat/wombat/LockMode" "S" "Lcom/example/wombat/wombat/LockMode;" (.ref w_S)) (E_w_S : Exa Z h0 w_S "com/example/wombat/wombat/LockMode") (S_X : Sta Z h0 "com/example/wombat/wombat/LockMode" "X" "Lcom/example/wombat/wombat/LockMode;" (.ref w_X)) (E_w_X : Exa Z h0 w_X "com/example/wombat/wombat/LockMode") (F_w_IS_compatible : Fld Z h0 w_IS "com/example/wombat/wombat/LockMode" "compatible" "I" (.int (15 : Int32))) (F_w_SIX_compatible : Fld Z h0 w_SIX "com/example/wombat/wombat/LockMode" "compatible" "I" (.int (1 : Int32))) (F_w_IX_compatible : Fld Z h0 w_IX "com/example/wombat/wombat/LockMode" "compatible" "I" (.int (3 : Int32))) (F_w_S_compatible : Fld Z h0 w_S "com/example/wombat/wombat/LockMode" "compatible" "I" (.int (5 : Int32))) (F_w_X_compatible : Fld Z h0 w_X "com/example/wombat/wombat/LockMode" "compatible" "I" (.int (0 : Int32))) (ne_IS_SIX : ¬ (w_IS = w_SIX)) (ne_IS_IX : ¬ (w_IS = w_IX)) (ne_IS_S : ¬ (w_IS = w_S)) (ne_IS_X : ¬ (w_IS = w_X)) (ne_SIX_IX : ¬ (w_SIX = w_IX)) (ne_SIX_S : ¬ (w_SIX = w_S)) (ne_SIX_X : ¬ (w_SIX = w_X)) (ne_IX_S : ¬ (w_IX = w_S)) (ne_IX_X : ¬ (w_IX = w_X)) (ne_S_X : ¬ (w_S = w_X)) (ne_X_IX : ¬ (w_X = w_IX)) (ne_X_S : ¬ (w_X = w_S)) (S_WEAKEST_FIRST : Sta Z h0 "com/example/wombat/wombat/LockMode" "WEAKEST_FIRST" "[Lcom/example/wombat/wombat/LockMode;" (.ref w_WF)) (V_w_WF : Arv Z h0 w_WF kk (FieldType.object "com/example/wombat/wombat/LockMode") 5 [(.ref w_IS), (.ref w_IX), (.ref w_S), (.ref w_SIX), (.ref w_X)] .null) :
    Ctr l x code maxLocals ret tables_1 room_1 Z #[(.int p1), (.int p2)] h0 (fun v h L => v = some (.int 1) ∧ Fr n0 L) := by
  refine own_enter pn_0 (fun p e s m below meth c s₁ hx hby hml hown hnm hret hlk hZ X0 e0 => ?_)
  have N0 := Fr.nil n0
  rw [ef_rm_law m _ _]
  show Go p e below (s₁.setTop (mkF m 0 #[.val (.int p1), .val (.int p2), .unset, .unset, .unset] [])) _
  refine g_iloadN X0 hx (hb hby at_0) rfl ?_
  refine Go.mp (fun _ k => X0.ldcInt hx hown (mvT hZ (hw _ (List.mem_of_getElem? (i := 0) rfl))) (g := (mkF m 1 #[.val (.int p1), .val (.int p2), .unset, .unset, .unset] [(.int p1)])) rfl (hb hby at_1) _ k) ?_
  show Go p e below (s₁.setTop (mkF m 3 #[.val (.int p1), .val (.int p2), .unset, .unset, .unset] [(.int (2147483647 : Int32)), (.int p1)])) _
  refine g_iand X0 hx (hb hby at_3) ?_
  refine g_iconst X0 hx (5 : Int32) (hb hby at_4) (by decide) ?_
  refine g_irem X0 hx (hb hby at_5) (by decide) ?_
  show Go p e below (s₁.setTop (mkF m 6 #[.val (.int p1), .val (.int p2), .unset, .unset, .unset] [(.int ((p1 &&& (2147483647 : Int32)) % (5 : Int32)))])) _
  rcases own_mod5 p1 with q1 | q1 | q1 | q1 | q1
  · rw [q1]
    obtain ⟨v2, T2, L2, X2, q2, st2⟩ := own_callS X0 hx hZ (y := (⟨"com/example/wombat/wombat/LockModeCombinedWithPinLaw", "pick", "(I)Lcom/example/wombat/wombat/LockMode;"⟩ : MethodName)) (pc := 6) (Ls := #[.val (.int p1), .val (.int p2), .unset, .unset, .unset]) (st := [(.int (0 : Int32))]) hown (hw _ (List.mem_of_getElem? (i := 1) rfl)) (hw _ (List.mem_of_getElem? (i := 2) rfl)) (hw _ (List.mem_of_getElem? (i := 3) rfl)) (hw _ (List.mem_of_getElem? (i := 4) rfl)) (by decide) (rm_pick l Z a0 hw (0 : Int32) w_IS w_IX w_S w_SIX w_X h0 n0 Z0 S_IS S_IX S_S S_SIX S_X) e0 pd_1 (hb hby at_6) (by rw [hml]; rfl) (argsL := [(.int (0 : Int32))]) (rest := []) rfl rfl rfl (W := 0) (Nat.le_of_eq rfl) (by decide) (by decide) (by decide) (by decide)
    obtain ⟨rfl, M2, e2⟩ := q2
    have N2 := Fr.app N0 M2
    have r2 : (f_pick (0 : Int32) w_IS w_IX w_S w_SIX w_X) = w_IS := by rw [f_pick, if_pos ((by decide) : (0 : Int32) = (0 : Int32))]
    rw [r2] at st2
    refine Go.mp st2 ?_
    show Go p e below (T2.setTop (mkF m 9 #[.val (.int p1), .val (.int p2), .unset, .unset, .unset] [(.ref w_IS)])) _
    refine g_astoreN X2 hx #[.val (.int p1), .val (.int p2), .val (.ref w_IS), .unset, .unset] (hb hby at_9) rfl rfl ?_
    refine g_iloadN X2 hx (hb hby at_10) rfl ?_
    refine Go.mp (fun _ k => X2.ldcInt hx hown (mvT hZ (hw _ (List.mem_of_getElem? (i := 0) rfl))) (g := (mkF m 11 #[.val (.int p1), .val (.int p2), .val (.ref w_IS), .unset, .unset] [(.int p2)])) rfl (hb hby at_11) _ k) ?_
    show Go p e below (T2.setTop (mkF m 13 #[.val (.int p1), .val (.int p2), .val (.ref w_IS), .unset, .unset] [(.int (2147483647 : Int32)), (.int p2)])) _
    refine g_iand X2 hx (hb hby at_13) ?_
    refine g_iconst X2 hx (5 : Int32) (hb hby at_14) (by decide) ?_
    refine g_irem X2 hx (hb hby at_15) (by decide) ?_
    show Go p e below (T2.setTop (mkF m 16 #[.val (.int p1), .val (.int p2), .val (.ref w_IS), .unset, .unset] [(.int ((p2 &&& (2147483647 : Int32)) % (5 : Int32)))])) _
    rcases own_mod5 p2 with q3 | q3 | q3 | q3 | q3
    · rw [q3]
      obtain ⟨v4, T4, L4, X4, q4, st4⟩ := own_callS X2 hx hZ (y := (⟨"com/example/wombat/wombat/LockModeCombinedWithPinLaw", "pick", "(I)Lcom/example/wombat/wombat/LockMode;"⟩ : MethodName)) (pc := 16) (Ls := #[.val (.int p1), .val (.int p2), .val (.ref w_IS), .unset, .unset]) (st := [(.int (0 : Int32))]) hown (hw _ (List.mem_of_getElem? (i := 1) rfl)) (hw _ (List.mem_of_getElem? (i := 2) rfl)) (hw _ (List.mem_of_getElem? (i := 3) rfl)) (hw _ (List.mem_of_getElem? (i := 4) rfl)) (by decide) (rm_pick l Z a0 hw (0 : Int32) w_IS w_IX w_S w_SIX w_X h0 n0 Z0 S_IS S_IX S_S S_SIX S_X) e2 pd_1 (hb hby at_16) (by rw [hml]; rfl) (argsL := [(.int (0 : Int32))]) (rest := []) rfl rfl rfl (W := 0) (Nat.le_of_eq rfl) (by decide) (by decide) (by decide) (by decide)
      obtain ⟨rfl, M4, e4⟩ := q4
      have N4 := Fr.app N2 M4
      have r4 : (f_pick (0 : Int32) w_IS w_IX w_S w_SIX w_X) = w_IS := by rw [f_pick, if_pos ((by decide) : (0 : Int32) = (0 : Int32))]
      rw [r4] at st4
      refine Go.mp st4 ?_
      show Go p e below (T4.setTop (mkF m 19 #[.val (.int p1), .val (.int p2), .val (.ref w_IS), .unset, .unset] [(.ref w_IS)])) _
      refine g_astoreN X4 hx #[.val (.int p1), .val (.int p2), .val (.ref w_IS), .val (.ref w_IS), .unset] (hb hby at_19) rfl rfl ?_
      refine g_aloadN X4 hx (hb hby at_20) rfl rfl ?_
      refine g_aloadN X4 hx (hb hby at_21) rfl rfl ?_
      obtain ⟨v5, T5, L5, X5, q5, st5⟩ := own_callV X4 hx hZ (y := (⟨"com/example/wombat/wombat/LockMode", "combinedWith", "(Lcom/example/wombat/wombat/LockMode;)Lcom/example/wombat/wombat/LockMode;"⟩ : MethodName)) (pc := 22) (Ls := #[.val (.int p1), .val (.int p2), .val (.ref w_IS), .val (.ref w_IS), .unset]) (st := [(.ref w_IS), (.ref w_IS)]) hown (hw _ (List.mem_of_getElem? (i := 10) rfl)) (hw _ (List.mem_of_getElem? (i := 11) rfl)) (hw _ (List.mem_of_getElem? (i := 13) rfl)) (hw _ (List.mem_of_getElem? (i := 12) rfl)) (hw _ (List.mem_of_getElem? (i := 14) rfl)) (hw _ (List.mem_of_getElem? (i := 6) rfl)) (by decide) (rm_combinedWith l Z a0 hw w_IS w_IS (15 : Int32) (15 : Int32) w_WF kk w_IS w_IX w_S w_SIX w_X h0 n0 Z0 S_WEAKEST_FIRST V_w_WF E_w_IS F_w_IS_compatible E_w_IX F_w_IX_compatible E_w_S F_w_S_compatible E_w_SIX F_w_SIX_compatible E_w_X F_w_X_compatible F_w_IS_compatible F_w_IS_compatible) e4 E_w_IS pd_2 (hb hby at_22) (by rw [hml]; rfl) (argsL := [(.ref w_IS)]) (rest := []) rfl rfl rfl (W := 0) (Nat.le_of_eq rfl) (by decide) (by decide) (by decide) (by decide)
      obtain ⟨rfl, M5, e5⟩ := q5
      have N5 := Fr.app N4 M5
      have r5 : (f_combinedWith w_IS w_IS (15 : Int32) (15 : Int32) w_WF kk w_IS w_IX w_S w_SIX w_X) = w_IS := by rw [f_combinedWith, if_pos ((by decide) : ((15 : Int32) &&& ((15 : Int32) ^^^ (-1 : Int32))) = (0 : Int32)), if_pos ((by decide) : ((15 : Int32) &&& ((15 : Int32) ^^^ (-1 : Int32))) = (0 : Int32))]
      rw [r5] at st5
      refine Go.mp st5 ?_
      show Go p e below (T5.setTop (mkF m 25 #[.val (.int p1), .val (.int p2), .val (.ref w_IS), .val (.ref w_IS), .unset] [(.ref w_IS)])) _
      refine g_astore X5 hx #[.val (.int p1), .val (.int p2), .val (.ref w_IS), .val (.ref w_IS), .val (.ref w_IS)] (hb hby at_25) rfl rfl ?_
      refine g_aload X5 hx (hb hby at_27) rfl rfl ?_
      refine g_aloadN X5 hx (hb hby at_29) rfl rfl ?_
      refine g_aloadN X5 hx (hb hby at_30) rfl rfl ?_
      obtain ⟨v6, T6, L6, X6, q6, st6⟩ := own_callS X5 hx hZ (y := (⟨"com/example/wombat/wombat/LockModeCombinedWithPinLaw", "expected", "(Lcom/example/wombat/wombat/LockMode;Lcom/example/wombat/wombat/LockMode;)Lcom/example/wombat/wombat/LockMode;"⟩ : MethodName)) (pc := 31) (Ls := #[.val (.int p1), .val (.int p2), .val (.ref w_IS), .val (.ref w_IS), .val (.ref w_IS)]) (st := [(.ref w_IS), (.ref w_IS), (.ref w_IS)]) hown (hw _ (List.mem_of_getElem? (i := 26) rfl)) (hw _ (List.mem_of_getElem? (i := 27) rfl)) (hw _ (List.mem_of_getElem? (i := 3) rfl)) (hw _ (List.mem_of_getElem? (i := 28) rfl)) (by decide) (rm_expected l Z a0 hw w_IS w_IS w_IS w_X w_SIX h0 n0 Z0 S_IS S_X S_SIX) e5 pd_3 (hb hby at_31) (by rw [hml]; rfl) (argsL := [(.ref w_IS), (.ref w_IS)]) (rest := [(.ref w_IS)]) rfl rfl rfl (W := 1) (Nat.le_of_eq rfl) (by decide) (by decide) (by decide) (by decide)
      obtain ⟨rfl, M6, e6⟩ := q6
      have N6 := Fr.app N5 M6
      have r6 : (f_expected w_IS w_IS w_IS w_X w_SIX) = w_IS := by rw [f_expected, if_pos (rfl : w_IS = w_IS)]
      rw [r6] at st6
      refine Go.mp st6 ?_
      show Go p e below (T6.setTop (mkF m 34 #[.val (.int p1), .val (.int p2), .val (.ref w_IS), .val (.ref w_IS), .val (.ref w_IS)] [(.ref w_IS), (.ref w_IS)])) _
      have c34_0 : w_IS = w_IS := rfl
      refine g_acmp X6 hx 37 true rfl rfl (hb hby at_34) (decide_eq_true (congrArg Value.ref c34_0)) (by decide) (by decide) ?_
      refine g_iconst X6 hx (1 : Int32) (hb hby at_37) (by decide) ?_
      refine g_goto X6 hx 42 (hb hby at_38) (by decide) (by decide) ?_
      exact own_retZ X6 hx hret hlk (hb hby at_42) (by decide) (by decide) (by decide) ⟨rfl, N6⟩
    · rw [q3]
      obtain ⟨v7, T7, L7, X7, q7, st7⟩ := own_callS X2 hx hZ (y := (⟨"com/example/wombat/wombat/LockModeCombinedWithPinLaw", "pick", "(I)Lcom/example/wombat/wombat/LockMode;"⟩ : MethodName)) (pc := 16) (Ls := #[.val (.int p1), .val (.int p2), .val (.ref w_IS), .unset, .unset]) (st := [(.int (1 : Int32))]) hown (hw _ (List.mem_of_getElem? (i := 1) rfl)) (hw _ (List.mem_of_getElem? (i := 2) rfl)) (hw _ (List.mem_of_getElem? (i := 3) rfl)) (hw _ (List.mem_of_getElem? (i := 4) rfl)) (by decide) (rm_pick l Z a0 hw (1 : Int32) w_IS w_IX w_S w_SIX w_X h0 n0 Z0 S_IS S_IX S_S S_SIX S_X) e2 pd_1 (hb hby at_16) (by rw [hml]; rfl) (argsL := [(.int (1 : Int32))]) (rest := []) rfl rfl rfl (W := 0) (Nat.le_of_eq rfl) (by decide) (by decide) (by decide) (by decide)
      obtain ⟨rfl, M7, e7⟩ := q7
      have N7 := Fr.app N2 M7
      have r7 : (f_pick (1 : Int32) w_IS w_IX w_S w_SIX w_X) = w_IX := by rw [f_pick, if_neg ((by decide) : ¬ ((1 : Int32) = (0 : Int32))), if_pos ((by decide) : (1 : Int32) = (1 : Int32))]
      rw [r7] at st7
      refine Go.mp st7 ?_
      show Go p e below (T7.setTop (mkF m 19 #[.val (.int p1), .val (.int p2), .val (.ref w_IS), .unset, .unset] [(.ref w_IX)])) _
      refine g_astoreN X7 hx #[.val (.int p1), .val (.int p2), .val (.ref w_IS), .val (.ref w_IX), .unset] (hb hby at_19) rfl rfl ?_
      refine g_aloadN X7 hx (hb hby at_20) rfl rfl ?_
      refine g_aloadN X7 hx (hb hby at_21) rfl rfl ?_
      obtain ⟨v8, T8, L8, X8, q8, st8⟩ := own_callV X7 hx hZ (y := (⟨"com/example/wombat/wombat/LockMode", "combinedWith", "(Lcom/example/wombat/wombat/LockMode;)Lcom/example/wombat/wombat/LockMode;"⟩ : MethodName)) (pc := 22) (Ls := #[.val (.int p1), .val (.int p2), .val (.ref w_IS), .val (.ref w_IX), .unset]) (st := [(.ref w_IX), (.ref w_IS)]) hown (hw _ (List.mem_of_getElem? (i := 10) rfl)) (hw _ (List.mem_of_getElem? (i := 11) rfl)) (hw _ (List.mem_of_getElem? (i := 13) rfl)) (hw _ (List.mem_of_getElem? (i := 12) rfl)) (hw _ (List.mem_of_getElem? (i := 14) rfl)) (hw _ (List.mem_of_getElem? (i := 6) rfl)) (by decide) (rm_combinedWith l Z a0 hw w_IS w_IX (15 : Int32) (3 : Int32) w_WF kk w_IS w_IX w_S w_SIX w_X h0 n0 Z0 S_WEAKEST_FIRST V_w_WF E_w_IS F_w_IS_compatible E_w_IX F_w_IX_compatible E_w_S F_w_S_compatible E_w_SIX F_w_SIX_compatible E_w_X F_w_X_compatible F_w_IS_compatible F_w_IX_compatible) e7 E_w_IS pd_2 (hb hby at_22) (by rw [hml]; rfl) (argsL := [(.ref w_IX)]) (rest := []) rfl rfl rfl (W := 0) (Nat.le_of_eq rfl) (by decide) (by decide) (by decide) (by decide)
      obtain ⟨rfl, M8, e8⟩ := q8
      have N8 := Fr.app N7 M8
      have r8 : (f_combinedWith w_IS w_IX (15 : Int32) (3 : Int32) w_WF kk w_IS w_IX w_S w_SIX w_X) = w_IX := by rw [f_combinedWith, if_pos ((by decide) : ((15 : Int32) &&& ((15 : Int32) ^^^ (-1 : Int32))) = (0 : Int32)), if_neg ((by decide) : ¬ (((15 : Int32) &&& ((3 : Int32) ^^^ (-1 : Int32))) = (0 : Int32))), if_pos ((by decide) : ((3 : Int32) &&& ((15 : Int32) ^^^ (-1 : Int32))) = (0 : Int32)), if_pos ((by decide) : ((3 : Int32) &&& ((3 : Int32) ^^^ (-1 : Int32))) = (0 : Int32))]
      rw [r8] at st8
      refine Go.mp st8 ?_
      show Go p e below (T8.setTop (mkF m 25 #[.val (.int p1), .val (.int p2), .val (.ref w_IS), .val (.ref w_IX), .unset] [(.ref w_IX)])) _
      refine g_astore X8 hx #[.val (.int p1), .val (.int p2), .val (.ref w_IS), .val (.ref w_IX), .val (.ref w_IX)] (hb hby at_25) rfl rfl ?_
      refine g_aload X8 hx (hb hby at_27) rfl rfl ?_
      refine g_aloadN X8 hx (hb hby at_29) rfl rfl ?_
      refine g_aloadN X8 hx (hb hby at_30) rfl rfl ?_
      obtain ⟨v9, T9, L9, X9, q9, st9⟩ := own_callS X8 hx hZ (y := (⟨"com/example/wombat/wombat/LockModeCombinedWithPinLaw", "expected", "(Lcom/example/wombat/wombat/LockMode;Lcom/example/wombat/wombat/LockMode;)Lcom/example/wombat/wombat/LockMode;"⟩ : MethodName)) (pc := 31) (Ls := #[.val (.int p1), .val (.int p2), .val (.ref w_IS), .val (.ref w_IX), .val (.ref w_IX)]) (st := [(.ref w_IX), (.ref w_IS), (.ref w_IX)]) hown (hw _ (List.mem_of_getElem? (i := 26) rfl)) (hw _ (List.mem_of_getElem? (i := 27) rfl)) (hw _ (List.mem_of_getElem? (i := 3) rfl)) (hw _ (List.mem_of_getElem? (i := 28) rfl)) (by decide) (rm_expected l Z a0 hw w_IS w_IX w_IS w_X w_SIX h0 n0 Z0 S_IS S_X S_SIX) e8 pd_3 (hb hby at_31) (by rw [hml]; rfl) (argsL := [(.ref w_IS), (.ref w_IX)]) (rest := [(.ref w_IX)]) rfl rfl rfl (W := 1) (Nat.le_of_eq rfl) (by decide) (by decide) (by decide) (by decide)
      obtain ⟨rfl, M9, e9⟩ := q9
      have N9 := Fr.app N8 M9
      have r9 : (f_expected w_IS w_IX w_IS w_X w_SIX) = w_IX := by rw [f_expected, if_neg (ne_IS_IX : ¬ (w_IS = w_IX)), if_pos (rfl : w_IS = w_IS)]
      rw [r9] at st9
      refine Go.mp st9 ?_
      show Go p e below (T9.setTop (mkF m 34 #[.val (.int p1), .val (.int p2), .val (.ref w_IS), .val (.ref w_IX), .val (.ref w_IX)] [(.ref w_IX), (.ref w_IX)])) _
      have c34_0 : w_IX = w_IX := rfl
      refine g_acmp X9 hx 37 true rfl rfl (hb hby at_34) (decide_eq_true (congrArg Value.ref c34_0)) (by decide) (by decide) ?_
      refine g_iconst X9 hx (1 : Int32) (hb hby at_37) (by decide) ?_
      refine g_goto X9 hx 42 (hb hby at_38) (by decide) (by decide) ?_
      exact own_retZ X9 hx hret hlk (hb hby at_42) (by decide) (by decide) (by decide) ⟨rfl, N9⟩
    · rw [q3]
      obtain ⟨v10, T10, L10, X10, q10, st10⟩ := own_callS X2 hx hZ (y := (⟨"com/example/wombat/wombat/LockModeCombinedWithPinLaw", "pick", "(I)Lcom/example/wombat/wombat/LockMode;"⟩ : MethodName)) (pc := 16) (Ls := #[.val (.int p1), .val (.int p2), .val (.ref w_IS), .unset, .unset]) (st := [(.int (2 : Int32))]) hown (hw _ (List.mem_of_getElem? (i := 1) rfl)) (hw _ (List.mem_of_getElem? (i := 2) rfl)) (hw _ (List.mem_of_getElem? (i := 3) rfl)) (hw _ (List.mem_of_getElem? (i := 4) rfl)) (by decide) (rm_pick l Z a0 hw (2 : Int32) w_IS w_IX w_S w_SIX w_X h0 n0 Z0 S_IS S_IX S_S S_SIX S_X) e2 pd_1 (hb hby at_16) (by rw [hml]; rfl) (argsL := [(.int (2 : Int32))]) (rest := []) rfl rfl rfl (W := 0) (Nat.le_of_eq rfl) (by decide) (by decide) (by decide) (by decide)
      obtain ⟨rfl, M10, e10⟩ := q10
      have N10 := Fr.app N2 M10
      have r10 : (f_pick (2 : Int32) w_IS w_IX w_S w_SIX w_X) = w_S := by rw [f_pick, if_neg ((by decide) : ¬ ((2 : Int32) = (0 : Int32))), if_neg ((by decide) : ¬ ((2 : Int32) = (1 : Int32))), if_pos ((by decide) : (2 : Int32) = (2 : Int32))]
      rw [r10] at st10
      refine Go.mp st10 ?_
      show Go p e below (T10.setTop (mkF m 19 #[.val (.int p1), .val (.int p2), .val (.ref w_IS), .unset, .unset] [(.ref w_S)])) _
      refine g_astoreN X10 hx #[.val (.int p1), .val (.int p2), .val (.ref w_IS), .val (.ref w_S), .unset] (hb hby at_19) rfl rfl ?_
      refine g_aloadN X10 hx (hb hby at_20) rfl rfl ?_
      refine g_aloadN X10 hx (hb hby at_21) rfl rfl ?_
      obtain ⟨v11, T11, L11, X11, q11, st11⟩ := own_callV X10 hx hZ (y := (⟨"com/example/wombat/wombat/LockMode", "combinedWith", "(Lcom/example/wombat/wombat/LockMode;)Lcom/example/wombat/wombat/LockMode;"⟩ : MethodName)) (pc := 22) (Ls := #[.val (.int p1), .val (.int p2), .val (.ref w_IS), .val (.ref w_S), .unset]) (st := [(.ref w_S), (.ref w_IS)]) hown (hw _ (List.mem_of_getElem? (i := 10) rfl)) (hw _ (List.mem_of_getElem? (i := 11) rfl)) (hw _ (List.mem_of_getElem? (i := 13) rfl)) (hw _ (List.mem_of_getElem? (i := 12) rfl)) (hw _ (List.mem_of_getElem? (i := 14) rfl)) (hw _ (List.mem_of_getElem? (i := 6) rfl)) (by decide) (rm_combinedWith l Z a0 hw w_IS w_S (15 : Int32) (5 : Int32) w_WF kk w_IS w_IX w_S w_SIX w_X h0 n0 Z0 S_WEAKEST_FIRST V_w_WF E_w_IS F_w_IS_compatible E_w_IX F_w_IX_compatible E_w_S F_w_S_compatible E_w_SIX F_w_SIX_compatible E_w_X F_w_X_compatible F_w_IS_compatible F_w_S_compatible) e10 E_w_IS pd_2 (hb hby at_22) (by rw [hml]; rfl) (argsL := [(.ref w_S)]) (rest := []) rfl rfl rfl (W := 0) (Nat.le_of_eq rfl) (by decide) (by decide) (by decide) (by decide)
      obtain ⟨rfl, M11, e11⟩ := q11
      have N11 := Fr.app N10 M11
      have r11 : (f_combinedWith w_IS w_S (15 : Int32) (5 : Int32) w_WF kk w_IS w_IX w_S w_SIX w_X) = w_S := by rw [f_combinedWith, if_pos ((by decide) : ((15 : Int32) &&& ((15 : Int32) ^^^ (-1 : Int32))) = (0 : Int32)), if_neg ((by decide) : ¬ (((15 : Int32) &&& ((5 : Int32) ^^^ (-1 : Int32))) = (0 : Int32))), if_pos ((by decide) : ((3 : Int32) &&& ((15 : Int32) ^^^ (-1 : Int32))) = (0 : Int32)), if_neg ((by decide) : ¬ (((3 : Int32) &&& ((5 : Int32) ^^^ (-1 : Int32))) = (0 : Int32))), if_pos ((by decide) : ((5 : Int32) &&& ((15 : Int32) ^^^ (-1 : Int32))) = (0 : Int32)), if_pos ((by decide) : ((5 : Int32) &&& ((5 : Int32) ^^^ (-1 : Int32))) = (0 : Int32))]
      rw [r11] at st11
      refine Go.mp st11 ?_
      show Go p e below (T11.setTop (mkF m 25 #[.val (.int p1), .val (.int p2), .val (.ref w_IS), .val (.ref w_S), .unset] [(.ref w_S)])) _
      refine g_astore X11 hx #[.val (.int p1), .val (.int p2), .val (.ref w_IS), .val (.ref w_S), .val (.ref w_S)] (hb hby at_25) rfl rfl ?_
      refine g_aload X11 hx (hb hby at_27) rfl rfl ?_
      refine g_aloadN X11 hx (hb hby at_29) rfl rfl ?_
      refine g_aloadN X11 hx (hb hby at_30) rfl rfl ?_
      obtain ⟨v12, T12, L12, X12, q12, st12⟩ := own_callS X11 hx hZ (y := (⟨"com/example/wombat/wombat/LockModeCombinedWithPinLaw", "expected", "(Lcom/example/wombat/wombat/LockMode;Lcom/example/wombat/wombat/LockMode;)Lcom/example/wombat/wombat/LockMode;"⟩ : MethodName)) (pc := 31) (Ls := #[.val (.int p1), .val (.int p2), .val (.ref w_IS), .val (.ref w_S), .val (.ref w_S)]) (st := [(.ref w_S), (.ref w_IS), (.ref w_S)]) hown (hw _ (List.mem_of_getElem? (i := 26) rfl)) (hw _ (List.mem_of_getElem? (i := 27) rfl)) (hw _ (List.mem_of_getElem? (i := 3) rfl)) (hw _ (List.mem_of_getElem? (i := 28) rfl)) (by decide) (rm_expected l Z a0 hw w_IS w_S w_IS w_X w_SIX h0 n0 Z0 S_IS S_X S_SIX) e11 pd_3 (hb hby at_31) (by rw [hml]; rfl) (argsL := [(.ref w_IS), (.ref w_S)]) (rest := [(.ref w_S)]) rfl rfl rfl (W := 1) (Nat.le_of_eq rfl) (by decide) (by decide) (by decide) (by decide)
      obtain ⟨rfl, M12, e12⟩ := q12
      have N12 := Fr.app N11 M12
      have r12 : (f_expected w_IS w_S w_IS w_X w_SIX) = w_S := by rw [f_expected, if_neg (ne_IS_S : ¬ (w_IS = w_S)), if_pos (rfl : w_IS = w_IS)]
      rw [r12] at st12
      refine Go.mp st12 ?_
      show Go p e below (T12.setTop (mkF m 34 #[.val (.int p1), .val (.int p2), .val (.ref w_IS), .val (.ref w_S), .val (.ref w_S)] [(.ref w_S), (.ref w_S)])) _
      have c34_0 : w_S = w_S := rfl
      refine g_acmp X12 hx 37 true rfl rfl (hb hby at_34) (decide_eq_true (congrArg Value.ref c34_0)) (by decide) (by decide) ?_
      refine g_iconst X12 hx (1 : Int32) (hb hby at_37) (by decide) ?_
      refine g_goto X12 hx 42 (hb hby at_38) (by decide) (by decide) ?_
      exact own_retZ X12 hx hret hlk (hb hby at_42) (by decide) (by decide) (by decide) ⟨rfl, N12⟩
    · rw [q3]
      obtain ⟨v13, T13, L13, X13, q13, st13⟩ := own_callS X2 hx hZ (y := (⟨"com/example/wombat/wombat/LockModeCombinedWithPinLaw", "pick", "(I)Lcom/example/wombat/wombat/LockMode;"⟩ : MethodName)) (pc := 16) (Ls := #[.val (.int p1), .val (.int p2), .val (.ref w_IS), .unset, .unset]) (st := [(.int (3 : Int32))]) hown (hw _ (List.mem_of_getElem? (i := 1) rfl)) (hw _ (List.mem_of_getElem? (i := 2) rfl)) (hw _ (List.mem_of_getElem? (i := 3) rfl)) (hw _ (List.mem_of_getElem? (i := 4) rfl)) (by decide) (rm_pick l Z a0 hw (3 : Int32) w_IS w_IX w_S w_SIX w_X h0 n0 Z0 S_IS S_IX S_S S_SIX S_X) e2 pd_1 (hb hby at_16) (by rw [hml]; rfl) (argsL := [(.int (3 : Int32))]) (rest := []) rfl rfl rfl (W := 0) (Nat.le_of_eq rfl) (by decide) (by decide) (by decide) (by decide)
      obtain ⟨rfl, M13, e13⟩ := q13
      have N13 := Fr.app N2 M13
      have r13 : (f_pick (3 : Int32) w_IS w_IX w_S w_SIX w_X) = w_SIX := by rw [f_pick, if_neg ((by decide) : ¬ ((3 : Int32) = (0 : Int32))), if_neg ((by decide) : ¬ ((3 : Int32) = (1 : Int32))), if_neg ((by decide) : ¬ ((3 : Int32) = (2 : Int32))), if_pos ((by decide) : (3 : Int32) = (3 : Int32))]
      rw [r13] at st13
      refine Go.mp st13 ?_
      show Go p e below (T13.setTop (mkF m 19 #[.val (.int p1), .val (.int p2), .val (.ref w_IS), .unset, .unset] [(.ref w_SIX)])) _
      refine g_astoreN X13 hx #[.val (.int p1), .val (.int p2), .val (.ref w_IS), .val (.ref w_SIX), .unset] (hb hby at_19) rfl rfl ?_
      refine g_aloadN X13 hx (hb hby at_20) rfl rfl ?_
      refine g_aloadN X13 hx (hb hby at_21) rfl rfl ?_
      obtain ⟨v14, T14, L14, X14, q14, st14⟩ := own_callV X13 hx hZ (y := (⟨"com/example/wombat/wombat/LockMode", "combinedWith", "(Lcom/example/wombat/wombat/LockMode;)Lcom/example/wombat/wombat/LockMode;"⟩ : MethodName)) (pc := 22) (Ls := #[.val (.int p1), .val (.int p2), .val (.ref w_IS), .val (.ref w_SIX), .unset]) (st := [(.ref w_SIX), (.ref w_IS)]) hown (hw _ (List.mem_of_getElem? (i := 10) rfl)) (hw _ (List.mem_of_getElem? (i := 11) rfl)) (hw _ (List.mem_of_getElem? (i := 13) rfl)) (hw _ (List.mem_of_getElem? (i := 12) rfl)) (hw _ (List.mem_of_getElem? (i := 14) rfl)) (hw _ (List.mem_of_getElem? (i := 6) rfl)) (by decide) (rm_combinedWith l Z a0 hw w_IS w_SIX (15 : Int32) (1 : Int32) w_WF kk w_IS w_IX w_S w_SIX w_X h0 n0 Z0 S_WEAKEST_FIRST V_w_WF E_w_IS F_w_IS_compatible E_w_IX F_w_IX_compatible E_w_S F_w_S_compatible E_w_SIX F_w_SIX_compatible E_w_X F_w_X_compatible F_w_IS_compatible F_w_SIX_compatible) e13 E_w_IS pd_2 (hb hby at_22) (by rw [hml]; rfl) (argsL := [(.ref w_SIX)]) (rest := []) rfl rfl rfl (W := 0) (Nat.le_of_eq rfl) (by decide) (by decide) (by decide) (by decide)
      obtain ⟨rfl, M14, e14⟩ := q14
      have N14 := Fr.app N13 M14
      have r14 : (f_combinedWith w_IS w_SIX (15 : Int32) (1 : Int32) w_WF kk w_IS w_IX w_S w_SIX w_X) = w_SIX := by rw [f_combinedWith, if_pos ((by decide) : ((15 : Int32) &&& ((15 : Int32) ^^^ (-1 : Int32))) = (0 : Int32)), if_neg ((by decide) : ¬ (((15 : Int32) &&& ((1 : Int32) ^^^ (-1 : Int32))) = (0 : Int32))), if_pos ((by decide) : ((3 : Int32) &&& ((15 : Int32) ^^^ (-1 : Int32))) = (0 : Int32)), if_neg ((by decide) : ¬ (((3 : Int32) &&& ((1 : Int32) ^^^ (-1 : Int32))) = (0 : Int32))), if_pos ((by decide) : ((5 : Int32) &&& ((15 : Int32) ^^^ (-1 : Int32))) = (0 : Int32)), if_neg ((by decide) : ¬ (((5 : Int32) &&& ((1 : Int32) ^^^ (-1 : Int32))) = (0 : Int32))), if_pos ((by decide) : ((1 : Int32) &&& ((15 : Int32) ^^^ (-1 : Int32))) = (0 : Int32)), if_pos ((by decide) : ((1 : Int32) &&& ((1 : Int32) ^^^ (-1 : Int32))) = (0 : Int32))]
      rw [r14] at st14
      refine Go.mp st14 ?_
      show Go p e below (T14.setTop (mkF m 25 #[.val (.int p1), .val (.int p2), .val (.ref w_IS), .val (.ref w_SIX), .unset] [(.ref w_SIX)])) _
      refine g_astore X14 hx #[.val (.int p1), .val (.int p2), .val (.ref w_IS), .val (.ref w_SIX), .val (.ref w_SIX)] (hb hby at_25) rfl rfl ?_
      refine g_aload X14 hx (hb hby at_27) rfl rfl ?_
      refine g_aloadN X14 hx (hb hby at_29) rfl rfl ?_
      refine g_aloadN X14 hx (hb hby at_30) rfl rfl ?_
      obtain ⟨v15, T15, L15, X15, q15, st15⟩ := own_callS X14 hx hZ (y := (⟨"com/example/wombat/wombat/LockModeCombinedWithPinLaw", "expected", "(Lcom/example/wombat/wombat/LockMode;Lcom/example/wombat/wombat/LockMode;)Lcom/example/wombat/wombat/LockMode;"⟩ : MethodName)) (pc := 31) (Ls := #[.val (.int p1), .val (.int p2), .val (.ref w_IS), .val (.ref w_SIX), .val (.ref w_SIX)]) (st := [(.ref w_SIX), (.ref w_IS), (.ref w_SIX)]) hown (hw _ (List.mem_of_getElem? (i := 26) rfl)) (hw _ (List.mem_of_getElem? (i := 27) rfl)) (hw _ (List.mem_of_getElem? (i := 3) rfl)) (hw _ (List.mem_of_getElem? (i := 28) rfl)) (by decide) (rm_expected l Z a0 hw w_IS w_SIX w_IS w_X w_SIX h0 n0 Z0 S_IS S_X S_SIX) e14 pd_3 (hb hby at_31) (by rw [hml]; rfl) (argsL := [(.ref w_IS), (.ref w_SIX)]) (rest := [(.ref w_SIX)]) rfl rfl rfl (W := 1) (Nat.le_of_eq rfl) (by decide) (by decide) (by decide) (by decide)
      obtain ⟨rfl, M15, e15⟩ := q15
      have N15 := Fr.app N14 M15
      have r15 : (f_expected w_IS w_SIX w_IS w_X w_SIX) = w_SIX := by rw [f_expected, if_neg (ne_IS_SIX : ¬ (w_IS = w_SIX)), if_pos (rfl : w_IS = w_IS)]
      rw [r15] at st15
      refine Go.mp st15 ?_
      show Go p e below (T15.setTop (mkF m 34 #[.val (.int p1), .val (.int p2), .val (.ref w_IS), .val (.ref w_SIX), .val (.ref w_SIX)] [(.ref w_SIX), (.ref w_SIX)])) _
      have c34_0 : w_SIX = w_SIX := rfl
      refine g_acmp X15 hx 37 true rfl rfl (hb hby at_34) (decide_eq_true (congrArg Value.ref c34_0)) (by decide) (by decide) ?_
      refine g_iconst X15 hx (1 : Int32) (hb hby at_37) (by decide) ?_
      refine g_goto X15 hx 42 (hb hby at_38) (by decide) (by decide) ?_
      exact own_retZ X15 hx hret hlk (hb hby at_42) (by decide) (by decide) (by decide) ⟨rfl, N15⟩
    · rw [q3]
      obtain ⟨v16, T16, L16, X16, q16, st16⟩ := own_callS X2 hx hZ (y := (⟨"com/example/wombat/wombat/LockModeCombinedWithPinLaw", "pick", "(I)Lcom/example/wombat/wombat/LockMode;"⟩ : MethodName)) (pc := 16) (Ls := #[.val (.int p1), .val (.int p2), .val (.ref w_IS), .unset, .unset]) (st := [(.int (4 : Int32))]) hown (hw _ (List.mem_of_getElem? (i := 1) rfl)) (hw _ (List.mem_of_getElem? (i := 2) rfl)) (hw _ (List.mem_of_getElem? (i := 3) rfl)) (hw _ (List.mem_of_getElem? (i := 4) rfl)) (by decide) (rm_pick l Z a0 hw (4 : Int32) w_IS w_IX w_S w_SIX w_X h0 n0 Z0 S_IS S_IX S_S S_SIX S_X) e2 pd_1 (hb hby at_16) (by rw [hml]; rfl) (argsL := [(.int (4 : Int32))]) (rest := []) rfl rfl rfl (W := 0) (Nat.le_of_eq rfl) (by decide) (by decide) (by decide) (by decide)
      obtain ⟨rfl, M16, e16⟩ := q16
      have N16 := Fr.app N2 M16
      have r16 : (f_pick (4 : Int32) w_IS w_IX w_S w_SIX w_X) = w_X := by rw [f_pick, if_neg ((by decide) : ¬ ((4 : Int32) = (0 : Int32))), if_neg ((by decide) : ¬ ((4 : Int32) = (1 : Int32))), if_neg ((by decide) : ¬ ((4 : Int32) = (2 : Int32))), if_neg ((by decide) : ¬ ((4 : Int32) = (3 : Int32)))]
      rw [r16] at st16
      refine Go.mp st16 ?_
      show Go p e below (T16.setTop (mkF m 19 #[.val (.int p1), .val (.int p2), .val (.ref w_IS), .unset, .unset] [(.ref w_X)])) _
      refine g_astoreN X16 hx #[.val (.int p1), .val (.int p2), .val (.ref w_IS), .val (.ref w_X), .unset] (hb hby at_19) rfl rfl ?_
      refine g_aloadN X16 hx (hb hby at_20) rfl rfl ?_
      refine g_aloadN X16 hx (hb hby at_21) rfl rfl ?_
      obtain ⟨v17, T17, L17, X17, q17, st17⟩ := own_callV X16 hx hZ (y := (⟨"com/example/wombat/wombat/LockMode", "combinedWith", "(Lcom/example/wombat/wombat/LockMode;)Lcom/example/wombat/wombat/LockMode;"⟩ : MethodName)) (pc := 22) (Ls := #[.val (.int p1), .val (.int p2), .val (.ref w_IS), .val (.ref w_X), .unset]) (st := [(.ref w_X), (.ref w_IS)]) hown (hw _ (List.mem_of_getElem? (i := 10) rfl)) (hw _ (List.mem_of_getElem? (i := 11) rfl)) (hw _ (List.mem_of_getElem? (i := 13) rfl)) (hw _ (List.mem_of_getElem? (i := 12) rfl)) (hw _ (List.mem_of_getElem? (i := 14) rfl)) (hw _ (List.mem_of_getElem? (i := 6) rfl)) (by decide) (rm_combinedWith l Z a0 hw w_IS w_X (15 : Int32) (0 : Int32) w_WF kk w_IS w_IX w_S w_SIX w_X h0 n0 Z0 S_WEAKEST_FIRST V_w_WF E_w_IS F_w_IS_compatible E_w_IX F_w_IX_compatible E_w_S F_w_S_compatible E_w_SIX F_w_SIX_compatible E_w_X F_w_X_compatible F_w_IS_compatible F_w_X_compatible) e16 E_w_IS pd_2 (hb hby at_22) (by rw [hml]; rfl) (argsL := [(.ref w_X)]) (rest := []) rfl rfl rfl (W := 0) (Nat.le_of_eq rfl) (by decide) (by decide) (by decide) (by decide)
      obtain ⟨rfl, M17, e17⟩ := q17
      have N17 := Fr.app N16 M17
      have r17 : (f_combinedWith w_IS w_X (15 : Int32) (0 : Int32) w_WF kk w_IS w_IX w_S w_SIX w_X) = w_X := by rw [f_combinedWith, if_pos ((by decide) : ((15 : Int32) &&& ((15 : Int32) ^^^ (-1 : Int32))) = (0 : Int32)), if_neg ((by decide) : ¬ (((15 : Int32) &&& ((0 : Int32) ^^^ (-1 : Int32))) = (0 : Int32))), if_pos ((by decide) : ((3 : Int32) &&& ((15 : Int32) ^^^ (-1 : Int32))) = (0 : Int32)), if_neg ((by decide) : ¬ (((3 : Int32) &&& ((0 : Int32) ^^^ (-1 : Int32))) = (0 : Int32))), if_pos ((by decide) : ((5 : Int32) &&& ((15 : Int32) ^^^ (-1 : Int32))) = (0 : Int32)), if_neg ((by decide) : ¬ (((5 : Int32) &&& ((0 : Int32) ^^^ (-1 : Int32))) = (0 : Int32))), if_pos ((by decide) : ((1 : Int32) &&& ((15 : Int32) ^^^ (-1 : Int32))) = (0 : Int32)), if_neg ((by decide) : ¬ (((1 : Int32) &&& ((0 : Int32) ^^^ (-1 : Int32))) = (0 : Int32)))]
      rw [r17] at st17
      refine Go.mp st17 ?_
      show Go p e below (T17.setTop (mkF m 25 #[.val (.int p1), .val (.int p2), .val (.ref w_IS), .val (.ref w_X), .unset] [(.ref w_X)])) _
      refine g_astore X17 hx #[.val (.int p1), .val (.int p2), .val (.ref w_IS), .val (.ref w_X), .val (.ref w_X)] (hb hby at_25) rfl rfl ?_
      refine g_aload X17 hx (hb hby at_27) rfl rfl ?_
      refine g_aloadN X17 hx (hb hby at_29) rfl rfl ?_
      refine g_aloadN X17 hx (hb hby at_30) rfl rfl ?_
      obtain ⟨v18, T18, L18, X18, q18, st18⟩ := own_callS X17 hx hZ (y := (⟨"com/example/wombat/wombat/LockModeCombinedWithPinLaw", "expected", "(Lcom/example/wombat/wombat/LockMode;Lcom/example/wombat/wombat/LockMode;)Lcom/example/wombat/wombat/LockMode;"⟩ : MethodName)) (pc := 31) (Ls := #[.val (.int p1), .val (.int p2), .val (.ref w_IS), .val (.ref w_X), .val (.ref w_X)]) (st := [(.ref w_X), (.ref w_IS), (.ref w_X)]) hown (hw _ (List.mem_of_getElem? (i := 26) rfl)) (hw _ (List.mem_of_getElem? (i := 27) rfl)) (hw _ (List.mem_of_getElem? (i := 3) rfl)) (hw _ (List.mem_of_getElem? (i := 28) rfl)) (by decide) (rm_expected l Z a0 hw w_IS w_X w_IS w_X w_SIX h0 n0 Z0 S_IS S_X S_SIX) e17 pd_3 (hb hby at_31) (by rw [hml]; rfl) (argsL := [(.ref w_IS), (.ref w_X)]) (rest := [(.ref w_X)]) rfl rfl rfl (W := 1) (Nat.le_of_eq rfl) (by decide) (by decide) (by decide) (by decide)
      obtain ⟨rfl, M18, e18⟩ := q18
      have N18 := Fr.app N17 M18
      have r18 : (f_expected w_IS w_X w_IS w_X w_SIX) = w_X := by rw [f_expected, if_neg (ne_IS_X : ¬ (w_IS = w_X)), if_pos (rfl : w_IS = w_IS)]
      rw [r18] at st18
      refine Go.mp st18 ?_
      show Go p e below (T18.setTop (mkF m 34 #[.val (.int p1), .val (.int p2), .val (.ref w_IS), .val (.ref w_X), .val (.ref w_X)] [(.ref w_X), (.ref w_X)])) _
      have c34_0 : w_X = w_X := rfl
      refine g_acmp X18 hx 37 true rfl rfl (hb hby at_34) (decide_eq_true (congrArg Value.ref c34_0)) (by decide) (by decide) ?_
      refine g_iconst X18 hx (1 : Int32) (hb hby at_37) (by decide) ?_
      refine g_goto X18 hx 42 (hb hby at_38) (by decide) (by decide) ?_
      exact own_retZ X18 hx hret hlk (hb hby at_42) (by decide) (by decide) (by decide) ⟨rfl, N18⟩
  · rw [q1]
    obtain ⟨v19, T19, L19, X19, q19, st19⟩ := own_callS X0 hx hZ (y := (⟨"com/example/wombat/wombat/LockModeCombinedWithPinLaw", "pick", "(I)Lcom/example/wombat/wombat/LockMode;"⟩ : MethodName)) (pc := 6) (Ls := #[.val (.int p1), .val (.int p2), .unset, .unset, .unset]) (st := [(.int (1 : Int32))]) hown (hw _ (List.mem_of_getElem? (i := 1) rfl)) (hw _ (List.mem_of_getElem? (i := 2) rfl)) (hw _ (List.mem_of_getElem? (i := 3) rfl)) (hw _ (List.mem_of_getElem? (i := 4) rfl)) (by decide) (rm_pick l Z a0 hw (1 : Int32) w_IS w_IX w_S w_SIX w_X h0 n0 Z0 S_IS S_IX S_S S_SIX S_X) e0 pd_1 (hb hby at_6) (by rw [hml]; rfl) (argsL := [(.int (1 : Int32))]) (rest := []) rfl rfl rfl (W := 0) (Nat.le_of_eq rfl) (by decide) (by decide) (by decide) (by decide)
    obtain ⟨rfl, M19, e19⟩ := q19
    have N19 := Fr.app N0 M19
    have r19 : (f_pick (1 : Int32) w_IS w_IX w_S w_SIX w_X) = w_IX := by rw [f_pick, if_neg ((by decide) : ¬ ((1 : Int32) = (0 : Int32))), if_pos ((by decide) : (1 : Int32) = (1 : Int32))]
    rw [r19] at st19
    refine Go.mp st19 ?_
    show Go p e below (T19.setTop (mkF m 9 #[.val (.int p1), .val (.int p2), .unset, .unset, .unset] [(.ref w_IX)])) _
    refine g_astoreN X19 hx #[.val (.int p1), .val (.int p2), .val (.ref w_IX), .unset, .unset] (hb hby at_9) rfl rfl ?_
    refine g_iloadN X19 hx (hb hby at_10) rfl ?_
    refine Go.mp (fun _ k => X19.ldcInt hx hown (mvT hZ (hw _ (List.mem_of_getElem? (i := 0) rfl))) (g := (mkF m 11 #[.val (.int p1), .val (.int p2), .val (.ref w_IX), .unset, .unset] [(.int p2)])) rfl (hb hby at_11) _ k) ?_
    show Go p e below (T19.setTop (mkF m 13 #[.val (.int p1), .val (.int p2), .val (.ref w_IX), .unset, .unset] [(.int (2147483647 : Int32)), (.int p2)])) _
    refine g_iand X19 hx (hb hby at_13) ?_
    refine g_iconst X19 hx (5 : Int32) (hb hby at_14) (by decide) ?_
    refine g_irem X19 hx (hb hby at_15) (by decide) ?_
    show Go p e below (T19.setTop (mkF m 16 #[.val (.int p1), .val (.int p2), .val (.ref w_IX), .unset, .unset] [(.int ((p2 &&& (2147483647 : Int32)) % (5 : Int32)))])) _
    rcases own_mod5 p2 with q20 | q20 | q20 | q20 | q20
    · rw [q20]
      obtain ⟨v21, T21, L21, X21, q21, st21⟩ := own_callS X19 hx hZ (y := (⟨"com/example/wombat/wombat/LockModeCombinedWithPinLaw", "pick", "(I)Lcom/example/wombat/wombat/LockMode;"⟩ : MethodName)) (pc := 16) (Ls := #[.val (.int p1), .val (.int p2), .val (.ref w_IX), .unset, .unset]) (st := [(.int (0 : Int32))]) hown (hw _ (List.mem_of_getElem? (i := 1) rfl)) (hw _ (List.mem_of_getElem? (i := 2) rfl)) (hw _ (List.mem_of_getElem? (i := 3) rfl)) (hw _ (List.mem_of_getElem? (i := 4) rfl)) (by decide) (rm_pick l Z a0 hw (0 : Int32) w_IS w_IX w_S w_SIX w_X h0 n0 Z0 S_IS S_IX S_S S_SIX S_X) e19 pd_1 (hb hby at_16) (by rw [hml]; rfl) (argsL := [(.int (0 : Int32))]) (rest := []) rfl rfl rfl (W := 0) (Nat.le_of_eq rfl) (by decide) (by decide) (by decide) (by decide)
      obtain ⟨rfl, M21, e21⟩ := q21
      have N21 := Fr.app N19 M21
      have r21 : (f_pick (0 : Int32) w_IS w_IX w_S w_SIX w_X) = w_IS := by rw [f_pick, if_pos ((by decide) : (0 : Int32) = (0 : Int32))]
      rw [r21] at st21
      refine Go.mp st21 ?_
      show Go p e below (T21.setTop (mkF m 19 #[.val (.int p1), .val (.int p2), .val (.ref w_IX), .unset, .unset] [(.ref w_IS)])) _
      refine g_astoreN X21 hx #[.val (.int p1), .val (.int p2), .val (.ref w_IX), .val (.ref w_IS), .unset] (hb hby at_19) rfl rfl ?_
      refine g_aloadN X21 hx (hb hby at_20) rfl rfl ?_
      refine g_aloadN X21 hx (hb hby at_21) rfl rfl ?_
      obtain ⟨v22, T22, L22, X22, q22, st22⟩ := own_callV X21 hx hZ (y := (⟨"com/example/wombat/wombat/LockMode", "combinedWith", "(Lcom/example/wombat/wombat/LockMode;)Lcom/example/wombat/wombat/LockMode;"⟩ : MethodName)) (pc := 22) (Ls := #[.val (.int p1), .val (.int p2), .val (.ref w_IX), .val (.ref w_IS), .unset]) (st := [(.ref w_IS), (.ref w_IX)]) hown (hw _ (List.mem_of_getElem? (i := 10) rfl)) (hw _ (List.mem_of_getElem? (i := 11) rfl)) (hw _ (List.mem_of_getElem? (i := 13) rfl)) (hw _ (List.mem_of_getElem? (i := 12) rfl)) (hw _ (List.mem_of_getElem? (i := 14) rfl)) (hw _ (List.mem_of_getElem? (i := 6) rfl)) (by decide) (rm_combinedWith l Z a0 hw w_IX w_IS (3 : Int32) (15 : Int32) w_WF kk w_IS w_IX w_S w_SIX w_X h0 n0 Z0 S_WEAKEST_FIRST V_w_WF E_w_IS F_w_IS_compatible E_w_IX F_w_IX_compatible E_w_S F_w_S_compatible E_w_SIX F_w_SIX_compatible E_w_X F_w_X_compatible F_w_IX_compatible F_w_IS_compatible) e21 E_w_IX pd_2 (hb hby at_22) (by rw [hml]; rfl) (argsL := [(.ref w_IS)]) (rest := []) rfl rfl rfl (W := 0) (Nat.le_of_eq rfl) (by decide) (by decide) (by decide) (by decide)
      obtain ⟨rfl, M22, e22⟩ := q22
      have N22 := Fr.app N21 M22
      have r22 : (f_combinedWith w_IX w_IS (3 : Int32) (15 : Int32) w_WF kk w_IS w_IX w_S w_SIX w_X) = w_IX := by rw [f_combinedWith, if_neg ((by decide) : ¬ (((15 : Int32) &&& ((3 : Int32) ^^^ (-1 : Int32))) = (0 : Int32))), if_pos ((by decide) : ((3 : Int32) &&& ((3 : Int32) ^^^ (-1 : Int32))) = (0 : Int32)), if_pos ((by decide) : ((3 : Int32) &&& ((15 : Int32) ^^^ (-1 : Int32))) = (0 : Int32))]
      rw [r22] at st22
      refine Go.mp st22 ?_
      show Go p e below (T22.setTop (mkF m 25 #[.val (.int p1), .val (.int p2), .val (.ref w_IX), .val (.ref w_IS), .unset] [(.ref w_IX)])) _
      refine g_astore X22 hx #[.val (.int p1), .val (.int p2), .val (.ref w_IX), .val (.ref w_IS), .val (.ref w_IX)] (hb hby at_25) rfl rfl ?_
      refine g_aload X22 hx (hb hby at_27) rfl rfl ?_
      refine g_aloadN X22 hx (hb hby at_29) rfl rfl ?_
      refine g_aloadN X22 hx (hb hby at_30) rfl rfl ?_
      obtain ⟨v23, T23, L23, X23, q23, st23⟩ := own_callS X22 hx hZ (y := (⟨"com/example/wombat/wombat/LockModeCombinedWithPinLaw", "expected", "(Lcom/example/wombat/wombat/LockMode;Lcom/example/wombat/wombat/LockMode;)Lcom/example/wombat/wombat/LockMode;"⟩ : MethodName)) (pc := 31) (Ls := #[.val (.int p1), .val (.int p2), .val (.ref w_IX), .val (.ref w_IS), .val (.ref w_IX)]) (st := [(.ref w_IS), (.ref w_IX), (.ref w_IX)]) hown (hw _ (List.mem_of_getElem? (i := 26) rfl)) (hw _ (List.mem_of_getElem? (i := 27) rfl)) (hw _ (List.mem_of_getElem? (i := 3) rfl)) (hw _ (List.mem_of_getElem? (i := 28) rfl)) (by decide) (rm_expected l Z a0 hw w_IX w_IS w_IS w_X w_SIX h0 n0 Z0 S_IS S_X S_SIX) e22 pd_3 (hb hby at_31) (by rw [hml]; rfl) (argsL := [(.ref w_IX), (.ref w_IS)]) (rest := [(.ref w_IX)]) rfl rfl rfl (W := 1) (Nat.le_of_eq rfl) (by decide) (by decide) (by decide) (by decide)
      obtain ⟨rfl, M23, e23⟩ := q23
      have N23 := Fr.app N22 M23
      have r23 : (f_expected w_IX w_IS w_IS w_X w_SIX) = w_IX := by rw [f_expected, if_neg ((Ne.symm ne_IS_IX) : ¬ (w_IX = w_IS)), if_neg ((Ne.symm ne_IS_IX) : ¬ (w_IX = w_IS)), if_pos (rfl : w_IS = w_IS)]
      rw [r23] at st23
      refine Go.mp st23 ?_
      show Go p e below (T23.setTop (mkF m 34 #[.val (.int p1), .val (.int p2), .val (.ref w_IX), .val (.ref w_IS), .val (.ref w_IX)] [(.ref w_IX), (.ref w_IX)])) _
      have c34_0 : w_IX = w_IX := rfl
      refine g_acmp X23 hx 37 true rfl rfl (hb hby at_34) (decide_eq_true (congrArg Value.ref c34_0)) (by decide) (by decide) ?_
      refine g_iconst X23 hx (1 : Int32) (hb hby at_37) (by decide) ?_
      refine g_goto X23 hx 42 (hb hby at_38) (by decide) (by decide) ?_
      exact own_retZ X23 hx hret hlk (hb hby at_42) (by decide) (by decide) (by decide) ⟨rfl, N23⟩
    · rw [q20]
      obtain ⟨v24, T24, L24, X24, q24, st24⟩ := own_callS X19 hx hZ (y := (⟨"com/example/wombat/wombat/LockModeCombinedWithPinLaw", "pick", "(I)Lcom/example/wombat/wombat/LockMode;"⟩ : MethodName)) (pc := 16) (Ls := #[.val (.int p1), .val (.int p2), .val (.ref w_IX), .unset, .unset]) (st := [(.int (1 : Int32))]) hown (hw _ (List.mem_of_getElem? (i := 1) rfl)) (hw _ (List.mem_of_getElem? (i := 2) rfl)) (hw _ (List.mem_of_getElem? (i := 3) rfl)) (hw _ (List.mem_of_getElem? (i := 4) rfl)) (by decide) (rm_pick l Z a0 hw (1 : Int32) w_IS w_IX w_S w_SIX w_X h0 n0 Z0 S_IS S_IX S_S S_SIX S_X) e19 pd_1 (hb hby at_16) (by rw [hml]; rfl) (argsL := [(.int (1 : Int32))]) (rest := []) rfl rfl rfl (W := 0) (Nat.le_of_eq rfl) (by decide) (by decide) (by decide) (by decide)
      obtain ⟨rfl, M24, e24⟩ := q24
      have N24 := Fr.app N19 M24
      have r24 : (f_pick (1 : Int32) w_IS w_IX w_S w_SIX w_X) = w_IX := by rw [f_pick, if_neg ((by decide) : ¬ ((1 : Int32) = (0 : Int32))), if_pos ((by decide) : (1 : Int32) = (1 : Int32))]
      rw [r24] at st24
      refine Go.mp st24 ?_
      show Go p e below (T24.setTop (mkF m 19 #[.val (.int p1), .val (.int p2), .val (.ref w_IX), .unset, .unset] [(.ref w_IX)])) _
      refine g_astoreN X24 hx #[.val (.int p1), .val (.int p2), .val (.ref w_IX), .val (.ref w_IX), .unset] (hb hby at_19) rfl rfl ?_
      refine g_aloadN X24 hx (hb hby at_20) rfl rfl ?_
      refine g_aloadN X24 hx (hb hby at_21) rfl rfl ?_
      obtain ⟨v25, T25, L25, X25, q25, st25⟩ := own_callV X24 hx hZ (y := (⟨"com/example/wombat/wombat/LockMode", "combinedWith", "(Lcom/example/wombat/wombat/LockMode;)Lcom/example/wombat/wombat/LockMode;"⟩ : MethodName)) (pc := 22) (Ls := #[.val (.int p1), .val (.int p2), .val (.ref w_IX), .val (.ref w_IX), .unset]) (st := [(.ref w_IX), (.ref w_IX)]) hown (hw _ (List.mem_of_getElem? (i := 10) rfl)) (hw _ (List.mem_of_getElem? (i := 11) rfl)) (hw _ (List.mem_of_getElem? (i := 13) rfl)) (hw _ (List.mem_of_getElem? (i := 12) rfl)) (hw _ (List.mem_of_getElem? (i := 14) rfl)) (hw _ (List.mem_of_getElem? (i := 6) rfl)) (by decide) (rm_combinedWith l Z a0 hw w_IX w_IX (3 : Int32) (3 : Int32) w_WF kk w_IS w_IX w_S w_SIX w_X h0 n0 Z0 S_WEAKEST_FIRST V_w_WF E_w_IS F_w_IS_compatible E_w_IX F_w_IX_compatible E_w_S F_w_S_compatible E_w_SIX F_w_SIX_compatible E_w_X F_w_X_compatible F_w_IX_compatible F_w_IX_compatible) e24 E_w_IX pd_2 (hb hby at_22) (by rw [hml]; rfl) (argsL := [(.ref w_IX)]) (rest := []) rfl rfl rfl (W := 0) (Nat.le_of_eq rfl) (by decide) (by decide) (by decide) (by decide)
      obtain ⟨rfl, M25, e25⟩ := q25
      have N25 := Fr.app N24 M25
      have r25 : (f_combinedWith w_IX w_IX (3 : Int32) (3 : Int32) w_WF kk w_IS w_IX w_S w_SIX w_X) = w_IX := by rw [f_combinedWith, if_neg ((by decide) : ¬ (((15 : Int32) &&& ((3 : Int32) ^^^ (-1 : Int32))) = (0 : Int32))), if_pos ((by decide) : ((3 : Int32) &&& ((3 : Int32) ^^^ (-1 : Int32))) = (0 : Int32)), if_pos ((by decide) : ((3 : Int32) &&& ((3 : Int32) ^^^ (-1 : Int32))) = (0 : Int32))]
      rw [r25] at st25
      refine Go.mp st25 ?_
      show Go p e below (T25.setTop (mkF m 25 #[.val (.int p1), .val (.int p2), .val (.ref w_IX), .val (.ref w_IX), .unset] [(.ref w_IX)])) _
      refine g_astore X25 hx #[.val (.int p1), .val (.int p2), .val (.ref w_IX), .val (.ref w_IX), .val (.ref w_IX)] (hb hby at_25) rfl rfl ?_
      refine g_aload X25 hx (hb hby at_27) rfl rfl ?_
      refine g_aloadN X25 hx (hb hby at_29) rfl rfl ?_
      refine g_aloadN X25 hx (hb hby at_30) rfl rfl ?_
      obtain ⟨v26, T26, L26, X26, q26, st26⟩ := own_callS X25 hx hZ (y := (⟨"com/example/wombat/wombat/LockModeCombinedWithPinLaw", "expected", "(Lcom/example/wombat/wombat/LockMode;Lcom/example/wombat/wombat/LockMode;)Lcom/example/wombat/wombat/LockMode;"⟩ : MethodName)) (pc := 31) (Ls := #[.val (.int p1), .val (.int p2), .val (.ref w_IX), .val (.ref w_IX), .val (.ref w_IX)]) (st := [(.ref w_IX), (.ref w_IX), (.ref w_IX)]) hown (hw _ (List.mem_of_getElem? (i := 26) rfl)) (hw _ (List.mem_of_getElem? (i := 27) rfl)) (hw _ (List.mem_of_getElem? (i := 3) rfl)) (hw _ (List.mem_of_getElem? (i := 28) rfl)) (by decide) (rm_expected l Z a0 hw w_IX w_IX w_IS w_X w_SIX h0 n0 Z0 S_IS S_X S_SIX) e25 pd_3 (hb hby at_31) (by rw [hml]; rfl) (argsL := [(.ref w_IX), (.ref w_IX)]) (rest := [(.ref w_IX)]) rfl rfl rfl (W := 1) (Nat.le_of_eq rfl) (by decide) (by decide) (by decide) (by decide)
      obtain ⟨rfl, M26, e26⟩ := q26
      have N26 := Fr.app N25 M26
      have r26 : (f_expected w_IX w_IX w_IS w_X w_SIX) = w_IX := by rw [f_expected, if_pos (rfl : w_IX = w_IX)]
      rw [r26] at st26
      refine Go.mp st26 ?_
      show Go p e below (T26.setTop (mkF m 34 #[.val (.int p1), .val (.int p2), .val (.ref w_IX), .val (.ref w_IX), .val (.ref w_IX)] [(.ref w_IX), (.ref w_IX)])) _
      have c34_0 : w_IX = w_IX := rfl
      refine g_acmp X26 hx 37 true rfl rfl (hb hby at_34) (decide_eq_true (congrArg Value.ref c34_0)) (by decide) (by decide) ?_
      refine g_iconst X26 hx (1 : Int32) (hb hby at_37) (by decide) ?_
      refine g_goto X26 hx 42 (hb hby at_38) (by decide) (by decide) ?_
      exact own_retZ X26 hx hret hlk (hb hby at_42) (by decide) (by decide) (by decide) ⟨rfl, N26⟩
    · rw [q20]
      obtain ⟨v27, T27, L27, X27, q27, st27⟩ := own_callS X19 hx hZ (y := (⟨"com/example/wombat/wombat/LockModeCombinedWithPinLaw", "pick", "(I)Lcom/example/wombat/wombat/LockMode;"⟩ : MethodName)) (pc := 16) (Ls := #[.val (.int p1), .val (.int p2), .val (.ref w_IX), .unset, .unset]) (st := [(.int (2 : Int32))]) hown (hw _ (List.mem_of_getElem? (i := 1) rfl)) (hw _ (List.mem_of_getElem? (i := 2) rfl)) (hw _ (List.mem_of_getElem? (i := 3) rfl)) (hw _ (List.mem_of_getElem? (i := 4) rfl)) (by decide) (rm_pick l Z a0 hw (2 : Int32) w_IS w_IX w_S w_SIX w_X h0 n0 Z0 S_IS S_IX S_S S_SIX S_X) e19 pd_1 (hb hby at_16) (by rw [hml]; rfl) (argsL := [(.int (2 : Int32))]) (rest := []) rfl rfl rfl (W := 0) (Nat.le_of_eq rfl) (by decide) (by decide) (by decide) (by decide)
      obtain ⟨rfl, M27, e27⟩ := q27
      have N27 := Fr.app N19 M27
      have r27 : (f_pick (2 : Int32) w_IS w_IX w_S w_SIX w_X) = w_S := by rw [f_pick, if_neg ((by decide) : ¬ ((2 : Int32) = (0 : Int32))), if_neg ((by decide) : ¬ ((2 : Int32) = (1 : Int32))), if_pos ((by decide) : (2 : Int32) = (2 : Int32))]
      rw [r27] at st27
      refine Go.mp st27 ?_
      show Go p e below (T27.setTop (mkF m 19 #[.val (.int p1), .val (.int p2), .val (.ref w_IX), .unset, .unset] [(.ref w_S)])) _
      refine g_astoreN X27 hx #[.val (.int p1), .val (.int p2), .val (.ref w_IX), .val (.ref w_S), .unset] (hb hby at_19) rfl rfl ?_
      refine g_aloadN X27 hx (hb hby at_20) rfl rfl ?_
      refine g_aloadN X27 hx (hb hby at_21) rfl rfl ?_
      obtain ⟨v28, T28, L28, X28, q28, st28⟩ := own_callV X27 hx hZ (y := (⟨"com/example/wombat/wombat/LockMode", "combinedWith", "(Lcom/example/wombat/wombat/LockMode;)Lcom/example/wombat/wombat/LockMode;"⟩ : MethodName)) (pc := 22) (Ls := #[.val (.int p1), .val (.int p2), .val (.ref w_IX), .val (.ref w_S), .unset]) (st := [(.ref w_S), (.ref w_IX)]) hown (hw _ (List.mem_of_getElem? (i := 10) rfl)) (hw _ (List.mem_of_getElem? (i := 11) rfl)) (hw _ (List.mem_of_getElem? (i := 13) rfl)) (hw _ (List.mem_of_getElem? (i := 12) rfl)) (hw _ (List.mem_of_getElem? (i := 14) rfl)) (hw _ (List.mem_of_getElem? (i := 6) rfl)) (by decide) (rm_combinedWith l Z a0 hw w_IX w_S (3 : Int32) (5 : Int32) w_WF kk w_IS w_IX w_S w_SIX w_X h0 n0 Z0 S_WEAKEST_FIRST V_w_WF E_w_IS F_w_IS_compatible E_w_IX F_w_IX_compatible E_w_S F_w_S_compatible E_w_SIX F_w_SIX_compatible E_w_X F_w_X_compatible F_w_IX_compatible F_w_S_compatible) e27 E_w_IX pd_2 (hb hby at_22) (by rw [hml]; rfl) (argsL := [(.ref w_S)]) (rest := []) rfl rfl rfl (W := 0) (Nat.le_of_eq rfl) (by decide) (by decide) (by decide) (by decide)
      obtain ⟨rfl, M28, e28⟩ := q28
      have N28 := Fr.app N27 M28
      have r28 : (f_combinedWith w_IX w_S (3 : Int32) (5 : Int32) w_WF kk w_IS w_IX w_S w_SIX w_X) = w_SIX := by rw [f_combinedWith, if_neg ((by decide) : ¬ (((15 : Int32) &&& ((3 : Int32) ^^^ (-1 : Int32))) = (0 : Int32))), if_pos ((by decide) : ((3 : Int32) &&& ((3 : Int32) ^^^ (-1 : Int32))) = (0 : Int32)), if_neg ((by decide) : ¬ (((3 : Int32) &&& ((5 : Int32) ^^^ (-1 : Int32))) = (0 : Int32))), if_neg ((by decide) : ¬ (((5 : Int32) &&& ((3 : Int32) ^^^ (-1 : Int32))) = (0 : Int32))), if_pos ((by decide) : ((1 : Int32) &&& ((3 : Int32) ^^^ (-1 : Int32))) = (0 : Int32)), if_pos ((by decide) : ((1 : Int32) &&& ((5 : Int32) ^^^ (-1 : Int32))) = (0 : Int32))]
      rw [r28] at st28
      refine Go.mp st28 ?_
      show Go p e below (T28.setTop (mkF m 25 #[.val (.int p1), .val (.int p2), .val (.ref w_IX), .val (.ref w_S), .unset] [(.ref w_SIX)])) _
      refine g_astore X28 hx #[.val (.int p1), .val (.int p2), .val (.ref w_IX), .val (.ref w_S), .val (.ref w_SIX)] (hb hby at_25) rfl rfl ?_
      refine g_aload X28 hx (hb hby at_27) rfl rfl ?_
      refine g_aloadN X28 hx (hb hby at_29) rfl rfl ?_
      refine g_aloadN X28 hx (hb hby at_30) rfl rfl ?_
      obtain ⟨v29, T29, L29, X29, q29, st29⟩ := own_callS X28 hx hZ (y := (⟨"com/example/wombat/wombat/LockModeCombinedWithPinLaw", "expected", "(Lcom/example/wombat/wombat/LockMode;Lcom/example/wombat/wombat/LockMode;)Lcom/example/wombat/wombat/LockMode;"⟩ : MethodName)) (pc := 31) (Ls := #[.val (.int p1), .val (.int p2), .val (.ref w_IX), .val (.ref w_S), .val (.ref w_SIX)]) (st := [(.ref w_S), (.ref w_IX), (.ref w_SIX)]) hown (hw _ (List.mem_of_getElem? (i := 26) rfl)) (hw _ (List.mem_of_getElem? (i := 27) rfl)) (hw _ (List.mem_of_getElem? (i := 3) rfl)) (hw _ (List.mem_of_getElem? (i := 28) rfl)) (by decide) (rm_expected l Z a0 hw w_IX w_S w_IS w_X w_SIX h0 n0 Z0 S_IS S_X S_SIX) e28 pd_3 (hb hby at_31) (by rw [hml]; rfl) (argsL := [(.ref w_IX), (.ref w_S)]) (rest := [(.ref w_SIX)]) rfl rfl rfl (W := 1) (Nat.le_of_eq rfl) (by decide) (by decide) (by decide) (by decide)
      obtain ⟨rfl, M29, e29⟩ := q29
      have N29 := Fr.app N28 M29
      have r29 : (f_expected w_IX w_S w_IS w_X w_SIX) = w_SIX := by rw [f_expected, if_neg (ne_IX_S : ¬ (w_IX = w_S)), if_neg ((Ne.symm ne_IS_IX) : ¬ (w_IX = w_IS)), if_neg ((Ne.symm ne_IS_S) : ¬ (w_S = w_IS)), if_neg (ne_IX_X : ¬ (w_IX = w_X)), if_neg (ne_S_X : ¬ (w_S = w_X))]
      rw [r29] at st29
      refine Go.mp st29 ?_
      show Go p e below (T29.setTop (mkF m 34 #[.val (.int p1), .val (.int p2), .val (.ref w_IX), .val (.ref w_S), .val (.ref w_SIX)] [(.ref w_SIX), (.ref w_SIX)])) _
      have c34_0 : w_SIX = w_SIX := rfl
      refine g_acmp X29 hx 37 true rfl rfl (hb hby at_34) (decide_eq_true (congrArg Value.ref c34_0)) (by decide) (by decide) ?_
      refine g_iconst X29 hx (1 : Int32) (hb hby at_37) (by decide) ?_
      refine g_goto X29 hx 42 (hb hby at_38) (by decide) (by decide) ?_
      exact own_retZ X29 hx hret hlk (hb hby at_42) (by decide) (by decide) (by decide) ⟨rfl, N29⟩
    · rw [q20]
      obtain ⟨v30, T30, L30, X30, q30, st30⟩ := own_callS X19 hx hZ (y := (⟨"com/example/wombat/wombat/LockModeCombinedWithPinLaw", "pick", "(I)Lcom/example/wombat/wombat/LockMode;"⟩ : MethodName)) (pc := 16) (Ls := #[.val (.int p1), .val (.int p2), .val (.ref w_IX), .unset, .unset]) (st := [(.int (3 : Int32))]) hown (hw _ (List.mem_of_getElem? (i := 1) rfl)) (hw _ (List.mem_of_getElem? (i := 2) rfl)) (hw _ (List.mem_of_getElem? (i := 3) rfl)) (hw _ (List.mem_of_getElem? (i := 4) rfl)) (by decide) (rm_pick l Z a0 hw (3 : Int32) w_IS w_IX w_S w_SIX w_X h0 n0 Z0 S_IS S_IX S_S S_SIX S_X) e19 pd_1 (hb hby at_16) (by rw [hml]; rfl) (argsL := [(.int (3 : Int32))]) (rest := []) rfl rfl rfl (W := 0) (Nat.le_of_eq rfl) (by decide) (by decide) (by decide) (by decide)
      obtain ⟨rfl, M30, e30⟩ := q30
      have N30 := Fr.app N19 M30
      have r30 : (f_pick (3 : Int32) w_IS w_IX w_S w_SIX w_X) = w_SIX := by rw [f_pick, if_neg ((by decide) : ¬ ((3 : Int32) = (0 : Int32))), if_neg ((by decide) : ¬ ((3 : Int32) = (1 : Int32))), if_neg ((by decide) : ¬ ((3 : Int32) = (2 : Int32))), if_pos ((by decide) : (3 : Int32) = (3 : Int32))]
      rw [r30] at st30
      refine Go.mp st30 ?_
      show Go p e below (T30.setTop (mkF m 19 #[.val (.int p1), .val (.int p2), .val (.ref w_IX), .unset, .unset] [(.ref w_SIX)])) _
      refine g_astoreN X30 hx #[.val (.int p1), .val (.int p2), .val (.ref w_IX), .val (.ref w_SIX), .unset] (hb hby at_19) rfl rfl ?_
      refine g_aloadN X30 hx (hb hby at_20) rfl rfl ?_
      refine g_aloadN X30 hx (hb hby at_21) rfl rfl ?_
      obtain ⟨v31, T31, L31, X31, q31, st31⟩ := own_callV X30 hx hZ (y := (⟨"com/example/wombat/wombat/LockMode", "combinedWith", "(Lcom/example/wombat/wombat/LockMode;)Lcom/example/wombat/wombat/LockMode;"⟩ : MethodName)) (pc := 22) (Ls := #[.val (.int p1), .val (.int p2), .val (.ref w_IX), .val (.ref w_SIX), .unset]) (st := [(.ref w_SIX), (.ref w_IX)]) hown (hw _ (List.mem_of_getElem? (i := 10) rfl)) (hw _ (List.mem_of_getElem? (i := 11) rfl)) (hw _ (List.mem_of_getElem? (i := 13) rfl)) (hw _ (List.mem_of_getElem? (i := 12) rfl)) (hw _ (List.mem_of_getElem? (i := 14) rfl)) (hw _ (List.mem_of_getElem? (i := 6) rfl)) (by decide) (rm_combinedWith l Z a0 hw w_IX w_SIX (3 : Int32) (1 : Int32) w_WF kk w_IS w_IX w_S w_SIX w_X h0 n0 Z0 S_WEAKEST_FIRST V_w_WF E_w_IS F_w_IS_compatible E_w_IX F_w_IX_compatible E_w_S F_w_S_compatible E_w_SIX F_w_SIX_compatible E_w_X F_w_X_compatible F_w_IX_compatible F_w_SIX_compatible) e30 E_w_IX pd_2 (hb hby at_22) (by rw [hml]; rfl) (argsL := [(.ref w_SIX)]) (rest := []) rfl rfl rfl (W := 0) (Nat.le_of_eq rfl) (by decide) (by decide) (by decide) (by decide)
      obtain ⟨rfl, M31, e31⟩ := q31
      have N31 := Fr.app N30 M31
      have r31 : (f_combinedWith w_IX w_SIX (3 : Int32) (1 : Int32) w_WF kk w_IS w_IX w_S w_SIX w_X) = w_SIX := by rw [f_combinedWith, if_neg ((by decide) : ¬ (((15 : Int32) &&& ((3 : Int32) ^^^ (-1 : Int32))) = (0 : Int32))), if_pos ((by decide) : ((3 : Int32) &&& ((3 : Int32) ^^^ (-1 : Int32))) = (0 : Int32)), if_neg ((by decide) : ¬ (((3 : Int32) &&& ((1 : Int32) ^^^ (-1 : Int32))) = (0 : Int32))), if_neg ((by decide) : ¬ (((5 : Int32) &&& ((3 : Int32) ^^^ (-1 : Int32))) = (0 : Int32))), if_pos ((by decide) : ((1 : Int32) &&& ((3 : Int32) ^^^ (-1 : Int32))) = (0 : Int32)), if_pos ((by decide) : ((1 : Int32) &&& ((1 : Int32) ^^^ (-1 : Int32))) = (0 : Int32))]
      rw [r31] at st31
      refine Go.mp st31 ?_
      show Go p e below (T31.setTop (mkF m 25 #[.val (.int p1), .val (.int p2), .val (.ref w_IX), .val (.ref w_SIX), .unset] [(.ref w_SIX)])) _
      refine g_astore X31 hx #[.val (.int p1), .val (.int p2), .val (.ref w_IX), .val (.ref w_SIX), .val (.ref w_SIX)] (hb hby at_25) rfl rfl ?_
      refine g_aload X31 hx (hb hby at_27) rfl rfl ?_
      refine g_aloadN X31 hx (hb hby at_29) rfl rfl ?_
      refine g_aloadN X31 hx (hb hby at_30) rfl rfl ?_
      obtain ⟨v32, T32, L32, X32, q32, st32⟩ := own_callS X31 hx hZ (y := (⟨"com/example/wombat/wombat/LockModeCombinedWithPinLaw", "expected", "(Lcom/example/wombat/wombat/LockMode;Lcom/example/wombat/wombat/LockMode;)Lcom/example/wombat/wombat/LockMode;"⟩ : MethodName)) (pc := 31) (Ls := #[.val (.int p1), .val (.int p2), .val (.ref w_IX), .val (.ref w_SIX), .val (.ref w_SIX)]) (st := [(.ref w_SIX), (.ref w_IX), (.ref w_SIX)]) hown (hw _ (List.mem_of_getElem? (i := 26) rfl)) (hw _ (List.mem_of_getElem? (i := 27) rfl)) (hw _ (List.mem_of_getElem? (i := 3) rfl)) (hw _ (List.mem_of_getElem? (i := 28) rfl)) (by decide) (rm_expected l Z a0 hw w_IX w_SIX w_IS w_X w_SIX h0 n0 Z0 S_IS S_X S_SIX) e31 pd_3 (hb hby at_31) (by rw [hml]; rfl) (argsL := [(.ref w_IX), (.ref w_SIX)]) (rest := [(.ref w_SIX)]) rfl rfl rfl (W := 1) (Nat.le_of_eq rfl) (by decide) (by decide) (by decide) (by decide)
      obtain ⟨rfl, M32, e32⟩ := q32
      have N32 := Fr.app N31 M32
      have r32 : (f_expected w_IX w_SIX w_IS w_X w_SIX) = w_SIX := by rw [f_expected, if_neg ((Ne.symm ne_SIX_IX) : ¬ (w_IX = w_SIX)), if_neg ((Ne.symm ne_IS_IX) : ¬ (w_IX = w_IS)), if_neg ((Ne.symm ne_IS_SIX) : ¬ (w_SIX = w_IS)), if_neg (ne_IX_X : ¬ (w_IX = w_X)), if_neg (ne_SIX_X : ¬ (w_SIX = w_X))]
      rw [r32] at st32
      refine Go.mp st32 ?_
      show Go p e below (T32.setTop (mkF m 34 #[.val (.int p1), .val (.int p2), .val (.ref w_IX), .val (.ref w_SIX), .val (.ref w_SIX)] [(.ref w_SIX), (.ref w_SIX)])) _
      have c34_0 : w_SIX = w_SIX := rfl
      refine g_acmp X32 hx 37 true rfl rfl (hb hby at_34) (decide_eq_true (congrArg Value.ref c34_0)) (by decide) (by decide) ?_
      refine g_iconst X32 hx (1 : Int32) (hb hby at_37) (by decide) ?_
      refine g_goto X32 hx 42 (hb hby at_38) (by decide) (by decide) ?_
      exact own_retZ X32 hx hret hlk (hb hby at_42) (by decide) (by decide) (by decide) ⟨rfl, N32⟩
    · rw [q20]
      obtain ⟨v33, T33, L33, X33, q33, st33⟩ := own_callS X19 hx hZ (y := (⟨"com/example/wombat/wombat/LockModeCombinedWithPinLaw", "pick", "(I)Lcom/example/wombat/wombat/LockMode;"⟩ : MethodName)) (pc := 16) (Ls := #[.val (.int p1), .val (.int p2), .val (.ref w_IX), .unset, .unset]) (st := [(.int (4 : Int32))]) hown (hw _ (List.mem_of_getElem? (i := 1) rfl)) (hw _ (List.mem_of_getElem? (i := 2) rfl)) (hw _ (List.mem_of_getElem? (i := 3) rfl)) (hw _ (List.mem_of_getElem? (i := 4) rfl)) (by decide) (rm_pick l Z a0 hw (4 : Int32) w_IS w_IX w_S w_SIX w_X h0 n0 Z0 S_IS S_IX S_S S_SIX S_X) e19 pd_1 (hb hby at_16) (by rw [hml]; rfl) (argsL := [(.int (4 : Int32))]) (rest := []) rfl rfl rfl (W := 0) (Nat.le_of_eq rfl) (by decide) (by decide) (by decide) (by decide)
      obtain ⟨rfl, M33, e33⟩ := q33
      have N33 := Fr.app N19 M33
      have r33 : (f_pick (4 : Int32) w_IS w_IX w_S w_SIX w_X) = w_X := by rw [f_pick, if_neg ((by decide) : ¬ ((4 : Int32) = (0 : Int32))), if_neg ((by decide) : ¬ ((4 : Int32) = (1 : Int32))), if_neg ((by decide) : ¬ ((4 : Int32) = (2 : Int32))), if_neg ((by decide) : ¬ ((4 : Int32) = (3 : Int32)))]
      rw [r33] at st33
      refine Go.mp st33 ?_
      show Go p e below (T33.setTop (mkF m 19 #[.val (.int p1), .val (.int p2), .val (.ref w_IX), .unset, .unset] [(.ref w_X)])) _
      refine g_astoreN X33 hx #[.val (.int p1), .val (.int p2), .val (.ref w_IX), .val (.ref w_X), .unset] (hb hby at_19) rfl rfl ?_
      refine g_aloadN X33 hx (hb hby at_20) rfl rfl ?_
      refine g_aloadN X33 hx (hb hby at_21) rfl rfl ?_
      obtain ⟨v34, T34, L34, X34, q34, st34⟩ := own_callV X33 hx hZ (y := (⟨"com/example/wombat/wombat/LockMode", "combinedWith", "(Lcom/example/wombat/wombat/LockMode;)Lcom/example/wombat/wombat/LockMode;"⟩ : MethodName)) (pc := 22) (Ls := #[.val (.int p1), .val (.int p2), .val (.ref w_IX), .val (.ref w_X), .unset]) (st := [(.ref w_X), (.ref w_IX)]) hown (hw _ (List.mem_of_getElem? (i := 10) rfl)) (hw _ (List.mem_of_getElem? (i := 11) rfl)) (hw _ (List.mem_of_getElem? (i := 13) rfl)) (hw _ (List.mem_of_getElem? (i := 12) rfl)) (hw _ (List.mem_of_getElem? (i := 14) rfl)) (hw _ (List.mem_of_getElem? (i := 6) rfl)) (by decide) (rm_combinedWith l Z a0 hw w_IX w_X (3 : Int32) (0 : Int32) w_WF kk w_IS w_IX w_S w_SIX w_X h0 n0 Z0 S_WEAKEST_FIRST V_w_WF E_w_IS F_w_IS_compatible E_w_IX F_w_IX_compatible E_w_S F_w_S_compatible E_w_SIX F_w_SIX_compatible E_w_X F_w_X_compatible F_w_IX_compatible F_w_X_compatible) e33 E_w_IX pd_2 (hb hby at_22) (by rw [hml]; rfl) (argsL := [(.ref w_X)]) (rest := []) rfl rfl rfl (W := 0) (Nat.le_of_eq rfl) (by decide) (by decide) (by decide) (by decide)
      obtain ⟨rfl, M34, e34⟩ := q34
      have N34 := Fr.app N33 M34
      have r34 : (f_combinedWith w_IX w_X (3 : Int32) (0 : Int32) w_WF kk w_IS w_IX w_S w_SIX w_X) = w_X := by rw [f_combinedWith, if_neg ((by decide) : ¬ (((15 : Int32) &&& ((3 : Int32) ^^^ (-1 : Int32))) = (0 : Int32))), if_pos ((by decide) : ((3 : Int32) &&& ((3 : Int32) ^^^ (-1 : Int32))) = (0 : Int32)), if_neg ((by decide) : ¬ (((3 : Int32) &&& ((0 : Int32) ^^^ (-1 : Int32))) = (0 : Int32))), if_neg ((by decide) : ¬ (((5 : Int32) &&& ((3 : Int32) ^^^ (-1 : Int32))) = (0 : Int32))), if_pos ((by decide) : ((1 : Int32) &&& ((3 : Int32) ^^^ (-1 : Int32))) = (0 : Int32)), if_neg ((by decide) : ¬ (((1 : Int32) &&& ((0 : Int32) ^^^ (-1 : Int32))) = (0 : Int32)))]
      rw [r34] at st34
      refine Go.mp st34 ?_
      show Go p e below (T34.setTop (mkF m 25 #[.val (.int p1), .val (.int p2), .val (.ref w_IX), .val (.ref w_X), .unset] [(.ref w_X)])) _
      refine g_astore X34 hx #[.val (.int p1), .val (.int p2), .val (.ref w_IX), .val (.ref w_X), .val (.ref w_X)] (hb hby at_25) rfl rfl ?_
      refine g_aload X34 hx (hb hby at_27) rfl rfl ?_
      refine g_aloadN X34 hx (hb hby at_29) rfl rfl ?_
      refine g_aloadN X34 hx (hb hby at_30) rfl rfl ?_
      obtain ⟨v35, T35, L35, X35, q35, st35⟩ := own_callS X34 hx hZ (y := (⟨"com/example/wombat/wombat/LockModeCombinedWithPinLaw", "expected", "(Lcom/example/wombat/wombat/LockMode;Lcom/example/wombat/wombat/LockMode;)Lcom/example/wombat/wombat/LockMode;"⟩ : MethodName)) (pc := 31) (Ls := #[.val (.int p1), .val (.int p2), .val (.ref w_IX), .val (.ref w_X), .val (.ref w_X)]) (st := [(.ref w_X), (.ref w_IX), (.ref w_X)]) hown (hw _ (List.mem_of_getElem? (i := 26) rfl)) (hw _ (List.mem_of_getElem? (i := 27) rfl)) (hw _ (List.mem_of_getElem? (i := 3) rfl)) (hw _ (List.mem_of_getElem? (i := 28) rfl)) (by decide) (rm_expected l Z a0 hw w_IX w_X w_IS w_X w_SIX h0 n0 Z0 S_IS S_X S_SIX) e34 pd_3 (hb hby at_31) (by rw [hml]; rfl) (argsL := [(.ref w_IX), (.ref w_X)]) (rest := [(.ref w_X)]) rfl rfl rfl (W := 1) (Nat.le_of_eq rfl) (by decide) (by decide) (by decide) (by decide)
      obtain ⟨rfl, M35, e35⟩ := q35
      have N35 := Fr.app N34 M35
      have r35 : (f_expected w_IX w_X w_IS w_X w_SIX) = w_X := by rw [f_expected, if_neg (ne_IX_X : ¬ (w_IX = w_X)), if_neg ((Ne.symm ne_IS_IX) : ¬ (w_IX = w_IS)), if_neg ((Ne.symm ne_IS_X) : ¬ (w_X = w_IS)), if_neg (ne_IX_X : ¬ (w_IX = w_X)), if_pos (rfl : w_X = w_X)]
      rw [r35] at st35
      refine Go.mp st35 ?_
      show Go p e below (T35.setTop (mkF m 34 #[.val (.int p1), .val (.int p2), .val (.ref w_IX), .val (.ref w_X), .val (.ref w_X)] [(.ref w_X), (.ref w_X)])) _
      have c34_0 : w_X = w_X := rfl
      refine g_acmp X35 hx 37 true rfl rfl (hb hby at_34) (decide_eq_true (congrArg Value.ref c34_0)) (by decide) (by decide) ?_
      refine g_iconst X35 hx (1 : Int32) (hb hby at_37) (by decide) ?_
      refine g_goto X35 hx 42 (hb hby at_38) (by decide) (by decide) ?_
      exact own_retZ X35 hx hret hlk (hb hby at_42) (by decide) (by decide) (by decide) ⟨rfl, N35⟩
  · rw [q1]
    obtain ⟨v36, T36, L36, X36, q36, st36⟩ := own_callS X0 hx hZ (y := (⟨"com/example/wombat/wombat/LockModeCombinedWithPinLaw", "pick", "(I)Lcom/example/wombat/wombat/LockMode;"⟩ : MethodName)) (pc := 6) (Ls := #[.val (.int p1), .val (.int p2), .unset, .unset, .unset]) (st := [(.int (2 : Int32))]) hown (hw _ (List.mem_of_getElem? (i := 1) rfl)) (hw _ (List.mem_of_getElem? (i := 2) rfl)) (hw _ (List.mem_of_getElem? (i := 3) rfl)) (hw _ (List.mem_of_getElem? (i := 4) rfl)) (by decide) (rm_pick l Z a0 hw (2 : Int32) w_IS w_IX w_S w_SIX w_X h0 n0 Z0 S_IS S_IX S_S S_SIX S_X) e0 pd_1 (hb hby at_6) (by rw [hml]; rfl) (argsL := [(.int (2 : Int32))]) (rest := []) rfl rfl rfl (W := 0) (Nat.le_of_eq rfl) (by decide) (by decide) (by decide) (by decide)
    obtain ⟨rfl, M36, e36⟩ := q36
    have N36 := Fr.app N0 M36
    have r36 : (f_pick (2 : Int32) w_IS w_IX w_S w_SIX w_X) = w_S := by rw [f_pick, if_neg ((by decide) : ¬ ((2 : Int32) = (0 : Int32))), if_neg ((by decide) : ¬ ((2 : Int32) = (1 : Int32))), if_pos ((by decide) : (2 : Int32) = (2 : Int32))]
    rw [r36] at st36
    refine Go.mp st36 ?_
    show Go p e below (T36.setTop (mkF m 9 #[.val (.int p1), .val (.int p2), .unset, .unset, .unset] [(.ref w_S)])) _
    refine g_astoreN X36 hx #[.val (.int p1), .val (.int p2), .val (.ref w_S), .unset, .unset] (hb hby at_9) rfl rfl ?_
    refine g_iloadN X36 hx (hb hby at_10) rfl ?_
    refine Go.mp (fun _ k => X36.ldcInt hx hown (mvT hZ (hw _ (List.mem_of_getElem? (i := 0) rfl))) (g := (mkF m 11 #[.val (.int p1), .val (.int p2), .val (.ref w_S), .unset, .unset] [(.int p2)])) rfl (hb hby at_11) _ k) ?_
    show Go p e below (T36.setTop (mkF m 13 #[.val (.int p1), .val (.int p2), .val (.ref w_S), .unset, .unset] [(.int (2147483647 : Int32)), (.int p2)])) _
    refine g_iand X36 hx (hb hby at_13) ?_
    refine g_iconst X36 hx (5 : Int32) (hb hby at_14) (by decide) ?_
    refine g_irem X36 hx (hb hby at_15) (by decide) ?_
    show Go p e below (T36.setTop (mkF m 16 #[.val (.int p1), .val (.int p2), .val (.ref w_S), .unset, .unset] [(.int ((p2 &&& (2147483647 : Int32)) % (5 : Int32)))])) _
    rcases own_mod5 p2 with q37 | q37 | q37 | q37 | q37
    · rw [q37]
      obtain ⟨v38, T38, L38, X38, q38, st38⟩ := own_callS X36 hx hZ (y := (⟨"com/example/wombat/wombat/LockModeCombinedWithPinLaw", "pick", "(I)Lcom/example/wombat/wombat/LockMode;"⟩ : MethodName)) (pc := 16) (Ls := #[.val (.int p1), .val (.int p2), .val (.ref w_S), .unset, .unset]) (st := [(.int (0 : Int32))]) hown (hw _ (List.mem_of_getElem? (i := 1) rfl)) (hw _ (List.mem_of_getElem? (i := 2) rfl)) (hw _ (List.mem_of_getElem? (i := 3) rfl)) (hw _ (List.mem_of_getElem? (i := 4) rfl)) (by decide) (rm_pick l Z a0 hw (0 : Int32) w_IS w_IX w_S w_SIX w_X h0 n0 Z0 S_IS S_IX S_S S_SIX S_X) e36 pd_1 (hb hby at_16) (by rw [hml]; rfl) (argsL := [(.int (0 : Int32))]) (rest := []) rfl rfl rfl (W := 0) (Nat.le_of_eq rfl) (by decide) (by decide) (by decide) (by decide)
      obtain ⟨rfl, M38, e38⟩ := q38
      have N38 := Fr.app N36 M38
      have r38 : (f_pick (0 : Int32) w_IS w_IX w_S w_SIX w_X) = w_IS := by rw [f_pick, if_pos ((by decide) : (0 : Int32) = (0 : Int32))]
      rw [r38] at st38
      refine Go.mp st38 ?_
      show Go p e below (T38.setTop (mkF m 19 #[.val (.int p1), .val (.int p2), .val (.ref w_S), .unset, .unset] [(.ref w_IS)])) _
      refine g_astoreN X38 hx #[.val (.int p1), .val (.int p2), .val (.ref w_S), .val (.ref w_IS), .unset] (hb hby at_19) rfl rfl ?_
      refine g_aloadN X38 hx (hb hby at_20) rfl rfl ?_
      refine g_aloadN X38 hx (hb hby at_21) rfl rfl ?_
      obtain ⟨v39, T39, L39, X39, q39, st39⟩ := own_callV X38 hx hZ (y := (⟨"com/example/wombat/wombat/LockMode", "combinedWith", "(Lcom/example/wombat/wombat/LockMode;)Lcom/example/wombat/wombat/LockMode;"⟩ : MethodName)) (pc := 22) (Ls := #[.val (.int p1), .val (.int p2), .val (.ref w_S), .val (.ref w_IS), .unset]) (st := [(.ref w_IS), (.ref w_S)]) hown (hw _ (List.mem_of_getElem? (i := 10) rfl)) (hw _ (List.mem_of_getElem? (i := 11) rfl)) (hw _ (List.mem_of_getElem? (i := 13) rfl)) (hw _ (List.mem_of_getElem? (i := 12) rfl)) (hw _ (List.mem_of_getElem? (i := 14) rfl)) (hw _ (List.mem_of_getElem? (i := 6) rfl)) (by decide) (rm_combinedWith l Z a0 hw w_S w_IS (5 : Int32) (15 : Int32) w_WF kk w_IS w_IX w_S w_SIX w_X h0 n0 Z0 S_WEAKEST_FIRST V_w_WF E_w_IS F_w_IS_compatible E_w_IX F_w_IX_compatible E_w_S F_w_S_compatible E_w_SIX F_w_SIX_compatible E_w_X F_w_X_compatible F_w_S_compatible F_w_IS_compatible) e38 E_w_S pd_2 (hb hby at_22) (by rw [hml]; rfl) (argsL := [(.ref w_IS)]) (rest := []) rfl rfl rfl (W := 0) (Nat.le_of_eq rfl) (by decide) (by decide) (by decide) (by decide)
      obtain ⟨rfl, M39, e39⟩ := q39
      have N39 := Fr.app N38 M39
      have r39 : (f_combinedWith w_S w_IS (5 : Int32) (15 : Int32) w_WF kk w_IS w_IX w_S w_SIX w_X) = w_S := by rw [f_combinedWith, if_neg ((by decide) : ¬ (((15 : Int32) &&& ((5 : Int32) ^^^ (-1 : Int32))) = (0 : Int32))), if_neg ((by decide) : ¬ (((3 : Int32) &&& ((5 : Int32) ^^^ (-1 : Int32))) = (0 : Int32))), if_pos ((by decide) : ((5 : Int32) &&& ((5 : Int32) ^^^ (-1 : Int32))) = (0 : Int32)), if_pos ((by decide) : ((5 : Int32) &&& ((15 : Int32) ^^^ (-1 : Int32))) = (0 : Int32))]
      rw [r39] at st39
      refine Go.mp st39 ?_
      show Go p e below (T39.setTop (mkF m 25 #[.val (.int p1), .val (.int p2), .val (.ref w_S), .val (.ref w_IS), .unset] [(.ref w_S)])) _
      refine g_astore X39 hx #[.val (.int p1), .val (.int p2), .val (.ref w_S), .val (.ref w_IS), .val (.ref w_S)] (hb hby at_25) rfl rfl ?_
      refine g_aload X39 hx (hb hby at_27) rfl rfl ?_
      refine g_aloadN X39 hx (hb hby at_29) rfl rfl ?_
      refine g_aloadN X39 hx (hb hby at_30) rfl rfl ?_
      obtain ⟨v40, T40, L40, X40, q40, st40⟩ := own_callS X39 hx hZ (y := (⟨"com/example/wombat/wombat/LockModeCombinedWithPinLaw", "expected", "(Lcom/example/wombat/wombat/LockMode;Lcom/example/wombat/wombat/LockMode;)Lcom/example/wombat/wombat/LockMode;"⟩ : MethodName)) (pc := 31) (Ls := #[.val (.int p1), .val (.int p2), .val (.ref w_S), .val (.ref w_IS), .val (.ref w_S)]) (st := [(.ref w_IS), (.ref w_S), (.ref w_S)]) hown (hw _ (List.mem_of_getElem? (i := 26) rfl)) (hw _ (List.mem_of_getElem? (i := 27) rfl)) (hw _ (List.mem_of_getElem? (i := 3) rfl)) (hw _ (List.mem_of_getElem? (i := 28) rfl)) (by decide) (rm_expected l Z a0 hw w_S w_IS w_IS w_X w_SIX h0 n0 Z0 S_IS S_X S_SIX) e39 pd_3 (hb hby at_31) (by rw [hml]; rfl) (argsL := [(.ref w_S), (.ref w_IS)]) (rest := [(.ref w_S)]) rfl rfl rfl (W := 1) (Nat.le_of_eq rfl) (by decide) (by decide) (by decide) (by decide)
      obtain ⟨rfl, M40, e40⟩ := q40
      have N40 := Fr.app N39 M40
      have r40 : (f_expected w_S w_IS w_IS w_X w_SIX) = w_S := by rw [f_expected, if_neg ((Ne.symm ne_IS_S) : ¬ (w_S = w_IS)), if_neg ((Ne.symm ne_IS_S) : ¬ (w_S = w_IS)), if_pos (rfl : w_IS = w_IS)]
      rw [r40] at st40
      refine Go.mp st40 ?_
      show Go p e below (T40.setTop (mkF m 34 #[.val (.int p1), .val (.int p2), .val (.ref w_S), .val (.ref w_IS), .val (.ref w_S)] [(.ref w_S), (.ref w_S)])) _
      have c34_0 : w_S = w_S := rfl
      refine g_acmp X40 hx 37 true rfl rfl (hb hby at_34) (decide_eq_true (congrArg Value.ref c34_0)) (by decide) (by decide) ?_
      refine g_iconst X40 hx (1 : Int32) (hb hby at_37) (by decide) ?_
      refine g_goto X40 hx 42 (hb hby at_38) (by decide) (by decide) ?_
      exact own_retZ X40 hx hret hlk (hb hby at_42) (by decide) (by decide) (by decide) ⟨rfl, N40⟩
    · rw [q37]
      obtain ⟨v41, T41, L41, X41, q41, st41⟩ := own_callS X36 hx hZ (y := (⟨"com/example/wombat/wombat/LockModeCombinedWithPinLaw", "pick", "(I)Lcom/example/wombat/wombat/LockMode;"⟩ : MethodName)) (pc := 16) (Ls := #[.val (.int p1), .val (.int p2), .val (.ref w_S), .unset, .unset]) (st := [(.int (1 : Int32))]) hown (hw _ (List.mem_of_getElem? (i := 1) rfl)) (hw _ (List.mem_of_getElem? (i := 2) rfl)) (hw _ (List.mem_of_getElem? (i := 3) rfl)) (hw _ (List.mem_of_getElem? (i := 4) rfl)) (by decide) (rm_pick l Z a0 hw (1 : Int32) w_IS w_IX w_S w_SIX w_X h0 n0 Z0 S_IS S_IX S_S S_SIX S_X) e36 pd_1 (hb hby at_16) (by rw [hml]; rfl) (argsL := [(.int (1 : Int32))]) (rest := []) rfl rfl rfl (W := 0) (Nat.le_of_eq rfl) (by decide) (by decide) (by decide) (by decide)
      obtain ⟨rfl, M41, e41⟩ := q41
      have N41 := Fr.app N36 M41
      have r41 : (f_pick (1 : Int32) w_IS w_IX w_S w_SIX w_X) = w_IX := by rw [f_pick, if_neg ((by decide) : ¬ ((1 : Int32) = (0 : Int32))), if_pos ((by decide) : (1 : Int32) = (1 : Int32))]
      rw [r41] at st41
      refine Go.mp st41 ?_
      show Go p e below (T41.setTop (mkF m 19 #[.val (.int p1), .val (.int p2), .val (.ref w_S), .unset, .unset] [(.ref w_IX)])) _
      refine g_astoreN X41 hx #[.val (.int p1), .val (.int p2), .val (.ref w_S), .val (.ref w_IX), .unset] (hb hby at_19) rfl rfl ?_
      refine g_aloadN X41 hx (hb hby at_20) rfl rfl ?_
      refine g_aloadN X41 hx (hb hby at_21) rfl rfl ?_
      obtain ⟨v42, T42, L42, X42, q42, st42⟩ := own_callV X41 hx hZ (y := (⟨"com/example/wombat/wombat/LockMode", "combinedWith", "(Lcom/example/wombat/wombat/LockMode;)Lcom/example/wombat/wombat/LockMode;"⟩ : MethodName)) (pc := 22) (Ls := #[.val (.int p1), .val (.int p2), .val (.ref w_S), .val (.ref w_IX), .unset]) (st := [(.ref w_IX), (.ref w_S)]) hown (hw _ (List.mem_of_getElem? (i := 10) rfl)) (hw _ (List.mem_of_getElem? (i := 11) rfl)) (hw _ (List.mem_of_getElem? (i := 13) rfl)) (hw _ (List.mem_of_getElem? (i := 12) rfl)) (hw _ (List.mem_of_getElem? (i := 14) rfl)) (hw _ (List.mem_of_getElem? (i := 6) rfl)) (by decide) (rm_combinedWith l Z a0 hw w_S w_IX (5 : Int32) (3 : Int32) w_WF kk w_IS w_IX w_S w_SIX w_X h0 n0 Z0 S_WEAKEST_FIRST V_w_WF E_w_IS F_w_IS_compatible E_w_IX F_w_IX_compatible E_w_S F_w_S_compatible E_w_SIX F_w_SIX_compatible E_w_X F_w_X_compatible F_w_S_compatible F_w_IX_compatible) e41 E_w_S pd_2 (hb hby at_22) (by rw [hml]; rfl) (argsL := [(.ref w_IX)]) (rest := []) rfl rfl rfl (W := 0) (Nat.le_of_eq rfl) (by decide) (by decide) (by decide) (by decide)
      obtain ⟨rfl, M42, e42⟩ := q42
      have N42 := Fr.app N41 M42
      have r42 : (f_combinedWith w_S w_IX (5 : Int32) (3 : Int32) w_WF kk w_IS w_IX w_S w_SIX w_X) = w_SIX := by rw [f_combinedWith, if_neg ((by decide) : ¬ (((15 : Int32) &&& ((5 : Int32) ^^^ (-1 : Int32))) = (0 : Int32))), if_neg ((by decide) : ¬ (((3 : Int32) &&& ((5 : Int32) ^^^ (-1 : Int32))) = (0 : Int32))), if_pos ((by decide) : ((5 : Int32) &&& ((5 : Int32) ^^^ (-1 : Int32))) = (0 : Int32)), if_neg ((by decide) : ¬ (((5 : Int32) &&& ((3 : Int32) ^^^ (-1 : Int32))) = (0 : Int32))), if_pos ((by decide) : ((1 : Int32) &&& ((5 : Int32) ^^^ (-1 : Int32))) = (0 : Int32)), if_pos ((by decide) : ((1 : Int32) &&& ((3 : Int32) ^^^ (-1 : Int32))) = (0 : Int32))]
      rw [r42] at st42
      refine Go.mp st42 ?_
      show Go p e below (T42.setTop (mkF m 25 #[.val (.int p1), .val (.int p2), .val (.ref w_S), .val (.ref w_IX), .unset] [(.ref w_SIX)])) _
      refine g_astore X42 hx #[.val (.int p1), .val (.int p2), .val (.ref w_S), .val (.ref w_IX), .val (.ref w_SIX)] (hb hby at_25) rfl rfl ?_
      refine g_aload X42 hx (hb hby at_27) rfl rfl ?_
      refine g_aloadN X42 hx (hb hby at_29) rfl rfl ?_
      refine g_aloadN X42 hx (hb hby at_30) rfl rfl ?_
      obtain ⟨v43, T43, L43, X43, q43, st43⟩ := own_callS X42 hx hZ (y := (⟨"com/example/wombat/wombat/LockModeCombinedWithPinLaw", "expected", "(Lcom/example/wombat/wombat/LockMode;Lcom/example/wombat/wombat/LockMode;)Lcom/example/wombat/wombat/LockMode;"⟩ : MethodName)) (pc := 31) (Ls := #[.val (.int p1), .val (.int p2), .val (.ref w_S), .val (.ref w_IX), .val (.ref w_SIX)]) (st := [(.ref w_IX), (.ref w_S), (.ref w_SIX)]) hown (hw _ (List.mem_of_getElem? (i := 26) rfl)) (hw _ (List.mem_of_getElem? (i := 27) rfl)) (hw _ (List.mem_of_getElem? (i := 3) rfl)) (hw _ (List.mem_of_getElem? (i := 28) rfl)) (by decide) (rm_expected l Z a0 hw w_S w_IX w_IS w_X w_SIX h0 n0 Z0 S_IS S_X S_SIX) e42 pd_3 (hb hby at_31) (by rw [hml]; rfl) (argsL := [(.ref w_S), (.ref w_IX)]) (rest := [(.ref w_SIX)]) rfl rfl rfl (W := 1) (Nat.le_of_eq rfl) (by decide) (by decide) (by decide) (by decide)
      obtain ⟨rfl, M43, e43⟩ := q43
      have N43 := Fr.app N42 M43
      have r43 : (f_expected w_S w_IX w_IS w_X w_SIX) = w_SIX := by rw [f_expected, if_neg ((Ne.symm ne_IX_S) : ¬ (w_S = w_IX)), if_neg ((Ne.symm ne_IS_S) : ¬ (w_S = w_IS)), if_neg ((Ne.symm ne_IS_IX) : ¬ (w_IX = w_IS)), if_neg (ne_S_X : ¬ (w_S = w_X)), if_neg (ne_IX_X : ¬ (w_IX = w_X))]
      rw [r43] at st43
      refine Go.mp st43 ?_
      show Go p e below (T43.setTop (mkF m 34 #[.val (.int p1), .val (.int p2), .val (.ref w_S), .val (.ref w_IX), .val (.ref w_SIX)] [(.ref w_SIX), (.ref w_SIX)])) _
      have c34_0 : w_SIX = w_SIX := rfl
      refine g_acmp X43 hx 37 true rfl rfl (hb hby at_34) (decide_eq_true (congrArg Value.ref c34_0)) (by decide) (by decide) ?_
      refine g_iconst X43 hx (1 : Int32) (hb hby at_37) (by decide) ?_
      refine g_goto X43 hx 42 (hb hby at_38) (by decide) (by decide) ?_
      exact own_retZ X43 hx hret hlk (hb hby at_42) (by decide) (by decide) (by decide) ⟨rfl, N43⟩
    · rw [q37]
      obtain ⟨v44, T44, L44, X44, q44, st44⟩ := own_callS X36 hx hZ (y := (⟨"com/example/wombat/wombat/LockModeCombinedWithPinLaw", "pick", "(I)Lcom/example/wombat/wombat/LockMode;"⟩ : MethodName)) (pc := 16) (Ls := #[.val (.int p1), .val (.int p2), .val (.ref w_S), .unset, .unset]) (st := [(.int (2 : Int32))]) hown (hw _ (List.mem_of_getElem? (i := 1) rfl)) (hw _ (List.mem_of_getElem? (i := 2) rfl)) (hw _ (List.mem_of_getElem? (i := 3) rfl)) (hw _ (List.mem_of_getElem? (i := 4) rfl)) (by decide) (rm_pick l Z a0 hw (2 : Int32) w_IS w_IX w_S w_SIX w_X h0 n0 Z0 S_IS S_IX S_S S_SIX S_X) e36 pd_1 (hb hby at_16) (by rw [hml]; rfl) (argsL := [(.int (2 : Int32))]) (rest := []) rfl rfl rfl (W := 0) (Nat.le_of_eq rfl) (by decide) (by decide) (by decide) (by decide)
      obtain ⟨rfl, M44, e44⟩ := q44
      have N44 := Fr.app N36 M44
      have r44 : (f_pick (2 : Int32) w_IS w_IX w_S w_SIX w_X) = w_S := by rw [f_pick, if_neg ((by decide) : ¬ ((2 : Int32) = (0 : Int32))), if_neg ((by decide) : ¬ ((2 : Int32) = (1 : Int32))), if_pos ((by decide) : (2 : Int32) = (2 : Int32))]
      rw [r44] at st44
      refine Go.mp st44 ?_
      show Go p e below (T44.setTop (mkF m 19 #[.val (.int p1), .val (.int p2), .val (.ref w_S), .unset, .unset] [(.ref w_S)])) _
      refine g_astoreN X44 hx #[.val (.int p1), .val (.int p2), .val (.ref w_S), .val (.ref w_S), .unset] (hb hby at_19) rfl rfl ?_
      refine g_aloadN X44 hx (hb hby at_20) rfl rfl ?_
      refine g_aloadN X44 hx (hb hby at_21) rfl rfl ?_
      obtain ⟨v45, T45, L45, X45, q45, st45⟩ := own_callV X44 hx hZ (y := (⟨"com/example/wombat/wombat/LockMode", "combinedWith", "(Lcom/example/wombat/wombat/LockMode;)Lcom/example/wombat/wombat/LockMode;"⟩ : MethodName)) (pc := 22) (Ls := #[.val (.int p1), .val (.int p2), .val (.ref w_S), .val (.ref w_S), .unset]) (st := [(.ref w_S), (.ref w_S)]) hown (hw _ (List.mem_of_getElem? (i := 10) rfl)) (hw _ (List.mem_of_getElem? (i := 11) rfl)) (hw _ (List.mem_of_getElem? (i := 13) rfl)) (hw _ (List.mem_of_getElem? (i := 12) rfl)) (hw _ (List.mem_of_getElem? (i := 14) rfl)) (hw _ (List.mem_of_getElem? (i := 6) rfl)) (by decide) (rm_combinedWith l Z a0 hw w_S w_S (5 : Int32) (5 : Int32) w_WF kk w_IS w_IX w_S w_SIX w_X h0 n0 Z0 S_WEAKEST_FIRST V_w_WF E_w_IS F_w_IS_compatible E_w_IX F_w_IX_compatible E_w_S F_w_S_compatible E_w_SIX F_w_SIX_compatible E_w_X F_w_X_compatible F_w_S_compatible F_w_S_compatible) e44 E_w_S pd_2 (hb hby at_22) (by rw [hml]; rfl) (argsL := [(.ref w_S)]) (rest := []) rfl rfl rfl (W := 0) (Nat.le_of_eq rfl) (by decide) (by decide) (by decide) (by decide)
      obtain ⟨rfl, M45, e45⟩ := q45
      have N45 := Fr.app N44 M45
      have r45 : (f_combinedWith w_S w_S (5 : Int32) (5 : Int32) w_WF kk w_IS w_IX w_S w_SIX w_X) = w_S := by rw [f_combinedWith, if_neg ((by decide) : ¬ (((15 : Int32) &&& ((5 : Int32) ^^^ (-1 : Int32))) = (0 : Int32))), if_neg ((by decide) : ¬ (((3 : Int32) &&& ((5 : Int32) ^^^ (-1 : Int32))) = (0 : Int32))), if_pos ((by decide) : ((5 : Int32) &&& ((5 : Int32) ^^^ (-1 : Int32))) = (0 : Int32)), if_pos ((by decide) : ((5 : Int32) &&& ((5 : Int32) ^^^ (-1 : Int32))) = (0 : Int32))]
      rw [r45] at st45
      refine Go.mp st45 ?_
      show Go p e below (T45.setTop (mkF m 25 #[.val (.int p1), .val (.int p2), .val (.ref w_S), .val (.ref w_S), .unset] [(.ref w_S)])) _
      refine g_astore X45 hx #[.val (.int p1), .val (.int p2), .val (.ref w_S), .val (.ref w_S), .val (.ref w_S)] (hb hby at_25) rfl rfl ?_
      refine g_aload X45 hx (hb hby at_27) rfl rfl ?_
      refine g_aloadN X45 hx (hb hby at_29) rfl rfl ?_
      refine g_aloadN X45 hx (hb hby at_30) rfl rfl ?_
      obtain ⟨v46, T46, L46, X46, q46, st46⟩ := own_callS X45 hx hZ (y := (⟨"com/example/wombat/wombat/LockModeCombinedWithPinLaw", "expected", "(Lcom/example/wombat/wombat/LockMode;Lcom/example/wombat/wombat/LockMode;)Lcom/example/wombat/wombat/LockMode;"⟩ : MethodName)) (pc := 31) (Ls := #[.val (.int p1), .val (.int p2), .val (.ref w_S), .val (.ref w_S), .val (.ref w_S)]) (st := [(.ref w_S), (.ref w_S), (.ref w_S)]) hown (hw _ (List.mem_of_getElem? (i := 26) rfl)) (hw _ (List.mem_of_getElem? (i := 27) rfl)) (hw _ (List.mem_of_getElem? (i := 3) rfl)) (hw _ (List.mem_of_getElem? (i := 28) rfl)) (by decide) (rm_expected l Z a0 hw w_S w_S w_IS w_X w_SIX h0 n0 Z0 S_IS S_X S_SIX) e45 pd_3 (hb hby at_31) (by rw [hml]; rfl) (argsL := [(.ref w_S), (.ref w_S)]) (rest := [(.ref w_S)]) rfl rfl rfl (W := 1) (Nat.le_of_eq rfl) (by decide) (by decide) (by decide) (by decide)
      obtain ⟨rfl, M46, e46⟩ := q46
      have N46 := Fr.app N45 M46
      have r46 : (f_expected w_S w_S w_IS w_X w_SIX) = w_S := by rw [f_expected, if_pos (rfl : w_S = w_S)]
      rw [r46] at st46
      refine Go.mp st46 ?_
      show Go p e below (T46.setTop (mkF m 34 #[.val (.int p1), .val (.int p2), .val (.ref w_S), .val (.ref w_S), .val (.ref w_S)] [(.ref w_S), (.ref w_S)])) _
      have c34_0 : w_S = w_S := rfl
      refine g_acmp X46 hx 37 true rfl rfl (hb hby at_34) (decide_eq_true (congrArg Value.ref c34_0)) (by decide) (by decide) ?_
      refine g_iconst X46 hx (1 : Int32) (hb hby at_37) (by decide) ?_
      refine g_goto X46 hx 42 (hb hby at_38) (by decide) (by decide) ?_
      exact own_retZ X46 hx hret hlk (hb hby at_42) (by decide) (by decide) (by decide) ⟨rfl, N46⟩
    · rw [q37]
      obtain ⟨v47, T47, L47, X47, q47, st47⟩ := own_callS X36 hx hZ (y := (⟨"com/example/wombat/wombat/LockModeCombinedWithPinLaw", "pick", "(I)Lcom/example/wombat/wombat/LockMode;"⟩ : MethodName)) (pc := 16) (Ls := #[.val (.int p1), .val (.int p2), .val (.ref w_S), .unset, .unset]) (st := [(.int (3 : Int32))]) hown (hw _ (List.mem_of_getElem? (i := 1) rfl)) (hw _ (List.mem_of_getElem? (i := 2) rfl)) (hw _ (List.mem_of_getElem? (i := 3) rfl)) (hw _ (List.mem_of_getElem? (i := 4) rfl)) (by decide) (rm_pick l Z a0 hw (3 : Int32) w_IS w_IX w_S w_SIX w_X h0 n0 Z0 S_IS S_IX S_S S_SIX S_X) e36 pd_1 (hb hby at_16) (by rw [hml]; rfl) (argsL := [(.int (3 : Int32))]) (rest := []) rfl rfl rfl (W := 0) (Nat.le_of_eq rfl) (by decide) (by decide) (by decide) (by decide)
      obtain ⟨rfl, M47, e47⟩ := q47
      have N47 := Fr.app N36 M47
      have r47 : (f_pick (3 : Int32) w_IS w_IX w_S w_SIX w_X) = w_SIX := by rw [f_pick, if_neg ((by decide) : ¬ ((3 : Int32) = (0 : Int32))), if_neg ((by decide) : ¬ ((3 : Int32) = (1 : Int32))), if_neg ((by decide) : ¬ ((3 : Int32) = (2 : Int32))), if_pos ((by decide) : (3 : Int32) = (3 : Int32))]
      rw [r47] at st47
      refine Go.mp st47 ?_
      show Go p e below (T47.setTop (mkF m 19 #[.val (.int p1), .val (.int p2), .val (.ref w_S), .unset, .unset] [(.ref w_SIX)])) _
      refine g_astoreN X47 hx #[.val (.int p1), .val (.int p2), .val (.ref w_S), .val (.ref w_SIX), .unset] (hb hby at_19) rfl rfl ?_
      refine g_aloadN X47 hx (hb hby at_20) rfl rfl ?_
      refine g_aloadN X47 hx (hb hby at_21) rfl rfl ?_
      obtain ⟨v48, T48, L48, X48, q48, st48⟩ := own_callV X47 hx hZ (y := (⟨"com/example/wombat/wombat/LockMode", "combinedWith", "(Lcom/example/wombat/wombat/LockMode;)Lcom/example/wombat/wombat/LockMode;"⟩ : MethodName)) (pc := 22) (Ls := #[.val (.int p1), .val (.int p2), .val (.ref w_S), .val (.ref w_SIX), .unset]) (st := [(.ref w_SIX), (.ref w_S)]) hown (hw _ (List.mem_of_getElem? (i := 10) rfl)) (hw _ (List.mem_of_getElem? (i := 11) rfl)) (hw _ (List.mem_of_getElem? (i := 13) rfl)) (hw _ (List.mem_of_getElem? (i := 12) rfl)) (hw _ (List.mem_of_getElem? (i := 14) rfl)) (hw _ (List.mem_of_getElem? (i := 6) rfl)) (by decide) (rm_combinedWith l Z a0 hw w_S w_SIX (5 : Int32) (1 : Int32) w_WF kk w_IS w_IX w_S w_SIX w_X h0 n0 Z0 S_WEAKEST_FIRST V_w_WF E_w_IS F_w_IS_compatible E_w_IX F_w_IX_compatible E_w_S F_w_S_compatible E_w_SIX F_w_SIX_compatible E_w_X F_w_X_compatible F_w_S_compatible F_w_SIX_compatible) e47 E_w_S pd_2 (hb hby at_22) (by rw [hml]; rfl) (argsL := [(.ref w_SIX)]) (rest := []) rfl rfl rfl (W := 0) (Nat.le_of_eq rfl) (by decide) (by decide) (by decide) (by decide)
      obtain ⟨rfl, M48, e48⟩ := q48
      have N48 := Fr.app N47 M48
      have r48 : (f_combinedWith w_S w_SIX (5 : Int32) (1 : Int32) w_WF kk w_IS w_IX w_S w_SIX w_X) = w_SIX := by rw [f_combinedWith, if_neg ((by decide) : ¬ (((15 : Int32) &&& ((5 : Int32) ^^^ (-1 : Int32))) = (0 : Int32))), if_neg ((by decide) : ¬ (((3 : Int32) &&& ((5 : Int32) ^^^ (-1 : Int32))) = (0 : Int32))), if_pos ((by decide) : ((5 : Int32) &&& ((5 : Int32) ^^^ (-1 : Int32))) = (0 : Int32)), if_neg ((by decide) : ¬ (((5 : Int32) &&& ((1 : Int32) ^^^ (-1 : Int32))) = (0 : Int32))), if_pos ((by decide) : ((1 : Int32) &&& ((5 : Int32) ^^^ (-1 : Int32))) = (0 : Int32)), if_pos ((by decide) : ((1 : Int32) &&& ((1 : Int32) ^^^ (-1 : Int32))) = (0 : Int32))]
      rw [r48] at st48
      refine Go.mp st48 ?_
      show Go p e below (T48.setTop (mkF m 25 #[.val (.int p1), .val (.int p2), .val (.ref w_S), .val (.ref w_SIX), .unset] [(.ref w_SIX)])) _
      refine g_astore X48 hx #[.val (.int p1), .val (.int p2), .val (.ref w_S), .val (.ref w_SIX), .val (.ref w_SIX)] (hb hby at_25) rfl rfl ?_
      refine g_aload X48 hx (hb hby at_27) rfl rfl ?_
      refine g_aloadN X48 hx (hb hby at_29) rfl rfl ?_
      refine g_aloadN X48 hx (hb hby at_30) rfl rfl ?_
      obtain ⟨v49, T49, L49, X49, q49, st49⟩ := own_callS X48 hx hZ (y := (⟨"com/example/wombat/wombat/LockModeCombinedWithPinLaw", "expected", "(Lcom/example/wombat/wombat/LockMode;Lcom/example/wombat/wombat/LockMode;)Lcom/example/wombat/wombat/LockMode;"⟩ : MethodName)) (pc := 31) (Ls := #[.val (.int p1), .val (.int p2), .val (.ref w_S), .val (.ref w_SIX), .val (.ref w_SIX)]) (st := [(.ref w_SIX), (.ref w_S), (.ref w_SIX)]) hown (hw _ (List.mem_of_getElem? (i := 26) rfl)) (hw _ (List.mem_of_getElem? (i := 27) rfl)) (hw _ (List.mem_of_getElem? (i := 3) rfl)) (hw _ (List.mem_of_getElem? (i := 28) rfl)) (by decide) (rm_expected l Z a0 hw w_S w_SIX w_IS w_X w_SIX h0 n0 Z0 S_IS S_X S_SIX) e48 pd_3 (hb hby at_31) (by rw [hml]; rfl) (argsL := [(.ref w_S), (.ref w_SIX)]) (rest := [(.ref w_SIX)]) rfl rfl rfl (W := 1) (Nat.le_of_eq rfl) (by decide) (by decide) (by decide) (by decide)
      obtain ⟨rfl, M49, e49⟩ := q49
      have N49 := Fr.app N48 M49
      have r49 : (f_expected w_S w_SIX w_IS w_X w_SIX) = w_SIX := by rw [f_expected, if_neg ((Ne.symm ne_SIX_S) : ¬ (w_S = w_SIX)), if_neg ((Ne.symm ne_IS_S) : ¬ (w_S = w_IS)), if_neg ((Ne.symm ne_IS_SIX) : ¬ (w_SIX = w_IS)), if_neg (ne_S_X : ¬ (w_S = w_X)), if_neg (ne_SIX_X : ¬ (w_SIX = w_X))]
      rw [r49] at st49
      refine Go.mp st49 ?_
      show Go p e below (T49.setTop (mkF m 34 #[.val (.int p1), .val (.int p2), .val (.ref w_S), .val (.ref w_SIX), .val (.ref w_SIX)] [(.ref w_SIX), (.ref w_SIX)])) _
      have c34_0 : w_SIX = w_SIX := rfl
      refine g_acmp X49 hx 37 true rfl rfl (hb hby at_34) (decide_eq_true (congrArg Value.ref c34_0)) (by decide) (by decide) ?_
      refine g_iconst X49 hx (1 : Int32) (hb hby at_37) (by decide) ?_
      refine g_goto X49 hx 42 (hb hby at_38) (by decide) (by decide) ?_
      exact own_retZ X49 hx hret hlk (hb hby at_42) (by decide) (by decide) (by decide) ⟨rfl, N49⟩
    · rw [q37]
      obtain ⟨v50, T50, L50, X50, q50, st50⟩ := own_callS X36 hx hZ (y := (⟨"com/example/wombat/wombat/LockModeCombinedWithPinLaw", "pick", "(I)Lcom/example/wombat/wombat/LockMode;"⟩ : MethodName)) (pc := 16) (Ls := #[.val (.int p1), .val (.int p2), .val (.ref w_S), .unset, .unset]) (st := [(.int (4 : Int32))]) hown (hw _ (List.mem_of_getElem? (i := 1) rfl)) (hw _ (List.mem_of_getElem? (i := 2) rfl)) (hw _ (List.mem_of_getElem? (i := 3) rfl)) (hw _ (List.mem_of_getElem? (i := 4) rfl)) (by decide) (rm_pick l Z a0 hw (4 : Int32) w_IS w_IX w_S w_SIX w_X h0 n0 Z0 S_IS S_IX S_S S_SIX S_X) e36 pd_1 (hb hby at_16) (by rw [hml]; rfl) (argsL := [(.int (4 : Int32))]) (rest := []) rfl rfl rfl (W := 0) (Nat.le_of_eq rfl) (by decide) (by decide) (by decide) (by decide)
      obtain ⟨rfl, M50, e50⟩ := q50
      have N50 := Fr.app N36 M50
      have r50 : (f_pick (4 : Int32) w_IS w_IX w_S w_SIX w_X) = w_X := by rw [f_pick, if_neg ((by decide) : ¬ ((4 : Int32) = (0 : Int32))), if_neg ((by decide) : ¬ ((4 : Int32) = (1 : Int32))), if_neg ((by decide) : ¬ ((4 : Int32) = (2 : Int32))), if_neg ((by decide) : ¬ ((4 : Int32) = (3 : Int32)))]
      rw [r50] at st50
      refine Go.mp st50 ?_
      show Go p e below (T50.setTop (mkF m 19 #[.val (.int p1), .val (.int p2), .val (.ref w_S), .unset, .unset] [(.ref w_X)])) _
      refine g_astoreN X50 hx #[.val (.int p1), .val (.int p2), .val (.ref w_S), .val (.ref w_X), .unset] (hb hby at_19) rfl rfl ?_
      refine g_aloadN X50 hx (hb hby at_20) rfl rfl ?_
      refine g_aloadN X50 hx (hb hby at_21) rfl rfl ?_
      obtain ⟨v51, T51, L51, X51, q51, st51⟩ := own_callV X50 hx hZ (y := (⟨"com/example/wombat/wombat/LockMode", "combinedWith", "(Lcom/example/wombat/wombat/LockMode;)Lcom/example/wombat/wombat/LockMode;"⟩ : MethodName)) (pc := 22) (Ls := #[.val (.int p1), .val (.int p2), .val (.ref w_S), .val (.ref w_X), .unset]) (st := [(.ref w_X), (.ref w_S)]) hown (hw _ (List.mem_of_getElem? (i := 10) rfl)) (hw _ (List.mem_of_getElem? (i := 11) rfl)) (hw _ (List.mem_of_getElem? (i := 13) rfl)) (hw _ (List.mem_of_getElem? (i := 12) rfl)) (hw _ (List.mem_of_getElem? (i := 14) rfl)) (hw _ (List.mem_of_getElem? (i := 6) rfl)) (by decide) (rm_combinedWith l Z a0 hw w_S w_X (5 : Int32) (0 : Int32) w_WF kk w_IS w_IX w_S w_SIX w_X h0 n0 Z0 S_WEAKEST_FIRST V_w_WF E_w_IS F_w_IS_compatible E_w_IX F_w_IX_compatible E_w_S F_w_S_compatible E_w_SIX F_w_SIX_compatible E_w_X F_w_X_compatible F_w_S_compatible F_w_X_compatible) e50 E_w_S pd_2 (hb hby at_22) (by rw [hml]; rfl) (argsL := [(.ref w_X)]) (rest := []) rfl rfl rfl (W := 0) (Nat.le_of_eq rfl) (by decide) (by decide) (by decide) (by decide)
      obtain ⟨rfl, M51, e51⟩ := q51
      have N51 := Fr.app N50 M51
      have r51 : (f_combinedWith w_S w_X (5 : Int32) (0 : Int32) w_WF kk w_IS w_IX w_S w_SIX w_X) = w_X := by rw [f_combinedWith, if_neg ((by decide) : ¬ (((15 : Int32) &&& ((5 : Int32) ^^^ (-1 : Int32))) = (0 : Int32))), if_neg ((by decide) : ¬ (((3 : Int32) &&& ((5 : Int32) ^^^ (-1 : Int32))) = (0 : Int32))), if_pos ((by decide) : ((5 : Int32) &&& ((5 : Int32) ^^^ (-1 : Int32))) = (0 : Int32)), if_neg ((by decide) : ¬ (((5 : Int32) &&& ((0 : Int32) ^^^ (-1 : Int32))) = (0 : Int32))), if_pos ((by decide) : ((1 : Int32) &&& ((5 : Int32) ^^^ (-1 : Int32))) = (0 : Int32)), if_neg ((by decide) : ¬ (((1 : Int32) &&& ((0 : Int32) ^^^ (-1 : Int32))) = (0 : Int32)))]
      rw [r51] at st51
      refine Go.mp st51 ?_
      show Go p e below (T51.setTop (mkF m 25 #[.val (.int p1), .val (.int p2), .val (.ref w_S), .val (.ref w_X), .unset] [(.ref w_X)])) _
      refine g_astore X51 hx #[.val (.int p1), .val (.int p2), .val (.ref w_S), .val (.ref w_X), .val (.ref w_X)] (hb hby at_25) rfl rfl ?_
      refine g_aload X51 hx (hb hby at_27) rfl rfl ?_
      refine g_aloadN X51 hx (hb hby at_29) rfl rfl ?_
      refine g_aloadN X51 hx (hb hby at_30) rfl rfl ?_
      obtain ⟨v52, T52, L52, X52, q52, st52⟩ := own_callS X51 hx hZ (y := (⟨"com/example/wombat/wombat/LockModeCombinedWithPinLaw", "expected", "(Lcom/example/wombat/wombat/LockMode;Lcom/example/wombat/wombat/LockMode;)Lcom/example/wombat/wombat/LockMode;"⟩ : MethodName)) (pc := 31) (Ls := #[.val (.int p1), .val (.int p2), .val (.ref w_S), .val (.ref w_X), .val (.ref w_X)]) (st := [(.ref w_X), (.ref w_S), (.ref w_X)]) hown (hw _ (List.mem_of_getElem? (i := 26) rfl)) (hw _ (List.mem_of_getElem? (i := 27) rfl)) (hw _ (List.mem_of_getElem? (i := 3) rfl)) (hw _ (List.mem_of_getElem? (i := 28) rfl)) (by decide) (rm_expected l Z a0 hw w_S w_X w_IS w_X w_SIX h0 n0 Z0 S_IS S_X S_SIX) e51 pd_3 (hb hby at_31) (by rw [hml]; rfl) (argsL := [(.ref w_S), (.ref w_X)]) (rest := [(.ref w_X)]) rfl rfl rfl (W := 1) (Nat.le_of_eq rfl) (by decide) (by decide) (by decide) (by decide)
      obtain ⟨rfl, M52, e52⟩ := q52
      have N52 := Fr.app N51 M52
      have r52 : (f_expected w_S w_X w_IS w_X w_SIX) = w_X := by rw [f_expected, if_neg (ne_S_X : ¬ (w_S = w_X)), if_neg ((Ne.symm ne_IS_S) : ¬ (w_S = w_IS)), if_neg ((Ne.symm ne_IS_X) : ¬ (w_X = w_IS)), if_neg (ne_S_X : ¬ (w_S = w_X)), if_pos (rfl : w_X = w_X)]
      rw [r52] at st52
      refine Go.mp st52 ?_
      show Go p e below (T52.setTop (mkF m 34 #[.val (.int p1), .val (.int p2), .val (.ref w_S), .val (.ref w_X), .val (.ref w_X)] [(.ref w_X), (.ref w_X)])) _
      have c34_0 : w_X = w_X := rfl
      refine g_acmp X52 hx 37 true rfl rfl (hb hby at_34) (decide_eq_true (congrArg Value.ref c34_0)) (by decide) (by decide) ?_
      refine g_iconst X52 hx (1 : Int32) (hb hby at_37) (by decide) ?_
      refine g_goto X52 hx 42 (hb hby at_38) (by decide) (by decide) ?_
      exact own_retZ X52 hx hret hlk (hb hby at_42) (by decide) (by decide) (by decide) ⟨rfl, N52⟩
  · rw [q1]
    obtain ⟨v53, T53, L53, X53, q53, st53⟩ := own_callS X0 hx hZ (y := (⟨"com/example/wombat/wombat/LockModeCombinedWithPinLaw", "pick", "(I)Lcom/example/wombat/wombat/LockMode;"⟩ : MethodName)) (pc := 6) (Ls := #[.val (.int p1), .val (.int p2), .unset, .unset, .unset]) (st := [(.int (3 : Int32))]) hown (hw _ (List.mem_of_getElem? (i := 1) rfl)) (hw _ (List.mem_of_getElem? (i := 2) rfl)) (hw _ (List.mem_of_getElem? (i := 3) rfl)) (hw _ (List.mem_of_getElem? (i := 4) rfl)) (by decide) (rm_pick l Z a0 hw (3 : Int32) w_IS w_IX w_S w_SIX w_X h0 n0 Z0 S_IS S_IX S_S S_SIX S_X) e0 pd_1 (hb hby at_6) (by rw [hml]; rfl) (argsL := [(.int (3 : Int32))]) (rest := []) rfl rfl rfl (W := 0) (Nat.le_of_eq rfl) (by decide) (by decide) (by decide) (by decide)
    obtain ⟨rfl, M53, e53⟩ := q53
    have N53 := Fr.app N0 M53
    have r53 : (f_pick (3 : Int32) w_IS w_IX w_S w_SIX w_X) = w_SIX := by rw [f_pick, if_neg ((by decide) : ¬ ((3 : Int32) = (0 : Int32))), if_neg ((by decide) : ¬ ((3 : Int32) = (1 : Int32))), if_neg ((by decide) : ¬ ((3 : Int32) = (2 : Int32))), if_pos ((by decide) : (3 : Int32) = (3 : Int32))]
    rw [r53] at st53
    refine Go.mp st53 ?_
    show Go p e below (T53.setTop (mkF m 9 #[.val (.int p1), .val (.int p2), .unset, .unset, .unset] [(.ref w_SIX)])) _
    refine g_astoreN X53 hx #[.val (.int p1), .val (.int p2), .val (.ref w_SIX), .unset, .unset] (hb hby at_9) rfl rfl ?_
    refine g_iloadN X53 hx (hb hby at_10) rfl ?_
    refine Go.mp (fun _ k => X53.ldcInt hx hown (mvT hZ (hw _ (List.mem_of_getElem? (i := 0) rfl))) (g := (mkF m 11 #[.val (.int p1), .val (.int p2), .val (.ref w_SIX), .unset, .unset] [(.int p2)])) rfl (hb hby at_11) _ k) ?_
    show Go p e below (T53.setTop (mkF m 13 #[.val (.int p1), .val (.int p2), .val (.ref w_SIX), .unset, .unset] [(.int (2147483647 : Int32)), (.int p2)])) _
    refine g_iand X53 hx (hb hby at_13) ?_
    refine g_iconst X53 hx (5 : Int32) (hb hby at_14) (by decide) ?_
    refine g_irem X53 hx (hb hby at_15) (by decide) ?_
    show Go p e below (T53.setTop (mkF m 16 #[.val (.int p1), .val (.int p2), .val (.ref w_SIX), .unset, .unset] [(.int ((p2 &&& (2147483647 : Int32)) % (5 : Int32)))])) _
    rcases own_mod5 p2 with q54 | q54 | q54 | q54 | q54
    · rw [q54]
      obtain ⟨v55, T55, L55, X55, q55, st55⟩ := own_callS X53 hx hZ (y := (⟨"com/example/wombat/wombat/LockModeCombinedWithPinLaw", "pick", "(I)Lcom/example/wombat/wombat/LockMode;"⟩ : MethodName)) (pc := 16) (Ls := #[.val (.int p1), .val (.int p2), .val (.ref w_SIX), .unset, .unset]) (st := [(.int (0 : Int32))]) hown (hw _ (List.mem_of_getElem? (i := 1) rfl)) (hw _ (List.mem_of_getElem? (i := 2) rfl)) (hw _ (List.mem_of_getElem? (i := 3) rfl)) (hw _ (List.mem_of_getElem? (i := 4) rfl)) (by decide) (rm_pick l Z a0 hw (0 : Int32) w_IS w_IX w_S w_SIX w_X h0 n0 Z0 S_IS S_IX S_S S_SIX S_X) e53 pd_1 (hb hby at_16) (by rw [hml]; rfl) (argsL := [(.int (0 : Int32))]) (rest := []) rfl rfl rfl (W := 0) (Nat.le_of_eq rfl) (by decide) (by decide) (by decide) (by decide)
      obtain ⟨rfl, M55, e55⟩ := q55
      have N55 := Fr.app N53 M55
      have r55 : (f_pick (0 : Int32) w_IS w_IX w_S w_SIX w_X) = w_IS := by rw [f_pick, if_pos ((by decide) : (0 : Int32) = (0 : Int32))]
      rw [r55] at st55
      refine Go.mp st55 ?_
      show Go p e below (T55.setTop (mkF m 19 #[.val (.int p1), .val (.int p2), .val (.ref w_SIX), .unset, .unset] [(.ref w_IS)])) _
      refine g_astoreN X55 hx #[.val (.int p1), .val (.int p2), .val (.ref w_SIX), .val (.ref w_IS), .unset] (hb hby at_19) rfl rfl ?_
      refine g_aloadN X55 hx (hb hby at_20) rfl rfl ?_
      refine g_aloadN X55 hx (hb hby at_21) rfl rfl ?_
      obtain ⟨v56, T56, L56, X56, q56, st56⟩ := own_callV X55 hx hZ (y := (⟨"com/example/wombat/wombat/LockMode", "combinedWith", "(Lcom/example/wombat/wombat/LockMode;)Lcom/example/wombat/wombat/LockMode;"⟩ : MethodName)) (pc := 22) (Ls := #[.val (.int p1), .val (.int p2), .val (.ref w_SIX), .val (.ref w_IS), .unset]) (st := [(.ref w_IS), (.ref w_SIX)]) hown (hw _ (List.mem_of_getElem? (i := 10) rfl)) (hw _ (List.mem_of_getElem? (i := 11) rfl)) (hw _ (List.mem_of_getElem? (i := 13) rfl)) (hw _ (List.mem_of_getElem? (i := 12) rfl)) (hw _ (List.mem_of_getElem? (i := 14) rfl)) (hw _ (List.mem_of_getElem? (i := 6) rfl)) (by decide) (rm_combinedWith l Z a0 hw w_SIX w_IS (1 : Int32) (15 : Int32) w_WF kk w_IS w_IX w_S w_SIX w_X h0 n0 Z0 S_WEAKEST_FIRST V_w_WF E_w_IS F_w_IS_compatible E_w_IX F_w_IX_compatible E_w_S F_w_S_compatible E_w_SIX F_w_SIX_compatible E_w_X F_w_X_compatible F_w_SIX_compatible F_w_IS_compatible) e55 E_w_SIX pd_2 (hb hby at_22) (by rw [hml]; rfl) (argsL := [(.ref w_IS)]) (rest := []) rfl rfl rfl (W := 0) (Nat.le_of_eq rfl) (by decide) (by decide) (by decide) (by decide)
      obtain ⟨rfl, M56, e56⟩ := q56
      have N56 := Fr.app N55 M56
      have r56 : (f_combinedWith w_SIX w_IS (1 : Int32) (15 : Int32) w_WF kk w_IS w_IX w_S w_SIX w_X) = w_SIX := by rw [f_combinedWith, if_neg ((by decide) : ¬ (((15 : Int32) &&& ((1 : Int32) ^^^ (-1 : Int32))) = (0 : Int32))), if_neg ((by decide) : ¬ (((3 : Int32) &&& ((1 : Int32) ^^^ (-1 : Int32))) = (0 : Int32))), if_neg ((by decide) : ¬ (((5 : Int32) &&& ((1 : Int32) ^^^ (-1 : Int32))) = (0 : Int32))), if_pos ((by decide) : ((1 : Int32) &&& ((1 : Int32) ^^^ (-1 : Int32))) = (0 : Int32)), if_pos ((by decide) : ((1 : Int32) &&& ((15 : Int32) ^^^ (-1 : Int32))) = (0 : Int32))]
      rw [r56] at st56
      refine Go.mp st56 ?_
      show Go p e below (T56.setTop (mkF m 25 #[.val (.int p1), .val (.int p2), .val (.ref w_SIX), .val (.ref w_IS), .unset] [(.ref w_SIX)])) _
      refine g_astore X56 hx #[.val (.int p1), .val (.int p2), .val (.ref w_SIX), .val (.ref w_IS), .val (.ref w_SIX)] (hb hby at_25) rfl rfl ?_
      refine g_aload X56 hx (hb hby at_27) rfl rfl ?_
      refine g_aloadN X56 hx (hb hby at_29) rfl rfl ?_
      refine g_aloadN X56 hx (hb hby at_30) rfl rfl ?_
      obtain ⟨v57, T57, L57, X57, q57, st57⟩ := own_callS X56 hx hZ (y := (⟨"com/example/wombat/wombat/LockModeCombinedWithPinLaw", "expected", "(Lcom/example/wombat/wombat/LockMode;Lcom/example/wombat/wombat/LockMode;)Lcom/example/wombat/wombat/LockMode;"⟩ : MethodName)) (pc := 31) (Ls := #[.val (.int p1), .val (.int p2), .val (.ref w_SIX), .val (.ref w_IS), .val (.ref w_SIX)]) (st := [(.ref w_IS), (.ref w_SIX), (.ref w_SIX)]) hown (hw _ (List.mem_of_getElem? (i := 26) rfl)) (hw _ (List.mem_of_getElem? (i := 27) rfl)) (hw _ (List.mem_of_getElem? (i := 3) rfl)) (hw _ (List.mem_of_getElem? (i := 28) rfl)) (by decide) (rm_expected l Z a0 hw w_SIX w_IS w_IS w_X w_SIX h0 n0 Z0 S_IS S_X S_SIX) e56 pd_3 (hb hby at_31) (by rw [hml]; rfl) (argsL := [(.ref w_SIX), (.ref w_IS)]) (rest := [(.ref w_SIX)]) rfl rfl rfl (W := 1) (Nat.le_of_eq rfl) (by decide) (by decide) (by decide) (by decide)
      obtain ⟨rfl, M57, e57⟩ := q57
      have N57 := Fr.app N56 M57
      have r57 : (f_expected w_SIX w_IS w_IS w_X w_SIX) = w_SIX := by rw [f_expected, if_neg ((Ne.symm ne_IS_SIX) : ¬ (w_SIX = w_IS)), if_neg ((Ne.symm ne_IS_SIX) : ¬ (w_SIX = w_IS)), if_pos (rfl : w_IS = w_IS)]
      rw [r57] at st57
      refine Go.mp st57 ?_
      show Go p e below (T57.setTop (mkF m 34 #[.val (.int p1), .val (.int p2), .val (.ref w_SIX), .val (.ref w_IS), .val (.ref w_SIX)] [(.ref w_SIX), (.ref w_SIX)])) _
      have c34_0 : w_SIX = w_SIX := rfl
      refine g_acmp X57 hx 37 true rfl rfl (hb hby at_34) (decide_eq_true (congrArg Value.ref c34_0)) (by decide) (by decide) ?_
      refine g_iconst X57 hx (1 : Int32) (hb hby at_37) (by decide) ?_
      refine g_goto X57 hx 42 (hb hby at_38) (by decide) (by decide) ?_
      exact own_retZ X57 hx hret hlk (hb hby at_42) (by decide) (by decide) (by decide) ⟨rfl, N57⟩
    · rw [q54]
      obtain ⟨v58, T58, L58, X58, q58, st58⟩ := own_callS X53 hx hZ (y := (⟨"com/example/wombat/wombat/LockModeCombinedWithPinLaw", "pick", "(I)Lcom/example/wombat/wombat/LockMode;"⟩ : MethodName)) (pc := 16) (Ls := #[.val (.int p1), .val (.int p2), .val (.ref w_SIX), .unset, .unset]) (st := [(.int (1 : Int32))]) hown (hw _ (List.mem_of_getElem? (i := 1) rfl)) (hw _ (List.mem_of_getElem? (i := 2) rfl)) (hw _ (List.mem_of_getElem? (i := 3) rfl)) (hw _ (List.mem_of_getElem? (i := 4) rfl)) (by decide) (rm_pick l Z a0 hw (1 : Int32) w_IS w_IX w_S w_SIX w_X h0 n0 Z0 S_IS S_IX S_S S_SIX S_X) e53 pd_1 (hb hby at_16) (by rw [hml]; rfl) (argsL := [(.int (1 : Int32))]) (rest := []) rfl rfl rfl (W := 0) (Nat.le_of_eq rfl) (by decide) (by decide) (by decide) (by decide)
      obtain ⟨rfl, M58, e58⟩ := q58
      have N58 := Fr.app N53 M58
      have r58 : (f_pick (1 : Int32) w_IS w_IX w_S w_SIX w_X) = w_IX := by rw [f_pick, if_neg ((by decide) : ¬ ((1 : Int32) = (0 : Int32))), if_pos ((by decide) : (1 : Int32) = (1 : Int32))]
      rw [r58] at st58
      refine Go.mp st58 ?_
      show Go p e below (T58.setTop (mkF m 19 #[.val (.int p1), .val (.int p2), .val (.ref w_SIX), .unset, .unset] [(.ref w_IX)])) _
      refine g_astoreN X58 hx #[.val (.int p1), .val (.int p2), .val (.ref w_SIX), .val (.ref w_IX), .unset] (hb hby at_19) rfl rfl ?_
      refine g_aloadN X58 hx (hb hby at_20) rfl rfl ?_
      refine g_aloadN X58 hx (hb hby at_21) rfl rfl ?_
      obtain ⟨v59, T59, L59, X59, q59, st59⟩ := own_callV X58 hx hZ (y := (⟨"com/example/wombat/wombat/LockMode", "combinedWith", "(Lcom/example/wombat/wombat/LockMode;)Lcom/example/wombat/wombat/LockMode;"⟩ : MethodName)) (pc := 22) (Ls := #[.val (.int p1), .val (.int p2), .val (.ref w_SIX), .val (.ref w_IX), .unset]) (st := [(.ref w_IX), (.ref w_SIX)]) hown (hw _ (List.mem_of_getElem? (i := 10) rfl)) (hw _ (List.mem_of_getElem? (i := 11) rfl)) (hw _ (List.mem_of_getElem? (i := 13) rfl)) (hw _ (List.mem_of_getElem? (i := 12) rfl)) (hw _ (List.mem_of_getElem? (i := 14) rfl)) (hw _ (List.mem_of_getElem? (i := 6) rfl)) (by decide) (rm_combinedWith l Z a0 hw w_SIX w_IX (1 : Int32) (3 : Int32) w_WF kk w_IS w_IX w_S w_SIX w_X h0 n0 Z0 S_WEAKEST_FIRST V_w_WF E_w_IS F_w_IS_compatible E_w_IX F_w_IX_compatible E_w_S F_w_S_compatible E_w_SIX F_w_SIX_compatible E_w_X F_w_X_compatible F_w_SIX_compatible F_w_IX_compatible) e58 E_w_SIX pd_2 (hb hby at_22) (by rw [hml]; rfl) (argsL := [(.ref w_IX)]) (rest := []) rfl rfl rfl (W := 0) (Nat.le_of_eq rfl) (by decide) (by decide) (by decide) (by decide)
      obtain ⟨rfl, M59, e59⟩ := q59
      have N59 := Fr.app N58 M59
      have r59 : (f_combinedWith w_SIX w_IX (1 : Int32) (3 : Int32) w_WF kk w_IS w_IX w_S w_SIX w_X) = w_SIX := by rw [f_combinedWith, if_neg ((by decide) : ¬ (((15 : Int32) &&& ((1 : Int32) ^^^ (-1 : Int32))) = (0 : Int32))), if_neg ((by decide) : ¬ (((3 : Int32) &&& ((1 : Int32) ^^^ (-1 : Int32))) = (0 : Int32))), if_neg ((by decide) : ¬ (((5 : Int32) &&& ((1 : Int32) ^^^ (-1 : Int32))) = (0 : Int32))), if_pos ((by decide) : ((1 : Int32) &&& ((1 : Int32) ^^^ (-1 : Int32))) = (0 : Int32)), if_pos ((by decide) : ((1 : Int32) &&& ((3 : Int32) ^^^ (-1 : Int32))) = (0 : Int32))]
      rw [r59] at st59
      refine Go.mp st59 ?_
      show Go p e below (T59.setTop (mkF m 25 #[.val (.int p1), .val (.int p2), .val (.ref w_SIX), .val (.ref w_IX), .unset] [(.ref w_SIX)])) _
      refine g_astore X59 hx #[.val (.int p1), .val (.int p2), .val (.ref w_SIX), .val (.ref w_IX), .val (.ref w_SIX)] (hb hby at_25) rfl rfl ?_
      refine g_aload X59 hx (hb hby at_27) rfl rfl ?_
      refine g_aloadN X59 hx (hb hby at_29) rfl rfl ?_
      refine g_aloadN X59 hx (hb hby at_30) rfl rfl ?_
      obtain ⟨v60, T60, L60, X60, q60, st60⟩ := own_callS X59 hx hZ (y := (⟨"com/example/wombat/wombat/LockModeCombinedWithPinLaw", "expected", "(Lcom/example/wombat/wombat/LockMode;Lcom/example/wombat/wombat/LockMode;)Lcom/example/wombat/wombat/LockMode;"⟩ : MethodName)) (pc := 31) (Ls := #[.val (.int p1), .val (.int p2), .val (.ref w_SIX), .val (.ref w_IX), .val (.ref w_SIX)]) (st := [(.ref w_IX), (.ref w_SIX), (.ref w_SIX)]) hown (hw _ (List.mem_of_getElem? (i := 26) rfl)) (hw _ (List.mem_of_getElem? (i := 27) rfl)) (hw _ (List.mem_of_getElem? (i := 3) rfl)) (hw _ (List.mem_of_getElem? (i := 28) rfl)) (by decide) (rm_expected l Z a0 hw w_SIX w_IX w_IS w_X w_SIX h0 n0 Z0 S_IS S_X S_SIX) e59 pd_3 (hb hby at_31) (by rw [hml]; rfl) (argsL := [(.ref w_SIX), (.ref w_IX)]) (rest := [(.ref w_SIX)]) rfl rfl rfl (W := 1) (Nat.le_of_eq rfl) (by decide) (by decide) (by decide) (by decide)
      obtain ⟨rfl, M60, e60⟩ := q60
      have N60 := Fr.app N59 M60
      have r60 : (f_expected w_SIX w_IX w_IS w_X w_SIX) = w_SIX := by rw [f_expected, if_neg (ne_SIX_IX : ¬ (w_SIX = w_IX)), if_neg ((Ne.symm ne_IS_SIX) : ¬ (w_SIX = w_IS)), if_neg ((Ne.symm ne_IS_IX) : ¬ (w_IX = w_IS)), if_neg (ne_SIX_X : ¬ (w_SIX = w_X)), if_neg (ne_IX_X : ¬ (w_IX = w_X))]
      rw [r60] at st60
      refine Go.mp st60 ?_
      show Go p e below (T60.setTop (mkF m 34 #[.val (.int p1), .val (.int p2), .val (.ref w_SIX), .val (.ref w_IX), .val (.ref w_SIX)] [(.ref w_SIX), (.ref w_SIX)])) _
      have c34_0 : w_SIX = w_SIX := rfl
      refine g_acmp X60 hx 37 true rfl rfl (hb hby at_34) (decide_eq_true (congrArg Value.ref c34_0)) (by decide) (by decide) ?_
      refine g_iconst X60 hx (1 : Int32) (hb hby at_37) (by decide) ?_
      refine g_goto X60 hx 42 (hb hby at_38) (by decide) (by decide) ?_
      exact own_retZ X60 hx hret hlk (hb hby at_42) (by decide) (by decide) (by decide) ⟨rfl, N60⟩
    · rw [q54]
      obtain ⟨v61, T61, L61, X61, q61, st61⟩ := own_callS X53 hx hZ (y := (⟨"com/example/wombat/wombat/LockModeCombinedWithPinLaw", "pick", "(I)Lcom/example/wombat/wombat/LockMode;"⟩ : MethodName)) (pc := 16) (Ls := #[.val (.int p1), .val (.int p2), .val (.ref w_SIX), .unset, .unset]) (st := [(.int (2 : Int32))]) hown (hw _ (List.mem_of_getElem? (i := 1) rfl)) (hw _ (List.mem_of_getElem? (i := 2) rfl)) (hw _ (List.mem_of_getElem? (i := 3) rfl)) (hw _ (List.mem_of_getElem? (i := 4) rfl)) (by decide) (rm_pick l Z a0 hw (2 : Int32) w_IS w_IX w_S w_SIX w_X h0 n0 Z0 S_IS S_IX S_S S_SIX S_X) e53 pd_1 (hb hby at_16) (by rw [hml]; rfl) (argsL := [(.int (2 : Int32))]) (rest := []) rfl rfl rfl (W := 0) (Nat.le_of_eq rfl) (by decide) (by decide) (by decide) (by decide)
      obtain ⟨rfl, M61, e61⟩ := q61
      have N61 := Fr.app N53 M61
      have r61 : (f_pick (2 : Int32) w_IS w_IX w_S w_SIX w_X) = w_S := by rw [f_pick, if_neg ((by decide) : ¬ ((2 : Int32) = (0 : Int32))), if_neg ((by decide) : ¬ ((2 : Int32) = (1 : Int32))), if_pos ((by decide) : (2 : Int32) = (2 : Int32))]
      rw [r61] at st61
      refine Go.mp st61 ?_
      show Go p e below (T61.setTop (mkF m 19 #[.val (.int p1), .val (.int p2), .val (.ref w_SIX), .unset, .unset] [(.ref w_S)])) _
      refine g_astoreN X61 hx #[.val (.int p1), .val (.int p2), .val (.ref w_SIX), .val (.ref w_S), .unset] (hb hby at_19) rfl rfl ?_
      refine g_aloadN X61 hx (hb hby at_20) rfl rfl ?_
      refine g_aloadN X61 hx (hb hby at_21) rfl rfl ?_
      obtain ⟨v62, T62, L62, X62, q62, st62⟩ := own_callV X61 hx hZ (y := (⟨"com/example/wombat/wombat/LockMode", "combinedWith", "(Lcom/example/wombat/wombat/LockMode;)Lcom/example/wombat/wombat/LockMode;"⟩ : MethodName)) (pc := 22) (Ls := #[.val (.int p1), .val (.int p2), .val (.ref w_SIX), .val (.ref w_S), .unset]) (st := [(.ref w_S), (.ref w_SIX)]) hown (hw _ (List.mem_of_getElem? (i := 10) rfl)) (hw _ (List.mem_of_getElem? (i := 11) rfl)) (hw _ (List.mem_of_getElem? (i := 13) rfl)) (hw _ (List.mem_of_getElem? (i := 12) rfl)) (hw _ (List.mem_of_getElem? (i := 14) rfl)) (hw _ (List.mem_of_getElem? (i := 6) rfl)) (by decide) (rm_combinedWith l Z a0 hw w_SIX w_S (1 : Int32) (5 : Int32) w_WF kk w_IS w_IX w_S w_SIX w_X h0 n0 Z0 S_WEAKEST_FIRST V_w_WF E_w_IS F_w_IS_compatible E_w_IX F_w_IX_compatible E_w_S F_w_S_compatible E_w_SIX F_w_SIX_compatible E_w_X F_w_X_compatible F_w_SIX_compatible F_w_S_compatible) e61 E_w_SIX pd_2 (hb hby at_22) (by rw [hml]; rfl) (argsL := [(.ref w_S)]) (rest := []) rfl rfl rfl (W := 0) (Nat.le_of_eq rfl) (by decide) (by decide) (by decide) (by decide)
      obtain ⟨rfl, M62, e62⟩ := q62
      have N62 := Fr.app N61 M62
      have r62 : (f_combinedWith w_SIX w_S (1 : Int32) (5 : Int32) w_WF kk w_IS w_IX w_S w_SIX w_X) = w_SIX := by rw [f_combinedWith, if_neg ((by decide) : ¬ (((15 : Int32) &&& ((1 : Int32) ^^^ (-1 : Int32))) = (0 : Int32))), if_neg ((by decide) : ¬ (((3 : Int32) &&& ((1 : Int32) ^^^ (-1 : Int32))) = (0 : Int32))), if_neg ((by decide) : ¬ (((5 : Int32) &&& ((1 : Int32) ^^^ (-1 : Int32))) = (0 : Int32))), if_pos ((by decide) : ((1 : Int32) &&& ((1 : Int32) ^^^ (-1 : Int32))) = (0 : Int32)), if_pos ((by decide) : ((1 : Int32) &&& ((5 : Int32) ^^^ (-1 : Int32))) = (0 : Int32))]
      rw [r62] at st62
      refine Go.mp st62 ?_
      show Go p e below (T62.setTop (mkF m 25 #[.val (.int p1), .val (.int p2), .val (.ref w_SIX), .val (.ref w_S), .unset] [(.ref w_SIX)])) _
      refine g_astore X62 hx #[.val (.int p1), .val (.int p2), .val (.ref w_SIX), .val (.ref w_S), .val (.ref w_SIX)] (hb hby at_25) rfl rfl ?_
      refine g_aload X62 hx (hb hby at_27) rfl rfl ?_
      refine g_aloadN X62 hx (hb hby at_29) rfl rfl ?_
      refine g_aloadN X62 hx (hb hby at_30) rfl rfl ?_
      obtain ⟨v63, T63, L63, X63, q63, st63⟩ := own_callS X62 hx hZ (y := (⟨"com/example/wombat/wombat/LockModeCombinedWithPinLaw", "expected", "(Lcom/example/wombat/wombat/LockMode;Lcom/example/wombat/wombat/LockMode;)Lcom/example/wombat/wombat/LockMode;"⟩ : MethodName)) (pc := 31) (Ls := #[.val (.int p1), .val (.int p2), .val (.ref w_SIX), .val (.ref w_S), .val (.ref w_SIX)]) (st := [(.ref w_S), (.ref w_SIX), (.ref w_SIX)]) hown (hw _ (List.mem_of_getElem? (i := 26) rfl)) (hw _ (List.mem_of_getElem? (i := 27) rfl)) (hw _ (List.mem_of_getElem? (i := 3) rfl)) (hw _ (List.mem_of_getElem? (i := 28) rfl)) (by decide) (rm_expected l Z a0 hw w_SIX w_S w_IS w_X w_SIX h0 n0 Z0 S_IS S_X S_SIX) e62 pd_3 (hb hby at_31) (by rw [hml]; rfl) (argsL := [(.ref w_SIX), (.ref w_S)]) (rest := [(.ref w_SIX)]) rfl rfl rfl (W := 1) (Nat.le_of_eq rfl) (by decide) (by decide) (by decide) (by decide)
      obtain ⟨rfl, M63, e63⟩ := q63
      have N63 := Fr.app N62 M63
      have r63 : (f_expected w_SIX w_S w_IS w_X w_SIX) = w_SIX := by rw [f_expected, if_neg (ne_SIX_S : ¬ (w_SIX = w_S)), if_neg ((Ne.symm ne_IS_SIX) : ¬ (w_SIX = w_IS)), if_neg ((Ne.symm ne_IS_S) : ¬ (w_S = w_IS)), if_neg (ne_SIX_X : ¬ (w_SIX = w_X)), if_neg (ne_S_X : ¬ (w_S = w_X))]
      rw [r63] at st63
      refine Go.mp st63 ?_
      show Go p e below (T63.setTop (mkF m 34 #[.val (.int p1), .val (.int p2), .val (.ref w_SIX), .val (.ref w_S), .val (.ref w_SIX)] [(.ref w_SIX), (.ref w_SIX)])) _
      have c34_0 : w_SIX = w_SIX := rfl
      refine g_acmp X63 hx 37 true rfl rfl (hb hby at_34) (decide_eq_true (congrArg Value.ref c34_0)) (by decide) (by decide) ?_
      refine g_iconst X63 hx (1 : Int32) (hb hby at_37) (by decide) ?_
      refine g_goto X63 hx 42 (hb hby at_38) (by decide) (by decide) ?_
      exact own_retZ X63 hx hret hlk (hb hby at_42) (by decide) (by decide) (by decide) ⟨rfl, N63⟩
    · rw [q54]
      obtain ⟨v64, T64, L64, X64, q64, st64⟩ := own_callS X53 hx hZ (y := (⟨"com/example/wombat/wombat/LockModeCombinedWithPinLaw", "pick", "(I)Lcom/example/wombat/wombat/LockMode;"⟩ : MethodName)) (pc := 16) (Ls := #[.val (.int p1), .val (.int p2), .val (.ref w_SIX), .unset, .unset]) (st := [(.int (3 : Int32))]) hown (hw _ (List.mem_of_getElem? (i := 1) rfl)) (hw _ (List.mem_of_getElem? (i := 2) rfl)) (hw _ (List.mem_of_getElem? (i := 3) rfl)) (hw _ (List.mem_of_getElem? (i := 4) rfl)) (by decide) (rm_pick l Z a0 hw (3 : Int32) w_IS w_IX w_S w_SIX w_X h0 n0 Z0 S_IS S_IX S_S S_SIX S_X) e53 pd_1 (hb hby at_16) (by rw [hml]; rfl) (argsL := [(.int (3 : Int32))]) (rest := []) rfl rfl rfl (W := 0) (Nat.le_of_eq rfl) (by decide) (by decide) (by decide) (by decide)
      obtain ⟨rfl, M64, e64⟩ := q64
      have N64 := Fr.app N53 M64
      have r64 : (f_pick (3 : Int32) w_IS w_IX w_S w_SIX w_X) = w_SIX := by rw [f_pick, if_neg ((by decide) : ¬ ((3 : Int32) = (0 : Int32))), if_neg ((by decide) : ¬ ((3 : Int32) = (1 : Int32))), if_neg ((by decide) : ¬ ((3 : Int32) = (2 : Int32))), if_pos ((by decide) : (3 : Int32) = (3 : Int32))]
      rw [r64] at st64
      refine Go.mp st64 ?_
      show Go p e below (T64.setTop (mkF m 19 #[.val (.int p1), .val (.int p2), .val (.ref w_SIX), .unset, .unset] [(.ref w_SIX)])) _
      refine g_astoreN X64 hx #[.val (.int p1), .val (.int p2), .val (.ref w_SIX), .val (.ref w_SIX), .unset] (hb hby at_19) rfl rfl ?_
      refine g_aloadN X64 hx (hb hby at_20) rfl rfl ?_
      refine g_aloadN X64 hx (hb hby at_21) rfl rfl ?_
      obtain ⟨v65, T65, L65, X65, q65, st65⟩ := own_callV X64 hx hZ (y := (⟨"com/example/wombat/wombat/LockMode", "combinedWith", "(Lcom/example/wombat/wombat/LockMode;)Lcom/example/wombat/wombat/LockMode;"⟩ : MethodName)) (pc := 22) (Ls := #[.val (.int p1), .val (.int p2), .val (.ref w_SIX), .val (.ref w_SIX), .unset]) (st := [(.ref w_SIX), (.ref w_SIX)]) hown (hw _ (List.mem_of_getElem? (i := 10) rfl)) (hw _ (List.mem_of_getElem? (i := 11) rfl)) (hw _ (List.mem_of_getElem? (i := 13) rfl)) (hw _ (List.mem_of_getElem? (i := 12) rfl)) (hw _ (List.mem_of_getElem? (i := 14) rfl)) (hw _ (List.mem_of_getElem? (i := 6) rfl)) (by decide) (rm_combinedWith l Z a0 hw w_SIX w_SIX (1 : Int32) (1 : Int32) w_WF kk w_IS w_IX w_S w_SIX w_X h0 n0 Z0 S_WEAKEST_FIRST V_w_WF E_w_IS F_w_IS_compatible E_w_IX F_w_IX_compatible E_w_S F_w_S_compatible E_w_SIX F_w_SIX_compatible E_w_X F_w_X_compatible F_w_SIX_compatible F_w_SIX_compatible) e64 E_w_SIX pd_2 (hb hby at_22) (by rw [hml]; rfl) (argsL := [(.ref w_SIX)]) (rest := []) rfl rfl rfl (W := 0) (Nat.le_of_eq rfl) (by decide) (by decide) (by decide) (by decide)
      obtain ⟨rfl, M65, e65⟩ := q65
      have N65 := Fr.app N64 M65
      have r65 : (f_combinedWith w_SIX w_SIX (1 : Int32) (1 : Int32) w_WF kk w_IS w_IX w_S w_SIX w_X) = w_SIX := by rw [f_combinedWith, if_neg ((by decide) : ¬ (((15 : Int32) &&& ((1 : Int32) ^^^ (-1 : Int32))) = (0 : Int32))), if_neg ((by decide) : ¬ (((3 : Int32) &&& ((1 : Int32) ^^^ (-1 : Int32))) = (0 : Int32))), if_neg ((by decide) : ¬ (((5 : Int32) &&& ((1 : Int32) ^^^ (-1 : Int32))) = (0 : Int32))), if_pos ((by decide) : ((1 : Int32) &&& ((1 : Int32) ^^^ (-1 : Int32))) = (0 : Int32)), if_pos ((by decide) : ((1 : Int32) &&& ((1 : Int32) ^^^ (-1 : Int32))) = (0 : Int32))]
      rw [r65] at st65
      refine Go.mp st65 ?_
      show Go p e below (T65.setTop (mkF m 25 #[.val (.int p1), .val (.int p2), .val (.ref w_SIX), .val (.ref w_SIX), .unset] [(.ref w_SIX)])) _
      refine g_astore X65 hx #[.val (.int p1), .val (.int p2), .val (.ref w_SIX), .val (.ref w_SIX), .val (.ref w_SIX)] (hb hby at_25) rfl rfl ?_
      refine g_aload X65 hx (hb hby at_27) rfl rfl ?_
      refine g_aloadN X65 hx (hb hby at_29) rfl rfl ?_
      refine g_aloadN X65 hx (hb hby at_30) rfl rfl ?_
      obtain ⟨v66, T66, L66, X66, q66, st66⟩ := own_callS X65 hx hZ (y := (⟨"com/example/wombat/wombat/LockModeCombinedWithPinLaw", "expected", "(Lcom/example/wombat/wombat/LockMode;Lcom/example/wombat/wombat/LockMode;)Lcom/example/wombat/wombat/LockMode;"⟩ : MethodName)) (pc := 31) (Ls := #[.val (.int p1), .val (.int p2), .val (.ref w_SIX), .val (.ref w_SIX), .val (.ref w_SIX)]) (st := [(.ref w_SIX), (.ref w_SIX), (.ref w_SIX)]) hown (hw _ (List.mem_of_getElem? (i := 26) rfl)) (hw _ (List.mem_of_getElem? (i := 27) rfl)) (hw _ (List.mem_of_getElem? (i := 3) rfl)) (hw _ (List.mem_of_getElem? (i := 28) rfl)) (by decide) (rm_expected l Z a0 hw w_SIX w_SIX w_IS w_X w_SIX h0 n0 Z0 S_IS S_X S_SIX) e65 pd_3 (hb hby at_31) (by rw [hml]; rfl) (argsL := [(.ref w_SIX), (.ref w_SIX)]) (rest := [(.ref w_SIX)]) rfl rfl rfl (W := 1) (Nat.le_of_eq rfl) (by decide) (by decide) (by decide) (by decide)
      obtain ⟨rfl, M66, e66⟩ := q66
      have N66 := Fr.app N65 M66
      have r66 : (f_expected w_SIX w_SIX w_IS w_X w_SIX) = w_SIX := by rw [f_expected, if_pos (rfl : w_SIX = w_SIX)]
      rw [r66] at st66
      refine Go.mp st66 ?_
      show Go p e below (T66.setTop (mkF m 34 #[.val (.int p1), .val (.int p2), .val (.ref w_SIX), .val (.ref w_SIX), .val (.ref w_SIX)] [(.ref w_SIX), (.ref w_SIX)])) _
      have c34_0 : w_SIX = w_SIX := rfl
      refine g_acmp X66 hx 37 true rfl rfl (hb hby at_34) (decide_eq_true (congrArg Value.ref c34_0)) (by decide) (by decide) ?_
      refine g_iconst X66 hx (1 : Int32) (hb hby at_37) (by decide) ?_
      refine g_goto X66 hx 42 (hb hby at_38) (by decide) (by decide) ?_
      exact own_retZ X66 hx hret hlk (hb hby at_42) (by decide) (by decide) (by decide) ⟨rfl, N66⟩
    · rw [q54]
      obtain ⟨v67, T67, L67, X67, q67, st67⟩ := own_callS X53 hx hZ (y := (⟨"com/example/wombat/wombat/LockModeCombinedWithPinLaw", "pick", "(I)Lcom/example/wombat/wombat/LockMode;"⟩ : MethodName)) (pc := 16) (Ls := #[.val (.int p1), .val (.int p2), .val (.ref w_SIX), .unset, .unset]) (st := [(.int (4 : Int32))]) hown (hw _ (List.mem_of_getElem? (i := 1) rfl)) (hw _ (List.mem_of_getElem? (i := 2) rfl)) (hw _ (List.mem_of_getElem? (i := 3) rfl)) (hw _ (List.mem_of_getElem? (i := 4) rfl)) (by decide) (rm_pick l Z a0 hw (4 : Int32) w_IS w_IX w_S w_SIX w_X h0 n0 Z0 S_IS S_IX S_S S_SIX S_X) e53 pd_1 (hb hby at_16) (by rw [hml]; rfl) (argsL := [(.int (4 : Int32))]) (rest := []) rfl rfl rfl (W := 0) (Nat.le_of_eq rfl) (by decide) (by decide) (by decide) (by decide)
      obtain ⟨rfl, M67, e67⟩ := q67
      have N67 := Fr.app N53 M67
      have r67 : (f_pick (4 : Int32) w_IS w_IX w_S w_SIX w_X) = w_X := by rw [f_pick, if_neg ((by decide) : ¬ ((4 : Int32) = (0 : Int32))), if_neg ((by decide) : ¬ ((4 : Int32) = (1 : Int32))), if_neg ((by decide) : ¬ ((4 : Int32) = (2 : Int32))), if_neg ((by decide) : ¬ ((4 : Int32) = (3 : Int32)))]
      rw [r67] at st67
      refine Go.mp st67 ?_
      show Go p e below (T67.setTop (mkF m 19 #[.val (.int p1), .val (.int p2), .val (.ref w_SIX), .unset, .unset] [(.ref w_X)])) _
      refine g_astoreN X67 hx #[.val (.int p1), .val (.int p2), .val (.ref w_SIX), .val (.ref w_X), .unset] (hb hby at_19) rfl rfl ?_
      refine g_aloadN X67 hx (hb hby at_20) rfl rfl ?_
      refine g_aloadN X67 hx (hb hby at_21) rfl rfl ?_
      obtain ⟨v68, T68, L68, X68, q68, st68⟩ := own_callV X67 hx hZ (y := (⟨"com/example/wombat/wombat/LockMode", "combinedWith", "(Lcom/example/wombat/wombat/LockMode;)Lcom/example/wombat/wombat/LockMode;"⟩ : MethodName)) (pc := 22) (Ls := #[.val (.int p1), .val (.int p2), .val (.ref w_SIX), .val (.ref w_X), .unset]) (st := [(.ref w_X), (.ref w_SIX)]) hown (hw _ (List.mem_of_getElem? (i := 10) rfl)) (hw _ (List.mem_of_getElem? (i := 11) rfl)) (hw _ (List.mem_of_getElem? (i := 13) rfl)) (hw _ (List.mem_of_getElem? (i := 12) rfl)) (hw _ (List.mem_of_getElem? (i := 14) rfl)) (hw _ (List.mem_of_getElem? (i := 6) rfl)) (by decide) (rm_combinedWith l Z a0 hw w_SIX w_X (1 : Int32) (0 : Int32) w_WF kk w_IS w_IX w_S w_SIX w_X h0 n0 Z0 S_WEAKEST_FIRST V_w_WF E_w_IS F_w_IS_compatible E_w_IX F_w_IX_compatible E_w_S F_w_S_compatible E_w_SIX F_w_SIX_compatible E_w_X F_w_X_compatible F_w_SIX_compatible F_w_X_compatible) e67 E_w_SIX pd_2 (hb hby at_22) (by rw [hml]; rfl) (argsL := [(.ref w_X)]) (rest := []) rfl rfl rfl (W := 0) (Nat.le_of_eq rfl) (by decide) (by decide) (by decide) (by decide)
      obtain ⟨rfl, M68, e68⟩ := q68
      have N68 := Fr.app N67 M68
      have r68 : (f_combinedWith w_SIX w_X (1 : Int32) (0 : Int32) w_WF kk w_IS w_IX w_S w_SIX w_X) = w_X := by rw [f_combinedWith, if_neg ((by decide) : ¬ (((15 : Int32) &&& ((1 : Int32) ^^^ (-1 : Int32))) = (0 : Int32))), if_neg ((by decide) : ¬ (((3 : Int32) &&& ((1 : Int32) ^^^ (-1 : Int32))) = (0 : Int32))), if_neg ((by decide) : ¬ (((5 : Int32) &&& ((1 : Int32) ^^^ (-1 : Int32))) = (0 : Int32))), if_pos ((by decide) : ((1 : Int32) &&& ((1 : Int32) ^^^ (-1 : Int32))) = (0 : Int32)), if_neg ((by decide) : ¬ (((1 : Int32) &&& ((0 : Int32) ^^^ (-1 : Int32))) = (0 : Int32)))]
      rw [r68] at st68
      refine Go.mp st68 ?_
      show Go p e below (T68.setTop (mkF m 25 #[.val (.int p1), .val (.int p2), .val (.ref w_SIX), .val (.ref w_X), .unset] [(.ref w_X)])) _
      refine g_astore X68 hx #[.val (.int p1), .val (.int p2), .val (.ref w_SIX), .val (.ref w_X), .val (.ref w_X)] (hb hby at_25) rfl rfl ?_
      refine g_aload X68 hx (hb hby at_27) rfl rfl ?_
      refine g_aloadN X68 hx (hb hby at_29) rfl rfl ?_
      refine g_aloadN X68 hx (hb hby at_30) rfl rfl ?_
      obtain ⟨v69, T69, L69, X69, q69, st69⟩ := own_callS X68 hx hZ (y := (⟨"com/example/wombat/wombat/LockModeCombinedWithPinLaw", "expected", "(Lcom/example/wombat/wombat/LockMode;Lcom/example/wombat/wombat/LockMode;)Lcom/example/wombat/wombat/LockMode;"⟩ : MethodName)) (pc := 31) (Ls := #[.val (.int p1), .val (.int p2), .val (.ref w_SIX), .val (.ref w_X), .val (.ref w_X)]) (st := [(.ref w_X), (.ref w_SIX), (.ref w_X)]) hown (hw _ (List.mem_of_getElem? (i := 26) rfl)) (hw _ (List.mem_of_getElem? (i := 27) rfl)) (hw _ (List.mem_of_getElem? (i := 3) rfl)) (hw _ (List.mem_of_getElem? (i := 28) rfl)) (by decide) (rm_expected l Z a0 hw w_SIX w_X w_IS w_X w_SIX h0 n0 Z0 S_IS S_X S_SIX) e68 pd_3 (hb hby at_31) (by rw [hml]; rfl) (argsL := [(.ref w_SIX), (.ref w_X)]) (rest := [(.ref w_X)]) rfl rfl rfl (W := 1) (Nat.le_of_eq rfl) (by decide) (by decide) (by decide) (by decide)
      obtain ⟨rfl, M69, e69⟩ := q69
      have N69 := Fr.app N68 M69
      have r69 : (f_expected w_SIX w_X w_IS w_X w_SIX) = w_X := by rw [f_expected, if_neg (ne_SIX_X : ¬ (w_SIX = w_X)), if_neg ((Ne.symm ne_IS_SIX) : ¬ (w_SIX = w_IS)), if_neg ((Ne.symm ne_IS_X) : ¬ (w_X = w_IS)), if_neg (ne_SIX_X : ¬ (w_SIX = w_X)), if_pos (rfl : w_X = w_X)]
      rw [r69] at st69
      refine Go.mp st69 ?_
      show Go p e below (T69.setTop (mkF m 34 #[.val (.int p1), .val (.int p2), .val (.ref w_SIX), .val (.ref w_X), .val (.ref w_X)] [(.ref w_X), (.ref w_X)])) _
      have c34_0 : w_X = w_X := rfl
      refine g_acmp X69 hx 37 true rfl rfl (hb hby at_34) (decide_eq_true (congrArg Value.ref c34_0)) (by decide) (by decide) ?_
      refine g_iconst X69 hx (1 : Int32) (hb hby at_37) (by decide) ?_
      refine g_goto X69 hx 42 (hb hby at_38) (by decide) (by decide) ?_
      exact own_retZ X69 hx hret hlk (hb hby at_42) (by decide) (by decide) (by decide) ⟨rfl, N69⟩
  · rw [q1]
    obtain ⟨v70, T70, L70, X70, q70, st70⟩ := own_callS X0 hx hZ (y := (⟨"com/example/wombat/wombat/LockModeCombinedWithPinLaw", "pick", "(I)Lcom/example/wombat/wombat/LockMode;"⟩ : MethodName)) (pc := 6) (Ls := #[.val (.int p1), .val (.int p2), .unset, .unset, .unset]) (st := [(.int (4 : Int32))]) hown (hw _ (List.mem_of_getElem? (i := 1) rfl)) (hw _ (List.mem_of_getElem? (i := 2) rfl)) (hw _ (List.mem_of_getElem? (i := 3) rfl)) (hw _ (List.mem_of_getElem? (i := 4) rfl)) (by decide) (rm_pick l Z a0 hw (4 : Int32) w_IS w_IX w_S w_SIX w_X h0 n0 Z0 S_IS S_IX S_S S_SIX S_X) e0 pd_1 (hb hby at_6) (by rw [hml]; rfl) (argsL := [(.int (4 : Int32))]) (rest := []) rfl rfl rfl (W := 0) (Nat.le_of_eq rfl) (by decide) (by decide) (by decide) (by decide)
    obtain ⟨rfl, M70, e70⟩ := q70
    have N70 := Fr.app N0 M70
    have r70 : (f_pick (4 : Int32) w_IS w_IX w_S w_SIX w_X) = w_X := by rw [f_pick, if_neg ((by decide) : ¬ ((4 : Int32) = (0 : Int32))), if_neg ((by decide) : ¬ ((4 : Int32) = (1 : Int32))), if_neg ((by decide) : ¬ ((4 : Int32) = (2 : Int32))), if_neg ((by decide) : ¬ ((4 : Int32) = (3 : Int32)))]
    rw [r70] at st70
    refine Go.mp st70 ?_
    show Go p e below (T70.setTop (mkF m 9 #[.val (.int p1), .val (.int p2), .unset, .unset, .unset] [(.ref w_X)])) _
    refine g_astoreN X70 hx #[.val (.int p1), .val (.int p2), .val (.ref w_X), .unset, .unset] (hb hby at_9) rfl rfl ?_
    refine g_iloadN X70 hx (hb hby at_10) rfl ?_
    refine Go.mp (fun _ k => X70.ldcInt hx hown (mvT hZ (hw _ (List.mem_of_getElem? (i := 0) rfl))) (g := (mkF m 11 #[.val (.int p1), .val (.int p2), .val (.ref w_X), .unset, .unset] [(.int p2)])) rfl (hb hby at_11) _ k) ?_
    show Go p e below (T70.setTop (mkF m 13 #[.val (.int p1), .val (.int p2), .val (.ref w_X), .unset, .unset] [(.int (2147483647 : Int32)), (.int p2)])) _
    refine g_iand X70 hx (hb hby at_13) ?_
    refine g_iconst X70 hx (5 : Int32) (hb hby at_14) (by decide) ?_
    refine g_irem X70 hx (hb hby at_15) (by decide) ?_
    show Go p e below (T70.setTop (mkF m 16 #[.val (.int p1), .val (.int p2), .val (.ref w_X), .unset, .unset] [(.int ((p2 &&& (2147483647 : Int32)) % (5 : Int32)))])) _
    rcases own_mod5 p2 with q71 | q71 | q71 | q71 | q71
    · rw [q71]
      obtain ⟨v72, T72, L72, X72, q72, st72⟩ := own_callS X70 hx hZ (y := (⟨"com/example/wombat/wombat/LockModeCombinedWithPinLaw", "pick", "(I)Lcom/example/wombat/wombat/LockMode;"⟩ : MethodName)) (pc := 16) (Ls := #[.val (.int p1), .val (.int p2), .val (.ref w_X), .unset, .unset]) (st := [(.int (0 : Int32))]) hown (hw _ (List.mem_of_getElem? (i := 1) rfl)) (hw _ (List.mem_of_getElem? (i := 2) rfl)) (hw _ (List.mem_of_getElem? (i := 3) rfl)) (hw _ (List.mem_of_getElem? (i := 4) rfl)) (by decide) (rm_pick l Z a0 hw (0 : Int32) w_IS w_IX w_S w_SIX w_X h0 n0 Z0 S_IS S_IX S_S S_SIX S_X) e70 pd_1 (hb hby at_16) (by rw [hml]; rfl) (argsL := [(.int (0 : Int32))]) (rest := []) rfl rfl rfl (W := 0) (Nat.le_of_eq rfl) (by decide) (by decide) (by decide) (by decide)
      obtain ⟨rfl, M72, e72⟩ := q72
      have N72 := Fr.app N70 M72
      have r72 : (f_pick (0 : Int32) w_IS w_IX w_S w_SIX w_X) = w_IS := by rw [f_pick, if_pos ((by decide) : (0 : Int32) = (0 : Int32))]
      rw [r72] at st72
      refine Go.mp st72 ?_
      show Go p e below (T72.setTop (mkF m 19 #[.val (.int p1), .val (.int p2), .val (.ref w_X), .unset, .unset] [(.ref w_IS)])) _
      refine g_astoreN X72 hx #[.val (.int p1), .val (.int p2), .val (.ref w_X), .val (.ref w_IS), .unset] (hb hby at_19) rfl rfl ?_
      refine g_aloadN X72 hx (hb hby at_20) rfl rfl ?_
      refine g_aloadN X72 hx (hb hby at_21) rfl rfl ?_
      obtain ⟨v73, T73, L73, X73, q73, st73⟩ := own_callV X72 hx hZ (y := (⟨"com/example/wombat/wombat/LockMode", "combinedWith", "(Lcom/example/wombat/wombat/LockMode;)Lcom/example/wombat/wombat/LockMode;"⟩ : MethodName)) (pc := 22) (Ls := #[.val (.int p1), .val (.int p2), .val (.ref w_X), .val (.ref w_IS), .unset]) (st := [(.ref w_IS), (.ref w_X)]) hown (hw _ (List.mem_of_getElem? (i := 10) rfl)) (hw _ (List.mem_of_getElem? (i := 11) rfl)) (hw _ (List.mem_of_getElem? (i := 13) rfl)) (hw _ (List.mem_of_getElem? (i := 12) rfl)) (hw _ (List.mem_of_getElem? (i := 14) rfl)) (hw _ (List.mem_of_getElem? (i := 6) rfl)) (by decide) (rm_combinedWith l Z a0 hw w_X w_IS (0 : Int32) (15 : Int32) w_WF kk w_IS w_IX w_S w_SIX w_X h0 n0 Z0 S_WEAKEST_FIRST V_w_WF E_w_IS F_w_IS_compatible E_w_IX F_w_IX_compatible E_w_S F_w_S_compatible E_w_SIX F_w_SIX_compatible E_w_X F_w_X_compatible F_w_X_compatible F_w_IS_compatible) e72 E_w_X pd_2 (hb hby at_22) (by rw [hml]; rfl) (argsL := [(.ref w_IS)]) (rest := []) rfl rfl rfl (W := 0) (Nat.le_of_eq rfl) (by decide) (by decide) (by decide) (by decide)
      obtain ⟨rfl, M73, e73⟩ := q73
      have N73 := Fr.app N72 M73
      have r73 : (f_combinedWith w_X w_IS (0 : Int32) (15 : Int32) w_WF kk w_IS w_IX w_S w_SIX w_X) = w_X := by rw [f_combinedWith, if_neg ((by decide) : ¬ (((15 : Int32) &&& ((0 : Int32) ^^^ (-1 : Int32))) = (0 : Int32))), if_neg ((by decide) : ¬ (((3 : Int32) &&& ((0 : Int32) ^^^ (-1 : Int32))) = (0 : Int32))), if_neg ((by decide) : ¬ (((5 : Int32) &&& ((0 : Int32) ^^^ (-1 : Int32))) = (0 : Int32))), if_neg ((by decide) : ¬ (((1 : Int32) &&& ((0 : Int32) ^^^ (-1 : Int32))) = (0 : Int32)))]
      rw [r73] at st73
      refine Go.mp st73 ?_
      show Go p e below (T73.setTop (mkF m 25 #[.val (.int p1), .val (.int p2), .val (.ref w_X), .val (.ref w_IS), .unset] [(.ref w_X)])) _
      refine g_astore X73 hx #[.val (.int p1), .val (.int p2), .val (.ref w_X), .val (.ref w_IS), .val (.ref w_X)] (hb hby at_25) rfl rfl ?_
      refine g_aload X73 hx (hb hby at_27) rfl rfl ?_
      refine g_aloadN X73 hx (hb hby at_29) rfl rfl ?_
      refine g_aloadN X73 hx (hb hby at_30) rfl rfl ?_
      obtain ⟨v74, T74, L74, X74, q74, st74⟩ := own_callS X73 hx hZ (y := (⟨"com/example/wombat/wombat/LockModeCombinedWithPinLaw", "expected", "(Lcom/example/wombat/wombat/LockMode;Lcom/example/wombat/wombat/LockMode;)Lcom/example/wombat/wombat/LockMode;"⟩ : MethodName)) (pc := 31) (Ls := #[.val (.int p1), .val (.int p2), .val (.ref w_X), .val (.ref w_IS), .val (.ref w_X)]) (st := [(.ref w_IS), (.ref w_X), (.ref w_X)]) hown (hw _ (List.mem_of_getElem? (i := 26) rfl)) (hw _ (List.mem_of_getElem? (i := 27) rfl)) (hw _ (List.mem_of_getElem? (i := 3) rfl)) (hw _ (List.mem_of_getElem? (i := 28) rfl)) (by decide) (rm_expected l Z a0 hw w_X w_IS w_IS w_X w_SIX h0 n0 Z0 S_IS S_X S_SIX) e73 pd_3 (hb hby at_31) (by rw [hml]; rfl) (argsL := [(.ref w_X), (.ref w_IS)]) (rest := [(.ref w_X)]) rfl rfl rfl (W := 1) (Nat.le_of_eq rfl) (by decide) (by decide) (by decide) (by decide)
      obtain ⟨rfl, M74, e74⟩ := q74
      have N74 := Fr.app N73 M74
      have r74 : (f_expected w_X w_IS w_IS w_X w_SIX) = w_X := by rw [f_expected, if_neg ((Ne.symm ne_IS_X) : ¬ (w_X = w_IS)), if_neg ((Ne.symm ne_IS_X) : ¬ (w_X = w_IS)), if_pos (rfl : w_IS = w_IS)]
      rw [r74] at st74
      refine Go.mp st74 ?_
      show Go p e below (T74.setTop (mkF m 34 #[.val (.int p1), .val (.int p2), .val (.ref w_X), .val (.ref w_IS), .val (.ref w_X)] [(.ref w_X), (.ref w_X)])) _
      have c34_0 : w_X = w_X := rfl
      refine g_acmp X74 hx 37 true rfl rfl (hb hby at_34) (decide_eq_true (congrArg Value.ref c34_0)) (by decide) (by decide) ?_
      refine g_iconst X74 hx (1 : Int32) (hb hby at_37) (by decide) ?_
      refine g_goto X74 hx 42 (hb hby at_38) (by decide) (by decide) ?_
      exact own_retZ X74 hx hret hlk (hb hby at_42) (by decide) (by decide) (by decide) ⟨rfl, N74⟩
    · rw [q71]
      obtain ⟨v75, T75, L75, X75, q75, st75⟩ := own_callS X70 hx hZ (y := (⟨"com/example/wombat/wombat/LockModeCombinedWithPinLaw", "pick", "(I)Lcom/example/wombat/wombat/LockMode;"⟩ : MethodName)) (pc := 16) (Ls := #[.val (.int p1), .val (.int p2), .val (.ref w_X), .unset, .unset]) (st := [(.int (1 : Int32))]) hown (hw _ (List.mem_of_getElem? (i := 1) rfl)) (hw _ (List.mem_of_getElem? (i := 2) rfl)) (hw _ (List.mem_of_getElem? (i := 3) rfl)) (hw _ (List.mem_of_getElem? (i := 4) rfl)) (by decide) (rm_pick l Z a0 hw (1 : Int32) w_IS w_IX w_S w_SIX w_X h0 n0 Z0 S_IS S_IX S_S S_SIX S_X) e70 pd_1 (hb hby at_16) (by rw [hml]; rfl) (argsL := [(.int (1 : Int32))]) (rest := []) rfl rfl rfl (W := 0) (Nat.le_of_eq rfl) (by decide) (by decide) (by decide) (by decide)
      obtain ⟨rfl, M75, e75⟩ := q75
      have N75 := Fr.app N70 M75
      have r75 : (f_pick (1 : Int32) w_IS w_IX w_S w_SIX w_X) = w_IX := by rw [f_pick, if_neg ((by decide) : ¬ ((1 : Int32) = (0 : Int32))), if_pos ((by decide) : (1 : Int32) = (1 : Int32))]
      rw [r75] at st75
      refine Go.mp st75 ?_
      show Go p e below (T75.setTop (mkF m 19 #[.val (.int p1), .val (.int p2), .val (.ref w_X), .unset, .unset] [(.ref w_IX)])) _
      refine g_astoreN X75 hx #[.val (.int p1), .val (.int p2), .val (.ref w_X), .val (.ref w_IX), .unset] (hb hby at_19) rfl rfl ?_
      refine g_aloadN X75 hx (hb hby at_20) rfl rfl ?_
      refine g_aloadN X75 hx (hb hby at_21) rfl rfl ?_
      obtain ⟨v76, T76, L76, X76, q76, st76⟩ := own_callV X75 hx hZ (y := (⟨"com/example/wombat/wombat/LockMode", "combinedWith", "(Lcom/example/wombat/wombat/LockMode;)Lcom/example/wombat/wombat/LockMode;"⟩ : MethodName)) (pc := 22) (Ls := #[.val (.int p1), .val (.int p2), .val (.ref w_X), .val (.ref w_IX), .unset]) (st := [(.ref w_IX), (.ref w_X)]) hown (hw _ (List.mem_of_getElem? (i := 10) rfl)) (hw _ (List.mem_of_getElem? (i := 11) rfl)) (hw _ (List.mem_of_getElem? (i := 13) rfl)) (hw _ (List.mem_of_getElem? (i := 12) rfl)) (hw _ (List.mem_of_getElem? (i := 14) rfl)) (hw _ (List.mem_of_getElem? (i := 6) rfl)) (by decide) (rm_combinedWith l Z a0 hw w_X w_IX (0 : Int32) (3 : Int32) w_WF kk w_IS w_IX w_S w_SIX w_X h0 n0 Z0 S_WEAKEST_FIRST V_w_WF E_w_IS F_w_IS_compatible E_w_IX F_w_IX_compatible E_w_S F_w_S_compatible E_w_SIX F_w_SIX_compatible E_w_X F_w_X_compatible F_w_X_compatible F_w_IX_compatible) e75 E_w_X pd_2 (hb hby at_22) (by rw [hml]; rfl) (argsL := [(.ref w_IX)]) (rest := []) rfl rfl rfl (W := 0) (Nat.le_of_eq rfl) (by decide) (by decide) (by decide) (by decide)
      obtain ⟨rfl, M76, e76⟩ := q76
      have N76 := Fr.app N75 M76
      have r76 : (f_combinedWith w_X w_IX (0 : Int32) (3 : Int32) w_WF kk w_IS w_IX w_S w_SIX w_X) = w_X := by rw [f_combinedWith, if_neg ((by decide) : ¬ (((15 : Int32) &&& ((0 : Int32) ^^^ (-1 : Int32))) = (0 : Int32))), if_neg ((by decide) : ¬ (((3 : Int32) &&& ((0 : Int32) ^^^ (-1 : Int32))) = (0 : Int32))), if_neg ((by decide) : ¬ (((5 : Int32) &&& ((0 : Int32) ^^^ (-1 : Int32))) = (0 : Int32))), if_neg ((by decide) : ¬ (((1 : Int32) &&& ((0 : Int32) ^^^ (-1 : Int32))) = (0 : Int32)))]
      rw [r76] at st76
      refine Go.mp st76 ?_
      show Go p e below (T76.setTop (mkF m 25 #[.val (.int p1), .val (.int p2), .val (.ref w_X), .val (.ref w_IX), .unset] [(.ref w_X)])) _
      refine g_astore X76 hx #[.val (.int p1), .val (.int p2), .val (.ref w_X), .val (.ref w_IX), .val (.ref w_X)] (hb hby at_25) rfl rfl ?_
      refine g_aload X76 hx (hb hby at_27) rfl rfl ?_
      refine g_aloadN X76 hx (hb hby at_29) rfl rfl ?_
      refine g_aloadN X76 hx (hb hby at_30) rfl rfl ?_
      obtain ⟨v77, T77, L77, X77, q77, st77⟩ := own_callS X76 hx hZ (y := (⟨"com/example/wombat/wombat/LockModeCombinedWithPinLaw", "expected", "(Lcom/example/wombat/wombat/LockMode;Lcom/example/wombat/wombat/LockMode;)Lcom/example/wombat/wombat/LockMode;"⟩ : MethodName)) (pc := 31) (Ls := #[.val (.int p1), .val (.int p2), .val (.ref w_X), .val (.ref w_IX), .val (.ref w_X)]) (st := [(.ref w_IX), (.ref w_X), (.ref w_X)]) hown (hw _ (List.mem_of_getElem? (i := 26) rfl)) (hw _ (List.mem_of_getElem? (i := 27) rfl)) (hw _ (List.mem_of_getElem? (i := 3) rfl)) (hw _ (List.mem_of_getElem? (i := 28) rfl)) (by decide) (rm_expected l Z a0 hw w_X w_IX w_IS w_X w_SIX h0 n0 Z0 S_IS S_X S_SIX) e76 pd_3 (hb hby at_31) (by rw [hml]; rfl) (argsL := [(.ref w_X), (.ref w_IX)]) (rest := [(.ref w_X)]) rfl rfl rfl (W := 1) (Nat.le_of_eq rfl) (by decide) (by decide) (by decide) (by decide)
      obtain ⟨rfl, M77, e77⟩ := q77
      have N77 := Fr.app N76 M77
      have r77 : (f_expected w_X w_IX w_IS w_X w_SIX) = w_X := by rw [f_expected, if_neg (ne_X_IX : ¬ (w_X = w_IX)), if_neg ((Ne.symm ne_IS_X) : ¬ (w_X = w_IS)), if_neg ((Ne.symm ne_IS_IX) : ¬ (w_IX = w_IS)), if_pos (rfl : w_X = w_X)]
      rw [r77] at st77
      refine Go.mp st77 ?_
      show Go p e below (T77.setTop (mkF m 34 #[.val (.int p1), .val (.int p2), .val (.ref w_X), .val (.ref w_IX), .val (.ref w_X)] [(.ref w_X), (.ref w_X)])) _
      have c34_0 : w_X = w_X := rfl
      refine g_acmp X77 hx 37 true rfl rfl (hb hby at_34) (decide_eq_true (congrArg Value.ref c34_0)) (by decide) (by decide) ?_
      refine g_iconst X77 hx (1 : Int32) (hb hby at_37) (by decide) ?_
      refine g_goto X77 hx 42 (hb hby at_38) (by decide) (by decide) ?_
      exact own_retZ X77 hx hret hlk (hb hby at_42) (by decide) (by decide) (by decide) ⟨rfl, N77⟩
    · rw [q71]
      obtain ⟨v78, T78, L78, X78, q78, st78⟩ := own_callS X70 hx hZ (y := (⟨"com/example/wombat/wombat/LockModeCombinedWithPinLaw", "pick", "(I)Lcom/example/wombat/wombat/LockMode;"⟩ : MethodName)) (pc := 16) (Ls := #[.val (.int p1), .val (.int p2), .val (.ref w_X), .unset, .unset]) (st := [(.int (2 : Int32))]) hown (hw _ (List.mem_of_getElem? (i := 1) rfl)) (hw _ (List.mem_of_getElem? (i := 2) rfl)) (hw _ (List.mem_of_getElem? (i := 3) rfl)) (hw _ (List.mem_of_getElem? (i := 4) rfl)) (by decide) (rm_pick l Z a0 hw (2 : Int32) w_IS w_IX w_S w_SIX w_X h0 n0 Z0 S_IS S_IX S_S S_SIX S_X) e70 pd_1 (hb hby at_16) (by rw [hml]; rfl) (argsL := [(.int (2 : Int32))]) (rest := []) rfl rfl rfl (W := 0) (Nat.le_of_eq rfl) (by decide) (by decide) (by decide) (by decide)
      obtain ⟨rfl, M78, e78⟩ := q78
      have N78 := Fr.app N70 M78
      have r78 : (f_pick (2 : Int32) w_IS w_IX w_S w_SIX w_X) = w_S := by rw [f_pick, if_neg ((by decide) : ¬ ((2 : Int32) = (0 : Int32))), if_neg ((by decide) : ¬ ((2 : Int32) = (1 : Int32))), if_pos ((by decide) : (2 : Int32) = (2 : Int32))]
      rw [r78] at st78
      refine Go.mp st78 ?_
      show Go p e below (T78.setTop (mkF m 19 #[.val (.int p1), .val (.int p2), .val (.ref w_X), .unset, .unset] [(.ref w_S)])) _
      refine g_astoreN X78 hx #[.val (.int p1), .val (.int p2), .val (.ref w_X), .val (.ref w_S), .unset] (hb hby at_19) rfl rfl ?_
      refine g_aloadN X78 hx (hb hby at_20) rfl rfl ?_
      refine g_aloadN X78 hx (hb hby at_21) rfl rfl ?_
      obtain ⟨v79, T79, L79, X79, q79, st79⟩ := own_callV X78 hx hZ (y := (⟨"com/example/wombat/wombat/LockMode", "combinedWith", "(Lcom/example/wombat/wombat/LockMode;)Lcom/example/wombat/wombat/LockMode;"⟩ : MethodName)) (pc := 22) (Ls := #[.val (.int p1), .val (.int p2), .val (.ref w_X), .val (.ref w_S), .unset]) (st := [(.ref w_S), (.ref w_X)]) hown (hw _ (List.mem_of_getElem? (i := 10) rfl)) (hw _ (List.mem_of_getElem? (i := 11) rfl)) (hw _ (List.mem_of_getElem? (i := 13) rfl)) (hw _ (List.mem_of_getElem? (i := 12) rfl)) (hw _ (List.mem_of_getElem? (i := 14) rfl)) (hw _ (List.mem_of_getElem? (i := 6) rfl)) (by decide) (rm_combinedWith l Z a0 hw w_X w_S (0 : Int32) (5 : Int32) w_WF kk w_IS w_IX w_S w_SIX w_X h0 n0 Z0 S_WEAKEST_FIRST V_w_WF E_w_IS F_w_IS_compatible E_w_IX F_w_IX_compatible E_w_S F_w_S_compatible E_w_SIX F_w_SIX_compatible E_w_X F_w_X_compatible F_w_X_compatible F_w_S_compatible) e78 E_w_X pd_2 (hb hby at_22) (by rw [hml]; rfl) (argsL := [(.ref w_S)]) (rest := []) rfl rfl rfl (W := 0) (Nat.le_of_eq rfl) (by decide) (by decide) (by decide) (by decide)
      obtain ⟨rfl, M79, e79⟩ := q79
      have N79 := Fr.app N78 M79
      have r79 : (f_combinedWith w_X w_S (0 : Int32) (5 : Int32) w_WF kk w_IS w_IX w_S w_SIX w_X) = w_X := by rw [f_combinedWith, if_neg ((by decide) : ¬ (((15 : Int32) &&& ((0 : Int32) ^^^ (-1 : Int32))) = (0 : Int32))), if_neg ((by decide) : ¬ (((3 : Int32) &&& ((0 : Int32) ^^^ (-1 : Int32))) = (0 : Int32))), if_neg ((by decide) : ¬ (((5 : Int32) &&& ((0 : Int32) ^^^ (-1 : Int32))) = (0 : Int32))), if_neg ((by decide) : ¬ (((1 : Int32) &&& ((0 : Int32) ^^^ (-1 : Int32))) = (0 : Int32)))]
      rw [r79] at st79
      refine Go.mp st79 ?_
      show Go p e below (T79.setTop (mkF m 25 #[.val (.int p1), .val (.int p2), .val (.ref w_X), .val (.ref w_S), .unset] [(.ref w_X)])) _
      refine g_astore X79 hx #[.val (.int p1), .val (.int p2), .val (.ref w_X), .val (.ref w_S), .val (.ref w_X)] (hb hby at_25) rfl rfl ?_
      refine g_aload X79 hx (hb hby at_27) rfl rfl ?_
      refine g_aloadN X79 hx (hb hby at_29) rfl rfl ?_
      refine g_aloadN X79 hx (hb hby at_30) rfl rfl ?_
      obtain ⟨v80, T80, L80, X80, q80, st80⟩ := own_callS X79 hx hZ (y := (⟨"com/example/wombat/wombat/LockModeCombinedWithPinLaw", "expected", "(Lcom/example/wombat/wombat/LockMode;Lcom/example/wombat/wombat/LockMode;)Lcom/example/wombat/wombat/LockMode;"⟩ : MethodName)) (pc := 31) (Ls := #[.val (.int p1), .val (.int p2), .val (.ref w_X), .val (.ref w_S), .val (.ref w_X)]) (st := [(.ref w_S), (.ref w_X), (.ref w_X)]) hown (hw _ (List.mem_of_getElem? (i := 26) rfl)) (hw _ (List.mem_of_getElem? (i := 27) rfl)) (hw _ (List.mem_of_getElem? (i := 3) rfl)) (hw _ (List.mem_of_getElem? (i := 28) rfl)) (by decide) (rm_expected l Z a0 hw w_X w_S w_IS w_X w_SIX h0 n0 Z0 S_IS S_X S_SIX) e79 pd_3 (hb hby at_31) (by rw [hml]; rfl) (argsL := [(.ref w_X), (.ref w_S)]) (rest := [(.ref w_X)]) rfl rfl rfl (W := 1) (Nat.le_of_eq rfl) (by decide) (by decide) (by decide) (by decide)
      obtain ⟨rfl, M80, e80⟩ := q80
      have N80 := Fr.app N79 M80
      have r80 : (f_expected w_X w_S w_IS w_X w_SIX) = w_X := by rw [f_expected, if_neg (ne_X_S : ¬ (w_X = w_S)), if_neg ((Ne.symm ne_IS_X) : ¬ (w_X = w_IS)), if_neg ((Ne.symm ne_IS_S) : ¬ (w_S = w_IS)), if_pos (rfl : w_X = w_X)]
      rw [r80] at st80
      refine Go.mp st80 ?_
      show Go p e below (T80.setTop (mkF m 34 #[.val (.int p1), .val (.int p2), .val (.ref w_X), .val (.ref w_S), .val (.ref w_X)] [(.ref w_X), (.ref w_X)])) _
      have c34_0 : w_X = w_X := rfl
      refine g_acmp X80 hx 37 true rfl rfl (hb hby at_34) (decide_eq_true (congrArg Value.ref c34_0)) (by decide) (by decide) ?_
      refine g_iconst X80 hx (1 : Int32) (hb hby at_37) (by decide) ?_
      refine g_goto X80 hx 42 (hb hby at_38) (by decide) (by decide) ?_
      exact own_retZ X80 hx hret hlk (hb hby at_42) (by decide) (by decide) (by decide) ⟨rfl, N80⟩
    · rw [q71]
      obtain ⟨v81, T81, L81, X81, q81, st81⟩ := own_callS X70 hx hZ (y := (⟨"com/example/wombat/wombat/LockModeCombinedWithPinLaw", "pick", "(I)Lcom/example/wombat/wombat/LockMode;"⟩ : MethodName)) (pc := 16) (Ls := #[.val (.int p1), .val (.int p2), .val (.ref w_X), .unset, .unset]) (st := [(.int (3 : Int32))]) hown (hw _ (List.mem_of_getElem? (i := 1) rfl)) (hw _ (List.mem_of_getElem? (i := 2) rfl)) (hw _ (List.mem_of_getElem? (i := 3) rfl)) (hw _ (List.mem_of_getElem? (i := 4) rfl)) (by decide) (rm_pick l Z a0 hw (3 : Int32) w_IS w_IX w_S w_SIX w_X h0 n0 Z0 S_IS S_IX S_S S_SIX S_X) e70 pd_1 (hb hby at_16) (by rw [hml]; rfl) (argsL := [(.int (3 : Int32))]) (rest := []) rfl rfl rfl (W := 0) (Nat.le_of_eq rfl) (by decide) (by decide) (by decide) (by decide)
      obtain ⟨rfl, M81, e81⟩ := q81
      have N81 := Fr.app N70 M81
      have r81 : (f_pick (3 : Int32) w_IS w_IX w_S w_SIX w_X) = w_SIX := by rw [f_pick, if_neg ((by decide) : ¬ ((3 : Int32) = (0 : Int32))), if_neg ((by decide) : ¬ ((3 : Int32) = (1 : Int32))), if_neg ((by decide) : ¬ ((3 : Int32) = (2 : Int32))), if_pos ((by decide) : (3 : Int32) = (3 : Int32))]
      rw [r81] at st81
      refine Go.mp st81 ?_
      show Go p e below (T81.setTop (mkF m 19 #[.val (.int p1), .val (.int p2), .val (.ref w_X), .unset, .unset] [(.ref w_SIX)])) _
      refine g_astoreN X81 hx #[.val (.int p1), .val (.int p2), .val (.ref w_X), .val (.ref w_SIX), .unset] (hb hby at_19) rfl rfl ?_
      refine g_aloadN X81 hx (hb hby at_20) rfl rfl ?_
      refine g_aloadN X81 hx (hb hby at_21) rfl rfl ?_
      obtain ⟨v82, T82, L82, X82, q82, st82⟩ := own_callV X81 hx hZ (y := (⟨"com/example/wombat/wombat/LockMode", "combinedWith", "(Lcom/example/wombat/wombat/LockMode;)Lcom/example/wombat/wombat/LockMode;"⟩ : MethodName)) (pc := 22) (Ls := #[.val (.int p1), .val (.int p2), .val (.ref w_X), .val (.ref w_SIX), .unset]) (st := [(.ref w_SIX), (.ref w_X)]) hown (hw _ (List.mem_of_getElem? (i := 10) rfl)) (hw _ (List.mem_of_getElem? (i := 11) rfl)) (hw _ (List.mem_of_getElem? (i := 13) rfl)) (hw _ (List.mem_of_getElem? (i := 12) rfl)) (hw _ (List.mem_of_getElem? (i := 14) rfl)) (hw _ (List.mem_of_getElem? (i := 6) rfl)) (by decide) (rm_combinedWith l Z a0 hw w_X w_SIX (0 : Int32) (1 : Int32) w_WF kk w_IS w_IX w_S w_SIX w_X h0 n0 Z0 S_WEAKEST_FIRST V_w_WF E_w_IS F_w_IS_compatible E_w_IX F_w_IX_compatible E_w_S F_w_S_compatible E_w_SIX F_w_SIX_compatible E_w_X F_w_X_compatible F_w_X_compatible F_w_SIX_compatible) e81 E_w_X pd_2 (hb hby at_22) (by rw [hml]; rfl) (argsL := [(.ref w_SIX)]) (rest := []) rfl rfl rfl (W := 0) (Nat.le_of_eq rfl) (by decide) (by decide) (by decide) (by decide)
      obtain ⟨rfl, M82, e82⟩ := q82
      have N82 := Fr.app N81 M82
      have r82 : (f_combinedWith w_X w_SIX (0 : Int32) (1 : Int32) w_WF kk w_IS w_IX w_S w_SIX w_X) = w_X := by rw [f_combinedWith, if_neg ((by decide) : ¬ (((15 : Int32) &&& ((0 : Int32) ^^^ (-1 : Int32))) = (0 : Int32))), if_neg ((by decide) : ¬ (((3 : Int32) &&& ((0 : Int32) ^^^ (-1 : Int32))) = (0 : Int32))), if_neg ((by decide) : ¬ (((5 : Int32) &&& ((0 : Int32) ^^^ (-1 : Int32))) = (0 : Int32))), if_neg ((by decide) : ¬ (((1 : Int32) &&& ((0 : Int32) ^^^ (-1 : Int32))) = (0 : Int32)))]
      rw [r82] at st82
      refine Go.mp st82 ?_
      show Go p e below (T82.setTop (mkF m 25 #[.val (.int p1), .val (.int p2), .val (.ref w_X), .val (.ref w_SIX), .unset] [(.ref w_X)])) _
      refine g_astore X82 hx #[.val (.int p1), .val (.int p2), .val (.ref w_X), .val (.ref w_SIX), .val (.ref w_X)] (hb hby at_25) rfl rfl ?_
      refine g_aload X82 hx (hb hby at_27) rfl rfl ?_
      refine g_aloadN X82 hx (hb hby at_29) rfl rfl ?_
      refine g_aloadN X82 hx (hb hby at_30) rfl rfl ?_
      obtain ⟨v83, T83, L83, X83, q83, st83⟩ := own_callS X82 hx hZ (y := (⟨"com/example/wombat/wombat/LockModeCombinedWithPinLaw", "expected", "(Lcom/example/wombat/wombat/LockMode;Lcom/example/wombat/wombat/LockMode;)Lcom/example/wombat/wombat/LockMode;"⟩ : MethodName)) (pc := 31) (Ls := #[.val (.int p1), .val (.int p2), .val (.ref w_X), .val (.ref w_SIX), .val (.ref w_X)]) (st := [(.ref w_SIX), (.ref w_X), (.ref w_X)]) hown (hw _ (List.mem_of_getElem? (i := 26) rfl)) (hw _ (List.mem_of_getElem? (i := 27) rfl)) (hw _ (List.mem_of_getElem? (i := 3) rfl)) (hw _ (List.mem_of_getElem? (i := 28) rfl)) (by decide) (rm_expected l Z a0 hw w_X w_SIX w_IS w_X w_SIX h0 n0 Z0 S_IS S_X S_SIX) e82 pd_3 (hb hby at_31) (by rw [hml]; rfl) (argsL := [(.ref w_X), (.ref w_SIX)]) (rest := [(.ref w_X)]) rfl rfl rfl (W := 1) (Nat.le_of_eq rfl) (by decide) (by decide) (by decide) (by decide)
      obtain ⟨rfl, M83, e83⟩ := q83
      have N83 := Fr.app N82 M83
      have r83 : (f_expected w_X w_SIX w_IS w_X w_SIX) = w_X := by rw [f_expected, if_neg ((Ne.symm ne_SIX_X) : ¬ (w_X = w_SIX)), if_neg ((Ne.symm ne_IS_X) : ¬ (w_X = w_IS)), if_neg ((Ne.symm ne_IS_SIX) : ¬ (w_SIX = w_IS)), if_pos (rfl : w_X = w_X)]
      rw [r83] at st83
      refine Go.mp st83 ?_
      show Go p e below (T83.setTop (mkF m 34 #[.val (.int p1), .val (.int p2), .val (.ref w_X), .val (.ref w_SIX), .val (.ref w_X)] [(.ref w_X), (.ref w_X)])) _
      have c34_0 : w_X = w_X := rfl
      refine g_acmp X83 hx 37 true rfl rfl (hb hby at_34) (decide_eq_true (congrArg Value.ref c34_0)) (by decide) (by decide) ?_
      refine g_iconst X83 hx (1 : Int32) (hb hby at_37) (by decide) ?_
      refine g_goto X83 hx 42 (hb hby at_38) (by decide) (by decide) ?_
      exact own_retZ X83 hx hret hlk (hb hby at_42) (by decide) (by decide) (by decide) ⟨rfl, N83⟩
    · rw [q71]
      obtain ⟨v84, T84, L84, X84, q84, st84⟩ := own_callS X70 hx hZ (y := (⟨"com/example/wombat/wombat/LockModeCombinedWithPinLaw", "pick", "(I)Lcom/example/wombat/wombat/LockMode;"⟩ : MethodName)) (pc := 16) (Ls := #[.val (.int p1), .val (.int p2), .val (.ref w_X), .unset, .unset]) (st := [(.int (4 : Int32))]) hown (hw _ (List.mem_of_getElem? (i := 1) rfl)) (hw _ (List.mem_of_getElem? (i := 2) rfl)) (hw _ (List.mem_of_getElem? (i := 3) rfl)) (hw _ (List.mem_of_getElem? (i := 4) rfl)) (by decide) (rm_pick l Z a0 hw (4 : Int32) w_IS w_IX w_S w_SIX w_X h0 n0 Z0 S_IS S_IX S_S S_SIX S_X) e70 pd_1 (hb hby at_16) (by rw [hml]; rfl) (argsL := [(.int (4 : Int32))]) (rest := []) rfl rfl rfl (W := 0) (Nat.le_of_eq rfl) (by decide) (by decide) (by decide) (by decide)
      obtain ⟨rfl, M84, e84⟩ := q84
      have N84 := Fr.app N70 M84
      have r84 : (f_pick (4 : Int32) w_IS w_IX w_S w_SIX w_X) = w_X := by rw [f_pick, if_neg ((by decide) : ¬ ((4 : Int32) = (0 : Int32))), if_neg ((by decide) : ¬ ((4 : Int32) = (1 : Int32))), if_neg ((by decide) : ¬ ((4 : Int32) = (2 : Int32))), if_neg ((by decide) : ¬ ((4 : Int32) = (3 : Int32)))]
      rw [r84] at st84
      refine Go.mp st84 ?_
      show Go p e below (T84.setTop (mkF m 19 #[.val (.int p1), .val (.int p2), .val (.ref w_X), .unset, .unset] [(.ref w_X)])) _
      refine g_astoreN X84 hx #[.val (.int p1), .val (.int p2), .val (.ref w_X), .val (.ref w_X), .unset] (hb hby at_19) rfl rfl ?_
      refine g_aloadN X84 hx (hb hby at_20) rfl rfl ?_
      refine g_aloadN X84 hx (hb hby at_21) rfl rfl ?_
      obtain ⟨v85, T85, L85, X85, q85, st85⟩ := own_callV X84 hx hZ (y := (⟨"com/example/wombat/wombat/LockMode", "combinedWith", "(Lcom/example/wombat/wombat/LockMode;)Lcom/example/wombat/wombat/LockMode;"⟩ : MethodName)) (pc := 22) (Ls := #[.val (.int p1), .val (.int p2), .val (.ref w_X), .val (.ref w_X), .unset]) (st := [(.ref w_X), (.ref w_X)]) hown (hw _ (List.mem_of_getElem? (i := 10) rfl)) (hw _ (List.mem_of_getElem? (i := 11) rfl)) (hw _ (List.mem_of_getElem? (i := 13) rfl)) (hw _ (List.mem_of_getElem? (i := 12) rfl)) (hw _ (List.mem_of_getElem? (i := 14) rfl)) (hw _ (List.mem_of_getElem? (i := 6) rfl)) (by decide) (rm_combinedWith l Z a0 hw w_X w_X (0 : Int32) (0 : Int32) w_WF kk w_IS w_IX w_S w_SIX w_X h0 n0 Z0 S_WEAKEST_FIRST V_w_WF E_w_IS F_w_IS_compatible E_w_IX F_w_IX_compatible E_w_S F_w_S_compatible E_w_SIX F_w_SIX_compatible E_w_X F_w_X_compatible F_w_X_compatible F_w_X_compatible) e84 E_w_X pd_2 (hb hby at_22) (by rw [hml]; rfl) (argsL := [(.ref w_X)]) (rest := []) rfl rfl rfl (W := 0) (Nat.le_of_eq rfl) (by decide) (by decide) (by decide) (by decide)
      obtain ⟨rfl, M85, e85⟩ := q85
      have N85 := Fr.app N84 M85
      have r85 : (f_combinedWith w_X w_X (0 : Int32) (0 : Int32) w_WF kk w_IS w_IX w_S w_SIX w_X) = w_X := by rw [f_combinedWith, if_neg ((by decide) : ¬ (((15 : Int32) &&& ((0 : Int32) ^^^ (-1 : Int32))) = (0 : Int32))), if_neg ((by decide) : ¬ (((3 : Int32) &&& ((0 : Int32) ^^^ (-1 : Int32))) = (0 : Int32))), if_neg ((by decide) : ¬ (((5 : Int32) &&& ((0 : Int32) ^^^ (-1 : Int32))) = (0 : Int32))), if_neg ((by decide) : ¬ (((1 : Int32) &&& ((0 : Int32) ^^^ (-1 : Int32))) = (0 : Int32)))]
      rw [r85] at st85
      refine Go.mp st85 ?_
      show Go p e below (T85.setTop (mkF m 25 #[.val (.int p1), .val (.int p2), .val (.ref w_X), .val (.ref w_X), .unset] [(.ref w_X)])) _
      refine g_astore X85 hx #[.val (.int p1), .val (.int p2), .val (.ref w_X), .val (.ref w_X), .val (.ref w_X)] (hb hby at_25) rfl rfl ?_
      refine g_aload X85 hx (hb hby at_27) rfl rfl ?_
      refine g_aloadN X85 hx (hb hby at_29) rfl rfl ?_
      refine g_aloadN X85 hx (hb hby at_30) rfl rfl ?_
      obtain ⟨v86, T86, L86, X86, q86, st86⟩ := own_callS X85 hx hZ (y := (⟨"com/example/wombat/wombat/LockModeCombinedWithPinLaw", "expected", "(Lcom/example/wombat/wombat/LockMode;Lcom/example/wombat/wombat/LockMode;)Lcom/example/wombat/wombat/LockMode;"⟩ : MethodName)) (pc := 31) (Ls := #[.val (.int p1), .val (.int p2), .val (.ref w_X), .val (.ref w_X), .val (.ref w_X)]) (st := [(.ref w_X), (.ref w_X), (.ref w_X)]) hown (hw _ (List.mem_of_getElem? (i := 26) rfl)) (hw _ (List.mem_of_getElem? (i := 27) rfl)) (hw _ (List.mem_of_getElem? (i := 3) rfl)) (hw _ (List.mem_of_getElem? (i := 28) rfl)) (by decide) (rm_expected l Z a0 hw w_X w_X w_IS w_X w_SIX h0 n0 Z0 S_IS S_X S_SIX) e85 pd_3 (hb hby at_31) (by rw [hml]; rfl) (argsL := [(.ref w_X), (.ref w_X)]) (rest := [(.ref w_X)]) rfl rfl rfl (W := 1) (Nat.le_of_eq rfl) (by decide) (by decide) (by decide) (by decide)
      obtain ⟨rfl, M86, e86⟩ := q86
      have N86 := Fr.app N85 M86
      have r86 : (f_expected w_X w_X w_IS w_X w_SIX) = w_X := by rw [f_expected, if_pos (rfl : w_X = w_X)]
      rw [r86] at st86
      refine Go.mp st86 ?_
      show Go p e below (T86.setTop (mkF m 34 #[.val (.int p1), .val (.int p2), .val (.ref w_X), .val (.ref w_X), .val (.ref w_X)] [(.ref w_X), (.ref w_X)])) _
      have c34_0 : w_X = w_X := rfl
      refine g_acmp X86 hx 37 true rfl rfl (hb hby at_34) (decide_eq_true (congrArg Value.ref c34_0)) (by decide) (by decide) ?_
      refine g_iconst X86 hx (1 : Int32) (hb hby at_37) (by decide) ?_
      refine g_goto X86 hx 42 (hb hby at_38) (by decide) (by decide) ?_
      exact own_retZ X86 hx hret hlk (hb hby at_42) (by decide) (by decide) (by decide) ⟨rfl, N86⟩
set_option maxRecDepth 65536 in
set_option maxHeartbeats 40000000 in
theorem comes_1 {Post : Tables → Env → Array Value → State → Outcome → State → Prop} (hpost : ∀ tb e args s v u, (limb_1_1.after args s (.returned v) u = true ∧ limb_1_2.after args s (.returned v) u = true ∧ True) → FrameEnd s (.returned v) u (Jvm.fieldLocs frame_1_writes args s ++ Jvm.arrayLocs frame_1_arrays args s ++ Jvm.staticLocs frame_1_statics s) 0 0 → Post tb e args s (.returned v) u) :
    ArmFor flags0 classFile x code maxLocals ret World_1 tables_1 room_1 Calls_1 rest_1 Pre_1 Post := by
  intro l hfl _ _ p e ha hc hk s m args below hf hA hF happ hP
  obtain ⟨hcalls, hrest, hpre⟩ := hP
  obtain ⟨-, -, -, hnamed, -, -, -, hat⟩ := (Spec.applies_iff hf).mp happ
  obtain ⟨hg, hn⟩ := and_e (Cond.before_iff.mp (show (Jvm.Cond.and given_1 narrow_1).before args s = true from hpre))
  obtain ⟨hcnt, hg⟩ := and_e hg
  obtain ⟨w0, w1, rfl⟩ : ∃ w0 w1 : Value, args = #[w0, w1] := by
    have hs : args.size = 2 := by simpa [Cond.value, given_1] using hcnt
    obtain ⟨L⟩ := args
    match L, hs with
    | [w0, w1], _ => exact ⟨w0, w1, rfl⟩
  have hw := fun d (hd : d ∈ tables_1) => atoms_spec (ws := Jvm.Cond.code x code maxLocals ret :: tables_1) hat d (List.mem_cons_of_mem _ hd)
  obtain ⟨ha0, hg0⟩ := and_e hg
  obtain ⟨p1, ep1⟩ := is_v ha0
  obtain rfl : w0 = (.int p1) := Option.some.inj ep1
  obtain ⟨p2, ep2⟩ := is_v hg0
  obtain rfl : w1 = (.int p2) := Option.some.inj ep2
  obtain ⟨hn0, hm0⟩ := and_e hn
  obtain ⟨w_IS, S_IS, E_IS, ev_IS⟩ := own_sta hn0 (hw _ (List.mem_of_getElem? (i := 6) rfl)) (hw _ (List.mem_of_getElem? (i := 7) rfl))
  obtain ⟨hn1, hm1⟩ := and_e hm0
  obtain ⟨w_SIX, S_SIX, E_SIX, ev_SIX⟩ := own_sta hn1 (hw _ (List.mem_of_getElem? (i := 6) rfl)) (hw _ (List.mem_of_getElem? (i := 9) rfl))
  obtain ⟨hn2, hm2⟩ := and_e hm1
  have raw_2 := hn2
  obtain ⟨hn3, hm3⟩ := and_e hm2
  have raw_3 := hn3
  obtain ⟨hn4, hm4⟩ := and_e hm3
  have raw_4 := hn4
  obtain ⟨hn5, hm5⟩ := and_e hm4
  have O_IS_compatible_h := hn5
  obtain ⟨hn6, hm6⟩ := and_e hm5
  have O_SIX_compatible_h := hn6
  obtain ⟨hn7, hm7⟩ := and_e hm6
  obtain ⟨w_IX, S_IX, E_IX, ev_IX⟩ := own_sta hn7 (hw _ (List.mem_of_getElem? (i := 6) rfl)) (hw _ (List.mem_of_getElem? (i := 24) rfl))
  obtain ⟨hn8, hm8⟩ := and_e hm7
  have raw_8 := hn8
  obtain ⟨hn9, hm9⟩ := and_e hm8
  have O_IX_compatible_h := hn9
  obtain ⟨hn10, hm10⟩ := and_e hm9
  obtain ⟨w_S, S_S, E_S, ev_S⟩ := own_sta hn10 (hw _ (List.mem_of_getElem? (i := 6) rfl)) (hw _ (List.mem_of_getElem? (i := 25) rfl))
  obtain ⟨hn11, hm11⟩ := and_e hm10
  have raw_11 := hn11
  obtain ⟨hn12, hm12⟩ := and_e hm11
  have O_S_compatible_h := hn12
  obtain ⟨hn13, hm13⟩ := and_e hm12
  have raw_13 := hn13
  obtain ⟨hn14, hm14⟩ := and_e hm13
  have O_IS_ordinal_h := hn14
  obtain ⟨hn15, hm15⟩ := and_e hm14
  have O_SIX_ordinal_h := hn15
  obtain ⟨hn16, hm16⟩ := and_e hm15
  obtain ⟨w_X, S_X, E_X, ev_X⟩ := own_sta hn16 (hw _ (List.mem_of_getElem? (i := 6) rfl)) (hw _ (List.mem_of_getElem? (i := 30) rfl))
  obtain ⟨hn17, hm17⟩ := and_e hm16
  have O_X_compatible_h := hn17
  obtain ⟨hn18, hm18⟩ := and_e hm17
  have raw_18 := hn18
  obtain ⟨hn19, hm19⟩ := and_e hm18
  have O_X_ordinal_h := hn19
  obtain ⟨hn20, hm20⟩ := and_e hm19
  have O_IX_ordinal_h := hn20
  have O_S_ordinal_h := hm20
  have O_IS_compatible := own_ord O_IS_compatible_h ev_IS
  have O_SIX_compatible := own_ord O_SIX_compatible_h ev_SIX
  have O_IX_compatible := own_ord O_IX_compatible_h ev_IX
  have O_S_compatible := own_ord O_S_compatible_h ev_S
  have O_IS_ordinal := own_ord O_IS_ordinal_h ev_IS
  have O_SIX_ordinal := own_ord O_SIX_ordinal_h ev_SIX
  have O_X_compatible := own_ord O_X_compatible_h ev_X
  have O_X_ordinal := own_ord O_X_ordinal_h ev_X
  have O_IX_ordinal := own_ord O_IX_ordinal_h ev_IX
  have O_S_ordinal := own_ord O_S_ordinal_h ev_S
  obtain ⟨w_WF, cWF, ev_WF, A_WF⟩ := own_arrOf raw_2
  have S_WF : Sta s s.heap "com/example/wombat/wombat/LockMode" "WEAKEST_FIRST" "[Lcom/example/wombat/wombat/LockMode;" (.ref w_WF) := Sta.start ev_WF (Or.inr ⟨(hw _ (List.mem_of_getElem? (i := 6) rfl)), (hw _ (List.mem_of_getElem? (i := 16) rfl))⟩)
  obtain ⟨lt_WF, sz_WF⟩ := own_arrLen A_WF ev_WF raw_3
  have hfit : Fit s := fun {y c} hc i hi => by
    obtain ⟨ha, rfl⟩ := Array.getElem?_eq_some_iff.mp hc
    have q := List.all_eq_true.mp ((Array.all_eq_true_iff_forall_mem.mp hF) _ (Array.getElem_mem ha)) i (List.mem_range.mpr hi)
    simpa [Array.getElem?_eq_getElem hi] using q
  have V_WF : Arv s s.heap w_WF cWF.cls (FieldType.object "com/example/wombat/wombat/LockMode") 5 [(.ref w_IS), (.ref w_IX), (.ref w_S), (.ref w_SIX), (.ref w_X)] .null := Arv.start hfit A_WF lt_WF sz_WF (by decide) rfl ⟨own_arrElem A_WF ev_WF ev_IS (by decide) raw_4, own_arrElem A_WF ev_WF ev_IX (by decide) raw_8, own_arrElem A_WF ev_WF ev_S (by decide) raw_11, own_arrElem A_WF ev_WF ev_SIX (by decide) raw_13, own_arrElem A_WF ev_WF ev_X (by decide) raw_18, trivial⟩
  obtain ⟨n, o, h1, h2, h3, _, L, rfl, ⟨rfl, N⟩, hq⟩ := rm_law l s _ hw p1 p2 w_IS w_SIX w_IX w_S w_X w_WF cWF.cls s.heap s.heap.size (Nat.le_refl _) S_IS E_IS S_SIX E_SIX S_IX E_IX S_S E_S S_X E_X O_IS_compatible O_SIX_compatible O_IX_compatible O_S_compatible O_X_compatible (own_ne O_IS_compatible O_SIX_compatible (by decide)) (own_ne O_IS_compatible O_IX_compatible (by decide)) (own_ne O_IS_compatible O_S_compatible (by decide)) (own_ne O_IS_compatible O_X_compatible (by decide)) (own_ne O_SIX_compatible O_IX_compatible (by decide)) (own_ne O_SIX_compatible O_S_compatible (by decide)) (own_ne O_SIX_compatible O_X_compatible (by decide)) (own_ne O_IX_compatible O_S_compatible (by decide)) (own_ne O_IX_compatible O_X_compatible (by decide)) (own_ne O_S_compatible O_X_compatible (by decide)) (own_ne O_X_ordinal O_IX_ordinal (by decide)) (own_ne O_X_ordinal O_S_ordinal (by decide)) S_WF V_WF p e ha hc hk s m _ below hf ((Spec.applies_iff_loose hf).mp happ).1 ⟨rfl, State.Warmed39.refl s, rfl⟩ trivial
  refine ⟨n, _, h1, h2, h3, hpost _ _ _ _ _ _ ⟨Cond.after_iff.mpr rfl, Cond.after_iff.mpr (eq_i res_at (Term.int_eval (1)) rfl), trivial⟩ ⟨hq.1, hq.2.1, (hq.2.2.sift fun y hy => Or.inr (N y hy)).mono (by decide) (by decide)⟩⟩
theorem main_1_1 : Claimed_1_1 := comes_1 fun _ _ _ _ _ _ h hF => ⟨h.1, hF⟩
theorem main_1_2 : Claimed_1_2 := comes_1 fun _ _ _ _ _ _ h hF => ⟨h.2.1, hF⟩
end Jvm.Pilot.@@N@@
namespace Jvm.Pilot.@@N@@
open Jvm Jvm.ClassFile Sem Op Lib Jvm.Free Jvm.Stand Jvm.Pilot.@@N@@.Jvm.D
/-! MADE BY PROGRAM (witnessworld.py) out of the Statement's table words and the real class files: 13 classes; the members and pool entries that the words name. The judged class is class 1, her method 3. -/
namespace start1
open Jvm.ClassFile
def u (s : String) : CpInfo := .utf8 (stringToUtf16 s)
/-- a pool by its gaps: so many unusable entries, then the entry; so many at the end -/
def gap : Nat → List CpInfo → List CpInfo
  | 0, r => r
  | n + 1, r => .unusable :: gap n r
def poolList (es : List (Nat × CpInfo)) (last : Nat) : List CpInfo := es.foldr (fun e r => gap e.1 (e.2 :: r)) (gap last [])
def pool (es : List (Nat × CpInfo)) (last : Nat) : Array CpInfo := ⟨poolList es last⟩
def fileOf (pool : Array CpInfo) (this : Nat) (attrs : Array Attribute := #[]) (ms : Array MethodInfo := #[]) (fl : Nat := 33) (sup : Nat := 0) (ifs : Array Nat := #[]) (fds : Array FieldInfo := #[]) : ClassFile where
  minorVersion := 0
  majorVersion := 65
  constantPool := pool
  accessFlags := fl
  thisClass := this
  superClass := sup
  interfaces := ifs
  fields := fds
  methods := ms
  attributes := attrs
def plain (name : String) (sup : Option ClassId) : Class where
  name := name
  kind := .ordinary
  loader := none
  accessFlags := 33
  super := sup
  interfaces := #[]
  cf := none
  fields := #[]
  methods := #[]
  instanceTypes := #[]
  staticTypes := #[]
  resolved := #[]
  callSites := []
  init := .initialized
  statics := none
  mirror := none

def pool0 : Array CpInfo := pool [(5, u "<init>"), (0, u "()V"), (1, .class_ 10), (1, u "java/lang/Object")] 113

def k0m0 : Method := { name := "<init>", desc := "()V", sig := { parameters := [], returnType := none }, accessFlags := 1, code := none }
/-- java/lang/Object -/
def k0 : Class := { plain "java/lang/Object" none with
  accessFlags := 33
  interfaces := #[]
  cf := some (fileOf pool0 8 #[] #[{ accessFlags := 1, nameIndex := 5, descriptorIndex := 6, attributes := #[] }] 33 0 #[] #[])
  fields := #[]
  methods := #[k0m0]
  instanceTypes := #[]
  staticTypes := #[]
  resolved := Array.replicate 124 none
  statics := none }

def pool1 : Array CpInfo := pool [(2, .class_ 4), (1, u "java/lang/Object"), (0, u "<init>"), (0, u "()V"), (0, .fieldref 8 9), (0, .class_ 10), (0, .nameAndType 11 12), (0, u "com/example/wombat/wombat/LockMode"), (0, u "IS"), (0, u "Lcom/example/wombat/wombat/LockMode;"), (0, .fieldref 8 14), (0, .nameAndType 15 12), (0, u "IX"), (0, .fieldref 8 17), (0, .nameAndType 18 12), (0, u "S"), (0, .fieldref 8 20), (0, .nameAndType 21 12), (0, u "SIX"), (0, .fieldref 8 23), (0, .nameAndType 24 12), (0, u "X"), (0, .integer 2147483647), (0, .methodref 27 28), (0, .class_ 29), (0, .nameAndType 30 31), (0, u "com/example/wombat/wombat/LockModeCombinedWithPinLaw"), (0, u "pick"), (0, u "(I)Lcom/example/wombat/wombat/LockMode;"), (0, .methodref 8 33), (0, .nameAndType 34 35), (0, u "combinedWith"), (0, u "(Lcom/example/wombat/wombat/LockMode;)Lcom/example/wombat/wombat/LockMode;"), (0, .methodref 27 37), (0, .nameAndType 38 39), (0, u "expected"), (0, u "(Lcom/example/wombat/wombat/LockMode;Lcom/example/wombat/wombat/LockMode;)Lcom/example/wombat/wombat/LockMode;"), (3, u "law"), (0, u "(II)Z")] 2

def k1m0 : Method := { name := "<init>", desc := "()V", sig := { parameters := [], returnType := none }, accessFlags := 2, code := none }
def k1c1 : Code := { maxStack := 2, maxLocals := 1, code := method_2_code, exceptionTable := #[], attributes := #[] }
def k1m1 : Method := { name := "pick", desc := "(I)Lcom/example/wombat/wombat/LockMode;", sig := { parameters := [.int], returnType := some (.object "com/example/wombat/wombat/LockMode") }, accessFlags := 10, code := some k1c1 }
def k1c2 : Code := { maxStack := 2, maxLocals := 2, code := method_3_code, exceptionTable := #[], attributes := #[] }
def k1m2 : Method := { name := "expected", desc := "(Lcom/example/wombat/wombat/LockMode;Lcom/example/wombat/wombat/LockMode;)Lcom/example/wombat/wombat/LockMode;", sig := { parameters := [(.object "com/example/wombat/wombat/LockMode"), (.object "com/example/wombat/wombat/LockMode")], returnType := some (.object "com/example/wombat/wombat/LockMode") }, accessFlags := 10, code := some k1c2 }
def k1c3 : Code := { maxStack := 3, maxLocals := 5, code := code, exceptionTable := #[], attributes := #[] }
def k1m3 : Method := { name := "law", desc := "(II)Z", sig := { parameters := [.int, .int], returnType := some .boolean }, accessFlags := 9, code := some k1c3 }
/-- com/example/wombat/wombat/LockModeCombinedWithPinLaw -/
def k1 : Class := { plain "com/example/wombat/wombat/LockModeCombinedWithPinLaw" (some 0) with
  accessFlags := 49
  interfaces := #[]
  cf := some (fileOf pool1 27 #[] #[{ accessFlags := 2, nameIndex := 5, descriptorIndex := 6, attributes := #[] }, { accessFlags := 10, nameIndex := 30, descriptorIndex := 31, attributes := #[] }, { accessFlags := 10, nameIndex := 38, descriptorIndex := 39, attributes := #[] }, { accessFlags := 9, nameIndex := 43, descriptorIndex := 44, attributes := #[] }] 49 2 #[] #[])
  fields := #[]
  methods := #[k1m0, k1m1, k1m2, k1m3]
  instanceTypes := #[]
  staticTypes := #[]
  resolved := Array.replicate 47 none
  statics := none }

def pool2 : Array CpInfo := pool [(1, .class_ 2), (0, u "java/lang/constant/Constable"), (0, .class_ 4), (0, u "java/lang/Object")] 6

/-- java/lang/constant/Constable -/
def k2 : Class := { plain "java/lang/constant/Constable" (some 0) with
  accessFlags := 1537
  interfaces := #[]
  cf := some (fileOf pool2 1 #[] #[] 1537 3 #[] #[])
  fields := #[]
  methods := #[]
  instanceTypes := #[]
  staticTypes := #[]
  resolved := Array.replicate 11 none
  statics := none }

def pool3 : Array CpInfo := pool [(1, .class_ 2), (0, u "java/lang/Comparable"), (0, .class_ 4), (0, u "java/lang/Object")] 7

/-- java/lang/Comparable -/
def k3 : Class := { plain "java/lang/Comparable" (some 0) with
  accessFlags := 1537
  interfaces := #[]
  cf := some (fileOf pool3 1 #[] #[] 1537 3 #[] #[])
  fields := #[]
  methods := #[]
  instanceTypes := #[]
  staticTypes := #[]
  resolved := Array.replicate 12 none
  statics := none }

def pool4 : Array CpInfo := pool [(1, .class_ 2), (0, u "java/io/Serializable"), (0, .class_ 4), (0, u "java/lang/Object")] 2

/-- java/io/Serializable -/
def k4 : Class := { plain "java/io/Serializable" (some 0) with
  accessFlags := 1537
  interfaces := #[]
  cf := some (fileOf pool4 1 #[] #[] 1537 3 #[] #[])
  fields := #[]
  methods := #[]
  instanceTypes := #[]
  staticTypes := #[]
  resolved := Array.replicate 7 none
  statics := none }

def pool5 : Array CpInfo := pool [(2, .class_ 4), (1, u "java/lang/Enum"), (0, u "name"), (0, u "Ljava/lang/String;"), (2, u "ordinal"), (0, u "I"), (1, .class_ 14), (1, u "java/lang/Object"), (4, u "hash"), (86, .class_ 108), (1, u "java/lang/Enum$EnumDesc"), (2, .class_ 112), (0, u "java/lang/constant/Constable"), (0, .class_ 114), (0, u "java/lang/Comparable"), (0, .class_ 116), (0, u "java/io/Serializable")] 87

/-- java/lang/Enum -/
def k5 : Class := { plain "java/lang/Enum" (some 0) with
  accessFlags := 1057
  interfaces := #[2, 3, 4]
  cf := some (fileOf pool5 2 #[.nestMembers #[106]] #[] 1057 12 #[111, 113, 115] #[{ accessFlags := 18, nameIndex := 5, descriptorIndex := 6, attributes := #[] }, { accessFlags := 18, nameIndex := 9, descriptorIndex := 10, attributes := #[] }, { accessFlags := 2, nameIndex := 19, descriptorIndex := 10, attributes := #[] }])
  fields := #[{ name := "name", type := (.object "java/lang/String"), accessFlags := 18, slot := 0, constantValue := 0 }, { name := "ordinal", type := .int, accessFlags := 18, slot := 1, constantValue := 0 }, { name := "hash", type := .int, accessFlags := 2, slot := 2, constantValue := 0 }]
  methods := #[]
  instanceTypes := #[(.object "java/lang/String"), .int, .int]
  staticTypes := #[]
  resolved := Array.replicate 204 none
  statics := none }

def pool6 : Array CpInfo := pool [(1, .class_ 2), (0, u "com/example/wombat/wombat/LockMode"), (2, u "IS"), (0, u "Lcom/example/wombat/wombat/LockMode;"), (2, u "IX"), (2, u "S"), (2, u "SIX"), (2, u "X"), (2, u "$VALUES"), (0, u "[Lcom/example/wombat/wombat/LockMode;"), (6, .class_ 31), (1, u "java/lang/Enum"), (16, .fieldref 1 49), (0, .nameAndType 50 51), (0, u "compatible"), (0, u "I"), (7, .fieldref 1 60), (0, .nameAndType 61 22), (0, u "WEAKEST_FIRST"), (0, .methodref 1 63), (0, .nameAndType 64 65), (0, u "covers"), (0, u "(Lcom/example/wombat/wombat/LockMode;)Z"), (31, u "RS"), (2, u "RX"), (2, u "SRX"), (5, u "ALL"), (9, u "combinedWith"), (0, u "(Lcom/example/wombat/wombat/LockMode;)Lcom/example/wombat/wombat/LockMode;")] 10

def k6c0 : Code := { maxStack := 3, maxLocals := 2, code := prog_9_method_7_code, exceptionTable := #[], attributes := #[] }
def k6m0 : Method := { name := "covers", desc := "(Lcom/example/wombat/wombat/LockMode;)Z", sig := { parameters := [(.object "com/example/wombat/wombat/LockMode")], returnType := some .boolean }, accessFlags := 0, code := some k6c0 }
def k6c1 : Code := { maxStack := 3, maxLocals := 6, code := prog_9_method_8_code, exceptionTable := #[], attributes := #[] }
def k6m1 : Method := { name := "combinedWith", desc := "(Lcom/example/wombat/wombat/LockMode;)Lcom/example/wombat/wombat/LockMode;", sig := { parameters := [(.object "com/example/wombat/wombat/LockMode")], returnType := some (.object "com/example/wombat/wombat/LockMode") }, accessFlags := 0, code := some k6c1 }
/-- com/example/wombat/wombat/LockMode -/
def k6 : Class := { plain "com/example/wombat/wombat/LockMode" (some 5) with
  accessFlags := 16433
  interfaces := #[]
  cf := some (fileOf pool6 1 #[] #[{ accessFlags := 0, nameIndex := 64, descriptorIndex := 65, attributes := #[] }, { accessFlags := 0, nameIndex := 119, descriptorIndex := 120, attributes := #[] }] 16433 29 #[] #[{ accessFlags := 16409, nameIndex := 5, descriptorIndex := 6, attributes := #[] }, { accessFlags := 16409, nameIndex := 9, descriptorIndex := 6, attributes := #[] }, { accessFlags := 16409, nameIndex := 12, descriptorIndex := 6, attributes := #[] }, { accessFlags := 16409, nameIndex := 15, descriptorIndex := 6, attributes := #[] }, { accessFlags := 16409, nameIndex := 18, descriptorIndex := 6, attributes := #[] }, { accessFlags := 25, nameIndex := 97, descriptorIndex := 6, attributes := #[] }, { accessFlags := 25, nameIndex := 100, descriptorIndex := 6, attributes := #[] }, { accessFlags := 25, nameIndex := 103, descriptorIndex := 6, attributes := #[] }, { accessFlags := 26, nameIndex := 61, descriptorIndex := 22, attributes := #[] }, { accessFlags := 24, nameIndex := 109, descriptorIndex := 51, attributes := #[] }, { accessFlags := 18, nameIndex := 50, descriptorIndex := 51, attributes := #[] }, { accessFlags := 4122, nameIndex := 21, descriptorIndex := 22, attributes := #[] }])
  fields := #[{ name := "IS", type := (.object "com/example/wombat/wombat/LockMode"), accessFlags := 16409, slot := 0, constantValue := 0 }, { name := "IX", type := (.object "com/example/wombat/wombat/LockMode"), accessFlags := 16409, slot := 1, constantValue := 0 }, { name := "S", type := (.object "com/example/wombat/wombat/LockMode"), accessFlags := 16409, slot := 2, constantValue := 0 }, { name := "SIX", type := (.object "com/example/wombat/wombat/LockMode"), accessFlags := 16409, slot := 3, constantValue := 0 }, { name := "X", type := (.object "com/example/wombat/wombat/LockMode"), accessFlags := 16409, slot := 4, constantValue := 0 }, { name := "RS", type := (.object "com/example/wombat/wombat/LockMode"), accessFlags := 25, slot := 5, constantValue := 0 }, { name := "RX", type := (.object "com/example/wombat/wombat/LockMode"), accessFlags := 25, slot := 6, constantValue := 0 }, { name := "SRX", type := (.object "com/example/wombat/wombat/LockMode"), accessFlags := 25, slot := 7, constantValue := 0 }, { name := "WEAKEST_FIRST", type := (.array (.object "com/example/wombat/wombat/LockMode")), accessFlags := 26, slot := 8, constantValue := 0 }, { name := "ALL", type := .int, accessFlags := 24, slot := 9, constantValue := 0 }, { name := "compatible", type := .int, accessFlags := 18, slot := 3, constantValue := 0 }, { name := "$VALUES", type := (.array (.object "com/example/wombat/wombat/LockMode")), accessFlags := 4122, slot := 10, constantValue := 0 }]
  methods := #[k6m0, k6m1]
  instanceTypes := #[(.object "java/lang/String"), .int, .int, .int]
  staticTypes := #[(.object "com/example/wombat/wombat/LockMode"), (.object "com/example/wombat/wombat/LockMode"), (.object "com/example/wombat/wombat/LockMode"), (.object "com/example/wombat/wombat/LockMode"), (.object "com/example/wombat/wombat/LockMode"), (.object "com/example/wombat/wombat/LockMode"), (.object "com/example/wombat/wombat/LockMode"), (.object "com/example/wombat/wombat/LockMode"), (.array (.object "com/example/wombat/wombat/LockMode")), .int, (.array (.object "com/example/wombat/wombat/LockMode"))]
  resolved := Array.replicate 131 none
  statics := some 0 }

def pool7 : Array CpInfo := pool [(1, u "java/lang/Cloneable"), (0, .class_ 1), (0, u "java/lang/Object"), (0, .class_ 3)] 3

/-- java/lang/Cloneable -/
def k7 : Class := { plain "java/lang/Cloneable" (some 0) with
  accessFlags := 1537
  interfaces := #[]
  cf := some (fileOf pool7 2 #[] #[] 1537 4 #[] #[])
  fields := #[]
  methods := #[]
  instanceTypes := #[]
  staticTypes := #[]
  resolved := Array.replicate 8 none
  statics := none }

/-- the primitive byte -/
def k8 : Class := { plain "byte" none with kind := .primitive 'B', accessFlags := 0x411 }
/-- [B -/
def k9 : Class := { plain "[B" (some 0) with kind := .array 8 .byte, interfaces := #[7, 4], accessFlags := 1041 }

/-- the primitive int -/
def k10 : Class := { plain "int" none with kind := .primitive 'I', accessFlags := 0x411 }
/-- [I -/
def k11 : Class := { plain "[I" (some 0) with kind := .array 10 .int, interfaces := #[7, 4], accessFlags := 1041 }

/-- [Lcom/example/wombat/wombat/LockMode; -/
def k12 : Class := { plain "[Lcom/example/wombat/wombat/LockMode;" (some 0) with kind := .array 6 (.object "com/example/wombat/wombat/LockMode"), interfaces := #[7, 4], accessFlags := 1041 }

def heap : Heap := #[{ cls := 6, slots := #[.ref 2, .ref 4, .ref 5, .ref 3, .ref 6, .null, .null, .null, .ref 1, .int 0, .null], vm := .statics 6 },
  { cls := 12, slots := #[.ref 2, .ref 4, .ref 5, .ref 3, .ref 6], vm := .none },
  { cls := 6, slots := #[.null, .int 0, .int 0, .int 15], vm := .none },
  { cls := 6, slots := #[.null, .int 3, .int 0, .int 1], vm := .none },
  { cls := 6, slots := #[.null, .int 1, .int 0, .int 3], vm := .none },
  { cls := 6, slots := #[.null, .int 2, .int 0, .int 5], vm := .none },
  { cls := 6, slots := #[.null, .int 4, .int 0, .int 0], vm := .none }]
def classes : Array Class := #[k0, k1, k2, k3, k4, k5, k6, k7, k8, k9, k10, k11, k12]
def interned : List (Array UInt16 × Addr) := []
def slotsUsed : Nat := 36
def theMethod : MethodId := ⟨1, 3⟩
def args0 : Array Value := #[.int 5, .int 1]
def aboutOver (below : List Frame) : State where
  vm := { classes := classes, interned := interned.toArray }
  heap := heap
  slotsUsed := slotsUsed
  threads := #[{ frames := .invoking theMethod args0 :: below }]
def below0 : List Frame := [.native { method := ⟨0, 0⟩, args := #[] }]
def about1 : State := aboutOver below0
def p0 : Program := .bare "" "" ""
def e0 : Env := launch0.env 0 0 0
theorem w_frames : about1.frames = Frame.invoking theMethod args0 :: below0 := rfl
set_option maxRecDepth 65536 in
theorem w_args : argsFit about1.vm theMethod args0 = true := by decide +kernel
set_option maxRecDepth 65536 in
theorem w_heap : heapFits about1 = true := by decide +kernel
set_option maxRecDepth 65536 in
theorem w_runnable : about1.curStatus? = some .runnable := by decide +kernel
set_option maxRecDepth 65536 in
theorem w_alone : about1.alone = true := by decide +kernel
set_option maxRecDepth 65536 in
theorem w_named : about1.methodNamed? x = some theMethod := by decide +kernel
set_option maxRecDepth 65536 in
theorem w_hears : about1.hears theMethod below0 = true := by decide +kernel
set_option maxRecDepth 65536 in
theorem w_ripe : about1.ripe theMethod args0 below0 = true := by decide +kernel
theorem w_running : about1.status = .running := rfl
set_option maxRecDepth 65536 in
theorem w_room : about1.hasRoom e0.platform room_1 = true :=
  launch0.hasRoom_least _ room_1 (by decide +kernel) (by decide +kernel) (by decide +kernel) (by decide +kernel) (by decide +kernel) (by decide +kernel)
theorem allAtoms_all (ts : List Jvm.Cond) (a : Array Jvm.Value) (st : Jvm.State) : (allAtoms ts).before a st = ts.all (fun c => c.before a st) := by
  induction ts with
  | nil => rfl
  | cons c t ih =>
    show (Jvm.Cond.and c (allAtoms t)).before a st = _
    rw [Jvm.Cond.before_and, ih, List.all_cons]
def words1 : List Jvm.Cond := Jvm.Cond.code x code maxLocals ret :: tables_1
/-- a 'code' word, met by the world's own term for the bytes: nothing is compared byte by byte -/
theorem code_word {y : MethodName} {bytes : ByteArray} {mx : Nat} {rt : Option FieldType} {a : Array Value} {s : State} {m : MethodId} {meth : Method} {c : Code} (h1 : s.methodNamed? y = some m) (h2 : s.vm.method? m = some meth) (h3 : meth.code = some c) (h4 : c.code = bytes)
    (h5 : (c.maxLocals == mx && c.exceptionTable.isEmpty && decide (c.maxStack ≤ mostOperands) && decide (meth.sig.returnType = rt) && !meth.locks && decide (parseMethodDescriptor y.desc = some meth.sig)) = true) : (Jvm.Cond.code y bytes mx rt).before a s = true := by
  simp only [Bool.and_eq_true, beq_iff_eq, Bool.not_eq_true', decide_eq_true_eq] at h5
  obtain ⟨⟨⟨⟨⟨g1, g2⟩, g3⟩, g4⟩, g5⟩, g6⟩ := h5
  simp [Cond.before, Cond.holds, Cond.value, h1, h2, h3, h4, g1, g2, g3, g4, g5, g6]
def isCode : Jvm.Cond → Bool
  | .code _ _ _ _ => true
  | _ => false
theorem all_split {L : List Jvm.Cond} {P : Jvm.Cond → Bool} (h1 : L.all (fun c => isCode c || P c) = true) (h2 : ∀ c ∈ L.filter isCode, P c = true) : L.all P = true := by
  refine List.all_eq_true.mpr fun c hc => ?_
  have h := List.all_eq_true.mp h1 c hc
  rcases Bool.eq_false_or_eq_true (isCode c) with hi | hi
  · exact h2 c (List.mem_filter.mpr ⟨hc, hi⟩)
  · simpa [hi] using h
set_option maxRecDepth 65536 in
theorem w_c0 : (Jvm.Cond.code x code maxLocals ret).before args0 about1 = true := code_word (m := ⟨1, 3⟩) (meth := k1m3) (c := k1c3) (by decide +kernel) rfl rfl rfl (by decide +kernel)
set_option maxRecDepth 65536 in
theorem w_c1 : (Jvm.Cond.code ({ cls := "com/example/wombat/wombat/LockModeCombinedWithPinLaw", name := "pick", desc := "(I)Lcom/example/wombat/wombat/LockMode;" } : Jvm.MethodName) method_2_code (1 : Nat) (Option.some (Jvm.ClassFile.FieldType.object "com/example/wombat/wombat/LockMode"))).before args0 about1 = true := code_word (m := ⟨1, 1⟩) (meth := k1m1) (c := k1c1) (by decide +kernel) rfl rfl rfl (by decide +kernel)
set_option maxRecDepth 65536 in
theorem w_c2 : (Jvm.Cond.code ({ cls := "com/example/wombat/wombat/LockMode", name := "combinedWith", desc := "(Lcom/example/wombat/wombat/LockMode;)Lcom/example/wombat/wombat/LockMode;" } : Jvm.MethodName) prog_9_method_8_code (6 : Nat) (Option.some (Jvm.ClassFile.FieldType.object "com/example/wombat/wombat/LockMode"))).before args0 about1 = true := code_word (m := ⟨6, 1⟩) (meth := k6m1) (c := k6c1) (by decide +kernel) rfl rfl rfl (by decide +kernel)
set_option maxRecDepth 65536 in
theorem w_c3 : (Jvm.Cond.code ({ cls := "com/example/wombat/wombat/LockMode", name := "covers", desc := "(Lcom/example/wombat/wombat/LockMode;)Z" } : Jvm.MethodName) prog_9_method_7_code (2 : Nat) (Option.some Jvm.ClassFile.FieldType.boolean)).before args0 about1 = true := code_word (m := ⟨6, 0⟩) (meth := k6m0) (c := k6c0) (by decide +kernel) rfl rfl rfl (by decide +kernel)
set_option maxRecDepth 65536 in
theorem w_c4 : (Jvm.Cond.code ({ cls := "com/example/wombat/wombat/LockModeCombinedWithPinLaw", name := "expected", desc := "(Lcom/example/wombat/wombat/LockMode;Lcom/example/wombat/wombat/LockMode;)Lcom/example/wombat/wombat/LockMode;" } : Jvm.MethodName) method_3_code (2 : Nat) (Option.some (Jvm.ClassFile.FieldType.object "com/example/wombat/wombat/LockMode"))).before args0 about1 = true := code_word (m := ⟨1, 2⟩) (meth := k1m2) (c := k1c2) (by decide +kernel) rfl rfl rfl (by decide +kernel)
def codes1 : List Jvm.Cond := [Jvm.Cond.code x code maxLocals ret, Jvm.Cond.code ({ cls := "com/example/wombat/wombat/LockModeCombinedWithPinLaw", name := "pick", desc := "(I)Lcom/example/wombat/wombat/LockMode;" } : Jvm.MethodName) method_2_code (1 : Nat) (Option.some (Jvm.ClassFile.FieldType.object "com/example/wombat/wombat/LockMode")), Jvm.Cond.code ({ cls := "com/example/wombat/wombat/LockMode", name := "combinedWith", desc := "(Lcom/example/wombat/wombat/LockMode;)Lcom/example/wombat/wombat/LockMode;" } : Jvm.MethodName) prog_9_method_8_code (6 : Nat) (Option.some (Jvm.ClassFile.FieldType.object "com/example/wombat/wombat/LockMode")), Jvm.Cond.code ({ cls := "com/example/wombat/wombat/LockMode", name := "covers", desc := "(Lcom/example/wombat/wombat/LockMode;)Z" } : Jvm.MethodName) prog_9_method_7_code (2 : Nat) (Option.some Jvm.ClassFile.FieldType.boolean), Jvm.Cond.code ({ cls := "com/example/wombat/wombat/LockModeCombinedWithPinLaw", name := "expected", desc := "(Lcom/example/wombat/wombat/LockMode;Lcom/example/wombat/wombat/LockMode;)Lcom/example/wombat/wombat/LockMode;" } : Jvm.MethodName) method_3_code (2 : Nat) (Option.some (Jvm.ClassFile.FieldType.object "com/example/wombat/wombat/LockMode"))]
set_option maxRecDepth 65536 in
theorem codes_eq : words1.filter isCode = codes1 := rfl
theorem w_codes : ∀ c ∈ words1.filter isCode, c.before args0 about1 = true := by
  rw [codes_eq]
  intro c hc
  simp only [codes1, List.mem_cons, List.not_mem_nil, or_false] at hc
  rcases hc with rfl | rfl | rfl | rfl | rfl
  · exact w_c0
  · exact w_c1
  · exact w_c2
  · exact w_c3
  · exact w_c4
set_option maxRecDepth 65536 in
theorem w_t1 : (words1.take 24).all (fun c => isCode c || c.before args0 about1) = true := by decide +kernel
set_option maxRecDepth 65536 in
theorem w_t2 : (words1.drop 24).all (fun c => isCode c || c.before args0 about1) = true := by decide +kernel
theorem w_tables : (allAtoms (Jvm.Cond.code x code maxLocals ret :: tables_1)).before args0 about1 = true := by
  rw [allAtoms_all]
  show words1.all (fun c => c.before args0 about1) = true
  refine all_split ?_ w_codes
  rw [← List.take_append_drop 24 words1, List.all_append, w_t1, w_t2]
  rfl
set_option maxRecDepth 65536 in
theorem w_case : (Jvm.Cond.and given_1 narrow_1).before args0 about1 = true := by decide +kernel
theorem w_applies : (headSpec (Jvm.Cond.code x code maxLocals ret :: tables_1) room_1).applies x e0.platform about1 = true :=
  (Spec.applies_iff w_frames).mpr ⟨w_running, w_runnable, w_alone, w_named, w_hears, w_ripe, w_room, w_tables⟩
theorem atStart : AtStart classFile x code maxLocals ret World_1 tables_1 room_1 Calls_1 rest_1 Pre_1 launch0 p0 e0 about1 theMethod args0 below0 :=
  ⟨lists_1, trivial, launch0.admits_env _ _ _, launch0.least_env, fairChoices_fair.cas, fairChoices_fair.clock, w_frames, w_args, w_heap, w_applies, trivial, trivial, w_case⟩
end start1
theorem witness_1 : WitnessClaimed_1 := ⟨start1.p0, start1.e0, start1.about1, start1.theMethod, start1.args0, start1.below0, start1.atStart⟩
end Jvm.Pilot.@@N@@
