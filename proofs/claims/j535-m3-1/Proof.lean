import JvmDerived
import JvmDerived.Pilot.@@N@@Statement
import JvmDerived.Pilot.@@N@@Code
set_option linter.unusedVariables false
set_option linter.unusedSimpArgs false
namespace Jvm.Pilot.@@N@@
open Jvm Jvm.ClassFile Sem Op Lib Jvm.Free Jvm.Stand Jvm.LawKit Jvm.RoadKit Bundle Jvm.Pilot.@@N@@.Jvm.D
section Own
variable {p : Program} {l : Launch} {e : Env} {R : Room} {s : State} {m : MethodId} {args : Array Value} {below : List Frame} {meth : Method} {c : Code} {T : State} {locs : List Loc} {cells slots : Nat}
/-- from U the run comes back to 'below' and its end is as P says -/
def Go (p : Program) (e : Env) (below : List Frame) (U : State) (P : Outcome → State → Prop) : Prop := ∃ s₂ o, Steps p.tables e below U s₂ ∧ s₂.status = .running ∧ Ended s₂ below o ∧ P o s₂
theorem Go.mp {U U' : State} {P : Outcome → State → Prop} (h : ∀ t, Steps p.tables e below U' t → Steps p.tables e below U t) (k : Go p e below U' P) : Go p e below U P := by
  obtain ⟨a, b, c, d⟩ := k; exact ⟨a, b, h _ c, d⟩
/-- how a body ends -/
def FinE (s : State) (kc ks : Nat) (Q : Option Value → Heap → List Loc → Prop) (o : Outcome) (t : State) : Prop := ∃ v L, o = .returned v ∧ Q v t.heap L ∧ FrameEnd s o t L kc ks
/-- a body's contract -/
abbrev Ctr (l : Launch) (y : MethodName) (bytes : ByteArray) (maxL : Nat) (ret : Option FieldType) (ws : List Jvm.Cond) (rm : Room) (Z : State) (as' : Array Value) (h : Heap) (Q : Option Value → Heap → List Loc → Prop) : Prop :=
  MetFree l y (head1 (Jvm.Cond.code y bytes maxL ret :: ws) rm) (fun a U => a = as' ∧ Z.Warmed39 U.vm ∧ U.heap = h) (fun _ _ _ _ _ => True) (fun _ U o U' => ∃ v L, o = .returned v ∧ Q v U'.heap L ∧ FrameEnd U o U' L rm.cells rm.slots)
theorem own_enter {y : MethodName} {bytes : ByteArray} {maxL : Nat} {ret : Option FieldType} {ws : List Jvm.Cond} {rm : Room} {Z : State} {as' : Array Value} {h : Heap} {Q : Option Value → Heap → List Loc → Prop} (hpn : plainName y.cls = true)
    (body : ∀ (p : Program) (e : Env) (s : State) (m : MethodId) (below : List Frame) (meth : Method) (c : Code) (s₁ : State), p.tables.exec = Jvm.exec → c.code = bytes → c.maxLocals = maxL → s.vm.findClass y.cls = some m.cls → meth.name = y.name → meth.sig.returnType = ret → meth.locks = false → Z.Warmed39 s.vm → Stand p l e rm s m as' below meth c s₁ [] 0 0 → s₁.heap = h →
      Go p e below (s₁.setTop (entryFrame m as' maxL)) (FinE s rm.cells rm.slots Q)) : Ctr l y bytes maxL ret ws rm Z as' h Q := by
  refine MetFree.of_bodySF (plainFor_of_name hpn) hisR ?_
  intro p e s m args below meth c s₁ Bd hml0 hP hK
  obtain ⟨rfl, hZ, hh⟩ := hP
  exact body p e s m below meth c s₁ Bd.exec Bd.bytes hml0 (findClass_of_methodNamed Bd.named) (name_of_methodNamed Bd.named Bd.method).1 Bd.returns Bd.notSynchronized hZ (Stand.of_body Bd) (by rw [← hh, Bd.state]; rfl)
theorem own_retN (X : Stand p l e R s m args below meth c T locs cells slots) (hx : p.tables.exec = Jvm.exec) {t : FieldType} (hret : meth.sig.returnType = some t) (hlk : meth.locks = false) (ht : t = .boolean ∨ t = .byte ∨ t = .char ∨ t = .short) {kc ks : Nat} {Q : Option Value → Heap → List Loc → Prop} {pc : Nat} {Ls : Array Slot} {z : Int32} {rest : List Value}
    (hd : decode c.code pc = .ok (.ireturn, 1)) (hk : cells ≤ kc) (hn : slots ≤ ks) (hq : Q (some (.int (nar t z))) T.heap locs) : Go p e below (T.setTop (mkF m pc Ls (.int z :: rest))) (FinE s kc ks Q) := by
  obtain ⟨fs, hr, hrun, hended, hW, hsame⟩ := X.leave (v := some (.int (nar t z))) (fun h => by rw [hret] at h; cases h) hlk
  exact ⟨_, _, retN X hx hret ht hd hr, hrun, hended, _, _, rfl, hq, ⟨_, rfl⟩, hW, hsame.mono hk hn⟩
theorem own_retZ (X : Stand p l e R s m args below meth c T locs cells slots) (hx : p.tables.exec = Jvm.exec) (hret : meth.sig.returnType = some .boolean) (hlk : meth.locks = false) {kc ks : Nat} {Q : Option Value → Heap → List Loc → Prop} {pc : Nat} {Ls : Array Slot} {z : Int32} {rest : List Value}
    (hd : decode c.code pc = .ok (.ireturn, 1)) (hk : cells ≤ kc) (hn : slots ≤ ks) (hz : z &&& 1 = z) (hq : Q (some (.int z)) T.heap locs) : Go p e below (T.setTop (mkF m pc Ls (.int z :: rest))) (FinE s kc ks Q) :=
  own_retN X hx hret hlk (Or.inl rfl) hd hk hn (by show Q (some (.int (z &&& 1))) T.heap locs; rw [hz]; exact hq)
theorem own_retW (X : Stand p l e R s m args below meth c T locs cells slots) (hx : p.tables.exec = Jvm.exec) {t : FieldType} {w : Value} {i : Instr} (hret : meth.sig.returnType = some t) (hlk : meth.locks = false) (hw : narrow t w = w)
    (hi : (i = .ireturn ∧ (t = .int ∨ t = .boolean ∨ t = .byte ∨ t = .char ∨ t = .short) ∧ ∃ z, w = .int z) ∨ (i = .lreturn ∧ t = .long ∧ ∃ z, w = .long z) ∨ (i = .dreturn ∧ t = .double ∧ ∃ z, w = .double z) ∨ (i = .freturn ∧ t = .float ∧ ∃ z, w = .float z) ∨ (i = .areturn ∧ t.isReference = true ∧ w.isRef = true))
    {kc ks : Nat} {Q : Option Value → Heap → List Loc → Prop} {pc : Nat} {Ls : Array Slot} {rest : List Value}
    (hd : decode c.code pc = .ok (i, 1)) (hk : cells ≤ kc) (hn : slots ≤ ks) (hq : Q (some w) T.heap locs) : Go p e below (T.setTop (mkF m pc Ls (w :: rest))) (FinE s kc ks Q) := by
  obtain ⟨fs, hr, hrun, hended, hW, hsame⟩ := X.leave (v := some w) (fun h => by rw [hret] at h; cases h) hlk
  exact ⟨_, _, retOut X hx hret hw hi hd hr, hrun, hended, _, _, rfl, hq, ⟨_, rfl⟩, hW, hsame.mono hk hn⟩
theorem own_retI (X : Stand p l e R s m args below meth c T locs cells slots) (hx : p.tables.exec = Jvm.exec) (hret : meth.sig.returnType = some .int) (hlk : meth.locks = false) {kc ks : Nat} {Q : Option Value → Heap → List Loc → Prop} {pc : Nat} {Ls : Array Slot} {z : Int32} {rest : List Value}
    (hd : decode c.code pc = .ok (.ireturn, 1)) (hk : cells ≤ kc) (hn : slots ≤ ks) (hq : Q (some (.int z)) T.heap locs) : Go p e below (T.setTop (mkF m pc Ls (.int z :: rest))) (FinE s kc ks Q) :=
  own_retW X hx hret hlk rfl (Or.inl ⟨rfl, Or.inl rfl, _, rfl⟩) hd hk hn hq
theorem own_retA (X : Stand p l e R s m args below meth c T locs cells slots) (hx : p.tables.exec = Jvm.exec) {t : FieldType} (hret : meth.sig.returnType = some t) (hlk : meth.locks = false) (ht : t.isReference = true) {w : Value} (hw : w.isRef = true) {kc ks : Nat} {Q : Option Value → Heap → List Loc → Prop} {pc : Nat} {Ls : Array Slot} {rest : List Value}
    (hd : decode c.code pc = .ok (.areturn, 1)) (hk : cells ≤ kc) (hn : slots ≤ ks) (hq : Q (some w) T.heap locs) : Go p e below (T.setTop (mkF m pc Ls (w :: rest))) (FinE s kc ks Q) :=
  own_retW X hx hret hlk (by cases t <;> first | (cases ht; done) | (cases w <;> first | rfl | cases hw)) (Or.inr (Or.inr (Or.inr (Or.inr ⟨rfl, ht, hw⟩)))) hd hk hn hq
theorem own_retV (X : Stand p l e R s m args below meth c T locs cells slots) (hx : p.tables.exec = Jvm.exec) (hret : meth.sig.returnType = none) (hlk : meth.locks = false) {kc ks : Nat} {Q : Option Value → Heap → List Loc → Prop} {pc : Nat} {Ls : Array Slot}
    (hd : decode c.code pc = .ok (.return_, 1)) (hk : cells ≤ kc) (hn : slots ≤ ks) (hq : Q none T.heap locs) : Go p e below (T.setTop (mkF m pc Ls [])) (FinE s kc ks Q) := by
  obtain ⟨fs, hr, hrun, hended, hW, hsame⟩ := X.leave (v := none) (fun _ => rfl) hlk
  exact ⟨_, _, X.returnOut hx hret hd hr, hrun, hended, _, _, rfl, hq, ⟨_, rfl⟩, hW, hsame.mono hk hn⟩
/-- the wide end (behind a cold ldc of a String) -/
def FinW (s : State) (kc ks : Nat) (Q : Option Value → Heap → List Loc → Prop) (o : Outcome) (t : State) : Prop := ∃ v L, o = .returned v ∧ Q v t.heap L ∧ ReturnedEndW s o t L kc ks
abbrev CtrW (l : Launch) (y : MethodName) (bytes : ByteArray) (maxL : Nat) (ret : Option FieldType) (ws : List Jvm.Cond) (rm : Room) (Z : State) (as' : Array Value) (h : Heap) (Q : Option Value → Heap → List Loc → Prop) : Prop :=
  MetFree l y (head1 (Jvm.Cond.code y bytes maxL ret :: ws) rm) (fun a U => a = as' ∧ Z.Warmed39 U.vm ∧ U.heap = h) (fun _ _ _ _ _ => True) (fun _ U o U' => ∃ v L, o = .returned v ∧ Q v U'.heap L ∧ ReturnedEndW U o U' L rm.cells rm.slots)
theorem own_enterW {y : MethodName} {bytes : ByteArray} {maxL : Nat} {ret : Option FieldType} {ws : List Jvm.Cond} {rm : Room} {Z : State} {as' : Array Value} {h : Heap} {Q : Option Value → Heap → List Loc → Prop} (hpn : plainName y.cls = true)
    (body : ∀ (p : Program) (e : Env) (s : State) (m : MethodId) (below : List Frame) (meth : Method) (c : Code) (s₁ : State), p.tables.exec = Jvm.exec → c.code = bytes → c.maxLocals = maxL → s.vm.findClass y.cls = some m.cls → meth.name = y.name → meth.sig.returnType = ret → meth.locks = false → Z.Warmed39 s.vm → Stand p l e rm s m as' below meth c s₁ [] 0 0 → s₁.heap = h →
      Go p e below (s₁.setTop (entryFrame m as' maxL)) (FinW s rm.cells rm.slots Q)) : CtrW l y bytes maxL ret ws rm Z as' h Q := by
  refine MetFree.of_bodySF (plainFor_of_name hpn) hisR ?_
  intro p e s m args below meth c s₁ Bd hml0 hP hK
  obtain ⟨rfl, hZ, hh⟩ := hP
  exact body p e s m below meth c s₁ Bd.exec Bd.bytes hml0 (findClass_of_methodNamed Bd.named) (name_of_methodNamed Bd.named Bd.method).1 Bd.returns Bd.notSynchronized hZ (Stand.of_body Bd) (by rw [← hh, Bd.state]; rfl)
theorem own_retZW {vm1 : Vm} {k1 : Nat} (X : Stand p l e R (s.setVm vm1) m args below meth c T locs cells slots) (hx : p.tables.exec = Jvm.exec) (hret : meth.sig.returnType = some .boolean) (hlk : meth.locks = false) (hS : s.Since vm1 k1) (hB : k1 ≤ T.heap.size) {kc ks : Nat} {Q : Option Value → Heap → List Loc → Prop} {pc : Nat} {Ls : Array Slot} {z : Int32} {rest : List Value}
    (hd : decode c.code pc = .ok (.ireturn, 1)) (hk : cells ≤ kc) (hn : slots ≤ ks) (hz : z &&& 1 = z) (hq : Q (some (.int z)) T.heap locs) : Go p e below (T.setTop (mkF m pc Ls (.int z :: rest))) (FinW s kc ks Q) := by
  obtain ⟨fs, hr, hrun, hended, h1, h2, h3, h4⟩ := X.leaveW hS hB (v := some (.int (nar .boolean z))) (fun h => by rw [hret] at h; cases h) hlk
  have e1 : nar .boolean z = z := hz
  exact ⟨_, _, retN X hx hret (Or.inl rfl) hd hr, hrun, hended, _, _, rfl, by rw [e1]; exact hq, h1, h2, h3, h4.mono hk hn⟩
section Calls
variable {Z : State} {a0 : Array Value} {h : Heap} {y : MethodName} {bytes : ByteArray} {maxL : Nat} {ret : Option FieldType} {rm : Room} {as' : Array Value} {Q : Option Value → Heap → List Loc → Prop} {own : String} {index : Nat} {pc : Nat} {Ls : Array Slot} {st argsL rest : List Value} {ps : List FieldType} {r : Option FieldType}
theorem own_callS (X : Stand p l e R s m args below meth c T locs cells slots) (hx : p.tables.exec = Jvm.exec) (hZ : Z.Warmed39 s.vm) (hown : s.vm.findClass own = some m.cls) (w1 : (Jvm.Cond.methodLink own index y).before a0 Z = true) (w2 : (Jvm.Cond.static y).before a0 Z = true) (w3 : (Jvm.Cond.initialized y.cls).before a0 Z = true) (w4 : (Jvm.Cond.code y bytes maxL ret).before a0 Z = true)
    (hy : y.cls ≠ "java/lang/invoke/MethodHandle" ∧ y.cls ≠ "java/lang/invoke/VarHandle") (hM : Ctr l y bytes maxL ret [] rm Z as' h Q) (eT : T.heap = h) (hpd : parseMethodDescriptor y.desc = some ⟨ps, r⟩) (hd : decode c.code pc = .ok (.invokestatic index, 3)) (hsize : Ls.size = c.maxLocals)
    (hlen : argsL.length = ps.length) (hst : st = argsL.reverse ++ rest) (has : argsL.toArray = as') {W : Nat} (hW : (rest.map fun v => v.category).sum ≤ W) (hf : rm.frames + 1 ≤ R.frames) (hl : W + (maxL + 11) + rm.locals ≤ R.locals) (hc : cells + rm.cells ≤ R.cells) (hs : slots + rm.slots ≤ R.slots) :
    ∃ v T' L, Stand p l e R s m args below meth c T' (locs ++ L) (cells + rm.cells) (slots + rm.slots) ∧ Q v T'.heap L ∧ ∀ target, Steps p.tables e below (T'.setTop (mkF m (pc + 3) Ls (v.toList ++ rest))) target → Steps p.tables e below (T.setTop (mkF m pc Ls st)) target := by
  obtain ⟨v, _, ⟨T', L', k', n'⟩, -, X', ⟨Lc, hQ, l1, y1, z1⟩, st'⟩ := Jvm.LawKit.callS X hx (y := y) hown (mvT hZ w1) (mvT hZ w2) (mvT hZ w3) (mvT hZ w4) hy (backOf (W := W) hM hZ w4 w3 hf hl) (g := mkF m pc Ls st) rfl hsize (argsL := argsL) (rest := rest) (lenOf hpd hlen) hst (by show 2 * 0 + _ ≤ _; omega) hd (fun _ _ => ⟨has, eT, hc, hs⟩)
  dsimp only [Pt.U, Pt.locs, Pt.cells, Pt.slots] at X' l1 y1 z1 st' hQ
  subst l1 y1 z1
  exact ⟨v, T', Lc, X', hQ, st'⟩
theorem own_callV {C : String} {b : Addr} (X : Stand p l e R s m args below meth c T locs cells slots) (hx : p.tables.exec = Jvm.exec) (hZ : Z.Warmed39 s.vm) (hown : s.vm.findClass own = some m.cls) (w1 : (Jvm.Cond.methodLink own index y).before a0 Z = true) (w2 : (Jvm.Cond.declares y).before a0 Z = true) (w3 : (Jvm.Cond.selects C y y).before a0 Z = true) (w4 : (Jvm.Cond.instanceMethod y).before a0 Z = true)
    (w5 : (Jvm.Cond.code y bytes maxL ret).before a0 Z = true) (w6 : (Jvm.Cond.initialized y.cls).before a0 Z = true) (hy : y.cls ≠ "java/lang/invoke/MethodHandle" ∧ y.cls ≠ "java/lang/invoke/VarHandle") (hM : Ctr l y bytes maxL ret [] rm Z as' h Q) (eT : T.heap = h) (E : Exa Z h b C) (hpd : parseMethodDescriptor y.desc = some ⟨ps, r⟩) (hd : decode c.code pc = .ok (.invokevirtual index, 3)) (hsize : Ls.size = c.maxLocals)
    (hlen : argsL.length = ps.length) (hst : st = argsL.reverse ++ .ref b :: rest) (has : (.ref b :: argsL).toArray = as') {W : Nat} (hW : (rest.map fun v => v.category).sum ≤ W) (hf : rm.frames + 1 ≤ R.frames) (hl : W + (maxL + 11) + rm.locals ≤ R.locals) (hc : cells + rm.cells ≤ R.cells) (hs : slots + rm.slots ≤ R.slots) :
    ∃ v T' L, Stand p l e R s m args below meth c T' (locs ++ L) (cells + rm.cells) (slots + rm.slots) ∧ Q v T'.heap L ∧ ∀ target, Steps p.tables e below (T'.setTop (mkF m (pc + 3) Ls (v.toList ++ rest))) target → Steps p.tables e below (T.setTop (mkF m pc Ls st)) target := by
  obtain ⟨cq, kq, qa, qb, qc⟩ := isOf hZ eT E
  obtain ⟨v, _, ⟨T', L', k', n'⟩, -, X', ⟨Lc, hQ, l1, y1, z1⟩, st'⟩ := X.virtualBack hx (y := y) (z := y) hown (mvT hZ w1) (mvT hZ w2) (notFace_of_selects (args := #[]) (mvT hZ w3)) (mvT hZ w3) (mvT hZ w4) hy (backOf (W := W) hM hZ w5 w6 hf hl) qa qc (g := mkF m pc Ls st) rfl hsize (Steps.refl _) (argsL := argsL) (rest := rest) (lenOf hpd hlen) hst (by show 2 * 0 + _ ≤ _; omega) hd (fun _ _ => ⟨has, eT, hc, hs⟩)
  dsimp only [Pt.U, Pt.locs, Pt.cells, Pt.slots] at X' l1 y1 z1 st' hQ
  subst l1 y1 z1
  exact ⟨v, T', Lc, X', hQ, fun t k => st'.trans k⟩
theorem own_callI {b : Addr} (X : Stand p l e R s m args below meth c T locs cells slots) (hx : p.tables.exec = Jvm.exec) (hZ : Z.Warmed39 s.vm) (hown : s.vm.findClass own = some m.cls) (w1 : (Jvm.Cond.methodLink own index y).before a0 Z = true) (w4 : (Jvm.Cond.instanceMethod y).before a0 Z = true)
    (w5 : (Jvm.Cond.code y bytes maxL none).before a0 Z = true) (w6 : (Jvm.Cond.initialized y.cls).before a0 Z = true) (hn : y.name = "<init>") (hy : y.cls ≠ "java/lang/invoke/MethodHandle" ∧ y.cls ≠ "java/lang/invoke/VarHandle") (hM : Ctr l y bytes maxL none [] rm Z as' h Q) (eT : T.heap = h) (hpd : parseMethodDescriptor y.desc = some ⟨ps, r⟩) (hd : decode c.code pc = .ok (.invokespecial index, 3)) (hsize : Ls.size = c.maxLocals)
    (hlen : argsL.length = ps.length) (hst : st = argsL.reverse ++ .ref b :: rest) (has : (.ref b :: argsL).toArray = as') {W : Nat} (hW : (rest.map fun v => v.category).sum ≤ W) (hf : rm.frames + 1 ≤ R.frames) (hl : W + (maxL + 11) + rm.locals ≤ R.locals) (hc : cells + rm.cells ≤ R.cells) (hs : slots + rm.slots ≤ R.slots) :
    ∃ v T' L, Stand p l e R s m args below meth c T' (locs ++ L) (cells + rm.cells) (slots + rm.slots) ∧ Q v T'.heap L ∧ ∀ target, Steps p.tables e below (T'.setTop (mkF m (pc + 3) Ls (v.toList ++ rest))) target → Steps p.tables e below (T.setTop (mkF m pc Ls st)) target := by
  obtain ⟨v, _, ⟨T', L', k', n'⟩, -, X', ⟨Lc, hQ, l1, y1, z1⟩, st'⟩ := X.specialBack hx (y := y) hn hown (mvT hZ w1) (mvT hZ w4) (mvT hZ w5) hy (backOf (W := W) hM hZ w5 w6 hf hl) (g := mkF m pc Ls st) rfl hsize (Steps.refl _) (a := b) (argsL := argsL) (rest := rest) (lenOf hpd hlen) hst (by show 2 * 0 + _ ≤ _; omega) hd (fun _ _ => ⟨has, eT, hc, hs⟩)
  dsimp only [Pt.U, Pt.locs, Pt.cells, Pt.slots] at X' l1 y1 z1 st' hQ
  subst l1 y1 z1
  exact ⟨v, T', Lc, X', hQ, fun t k => st'.trans k⟩
end Calls
section Facts
variable {Z : State} {h : Heap} {a b : Addr} {C F D K O n d : String} {v w : Value}
theorem own_fld_fun (F1 : Fld Z h a C n d v) (F2 : Fld Z h a C n d w) : v = w := by
  obtain ⟨c1, cf1, k1, i1, f1, h1, h2, h3, h4, h5, h6, h7⟩ := F1
  obtain ⟨c2, cf2, k2, i2, f2, g1, g2, g3, g4, g5, g6, g7⟩ := F2
  cases h1.symm.trans g1
  cases h2.symm.trans g2
  exact Option.some.inj (h7.symm.trans g7)
theorem own_ne {i j : Int32} (F1 : Fld Z h a C n d (.int i)) (F2 : Fld Z h b C n d (.int j)) (hij : i ≠ j) : a ≠ b := fun e => by
  subst e; exact hij (Value.int.inj (own_fld_fun F1 F2))
theorem own_sta {args : Array Value} (hn : (Jvm.Cond.exactly (.static C F D) K).value args Z none Z [] = some true) (hi : (Jvm.Cond.initialized C).before args Z = true) (hl : (Jvm.Cond.laysStatic C F D).before args Z = true) :
    ∃ w : Addr, Sta Z Z.heap C F D (.ref w) ∧ Exa Z Z.heap w K ∧ (Term.static C F D).eval args Z none [] Z = some (.ref w) := by
  obtain ⟨a', c', cell, k, e1, -⟩ := Cond.exactly_spec (Cond.before_iff.mpr hn)
  exact ⟨a', Sta.start e1 (Or.inr ⟨hi, hl⟩), Exa.start e1 hn, e1⟩
theorem own_ord {args : Array Value} {k : Int32} {t : Term} (hn : (Jvm.Cond.eq (.field t O n d) (.int k)).value args Z none Z [] = some true) (ev : t.eval args Z none [] Z = some (.ref a)) : Fld Z Z.heap a O n d (.int k) := by
  refine Fld.start ?_
  simp only [Jvm.Cond.value, Term.eval, ev] at hn
  cases hq : Z.fieldOf? a O n d with
  | none => simp [hq] at hn
  | some v => cases v <;> simp_all
theorem own_fref {args : Array Value} {t u : Term} (hn : (Jvm.Cond.eq (.field t O n d) u).value args Z none Z [] = some true) (ev : t.eval args Z none [] Z = some (.ref a)) (eu : u.eval args Z none [] Z = some (.ref b)) : Fld Z Z.heap a O n d (.ref b) := by
  refine Fld.start ?_
  simp only [Jvm.Cond.value, Term.eval, ev, eu] at hn
  cases hq : Z.fieldOf? a O n d with
  | none => simp [hq] at hn
  | some v => cases v <;> simp_all
theorem own_arrOf {args : Array Value} {t : Term} {ty : FieldType} (hn : (Jvm.Cond.arrayOf t ty).value args Z none Z [] = some true) : ∃ a c, t.eval args Z none [] Z = some (.ref a) ∧ Arr Z Z.heap a c ty := by
  cases hq : t.eval args Z none [] Z with
  | none => simp [Jvm.Cond.value, hq] at hn
  | some v =>
    cases v with
    | ref a => obtain ⟨c, A⟩ := Arr.start hq hn; exact ⟨a, c, rfl, A⟩
    | _ => simp [Jvm.Cond.value, hq] at hn
theorem own_arrLen {args : Array Value} {t : Term} {ty : FieldType} {cl : Cell} {k : Int32} (A : Arr Z Z.heap a cl ty) (ev : t.eval args Z none [] Z = some (.ref a)) (hn : (Jvm.Cond.eq (.length t) (.int k)).value args Z none Z [] = some true) : cl.slots.size < 2 ^ 31 ∧ cl.slots.size.toInt32 = k := by
  have hA : Z.arrayAt? a = some cl := A.fin (Vm.Alike.refl _)
  by_cases q : cl.slots.size < 2 ^ 31
  · refine ⟨q, ?_⟩
    have e : (Term.length t).eval args Z none [] Z = some (.int cl.slots.size.toInt32) := by simp [Term.eval, ev, hA, q]
    have e2 : (Term.int k).eval args Z none [] Z = some (.int k) := rfl
    simp only [Jvm.Cond.value, e, e2] at hn
    simpa using hn
  · have e : (Term.length t).eval args Z none [] Z = none := by simp [Term.eval, ev, hA, q]
    simp [Jvm.Cond.value, e] at hn
theorem own_arrElem {args : Array Value} {t u : Term} {ty : FieldType} {cl : Cell} {j : Int32} (A : Arr Z Z.heap a cl ty) (ev : t.eval args Z none [] Z = some (.ref a)) (eu : u.eval args Z none [] Z = some (.ref b)) (hj : ¬ j < 0) (hn : (Jvm.Cond.eq (.elem t (.int j)) u).value args Z none Z [] = some true) : cl.slots[j.toNatClampNeg]? = some (.ref b) := by
  have hA : Z.arrayAt? a = some cl := A.fin (Vm.Alike.refl _)
  have e : (Term.elem t (.int j)).eval args Z none [] Z = cl.slots[j.toNatClampNeg]? := by simp [Term.eval, ev, hA, hj]
  cases hq : cl.slots[j.toNatClampNeg]? with
  | none => rw [hq] at e; simp [Jvm.Cond.value, e] at hn
  | some v => rw [hq] at e; simp only [Jvm.Cond.value, e, eu] at hn; cases v <;> simp_all
theorem own_zand (x : Int32) : (0 : Int32) &&& x = (0 : Int32) := Int32.zero_and
theorem own_nin {x a : Addr} {ws : List Addr} (h : x ≠ a) (k : x ∉ ws) : x ∉ a :: ws := fun q => (List.mem_cons.mp q).elim h k
theorem own_plain {K : String} {ws : List Addr} (E : Exa Z h a K) (k : ∀ x ∈ ws, ∃ K', Exa Z h x K') : ∀ x ∈ a :: ws, ∃ K', Exa Z h x K' := fun x q => (List.mem_cons.mp q).elim (fun e => ⟨K, e ▸ E⟩) (k x)
theorem own_sta_keep {h' : Heap} {ws : List Addr} (S : Sta Z h C n d v) (K : Keep h h' ws) (hp : ∀ x ∈ ws, ∃ K', Exa Z h x K') : Sta Z h' C n d v := by
  obtain ⟨cf, i, k, f, st, cell, h1, h2, h3, h4, h5, h6, h7⟩ := S
  refine ⟨cf, i, k, f, st, cell, h1, h2, h3, h4, K.2.1 _ _ h5 fun q => ?_, h6, h7⟩
  obtain ⟨K', cl, kk, e1, -, -, e4, -⟩ := hp _ q
  cases h5.symm.trans e1
  rw [e4] at h6; cases h6
theorem own_mem1 {h0 : Heap} {ws : List Addr} {a : Addr} (q : a ∈ ws ∨ h0.size ≤ a) : ∀ x ∈ [a], x ∈ ws ∨ h0.size ≤ x := fun x hx => by cases List.mem_singleton.mp hx; exact q
theorem own_mem2 {h0 : Heap} {ws : List Addr} {a b : Addr} (q : a ∈ ws ∨ h0.size ≤ a) (r : b ∈ ws ∨ h0.size ≤ b) : ∀ x ∈ [a, b], x ∈ ws ∨ h0.size ≤ x := fun x hx => by
  rcases List.mem_cons.mp hx with rfl | hx
  · exact q
  · cases List.mem_singleton.mp hx; exact r
theorem own_fitR {ty : FieldType} (ht : ty.isReference = true) (hv : v.isRef = true) : fits ty v = true := by cases ty <;> first | (cases ht; done) | (cases v <;> first | rfl | cases hv)
theorem own_narR {ty : FieldType} (ht : ty.isReference = true) (hv : v.isRef = true) : narrow ty v = v := by cases ty <;> first | (cases ht; done) | (cases v <;> first | rfl | cases hv)
theorem own_bit {z : Int32} (hz : z = 0 ∨ z = 1) : z &&& 1 = z := by rcases hz with rfl | rfl <;> decide
theorem own_narZ {z : Int32} (hz : z = 0 ∨ z = 1) : narrow .boolean (.int z) = .int z := by rcases hz with rfl | rfl <;> rfl
theorem own_fitZ {z : Int32} (hz : z = 0 ∨ z = 1) : fits .boolean (.int z) = true := by rcases hz with rfl | rfl <;> rfl
theorem own_pad {dv : Value} (k : Nat) (i : Nat) : (List.replicate k dv).getD i dv = ([] : List Value).getD i dv := by
  simp only [List.getD, List.getElem?_replicate]
  split <;> rfl
end Facts
end Own
section G
variable {p : Program} {l : Launch} {e : Env} {R : Room} {s : State} {m : MethodId} {args : Array Value} {below : List Frame} {meth : Method} {c : Code} {T : State} {locs : List Loc} {cells slots : Nat} {pc : Nat} {Ls : Array Slot} {st : List Value} {P : Outcome → State → Prop}
theorem g_iloadN (X : Stand p l e R s m args below meth c T locs cells slots) (hx : p.tables.exec = Jvm.exec) {k : Fin 4} {v : Int32} (hd : decode c.code pc = .ok (.iload_n k, 1)) (hl : Ls[k.val]? = some (.val (.int v))) (hr : Go p e below (T.setTop (mkF m (pc + 1) Ls (.int v :: st))) P) : Go p e below (T.setTop (mkF m pc Ls st)) P := Go.mp (fun _ k => XS.iloadN X.here hx rfl hd hl k) hr
theorem g_iload (X : Stand p l e R s m args below meth c T locs cells slots) (hx : p.tables.exec = Jvm.exec) {k : Nat} {v : Int32} (hd : decode c.code pc = .ok (.iload k, 2)) (hl : Ls[k]? = some (.val (.int v))) (hr : Go p e below (T.setTop (mkF m (pc + 2) Ls (.int v :: st))) P) : Go p e below (T.setTop (mkF m pc Ls st)) P := Go.mp (fun _ k => XS.iload X.here hx rfl hd hl k) hr
theorem g_lloadN (X : Stand p l e R s m args below meth c T locs cells slots) (hx : p.tables.exec = Jvm.exec) {k : Fin 4} {v : Int64} (hd : decode c.code pc = .ok (.lload_n k, 1)) (hl : Ls[k.val]? = some (.val (.long v))) (hr : Go p e below (T.setTop (mkF m (pc + 1) Ls (.long v :: st))) P) : Go p e below (T.setTop (mkF m pc Ls st)) P := Go.mp (fun _ k => XS.lloadN X.here hx rfl hd hl k) hr
theorem g_lload (X : Stand p l e R s m args below meth c T locs cells slots) (hx : p.tables.exec = Jvm.exec) {k : Nat} {v : Int64} (hd : decode c.code pc = .ok (.lload k, 2)) (hl : Ls[k]? = some (.val (.long v))) (hr : Go p e below (T.setTop (mkF m (pc + 2) Ls (.long v :: st))) P) : Go p e below (T.setTop (mkF m pc Ls st)) P := Go.mp (fun _ k => XS.lload X.here hx rfl hd hl k) hr
theorem g_aloadN (X : Stand p l e R s m args below meth c T locs cells slots) (hx : p.tables.exec = Jvm.exec) {k : Fin 4} {v : Value} (hd : decode c.code pc = .ok (.aload_n k, 1)) (hl : Ls[k.val]? = some (.val v)) (hv : v.isRef = true) (hr : Go p e below (T.setTop (mkF m (pc + 1) Ls (v :: st))) P) : Go p e below (T.setTop (mkF m pc Ls st)) P := Go.mp (fun _ k => XS.aloadN X.here hx rfl hd hl hv k) hr
theorem g_aload (X : Stand p l e R s m args below meth c T locs cells slots) (hx : p.tables.exec = Jvm.exec) {k : Nat} {v : Value} (hd : decode c.code pc = .ok (.aload k, 2)) (hl : Ls[k]? = some (.val v)) (hv : v.isRef = true) (hr : Go p e below (T.setTop (mkF m (pc + 2) Ls (v :: st))) P) : Go p e below (T.setTop (mkF m pc Ls st)) P := Go.mp (fun _ k => XS.aload X.here hx rfl hd hl hv k) hr
theorem g_istoreN (X : Stand p l e R s m args below meth c T locs cells slots) (hx : p.tables.exec = Jvm.exec) {k : Fin 4} {v : Int32} (l' : Array Slot) (hd : decode c.code pc = .ok (.istore_n k, 1)) (hl : storeLocals Ls k.val (.int v) = some l') (hr : Go p e below (T.setTop (mkF m (pc + 1) l' st)) P) : Go p e below (T.setTop (mkF m pc Ls (.int v :: st))) P := Go.mp (fun _ k => XS.istoreN X.here hx rfl hd rfl hl k) hr
theorem g_istore (X : Stand p l e R s m args below meth c T locs cells slots) (hx : p.tables.exec = Jvm.exec) {k : Nat} {v : Int32} (l' : Array Slot) (hd : decode c.code pc = .ok (.istore k, 2)) (hl : storeLocals Ls k (.int v) = some l') (hr : Go p e below (T.setTop (mkF m (pc + 2) l' st)) P) : Go p e below (T.setTop (mkF m pc Ls (.int v :: st))) P := Go.mp (fun _ k => XS.istore X.here hx rfl hd rfl hl k) hr
theorem g_astoreN (X : Stand p l e R s m args below meth c T locs cells slots) (hx : p.tables.exec = Jvm.exec) {k : Fin 4} {v : Value} (l' : Array Slot) (hd : decode c.code pc = .ok (.astore_n k, 1)) (hv : v.isRef = true) (hl : storeLocals Ls k.val v = some l') (hr : Go p e below (T.setTop (mkF m (pc + 1) l' st)) P) : Go p e below (T.setTop (mkF m pc Ls (v :: st))) P := Go.mp (fun _ k => XS.astoreN X.here hx rfl hd rfl hv hl k) hr
theorem g_astore (X : Stand p l e R s m args below meth c T locs cells slots) (hx : p.tables.exec = Jvm.exec) {k : Nat} {v : Value} (l' : Array Slot) (hd : decode c.code pc = .ok (.astore k, 2)) (hv : v.isRef = true) (hl : storeLocals Ls k v = some l') (hr : Go p e below (T.setTop (mkF m (pc + 2) l' st)) P) : Go p e below (T.setTop (mkF m pc Ls (v :: st))) P := Go.mp (fun _ k => XS.astore X.here hx rfl hd rfl hv hl k) hr
theorem g_iconst (X : Stand p l e R s m args below meth c T locs cells slots) (hx : p.tables.exec = Jvm.exec) {i : Int} (v : Int32) (hd : decode c.code pc = .ok (.iconst i, 1)) (hv : Int32.ofInt i = v) (hr : Go p e below (T.setTop (mkF m (pc + 1) Ls (.int v :: st))) P) : Go p e below (T.setTop (mkF m pc Ls st)) P := Go.mp (fun _ k => XT.iconstV X.here hx rfl v hd hv k) hr
theorem g_bipush (X : Stand p l e R s m args below meth c T locs cells slots) (hx : p.tables.exec = Jvm.exec) {i : Int} (v : Int32) (hd : decode c.code pc = .ok (.bipush i, 2)) (hv : (Int8.ofInt i).toInt32 = v) (hr : Go p e below (T.setTop (mkF m (pc + 2) Ls (.int v :: st))) P) : Go p e below (T.setTop (mkF m pc Ls st)) P := Go.mp (fun _ k => XT.bipushV X.here hx rfl v hd hv k) hr
theorem g_sipush (X : Stand p l e R s m args below meth c T locs cells slots) (hx : p.tables.exec = Jvm.exec) {i : Int} (v : Int32) (hd : decode c.code pc = .ok (.sipush i, 3)) (hv : (Int16.ofInt i).toInt32 = v) (hr : Go p e below (T.setTop (mkF m (pc + 3) Ls (.int v :: st))) P) : Go p e below (T.setTop (mkF m pc Ls st)) P := Go.mp (fun _ k => XT.sipushV X.here hx rfl v hd hv k) hr
theorem g_null (X : Stand p l e R s m args below meth c T locs cells slots) (hx : p.tables.exec = Jvm.exec) (hd : decode c.code pc = .ok (.aconst_null, 1)) (hr : Go p e below (T.setTop (mkF m (pc + 1) Ls (.null :: st))) P) : Go p e below (T.setTop (mkF m pc Ls st)) P := Go.mp (fun _ k => XS.aconstNull X.here hx rfl hd k) hr
theorem g_iadd (X : Stand p l e R s m args below meth c T locs cells slots) (hx : p.tables.exec = Jvm.exec) {x y : Int32} (hd : decode c.code pc = .ok (.iadd, 1)) (hr : Go p e below (T.setTop (mkF m (pc + 1) Ls (.int (x + y) :: st))) P) : Go p e below (T.setTop (mkF m pc Ls (.int y :: .int x :: st))) P := Go.mp (fun _ k => XS.iadd X.here hx rfl hd rfl k) hr
theorem g_isub (X : Stand p l e R s m args below meth c T locs cells slots) (hx : p.tables.exec = Jvm.exec) {x y : Int32} (hd : decode c.code pc = .ok (.isub, 1)) (hr : Go p e below (T.setTop (mkF m (pc + 1) Ls (.int (x - y) :: st))) P) : Go p e below (T.setTop (mkF m pc Ls (.int y :: .int x :: st))) P := Go.mp (fun _ k => XS.isub X.here hx rfl hd rfl k) hr
theorem g_iand (X : Stand p l e R s m args below meth c T locs cells slots) (hx : p.tables.exec = Jvm.exec) {x y : Int32} (hd : decode c.code pc = .ok (.iand, 1)) (hr : Go p e below (T.setTop (mkF m (pc + 1) Ls (.int (x &&& y) :: st))) P) : Go p e below (T.setTop (mkF m pc Ls (.int y :: .int x :: st))) P := Go.mp (fun _ k => XS.iand X.here hx rfl hd rfl k) hr
theorem g_ior (X : Stand p l e R s m args below meth c T locs cells slots) (hx : p.tables.exec = Jvm.exec) {x y : Int32} (hd : decode c.code pc = .ok (.ior, 1)) (hr : Go p e below (T.setTop (mkF m (pc + 1) Ls (.int (x ||| y) :: st))) P) : Go p e below (T.setTop (mkF m pc Ls (.int y :: .int x :: st))) P := Go.mp (fun _ k => XS.ior X.here hx rfl hd rfl k) hr
theorem g_ixor (X : Stand p l e R s m args below meth c T locs cells slots) (hx : p.tables.exec = Jvm.exec) {x y : Int32} (hd : decode c.code pc = .ok (.ixor, 1)) (hr : Go p e below (T.setTop (mkF m (pc + 1) Ls (.int (x ^^^ y) :: st))) P) : Go p e below (T.setTop (mkF m pc Ls (.int y :: .int x :: st))) P := Go.mp (fun _ k => XS.ixor X.here hx rfl hd rfl k) hr
theorem g_dup (X : Stand p l e R s m args below meth c T locs cells slots) (hx : p.tables.exec = Jvm.exec) {x : Value} (hd : decode c.code pc = .ok (.dup, 1)) (hc : x.category = 1) (hr : Go p e below (T.setTop (mkF m (pc + 1) Ls (x :: x :: st))) P) : Go p e below (T.setTop (mkF m pc Ls (x :: st))) P := Go.mp (fun _ k => XS.dup X.here hx rfl hd rfl hc k) hr
theorem g_pop (X : Stand p l e R s m args below meth c T locs cells slots) (hx : p.tables.exec = Jvm.exec) {x : Value} (hd : decode c.code pc = .ok (.pop, 1)) (hc : x.category = 1) (hr : Go p e below (T.setTop (mkF m (pc + 1) Ls st)) P) : Go p e below (T.setTop (mkF m pc Ls (x :: st))) P := Go.mp (fun _ k => XS.pop X.here hx rfl hd rfl hc k) hr
theorem g_goto (X : Stand p l e R s m args below meth c T locs cells slots) (hx : p.tables.exec = Jvm.exec) {o : Int} (pc' : Nat) (hd : decode c.code pc = .ok (.goto o, 3)) (ho : 0 ≤ (pc : Int) + o) (hp : ((pc : Int) + o).toNat = pc') (hr : Go p e below (T.setTop (mkF m pc' Ls st)) P) : Go p e below (T.setTop (mkF m pc Ls st)) P := Go.mp (fun _ k => XS.goto X.here hx rfl (pc0 := pc) (pc' := pc') rfl hd ho hp k) hr
theorem g_ifYes (X : Stand p l e R s m args below meth c T locs cells slots) (hx : p.tables.exec = Jvm.exec) {cd : ClassFile.Cond} {x : Int32} {o : Int} (pc' : Nat) (hd : decode c.code pc = .ok (.ifCond cd o, 3)) (hc : ifCond.holds cd x = true) (ho : 0 ≤ (pc : Int) + o) (hp : ((pc : Int) + o).toNat = pc') (hr : Go p e below (T.setTop (mkF m pc' Ls st)) P) : Go p e below (T.setTop (mkF m pc Ls (.int x :: st))) P := Go.mp (fun _ k => XS.ifYes X.here hx rfl (pc0 := pc) (pc' := pc') rfl hd rfl hc ho hp k) hr
theorem g_ifNo (X : Stand p l e R s m args below meth c T locs cells slots) (hx : p.tables.exec = Jvm.exec) {cd : ClassFile.Cond} {x : Int32} {o : Int} (hd : decode c.code pc = .ok (.ifCond cd o, 3)) (hc : ifCond.holds cd x = false) (hr : Go p e below (T.setTop (mkF m (pc + 3) Ls st)) P) : Go p e below (T.setTop (mkF m pc Ls (.int x :: st))) P := Go.mp (fun _ k => XS.ifNo X.here hx rfl hd rfl hc k) hr
theorem g_icmpYes (X : Stand p l e R s m args below meth c T locs cells slots) (hx : p.tables.exec = Jvm.exec) {cd : ClassFile.Cond} {x y : Int32} {o : Int} (pc' : Nat) (hd : decode c.code pc = .ok (.if_icmp cd o, 3)) (hc : if_icmp.holds cd x y = true) (ho : 0 ≤ (pc : Int) + o) (hp : ((pc : Int) + o).toNat = pc') (hr : Go p e below (T.setTop (mkF m pc' Ls st)) P) : Go p e below (T.setTop (mkF m pc Ls (.int y :: .int x :: st))) P := Go.mp (fun _ k => XS.icmpYes X.here hx rfl (pc0 := pc) (pc' := pc') rfl hd rfl hc ho hp k) hr
theorem g_icmpNo (X : Stand p l e R s m args below meth c T locs cells slots) (hx : p.tables.exec = Jvm.exec) {cd : ClassFile.Cond} {x y : Int32} {o : Int} (hd : decode c.code pc = .ok (.if_icmp cd o, 3)) (hc : if_icmp.holds cd x y = false) (hr : Go p e below (T.setTop (mkF m (pc + 3) Ls st)) P) : Go p e below (T.setTop (mkF m pc Ls (.int y :: .int x :: st))) P := Go.mp (fun _ k => XS.icmpNo X.here hx rfl hd rfl hc k) hr
theorem g_acmp (X : Stand p l e R s m args below meth c T locs cells slots) (hx : p.tables.exec = Jvm.exec) {cd : ACond} {x y : Value} {o : Int} (pc' : Nat) (same : Bool) (h1 : x.isRef = true) (h2 : y.isRef = true) (hd : decode c.code pc = .ok (.if_acmp cd o, 3)) (hq : decide (x = y) = same) (ho : 0 ≤ (pc : Int) + o) (hp : pc' = if acV cd same = true then ((pc : Int) + o).toNat else pc + 3) (hr : Go p e below (T.setTop (mkF m pc' Ls st)) P) : Go p e below (T.setTop (mkF m pc Ls (y :: x :: st))) P := Go.mp (fun _ k => Jvm.RoadKit.acmp (g := mkF m pc Ls (y :: x :: st)) X hx rfl h1 h2 (pc0 := pc) (pc' := pc') (same := same) rfl hd rfl hq ho hp k) hr
theorem g_irem (X : Stand p l e R s m args below meth c T locs cells slots) (hx : p.tables.exec = Jvm.exec) {x y : Int32} (hd : decode c.code pc = .ok (.irem, 1)) (hy : y ≠ 0) (hr : Go p e below (T.setTop (mkF m (pc + 1) Ls (.int (x % y) :: st))) P) : Go p e below (T.setTop (mkF m pc Ls (.int y :: .int x :: st))) P := Go.mp (fun _ k => iremM X hx rfl hd rfl hy k) hr
end G
theorem pn_0 : plainName "com/example/reorient/reorient/service/WindowPictureOfPinLaw" = true := by first | (simp [plainName, overriddenIn]; done) | decide +kernel
def f_rot (i1 : Int32) (w_ROTATION_0 : Addr) (w_ROTATION_90 : Addr) (w_ROTATION_180 : Addr) (w_ROTATION_270 : Addr) : Addr := (if (i1 &&& (3 : Int32)) = (0 : Int32) then w_ROTATION_0 else (if (i1 &&& (3 : Int32)) = (1 : Int32) then w_ROTATION_90 else (if (i1 &&& (3 : Int32)) = (2 : Int32) then w_ROTATION_180 else w_ROTATION_270)))
theorem d1_0 : decode method_2_code 0 = .ok (.iload_n 0, 1) := by decide +kernel
theorem d1_1 : decode method_2_code 1 = .ok (.iconst 3, 1) := by decide +kernel
theorem d1_2 : decode method_2_code 2 = .ok (.iand, 1) := by decide +kernel
theorem d1_3 : decode method_2_code 3 = .ok (.istore_n 1, 1) := by decide +kernel
theorem d1_4 : decode method_2_code 4 = .ok (.iload_n 1, 1) := by decide +kernel
theorem d1_5 : decode method_2_code 5 = .ok (.ifCond .ne 7, 3) := by decide +kernel
theorem d1_8 : decode method_2_code 8 = .ok (.getstatic 7, 3) := by decide +kernel
theorem d1_11 : decode method_2_code 11 = .ok (.areturn, 1) := by decide +kernel
theorem d1_12 : decode method_2_code 12 = .ok (.iload_n 1, 1) := by decide +kernel
theorem d1_13 : decode method_2_code 13 = .ok (.iconst 1, 1) := by decide +kernel
theorem d1_14 : decode method_2_code 14 = .ok (.if_icmp .ne 7, 3) := by decide +kernel
theorem d1_17 : decode method_2_code 17 = .ok (.getstatic 13, 3) := by decide +kernel
theorem d1_20 : decode method_2_code 20 = .ok (.areturn, 1) := by decide +kernel
theorem d1_21 : decode method_2_code 21 = .ok (.iload_n 1, 1) := by decide +kernel
theorem d1_22 : decode method_2_code 22 = .ok (.iconst 2, 1) := by decide +kernel
theorem d1_23 : decode method_2_code 23 = .ok (.if_icmp .ne 7, 3) := by decide +kernel
theorem d1_26 : decode method_2_code 26 = .ok (.getstatic 16, 3) := by decide +kernel
theorem d1_29 : decode method_2_code 29 = .ok (.areturn, 1) := by decide +kernel
theorem d1_30 : decode method_2_code 30 = .ok (.getstatic 19, 3) := by decide +kernel
theorem d1_33 : decode method_2_code 33 = .ok (.areturn, 1) := by decide +kernel
theorem ef_rm_rot (m : MethodId) (x0 : Int32) : entryFrame m #[(.int x0)] 2 = mkF m 0 #[.val (.int x0), .unset] [] := by first | (simp [entryFrame, mkF, argsToLocals, Value.category]; done) | rfl
set_option maxRecDepth 65536 in
set_option maxHeartbeats 40000000 in
theorem rm_rot (l : Launch) (Z : State) (a0 : Array Value) (hw : ∀ d ∈ tables_1, d.before a0 Z = true) (i1 : Int32) (w_ROTATION_0 : Addr) (w_ROTATION_90 : Addr) (w_ROTATION_180 : Addr) (w_ROTATION_270 : Addr) (h0 : Heap) (n0 : Nat) (Z0 : n0 ≤ h0.size) (S_ROTATION_0 : Sta Z h0 "com/example/reorient/reorient/model/Rotation" "ROTATION_0" "Lcom/example/reorient/reorient/model/Rotation;" (.ref w_ROTATION_0)) (S_ROTATION_90 : Sta Z h0 "com/example/reorient/reorient/model/Rotation" "ROTATION_90" "Lcom/example/reorient/reorient/model/Rotation;" (.ref w_ROTATION_90)) (S_ROTATION_180 : Sta Z h0 "com/example/reorient/reorient/model/Rotation" "ROTATION_180" "Lcom/example/reorient/reorient/model/Rotation;" (.ref w_ROTATION_180)) (S_ROTATION_270 : Sta Z h0 "com/example/reorient/reorient/model/Rotation" "ROTATION_270" "Lcom/example/reorient/reorient/model/Rotation;" (.ref w_ROTATION_270)) :
    Ctr l (⟨"com/example/reorient/reorient/service/WindowPictureOfPinLaw", "rot", "(I)Lcom/example/reorient/reorient/model/Rotation;"⟩ : MethodName) method_2_code 2 (some (FieldType.object "com/example/reorient/reorient/model/Rotation")) [] ({ frames := 0, cells := 0, slots := 0, locals := 0 } : Room) Z #[(.int i1)] h0 (fun v h L => v = some (.ref (f_rot i1 w_ROTATION_0 w_ROTATION_90 w_ROTATION_180 w_ROTATION_270)) ∧ Fr n0 L ∧ h = h0) := by
  refine own_enter pn_0 (fun p e s m below meth c s₁ hx hby hml hown hnm hret hlk hZ X0 e0 => ?_)
  have N0 := Fr.nil n0
  rw [ef_rm_rot m _]
  show Go p e below (s₁.setTop (mkF m 0 #[.val (.int i1), .unset] [])) _
  refine g_iloadN X0 hx (hb hby d1_0) rfl ?_
  refine g_iconst X0 hx (3 : Int32) (hb hby d1_1) (by decide) ?_
  refine g_iand X0 hx (hb hby d1_2) ?_
  refine g_istoreN X0 hx #[.val (.int i1), .val (.int (i1 &&& (3 : Int32)))] (hb hby d1_3) rfl ?_
  refine g_iloadN X0 hx (hb hby d1_4) rfl ?_
  by_cases c5_1 : (i1 &&& (3 : Int32)) = (0 : Int32)
  · refine g_ifNo X0 hx (hb hby d1_5) ((if0 _ _).trans (teq c5_1).2) ?_
    obtain ⟨T2, X2, e2, st2⟩ := getS2 X0 hx hZ hown (host := "") (Or.inl (hw _ (List.mem_of_getElem? (i := 15) rfl))) Via.refl e0 S_ROTATION_0 (g := (mkF m 8 #[.val (.int i1), .val (.int (i1 &&& (3 : Int32)))] [])) rfl (hb hby d1_8)
    refine Go.mp st2 ?_
    show Go p e below (T2.setTop (mkF m 11 #[.val (.int i1), .val (.int (i1 &&& (3 : Int32)))] [(.ref w_ROTATION_0)])) _
    exact own_retA X2 hx hret hlk rfl rfl (hb hby d1_11) (by decide) (by decide) ⟨by rw [f_rot, if_pos c5_1], N0, e2⟩
  · refine g_ifYes X0 hx 12 (hb hby d1_5) ((if0 _ _).trans (feq c5_1).2) (by decide) (by decide) ?_
    refine g_iloadN X0 hx (hb hby d1_12) rfl ?_
    refine g_iconst X0 hx (1 : Int32) (hb hby d1_13) (by decide) ?_
    by_cases c14_3 : (i1 &&& (3 : Int32)) = (1 : Int32)
    · refine g_icmpNo X0 hx (hb hby d1_14) (teq c14_3).2 ?_
      obtain ⟨T4, X4, e4, st4⟩ := getS2 X0 hx hZ hown (host := "") (Or.inl (hw _ (List.mem_of_getElem? (i := 58) rfl))) Via.refl e0 S_ROTATION_90 (g := (mkF m 17 #[.val (.int i1), .val (.int (i1 &&& (3 : Int32)))] [])) rfl (hb hby d1_17)
      refine Go.mp st4 ?_
      show Go p e below (T4.setTop (mkF m 20 #[.val (.int i1), .val (.int (i1 &&& (3 : Int32)))] [(.ref w_ROTATION_90)])) _
      exact own_retA X4 hx hret hlk rfl rfl (hb hby d1_20) (by decide) (by decide) ⟨by rw [f_rot, if_neg c5_1, if_pos c14_3], N0, e4⟩
    · refine g_icmpYes X0 hx 21 (hb hby d1_14) (feq c14_3).2 (by decide) (by decide) ?_
      refine g_iloadN X0 hx (hb hby d1_21) rfl ?_
      refine g_iconst X0 hx (2 : Int32) (hb hby d1_22) (by decide) ?_
      by_cases c23_5 : (i1 &&& (3 : Int32)) = (2 : Int32)
      · refine g_icmpNo X0 hx (hb hby d1_23) (teq c23_5).2 ?_
        obtain ⟨T6, X6, e6, st6⟩ := getS2 X0 hx hZ hown (host := "") (Or.inl (hw _ (List.mem_of_getElem? (i := 51) rfl))) Via.refl e0 S_ROTATION_180 (g := (mkF m 26 #[.val (.int i1), .val (.int (i1 &&& (3 : Int32)))] [])) rfl (hb hby d1_26)
        refine Go.mp st6 ?_
        show Go p e below (T6.setTop (mkF m 29 #[.val (.int i1), .val (.int (i1 &&& (3 : Int32)))] [(.ref w_ROTATION_180)])) _
        exact own_retA X6 hx hret hlk rfl rfl (hb hby d1_29) (by decide) (by decide) ⟨by rw [f_rot, if_neg c5_1, if_neg c14_3, if_pos c23_5], N0, e6⟩
      · refine g_icmpYes X0 hx 30 (hb hby d1_23) (feq c23_5).2 (by decide) (by decide) ?_
        obtain ⟨T7, X7, e7, st7⟩ := getS2 X0 hx hZ hown (host := "") (Or.inl (hw _ (List.mem_of_getElem? (i := 41) rfl))) Via.refl e0 S_ROTATION_270 (g := (mkF m 30 #[.val (.int i1), .val (.int (i1 &&& (3 : Int32)))] [])) rfl (hb hby d1_30)
        refine Go.mp st7 ?_
        show Go p e below (T7.setTop (mkF m 33 #[.val (.int i1), .val (.int (i1 &&& (3 : Int32)))] [(.ref w_ROTATION_270)])) _
        exact own_retA X7 hx hret hlk rfl rfl (hb hby d1_33) (by decide) (by decide) ⟨by rw [f_rot, if_neg c5_1, if_neg c14_3, if_neg c23_5], N0, e7⟩
def f_turn (i1 : Int32) (i2 : Int32) : Int32 := (if i1 = (i2 &&& (3 : Int32)) then i1 else (-1 : Int32))
theorem d5_0 : decode method_3_code 0 = .ok (.iload_n 0, 1) := by decide +kernel
theorem d5_1 : decode method_3_code 1 = .ok (.iload_n 1, 1) := by decide +kernel
theorem d5_2 : decode method_3_code 2 = .ok (.iconst 3, 1) := by decide +kernel
theorem d5_3 : decode method_3_code 3 = .ok (.iand, 1) := by decide +kernel
theorem d5_4 : decode method_3_code 4 = .ok (.if_icmp .ne 5, 3) := by decide +kernel
theorem d5_7 : decode method_3_code 7 = .ok (.iload_n 0, 1) := by decide +kernel
theorem d5_8 : decode method_3_code 8 = .ok (.ireturn, 1) := by decide +kernel
theorem d5_9 : decode method_3_code 9 = .ok (.iconst (-1), 1) := by decide +kernel
theorem d5_10 : decode method_3_code 10 = .ok (.ireturn, 1) := by decide +kernel
theorem ef_rm_turn (m : MethodId) (x0 : Int32) (x1 : Int32) : entryFrame m #[(.int x0), (.int x1)] 2 = mkF m 0 #[.val (.int x0), .val (.int x1)] [] := by first | (simp [entryFrame, mkF, argsToLocals, Value.category]; done) | rfl
set_option maxRecDepth 65536 in
set_option maxHeartbeats 40000000 in
theorem rm_turn (l : Launch) (Z : State) (a0 : Array Value) (hw : ∀ d ∈ tables_1, d.before a0 Z = true) (i1 : Int32) (i2 : Int32) (h0 : Heap) (n0 : Nat) (Z0 : n0 ≤ h0.size)  :
    Ctr l (⟨"com/example/reorient/reorient/service/WindowPictureOfPinLaw", "turn", "(II)I"⟩ : MethodName) method_3_code 2 (some FieldType.int) [] ({ frames := 0, cells := 0, slots := 0, locals := 0 } : Room) Z #[(.int i1), (.int i2)] h0 (fun v h L => v = some (.int (f_turn i1 i2)) ∧ Fr n0 L ∧ h = h0) := by
  refine own_enter pn_0 (fun p e s m below meth c s₁ hx hby hml hown hnm hret hlk hZ X0 e0 => ?_)
  have N0 := Fr.nil n0
  rw [ef_rm_turn m _ _]
  show Go p e below (s₁.setTop (mkF m 0 #[.val (.int i1), .val (.int i2)] [])) _
  refine g_iloadN X0 hx (hb hby d5_0) rfl ?_
  refine g_iloadN X0 hx (hb hby d5_1) rfl ?_
  refine g_iconst X0 hx (3 : Int32) (hb hby d5_2) (by decide) ?_
  refine g_iand X0 hx (hb hby d5_3) ?_
  by_cases c4_1 : i1 = (i2 &&& (3 : Int32))
  · refine g_icmpNo X0 hx (hb hby d5_4) (teq c4_1).2 ?_
    refine g_iloadN X0 hx (hb hby d5_7) rfl ?_
    exact own_retI X0 hx hret hlk (hb hby d5_8) (by decide) (by decide) ⟨by rw [f_turn, if_pos c4_1], N0, e0⟩
  · refine g_icmpYes X0 hx 9 (hb hby d5_4) (feq c4_1).2 (by decide) (by decide) ?_
    refine g_iconst X0 hx (-1 : Int32) (hb hby d5_9) (by decide) ?_
    exact own_retI X0 hx hret hlk (hb hby d5_10) (by decide) (by decide) ⟨by rw [f_turn, if_neg c4_1], N0, e0⟩
theorem pn_1 : plainName "com/example/reorient/reorient/service/Window" = true := by first | (simp [plainName, overriddenIn]; done) | decide +kernel
theorem d2_0 : decode prog_79_method_1_code 0 = .ok (.aload_n 0, 1) := by decide +kernel
theorem d2_1 : decode prog_79_method_1_code 1 = .ok (.invokespecial 1, 3) := by decide +kernel
theorem d2_4 : decode prog_79_method_1_code 4 = .ok (.aload_n 0, 1) := by decide +kernel
theorem d2_5 : decode prog_79_method_1_code 5 = .ok (.iconst 1, 1) := by decide +kernel
theorem d2_6 : decode prog_79_method_1_code 6 = .ok (.putfield 7, 3) := by decide +kernel
theorem d2_9 : decode prog_79_method_1_code 9 = .ok (.aload_n 0, 1) := by decide +kernel
theorem d2_10 : decode prog_79_method_1_code 10 = .ok (.getstatic 13, 3) := by decide +kernel
theorem d2_13 : decode prog_79_method_1_code 13 = .ok (.putfield 19, 3) := by decide +kernel
theorem d2_16 : decode prog_79_method_1_code 16 = .ok (.aload_n 0, 1) := by decide +kernel
theorem d2_17 : decode prog_79_method_1_code 17 = .ok (.iconst 0, 1) := by decide +kernel
theorem d2_18 : decode prog_79_method_1_code 18 = .ok (.putfield 22, 3) := by decide +kernel
theorem d2_21 : decode prog_79_method_1_code 21 = .ok (.aload_n 0, 1) := by decide +kernel
theorem d2_22 : decode prog_79_method_1_code 22 = .ok (.iconst 0, 1) := by decide +kernel
theorem d2_23 : decode prog_79_method_1_code 23 = .ok (.putfield 25, 3) := by decide +kernel
theorem d2_26 : decode prog_79_method_1_code 26 = .ok (.aload_n 0, 1) := by decide +kernel
theorem d2_27 : decode prog_79_method_1_code 27 = .ok (.aconst_null, 1) := by decide +kernel
theorem d2_28 : decode prog_79_method_1_code 28 = .ok (.putfield 28, 3) := by decide +kernel
theorem d2_31 : decode prog_79_method_1_code 31 = .ok (.aload_n 0, 1) := by decide +kernel
theorem d2_32 : decode prog_79_method_1_code 32 = .ok (.aload_n 1, 1) := by decide +kernel
theorem d2_33 : decode prog_79_method_1_code 33 = .ok (.putfield 32, 3) := by decide +kernel
theorem d2_36 : decode prog_79_method_1_code 36 = .ok (.aload_n 0, 1) := by decide +kernel
theorem d2_37 : decode prog_79_method_1_code 37 = .ok (.aload_n 2, 1) := by decide +kernel
theorem d2_38 : decode prog_79_method_1_code 38 = .ok (.putfield 36, 3) := by decide +kernel
theorem d2_41 : decode prog_79_method_1_code 41 = .ok (.return_, 1) := by decide +kernel
theorem ef_rm_winInit (m : MethodId) (x0 : Addr) (x1 : Addr) (x2 : Addr) : entryFrame m #[(.ref x0), (.ref x1), (.ref x2)] 3 = mkF m 0 #[.val (.ref x0), .val (.ref x1), .val (.ref x2)] [] := by first | (simp [entryFrame, mkF, argsToLocals, Value.category]; done) | rfl
set_option maxRecDepth 65536 in
set_option maxHeartbeats 40000000 in
theorem rm_winInit (l : Launch) (Z : State) (a0 : Array Value) (hw : ∀ d ∈ tables_1, d.before a0 Z = true) (a1 : Addr) (a2 : Addr) (a3 : Addr) (w_APPLICATION : Addr) (h0 : Heap) (n0 : Nat) (Z0 : n0 ≤ h0.size) (E_a1 : Exa Z h0 a1 "com/example/reorient/reorient/service/Window") (F_a1_visible : Fld Z h0 a1 "com/example/reorient/reorient/service/Window" "visible" "Z" (.int (0 : Int32))) (F_a1_type : Fld Z h0 a1 "com/example/reorient/reorient/service/Window" "type" "Lcom/example/reorient/reorient/model/WindowType;" .null) (F_a1_drawn : Fld Z h0 a1 "com/example/reorient/reorient/service/Window" "drawn" "Z" (.int (0 : Int32))) (F_a1_hidden : Fld Z h0 a1 "com/example/reorient/reorient/service/Window" "hidden" "Z" (.int (0 : Int32))) (F_a1_fadeDone : Fld Z h0 a1 "com/example/reorient/reorient/service/Window" "fadeDone" "Lcom/example/reorient/reorient/service/Clock$Task;" .null) (F_a1_name : Fld Z h0 a1 "com/example/reorient/reorient/service/Window" "name" "Ljava/lang/String;" .null) (F_a1_picture : Fld Z h0 a1 "com/example/reorient/reorient/service/Window" "picture" "Lcom/example/reorient/reorient/model/Rotation;" .null) (g_a1 : n0 ≤ a1) (S_APPLICATION : Sta Z h0 "com/example/reorient/reorient/model/WindowType" "APPLICATION" "Lcom/example/reorient/reorient/model/WindowType;" (.ref w_APPLICATION)) :
    Ctr l (⟨"com/example/reorient/reorient/service/Window", "<init>", "(Ljava/lang/String;Lcom/example/reorient/reorient/model/Rotation;)V"⟩ : MethodName) prog_79_method_1_code 3 none [] ({ frames := 1, cells := 0, slots := 0, locals := 12 } : Room) Z #[(.ref a1), (.ref a2), (.ref a3)] h0 (fun v h L => v = none ∧ Fr n0 L ∧ Keep h0 h [a1] ∧ Fld Z h a1 "com/example/reorient/reorient/service/Window" "drawn" "Z" (.int (0 : Int32)) ∧ Fld Z h a1 "com/example/reorient/reorient/service/Window" "picture" "Lcom/example/reorient/reorient/model/Rotation;" (.ref a3)) := by
  refine own_enter pn_1 (fun p e s m below meth c s₁ hx hby hml hown hnm hret hlk hZ X0 e0 => ?_)
  have N0 := Fr.nil n0
  have K0 := Keep.refl h0 [a1]
  rw [ef_rm_winInit m _ _ _]
  show Go p e below (s₁.setTop (mkF m 0 #[.val (.ref a1), .val (.ref a2), .val (.ref a3)] [])) _
  refine g_aloadN X0 hx (hb hby d2_0) rfl rfl ?_
  obtain ⟨T1, X1, e1, st1⟩ := initO X0 hx hZ hown (hw _ (List.mem_of_getElem? (i := 21) rfl)) (hw _ (List.mem_of_getElem? (i := 22) rfl)) (hw _ (List.mem_of_getElem? (i := 23) rfl)) e0 (g := (mkF m 1 #[.val (.ref a1), .val (.ref a2), .val (.ref a3)] [(.ref a1)])) rfl (by rw [hml]; rfl) rfl (hb hby d2_1) (by decide) (W := 0) (by show 2 * 0 + _ ≤ _; exact Nat.le_of_eq rfl) (by decide)
  refine Go.mp st1 ?_
  show Go p e below (T1.setTop (mkF m 4 #[.val (.ref a1), .val (.ref a2), .val (.ref a3)] [])) _
  refine g_aloadN X1 hx (hb hby d2_4) rfl rfl ?_
  refine g_iconst X1 hx (1 : Int32) (hb hby d2_5) (by decide) ?_
  obtain ⟨T2, h2, X2, e2, W2, st2⟩ := putF X1 hx hZ hown (host := "") (Or.inl (hw _ (List.mem_of_getElem? (i := 24) rfl))) Via.refl e1 F_a1_visible E_a1 (Or.inl (hw _ (List.mem_of_getElem? (i := 25) rfl))) (hw _ (List.mem_of_getElem? (i := 1) rfl)) (ty := FieldType.boolean) (by decide) rfl rfl (g := (mkF m 6 #[.val (.ref a1), .val (.ref a2), .val (.ref a3)] [(.int (1 : Int32)), (.ref a1)])) rfl rfl (hb hby d2_6)
  have N2 := Fr.snoc X2 N0 g_a1
  have E_a1_2 := Exa.wr W2 E_a1
  have F_a1_visible_2 := Fld.same W2 F_a1_visible
  have F_a1_type_2 := Fld.other W2 F_a1_type (Or.inr (slot_ne (Or.inl (hw _ (List.mem_of_getElem? (i := 30) rfl))) (Or.inl (hw _ (List.mem_of_getElem? (i := 25) rfl))) (by decide) (t := (FieldType.object "com/example/reorient/reorient/model/WindowType")) (t' := FieldType.boolean) (by decide) (by decide)))
  have F_a1_drawn_2 := Fld.other W2 F_a1_drawn (Or.inr (slot_ne (Or.inl (hw _ (List.mem_of_getElem? (i := 32) rfl))) (Or.inl (hw _ (List.mem_of_getElem? (i := 25) rfl))) (by decide) (t := FieldType.boolean) (t' := FieldType.boolean) (by decide) (by decide)))
  have F_a1_hidden_2 := Fld.other W2 F_a1_hidden (Or.inr (slot_ne (Or.inl (hw _ (List.mem_of_getElem? (i := 34) rfl))) (Or.inl (hw _ (List.mem_of_getElem? (i := 25) rfl))) (by decide) (t := FieldType.boolean) (t' := FieldType.boolean) (by decide) (by decide)))
  have F_a1_fadeDone_2 := Fld.other W2 F_a1_fadeDone (Or.inr (slot_ne (Or.inl (hw _ (List.mem_of_getElem? (i := 36) rfl))) (Or.inl (hw _ (List.mem_of_getElem? (i := 25) rfl))) (by decide) (t := (FieldType.object "com/example/reorient/reorient/service/Clock$Task")) (t' := FieldType.boolean) (by decide) (by decide)))
  have F_a1_name_2 := Fld.other W2 F_a1_name (Or.inr (slot_ne (Or.inr (hw _ (List.mem_of_getElem? (i := 38) rfl))) (Or.inl (hw _ (List.mem_of_getElem? (i := 25) rfl))) (by decide) (t := (FieldType.object "java/lang/String")) (t' := FieldType.boolean) (by decide) (by decide)))
  have F_a1_picture_2 := Fld.other W2 F_a1_picture (Or.inr (slot_ne (Or.inl (hw _ (List.mem_of_getElem? (i := 40) rfl))) (Or.inl (hw _ (List.mem_of_getElem? (i := 25) rfl))) (by decide) (t := (FieldType.object "com/example/reorient/reorient/model/Rotation")) (t' := FieldType.boolean) (by decide) (by decide)))
  have S_APPLICATION_2 := Sta.wr W2 S_APPLICATION
  have Z2 : n0 ≤ h2.size := Nat.le_trans Z0 (Nat.le_of_eq W2.size.symm)
  have K2 := Keep.wr K0 W2 (Or.inl (List.mem_of_getElem? (i := 0) rfl))
  refine Go.mp st2 ?_
  show Go p e below (T2.setTop (mkF m 9 #[.val (.ref a1), .val (.ref a2), .val (.ref a3)] [])) _
  refine g_aloadN X2 hx (hb hby d2_9) rfl rfl ?_
  obtain ⟨T3, X3, e3, st3⟩ := getS2 X2 hx hZ hown (host := "") (Or.inl (hw _ (List.mem_of_getElem? (i := 26) rfl))) Via.refl e2 S_APPLICATION_2 (g := (mkF m 10 #[.val (.ref a1), .val (.ref a2), .val (.ref a3)] [(.ref a1)])) rfl (hb hby d2_10)
  refine Go.mp st3 ?_
  show Go p e below (T3.setTop (mkF m 13 #[.val (.ref a1), .val (.ref a2), .val (.ref a3)] [(.ref w_APPLICATION), (.ref a1)])) _
  obtain ⟨T4, h4, X4, e4, W4, st4⟩ := putF X3 hx hZ hown (host := "") (Or.inl (hw _ (List.mem_of_getElem? (i := 29) rfl))) Via.refl e3 F_a1_type_2 E_a1_2 (Or.inl (hw _ (List.mem_of_getElem? (i := 30) rfl))) (hw _ (List.mem_of_getElem? (i := 1) rfl)) (ty := (FieldType.object "com/example/reorient/reorient/model/WindowType")) (by decide) rfl rfl (g := (mkF m 13 #[.val (.ref a1), .val (.ref a2), .val (.ref a3)] [(.ref w_APPLICATION), (.ref a1)])) rfl rfl (hb hby d2_13)
  have N4 := Fr.snoc X4 N2 g_a1
  have E_a1_4 := Exa.wr W4 E_a1_2
  have F_a1_visible_4 := Fld.other W4 F_a1_visible_2 (Or.inr (slot_ne (Or.inl (hw _ (List.mem_of_getElem? (i := 25) rfl))) (Or.inl (hw _ (List.mem_of_getElem? (i := 30) rfl))) (by decide) (t := FieldType.boolean) (t' := (FieldType.object "com/example/reorient/reorient/model/WindowType")) (by decide) (by decide)))
  have F_a1_type_4 := Fld.same W4 F_a1_type_2
  have F_a1_drawn_4 := Fld.other W4 F_a1_drawn_2 (Or.inr (slot_ne (Or.inl (hw _ (List.mem_of_getElem? (i := 32) rfl))) (Or.inl (hw _ (List.mem_of_getElem? (i := 30) rfl))) (by decide) (t := FieldType.boolean) (t' := (FieldType.object "com/example/reorient/reorient/model/WindowType")) (by decide) (by decide)))
  have F_a1_hidden_4 := Fld.other W4 F_a1_hidden_2 (Or.inr (slot_ne (Or.inl (hw _ (List.mem_of_getElem? (i := 34) rfl))) (Or.inl (hw _ (List.mem_of_getElem? (i := 30) rfl))) (by decide) (t := FieldType.boolean) (t' := (FieldType.object "com/example/reorient/reorient/model/WindowType")) (by decide) (by decide)))
  have F_a1_fadeDone_4 := Fld.other W4 F_a1_fadeDone_2 (Or.inr (slot_ne (Or.inl (hw _ (List.mem_of_getElem? (i := 36) rfl))) (Or.inl (hw _ (List.mem_of_getElem? (i := 30) rfl))) (by decide) (t := (FieldType.object "com/example/reorient/reorient/service/Clock$Task")) (t' := (FieldType.object "com/example/reorient/reorient/model/WindowType")) (by decide) (by decide)))
  have F_a1_name_4 := Fld.other W4 F_a1_name_2 (Or.inr (slot_ne (Or.inr (hw _ (List.mem_of_getElem? (i := 38) rfl))) (Or.inl (hw _ (List.mem_of_getElem? (i := 30) rfl))) (by decide) (t := (FieldType.object "java/lang/String")) (t' := (FieldType.object "com/example/reorient/reorient/model/WindowType")) (by decide) (by decide)))
  have F_a1_picture_4 := Fld.other W4 F_a1_picture_2 (Or.inr (slot_ne (Or.inl (hw _ (List.mem_of_getElem? (i := 40) rfl))) (Or.inl (hw _ (List.mem_of_getElem? (i := 30) rfl))) (by decide) (t := (FieldType.object "com/example/reorient/reorient/model/Rotation")) (t' := (FieldType.object "com/example/reorient/reorient/model/WindowType")) (by decide) (by decide)))
  have S_APPLICATION_4 := Sta.wr W4 S_APPLICATION_2
  have Z4 : n0 ≤ h4.size := Nat.le_trans Z2 (Nat.le_of_eq W4.size.symm)
  have K4 := Keep.wr K2 W4 (Or.inl (List.mem_of_getElem? (i := 0) rfl))
  refine Go.mp st4 ?_
  show Go p e below (T4.setTop (mkF m 16 #[.val (.ref a1), .val (.ref a2), .val (.ref a3)] [])) _
  refine g_aloadN X4 hx (hb hby d2_16) rfl rfl ?_
  refine g_iconst X4 hx (0 : Int32) (hb hby d2_17) (by decide) ?_
  obtain ⟨T5, h5, X5, e5, W5, st5⟩ := putF X4 hx hZ hown (host := "") (Or.inl (hw _ (List.mem_of_getElem? (i := 31) rfl))) Via.refl e4 F_a1_drawn_4 E_a1_4 (Or.inl (hw _ (List.mem_of_getElem? (i := 32) rfl))) (hw _ (List.mem_of_getElem? (i := 1) rfl)) (ty := FieldType.boolean) (by decide) rfl rfl (g := (mkF m 18 #[.val (.ref a1), .val (.ref a2), .val (.ref a3)] [(.int (0 : Int32)), (.ref a1)])) rfl rfl (hb hby d2_18)
  have N5 := Fr.snoc X5 N4 g_a1
  have E_a1_5 := Exa.wr W5 E_a1_4
  have F_a1_visible_5 := Fld.other W5 F_a1_visible_4 (Or.inr (slot_ne (Or.inl (hw _ (List.mem_of_getElem? (i := 25) rfl))) (Or.inl (hw _ (List.mem_of_getElem? (i := 32) rfl))) (by decide) (t := FieldType.boolean) (t' := FieldType.boolean) (by decide) (by decide)))
  have F_a1_type_5 := Fld.other W5 F_a1_type_4 (Or.inr (slot_ne (Or.inl (hw _ (List.mem_of_getElem? (i := 30) rfl))) (Or.inl (hw _ (List.mem_of_getElem? (i := 32) rfl))) (by decide) (t := (FieldType.object "com/example/reorient/reorient/model/WindowType")) (t' := FieldType.boolean) (by decide) (by decide)))
  have F_a1_drawn_5 := Fld.same W5 F_a1_drawn_4
  have F_a1_hidden_5 := Fld.other W5 F_a1_hidden_4 (Or.inr (slot_ne (Or.inl (hw _ (List.mem_of_getElem? (i := 34) rfl))) (Or.inl (hw _ (List.mem_of_getElem? (i := 32) rfl))) (by decide) (t := FieldType.boolean) (t' := FieldType.boolean) (by decide) (by decide)))
  have F_a1_fadeDone_5 := Fld.other W5 F_a1_fadeDone_4 (Or.inr (slot_ne (Or.inl (hw _ (List.mem_of_getElem? (i := 36) rfl))) (Or.inl (hw _ (List.mem_of_getElem? (i := 32) rfl))) (by decide) (t := (FieldType.object "com/example/reorient/reorient/service/Clock$Task")) (t' := FieldType.boolean) (by decide) (by decide)))
  have F_a1_name_5 := Fld.other W5 F_a1_name_4 (Or.inr (slot_ne (Or.inr (hw _ (List.mem_of_getElem? (i := 38) rfl))) (Or.inl (hw _ (List.mem_of_getElem? (i := 32) rfl))) (by decide) (t := (FieldType.object "java/lang/String")) (t' := FieldType.boolean) (by decide) (by decide)))
  have F_a1_picture_5 := Fld.other W5 F_a1_picture_4 (Or.inr (slot_ne (Or.inl (hw _ (List.mem_of_getElem? (i := 40) rfl))) (Or.inl (hw _ (List.mem_of_getElem? (i := 32) rfl))) (by decide) (t := (FieldType.object "com/example/reorient/reorient/model/Rotation")) (t' := FieldType.boolean) (by decide) (by decide)))
  have S_APPLICATION_5 := Sta.wr W5 S_APPLICATION_4
  have Z5 : n0 ≤ h5.size := Nat.le_trans Z4 (Nat.le_of_eq W5.size.symm)
  have K5 := Keep.wr K4 W5 (Or.inl (List.mem_of_getElem? (i := 0) rfl))
  refine Go.mp st5 ?_
  show Go p e below (T5.setTop (mkF m 21 #[.val (.ref a1), .val (.ref a2), .val (.ref a3)] [])) _
  refine g_aloadN X5 hx (hb hby d2_21) rfl rfl ?_
  refine g_iconst X5 hx (0 : Int32) (hb hby d2_22) (by decide) ?_
  obtain ⟨T6, h6, X6, e6, W6, st6⟩ := putF X5 hx hZ hown (host := "") (Or.inl (hw _ (List.mem_of_getElem? (i := 33) rfl))) Via.refl e5 F_a1_hidden_5 E_a1_5 (Or.inl (hw _ (List.mem_of_getElem? (i := 34) rfl))) (hw _ (List.mem_of_getElem? (i := 1) rfl)) (ty := FieldType.boolean) (by decide) rfl rfl (g := (mkF m 23 #[.val (.ref a1), .val (.ref a2), .val (.ref a3)] [(.int (0 : Int32)), (.ref a1)])) rfl rfl (hb hby d2_23)
  have N6 := Fr.snoc X6 N5 g_a1
  have E_a1_6 := Exa.wr W6 E_a1_5
  have F_a1_visible_6 := Fld.other W6 F_a1_visible_5 (Or.inr (slot_ne (Or.inl (hw _ (List.mem_of_getElem? (i := 25) rfl))) (Or.inl (hw _ (List.mem_of_getElem? (i := 34) rfl))) (by decide) (t := FieldType.boolean) (t' := FieldType.boolean) (by decide) (by decide)))
  have F_a1_type_6 := Fld.other W6 F_a1_type_5 (Or.inr (slot_ne (Or.inl (hw _ (List.mem_of_getElem? (i := 30) rfl))) (Or.inl (hw _ (List.mem_of_getElem? (i := 34) rfl))) (by decide) (t := (FieldType.object "com/example/reorient/reorient/model/WindowType")) (t' := FieldType.boolean) (by decide) (by decide)))
  have F_a1_drawn_6 := Fld.other W6 F_a1_drawn_5 (Or.inr (slot_ne (Or.inl (hw _ (List.mem_of_getElem? (i := 32) rfl))) (Or.inl (hw _ (List.mem_of_getElem? (i := 34) rfl))) (by decide) (t := FieldType.boolean) (t' := FieldType.boolean) (by decide) (by decide)))
  have F_a1_hidden_6 := Fld.same W6 F_a1_hidden_5
  have F_a1_fadeDone_6 := Fld.other W6 F_a1_fadeDone_5 (Or.inr (slot_ne (Or.inl (hw _ (List.mem_of_getElem? (i := 36) rfl))) (Or.inl (hw _ (List.mem_of_getElem? (i := 34) rfl))) (by decide) (t := (FieldType.object "com/example/reorient/reorient/service/Clock$Task")) (t' := FieldType.boolean) (by decide) (by decide)))
  have F_a1_name_6 := Fld.other W6 F_a1_name_5 (Or.inr (slot_ne (Or.inr (hw _ (List.mem_of_getElem? (i := 38) rfl))) (Or.inl (hw _ (List.mem_of_getElem? (i := 34) rfl))) (by decide) (t := (FieldType.object "java/lang/String")) (t' := FieldType.boolean) (by decide) (by decide)))
  have F_a1_picture_6 := Fld.other W6 F_a1_picture_5 (Or.inr (slot_ne (Or.inl (hw _ (List.mem_of_getElem? (i := 40) rfl))) (Or.inl (hw _ (List.mem_of_getElem? (i := 34) rfl))) (by decide) (t := (FieldType.object "com/example/reorient/reorient/model/Rotation")) (t' := FieldType.boolean) (by decide) (by decide)))
  have S_APPLICATION_6 := Sta.wr W6 S_APPLICATION_5
  have Z6 : n0 ≤ h6.size := Nat.le_trans Z5 (Nat.le_of_eq W6.size.symm)
  have K6 := Keep.wr K5 W6 (Or.inl (List.mem_of_getElem? (i := 0) rfl))
  refine Go.mp st6 ?_
  show Go p e below (T6.setTop (mkF m 26 #[.val (.ref a1), .val (.ref a2), .val (.ref a3)] [])) _
  refine g_aloadN X6 hx (hb hby d2_26) rfl rfl ?_
  refine g_null X6 hx (hb hby d2_27) ?_
  obtain ⟨T7, h7, X7, e7, W7, st7⟩ := putF X6 hx hZ hown (host := "") (Or.inl (hw _ (List.mem_of_getElem? (i := 35) rfl))) Via.refl e6 F_a1_fadeDone_6 E_a1_6 (Or.inl (hw _ (List.mem_of_getElem? (i := 36) rfl))) (hw _ (List.mem_of_getElem? (i := 1) rfl)) (ty := (FieldType.object "com/example/reorient/reorient/service/Clock$Task")) (by decide) rfl rfl (g := (mkF m 28 #[.val (.ref a1), .val (.ref a2), .val (.ref a3)] [.null, (.ref a1)])) rfl rfl (hb hby d2_28)
  have N7 := Fr.snoc X7 N6 g_a1
  have E_a1_7 := Exa.wr W7 E_a1_6
  have F_a1_visible_7 := Fld.other W7 F_a1_visible_6 (Or.inr (slot_ne (Or.inl (hw _ (List.mem_of_getElem? (i := 25) rfl))) (Or.inl (hw _ (List.mem_of_getElem? (i := 36) rfl))) (by decide) (t := FieldType.boolean) (t' := (FieldType.object "com/example/reorient/reorient/service/Clock$Task")) (by decide) (by decide)))
  have F_a1_type_7 := Fld.other W7 F_a1_type_6 (Or.inr (slot_ne (Or.inl (hw _ (List.mem_of_getElem? (i := 30) rfl))) (Or.inl (hw _ (List.mem_of_getElem? (i := 36) rfl))) (by decide) (t := (FieldType.object "com/example/reorient/reorient/model/WindowType")) (t' := (FieldType.object "com/example/reorient/reorient/service/Clock$Task")) (by decide) (by decide)))
  have F_a1_drawn_7 := Fld.other W7 F_a1_drawn_6 (Or.inr (slot_ne (Or.inl (hw _ (List.mem_of_getElem? (i := 32) rfl))) (Or.inl (hw _ (List.mem_of_getElem? (i := 36) rfl))) (by decide) (t := FieldType.boolean) (t' := (FieldType.object "com/example/reorient/reorient/service/Clock$Task")) (by decide) (by decide)))
  have F_a1_hidden_7 := Fld.other W7 F_a1_hidden_6 (Or.inr (slot_ne (Or.inl (hw _ (List.mem_of_getElem? (i := 34) rfl))) (Or.inl (hw _ (List.mem_of_getElem? (i := 36) rfl))) (by decide) (t := FieldType.boolean) (t' := (FieldType.object "com/example/reorient/reorient/service/Clock$Task")) (by decide) (by decide)))
  have F_a1_fadeDone_7 := Fld.same W7 F_a1_fadeDone_6
  have F_a1_name_7 := Fld.other W7 F_a1_name_6 (Or.inr (slot_ne (Or.inr (hw _ (List.mem_of_getElem? (i := 38) rfl))) (Or.inl (hw _ (List.mem_of_getElem? (i := 36) rfl))) (by decide) (t := (FieldType.object "java/lang/String")) (t' := (FieldType.object "com/example/reorient/reorient/service/Clock$Task")) (by decide) (by decide)))
  have F_a1_picture_7 := Fld.other W7 F_a1_picture_6 (Or.inr (slot_ne (Or.inl (hw _ (List.mem_of_getElem? (i := 40) rfl))) (Or.inl (hw _ (List.mem_of_getElem? (i := 36) rfl))) (by decide) (t := (FieldType.object "com/example/reorient/reorient/model/Rotation")) (t' := (FieldType.object "com/example/reorient/reorient/service/Clock$Task")) (by decide) (by decide)))
  have S_APPLICATION_7 := Sta.wr W7 S_APPLICATION_6
  have Z7 : n0 ≤ h7.size := Nat.le_trans Z6 (Nat.le_of_eq W7.size.symm)
  have K7 := Keep.wr K6 W7 (Or.inl (List.mem_of_getElem? (i := 0) rfl))
  refine Go.mp st7 ?_
  show Go p e below (T7.setTop (mkF m 31 #[.val (.ref a1), .val (.ref a2), .val (.ref a3)] [])) _
  refine g_aloadN X7 hx (hb hby d2_31) rfl rfl ?_
  refine g_aloadN X7 hx (hb hby d2_32) rfl rfl ?_
  obtain ⟨T8, h8, X8, e8, W8, st8⟩ := putF X7 hx hZ hown (host := "") (Or.inl (hw _ (List.mem_of_getElem? (i := 37) rfl))) Via.refl e7 F_a1_name_7 E_a1_7 (Or.inr ⟨(hw _ (List.mem_of_getElem? (i := 38) rfl)), rfl, hnm⟩) (hw _ (List.mem_of_getElem? (i := 1) rfl)) (ty := (FieldType.object "java/lang/String")) (by decide) rfl rfl (g := (mkF m 33 #[.val (.ref a1), .val (.ref a2), .val (.ref a3)] [(.ref a2), (.ref a1)])) rfl rfl (hb hby d2_33)
  have N8 := Fr.snoc X8 N7 g_a1
  have E_a1_8 := Exa.wr W8 E_a1_7
  have F_a1_visible_8 := Fld.other W8 F_a1_visible_7 (Or.inr (slot_ne (Or.inl (hw _ (List.mem_of_getElem? (i := 25) rfl))) (Or.inr (hw _ (List.mem_of_getElem? (i := 38) rfl))) (by decide) (t := FieldType.boolean) (t' := (FieldType.object "java/lang/String")) (by decide) (by decide)))
  have F_a1_type_8 := Fld.other W8 F_a1_type_7 (Or.inr (slot_ne (Or.inl (hw _ (List.mem_of_getElem? (i := 30) rfl))) (Or.inr (hw _ (List.mem_of_getElem? (i := 38) rfl))) (by decide) (t := (FieldType.object "com/example/reorient/reorient/model/WindowType")) (t' := (FieldType.object "java/lang/String")) (by decide) (by decide)))
  have F_a1_drawn_8 := Fld.other W8 F_a1_drawn_7 (Or.inr (slot_ne (Or.inl (hw _ (List.mem_of_getElem? (i := 32) rfl))) (Or.inr (hw _ (List.mem_of_getElem? (i := 38) rfl))) (by decide) (t := FieldType.boolean) (t' := (FieldType.object "java/lang/String")) (by decide) (by decide)))
  have F_a1_hidden_8 := Fld.other W8 F_a1_hidden_7 (Or.inr (slot_ne (Or.inl (hw _ (List.mem_of_getElem? (i := 34) rfl))) (Or.inr (hw _ (List.mem_of_getElem? (i := 38) rfl))) (by decide) (t := FieldType.boolean) (t' := (FieldType.object "java/lang/String")) (by decide) (by decide)))
  have F_a1_fadeDone_8 := Fld.other W8 F_a1_fadeDone_7 (Or.inr (slot_ne (Or.inl (hw _ (List.mem_of_getElem? (i := 36) rfl))) (Or.inr (hw _ (List.mem_of_getElem? (i := 38) rfl))) (by decide) (t := (FieldType.object "com/example/reorient/reorient/service/Clock$Task")) (t' := (FieldType.object "java/lang/String")) (by decide) (by decide)))
  have F_a1_name_8 := Fld.same W8 F_a1_name_7
  have F_a1_picture_8 := Fld.other W8 F_a1_picture_7 (Or.inr (slot_ne (Or.inl (hw _ (List.mem_of_getElem? (i := 40) rfl))) (Or.inr (hw _ (List.mem_of_getElem? (i := 38) rfl))) (by decide) (t := (FieldType.object "com/example/reorient/reorient/model/Rotation")) (t' := (FieldType.object "java/lang/String")) (by decide) (by decide)))
  have S_APPLICATION_8 := Sta.wr W8 S_APPLICATION_7
  have Z8 : n0 ≤ h8.size := Nat.le_trans Z7 (Nat.le_of_eq W8.size.symm)
  have K8 := Keep.wr K7 W8 (Or.inl (List.mem_of_getElem? (i := 0) rfl))
  refine Go.mp st8 ?_
  show Go p e below (T8.setTop (mkF m 36 #[.val (.ref a1), .val (.ref a2), .val (.ref a3)] [])) _
  refine g_aloadN X8 hx (hb hby d2_36) rfl rfl ?_
  refine g_aloadN X8 hx (hb hby d2_37) rfl rfl ?_
  obtain ⟨T9, h9, X9, e9, W9, st9⟩ := putF X8 hx hZ hown (host := "") (Or.inl (hw _ (List.mem_of_getElem? (i := 39) rfl))) Via.refl e8 F_a1_picture_8 E_a1_8 (Or.inl (hw _ (List.mem_of_getElem? (i := 40) rfl))) (hw _ (List.mem_of_getElem? (i := 1) rfl)) (ty := (FieldType.object "com/example/reorient/reorient/model/Rotation")) (by decide) rfl rfl (g := (mkF m 38 #[.val (.ref a1), .val (.ref a2), .val (.ref a3)] [(.ref a3), (.ref a1)])) rfl rfl (hb hby d2_38)
  have N9 := Fr.snoc X9 N8 g_a1
  have E_a1_9 := Exa.wr W9 E_a1_8
  have F_a1_visible_9 := Fld.other W9 F_a1_visible_8 (Or.inr (slot_ne (Or.inl (hw _ (List.mem_of_getElem? (i := 25) rfl))) (Or.inl (hw _ (List.mem_of_getElem? (i := 40) rfl))) (by decide) (t := FieldType.boolean) (t' := (FieldType.object "com/example/reorient/reorient/model/Rotation")) (by decide) (by decide)))
  have F_a1_type_9 := Fld.other W9 F_a1_type_8 (Or.inr (slot_ne (Or.inl (hw _ (List.mem_of_getElem? (i := 30) rfl))) (Or.inl (hw _ (List.mem_of_getElem? (i := 40) rfl))) (by decide) (t := (FieldType.object "com/example/reorient/reorient/model/WindowType")) (t' := (FieldType.object "com/example/reorient/reorient/model/Rotation")) (by decide) (by decide)))
  have F_a1_drawn_9 := Fld.other W9 F_a1_drawn_8 (Or.inr (slot_ne (Or.inl (hw _ (List.mem_of_getElem? (i := 32) rfl))) (Or.inl (hw _ (List.mem_of_getElem? (i := 40) rfl))) (by decide) (t := FieldType.boolean) (t' := (FieldType.object "com/example/reorient/reorient/model/Rotation")) (by decide) (by decide)))
  have F_a1_hidden_9 := Fld.other W9 F_a1_hidden_8 (Or.inr (slot_ne (Or.inl (hw _ (List.mem_of_getElem? (i := 34) rfl))) (Or.inl (hw _ (List.mem_of_getElem? (i := 40) rfl))) (by decide) (t := FieldType.boolean) (t' := (FieldType.object "com/example/reorient/reorient/model/Rotation")) (by decide) (by decide)))
  have F_a1_fadeDone_9 := Fld.other W9 F_a1_fadeDone_8 (Or.inr (slot_ne (Or.inl (hw _ (List.mem_of_getElem? (i := 36) rfl))) (Or.inl (hw _ (List.mem_of_getElem? (i := 40) rfl))) (by decide) (t := (FieldType.object "com/example/reorient/reorient/service/Clock$Task")) (t' := (FieldType.object "com/example/reorient/reorient/model/Rotation")) (by decide) (by decide)))
  have F_a1_name_9 := Fld.other W9 F_a1_name_8 (Or.inr (slot_ne (Or.inr (hw _ (List.mem_of_getElem? (i := 38) rfl))) (Or.inl (hw _ (List.mem_of_getElem? (i := 40) rfl))) (by decide) (t := (FieldType.object "java/lang/String")) (t' := (FieldType.object "com/example/reorient/reorient/model/Rotation")) (by decide) (by decide)))
  have F_a1_picture_9 := Fld.same W9 F_a1_picture_8
  have S_APPLICATION_9 := Sta.wr W9 S_APPLICATION_8
  have Z9 : n0 ≤ h9.size := Nat.le_trans Z8 (Nat.le_of_eq W9.size.symm)
  have K9 := Keep.wr K8 W9 (Or.inl (List.mem_of_getElem? (i := 0) rfl))
  refine Go.mp st9 ?_
  show Go p e below (T9.setTop (mkF m 41 #[.val (.ref a1), .val (.ref a2), .val (.ref a3)] [])) _
  exact own_retV X9 hx hret hlk (hb hby d2_41) (by decide) (by decide) (by rw [e9]; exact ⟨rfl, N9, K9, F_a1_drawn_9, F_a1_picture_9⟩)
def f_turnTo_a1_picture (a1 : Addr) (a2 : Addr) (pv : Value) (dz : Int32) : Value := (if pv = (.ref a2) then pv else .null)
theorem d4_0 : decode prog_79_method_12_code 0 = .ok (.aload_n 0, 1) := by decide +kernel
theorem d4_1 : decode prog_79_method_12_code 1 = .ok (.getfield 36, 3) := by decide +kernel
theorem d4_4 : decode prog_79_method_12_code 4 = .ok (.aload_n 1, 1) := by decide +kernel
theorem d4_5 : decode prog_79_method_12_code 5 = .ok (.if_acmp .eq 8, 3) := by decide +kernel
theorem d4_8 : decode prog_79_method_12_code 8 = .ok (.aload_n 0, 1) := by decide +kernel
theorem d4_9 : decode prog_79_method_12_code 9 = .ok (.aconst_null, 1) := by decide +kernel
theorem d4_10 : decode prog_79_method_12_code 10 = .ok (.putfield 36, 3) := by decide +kernel
theorem d4_13 : decode prog_79_method_12_code 13 = .ok (.return_, 1) := by decide +kernel
theorem ef_rm_turnTo (m : MethodId) (x0 : Addr) (x1 : Addr) : entryFrame m #[(.ref x0), (.ref x1)] 2 = mkF m 0 #[.val (.ref x0), .val (.ref x1)] [] := by first | (simp [entryFrame, mkF, argsToLocals, Value.category]; done) | rfl
set_option maxRecDepth 65536 in
set_option maxHeartbeats 40000000 in
theorem rm_turnTo (l : Launch) (Z : State) (a0 : Array Value) (hw : ∀ d ∈ tables_1, d.before a0 Z = true) (a1 : Addr) (a2 : Addr) (pv : Value) (dz : Int32) (h0 : Heap) (n0 : Nat) (Z0 : n0 ≤ h0.size) (hpv : pv.isRef = true) (E_a1 : Exa Z h0 a1 "com/example/reorient/reorient/service/Window") (F_a1_drawn : Fld Z h0 a1 "com/example/reorient/reorient/service/Window" "drawn" "Z" (.int dz)) (F_a1_picture : Fld Z h0 a1 "com/example/reorient/reorient/service/Window" "picture" "Lcom/example/reorient/reorient/model/Rotation;" pv) (g_a1 : n0 ≤ a1) :
    Ctr l (⟨"com/example/reorient/reorient/service/Window", "turnTo", "(Lcom/example/reorient/reorient/model/Rotation;)V"⟩ : MethodName) prog_79_method_12_code 2 none [] ({ frames := 0, cells := 0, slots := 0, locals := 0 } : Room) Z #[(.ref a1), (.ref a2)] h0 (fun v h L => v = none ∧ Fr n0 L ∧ Keep h0 h [a1] ∧ Fld Z h a1 "com/example/reorient/reorient/service/Window" "drawn" "Z" (.int dz) ∧ Fld Z h a1 "com/example/reorient/reorient/service/Window" "picture" "Lcom/example/reorient/reorient/model/Rotation;" (f_turnTo_a1_picture a1 a2 pv dz)) := by
  refine own_enter pn_1 (fun p e s m below meth c s₁ hx hby hml hown hnm hret hlk hZ X0 e0 => ?_)
  have N0 := Fr.nil n0
  have K0 := Keep.refl h0 [a1]
  rw [ef_rm_turnTo m _ _]
  show Go p e below (s₁.setTop (mkF m 0 #[.val (.ref a1), .val (.ref a2)] [])) _
  refine g_aloadN X0 hx (hb hby d4_0) rfl rfl ?_
  obtain ⟨T1, X1, e1, st1⟩ := getF X0 hx hZ hown (host := "") (Or.inl (hw _ (List.mem_of_getElem? (i := 39) rfl))) Via.refl e0 F_a1_picture (g := (mkF m 1 #[.val (.ref a1), .val (.ref a2)] [(.ref a1)])) rfl rfl (hb hby d4_1)
  refine Go.mp st1 ?_
  show Go p e below (T1.setTop (mkF m 4 #[.val (.ref a1), .val (.ref a2)] [pv])) _
  refine g_aloadN X1 hx (hb hby d4_4) rfl rfl ?_
  by_cases c5_2 : pv = (.ref a2)
  · refine g_acmp X1 hx 13 true hpv rfl (hb hby d4_5) (decide_eq_true c5_2) (by decide) (by decide) ?_
    exact own_retV X1 hx hret hlk (hb hby d4_13) (by decide) (by decide) (by rw [e1]; exact ⟨rfl, N0, K0, F_a1_drawn, (by rw [f_turnTo_a1_picture, if_pos c5_2]; exact F_a1_picture)⟩)
  · refine g_acmp X1 hx 8 false hpv rfl (hb hby d4_5) (decide_eq_false c5_2) (by decide) (by decide) ?_
    refine g_aloadN X1 hx (hb hby d4_8) rfl rfl ?_
    refine g_null X1 hx (hb hby d4_9) ?_
    obtain ⟨T3, h3, X3, e3, W3, st3⟩ := putF X1 hx hZ hown (host := "") (Or.inl (hw _ (List.mem_of_getElem? (i := 39) rfl))) Via.refl e1 F_a1_picture E_a1 (Or.inl (hw _ (List.mem_of_getElem? (i := 40) rfl))) (hw _ (List.mem_of_getElem? (i := 1) rfl)) (ty := (FieldType.object "com/example/reorient/reorient/model/Rotation")) (by decide) rfl rfl (g := (mkF m 10 #[.val (.ref a1), .val (.ref a2)] [.null, (.ref a1)])) rfl rfl (hb hby d4_10)
    have N3 := Fr.snoc X3 N0 g_a1
    have E_a1_3 := Exa.wr W3 E_a1
    have F_a1_drawn_3 := Fld.other W3 F_a1_drawn (Or.inr (slot_ne (Or.inl (hw _ (List.mem_of_getElem? (i := 32) rfl))) (Or.inl (hw _ (List.mem_of_getElem? (i := 40) rfl))) (by decide) (t := FieldType.boolean) (t' := (FieldType.object "com/example/reorient/reorient/model/Rotation")) (by decide) (by decide)))
    have F_a1_picture_3 := Fld.same W3 F_a1_picture
    have Z3 : n0 ≤ h3.size := Nat.le_trans Z0 (Nat.le_of_eq W3.size.symm)
    have K3 := Keep.wr K0 W3 (Or.inl (List.mem_of_getElem? (i := 0) rfl))
    refine Go.mp st3 ?_
    show Go p e below (T3.setTop (mkF m 13 #[.val (.ref a1), .val (.ref a2)] [])) _
    exact own_retV X3 hx hret hlk (hb hby d4_13) (by decide) (by decide) (by rw [e3]; exact ⟨rfl, N3, K3, F_a1_drawn_3, (by rw [f_turnTo_a1_picture, if_neg c5_2]; exact F_a1_picture_3)⟩)
theorem d7_0 : decode prog_79_method_10_code 0 = .ok (.aload_n 0, 1) := by decide +kernel
theorem d7_1 : decode prog_79_method_10_code 1 = .ok (.iconst 1, 1) := by decide +kernel
theorem d7_2 : decode prog_79_method_10_code 2 = .ok (.putfield 22, 3) := by decide +kernel
theorem d7_5 : decode prog_79_method_10_code 5 = .ok (.aload_n 0, 1) := by decide +kernel
theorem d7_6 : decode prog_79_method_10_code 6 = .ok (.aload_n 1, 1) := by decide +kernel
theorem d7_7 : decode prog_79_method_10_code 7 = .ok (.putfield 36, 3) := by decide +kernel
theorem d7_10 : decode prog_79_method_10_code 10 = .ok (.return_, 1) := by decide +kernel
theorem ef_rm_reportDrawn (m : MethodId) (x0 : Addr) (x1 : Addr) : entryFrame m #[(.ref x0), (.ref x1)] 2 = mkF m 0 #[.val (.ref x0), .val (.ref x1)] [] := by first | (simp [entryFrame, mkF, argsToLocals, Value.category]; done) | rfl
set_option maxRecDepth 65536 in
set_option maxHeartbeats 40000000 in
theorem rm_reportDrawn (l : Launch) (Z : State) (a0 : Array Value) (hw : ∀ d ∈ tables_1, d.before a0 Z = true) (a1 : Addr) (a2 : Addr) (pv : Value) (dz : Int32) (h0 : Heap) (n0 : Nat) (Z0 : n0 ≤ h0.size) (E_a1 : Exa Z h0 a1 "com/example/reorient/reorient/service/Window") (F_a1_drawn : Fld Z h0 a1 "com/example/reorient/reorient/service/Window" "drawn" "Z" (.int dz)) (F_a1_picture : Fld Z h0 a1 "com/example/reorient/reorient/service/Window" "picture" "Lcom/example/reorient/reorient/model/Rotation;" pv) (g_a1 : n0 ≤ a1) :
    Ctr l (⟨"com/example/reorient/reorient/service/Window", "reportDrawn", "(Lcom/example/reorient/reorient/model/Rotation;)V"⟩ : MethodName) prog_79_method_10_code 2 none [] ({ frames := 0, cells := 0, slots := 0, locals := 0 } : Room) Z #[(.ref a1), (.ref a2)] h0 (fun v h L => v = none ∧ Fr n0 L ∧ Keep h0 h [a1] ∧ Fld Z h a1 "com/example/reorient/reorient/service/Window" "drawn" "Z" (.int (1 : Int32)) ∧ Fld Z h a1 "com/example/reorient/reorient/service/Window" "picture" "Lcom/example/reorient/reorient/model/Rotation;" (.ref a2)) := by
  refine own_enter pn_1 (fun p e s m below meth c s₁ hx hby hml hown hnm hret hlk hZ X0 e0 => ?_)
  have N0 := Fr.nil n0
  have K0 := Keep.refl h0 [a1]
  rw [ef_rm_reportDrawn m _ _]
  show Go p e below (s₁.setTop (mkF m 0 #[.val (.ref a1), .val (.ref a2)] [])) _
  refine g_aloadN X0 hx (hb hby d7_0) rfl rfl ?_
  refine g_iconst X0 hx (1 : Int32) (hb hby d7_1) (by decide) ?_
  obtain ⟨T1, h1, X1, e1, W1, st1⟩ := putF X0 hx hZ hown (host := "") (Or.inl (hw _ (List.mem_of_getElem? (i := 31) rfl))) Via.refl e0 F_a1_drawn E_a1 (Or.inl (hw _ (List.mem_of_getElem? (i := 32) rfl))) (hw _ (List.mem_of_getElem? (i := 1) rfl)) (ty := FieldType.boolean) (by decide) rfl rfl (g := (mkF m 2 #[.val (.ref a1), .val (.ref a2)] [(.int (1 : Int32)), (.ref a1)])) rfl rfl (hb hby d7_2)
  have N1 := Fr.snoc X1 N0 g_a1
  have E_a1_1 := Exa.wr W1 E_a1
  have F_a1_drawn_1 := Fld.same W1 F_a1_drawn
  have F_a1_picture_1 := Fld.other W1 F_a1_picture (Or.inr (slot_ne (Or.inl (hw _ (List.mem_of_getElem? (i := 40) rfl))) (Or.inl (hw _ (List.mem_of_getElem? (i := 32) rfl))) (by decide) (t := (FieldType.object "com/example/reorient/reorient/model/Rotation")) (t' := FieldType.boolean) (by decide) (by decide)))
  have Z1 : n0 ≤ h1.size := Nat.le_trans Z0 (Nat.le_of_eq W1.size.symm)
  have K1 := Keep.wr K0 W1 (Or.inl (List.mem_of_getElem? (i := 0) rfl))
  refine Go.mp st1 ?_
  show Go p e below (T1.setTop (mkF m 5 #[.val (.ref a1), .val (.ref a2)] [])) _
  refine g_aloadN X1 hx (hb hby d7_5) rfl rfl ?_
  refine g_aloadN X1 hx (hb hby d7_6) rfl rfl ?_
  obtain ⟨T2, h2, X2, e2, W2, st2⟩ := putF X1 hx hZ hown (host := "") (Or.inl (hw _ (List.mem_of_getElem? (i := 39) rfl))) Via.refl e1 F_a1_picture_1 E_a1_1 (Or.inl (hw _ (List.mem_of_getElem? (i := 40) rfl))) (hw _ (List.mem_of_getElem? (i := 1) rfl)) (ty := (FieldType.object "com/example/reorient/reorient/model/Rotation")) (by decide) rfl rfl (g := (mkF m 7 #[.val (.ref a1), .val (.ref a2)] [(.ref a2), (.ref a1)])) rfl rfl (hb hby d7_7)
  have N2 := Fr.snoc X2 N1 g_a1
  have E_a1_2 := Exa.wr W2 E_a1_1
  have F_a1_drawn_2 := Fld.other W2 F_a1_drawn_1 (Or.inr (slot_ne (Or.inl (hw _ (List.mem_of_getElem? (i := 32) rfl))) (Or.inl (hw _ (List.mem_of_getElem? (i := 40) rfl))) (by decide) (t := FieldType.boolean) (t' := (FieldType.object "com/example/reorient/reorient/model/Rotation")) (by decide) (by decide)))
  have F_a1_picture_2 := Fld.same W2 F_a1_picture_1
  have Z2 : n0 ≤ h2.size := Nat.le_trans Z1 (Nat.le_of_eq W2.size.symm)
  have K2 := Keep.wr K1 W2 (Or.inl (List.mem_of_getElem? (i := 0) rfl))
  refine Go.mp st2 ?_
  show Go p e below (T2.setTop (mkF m 10 #[.val (.ref a1), .val (.ref a2)] [])) _
  exact own_retV X2 hx hret hlk (hb hby d7_10) (by decide) (by decide) (by rw [e2]; exact ⟨rfl, N2, K2, F_a1_drawn_2, F_a1_picture_2⟩)
def f_pictureOf (a1 : Addr) (a2 : Addr) (pv : Value) : Int32 := (if pv = (.ref a2) then (1 : Int32) else (0 : Int32))
theorem d6_0 : decode prog_79_method_9_code 0 = .ok (.aload_n 0, 1) := by decide +kernel
theorem d6_1 : decode prog_79_method_9_code 1 = .ok (.getfield 36, 3) := by decide +kernel
theorem d6_4 : decode prog_79_method_9_code 4 = .ok (.aload_n 1, 1) := by decide +kernel
theorem d6_5 : decode prog_79_method_9_code 5 = .ok (.if_acmp .ne 7, 3) := by decide +kernel
theorem d6_8 : decode prog_79_method_9_code 8 = .ok (.iconst 1, 1) := by decide +kernel
theorem d6_9 : decode prog_79_method_9_code 9 = .ok (.goto 4, 3) := by decide +kernel
theorem d6_12 : decode prog_79_method_9_code 12 = .ok (.iconst 0, 1) := by decide +kernel
theorem d6_13 : decode prog_79_method_9_code 13 = .ok (.ireturn, 1) := by decide +kernel
theorem ef_rm_pictureOf (m : MethodId) (x0 : Addr) (x1 : Addr) : entryFrame m #[(.ref x0), (.ref x1)] 2 = mkF m 0 #[.val (.ref x0), .val (.ref x1)] [] := by first | (simp [entryFrame, mkF, argsToLocals, Value.category]; done) | rfl
set_option maxRecDepth 65536 in
set_option maxHeartbeats 40000000 in
theorem rm_pictureOf (l : Launch) (Z : State) (a0 : Array Value) (hw : ∀ d ∈ tables_1, d.before a0 Z = true) (a1 : Addr) (a2 : Addr) (pv : Value) (h0 : Heap) (n0 : Nat) (Z0 : n0 ≤ h0.size) (F_a1_picture : Fld Z h0 a1 "com/example/reorient/reorient/service/Window" "picture" "Lcom/example/reorient/reorient/model/Rotation;" pv) (hpv : pv.isRef = true) :
    Ctr l (⟨"com/example/reorient/reorient/service/Window", "pictureOf", "(Lcom/example/reorient/reorient/model/Rotation;)Z"⟩ : MethodName) prog_79_method_9_code 2 (some FieldType.boolean) [] ({ frames := 0, cells := 0, slots := 0, locals := 0 } : Room) Z #[(.ref a1), (.ref a2)] h0 (fun v h L => v = some (.int (f_pictureOf a1 a2 pv)) ∧ Fr n0 L ∧ h = h0) := by
  refine own_enter pn_1 (fun p e s m below meth c s₁ hx hby hml hown hnm hret hlk hZ X0 e0 => ?_)
  have N0 := Fr.nil n0
  rw [ef_rm_pictureOf m _ _]
  show Go p e below (s₁.setTop (mkF m 0 #[.val (.ref a1), .val (.ref a2)] [])) _
  refine g_aloadN X0 hx (hb hby d6_0) rfl rfl ?_
  obtain ⟨T1, X1, e1, st1⟩ := getF X0 hx hZ hown (host := "") (Or.inl (hw _ (List.mem_of_getElem? (i := 39) rfl))) Via.refl e0 F_a1_picture (g := (mkF m 1 #[.val (.ref a1), .val (.ref a2)] [(.ref a1)])) rfl rfl (hb hby d6_1)
  refine Go.mp st1 ?_
  show Go p e below (T1.setTop (mkF m 4 #[.val (.ref a1), .val (.ref a2)] [pv])) _
  refine g_aloadN X1 hx (hb hby d6_4) rfl rfl ?_
  by_cases c5_2 : pv = (.ref a2)
  · refine g_acmp X1 hx 8 true hpv rfl (hb hby d6_5) (decide_eq_true c5_2) (by decide) (by decide) ?_
    refine g_iconst X1 hx (1 : Int32) (hb hby d6_8) (by decide) ?_
    refine g_goto X1 hx 13 (hb hby d6_9) (by decide) (by decide) ?_
    exact own_retZ X1 hx hret hlk (hb hby d6_13) (by decide) (by decide) (by decide) ⟨by rw [f_pictureOf, if_pos c5_2], N0, e1⟩
  · refine g_acmp X1 hx 12 false hpv rfl (hb hby d6_5) (decide_eq_false c5_2) (by decide) (by decide) ?_
    refine g_iconst X1 hx (0 : Int32) (hb hby d6_12) (by decide) ?_
    exact own_retZ X1 hx hret hlk (hb hby d6_13) (by decide) (by decide) (by decide) ⟨by rw [f_pictureOf, if_neg c5_2], N0, e1⟩
def own_P (w0 w1 w2 w3 : Addr) (q : Int32) (v : Value) : Prop := (q = (-1 : Int32) ∧ v = .null) ∨ (q = (0 : Int32) ∧ v = .ref w0) ∨ (q = (1 : Int32) ∧ v = .ref w1) ∨ (q = (2 : Int32) ∧ v = .ref w2) ∨ (q = (3 : Int32) ∧ v = .ref w3)
theorem own_and3 (x : Int32) : (x &&& (3 : Int32)) = (0 : Int32) ∨ (x &&& (3 : Int32)) = (1 : Int32) ∨ (x &&& (3 : Int32)) = (2 : Int32) ∨ (x &&& (3 : Int32)) = (3 : Int32) := by
  have b := c_mask x (3 : Int32) 2 (by decide) (by decide)
  simp only [← Int32.toInt_inj, b, Int32.reduceToInt]
  omega
theorem pd_0 : parseMethodDescriptor "(Lcom/example/reorient/reorient/model/Rotation;)Z" = some ⟨[(FieldType.object "com/example/reorient/reorient/model/Rotation")], some FieldType.boolean⟩ := by decide +kernel
set_option maxRecDepth 65536 in
set_option maxHeartbeats 40000000 in
theorem seg_5 (l : Launch) (Z : State) (a0 : Array Value) (hw : ∀ d ∈ tables_1, d.before a0 Z = true) (p1 : Int32) (p2 : Int32) (p3 : Int32) (p4 : Int32) (p5 : Int32) (p6 : Int32) (a1 : Addr) (pp : Int32) (pv : Value) (dz : Int32) (w_ROTATION_0 : Addr) (w_APPLICATION : Addr) (w_ROTATION_270 : Addr) (w_ROTATION_180 : Addr) (w_ROTATION_90 : Addr) (h0 : Heap) (n0 : Nat) (Z0 : n0 ≤ h0.size) (S_ROTATION_0 : Sta Z h0 "com/example/reorient/reorient/model/Rotation" "ROTATION_0" "Lcom/example/reorient/reorient/model/Rotation;" (.ref w_ROTATION_0)) (E_w_ROTATION_0 : Exa Z h0 w_ROTATION_0 "com/example/reorient/reorient/model/Rotation") (S_APPLICATION : Sta Z h0 "com/example/reorient/reorient/model/WindowType" "APPLICATION" "Lcom/example/reorient/reorient/model/WindowType;" (.ref w_APPLICATION)) (E_w_APPLICATION : Exa Z h0 w_APPLICATION "com/example/reorient/reorient/model/WindowType") (S_ROTATION_270 : Sta Z h0 "com/example/reorient/reorient/model/Rotation" "ROTATION_270" "Lcom/example/reorient/reorient/model/Rotation;" (.ref w_ROTATION_270)) (E_w_ROTATION_270 : Exa Z h0 w_ROTATION_270 "com/example/reorient/reorient/model/Rotation") (S_ROTATION_180 : Sta Z h0 "com/example/reorient/reorient/model/Rotation" "ROTATION_180" "Lcom/example/reorient/reorient/model/Rotation;" (.ref w_ROTATION_180)) (E_w_ROTATION_180 : Exa Z h0 w_ROTATION_180 "com/example/reorient/reorient/model/Rotation") (S_ROTATION_90 : Sta Z h0 "com/example/reorient/reorient/model/Rotation" "ROTATION_90" "Lcom/example/reorient/reorient/model/Rotation;" (.ref w_ROTATION_90)) (E_w_ROTATION_90 : Exa Z h0 w_ROTATION_90 "com/example/reorient/reorient/model/Rotation") (ne_ROTATION_0_ROTATION_270 : ¬ (w_ROTATION_0 = w_ROTATION_270)) (ne_ROTATION_0_ROTATION_90 : ¬ (w_ROTATION_0 = w_ROTATION_90)) (ne_ROTATION_0_ROTATION_180 : ¬ (w_ROTATION_0 = w_ROTATION_180)) (ne_ROTATION_270_ROTATION_90 : ¬ (w_ROTATION_270 = w_ROTATION_90)) (ne_ROTATION_270_ROTATION_180 : ¬ (w_ROTATION_270 = w_ROTATION_180)) (ne_ROTATION_90_ROTATION_180 : ¬ (w_ROTATION_90 = w_ROTATION_180)) (E_a1 : Exa Z h0 a1 "com/example/reorient/reorient/service/Window") (F_a1_picture : Fld Z h0 a1 "com/example/reorient/reorient/service/Window" "picture" "Lcom/example/reorient/reorient/model/Rotation;" pv) (F_a1_drawn : Fld Z h0 a1 "com/example/reorient/reorient/service/Window" "drawn" "Z" (.int dz)) (g_a1 : n0 ≤ a1) (hr : own_P w_ROTATION_0 w_ROTATION_90 w_ROTATION_180 w_ROTATION_270 pp pv) {vm1 : Vm} {k1 : Nat} {p : Program} {e : Env} {s : State} {m : MethodId} {below : List Frame} {meth : Method} {c : Code} {args : Array Value} {s₁ : State} {lo : List Loc} (hx : p.tables.exec = Jvm.exec) (hby : c.code = code) (hml : c.maxLocals = maxLocals) (hown : (s.setVm vm1).vm.findClass "com/example/reorient/reorient/service/WindowPictureOfPinLaw" = some m.cls) (hnm : meth.name = "law") (hret : meth.sig.returnType = ret) (hlk : meth.locks = false) (hZ : Z.Warmed39 (s.setVm vm1).vm) (X0 : Stand p l e room_1 (s.setVm vm1) m args below meth c s₁ lo 3 15) (e0 : s₁.heap = h0) (N0 : Fr n0 lo) (hS : s.Since vm1 k1) (hB : k1 ≤ h0.size) :
    Go p e below (s₁.setTop (mkF m 116 #[.val (.int p1), .val (.int p2), .val (.int p3), .val (.int p4), .val (.int p5), .val (.int p6), .val (.ref a1), .val (.int pp), .unset, .unset, .unset, .unset] [])) (FinW s room_1.cells room_1.slots (fun v h L => v = some (.int 1) ∧ Fr n0 L)) := by
  show Go p e below (s₁.setTop (mkF m 116 #[.val (.int p1), .val (.int p2), .val (.int p3), .val (.int p4), .val (.int p5), .val (.int p6), .val (.ref a1), .val (.int pp), .unset, .unset, .unset, .unset] [])) _
  rcases hr with ⟨rfl, rfl⟩ | ⟨rfl, rfl⟩ | ⟨rfl, rfl⟩ | ⟨rfl, rfl⟩ | ⟨rfl, rfl⟩
  · refine g_aload X0 hx (hb hby at_116) rfl rfl ?_
    obtain ⟨T1, X1, e1, st1⟩ := getS2 X0 hx hZ hown (host := "") (Or.inl (hw _ (List.mem_of_getElem? (i := 15) rfl))) Via.refl e0 S_ROTATION_0 (g := (mkF m 118 #[.val (.int p1), .val (.int p2), .val (.int p3), .val (.int p4), .val (.int p5), .val (.int p6), .val (.ref a1), .val (.int (-1 : Int32)), .unset, .unset, .unset, .unset] [(.ref a1)])) rfl (hb hby at_118)
    refine Go.mp st1 ?_
    show Go p e below (T1.setTop (mkF m 121 #[.val (.int p1), .val (.int p2), .val (.int p3), .val (.int p4), .val (.int p5), .val (.int p6), .val (.ref a1), .val (.int (-1 : Int32)), .unset, .unset, .unset, .unset] [(.ref w_ROTATION_0), (.ref a1)])) _
    obtain ⟨v2, T2, L2, X2, q2, st2⟩ := own_callV X1 hx hZ (y := (⟨"com/example/reorient/reorient/service/Window", "pictureOf", "(Lcom/example/reorient/reorient/model/Rotation;)Z"⟩ : MethodName)) (pc := 121) (Ls := #[.val (.int p1), .val (.int p2), .val (.int p3), .val (.int p4), .val (.int p5), .val (.int p6), .val (.ref a1), .val (.int (-1 : Int32)), .unset, .unset, .unset, .unset]) (st := [(.ref w_ROTATION_0), (.ref a1)]) hown (hw _ (List.mem_of_getElem? (i := 53) rfl)) (hw _ (List.mem_of_getElem? (i := 54) rfl)) (hw _ (List.mem_of_getElem? (i := 56) rfl)) (hw _ (List.mem_of_getElem? (i := 55) rfl)) (hw _ (List.mem_of_getElem? (i := 57) rfl)) (hw _ (List.mem_of_getElem? (i := 2) rfl)) (by decide) (rm_pictureOf l Z a0 hw a1 w_ROTATION_0 .null h0 n0 Z0 F_a1_picture rfl) e1 E_a1 pd_0 (hb hby at_121) (by rw [hml]; rfl) (argsL := [(.ref w_ROTATION_0)]) (rest := []) rfl rfl rfl (W := 0) (Nat.le_of_eq rfl) (by decide) (by decide) (by decide) (by decide)
    obtain ⟨rfl, M2, e2⟩ := q2
    have N2 := Fr.app N0 M2
    have r2 : (f_pictureOf a1 w_ROTATION_0 .null) = (0 : Int32) := by rw [f_pictureOf, if_neg (nofun : ¬ (Value.null = (Value.ref w_ROTATION_0)))]
    rw [r2] at st2
    refine Go.mp st2 ?_
    show Go p e below (T2.setTop (mkF m 124 #[.val (.int p1), .val (.int p2), .val (.int p3), .val (.int p4), .val (.int p5), .val (.int p6), .val (.ref a1), .val (.int (-1 : Int32)), .unset, .unset, .unset, .unset] [(.int (0 : Int32))])) _
    refine g_iload X2 hx (hb hby at_124) rfl ?_
    refine g_ifYes X2 hx 133 (hb hby at_126) ((if0 _ _).trans (feq ((by decide) : ¬ ((-1 : Int32) = (0 : Int32)))).2) (by decide) (by decide) ?_
    refine g_iconst X2 hx (0 : Int32) (hb hby at_133) (by decide) ?_
    refine g_icmpNo X2 hx (hb hby at_134) (teq ((by decide) : (0 : Int32) = (0 : Int32))).2 ?_
    refine g_iconst X2 hx (1 : Int32) (hb hby at_137) (by decide) ?_
    refine g_goto X2 hx 142 (hb hby at_138) (by decide) (by decide) ?_
    refine g_istore X2 hx #[.val (.int p1), .val (.int p2), .val (.int p3), .val (.int p4), .val (.int p5), .val (.int p6), .val (.ref a1), .val (.int (-1 : Int32)), .val (.int (1 : Int32)), .unset, .unset, .unset] (hb hby at_142) rfl ?_
    refine g_aload X2 hx (hb hby at_144) rfl rfl ?_
    obtain ⟨T3, X3, e3, st3⟩ := getS2 X2 hx hZ hown (host := "") (Or.inl (hw _ (List.mem_of_getElem? (i := 58) rfl))) Via.refl e2 S_ROTATION_90 (g := (mkF m 146 #[.val (.int p1), .val (.int p2), .val (.int p3), .val (.int p4), .val (.int p5), .val (.int p6), .val (.ref a1), .val (.int (-1 : Int32)), .val (.int (1 : Int32)), .unset, .unset, .unset] [(.ref a1)])) rfl (hb hby at_146)
    refine Go.mp st3 ?_
    show Go p e below (T3.setTop (mkF m 149 #[.val (.int p1), .val (.int p2), .val (.int p3), .val (.int p4), .val (.int p5), .val (.int p6), .val (.ref a1), .val (.int (-1 : Int32)), .val (.int (1 : Int32)), .unset, .unset, .unset] [(.ref w_ROTATION_90), (.ref a1)])) _
    obtain ⟨v4, T4, L4, X4, q4, st4⟩ := own_callV X3 hx hZ (y := (⟨"com/example/reorient/reorient/service/Window", "pictureOf", "(Lcom/example/reorient/reorient/model/Rotation;)Z"⟩ : MethodName)) (pc := 149) (Ls := #[.val (.int p1), .val (.int p2), .val (.int p3), .val (.int p4), .val (.int p5), .val (.int p6), .val (.ref a1), .val (.int (-1 : Int32)), .val (.int (1 : Int32)), .unset, .unset, .unset]) (st := [(.ref w_ROTATION_90), (.ref a1)]) hown (hw _ (List.mem_of_getElem? (i := 53) rfl)) (hw _ (List.mem_of_getElem? (i := 54) rfl)) (hw _ (List.mem_of_getElem? (i := 56) rfl)) (hw _ (List.mem_of_getElem? (i := 55) rfl)) (hw _ (List.mem_of_getElem? (i := 57) rfl)) (hw _ (List.mem_of_getElem? (i := 2) rfl)) (by decide) (rm_pictureOf l Z a0 hw a1 w_ROTATION_90 .null h0 n0 Z0 F_a1_picture rfl) e3 E_a1 pd_0 (hb hby at_149) (by rw [hml]; rfl) (argsL := [(.ref w_ROTATION_90)]) (rest := []) rfl rfl rfl (W := 0) (Nat.le_of_eq rfl) (by decide) (by decide) (by decide) (by decide)
    obtain ⟨rfl, M4, e4⟩ := q4
    have N4 := Fr.app N2 M4
    have r4 : (f_pictureOf a1 w_ROTATION_90 .null) = (0 : Int32) := by rw [f_pictureOf, if_neg (nofun : ¬ (Value.null = (Value.ref w_ROTATION_90)))]
    rw [r4] at st4
    refine Go.mp st4 ?_
    show Go p e below (T4.setTop (mkF m 152 #[.val (.int p1), .val (.int p2), .val (.int p3), .val (.int p4), .val (.int p5), .val (.int p6), .val (.ref a1), .val (.int (-1 : Int32)), .val (.int (1 : Int32)), .unset, .unset, .unset] [(.int (0 : Int32))])) _
    refine g_iload X4 hx (hb hby at_152) rfl ?_
    refine g_iconst X4 hx (1 : Int32) (hb hby at_154) (by decide) ?_
    refine g_icmpYes X4 hx 162 (hb hby at_155) (feq ((by decide) : ¬ ((-1 : Int32) = (1 : Int32)))).2 (by decide) (by decide) ?_
    refine g_iconst X4 hx (0 : Int32) (hb hby at_162) (by decide) ?_
    refine g_icmpNo X4 hx (hb hby at_163) (teq ((by decide) : (0 : Int32) = (0 : Int32))).2 ?_
    refine g_iconst X4 hx (1 : Int32) (hb hby at_166) (by decide) ?_
    refine g_goto X4 hx 171 (hb hby at_167) (by decide) (by decide) ?_
    refine g_istore X4 hx #[.val (.int p1), .val (.int p2), .val (.int p3), .val (.int p4), .val (.int p5), .val (.int p6), .val (.ref a1), .val (.int (-1 : Int32)), .val (.int (1 : Int32)), .val (.int (1 : Int32)), .unset, .unset] (hb hby at_171) rfl ?_
    refine g_aload X4 hx (hb hby at_173) rfl rfl ?_
    obtain ⟨T5, X5, e5, st5⟩ := getS2 X4 hx hZ hown (host := "") (Or.inl (hw _ (List.mem_of_getElem? (i := 51) rfl))) Via.refl e4 S_ROTATION_180 (g := (mkF m 175 #[.val (.int p1), .val (.int p2), .val (.int p3), .val (.int p4), .val (.int p5), .val (.int p6), .val (.ref a1), .val (.int (-1 : Int32)), .val (.int (1 : Int32)), .val (.int (1 : Int32)), .unset, .unset] [(.ref a1)])) rfl (hb hby at_175)
    refine Go.mp st5 ?_
    show Go p e below (T5.setTop (mkF m 178 #[.val (.int p1), .val (.int p2), .val (.int p3), .val (.int p4), .val (.int p5), .val (.int p6), .val (.ref a1), .val (.int (-1 : Int32)), .val (.int (1 : Int32)), .val (.int (1 : Int32)), .unset, .unset] [(.ref w_ROTATION_180), (.ref a1)])) _
    obtain ⟨v6, T6, L6, X6, q6, st6⟩ := own_callV X5 hx hZ (y := (⟨"com/example/reorient/reorient/service/Window", "pictureOf", "(Lcom/example/reorient/reorient/model/Rotation;)Z"⟩ : MethodName)) (pc := 178) (Ls := #[.val (.int p1), .val (.int p2), .val (.int p3), .val (.int p4), .val (.int p5), .val (.int p6), .val (.ref a1), .val (.int (-1 : Int32)), .val (.int (1 : Int32)), .val (.int (1 : Int32)), .unset, .unset]) (st := [(.ref w_ROTATION_180), (.ref a1)]) hown (hw _ (List.mem_of_getElem? (i := 53) rfl)) (hw _ (List.mem_of_getElem? (i := 54) rfl)) (hw _ (List.mem_of_getElem? (i := 56) rfl)) (hw _ (List.mem_of_getElem? (i := 55) rfl)) (hw _ (List.mem_of_getElem? (i := 57) rfl)) (hw _ (List.mem_of_getElem? (i := 2) rfl)) (by decide) (rm_pictureOf l Z a0 hw a1 w_ROTATION_180 .null h0 n0 Z0 F_a1_picture rfl) e5 E_a1 pd_0 (hb hby at_178) (by rw [hml]; rfl) (argsL := [(.ref w_ROTATION_180)]) (rest := []) rfl rfl rfl (W := 0) (Nat.le_of_eq rfl) (by decide) (by decide) (by decide) (by decide)
    obtain ⟨rfl, M6, e6⟩ := q6
    have N6 := Fr.app N4 M6
    have r6 : (f_pictureOf a1 w_ROTATION_180 .null) = (0 : Int32) := by rw [f_pictureOf, if_neg (nofun : ¬ (Value.null = (Value.ref w_ROTATION_180)))]
    rw [r6] at st6
    refine Go.mp st6 ?_
    show Go p e below (T6.setTop (mkF m 181 #[.val (.int p1), .val (.int p2), .val (.int p3), .val (.int p4), .val (.int p5), .val (.int p6), .val (.ref a1), .val (.int (-1 : Int32)), .val (.int (1 : Int32)), .val (.int (1 : Int32)), .unset, .unset] [(.int (0 : Int32))])) _
    refine g_iload X6 hx (hb hby at_181) rfl ?_
    refine g_iconst X6 hx (2 : Int32) (hb hby at_183) (by decide) ?_
    refine g_icmpYes X6 hx 191 (hb hby at_184) (feq ((by decide) : ¬ ((-1 : Int32) = (2 : Int32)))).2 (by decide) (by decide) ?_
    refine g_iconst X6 hx (0 : Int32) (hb hby at_191) (by decide) ?_
    refine g_icmpNo X6 hx (hb hby at_192) (teq ((by decide) : (0 : Int32) = (0 : Int32))).2 ?_
    refine g_iconst X6 hx (1 : Int32) (hb hby at_195) (by decide) ?_
    refine g_goto X6 hx 200 (hb hby at_196) (by decide) (by decide) ?_
    refine g_istore X6 hx #[.val (.int p1), .val (.int p2), .val (.int p3), .val (.int p4), .val (.int p5), .val (.int p6), .val (.ref a1), .val (.int (-1 : Int32)), .val (.int (1 : Int32)), .val (.int (1 : Int32)), .val (.int (1 : Int32)), .unset] (hb hby at_200) rfl ?_
    refine g_aload X6 hx (hb hby at_202) rfl rfl ?_
    obtain ⟨T7, X7, e7, st7⟩ := getS2 X6 hx hZ hown (host := "") (Or.inl (hw _ (List.mem_of_getElem? (i := 41) rfl))) Via.refl e6 S_ROTATION_270 (g := (mkF m 204 #[.val (.int p1), .val (.int p2), .val (.int p3), .val (.int p4), .val (.int p5), .val (.int p6), .val (.ref a1), .val (.int (-1 : Int32)), .val (.int (1 : Int32)), .val (.int (1 : Int32)), .val (.int (1 : Int32)), .unset] [(.ref a1)])) rfl (hb hby at_204)
    refine Go.mp st7 ?_
    show Go p e below (T7.setTop (mkF m 207 #[.val (.int p1), .val (.int p2), .val (.int p3), .val (.int p4), .val (.int p5), .val (.int p6), .val (.ref a1), .val (.int (-1 : Int32)), .val (.int (1 : Int32)), .val (.int (1 : Int32)), .val (.int (1 : Int32)), .unset] [(.ref w_ROTATION_270), (.ref a1)])) _
    obtain ⟨v8, T8, L8, X8, q8, st8⟩ := own_callV X7 hx hZ (y := (⟨"com/example/reorient/reorient/service/Window", "pictureOf", "(Lcom/example/reorient/reorient/model/Rotation;)Z"⟩ : MethodName)) (pc := 207) (Ls := #[.val (.int p1), .val (.int p2), .val (.int p3), .val (.int p4), .val (.int p5), .val (.int p6), .val (.ref a1), .val (.int (-1 : Int32)), .val (.int (1 : Int32)), .val (.int (1 : Int32)), .val (.int (1 : Int32)), .unset]) (st := [(.ref w_ROTATION_270), (.ref a1)]) hown (hw _ (List.mem_of_getElem? (i := 53) rfl)) (hw _ (List.mem_of_getElem? (i := 54) rfl)) (hw _ (List.mem_of_getElem? (i := 56) rfl)) (hw _ (List.mem_of_getElem? (i := 55) rfl)) (hw _ (List.mem_of_getElem? (i := 57) rfl)) (hw _ (List.mem_of_getElem? (i := 2) rfl)) (by decide) (rm_pictureOf l Z a0 hw a1 w_ROTATION_270 .null h0 n0 Z0 F_a1_picture rfl) e7 E_a1 pd_0 (hb hby at_207) (by rw [hml]; rfl) (argsL := [(.ref w_ROTATION_270)]) (rest := []) rfl rfl rfl (W := 0) (Nat.le_of_eq rfl) (by decide) (by decide) (by decide) (by decide)
    obtain ⟨rfl, M8, e8⟩ := q8
    have N8 := Fr.app N6 M8
    have r8 : (f_pictureOf a1 w_ROTATION_270 .null) = (0 : Int32) := by rw [f_pictureOf, if_neg (nofun : ¬ (Value.null = (Value.ref w_ROTATION_270)))]
    rw [r8] at st8
    refine Go.mp st8 ?_
    show Go p e below (T8.setTop (mkF m 210 #[.val (.int p1), .val (.int p2), .val (.int p3), .val (.int p4), .val (.int p5), .val (.int p6), .val (.ref a1), .val (.int (-1 : Int32)), .val (.int (1 : Int32)), .val (.int (1 : Int32)), .val (.int (1 : Int32)), .unset] [(.int (0 : Int32))])) _
    refine g_iload X8 hx (hb hby at_210) rfl ?_
    refine g_iconst X8 hx (3 : Int32) (hb hby at_212) (by decide) ?_
    refine g_icmpYes X8 hx 220 (hb hby at_213) (feq ((by decide) : ¬ ((-1 : Int32) = (3 : Int32)))).2 (by decide) (by decide) ?_
    refine g_iconst X8 hx (0 : Int32) (hb hby at_220) (by decide) ?_
    refine g_icmpNo X8 hx (hb hby at_221) (teq ((by decide) : (0 : Int32) = (0 : Int32))).2 ?_
    refine g_iconst X8 hx (1 : Int32) (hb hby at_224) (by decide) ?_
    refine g_goto X8 hx 229 (hb hby at_225) (by decide) (by decide) ?_
    refine g_istore X8 hx #[.val (.int p1), .val (.int p2), .val (.int p3), .val (.int p4), .val (.int p5), .val (.int p6), .val (.ref a1), .val (.int (-1 : Int32)), .val (.int (1 : Int32)), .val (.int (1 : Int32)), .val (.int (1 : Int32)), .val (.int (1 : Int32))] (hb hby at_229) rfl ?_
    refine g_iload X8 hx (hb hby at_231) rfl ?_
    refine g_ifNo X8 hx (hb hby at_233) ((if0 _ _).trans (feq ((by decide) : ¬ ((1 : Int32) = (0 : Int32)))).1) ?_
    refine g_iload X8 hx (hb hby at_236) rfl ?_
    refine g_ifNo X8 hx (hb hby at_238) ((if0 _ _).trans (feq ((by decide) : ¬ ((1 : Int32) = (0 : Int32)))).1) ?_
    refine g_iload X8 hx (hb hby at_241) rfl ?_
    refine g_ifNo X8 hx (hb hby at_243) ((if0 _ _).trans (feq ((by decide) : ¬ ((1 : Int32) = (0 : Int32)))).1) ?_
    refine g_iload X8 hx (hb hby at_246) rfl ?_
    refine g_ifNo X8 hx (hb hby at_248) ((if0 _ _).trans (feq ((by decide) : ¬ ((1 : Int32) = (0 : Int32)))).1) ?_
    refine g_iconst X8 hx (1 : Int32) (hb hby at_251) (by decide) ?_
    refine g_goto X8 hx 256 (hb hby at_252) (by decide) (by decide) ?_
    exact own_retZW X8 hx hret hlk hS (by rw [e8]; exact hB) (hb hby at_256) (by decide) (by decide) (by decide) ⟨rfl, N8⟩
  · refine g_aload X0 hx (hb hby at_116) rfl rfl ?_
    obtain ⟨T9, X9, e9, st9⟩ := getS2 X0 hx hZ hown (host := "") (Or.inl (hw _ (List.mem_of_getElem? (i := 15) rfl))) Via.refl e0 S_ROTATION_0 (g := (mkF m 118 #[.val (.int p1), .val (.int p2), .val (.int p3), .val (.int p4), .val (.int p5), .val (.int p6), .val (.ref a1), .val (.int (0 : Int32)), .unset, .unset, .unset, .unset] [(.ref a1)])) rfl (hb hby at_118)
    refine Go.mp st9 ?_
    show Go p e below (T9.setTop (mkF m 121 #[.val (.int p1), .val (.int p2), .val (.int p3), .val (.int p4), .val (.int p5), .val (.int p6), .val (.ref a1), .val (.int (0 : Int32)), .unset, .unset, .unset, .unset] [(.ref w_ROTATION_0), (.ref a1)])) _
    obtain ⟨v10, T10, L10, X10, q10, st10⟩ := own_callV X9 hx hZ (y := (⟨"com/example/reorient/reorient/service/Window", "pictureOf", "(Lcom/example/reorient/reorient/model/Rotation;)Z"⟩ : MethodName)) (pc := 121) (Ls := #[.val (.int p1), .val (.int p2), .val (.int p3), .val (.int p4), .val (.int p5), .val (.int p6), .val (.ref a1), .val (.int (0 : Int32)), .unset, .unset, .unset, .unset]) (st := [(.ref w_ROTATION_0), (.ref a1)]) hown (hw _ (List.mem_of_getElem? (i := 53) rfl)) (hw _ (List.mem_of_getElem? (i := 54) rfl)) (hw _ (List.mem_of_getElem? (i := 56) rfl)) (hw _ (List.mem_of_getElem? (i := 55) rfl)) (hw _ (List.mem_of_getElem? (i := 57) rfl)) (hw _ (List.mem_of_getElem? (i := 2) rfl)) (by decide) (rm_pictureOf l Z a0 hw a1 w_ROTATION_0 (.ref w_ROTATION_0) h0 n0 Z0 F_a1_picture rfl) e9 E_a1 pd_0 (hb hby at_121) (by rw [hml]; rfl) (argsL := [(.ref w_ROTATION_0)]) (rest := []) rfl rfl rfl (W := 0) (Nat.le_of_eq rfl) (by decide) (by decide) (by decide) (by decide)
    obtain ⟨rfl, M10, e10⟩ := q10
    have N10 := Fr.app N0 M10
    have r10 : (f_pictureOf a1 w_ROTATION_0 (.ref w_ROTATION_0)) = (1 : Int32) := by rw [f_pictureOf, if_pos (rfl : (Value.ref w_ROTATION_0) = (Value.ref w_ROTATION_0))]
    rw [r10] at st10
    refine Go.mp st10 ?_
    show Go p e below (T10.setTop (mkF m 124 #[.val (.int p1), .val (.int p2), .val (.int p3), .val (.int p4), .val (.int p5), .val (.int p6), .val (.ref a1), .val (.int (0 : Int32)), .unset, .unset, .unset, .unset] [(.int (1 : Int32))])) _
    refine g_iload X10 hx (hb hby at_124) rfl ?_
    refine g_ifNo X10 hx (hb hby at_126) ((if0 _ _).trans (teq ((by decide) : (0 : Int32) = (0 : Int32))).2) ?_
    refine g_iconst X10 hx (1 : Int32) (hb hby at_129) (by decide) ?_
    refine g_goto X10 hx 134 (hb hby at_130) (by decide) (by decide) ?_
    refine g_icmpNo X10 hx (hb hby at_134) (teq ((by decide) : (1 : Int32) = (1 : Int32))).2 ?_
    refine g_iconst X10 hx (1 : Int32) (hb hby at_137) (by decide) ?_
    refine g_goto X10 hx 142 (hb hby at_138) (by decide) (by decide) ?_
    refine g_istore X10 hx #[.val (.int p1), .val (.int p2), .val (.int p3), .val (.int p4), .val (.int p5), .val (.int p6), .val (.ref a1), .val (.int (0 : Int32)), .val (.int (1 : Int32)), .unset, .unset, .unset] (hb hby at_142) rfl ?_
    refine g_aload X10 hx (hb hby at_144) rfl rfl ?_
    obtain ⟨T11, X11, e11, st11⟩ := getS2 X10 hx hZ hown (host := "") (Or.inl (hw _ (List.mem_of_getElem? (i := 58) rfl))) Via.refl e10 S_ROTATION_90 (g := (mkF m 146 #[.val (.int p1), .val (.int p2), .val (.int p3), .val (.int p4), .val (.int p5), .val (.int p6), .val (.ref a1), .val (.int (0 : Int32)), .val (.int (1 : Int32)), .unset, .unset, .unset] [(.ref a1)])) rfl (hb hby at_146)
    refine Go.mp st11 ?_
    show Go p e below (T11.setTop (mkF m 149 #[.val (.int p1), .val (.int p2), .val (.int p3), .val (.int p4), .val (.int p5), .val (.int p6), .val (.ref a1), .val (.int (0 : Int32)), .val (.int (1 : Int32)), .unset, .unset, .unset] [(.ref w_ROTATION_90), (.ref a1)])) _
    obtain ⟨v12, T12, L12, X12, q12, st12⟩ := own_callV X11 hx hZ (y := (⟨"com/example/reorient/reorient/service/Window", "pictureOf", "(Lcom/example/reorient/reorient/model/Rotation;)Z"⟩ : MethodName)) (pc := 149) (Ls := #[.val (.int p1), .val (.int p2), .val (.int p3), .val (.int p4), .val (.int p5), .val (.int p6), .val (.ref a1), .val (.int (0 : Int32)), .val (.int (1 : Int32)), .unset, .unset, .unset]) (st := [(.ref w_ROTATION_90), (.ref a1)]) hown (hw _ (List.mem_of_getElem? (i := 53) rfl)) (hw _ (List.mem_of_getElem? (i := 54) rfl)) (hw _ (List.mem_of_getElem? (i := 56) rfl)) (hw _ (List.mem_of_getElem? (i := 55) rfl)) (hw _ (List.mem_of_getElem? (i := 57) rfl)) (hw _ (List.mem_of_getElem? (i := 2) rfl)) (by decide) (rm_pictureOf l Z a0 hw a1 w_ROTATION_90 (.ref w_ROTATION_0) h0 n0 Z0 F_a1_picture rfl) e11 E_a1 pd_0 (hb hby at_149) (by rw [hml]; rfl) (argsL := [(.ref w_ROTATION_90)]) (rest := []) rfl rfl rfl (W := 0) (Nat.le_of_eq rfl) (by decide) (by decide) (by decide) (by decide)
    obtain ⟨rfl, M12, e12⟩ := q12
    have N12 := Fr.app N10 M12
    have r12 : (f_pictureOf a1 w_ROTATION_90 (.ref w_ROTATION_0)) = (0 : Int32) := by rw [f_pictureOf, if_neg ((fun q => ne_ROTATION_0_ROTATION_90 (Value.ref.inj q)) : ¬ ((Value.ref w_ROTATION_0) = (Value.ref w_ROTATION_90)))]
    rw [r12] at st12
    refine Go.mp st12 ?_
    show Go p e below (T12.setTop (mkF m 152 #[.val (.int p1), .val (.int p2), .val (.int p3), .val (.int p4), .val (.int p5), .val (.int p6), .val (.ref a1), .val (.int (0 : Int32)), .val (.int (1 : Int32)), .unset, .unset, .unset] [(.int (0 : Int32))])) _
    refine g_iload X12 hx (hb hby at_152) rfl ?_
    refine g_iconst X12 hx (1 : Int32) (hb hby at_154) (by decide) ?_
    refine g_icmpYes X12 hx 162 (hb hby at_155) (feq ((by decide) : ¬ ((0 : Int32) = (1 : Int32)))).2 (by decide) (by decide) ?_
    refine g_iconst X12 hx (0 : Int32) (hb hby at_162) (by decide) ?_
    refine g_icmpNo X12 hx (hb hby at_163) (teq ((by decide) : (0 : Int32) = (0 : Int32))).2 ?_
    refine g_iconst X12 hx (1 : Int32) (hb hby at_166) (by decide) ?_
    refine g_goto X12 hx 171 (hb hby at_167) (by decide) (by decide) ?_
    refine g_istore X12 hx #[.val (.int p1), .val (.int p2), .val (.int p3), .val (.int p4), .val (.int p5), .val (.int p6), .val (.ref a1), .val (.int (0 : Int32)), .val (.int (1 : Int32)), .val (.int (1 : Int32)), .unset, .unset] (hb hby at_171) rfl ?_
    refine g_aload X12 hx (hb hby at_173) rfl rfl ?_
    obtain ⟨T13, X13, e13, st13⟩ := getS2 X12 hx hZ hown (host := "") (Or.inl (hw _ (List.mem_of_getElem? (i := 51) rfl))) Via.refl e12 S_ROTATION_180 (g := (mkF m 175 #[.val (.int p1), .val (.int p2), .val (.int p3), .val (.int p4), .val (.int p5), .val (.int p6), .val (.ref a1), .val (.int (0 : Int32)), .val (.int (1 : Int32)), .val (.int (1 : Int32)), .unset, .unset] [(.ref a1)])) rfl (hb hby at_175)
    refine Go.mp st13 ?_
    show Go p e below (T13.setTop (mkF m 178 #[.val (.int p1), .val (.int p2), .val (.int p3), .val (.int p4), .val (.int p5), .val (.int p6), .val (.ref a1), .val (.int (0 : Int32)), .val (.int (1 : Int32)), .val (.int (1 : Int32)), .unset, .unset] [(.ref w_ROTATION_180), (.ref a1)])) _
    obtain ⟨v14, T14, L14, X14, q14, st14⟩ := own_callV X13 hx hZ (y := (⟨"com/example/reorient/reorient/service/Window", "pictureOf", "(Lcom/example/reorient/reorient/model/Rotation;)Z"⟩ : MethodName)) (pc := 178) (Ls := #[.val (.int p1), .val (.int p2), .val (.int p3), .val (.int p4), .val (.int p5), .val (.int p6), .val (.ref a1), .val (.int (0 : Int32)), .val (.int (1 : Int32)), .val (.int (1 : Int32)), .unset, .unset]) (st := [(.ref w_ROTATION_180), (.ref a1)]) hown (hw _ (List.mem_of_getElem? (i := 53) rfl)) (hw _ (List.mem_of_getElem? (i := 54) rfl)) (hw _ (List.mem_of_getElem? (i := 56) rfl)) (hw _ (List.mem_of_getElem? (i := 55) rfl)) (hw _ (List.mem_of_getElem? (i := 57) rfl)) (hw _ (List.mem_of_getElem? (i := 2) rfl)) (by decide) (rm_pictureOf l Z a0 hw a1 w_ROTATION_180 (.ref w_ROTATION_0) h0 n0 Z0 F_a1_picture rfl) e13 E_a1 pd_0 (hb hby at_178) (by rw [hml]; rfl) (argsL := [(.ref w_ROTATION_180)]) (rest := []) rfl rfl rfl (W := 0) (Nat.le_of_eq rfl) (by decide) (by decide) (by decide) (by decide)
    obtain ⟨rfl, M14, e14⟩ := q14
    have N14 := Fr.app N12 M14
    have r14 : (f_pictureOf a1 w_ROTATION_180 (.ref w_ROTATION_0)) = (0 : Int32) := by rw [f_pictureOf, if_neg ((fun q => ne_ROTATION_0_ROTATION_180 (Value.ref.inj q)) : ¬ ((Value.ref w_ROTATION_0) = (Value.ref w_ROTATION_180)))]
    rw [r14] at st14
    refine Go.mp st14 ?_
    show Go p e below (T14.setTop (mkF m 181 #[.val (.int p1), .val (.int p2), .val (.int p3), .val (.int p4), .val (.int p5), .val (.int p6), .val (.ref a1), .val (.int (0 : Int32)), .val (.int (1 : Int32)), .val (.int (1 : Int32)), .unset, .unset] [(.int (0 : Int32))])) _
    refine g_iload X14 hx (hb hby at_181) rfl ?_
    refine g_iconst X14 hx (2 : Int32) (hb hby at_183) (by decide) ?_
    refine g_icmpYes X14 hx 191 (hb hby at_184) (feq ((by decide) : ¬ ((0 : Int32) = (2 : Int32)))).2 (by decide) (by decide) ?_
    refine g_iconst X14 hx (0 : Int32) (hb hby at_191) (by decide) ?_
    refine g_icmpNo X14 hx (hb hby at_192) (teq ((by decide) : (0 : Int32) = (0 : Int32))).2 ?_
    refine g_iconst X14 hx (1 : Int32) (hb hby at_195) (by decide) ?_
    refine g_goto X14 hx 200 (hb hby at_196) (by decide) (by decide) ?_
    refine g_istore X14 hx #[.val (.int p1), .val (.int p2), .val (.int p3), .val (.int p4), .val (.int p5), .val (.int p6), .val (.ref a1), .val (.int (0 : Int32)), .val (.int (1 : Int32)), .val (.int (1 : Int32)), .val (.int (1 : Int32)), .unset] (hb hby at_200) rfl ?_
    refine g_aload X14 hx (hb hby at_202) rfl rfl ?_
    obtain ⟨T15, X15, e15, st15⟩ := getS2 X14 hx hZ hown (host := "") (Or.inl (hw _ (List.mem_of_getElem? (i := 41) rfl))) Via.refl e14 S_ROTATION_270 (g := (mkF m 204 #[.val (.int p1), .val (.int p2), .val (.int p3), .val (.int p4), .val (.int p5), .val (.int p6), .val (.ref a1), .val (.int (0 : Int32)), .val (.int (1 : Int32)), .val (.int (1 : Int32)), .val (.int (1 : Int32)), .unset] [(.ref a1)])) rfl (hb hby at_204)
    refine Go.mp st15 ?_
    show Go p e below (T15.setTop (mkF m 207 #[.val (.int p1), .val (.int p2), .val (.int p3), .val (.int p4), .val (.int p5), .val (.int p6), .val (.ref a1), .val (.int (0 : Int32)), .val (.int (1 : Int32)), .val (.int (1 : Int32)), .val (.int (1 : Int32)), .unset] [(.ref w_ROTATION_270), (.ref a1)])) _
    obtain ⟨v16, T16, L16, X16, q16, st16⟩ := own_callV X15 hx hZ (y := (⟨"com/example/reorient/reorient/service/Window", "pictureOf", "(Lcom/example/reorient/reorient/model/Rotation;)Z"⟩ : MethodName)) (pc := 207) (Ls := #[.val (.int p1), .val (.int p2), .val (.int p3), .val (.int p4), .val (.int p5), .val (.int p6), .val (.ref a1), .val (.int (0 : Int32)), .val (.int (1 : Int32)), .val (.int (1 : Int32)), .val (.int (1 : Int32)), .unset]) (st := [(.ref w_ROTATION_270), (.ref a1)]) hown (hw _ (List.mem_of_getElem? (i := 53) rfl)) (hw _ (List.mem_of_getElem? (i := 54) rfl)) (hw _ (List.mem_of_getElem? (i := 56) rfl)) (hw _ (List.mem_of_getElem? (i := 55) rfl)) (hw _ (List.mem_of_getElem? (i := 57) rfl)) (hw _ (List.mem_of_getElem? (i := 2) rfl)) (by decide) (rm_pictureOf l Z a0 hw a1 w_ROTATION_270 (.ref w_ROTATION_0) h0 n0 Z0 F_a1_picture rfl) e15 E_a1 pd_0 (hb hby at_207) (by rw [hml]; rfl) (argsL := [(.ref w_ROTATION_270)]) (rest := []) rfl rfl rfl (W := 0) (Nat.le_of_eq rfl) (by decide) (by decide) (by decide) (by decide)
    obtain ⟨rfl, M16, e16⟩ := q16
    have N16 := Fr.app N14 M16
    have r16 : (f_pictureOf a1 w_ROTATION_270 (.ref w_ROTATION_0)) = (0 : Int32) := by rw [f_pictureOf, if_neg ((fun q => ne_ROTATION_0_ROTATION_270 (Value.ref.inj q)) : ¬ ((Value.ref w_ROTATION_0) = (Value.ref w_ROTATION_270)))]
    rw [r16] at st16
    refine Go.mp st16 ?_
    show Go p e below (T16.setTop (mkF m 210 #[.val (.int p1), .val (.int p2), .val (.int p3), .val (.int p4), .val (.int p5), .val (.int p6), .val (.ref a1), .val (.int (0 : Int32)), .val (.int (1 : Int32)), .val (.int (1 : Int32)), .val (.int (1 : Int32)), .unset] [(.int (0 : Int32))])) _
    refine g_iload X16 hx (hb hby at_210) rfl ?_
    refine g_iconst X16 hx (3 : Int32) (hb hby at_212) (by decide) ?_
    refine g_icmpYes X16 hx 220 (hb hby at_213) (feq ((by decide) : ¬ ((0 : Int32) = (3 : Int32)))).2 (by decide) (by decide) ?_
    refine g_iconst X16 hx (0 : Int32) (hb hby at_220) (by decide) ?_
    refine g_icmpNo X16 hx (hb hby at_221) (teq ((by decide) : (0 : Int32) = (0 : Int32))).2 ?_
    refine g_iconst X16 hx (1 : Int32) (hb hby at_224) (by decide) ?_
    refine g_goto X16 hx 229 (hb hby at_225) (by decide) (by decide) ?_
    refine g_istore X16 hx #[.val (.int p1), .val (.int p2), .val (.int p3), .val (.int p4), .val (.int p5), .val (.int p6), .val (.ref a1), .val (.int (0 : Int32)), .val (.int (1 : Int32)), .val (.int (1 : Int32)), .val (.int (1 : Int32)), .val (.int (1 : Int32))] (hb hby at_229) rfl ?_
    refine g_iload X16 hx (hb hby at_231) rfl ?_
    refine g_ifNo X16 hx (hb hby at_233) ((if0 _ _).trans (feq ((by decide) : ¬ ((1 : Int32) = (0 : Int32)))).1) ?_
    refine g_iload X16 hx (hb hby at_236) rfl ?_
    refine g_ifNo X16 hx (hb hby at_238) ((if0 _ _).trans (feq ((by decide) : ¬ ((1 : Int32) = (0 : Int32)))).1) ?_
    refine g_iload X16 hx (hb hby at_241) rfl ?_
    refine g_ifNo X16 hx (hb hby at_243) ((if0 _ _).trans (feq ((by decide) : ¬ ((1 : Int32) = (0 : Int32)))).1) ?_
    refine g_iload X16 hx (hb hby at_246) rfl ?_
    refine g_ifNo X16 hx (hb hby at_248) ((if0 _ _).trans (feq ((by decide) : ¬ ((1 : Int32) = (0 : Int32)))).1) ?_
    refine g_iconst X16 hx (1 : Int32) (hb hby at_251) (by decide) ?_
    refine g_goto X16 hx 256 (hb hby at_252) (by decide) (by decide) ?_
    exact own_retZW X16 hx hret hlk hS (by rw [e16]; exact hB) (hb hby at_256) (by decide) (by decide) (by decide) ⟨rfl, N16⟩
  · refine g_aload X0 hx (hb hby at_116) rfl rfl ?_
    obtain ⟨T17, X17, e17, st17⟩ := getS2 X0 hx hZ hown (host := "") (Or.inl (hw _ (List.mem_of_getElem? (i := 15) rfl))) Via.refl e0 S_ROTATION_0 (g := (mkF m 118 #[.val (.int p1), .val (.int p2), .val (.int p3), .val (.int p4), .val (.int p5), .val (.int p6), .val (.ref a1), .val (.int (1 : Int32)), .unset, .unset, .unset, .unset] [(.ref a1)])) rfl (hb hby at_118)
    refine Go.mp st17 ?_
    show Go p e below (T17.setTop (mkF m 121 #[.val (.int p1), .val (.int p2), .val (.int p3), .val (.int p4), .val (.int p5), .val (.int p6), .val (.ref a1), .val (.int (1 : Int32)), .unset, .unset, .unset, .unset] [(.ref w_ROTATION_0), (.ref a1)])) _
    obtain ⟨v18, T18, L18, X18, q18, st18⟩ := own_callV X17 hx hZ (y := (⟨"com/example/reorient/reorient/service/Window", "pictureOf", "(Lcom/example/reorient/reorient/model/Rotation;)Z"⟩ : MethodName)) (pc := 121) (Ls := #[.val (.int p1), .val (.int p2), .val (.int p3), .val (.int p4), .val (.int p5), .val (.int p6), .val (.ref a1), .val (.int (1 : Int32)), .unset, .unset, .unset, .unset]) (st := [(.ref w_ROTATION_0), (.ref a1)]) hown (hw _ (List.mem_of_getElem? (i := 53) rfl)) (hw _ (List.mem_of_getElem? (i := 54) rfl)) (hw _ (List.mem_of_getElem? (i := 56) rfl)) (hw _ (List.mem_of_getElem? (i := 55) rfl)) (hw _ (List.mem_of_getElem? (i := 57) rfl)) (hw _ (List.mem_of_getElem? (i := 2) rfl)) (by decide) (rm_pictureOf l Z a0 hw a1 w_ROTATION_0 (.ref w_ROTATION_90) h0 n0 Z0 F_a1_picture rfl) e17 E_a1 pd_0 (hb hby at_121) (by rw [hml]; rfl) (argsL := [(.ref w_ROTATION_0)]) (rest := []) rfl rfl rfl (W := 0) (Nat.le_of_eq rfl) (by decide) (by decide) (by decide) (by decide)
    obtain ⟨rfl, M18, e18⟩ := q18
    have N18 := Fr.app N0 M18
    have r18 : (f_pictureOf a1 w_ROTATION_0 (.ref w_ROTATION_90)) = (0 : Int32) := by rw [f_pictureOf, if_neg ((fun q => ne_ROTATION_0_ROTATION_90 (Value.ref.inj q).symm) : ¬ ((Value.ref w_ROTATION_90) = (Value.ref w_ROTATION_0)))]
    rw [r18] at st18
    refine Go.mp st18 ?_
    show Go p e below (T18.setTop (mkF m 124 #[.val (.int p1), .val (.int p2), .val (.int p3), .val (.int p4), .val (.int p5), .val (.int p6), .val (.ref a1), .val (.int (1 : Int32)), .unset, .unset, .unset, .unset] [(.int (0 : Int32))])) _
    refine g_iload X18 hx (hb hby at_124) rfl ?_
    refine g_ifYes X18 hx 133 (hb hby at_126) ((if0 _ _).trans (feq ((by decide) : ¬ ((1 : Int32) = (0 : Int32)))).2) (by decide) (by decide) ?_
    refine g_iconst X18 hx (0 : Int32) (hb hby at_133) (by decide) ?_
    refine g_icmpNo X18 hx (hb hby at_134) (teq ((by decide) : (0 : Int32) = (0 : Int32))).2 ?_
    refine g_iconst X18 hx (1 : Int32) (hb hby at_137) (by decide) ?_
    refine g_goto X18 hx 142 (hb hby at_138) (by decide) (by decide) ?_
    refine g_istore X18 hx #[.val (.int p1), .val (.int p2), .val (.int p3), .val (.int p4), .val (.int p5), .val (.int p6), .val (.ref a1), .val (.int (1 : Int32)), .val (.int (1 : Int32)), .unset, .unset, .unset] (hb hby at_142) rfl ?_
    refine g_aload X18 hx (hb hby at_144) rfl rfl ?_
    obtain ⟨T19, X19, e19, st19⟩ := getS2 X18 hx hZ hown (host := "") (Or.inl (hw _ (List.mem_of_getElem? (i := 58) rfl))) Via.refl e18 S_ROTATION_90 (g := (mkF m 146 #[.val (.int p1), .val (.int p2), .val (.int p3), .val (.int p4), .val (.int p5), .val (.int p6), .val (.ref a1), .val (.int (1 : Int32)), .val (.int (1 : Int32)), .unset, .unset, .unset] [(.ref a1)])) rfl (hb hby at_146)
    refine Go.mp st19 ?_
    show Go p e below (T19.setTop (mkF m 149 #[.val (.int p1), .val (.int p2), .val (.int p3), .val (.int p4), .val (.int p5), .val (.int p6), .val (.ref a1), .val (.int (1 : Int32)), .val (.int (1 : Int32)), .unset, .unset, .unset] [(.ref w_ROTATION_90), (.ref a1)])) _
    obtain ⟨v20, T20, L20, X20, q20, st20⟩ := own_callV X19 hx hZ (y := (⟨"com/example/reorient/reorient/service/Window", "pictureOf", "(Lcom/example/reorient/reorient/model/Rotation;)Z"⟩ : MethodName)) (pc := 149) (Ls := #[.val (.int p1), .val (.int p2), .val (.int p3), .val (.int p4), .val (.int p5), .val (.int p6), .val (.ref a1), .val (.int (1 : Int32)), .val (.int (1 : Int32)), .unset, .unset, .unset]) (st := [(.ref w_ROTATION_90), (.ref a1)]) hown (hw _ (List.mem_of_getElem? (i := 53) rfl)) (hw _ (List.mem_of_getElem? (i := 54) rfl)) (hw _ (List.mem_of_getElem? (i := 56) rfl)) (hw _ (List.mem_of_getElem? (i := 55) rfl)) (hw _ (List.mem_of_getElem? (i := 57) rfl)) (hw _ (List.mem_of_getElem? (i := 2) rfl)) (by decide) (rm_pictureOf l Z a0 hw a1 w_ROTATION_90 (.ref w_ROTATION_90) h0 n0 Z0 F_a1_picture rfl) e19 E_a1 pd_0 (hb hby at_149) (by rw [hml]; rfl) (argsL := [(.ref w_ROTATION_90)]) (rest := []) rfl rfl rfl (W := 0) (Nat.le_of_eq rfl) (by decide) (by decide) (by decide) (by decide)
    obtain ⟨rfl, M20, e20⟩ := q20
    have N20 := Fr.app N18 M20
    have r20 : (f_pictureOf a1 w_ROTATION_90 (.ref w_ROTATION_90)) = (1 : Int32) := by rw [f_pictureOf, if_pos (rfl : (Value.ref w_ROTATION_90) = (Value.ref w_ROTATION_90))]
    rw [r20] at st20
    refine Go.mp st20 ?_
    show Go p e below (T20.setTop (mkF m 152 #[.val (.int p1), .val (.int p2), .val (.int p3), .val (.int p4), .val (.int p5), .val (.int p6), .val (.ref a1), .val (.int (1 : Int32)), .val (.int (1 : Int32)), .unset, .unset, .unset] [(.int (1 : Int32))])) _
    refine g_iload X20 hx (hb hby at_152) rfl ?_
    refine g_iconst X20 hx (1 : Int32) (hb hby at_154) (by decide) ?_
    refine g_icmpNo X20 hx (hb hby at_155) (teq ((by decide) : (1 : Int32) = (1 : Int32))).2 ?_
    refine g_iconst X20 hx (1 : Int32) (hb hby at_158) (by decide) ?_
    refine g_goto X20 hx 163 (hb hby at_159) (by decide) (by decide) ?_
    refine g_icmpNo X20 hx (hb hby at_163) (teq ((by decide) : (1 : Int32) = (1 : Int32))).2 ?_
    refine g_iconst X20 hx (1 : Int32) (hb hby at_166) (by decide) ?_
    refine g_goto X20 hx 171 (hb hby at_167) (by decide) (by decide) ?_
    refine g_istore X20 hx #[.val (.int p1), .val (.int p2), .val (.int p3), .val (.int p4), .val (.int p5), .val (.int p6), .val (.ref a1), .val (.int (1 : Int32)), .val (.int (1 : Int32)), .val (.int (1 : Int32)), .unset, .unset] (hb hby at_171) rfl ?_
    refine g_aload X20 hx (hb hby at_173) rfl rfl ?_
    obtain ⟨T21, X21, e21, st21⟩ := getS2 X20 hx hZ hown (host := "") (Or.inl (hw _ (List.mem_of_getElem? (i := 51) rfl))) Via.refl e20 S_ROTATION_180 (g := (mkF m 175 #[.val (.int p1), .val (.int p2), .val (.int p3), .val (.int p4), .val (.int p5), .val (.int p6), .val (.ref a1), .val (.int (1 : Int32)), .val (.int (1 : Int32)), .val (.int (1 : Int32)), .unset, .unset] [(.ref a1)])) rfl (hb hby at_175)
    refine Go.mp st21 ?_
    show Go p e below (T21.setTop (mkF m 178 #[.val (.int p1), .val (.int p2), .val (.int p3), .val (.int p4), .val (.int p5), .val (.int p6), .val (.ref a1), .val (.int (1 : Int32)), .val (.int (1 : Int32)), .val (.int (1 : Int32)), .unset, .unset] [(.ref w_ROTATION_180), (.ref a1)])) _
    obtain ⟨v22, T22, L22, X22, q22, st22⟩ := own_callV X21 hx hZ (y := (⟨"com/example/reorient/reorient/service/Window", "pictureOf", "(Lcom/example/reorient/reorient/model/Rotation;)Z"⟩ : MethodName)) (pc := 178) (Ls := #[.val (.int p1), .val (.int p2), .val (.int p3), .val (.int p4), .val (.int p5), .val (.int p6), .val (.ref a1), .val (.int (1 : Int32)), .val (.int (1 : Int32)), .val (.int (1 : Int32)), .unset, .unset]) (st := [(.ref w_ROTATION_180), (.ref a1)]) hown (hw _ (List.mem_of_getElem? (i := 53) rfl)) (hw _ (List.mem_of_getElem? (i := 54) rfl)) (hw _ (List.mem_of_getElem? (i := 56) rfl)) (hw _ (List.mem_of_getElem? (i := 55) rfl)) (hw _ (List.mem_of_getElem? (i := 57) rfl)) (hw _ (List.mem_of_getElem? (i := 2) rfl)) (by decide) (rm_pictureOf l Z a0 hw a1 w_ROTATION_180 (.ref w_ROTATION_90) h0 n0 Z0 F_a1_picture rfl) e21 E_a1 pd_0 (hb hby at_178) (by rw [hml]; rfl) (argsL := [(.ref w_ROTATION_180)]) (rest := []) rfl rfl rfl (W := 0) (Nat.le_of_eq rfl) (by decide) (by decide) (by decide) (by decide)
    obtain ⟨rfl, M22, e22⟩ := q22
    have N22 := Fr.app N20 M22
    have r22 : (f_pictureOf a1 w_ROTATION_180 (.ref w_ROTATION_90)) = (0 : Int32) := by rw [f_pictureOf, if_neg ((fun q => ne_ROTATION_90_ROTATION_180 (Value.ref.inj q)) : ¬ ((Value.ref w_ROTATION_90) = (Value.ref w_ROTATION_180)))]
    rw [r22] at st22
    refine Go.mp st22 ?_
    show Go p e below (T22.setTop (mkF m 181 #[.val (.int p1), .val (.int p2), .val (.int p3), .val (.int p4), .val (.int p5), .val (.int p6), .val (.ref a1), .val (.int (1 : Int32)), .val (.int (1 : Int32)), .val (.int (1 : Int32)), .unset, .unset] [(.int (0 : Int32))])) _
    refine g_iload X22 hx (hb hby at_181) rfl ?_
    refine g_iconst X22 hx (2 : Int32) (hb hby at_183) (by decide) ?_
    refine g_icmpYes X22 hx 191 (hb hby at_184) (feq ((by decide) : ¬ ((1 : Int32) = (2 : Int32)))).2 (by decide) (by decide) ?_
    refine g_iconst X22 hx (0 : Int32) (hb hby at_191) (by decide) ?_
    refine g_icmpNo X22 hx (hb hby at_192) (teq ((by decide) : (0 : Int32) = (0 : Int32))).2 ?_
    refine g_iconst X22 hx (1 : Int32) (hb hby at_195) (by decide) ?_
    refine g_goto X22 hx 200 (hb hby at_196) (by decide) (by decide) ?_
    refine g_istore X22 hx #[.val (.int p1), .val (.int p2), .val (.int p3), .val (.int p4), .val (.int p5), .val (.int p6), .val (.ref a1), .val (.int (1 : Int32)), .val (.int (1 : Int32)), .val (.int (1 : Int32)), .val (.int (1 : Int32)), .unset] (hb hby at_200) rfl ?_
    refine g_aload X22 hx (hb hby at_202) rfl rfl ?_
    obtain ⟨T23, X23, e23, st23⟩ := getS2 X22 hx hZ hown (host := "") (Or.inl (hw _ (List.mem_of_getElem? (i := 41) rfl))) Via.refl e22 S_ROTATION_270 (g := (mkF m 204 #[.val (.int p1), .val (.int p2), .val (.int p3), .val (.int p4), .val (.int p5), .val (.int p6), .val (.ref a1), .val (.int (1 : Int32)), .val (.int (1 : Int32)), .val (.int (1 : Int32)), .val (.int (1 : Int32)), .unset] [(.ref a1)])) rfl (hb hby at_204)
    refine Go.mp st23 ?_
    show Go p e below (T23.setTop (mkF m 207 #[.val (.int p1), .val (.int p2), .val (.int p3), .val (.int p4), .val (.int p5), .val (.int p6), .val (.ref a1), .val (.int (1 : Int32)), .val (.int (1 : Int32)), .val (.int (1 : Int32)), .val (.int (1 : Int32)), .unset] [(.ref w_ROTATION_270), (.ref a1)])) _
    obtain ⟨v24, T24, L24, X24, q24, st24⟩ := own_callV X23 hx hZ (y := (⟨"com/example/reorient/reorient/service/Window", "pictureOf", "(Lcom/example/reorient/reorient/model/Rotation;)Z"⟩ : MethodName)) (pc := 207) (Ls := #[.val (.int p1), .val (.int p2), .val (.int p3), .val (.int p4), .val (.int p5), .val (.int p6), .val (.ref a1), .val (.int (1 : Int32)), .val (.int (1 : Int32)), .val (.int (1 : Int32)), .val (.int (1 : Int32)), .unset]) (st := [(.ref w_ROTATION_270), (.ref a1)]) hown (hw _ (List.mem_of_getElem? (i := 53) rfl)) (hw _ (List.mem_of_getElem? (i := 54) rfl)) (hw _ (List.mem_of_getElem? (i := 56) rfl)) (hw _ (List.mem_of_getElem? (i := 55) rfl)) (hw _ (List.mem_of_getElem? (i := 57) rfl)) (hw _ (List.mem_of_getElem? (i := 2) rfl)) (by decide) (rm_pictureOf l Z a0 hw a1 w_ROTATION_270 (.ref w_ROTATION_90) h0 n0 Z0 F_a1_picture rfl) e23 E_a1 pd_0 (hb hby at_207) (by rw [hml]; rfl) (argsL := [(.ref w_ROTATION_270)]) (rest := []) rfl rfl rfl (W := 0) (Nat.le_of_eq rfl) (by decide) (by decide) (by decide) (by decide)
    obtain ⟨rfl, M24, e24⟩ := q24
    have N24 := Fr.app N22 M24
    have r24 : (f_pictureOf a1 w_ROTATION_270 (.ref w_ROTATION_90)) = (0 : Int32) := by rw [f_pictureOf, if_neg ((fun q => ne_ROTATION_270_ROTATION_90 (Value.ref.inj q).symm) : ¬ ((Value.ref w_ROTATION_90) = (Value.ref w_ROTATION_270)))]
    rw [r24] at st24
    refine Go.mp st24 ?_
    show Go p e below (T24.setTop (mkF m 210 #[.val (.int p1), .val (.int p2), .val (.int p3), .val (.int p4), .val (.int p5), .val (.int p6), .val (.ref a1), .val (.int (1 : Int32)), .val (.int (1 : Int32)), .val (.int (1 : Int32)), .val (.int (1 : Int32)), .unset] [(.int (0 : Int32))])) _
    refine g_iload X24 hx (hb hby at_210) rfl ?_
    refine g_iconst X24 hx (3 : Int32) (hb hby at_212) (by decide) ?_
    refine g_icmpYes X24 hx 220 (hb hby at_213) (feq ((by decide) : ¬ ((1 : Int32) = (3 : Int32)))).2 (by decide) (by decide) ?_
    refine g_iconst X24 hx (0 : Int32) (hb hby at_220) (by decide) ?_
    refine g_icmpNo X24 hx (hb hby at_221) (teq ((by decide) : (0 : Int32) = (0 : Int32))).2 ?_
    refine g_iconst X24 hx (1 : Int32) (hb hby at_224) (by decide) ?_
    refine g_goto X24 hx 229 (hb hby at_225) (by decide) (by decide) ?_
    refine g_istore X24 hx #[.val (.int p1), .val (.int p2), .val (.int p3), .val (.int p4), .val (.int p5), .val (.int p6), .val (.ref a1), .val (.int (1 : Int32)), .val (.int (1 : Int32)), .val (.int (1 : Int32)), .val (.int (1 : Int32)), .val (.int (1 : Int32))] (hb hby at_229) rfl ?_
    refine g_iload X24 hx (hb hby at_231) rfl ?_
    refine g_ifNo X24 hx (hb hby at_233) ((if0 _ _).trans (feq ((by decide) : ¬ ((1 : Int32) = (0 : Int32)))).1) ?_
    refine g_iload X24 hx (hb hby at_236) rfl ?_
    refine g_ifNo X24 hx (hb hby at_238) ((if0 _ _).trans (feq ((by decide) : ¬ ((1 : Int32) = (0 : Int32)))).1) ?_
    refine g_iload X24 hx (hb hby at_241) rfl ?_
    refine g_ifNo X24 hx (hb hby at_243) ((if0 _ _).trans (feq ((by decide) : ¬ ((1 : Int32) = (0 : Int32)))).1) ?_
    refine g_iload X24 hx (hb hby at_246) rfl ?_
    refine g_ifNo X24 hx (hb hby at_248) ((if0 _ _).trans (feq ((by decide) : ¬ ((1 : Int32) = (0 : Int32)))).1) ?_
    refine g_iconst X24 hx (1 : Int32) (hb hby at_251) (by decide) ?_
    refine g_goto X24 hx 256 (hb hby at_252) (by decide) (by decide) ?_
    exact own_retZW X24 hx hret hlk hS (by rw [e24]; exact hB) (hb hby at_256) (by decide) (by decide) (by decide) ⟨rfl, N24⟩
  · refine g_aload X0 hx (hb hby at_116) rfl rfl ?_
    obtain ⟨T25, X25, e25, st25⟩ := getS2 X0 hx hZ hown (host := "") (Or.inl (hw _ (List.mem_of_getElem? (i := 15) rfl))) Via.refl e0 S_ROTATION_0 (g := (mkF m 118 #[.val (.int p1), .val (.int p2), .val (.int p3), .val (.int p4), .val (.int p5), .val (.int p6), .val (.ref a1), .val (.int (2 : Int32)), .unset, .unset, .unset, .unset] [(.ref a1)])) rfl (hb hby at_118)
    refine Go.mp st25 ?_
    show Go p e below (T25.setTop (mkF m 121 #[.val (.int p1), .val (.int p2), .val (.int p3), .val (.int p4), .val (.int p5), .val (.int p6), .val (.ref a1), .val (.int (2 : Int32)), .unset, .unset, .unset, .unset] [(.ref w_ROTATION_0), (.ref a1)])) _
    obtain ⟨v26, T26, L26, X26, q26, st26⟩ := own_callV X25 hx hZ (y := (⟨"com/example/reorient/reorient/service/Window", "pictureOf", "(Lcom/example/reorient/reorient/model/Rotation;)Z"⟩ : MethodName)) (pc := 121) (Ls := #[.val (.int p1), .val (.int p2), .val (.int p3), .val (.int p4), .val (.int p5), .val (.int p6), .val (.ref a1), .val (.int (2 : Int32)), .unset, .unset, .unset, .unset]) (st := [(.ref w_ROTATION_0), (.ref a1)]) hown (hw _ (List.mem_of_getElem? (i := 53) rfl)) (hw _ (List.mem_of_getElem? (i := 54) rfl)) (hw _ (List.mem_of_getElem? (i := 56) rfl)) (hw _ (List.mem_of_getElem? (i := 55) rfl)) (hw _ (List.mem_of_getElem? (i := 57) rfl)) (hw _ (List.mem_of_getElem? (i := 2) rfl)) (by decide) (rm_pictureOf l Z a0 hw a1 w_ROTATION_0 (.ref w_ROTATION_180) h0 n0 Z0 F_a1_picture rfl) e25 E_a1 pd_0 (hb hby at_121) (by rw [hml]; rfl) (argsL := [(.ref w_ROTATION_0)]) (rest := []) rfl rfl rfl (W := 0) (Nat.le_of_eq rfl) (by decide) (by decide) (by decide) (by decide)
    obtain ⟨rfl, M26, e26⟩ := q26
    have N26 := Fr.app N0 M26
    have r26 : (f_pictureOf a1 w_ROTATION_0 (.ref w_ROTATION_180)) = (0 : Int32) := by rw [f_pictureOf, if_neg ((fun q => ne_ROTATION_0_ROTATION_180 (Value.ref.inj q).symm) : ¬ ((Value.ref w_ROTATION_180) = (Value.ref w_ROTATION_0)))]
    rw [r26] at st26
    refine Go.mp st26 ?_
    show Go p e below (T26.setTop (mkF m 124 #[.val (.int p1), .val (.int p2), .val (.int p3), .val (.int p4), .val (.int p5), .val (.int p6), .val (.ref a1), .val (.int (2 : Int32)), .unset, .unset, .unset, .unset] [(.int (0 : Int32))])) _
    refine g_iload X26 hx (hb hby at_124) rfl ?_
    refine g_ifYes X26 hx 133 (hb hby at_126) ((if0 _ _).trans (feq ((by decide) : ¬ ((2 : Int32) = (0 : Int32)))).2) (by decide) (by decide) ?_
    refine g_iconst X26 hx (0 : Int32) (hb hby at_133) (by decide) ?_
    refine g_icmpNo X26 hx (hb hby at_134) (teq ((by decide) : (0 : Int32) = (0 : Int32))).2 ?_
    refine g_iconst X26 hx (1 : Int32) (hb hby at_137) (by decide) ?_
    refine g_goto X26 hx 142 (hb hby at_138) (by decide) (by decide) ?_
    refine g_istore X26 hx #[.val (.int p1), .val (.int p2), .val (.int p3), .val (.int p4), .val (.int p5), .val (.int p6), .val (.ref a1), .val (.int (2 : Int32)), .val (.int (1 : Int32)), .unset, .unset, .unset] (hb hby at_142) rfl ?_
    refine g_aload X26 hx (hb hby at_144) rfl rfl ?_
    obtain ⟨T27, X27, e27, st27⟩ := getS2 X26 hx hZ hown (host := "") (Or.inl (hw _ (List.mem_of_getElem? (i := 58) rfl))) Via.refl e26 S_ROTATION_90 (g := (mkF m 146 #[.val (.int p1), .val (.int p2), .val (.int p3), .val (.int p4), .val (.int p5), .val (.int p6), .val (.ref a1), .val (.int (2 : Int32)), .val (.int (1 : Int32)), .unset, .unset, .unset] [(.ref a1)])) rfl (hb hby at_146)
    refine Go.mp st27 ?_
    show Go p e below (T27.setTop (mkF m 149 #[.val (.int p1), .val (.int p2), .val (.int p3), .val (.int p4), .val (.int p5), .val (.int p6), .val (.ref a1), .val (.int (2 : Int32)), .val (.int (1 : Int32)), .unset, .unset, .unset] [(.ref w_ROTATION_90), (.ref a1)])) _
    obtain ⟨v28, T28, L28, X28, q28, st28⟩ := own_callV X27 hx hZ (y := (⟨"com/example/reorient/reorient/service/Window", "pictureOf", "(Lcom/example/reorient/reorient/model/Rotation;)Z"⟩ : MethodName)) (pc := 149) (Ls := #[.val (.int p1), .val (.int p2), .val (.int p3), .val (.int p4), .val (.int p5), .val (.int p6), .val (.ref a1), .val (.int (2 : Int32)), .val (.int (1 : Int32)), .unset, .unset, .unset]) (st := [(.ref w_ROTATION_90), (.ref a1)]) hown (hw _ (List.mem_of_getElem? (i := 53) rfl)) (hw _ (List.mem_of_getElem? (i := 54) rfl)) (hw _ (List.mem_of_getElem? (i := 56) rfl)) (hw _ (List.mem_of_getElem? (i := 55) rfl)) (hw _ (List.mem_of_getElem? (i := 57) rfl)) (hw _ (List.mem_of_getElem? (i := 2) rfl)) (by decide) (rm_pictureOf l Z a0 hw a1 w_ROTATION_90 (.ref w_ROTATION_180) h0 n0 Z0 F_a1_picture rfl) e27 E_a1 pd_0 (hb hby at_149) (by rw [hml]; rfl) (argsL := [(.ref w_ROTATION_90)]) (rest := []) rfl rfl rfl (W := 0) (Nat.le_of_eq rfl) (by decide) (by decide) (by decide) (by decide)
    obtain ⟨rfl, M28, e28⟩ := q28
    have N28 := Fr.app N26 M28
    have r28 : (f_pictureOf a1 w_ROTATION_90 (.ref w_ROTATION_180)) = (0 : Int32) := by rw [f_pictureOf, if_neg ((fun q => ne_ROTATION_90_ROTATION_180 (Value.ref.inj q).symm) : ¬ ((Value.ref w_ROTATION_180) = (Value.ref w_ROTATION_90)))]
    rw [r28] at st28
    refine Go.mp st28 ?_
    show Go p e below (T28.setTop (mkF m 152 #[.val (.int p1), .val (.int p2), .val (.int p3), .val (.int p4), .val (.int p5), .val (.int p6), .val (.ref a1), .val (.int (2 : Int32)), .val (.int (1 : Int32)), .unset, .unset, .unset] [(.int (0 : Int32))])) _
    refine g_iload X28 hx (hb hby at_152) rfl ?_
    refine g_iconst X28 hx (1 : Int32) (hb hby at_154) (by decide) ?_
    refine g_icmpYes X28 hx 162 (hb hby at_155) (feq ((by decide) : ¬ ((2 : Int32) = (1 : Int32)))).2 (by decide) (by decide) ?_
    refine g_iconst X28 hx (0 : Int32) (hb hby at_162) (by decide) ?_
    refine g_icmpNo X28 hx (hb hby at_163) (teq ((by decide) : (0 : Int32) = (0 : Int32))).2 ?_
    refine g_iconst X28 hx (1 : Int32) (hb hby at_166) (by decide) ?_
    refine g_goto X28 hx 171 (hb hby at_167) (by decide) (by decide) ?_
    refine g_istore X28 hx #[.val (.int p1), .val (.int p2), .val (.int p3), .val (.int p4), .val (.int p5), .val (.int p6), .val (.ref a1), .val (.int (2 : Int32)), .val (.int (1 : Int32)), .val (.int (1 : Int32)), .unset, .unset] (hb hby at_171) rfl ?_
    refine g_aload X28 hx (hb hby at_173) rfl rfl ?_
    obtain ⟨T29, X29, e29, st29⟩ := getS2 X28 hx hZ hown (host := "") (Or.inl (hw _ (List.mem_of_getElem? (i := 51) rfl))) Via.refl e28 S_ROTATION_180 (g := (mkF m 175 #[.val (.int p1), .val (.int p2), .val (.int p3), .val (.int p4), .val (.int p5), .val (.int p6), .val (.ref a1), .val (.int (2 : Int32)), .val (.int (1 : Int32)), .val (.int (1 : Int32)), .unset, .unset] [(.ref a1)])) rfl (hb hby at_175)
    refine Go.mp st29 ?_
    show Go p e below (T29.setTop (mkF m 178 #[.val (.int p1), .val (.int p2), .val (.int p3), .val (.int p4), .val (.int p5), .val (.int p6), .val (.ref a1), .val (.int (2 : Int32)), .val (.int (1 : Int32)), .val (.int (1 : Int32)), .unset, .unset] [(.ref w_ROTATION_180), (.ref a1)])) _
    obtain ⟨v30, T30, L30, X30, q30, st30⟩ := own_callV X29 hx hZ (y := (⟨"com/example/reorient/reorient/service/Window", "pictureOf", "(Lcom/example/reorient/reorient/model/Rotation;)Z"⟩ : MethodName)) (pc := 178) (Ls := #[.val (.int p1), .val (.int p2), .val (.int p3), .val (.int p4), .val (.int p5), .val (.int p6), .val (.ref a1), .val (.int (2 : Int32)), .val (.int (1 : Int32)), .val (.int (1 : Int32)), .unset, .unset]) (st := [(.ref w_ROTATION_180), (.ref a1)]) hown (hw _ (List.mem_of_getElem? (i := 53) rfl)) (hw _ (List.mem_of_getElem? (i := 54) rfl)) (hw _ (List.mem_of_getElem? (i := 56) rfl)) (hw _ (List.mem_of_getElem? (i := 55) rfl)) (hw _ (List.mem_of_getElem? (i := 57) rfl)) (hw _ (List.mem_of_getElem? (i := 2) rfl)) (by decide) (rm_pictureOf l Z a0 hw a1 w_ROTATION_180 (.ref w_ROTATION_180) h0 n0 Z0 F_a1_picture rfl) e29 E_a1 pd_0 (hb hby at_178) (by rw [hml]; rfl) (argsL := [(.ref w_ROTATION_180)]) (rest := []) rfl rfl rfl (W := 0) (Nat.le_of_eq rfl) (by decide) (by decide) (by decide) (by decide)
    obtain ⟨rfl, M30, e30⟩ := q30
    have N30 := Fr.app N28 M30
    have r30 : (f_pictureOf a1 w_ROTATION_180 (.ref w_ROTATION_180)) = (1 : Int32) := by rw [f_pictureOf, if_pos (rfl : (Value.ref w_ROTATION_180) = (Value.ref w_ROTATION_180))]
    rw [r30] at st30
    refine Go.mp st30 ?_
    show Go p e below (T30.setTop (mkF m 181 #[.val (.int p1), .val (.int p2), .val (.int p3), .val (.int p4), .val (.int p5), .val (.int p6), .val (.ref a1), .val (.int (2 : Int32)), .val (.int (1 : Int32)), .val (.int (1 : Int32)), .unset, .unset] [(.int (1 : Int32))])) _
    refine g_iload X30 hx (hb hby at_181) rfl ?_
    refine g_iconst X30 hx (2 : Int32) (hb hby at_183) (by decide) ?_
    refine g_icmpNo X30 hx (hb hby at_184) (teq ((by decide) : (2 : Int32) = (2 : Int32))).2 ?_
    refine g_iconst X30 hx (1 : Int32) (hb hby at_187) (by decide) ?_
    refine g_goto X30 hx 192 (hb hby at_188) (by decide) (by decide) ?_
    refine g_icmpNo X30 hx (hb hby at_192) (teq ((by decide) : (1 : Int32) = (1 : Int32))).2 ?_
    refine g_iconst X30 hx (1 : Int32) (hb hby at_195) (by decide) ?_
    refine g_goto X30 hx 200 (hb hby at_196) (by decide) (by decide) ?_
    refine g_istore X30 hx #[.val (.int p1), .val (.int p2), .val (.int p3), .val (.int p4), .val (.int p5), .val (.int p6), .val (.ref a1), .val (.int (2 : Int32)), .val (.int (1 : Int32)), .val (.int (1 : Int32)), .val (.int (1 : Int32)), .unset] (hb hby at_200) rfl ?_
    refine g_aload X30 hx (hb hby at_202) rfl rfl ?_
    obtain ⟨T31, X31, e31, st31⟩ := getS2 X30 hx hZ hown (host := "") (Or.inl (hw _ (List.mem_of_getElem? (i := 41) rfl))) Via.refl e30 S_ROTATION_270 (g := (mkF m 204 #[.val (.int p1), .val (.int p2), .val (.int p3), .val (.int p4), .val (.int p5), .val (.int p6), .val (.ref a1), .val (.int (2 : Int32)), .val (.int (1 : Int32)), .val (.int (1 : Int32)), .val (.int (1 : Int32)), .unset] [(.ref a1)])) rfl (hb hby at_204)
    refine Go.mp st31 ?_
    show Go p e below (T31.setTop (mkF m 207 #[.val (.int p1), .val (.int p2), .val (.int p3), .val (.int p4), .val (.int p5), .val (.int p6), .val (.ref a1), .val (.int (2 : Int32)), .val (.int (1 : Int32)), .val (.int (1 : Int32)), .val (.int (1 : Int32)), .unset] [(.ref w_ROTATION_270), (.ref a1)])) _
    obtain ⟨v32, T32, L32, X32, q32, st32⟩ := own_callV X31 hx hZ (y := (⟨"com/example/reorient/reorient/service/Window", "pictureOf", "(Lcom/example/reorient/reorient/model/Rotation;)Z"⟩ : MethodName)) (pc := 207) (Ls := #[.val (.int p1), .val (.int p2), .val (.int p3), .val (.int p4), .val (.int p5), .val (.int p6), .val (.ref a1), .val (.int (2 : Int32)), .val (.int (1 : Int32)), .val (.int (1 : Int32)), .val (.int (1 : Int32)), .unset]) (st := [(.ref w_ROTATION_270), (.ref a1)]) hown (hw _ (List.mem_of_getElem? (i := 53) rfl)) (hw _ (List.mem_of_getElem? (i := 54) rfl)) (hw _ (List.mem_of_getElem? (i := 56) rfl)) (hw _ (List.mem_of_getElem? (i := 55) rfl)) (hw _ (List.mem_of_getElem? (i := 57) rfl)) (hw _ (List.mem_of_getElem? (i := 2) rfl)) (by decide) (rm_pictureOf l Z a0 hw a1 w_ROTATION_270 (.ref w_ROTATION_180) h0 n0 Z0 F_a1_picture rfl) e31 E_a1 pd_0 (hb hby at_207) (by rw [hml]; rfl) (argsL := [(.ref w_ROTATION_270)]) (rest := []) rfl rfl rfl (W := 0) (Nat.le_of_eq rfl) (by decide) (by decide) (by decide) (by decide)
    obtain ⟨rfl, M32, e32⟩ := q32
    have N32 := Fr.app N30 M32
    have r32 : (f_pictureOf a1 w_ROTATION_270 (.ref w_ROTATION_180)) = (0 : Int32) := by rw [f_pictureOf, if_neg ((fun q => ne_ROTATION_270_ROTATION_180 (Value.ref.inj q).symm) : ¬ ((Value.ref w_ROTATION_180) = (Value.ref w_ROTATION_270)))]
    rw [r32] at st32
    refine Go.mp st32 ?_
    show Go p e below (T32.setTop (mkF m 210 #[.val (.int p1), .val (.int p2), .val (.int p3), .val (.int p4), .val (.int p5), .val (.int p6), .val (.ref a1), .val (.int (2 : Int32)), .val (.int (1 : Int32)), .val (.int (1 : Int32)), .val (.int (1 : Int32)), .unset] [(.int (0 : Int32))])) _
    refine g_iload X32 hx (hb hby at_210) rfl ?_
    refine g_iconst X32 hx (3 : Int32) (hb hby at_212) (by decide) ?_
    refine g_icmpYes X32 hx 220 (hb hby at_213) (feq ((by decide) : ¬ ((2 : Int32) = (3 : Int32)))).2 (by decide) (by decide) ?_
    refine g_iconst X32 hx (0 : Int32) (hb hby at_220) (by decide) ?_
    refine g_icmpNo X32 hx (hb hby at_221) (teq ((by decide) : (0 : Int32) = (0 : Int32))).2 ?_
    refine g_iconst X32 hx (1 : Int32) (hb hby at_224) (by decide) ?_
    refine g_goto X32 hx 229 (hb hby at_225) (by decide) (by decide) ?_
    refine g_istore X32 hx #[.val (.int p1), .val (.int p2), .val (.int p3), .val (.int p4), .val (.int p5), .val (.int p6), .val (.ref a1), .val (.int (2 : Int32)), .val (.int (1 : Int32)), .val (.int (1 : Int32)), .val (.int (1 : Int32)), .val (.int (1 : Int32))] (hb hby at_229) rfl ?_
    refine g_iload X32 hx (hb hby at_231) rfl ?_
    refine g_ifNo X32 hx (hb hby at_233) ((if0 _ _).trans (feq ((by decide) : ¬ ((1 : Int32) = (0 : Int32)))).1) ?_
    refine g_iload X32 hx (hb hby at_236) rfl ?_
    refine g_ifNo X32 hx (hb hby at_238) ((if0 _ _).trans (feq ((by decide) : ¬ ((1 : Int32) = (0 : Int32)))).1) ?_
    refine g_iload X32 hx (hb hby at_241) rfl ?_
    refine g_ifNo X32 hx (hb hby at_243) ((if0 _ _).trans (feq ((by decide) : ¬ ((1 : Int32) = (0 : Int32)))).1) ?_
    refine g_iload X32 hx (hb hby at_246) rfl ?_
    refine g_ifNo X32 hx (hb hby at_248) ((if0 _ _).trans (feq ((by decide) : ¬ ((1 : Int32) = (0 : Int32)))).1) ?_
    refine g_iconst X32 hx (1 : Int32) (hb hby at_251) (by decide) ?_
    refine g_goto X32 hx 256 (hb hby at_252) (by decide) (by decide) ?_
    exact own_retZW X32 hx hret hlk hS (by rw [e32]; exact hB) (hb hby at_256) (by decide) (by decide) (by decide) ⟨rfl, N32⟩
  · refine g_aload X0 hx (hb hby at_116) rfl rfl ?_
    obtain ⟨T33, X33, e33, st33⟩ := getS2 X0 hx hZ hown (host := "") (Or.inl (hw _ (List.mem_of_getElem? (i := 15) rfl))) Via.refl e0 S_ROTATION_0 (g := (mkF m 118 #[.val (.int p1), .val (.int p2), .val (.int p3), .val (.int p4), .val (.int p5), .val (.int p6), .val (.ref a1), .val (.int (3 : Int32)), .unset, .unset, .unset, .unset] [(.ref a1)])) rfl (hb hby at_118)
    refine Go.mp st33 ?_
    show Go p e below (T33.setTop (mkF m 121 #[.val (.int p1), .val (.int p2), .val (.int p3), .val (.int p4), .val (.int p5), .val (.int p6), .val (.ref a1), .val (.int (3 : Int32)), .unset, .unset, .unset, .unset] [(.ref w_ROTATION_0), (.ref a1)])) _
    obtain ⟨v34, T34, L34, X34, q34, st34⟩ := own_callV X33 hx hZ (y := (⟨"com/example/reorient/reorient/service/Window", "pictureOf", "(Lcom/example/reorient/reorient/model/Rotation;)Z"⟩ : MethodName)) (pc := 121) (Ls := #[.val (.int p1), .val (.int p2), .val (.int p3), .val (.int p4), .val (.int p5), .val (.int p6), .val (.ref a1), .val (.int (3 : Int32)), .unset, .unset, .unset, .unset]) (st := [(.ref w_ROTATION_0), (.ref a1)]) hown (hw _ (List.mem_of_getElem? (i := 53) rfl)) (hw _ (List.mem_of_getElem? (i := 54) rfl)) (hw _ (List.mem_of_getElem? (i := 56) rfl)) (hw _ (List.mem_of_getElem? (i := 55) rfl)) (hw _ (List.mem_of_getElem? (i := 57) rfl)) (hw _ (List.mem_of_getElem? (i := 2) rfl)) (by decide) (rm_pictureOf l Z a0 hw a1 w_ROTATION_0 (.ref w_ROTATION_270) h0 n0 Z0 F_a1_picture rfl) e33 E_a1 pd_0 (hb hby at_121) (by rw [hml]; rfl) (argsL := [(.ref w_ROTATION_0)]) (rest := []) rfl rfl rfl (W := 0) (Nat.le_of_eq rfl) (by decide) (by decide) (by decide) (by decide)
    obtain ⟨rfl, M34, e34⟩ := q34
    have N34 := Fr.app N0 M34
    have r34 : (f_pictureOf a1 w_ROTATION_0 (.ref w_ROTATION_270)) = (0 : Int32) := by rw [f_pictureOf, if_neg ((fun q => ne_ROTATION_0_ROTATION_270 (Value.ref.inj q).symm) : ¬ ((Value.ref w_ROTATION_270) = (Value.ref w_ROTATION_0)))]
    rw [r34] at st34
    refine Go.mp st34 ?_
    show Go p e below (T34.setTop (mkF m 124 #[.val (.int p1), .val (.int p2), .val (.int p3), .val (.int p4), .val (.int p5), .val (.int p6), .val (.ref a1), .val (.int (3 : Int32)), .unset, .unset, .unset, .unset] [(.int (0 : Int32))])) _
    refine g_iload X34 hx (hb hby at_124) rfl ?_
    refine g_ifYes X34 hx 133 (hb hby at_126) ((if0 _ _).trans (feq ((by decide) : ¬ ((3 : Int32) = (0 : Int32)))).2) (by decide) (by decide) ?_
    refine g_iconst X34 hx (0 : Int32) (hb hby at_133) (by decide) ?_
    refine g_icmpNo X34 hx (hb hby at_134) (teq ((by decide) : (0 : Int32) = (0 : Int32))).2 ?_
    refine g_iconst X34 hx (1 : Int32) (hb hby at_137) (by decide) ?_
    refine g_goto X34 hx 142 (hb hby at_138) (by decide) (by decide) ?_
    refine g_istore X34 hx #[.val (.int p1), .val (.int p2), .val (.int p3), .val (.int p4), .val (.int p5), .val (.int p6), .val (.ref a1), .val (.int (3 : Int32)), .val (.int (1 : Int32)), .unset, .unset, .unset] (hb hby at_142) rfl ?_
    refine g_aload X34 hx (hb hby at_144) rfl rfl ?_
    obtain ⟨T35, X35, e35, st35⟩ := getS2 X34 hx hZ hown (host := "") (Or.inl (hw _ (List.mem_of_getElem? (i := 58) rfl))) Via.refl e34 S_ROTATION_90 (g := (mkF m 146 #[.val (.int p1), .val (.int p2), .val (.int p3), .val (.int p4), .val (.int p5), .val (.int p6), .val (.ref a1), .val (.int (3 : Int32)), .val (.int (1 : Int32)), .unset, .unset, .unset] [(.ref a1)])) rfl (hb hby at_146)
    refine Go.mp st35 ?_
    show Go p e below (T35.setTop (mkF m 149 #[.val (.int p1), .val (.int p2), .val (.int p3), .val (.int p4), .val (.int p5), .val (.int p6), .val (.ref a1), .val (.int (3 : Int32)), .val (.int (1 : Int32)), .unset, .unset, .unset] [(.ref w_ROTATION_90), (.ref a1)])) _
    obtain ⟨v36, T36, L36, X36, q36, st36⟩ := own_callV X35 hx hZ (y := (⟨"com/example/reorient/reorient/service/Window", "pictureOf", "(Lcom/example/reorient/reorient/model/Rotation;)Z"⟩ : MethodName)) (pc := 149) (Ls := #[.val (.int p1), .val (.int p2), .val (.int p3), .val (.int p4), .val (.int p5), .val (.int p6), .val (.ref a1), .val (.int (3 : Int32)), .val (.int (1 : Int32)), .unset, .unset, .unset]) (st := [(.ref w_ROTATION_90), (.ref a1)]) hown (hw _ (List.mem_of_getElem? (i := 53) rfl)) (hw _ (List.mem_of_getElem? (i := 54) rfl)) (hw _ (List.mem_of_getElem? (i := 56) rfl)) (hw _ (List.mem_of_getElem? (i := 55) rfl)) (hw _ (List.mem_of_getElem? (i := 57) rfl)) (hw _ (List.mem_of_getElem? (i := 2) rfl)) (by decide) (rm_pictureOf l Z a0 hw a1 w_ROTATION_90 (.ref w_ROTATION_270) h0 n0 Z0 F_a1_picture rfl) e35 E_a1 pd_0 (hb hby at_149) (by rw [hml]; rfl) (argsL := [(.ref w_ROTATION_90)]) (rest := []) rfl rfl rfl (W := 0) (Nat.le_of_eq rfl) (by decide) (by decide) (by decide) (by decide)
    obtain ⟨rfl, M36, e36⟩ := q36
    have N36 := Fr.app N34 M36
    have r36 : (f_pictureOf a1 w_ROTATION_90 (.ref w_ROTATION_270)) = (0 : Int32) := by rw [f_pictureOf, if_neg ((fun q => ne_ROTATION_270_ROTATION_90 (Value.ref.inj q)) : ¬ ((Value.ref w_ROTATION_270) = (Value.ref w_ROTATION_90)))]
    rw [r36] at st36
    refine Go.mp st36 ?_
    show Go p e below (T36.setTop (mkF m 152 #[.val (.int p1), .val (.int p2), .val (.int p3), .val (.int p4), .val (.int p5), .val (.int p6), .val (.ref a1), .val (.int (3 : Int32)), .val (.int (1 : Int32)), .unset, .unset, .unset] [(.int (0 : Int32))])) _
    refine g_iload X36 hx (hb hby at_152) rfl ?_
    refine g_iconst X36 hx (1 : Int32) (hb hby at_154) (by decide) ?_
    refine g_icmpYes X36 hx 162 (hb hby at_155) (feq ((by decide) : ¬ ((3 : Int32) = (1 : Int32)))).2 (by decide) (by decide) ?_
    refine g_iconst X36 hx (0 : Int32) (hb hby at_162) (by decide) ?_
    refine g_icmpNo X36 hx (hb hby at_163) (teq ((by decide) : (0 : Int32) = (0 : Int32))).2 ?_
    refine g_iconst X36 hx (1 : Int32) (hb hby at_166) (by decide) ?_
    refine g_goto X36 hx 171 (hb hby at_167) (by decide) (by decide) ?_
    refine g_istore X36 hx #[.val (.int p1), .val (.int p2), .val (.int p3), .val (.int p4), .val (.int p5), .val (.int p6), .val (.ref a1), .val (.int (3 : Int32)), .val (.int (1 : Int32)), .val (.int (1 : Int32)), .unset, .unset] (hb hby at_171) rfl ?_
    refine g_aload X36 hx (hb hby at_173) rfl rfl ?_
    obtain ⟨T37, X37, e37, st37⟩ := getS2 X36 hx hZ hown (host := "") (Or.inl (hw _ (List.mem_of_getElem? (i := 51) rfl))) Via.refl e36 S_ROTATION_180 (g := (mkF m 175 #[.val (.int p1), .val (.int p2), .val (.int p3), .val (.int p4), .val (.int p5), .val (.int p6), .val (.ref a1), .val (.int (3 : Int32)), .val (.int (1 : Int32)), .val (.int (1 : Int32)), .unset, .unset] [(.ref a1)])) rfl (hb hby at_175)
    refine Go.mp st37 ?_
    show Go p e below (T37.setTop (mkF m 178 #[.val (.int p1), .val (.int p2), .val (.int p3), .val (.int p4), .val (.int p5), .val (.int p6), .val (.ref a1), .val (.int (3 : Int32)), .val (.int (1 : Int32)), .val (.int (1 : Int32)), .unset, .unset] [(.ref w_ROTATION_180), (.ref a1)])) _
    obtain ⟨v38, T38, L38, X38, q38, st38⟩ := own_callV X37 hx hZ (y := (⟨"com/example/reorient/reorient/service/Window", "pictureOf", "(Lcom/example/reorient/reorient/model/Rotation;)Z"⟩ : MethodName)) (pc := 178) (Ls := #[.val (.int p1), .val (.int p2), .val (.int p3), .val (.int p4), .val (.int p5), .val (.int p6), .val (.ref a1), .val (.int (3 : Int32)), .val (.int (1 : Int32)), .val (.int (1 : Int32)), .unset, .unset]) (st := [(.ref w_ROTATION_180), (.ref a1)]) hown (hw _ (List.mem_of_getElem? (i := 53) rfl)) (hw _ (List.mem_of_getElem? (i := 54) rfl)) (hw _ (List.mem_of_getElem? (i := 56) rfl)) (hw _ (List.mem_of_getElem? (i := 55) rfl)) (hw _ (List.mem_of_getElem? (i := 57) rfl)) (hw _ (List.mem_of_getElem? (i := 2) rfl)) (by decide) (rm_pictureOf l Z a0 hw a1 w_ROTATION_180 (.ref w_ROTATION_270) h0 n0 Z0 F_a1_picture rfl) e37 E_a1 pd_0 (hb hby at_178) (by rw [hml]; rfl) (argsL := [(.ref w_ROTATION_180)]) (rest := []) rfl rfl rfl (W := 0) (Nat.le_of_eq rfl) (by decide) (by decide) (by decide) (by decide)
    obtain ⟨rfl, M38, e38⟩ := q38
    have N38 := Fr.app N36 M38
    have r38 : (f_pictureOf a1 w_ROTATION_180 (.ref w_ROTATION_270)) = (0 : Int32) := by rw [f_pictureOf, if_neg ((fun q => ne_ROTATION_270_ROTATION_180 (Value.ref.inj q)) : ¬ ((Value.ref w_ROTATION_270) = (Value.ref w_ROTATION_180)))]
    rw [r38] at st38
    refine Go.mp st38 ?_
    show Go p e below (T38.setTop (mkF m 181 #[.val (.int p1), .val (.int p2), .val (.int p3), .val (.int p4), .val (.int p5), .val (.int p6), .val (.ref a1), .val (.int (3 : Int32)), .val (.int (1 : Int32)), .val (.int (1 : Int32)), .unset, .unset] [(.int (0 : Int32))])) _
    refine g_iload X38 hx (hb hby at_181) rfl ?_
    refine g_iconst X38 hx (2 : Int32) (hb hby at_183) (by decide) ?_
    refine g_icmpYes X38 hx 191 (hb hby at_184) (feq ((by decide) : ¬ ((3 : Int32) = (2 : Int32)))).2 (by decide) (by decide) ?_
    refine g_iconst X38 hx (0 : Int32) (hb hby at_191) (by decide) ?_
    refine g_icmpNo X38 hx (hb hby at_192) (teq ((by decide) : (0 : Int32) = (0 : Int32))).2 ?_
    refine g_iconst X38 hx (1 : Int32) (hb hby at_195) (by decide) ?_
    refine g_goto X38 hx 200 (hb hby at_196) (by decide) (by decide) ?_
    refine g_istore X38 hx #[.val (.int p1), .val (.int p2), .val (.int p3), .val (.int p4), .val (.int p5), .val (.int p6), .val (.ref a1), .val (.int (3 : Int32)), .val (.int (1 : Int32)), .val (.int (1 : Int32)), .val (.int (1 : Int32)), .unset] (hb hby at_200) rfl ?_
    refine g_aload X38 hx (hb hby at_202) rfl rfl ?_
    obtain ⟨T39, X39, e39, st39⟩ := getS2 X38 hx hZ hown (host := "") (Or.inl (hw _ (List.mem_of_getElem? (i := 41) rfl))) Via.refl e38 S_ROTATION_270 (g := (mkF m 204 #[.val (.int p1), .val (.int p2), .val (.int p3), .val (.int p4), .val (.int p5), .val (.int p6), .val (.ref a1), .val (.int (3 : Int32)), .val (.int (1 : Int32)), .val (.int (1 : Int32)), .val (.int (1 : Int32)), .unset] [(.ref a1)])) rfl (hb hby at_204)
    refine Go.mp st39 ?_
    show Go p e below (T39.setTop (mkF m 207 #[.val (.int p1), .val (.int p2), .val (.int p3), .val (.int p4), .val (.int p5), .val (.int p6), .val (.ref a1), .val (.int (3 : Int32)), .val (.int (1 : Int32)), .val (.int (1 : Int32)), .val (.int (1 : Int32)), .unset] [(.ref w_ROTATION_270), (.ref a1)])) _
    obtain ⟨v40, T40, L40, X40, q40, st40⟩ := own_callV X39 hx hZ (y := (⟨"com/example/reorient/reorient/service/Window", "pictureOf", "(Lcom/example/reorient/reorient/model/Rotation;)Z"⟩ : MethodName)) (pc := 207) (Ls := #[.val (.int p1), .val (.int p2), .val (.int p3), .val (.int p4), .val (.int p5), .val (.int p6), .val (.ref a1), .val (.int (3 : Int32)), .val (.int (1 : Int32)), .val (.int (1 : Int32)), .val (.int (1 : Int32)), .unset]) (st := [(.ref w_ROTATION_270), (.ref a1)]) hown (hw _ (List.mem_of_getElem? (i := 53) rfl)) (hw _ (List.mem_of_getElem? (i := 54) rfl)) (hw _ (List.mem_of_getElem? (i := 56) rfl)) (hw _ (List.mem_of_getElem? (i := 55) rfl)) (hw _ (List.mem_of_getElem? (i := 57) rfl)) (hw _ (List.mem_of_getElem? (i := 2) rfl)) (by decide) (rm_pictureOf l Z a0 hw a1 w_ROTATION_270 (.ref w_ROTATION_270) h0 n0 Z0 F_a1_picture rfl) e39 E_a1 pd_0 (hb hby at_207) (by rw [hml]; rfl) (argsL := [(.ref w_ROTATION_270)]) (rest := []) rfl rfl rfl (W := 0) (Nat.le_of_eq rfl) (by decide) (by decide) (by decide) (by decide)
    obtain ⟨rfl, M40, e40⟩ := q40
    have N40 := Fr.app N38 M40
    have r40 : (f_pictureOf a1 w_ROTATION_270 (.ref w_ROTATION_270)) = (1 : Int32) := by rw [f_pictureOf, if_pos (rfl : (Value.ref w_ROTATION_270) = (Value.ref w_ROTATION_270))]
    rw [r40] at st40
    refine Go.mp st40 ?_
    show Go p e below (T40.setTop (mkF m 210 #[.val (.int p1), .val (.int p2), .val (.int p3), .val (.int p4), .val (.int p5), .val (.int p6), .val (.ref a1), .val (.int (3 : Int32)), .val (.int (1 : Int32)), .val (.int (1 : Int32)), .val (.int (1 : Int32)), .unset] [(.int (1 : Int32))])) _
    refine g_iload X40 hx (hb hby at_210) rfl ?_
    refine g_iconst X40 hx (3 : Int32) (hb hby at_212) (by decide) ?_
    refine g_icmpNo X40 hx (hb hby at_213) (teq ((by decide) : (3 : Int32) = (3 : Int32))).2 ?_
    refine g_iconst X40 hx (1 : Int32) (hb hby at_216) (by decide) ?_
    refine g_goto X40 hx 221 (hb hby at_217) (by decide) (by decide) ?_
    refine g_icmpNo X40 hx (hb hby at_221) (teq ((by decide) : (1 : Int32) = (1 : Int32))).2 ?_
    refine g_iconst X40 hx (1 : Int32) (hb hby at_224) (by decide) ?_
    refine g_goto X40 hx 229 (hb hby at_225) (by decide) (by decide) ?_
    refine g_istore X40 hx #[.val (.int p1), .val (.int p2), .val (.int p3), .val (.int p4), .val (.int p5), .val (.int p6), .val (.ref a1), .val (.int (3 : Int32)), .val (.int (1 : Int32)), .val (.int (1 : Int32)), .val (.int (1 : Int32)), .val (.int (1 : Int32))] (hb hby at_229) rfl ?_
    refine g_iload X40 hx (hb hby at_231) rfl ?_
    refine g_ifNo X40 hx (hb hby at_233) ((if0 _ _).trans (feq ((by decide) : ¬ ((1 : Int32) = (0 : Int32)))).1) ?_
    refine g_iload X40 hx (hb hby at_236) rfl ?_
    refine g_ifNo X40 hx (hb hby at_238) ((if0 _ _).trans (feq ((by decide) : ¬ ((1 : Int32) = (0 : Int32)))).1) ?_
    refine g_iload X40 hx (hb hby at_241) rfl ?_
    refine g_ifNo X40 hx (hb hby at_243) ((if0 _ _).trans (feq ((by decide) : ¬ ((1 : Int32) = (0 : Int32)))).1) ?_
    refine g_iload X40 hx (hb hby at_246) rfl ?_
    refine g_ifNo X40 hx (hb hby at_248) ((if0 _ _).trans (feq ((by decide) : ¬ ((1 : Int32) = (0 : Int32)))).1) ?_
    refine g_iconst X40 hx (1 : Int32) (hb hby at_251) (by decide) ?_
    refine g_goto X40 hx 256 (hb hby at_252) (by decide) (by decide) ?_
    exact own_retZW X40 hx hret hlk hS (by rw [e40]; exact hB) (hb hby at_256) (by decide) (by decide) (by decide) ⟨rfl, N40⟩
theorem pd_1 : parseMethodDescriptor "(I)Lcom/example/reorient/reorient/model/Rotation;" = some ⟨[FieldType.int], some (FieldType.object "com/example/reorient/reorient/model/Rotation")⟩ := by decide +kernel
theorem pd_2 : parseMethodDescriptor "(Lcom/example/reorient/reorient/model/Rotation;)V" = some ⟨[(FieldType.object "com/example/reorient/reorient/model/Rotation")], none⟩ := by decide +kernel
theorem pd_3 : parseMethodDescriptor "(II)I" = some ⟨[FieldType.int, FieldType.int], some FieldType.int⟩ := by decide +kernel
set_option maxRecDepth 65536 in
set_option maxHeartbeats 40000000 in
theorem seg_4 (l : Launch) (Z : State) (a0 : Array Value) (hw : ∀ d ∈ tables_1, d.before a0 Z = true) (p1 : Int32) (p2 : Int32) (p3 : Int32) (p4 : Int32) (p5 : Int32) (p6 : Int32) (a1 : Addr) (pp : Int32) (pv : Value) (dz : Int32) (w_ROTATION_0 : Addr) (w_APPLICATION : Addr) (w_ROTATION_270 : Addr) (w_ROTATION_180 : Addr) (w_ROTATION_90 : Addr) (h0 : Heap) (n0 : Nat) (Z0 : n0 ≤ h0.size) (S_ROTATION_0 : Sta Z h0 "com/example/reorient/reorient/model/Rotation" "ROTATION_0" "Lcom/example/reorient/reorient/model/Rotation;" (.ref w_ROTATION_0)) (E_w_ROTATION_0 : Exa Z h0 w_ROTATION_0 "com/example/reorient/reorient/model/Rotation") (S_APPLICATION : Sta Z h0 "com/example/reorient/reorient/model/WindowType" "APPLICATION" "Lcom/example/reorient/reorient/model/WindowType;" (.ref w_APPLICATION)) (E_w_APPLICATION : Exa Z h0 w_APPLICATION "com/example/reorient/reorient/model/WindowType") (S_ROTATION_270 : Sta Z h0 "com/example/reorient/reorient/model/Rotation" "ROTATION_270" "Lcom/example/reorient/reorient/model/Rotation;" (.ref w_ROTATION_270)) (E_w_ROTATION_270 : Exa Z h0 w_ROTATION_270 "com/example/reorient/reorient/model/Rotation") (S_ROTATION_180 : Sta Z h0 "com/example/reorient/reorient/model/Rotation" "ROTATION_180" "Lcom/example/reorient/reorient/model/Rotation;" (.ref w_ROTATION_180)) (E_w_ROTATION_180 : Exa Z h0 w_ROTATION_180 "com/example/reorient/reorient/model/Rotation") (S_ROTATION_90 : Sta Z h0 "com/example/reorient/reorient/model/Rotation" "ROTATION_90" "Lcom/example/reorient/reorient/model/Rotation;" (.ref w_ROTATION_90)) (E_w_ROTATION_90 : Exa Z h0 w_ROTATION_90 "com/example/reorient/reorient/model/Rotation") (ne_ROTATION_0_ROTATION_270 : ¬ (w_ROTATION_0 = w_ROTATION_270)) (ne_ROTATION_0_ROTATION_90 : ¬ (w_ROTATION_0 = w_ROTATION_90)) (ne_ROTATION_0_ROTATION_180 : ¬ (w_ROTATION_0 = w_ROTATION_180)) (ne_ROTATION_270_ROTATION_90 : ¬ (w_ROTATION_270 = w_ROTATION_90)) (ne_ROTATION_270_ROTATION_180 : ¬ (w_ROTATION_270 = w_ROTATION_180)) (ne_ROTATION_90_ROTATION_180 : ¬ (w_ROTATION_90 = w_ROTATION_180)) (E_a1 : Exa Z h0 a1 "com/example/reorient/reorient/service/Window") (F_a1_picture : Fld Z h0 a1 "com/example/reorient/reorient/service/Window" "picture" "Lcom/example/reorient/reorient/model/Rotation;" pv) (F_a1_drawn : Fld Z h0 a1 "com/example/reorient/reorient/service/Window" "drawn" "Z" (.int dz)) (g_a1 : n0 ≤ a1) (hr : own_P w_ROTATION_0 w_ROTATION_90 w_ROTATION_180 w_ROTATION_270 pp pv) {vm1 : Vm} {k1 : Nat} {p : Program} {e : Env} {s : State} {m : MethodId} {below : List Frame} {meth : Method} {c : Code} {args : Array Value} {s₁ : State} {lo : List Loc} (hx : p.tables.exec = Jvm.exec) (hby : c.code = code) (hml : c.maxLocals = maxLocals) (hown : (s.setVm vm1).vm.findClass "com/example/reorient/reorient/service/WindowPictureOfPinLaw" = some m.cls) (hnm : meth.name = "law") (hret : meth.sig.returnType = ret) (hlk : meth.locks = false) (hZ : Z.Warmed39 (s.setVm vm1).vm) (X0 : Stand p l e room_1 (s.setVm vm1) m args below meth c s₁ lo 3 15) (e0 : s₁.heap = h0) (N0 : Fr n0 lo) (hS : s.Since vm1 k1) (hB : k1 ≤ h0.size) :
    Go p e below (s₁.setTop (mkF m 89 #[.val (.int p1), .val (.int p2), .val (.int p3), .val (.int p4), .val (.int p5), .val (.int p6), .val (.ref a1), .val (.int pp), .unset, .unset, .unset, .unset] [])) (FinW s room_1.cells room_1.slots (fun v h L => v = some (.int 1) ∧ Fr n0 L)) := by
  show Go p e below (s₁.setTop (mkF m 89 #[.val (.int p1), .val (.int p2), .val (.int p3), .val (.int p4), .val (.int p5), .val (.int p6), .val (.ref a1), .val (.int pp), .unset, .unset, .unset, .unset] [])) _
  rcases hr with ⟨rfl, rfl⟩ | ⟨rfl, rfl⟩ | ⟨rfl, rfl⟩ | ⟨rfl, rfl⟩ | ⟨rfl, rfl⟩
  · refine g_iload X0 hx (hb hby at_89) rfl ?_
    refine g_bipush X0 hx (8 : Int32) (hb hby at_91) (by decide) ?_
    refine g_iand X0 hx (hb hby at_93) ?_
    by_cases c94_1 : (p6 &&& (8 : Int32)) = (0 : Int32)
    · refine g_ifYes X0 hx 116 (hb hby at_94) ((if0 _ _).trans (teq c94_1).1) (by decide) (by decide) ?_
      show Go p e below (s₁.setTop (mkF m 116 #[.val (.int p1), .val (.int p2), .val (.int p3), .val (.int p4), .val (.int p5), .val (.int p6), .val (.ref a1), .val (.int (-1 : Int32)), .unset, .unset, .unset, .unset] [])) _
      exact seg_5 l Z a0 hw p1 p2 p3 p4 p5 p6 a1 (-1 : Int32) .null dz w_ROTATION_0 w_APPLICATION w_ROTATION_270 w_ROTATION_180 w_ROTATION_90 h0 n0 Z0 S_ROTATION_0 E_w_ROTATION_0 S_APPLICATION E_w_APPLICATION S_ROTATION_270 E_w_ROTATION_270 S_ROTATION_180 E_w_ROTATION_180 S_ROTATION_90 E_w_ROTATION_90 ne_ROTATION_0_ROTATION_270 ne_ROTATION_0_ROTATION_90 ne_ROTATION_0_ROTATION_180 ne_ROTATION_270_ROTATION_90 ne_ROTATION_270_ROTATION_180 ne_ROTATION_90_ROTATION_180 E_a1 F_a1_picture F_a1_drawn g_a1 (Or.inl ⟨rfl, rfl⟩) hx hby hml hown hnm hret hlk hZ X0 e0 N0 hS hB
    · refine g_ifNo X0 hx (hb hby at_94) ((if0 _ _).trans (feq c94_1).1) ?_
      refine g_aload X0 hx (hb hby at_97) rfl rfl ?_
      refine g_iload X0 hx (hb hby at_99) rfl ?_
      show Go p e below (s₁.setTop (mkF m 101 #[.val (.int p1), .val (.int p2), .val (.int p3), .val (.int p4), .val (.int p5), .val (.int p6), .val (.ref a1), .val (.int (-1 : Int32)), .unset, .unset, .unset, .unset] [(.int p5), (.ref a1)])) _
      rcases own_and3 p5 with q2 | q2 | q2 | q2
      · obtain ⟨v3, T3, L3, X3, q3, st3⟩ := own_callS X0 hx hZ (y := (⟨"com/example/reorient/reorient/service/WindowPictureOfPinLaw", "rot", "(I)Lcom/example/reorient/reorient/model/Rotation;"⟩ : MethodName)) (pc := 101) (Ls := #[.val (.int p1), .val (.int p2), .val (.int p3), .val (.int p4), .val (.int p5), .val (.int p6), .val (.ref a1), .val (.int (-1 : Int32)), .unset, .unset, .unset, .unset]) (st := [(.int p5), (.ref a1)]) hown (hw _ (List.mem_of_getElem? (i := 11) rfl)) (hw _ (List.mem_of_getElem? (i := 12) rfl)) (hw _ (List.mem_of_getElem? (i := 13) rfl)) (hw _ (List.mem_of_getElem? (i := 14) rfl)) (by decide) (rm_rot l Z a0 hw p5 w_ROTATION_0 w_ROTATION_90 w_ROTATION_180 w_ROTATION_270 h0 n0 Z0 S_ROTATION_0 S_ROTATION_90 S_ROTATION_180 S_ROTATION_270) e0 pd_1 (hb hby at_101) (by rw [hml]; rfl) (argsL := [(.int p5)]) (rest := [(.ref a1)]) rfl rfl rfl (W := 1) (Nat.le_of_eq rfl) (by decide) (by decide) (by decide) (by decide)
        obtain ⟨rfl, M3, e3⟩ := q3
        have N3 := Fr.app N0 M3
        have r3 : (f_rot p5 w_ROTATION_0 w_ROTATION_90 w_ROTATION_180 w_ROTATION_270) = w_ROTATION_0 := by rw [f_rot, if_pos (q2 : (p5 &&& (3 : Int32)) = (0 : Int32))]
        rw [r3] at st3
        refine Go.mp st3 ?_
        show Go p e below (T3.setTop (mkF m 104 #[.val (.int p1), .val (.int p2), .val (.int p3), .val (.int p4), .val (.int p5), .val (.int p6), .val (.ref a1), .val (.int (-1 : Int32)), .unset, .unset, .unset, .unset] [(.ref w_ROTATION_0), (.ref a1)])) _
        obtain ⟨v4, T4, L4, X4, q4, st4⟩ := own_callV X3 hx hZ (y := (⟨"com/example/reorient/reorient/service/Window", "turnTo", "(Lcom/example/reorient/reorient/model/Rotation;)V"⟩ : MethodName)) (pc := 104) (Ls := #[.val (.int p1), .val (.int p2), .val (.int p3), .val (.int p4), .val (.int p5), .val (.int p6), .val (.ref a1), .val (.int (-1 : Int32)), .unset, .unset, .unset, .unset]) (st := [(.ref w_ROTATION_0), (.ref a1)]) hown (hw _ (List.mem_of_getElem? (i := 43) rfl)) (hw _ (List.mem_of_getElem? (i := 44) rfl)) (hw _ (List.mem_of_getElem? (i := 46) rfl)) (hw _ (List.mem_of_getElem? (i := 45) rfl)) (hw _ (List.mem_of_getElem? (i := 47) rfl)) (hw _ (List.mem_of_getElem? (i := 2) rfl)) (by decide) (rm_turnTo l Z a0 hw a1 w_ROTATION_0 .null dz h0 n0 Z0 rfl E_a1 F_a1_drawn F_a1_picture g_a1) e3 E_a1 pd_2 (hb hby at_104) (by rw [hml]; rfl) (argsL := [(.ref w_ROTATION_0)]) (rest := []) rfl rfl rfl (W := 0) (Nat.le_of_eq rfl) (by decide) (by decide) (by decide) (by decide)
        obtain ⟨rv4, M4, Kc4, Fk4_0, Fk4_1⟩ := q4
        have N4 := Fr.app N3 M4
        subst rv4
        have r4_1 : (f_turnTo_a1_picture a1 w_ROTATION_0 .null dz) = .null := by rw [f_turnTo_a1_picture, if_neg (nofun : ¬ (Value.null = (Value.ref w_ROTATION_0)))]
        rw [r4_1] at Fk4_1
        have S_ROTATION_0_4 := own_sta_keep S_ROTATION_0 Kc4 (own_plain E_a1 (fun _ q => nomatch q))
        have E_w_ROTATION_0_4 := Exa.keep E_w_ROTATION_0 Kc4
        have S_APPLICATION_4 := own_sta_keep S_APPLICATION Kc4 (own_plain E_a1 (fun _ q => nomatch q))
        have E_w_APPLICATION_4 := Exa.keep E_w_APPLICATION Kc4
        have S_ROTATION_270_4 := own_sta_keep S_ROTATION_270 Kc4 (own_plain E_a1 (fun _ q => nomatch q))
        have E_w_ROTATION_270_4 := Exa.keep E_w_ROTATION_270 Kc4
        have S_ROTATION_180_4 := own_sta_keep S_ROTATION_180 Kc4 (own_plain E_a1 (fun _ q => nomatch q))
        have E_w_ROTATION_180_4 := Exa.keep E_w_ROTATION_180 Kc4
        have S_ROTATION_90_4 := own_sta_keep S_ROTATION_90 Kc4 (own_plain E_a1 (fun _ q => nomatch q))
        have E_w_ROTATION_90_4 := Exa.keep E_w_ROTATION_90 Kc4
        have E_a1_4 := Exa.keep E_a1 Kc4
        have Z4 : n0 ≤ T4.heap.size := Nat.le_trans Z0 Kc4.1
        have B4 : _ ≤ T4.heap.size := Nat.le_trans hB Kc4.1
        refine Go.mp st4 ?_
        show Go p e below (T4.setTop (mkF m 107 #[.val (.int p1), .val (.int p2), .val (.int p3), .val (.int p4), .val (.int p5), .val (.int p6), .val (.ref a1), .val (.int (-1 : Int32)), .unset, .unset, .unset, .unset] [])) _
        refine g_iload X4 hx (hb hby at_107) rfl ?_
        refine g_iload X4 hx (hb hby at_109) rfl ?_
        obtain ⟨v5, T5, L5, X5, q5, st5⟩ := own_callS X4 hx hZ (y := (⟨"com/example/reorient/reorient/service/WindowPictureOfPinLaw", "turn", "(II)I"⟩ : MethodName)) (pc := 111) (Ls := #[.val (.int p1), .val (.int p2), .val (.int p3), .val (.int p4), .val (.int p5), .val (.int p6), .val (.ref a1), .val (.int (-1 : Int32)), .unset, .unset, .unset, .unset]) (st := [(.int p5), (.int (-1 : Int32))]) hown (hw _ (List.mem_of_getElem? (i := 48) rfl)) (hw _ (List.mem_of_getElem? (i := 49) rfl)) (hw _ (List.mem_of_getElem? (i := 13) rfl)) (hw _ (List.mem_of_getElem? (i := 50) rfl)) (by decide) (rm_turn l Z a0 hw (-1 : Int32) p5 T4.heap n0 Z4 ) (rfl : T4.heap = T4.heap) pd_3 (hb hby at_111) (by rw [hml]; rfl) (argsL := [(.int (-1 : Int32)), (.int p5)]) (rest := []) rfl rfl rfl (W := 0) (Nat.le_of_eq rfl) (by decide) (by decide) (by decide) (by decide)
        obtain ⟨rfl, M5, e5⟩ := q5
        have N5 := Fr.app N4 M5
        have r5 : (f_turn (-1 : Int32) p5) = (-1 : Int32) := by rw [f_turn, if_neg ((by rw [q2]; decide) : ¬ ((-1 : Int32) = (p5 &&& (3 : Int32))))]
        rw [r5] at st5
        refine Go.mp st5 ?_
        show Go p e below (T5.setTop (mkF m 114 #[.val (.int p1), .val (.int p2), .val (.int p3), .val (.int p4), .val (.int p5), .val (.int p6), .val (.ref a1), .val (.int (-1 : Int32)), .unset, .unset, .unset, .unset] [(.int (-1 : Int32))])) _
        refine g_istore X5 hx #[.val (.int p1), .val (.int p2), .val (.int p3), .val (.int p4), .val (.int p5), .val (.int p6), .val (.ref a1), .val (.int (-1 : Int32)), .unset, .unset, .unset, .unset] (hb hby at_114) rfl ?_
        show Go p e below (T5.setTop (mkF m 116 #[.val (.int p1), .val (.int p2), .val (.int p3), .val (.int p4), .val (.int p5), .val (.int p6), .val (.ref a1), .val (.int (-1 : Int32)), .unset, .unset, .unset, .unset] [])) _
        exact seg_5 l Z a0 hw p1 p2 p3 p4 p5 p6 a1 (-1 : Int32) .null dz w_ROTATION_0 w_APPLICATION w_ROTATION_270 w_ROTATION_180 w_ROTATION_90 T4.heap n0 Z4 S_ROTATION_0_4 E_w_ROTATION_0_4 S_APPLICATION_4 E_w_APPLICATION_4 S_ROTATION_270_4 E_w_ROTATION_270_4 S_ROTATION_180_4 E_w_ROTATION_180_4 S_ROTATION_90_4 E_w_ROTATION_90_4 ne_ROTATION_0_ROTATION_270 ne_ROTATION_0_ROTATION_90 ne_ROTATION_0_ROTATION_180 ne_ROTATION_270_ROTATION_90 ne_ROTATION_270_ROTATION_180 ne_ROTATION_90_ROTATION_180 E_a1_4 Fk4_1 Fk4_0 g_a1 (Or.inl ⟨rfl, rfl⟩) hx hby hml hown hnm hret hlk hZ X5 e5 N5 hS B4
      · obtain ⟨v6, T6, L6, X6, q6, st6⟩ := own_callS X0 hx hZ (y := (⟨"com/example/reorient/reorient/service/WindowPictureOfPinLaw", "rot", "(I)Lcom/example/reorient/reorient/model/Rotation;"⟩ : MethodName)) (pc := 101) (Ls := #[.val (.int p1), .val (.int p2), .val (.int p3), .val (.int p4), .val (.int p5), .val (.int p6), .val (.ref a1), .val (.int (-1 : Int32)), .unset, .unset, .unset, .unset]) (st := [(.int p5), (.ref a1)]) hown (hw _ (List.mem_of_getElem? (i := 11) rfl)) (hw _ (List.mem_of_getElem? (i := 12) rfl)) (hw _ (List.mem_of_getElem? (i := 13) rfl)) (hw _ (List.mem_of_getElem? (i := 14) rfl)) (by decide) (rm_rot l Z a0 hw p5 w_ROTATION_0 w_ROTATION_90 w_ROTATION_180 w_ROTATION_270 h0 n0 Z0 S_ROTATION_0 S_ROTATION_90 S_ROTATION_180 S_ROTATION_270) e0 pd_1 (hb hby at_101) (by rw [hml]; rfl) (argsL := [(.int p5)]) (rest := [(.ref a1)]) rfl rfl rfl (W := 1) (Nat.le_of_eq rfl) (by decide) (by decide) (by decide) (by decide)
        obtain ⟨rfl, M6, e6⟩ := q6
        have N6 := Fr.app N0 M6
        have r6 : (f_rot p5 w_ROTATION_0 w_ROTATION_90 w_ROTATION_180 w_ROTATION_270) = w_ROTATION_90 := by rw [f_rot, if_neg ((by rw [q2]; decide) : ¬ ((p5 &&& (3 : Int32)) = (0 : Int32))), if_pos (q2 : (p5 &&& (3 : Int32)) = (1 : Int32))]
        rw [r6] at st6
        refine Go.mp st6 ?_
        show Go p e below (T6.setTop (mkF m 104 #[.val (.int p1), .val (.int p2), .val (.int p3), .val (.int p4), .val (.int p5), .val (.int p6), .val (.ref a1), .val (.int (-1 : Int32)), .unset, .unset, .unset, .unset] [(.ref w_ROTATION_90), (.ref a1)])) _
        obtain ⟨v7, T7, L7, X7, q7, st7⟩ := own_callV X6 hx hZ (y := (⟨"com/example/reorient/reorient/service/Window", "turnTo", "(Lcom/example/reorient/reorient/model/Rotation;)V"⟩ : MethodName)) (pc := 104) (Ls := #[.val (.int p1), .val (.int p2), .val (.int p3), .val (.int p4), .val (.int p5), .val (.int p6), .val (.ref a1), .val (.int (-1 : Int32)), .unset, .unset, .unset, .unset]) (st := [(.ref w_ROTATION_90), (.ref a1)]) hown (hw _ (List.mem_of_getElem? (i := 43) rfl)) (hw _ (List.mem_of_getElem? (i := 44) rfl)) (hw _ (List.mem_of_getElem? (i := 46) rfl)) (hw _ (List.mem_of_getElem? (i := 45) rfl)) (hw _ (List.mem_of_getElem? (i := 47) rfl)) (hw _ (List.mem_of_getElem? (i := 2) rfl)) (by decide) (rm_turnTo l Z a0 hw a1 w_ROTATION_90 .null dz h0 n0 Z0 rfl E_a1 F_a1_drawn F_a1_picture g_a1) e6 E_a1 pd_2 (hb hby at_104) (by rw [hml]; rfl) (argsL := [(.ref w_ROTATION_90)]) (rest := []) rfl rfl rfl (W := 0) (Nat.le_of_eq rfl) (by decide) (by decide) (by decide) (by decide)
        obtain ⟨rv7, M7, Kc7, Fk7_0, Fk7_1⟩ := q7
        have N7 := Fr.app N6 M7
        subst rv7
        have r7_1 : (f_turnTo_a1_picture a1 w_ROTATION_90 .null dz) = .null := by rw [f_turnTo_a1_picture, if_neg (nofun : ¬ (Value.null = (Value.ref w_ROTATION_90)))]
        rw [r7_1] at Fk7_1
        have S_ROTATION_0_7 := own_sta_keep S_ROTATION_0 Kc7 (own_plain E_a1 (fun _ q => nomatch q))
        have E_w_ROTATION_0_7 := Exa.keep E_w_ROTATION_0 Kc7
        have S_APPLICATION_7 := own_sta_keep S_APPLICATION Kc7 (own_plain E_a1 (fun _ q => nomatch q))
        have E_w_APPLICATION_7 := Exa.keep E_w_APPLICATION Kc7
        have S_ROTATION_270_7 := own_sta_keep S_ROTATION_270 Kc7 (own_plain E_a1 (fun _ q => nomatch q))
        have E_w_ROTATION_270_7 := Exa.keep E_w_ROTATION_270 Kc7
        have S_ROTATION_180_7 := own_sta_keep S_ROTATION_180 Kc7 (own_plain E_a1 (fun _ q => nomatch q))
        have E_w_ROTATION_180_7 := Exa.keep E_w_ROTATION_180 Kc7
        have S_ROTATION_90_7 := own_sta_keep S_ROTATION_90 Kc7 (own_plain E_a1 (fun _ q => nomatch q))
        have E_w_ROTATION_90_7 := Exa.keep E_w_ROTATION_90 Kc7
        have E_a1_7 := Exa.keep E_a1 Kc7
        have Z7 : n0 ≤ T7.heap.size := Nat.le_trans Z0 Kc7.1
        have B7 : _ ≤ T7.heap.size := Nat.le_trans hB Kc7.1
        refine Go.mp st7 ?_
        show Go p e below (T7.setTop (mkF m 107 #[.val (.int p1), .val (.int p2), .val (.int p3), .val (.int p4), .val (.int p5), .val (.int p6), .val (.ref a1), .val (.int (-1 : Int32)), .unset, .unset, .unset, .unset] [])) _
        refine g_iload X7 hx (hb hby at_107) rfl ?_
        refine g_iload X7 hx (hb hby at_109) rfl ?_
        obtain ⟨v8, T8, L8, X8, q8, st8⟩ := own_callS X7 hx hZ (y := (⟨"com/example/reorient/reorient/service/WindowPictureOfPinLaw", "turn", "(II)I"⟩ : MethodName)) (pc := 111) (Ls := #[.val (.int p1), .val (.int p2), .val (.int p3), .val (.int p4), .val (.int p5), .val (.int p6), .val (.ref a1), .val (.int (-1 : Int32)), .unset, .unset, .unset, .unset]) (st := [(.int p5), (.int (-1 : Int32))]) hown (hw _ (List.mem_of_getElem? (i := 48) rfl)) (hw _ (List.mem_of_getElem? (i := 49) rfl)) (hw _ (List.mem_of_getElem? (i := 13) rfl)) (hw _ (List.mem_of_getElem? (i := 50) rfl)) (by decide) (rm_turn l Z a0 hw (-1 : Int32) p5 T7.heap n0 Z7 ) (rfl : T7.heap = T7.heap) pd_3 (hb hby at_111) (by rw [hml]; rfl) (argsL := [(.int (-1 : Int32)), (.int p5)]) (rest := []) rfl rfl rfl (W := 0) (Nat.le_of_eq rfl) (by decide) (by decide) (by decide) (by decide)
        obtain ⟨rfl, M8, e8⟩ := q8
        have N8 := Fr.app N7 M8
        have r8 : (f_turn (-1 : Int32) p5) = (-1 : Int32) := by rw [f_turn, if_neg ((by rw [q2]; decide) : ¬ ((-1 : Int32) = (p5 &&& (3 : Int32))))]
        rw [r8] at st8
        refine Go.mp st8 ?_
        show Go p e below (T8.setTop (mkF m 114 #[.val (.int p1), .val (.int p2), .val (.int p3), .val (.int p4), .val (.int p5), .val (.int p6), .val (.ref a1), .val (.int (-1 : Int32)), .unset, .unset, .unset, .unset] [(.int (-1 : Int32))])) _
        refine g_istore X8 hx #[.val (.int p1), .val (.int p2), .val (.int p3), .val (.int p4), .val (.int p5), .val (.int p6), .val (.ref a1), .val (.int (-1 : Int32)), .unset, .unset, .unset, .unset] (hb hby at_114) rfl ?_
        show Go p e below (T8.setTop (mkF m 116 #[.val (.int p1), .val (.int p2), .val (.int p3), .val (.int p4), .val (.int p5), .val (.int p6), .val (.ref a1), .val (.int (-1 : Int32)), .unset, .unset, .unset, .unset] [])) _
        exact seg_5 l Z a0 hw p1 p2 p3 p4 p5 p6 a1 (-1 : Int32) .null dz w_ROTATION_0 w_APPLICATION w_ROTATION_270 w_ROTATION_180 w_ROTATION_90 T7.heap n0 Z7 S_ROTATION_0_7 E_w_ROTATION_0_7 S_APPLICATION_7 E_w_APPLICATION_7 S_ROTATION_270_7 E_w_ROTATION_270_7 S_ROTATION_180_7 E_w_ROTATION_180_7 S_ROTATION_90_7 E_w_ROTATION_90_7 ne_ROTATION_0_ROTATION_270 ne_ROTATION_0_ROTATION_90 ne_ROTATION_0_ROTATION_180 ne_ROTATION_270_ROTATION_90 ne_ROTATION_270_ROTATION_180 ne_ROTATION_90_ROTATION_180 E_a1_7 Fk7_1 Fk7_0 g_a1 (Or.inl ⟨rfl, rfl⟩) hx hby hml hown hnm hret hlk hZ X8 e8 N8 hS B7
      · obtain ⟨v9, T9, L9, X9, q9, st9⟩ := own_callS X0 hx hZ (y := (⟨"com/example/reorient/reorient/service/WindowPictureOfPinLaw", "rot", "(I)Lcom/example/reorient/reorient/model/Rotation;"⟩ : MethodName)) (pc := 101) (Ls := #[.val (.int p1), .val (.int p2), .val (.int p3), .val (.int p4), .val (.int p5), .val (.int p6), .val (.ref a1), .val (.int (-1 : Int32)), .unset, .unset, .unset, .unset]) (st := [(.int p5), (.ref a1)]) hown (hw _ (List.mem_of_getElem? (i := 11) rfl)) (hw _ (List.mem_of_getElem? (i := 12) rfl)) (hw _ (List.mem_of_getElem? (i := 13) rfl)) (hw _ (List.mem_of_getElem? (i := 14) rfl)) (by decide) (rm_rot l Z a0 hw p5 w_ROTATION_0 w_ROTATION_90 w_ROTATION_180 w_ROTATION_270 h0 n0 Z0 S_ROTATION_0 S_ROTATION_90 S_ROTATION_180 S_ROTATION_270) e0 pd_1 (hb hby at_101) (by rw [hml]; rfl) (argsL := [(.int p5)]) (rest := [(.ref a1)]) rfl rfl rfl (W := 1) (Nat.le_of_eq rfl) (by decide) (by decide) (by decide) (by decide)
        obtain ⟨rfl, M9, e9⟩ := q9
        have N9 := Fr.app N0 M9
        have r9 : (f_rot p5 w_ROTATION_0 w_ROTATION_90 w_ROTATION_180 w_ROTATION_270) = w_ROTATION_180 := by rw [f_rot, if_neg ((by rw [q2]; decide) : ¬ ((p5 &&& (3 : Int32)) = (0 : Int32))), if_neg ((by rw [q2]; decide) : ¬ ((p5 &&& (3 : Int32)) = (1 : Int32))), if_pos (q2 : (p5 &&& (3 : Int32)) = (2 : Int32))]
        rw [r9] at st9
        refine Go.mp st9 ?_
        show Go p e below (T9.setTop (mkF m 104 #[.val (.int p1), .val (.int p2), .val (.int p3), .val (.int p4), .val (.int p5), .val (.int p6), .val (.ref a1), .val (.int (-1 : Int32)), .unset, .unset, .unset, .unset] [(.ref w_ROTATION_180), (.ref a1)])) _
        obtain ⟨v10, T10, L10, X10, q10, st10⟩ := own_callV X9 hx hZ (y := (⟨"com/example/reorient/reorient/service/Window", "turnTo", "(Lcom/example/reorient/reorient/model/Rotation;)V"⟩ : MethodName)) (pc := 104) (Ls := #[.val (.int p1), .val (.int p2), .val (.int p3), .val (.int p4), .val (.int p5), .val (.int p6), .val (.ref a1), .val (.int (-1 : Int32)), .unset, .unset, .unset, .unset]) (st := [(.ref w_ROTATION_180), (.ref a1)]) hown (hw _ (List.mem_of_getElem? (i := 43) rfl)) (hw _ (List.mem_of_getElem? (i := 44) rfl)) (hw _ (List.mem_of_getElem? (i := 46) rfl)) (hw _ (List.mem_of_getElem? (i := 45) rfl)) (hw _ (List.mem_of_getElem? (i := 47) rfl)) (hw _ (List.mem_of_getElem? (i := 2) rfl)) (by decide) (rm_turnTo l Z a0 hw a1 w_ROTATION_180 .null dz h0 n0 Z0 rfl E_a1 F_a1_drawn F_a1_picture g_a1) e9 E_a1 pd_2 (hb hby at_104) (by rw [hml]; rfl) (argsL := [(.ref w_ROTATION_180)]) (rest := []) rfl rfl rfl (W := 0) (Nat.le_of_eq rfl) (by decide) (by decide) (by decide) (by decide)
        obtain ⟨rv10, M10, Kc10, Fk10_0, Fk10_1⟩ := q10
        have N10 := Fr.app N9 M10
        subst rv10
        have r10_1 : (f_turnTo_a1_picture a1 w_ROTATION_180 .null dz) = .null := by rw [f_turnTo_a1_picture, if_neg (nofun : ¬ (Value.null = (Value.ref w_ROTATION_180)))]
        rw [r10_1] at Fk10_1
        have S_ROTATION_0_10 := own_sta_keep S_ROTATION_0 Kc10 (own_plain E_a1 (fun _ q => nomatch q))
        have E_w_ROTATION_0_10 := Exa.keep E_w_ROTATION_0 Kc10
        have S_APPLICATION_10 := own_sta_keep S_APPLICATION Kc10 (own_plain E_a1 (fun _ q => nomatch q))
        have E_w_APPLICATION_10 := Exa.keep E_w_APPLICATION Kc10
        have S_ROTATION_270_10 := own_sta_keep S_ROTATION_270 Kc10 (own_plain E_a1 (fun _ q => nomatch q))
        have E_w_ROTATION_270_10 := Exa.keep E_w_ROTATION_270 Kc10
        have S_ROTATION_180_10 := own_sta_keep S_ROTATION_180 Kc10 (own_plain E_a1 (fun _ q => nomatch q))
        have E_w_ROTATION_180_10 := Exa.keep E_w_ROTATION_180 Kc10
        have S_ROTATION_90_10 := own_sta_keep S_ROTATION_90 Kc10 (own_plain E_a1 (fun _ q => nomatch q))
        have E_w_ROTATION_90_10 := Exa.keep E_w_ROTATION_90 Kc10
        have E_a1_10 := Exa.keep E_a1 Kc10
        have Z10 : n0 ≤ T10.heap.size := Nat.le_trans Z0 Kc10.1
        have B10 : _ ≤ T10.heap.size := Nat.le_trans hB Kc10.1
        refine Go.mp st10 ?_
        show Go p e below (T10.setTop (mkF m 107 #[.val (.int p1), .val (.int p2), .val (.int p3), .val (.int p4), .val (.int p5), .val (.int p6), .val (.ref a1), .val (.int (-1 : Int32)), .unset, .unset, .unset, .unset] [])) _
        refine g_iload X10 hx (hb hby at_107) rfl ?_
        refine g_iload X10 hx (hb hby at_109) rfl ?_
        obtain ⟨v11, T11, L11, X11, q11, st11⟩ := own_callS X10 hx hZ (y := (⟨"com/example/reorient/reorient/service/WindowPictureOfPinLaw", "turn", "(II)I"⟩ : MethodName)) (pc := 111) (Ls := #[.val (.int p1), .val (.int p2), .val (.int p3), .val (.int p4), .val (.int p5), .val (.int p6), .val (.ref a1), .val (.int (-1 : Int32)), .unset, .unset, .unset, .unset]) (st := [(.int p5), (.int (-1 : Int32))]) hown (hw _ (List.mem_of_getElem? (i := 48) rfl)) (hw _ (List.mem_of_getElem? (i := 49) rfl)) (hw _ (List.mem_of_getElem? (i := 13) rfl)) (hw _ (List.mem_of_getElem? (i := 50) rfl)) (by decide) (rm_turn l Z a0 hw (-1 : Int32) p5 T10.heap n0 Z10 ) (rfl : T10.heap = T10.heap) pd_3 (hb hby at_111) (by rw [hml]; rfl) (argsL := [(.int (-1 : Int32)), (.int p5)]) (rest := []) rfl rfl rfl (W := 0) (Nat.le_of_eq rfl) (by decide) (by decide) (by decide) (by decide)
        obtain ⟨rfl, M11, e11⟩ := q11
        have N11 := Fr.app N10 M11
        have r11 : (f_turn (-1 : Int32) p5) = (-1 : Int32) := by rw [f_turn, if_neg ((by rw [q2]; decide) : ¬ ((-1 : Int32) = (p5 &&& (3 : Int32))))]
        rw [r11] at st11
        refine Go.mp st11 ?_
        show Go p e below (T11.setTop (mkF m 114 #[.val (.int p1), .val (.int p2), .val (.int p3), .val (.int p4), .val (.int p5), .val (.int p6), .val (.ref a1), .val (.int (-1 : Int32)), .unset, .unset, .unset, .unset] [(.int (-1 : Int32))])) _
        refine g_istore X11 hx #[.val (.int p1), .val (.int p2), .val (.int p3), .val (.int p4), .val (.int p5), .val (.int p6), .val (.ref a1), .val (.int (-1 : Int32)), .unset, .unset, .unset, .unset] (hb hby at_114) rfl ?_
        show Go p e below (T11.setTop (mkF m 116 #[.val (.int p1), .val (.int p2), .val (.int p3), .val (.int p4), .val (.int p5), .val (.int p6), .val (.ref a1), .val (.int (-1 : Int32)), .unset, .unset, .unset, .unset] [])) _
        exact seg_5 l Z a0 hw p1 p2 p3 p4 p5 p6 a1 (-1 : Int32) .null dz w_ROTATION_0 w_APPLICATION w_ROTATION_270 w_ROTATION_180 w_ROTATION_90 T10.heap n0 Z10 S_ROTATION_0_10 E_w_ROTATION_0_10 S_APPLICATION_10 E_w_APPLICATION_10 S_ROTATION_270_10 E_w_ROTATION_270_10 S_ROTATION_180_10 E_w_ROTATION_180_10 S_ROTATION_90_10 E_w_ROTATION_90_10 ne_ROTATION_0_ROTATION_270 ne_ROTATION_0_ROTATION_90 ne_ROTATION_0_ROTATION_180 ne_ROTATION_270_ROTATION_90 ne_ROTATION_270_ROTATION_180 ne_ROTATION_90_ROTATION_180 E_a1_10 Fk10_1 Fk10_0 g_a1 (Or.inl ⟨rfl, rfl⟩) hx hby hml hown hnm hret hlk hZ X11 e11 N11 hS B10
      · obtain ⟨v12, T12, L12, X12, q12, st12⟩ := own_callS X0 hx hZ (y := (⟨"com/example/reorient/reorient/service/WindowPictureOfPinLaw", "rot", "(I)Lcom/example/reorient/reorient/model/Rotation;"⟩ : MethodName)) (pc := 101) (Ls := #[.val (.int p1), .val (.int p2), .val (.int p3), .val (.int p4), .val (.int p5), .val (.int p6), .val (.ref a1), .val (.int (-1 : Int32)), .unset, .unset, .unset, .unset]) (st := [(.int p5), (.ref a1)]) hown (hw _ (List.mem_of_getElem? (i := 11) rfl)) (hw _ (List.mem_of_getElem? (i := 12) rfl)) (hw _ (List.mem_of_getElem? (i := 13) rfl)) (hw _ (List.mem_of_getElem? (i := 14) rfl)) (by decide) (rm_rot l Z a0 hw p5 w_ROTATION_0 w_ROTATION_90 w_ROTATION_180 w_ROTATION_270 h0 n0 Z0 S_ROTATION_0 S_ROTATION_90 S_ROTATION_180 S_ROTATION_270) e0 pd_1 (hb hby at_101) (by rw [hml]; rfl) (argsL := [(.int p5)]) (rest := [(.ref a1)]) rfl rfl rfl (W := 1) (Nat.le_of_eq rfl) (by decide) (by decide) (by decide) (by decide)
        obtain ⟨rfl, M12, e12⟩ := q12
        have N12 := Fr.app N0 M12
        have r12 : (f_rot p5 w_ROTATION_0 w_ROTATION_90 w_ROTATION_180 w_ROTATION_270) = w_ROTATION_270 := by rw [f_rot, if_neg ((by rw [q2]; decide) : ¬ ((p5 &&& (3 : Int32)) = (0 : Int32))), if_neg ((by rw [q2]; decide) : ¬ ((p5 &&& (3 : Int32)) = (1 : Int32))), if_neg ((by rw [q2]; decide) : ¬ ((p5 &&& (3 : Int32)) = (2 : Int32)))]
        rw [r12] at st12
        refine Go.mp st12 ?_
        show Go p e below (T12.setTop (mkF m 104 #[.val (.int p1), .val (.int p2), .val (.int p3), .val (.int p4), .val (.int p5), .val (.int p6), .val (.ref a1), .val (.int (-1 : Int32)), .unset, .unset, .unset, .unset] [(.ref w_ROTATION_270), (.ref a1)])) _
        obtain ⟨v13, T13, L13, X13, q13, st13⟩ := own_callV X12 hx hZ (y := (⟨"com/example/reorient/reorient/service/Window", "turnTo", "(Lcom/example/reorient/reorient/model/Rotation;)V"⟩ : MethodName)) (pc := 104) (Ls := #[.val (.int p1), .val (.int p2), .val (.int p3), .val (.int p4), .val (.int p5), .val (.int p6), .val (.ref a1), .val (.int (-1 : Int32)), .unset, .unset, .unset, .unset]) (st := [(.ref w_ROTATION_270), (.ref a1)]) hown (hw _ (List.mem_of_getElem? (i := 43) rfl)) (hw _ (List.mem_of_getElem? (i := 44) rfl)) (hw _ (List.mem_of_getElem? (i := 46) rfl)) (hw _ (List.mem_of_getElem? (i := 45) rfl)) (hw _ (List.mem_of_getElem? (i := 47) rfl)) (hw _ (List.mem_of_getElem? (i := 2) rfl)) (by decide) (rm_turnTo l Z a0 hw a1 w_ROTATION_270 .null dz h0 n0 Z0 rfl E_a1 F_a1_drawn F_a1_picture g_a1) e12 E_a1 pd_2 (hb hby at_104) (by rw [hml]; rfl) (argsL := [(.ref w_ROTATION_270)]) (rest := []) rfl rfl rfl (W := 0) (Nat.le_of_eq rfl) (by decide) (by decide) (by decide) (by decide)
        obtain ⟨rv13, M13, Kc13, Fk13_0, Fk13_1⟩ := q13
        have N13 := Fr.app N12 M13
        subst rv13
        have r13_1 : (f_turnTo_a1_picture a1 w_ROTATION_270 .null dz) = .null := by rw [f_turnTo_a1_picture, if_neg (nofun : ¬ (Value.null = (Value.ref w_ROTATION_270)))]
        rw [r13_1] at Fk13_1
        have S_ROTATION_0_13 := own_sta_keep S_ROTATION_0 Kc13 (own_plain E_a1 (fun _ q => nomatch q))
        have E_w_ROTATION_0_13 := Exa.keep E_w_ROTATION_0 Kc13
        have S_APPLICATION_13 := own_sta_keep S_APPLICATION Kc13 (own_plain E_a1 (fun _ q => nomatch q))
        have E_w_APPLICATION_13 := Exa.keep E_w_APPLICATION Kc13
        have S_ROTATION_270_13 := own_sta_keep S_ROTATION_270 Kc13 (own_plain E_a1 (fun _ q => nomatch q))
        have E_w_ROTATION_270_13 := Exa.keep E_w_ROTATION_270 Kc13
        have S_ROTATION_180_13 := own_sta_keep S_ROTATION_180 Kc13 (own_plain E_a1 (fun _ q => nomatch q))
        have E_w_ROTATION_180_13 := Exa.keep E_w_ROTATION_180 Kc13
        have S_ROTATION_90_13 := own_sta_keep S_ROTATION_90 Kc13 (own_plain E_a1 (fun _ q => nomatch q))
        have E_w_ROTATION_90_13 := Exa.keep E_w_ROTATION_90 Kc13
        have E_a1_13 := Exa.keep E_a1 Kc13
        have Z13 : n0 ≤ T13.heap.size := Nat.le_trans Z0 Kc13.1
        have B13 : _ ≤ T13.heap.size := Nat.le_trans hB Kc13.1
        refine Go.mp st13 ?_
        show Go p e below (T13.setTop (mkF m 107 #[.val (.int p1), .val (.int p2), .val (.int p3), .val (.int p4), .val (.int p5), .val (.int p6), .val (.ref a1), .val (.int (-1 : Int32)), .unset, .unset, .unset, .unset] [])) _
        refine g_iload X13 hx (hb hby at_107) rfl ?_
        refine g_iload X13 hx (hb hby at_109) rfl ?_
        obtain ⟨v14, T14, L14, X14, q14, st14⟩ := own_callS X13 hx hZ (y := (⟨"com/example/reorient/reorient/service/WindowPictureOfPinLaw", "turn", "(II)I"⟩ : MethodName)) (pc := 111) (Ls := #[.val (.int p1), .val (.int p2), .val (.int p3), .val (.int p4), .val (.int p5), .val (.int p6), .val (.ref a1), .val (.int (-1 : Int32)), .unset, .unset, .unset, .unset]) (st := [(.int p5), (.int (-1 : Int32))]) hown (hw _ (List.mem_of_getElem? (i := 48) rfl)) (hw _ (List.mem_of_getElem? (i := 49) rfl)) (hw _ (List.mem_of_getElem? (i := 13) rfl)) (hw _ (List.mem_of_getElem? (i := 50) rfl)) (by decide) (rm_turn l Z a0 hw (-1 : Int32) p5 T13.heap n0 Z13 ) (rfl : T13.heap = T13.heap) pd_3 (hb hby at_111) (by rw [hml]; rfl) (argsL := [(.int (-1 : Int32)), (.int p5)]) (rest := []) rfl rfl rfl (W := 0) (Nat.le_of_eq rfl) (by decide) (by decide) (by decide) (by decide)
        obtain ⟨rfl, M14, e14⟩ := q14
        have N14 := Fr.app N13 M14
        have r14 : (f_turn (-1 : Int32) p5) = (-1 : Int32) := by rw [f_turn, if_neg ((by rw [q2]; decide) : ¬ ((-1 : Int32) = (p5 &&& (3 : Int32))))]
        rw [r14] at st14
        refine Go.mp st14 ?_
        show Go p e below (T14.setTop (mkF m 114 #[.val (.int p1), .val (.int p2), .val (.int p3), .val (.int p4), .val (.int p5), .val (.int p6), .val (.ref a1), .val (.int (-1 : Int32)), .unset, .unset, .unset, .unset] [(.int (-1 : Int32))])) _
        refine g_istore X14 hx #[.val (.int p1), .val (.int p2), .val (.int p3), .val (.int p4), .val (.int p5), .val (.int p6), .val (.ref a1), .val (.int (-1 : Int32)), .unset, .unset, .unset, .unset] (hb hby at_114) rfl ?_
        show Go p e below (T14.setTop (mkF m 116 #[.val (.int p1), .val (.int p2), .val (.int p3), .val (.int p4), .val (.int p5), .val (.int p6), .val (.ref a1), .val (.int (-1 : Int32)), .unset, .unset, .unset, .unset] [])) _
        exact seg_5 l Z a0 hw p1 p2 p3 p4 p5 p6 a1 (-1 : Int32) .null dz w_ROTATION_0 w_APPLICATION w_ROTATION_270 w_ROTATION_180 w_ROTATION_90 T13.heap n0 Z13 S_ROTATION_0_13 E_w_ROTATION_0_13 S_APPLICATION_13 E_w_APPLICATION_13 S_ROTATION_270_13 E_w_ROTATION_270_13 S_ROTATION_180_13 E_w_ROTATION_180_13 S_ROTATION_90_13 E_w_ROTATION_90_13 ne_ROTATION_0_ROTATION_270 ne_ROTATION_0_ROTATION_90 ne_ROTATION_0_ROTATION_180 ne_ROTATION_270_ROTATION_90 ne_ROTATION_270_ROTATION_180 ne_ROTATION_90_ROTATION_180 E_a1_13 Fk13_1 Fk13_0 g_a1 (Or.inl ⟨rfl, rfl⟩) hx hby hml hown hnm hret hlk hZ X14 e14 N14 hS B13
  · refine g_iload X0 hx (hb hby at_89) rfl ?_
    refine g_bipush X0 hx (8 : Int32) (hb hby at_91) (by decide) ?_
    refine g_iand X0 hx (hb hby at_93) ?_
    by_cases c94_15 : (p6 &&& (8 : Int32)) = (0 : Int32)
    · refine g_ifYes X0 hx 116 (hb hby at_94) ((if0 _ _).trans (teq c94_15).1) (by decide) (by decide) ?_
      show Go p e below (s₁.setTop (mkF m 116 #[.val (.int p1), .val (.int p2), .val (.int p3), .val (.int p4), .val (.int p5), .val (.int p6), .val (.ref a1), .val (.int (0 : Int32)), .unset, .unset, .unset, .unset] [])) _
      exact seg_5 l Z a0 hw p1 p2 p3 p4 p5 p6 a1 (0 : Int32) (.ref w_ROTATION_0) dz w_ROTATION_0 w_APPLICATION w_ROTATION_270 w_ROTATION_180 w_ROTATION_90 h0 n0 Z0 S_ROTATION_0 E_w_ROTATION_0 S_APPLICATION E_w_APPLICATION S_ROTATION_270 E_w_ROTATION_270 S_ROTATION_180 E_w_ROTATION_180 S_ROTATION_90 E_w_ROTATION_90 ne_ROTATION_0_ROTATION_270 ne_ROTATION_0_ROTATION_90 ne_ROTATION_0_ROTATION_180 ne_ROTATION_270_ROTATION_90 ne_ROTATION_270_ROTATION_180 ne_ROTATION_90_ROTATION_180 E_a1 F_a1_picture F_a1_drawn g_a1 (Or.inr (Or.inl ⟨rfl, rfl⟩)) hx hby hml hown hnm hret hlk hZ X0 e0 N0 hS hB
    · refine g_ifNo X0 hx (hb hby at_94) ((if0 _ _).trans (feq c94_15).1) ?_
      refine g_aload X0 hx (hb hby at_97) rfl rfl ?_
      refine g_iload X0 hx (hb hby at_99) rfl ?_
      show Go p e below (s₁.setTop (mkF m 101 #[.val (.int p1), .val (.int p2), .val (.int p3), .val (.int p4), .val (.int p5), .val (.int p6), .val (.ref a1), .val (.int (0 : Int32)), .unset, .unset, .unset, .unset] [(.int p5), (.ref a1)])) _
      rcases own_and3 p5 with q16 | q16 | q16 | q16
      · obtain ⟨v17, T17, L17, X17, q17, st17⟩ := own_callS X0 hx hZ (y := (⟨"com/example/reorient/reorient/service/WindowPictureOfPinLaw", "rot", "(I)Lcom/example/reorient/reorient/model/Rotation;"⟩ : MethodName)) (pc := 101) (Ls := #[.val (.int p1), .val (.int p2), .val (.int p3), .val (.int p4), .val (.int p5), .val (.int p6), .val (.ref a1), .val (.int (0 : Int32)), .unset, .unset, .unset, .unset]) (st := [(.int p5), (.ref a1)]) hown (hw _ (List.mem_of_getElem? (i := 11) rfl)) (hw _ (List.mem_of_getElem? (i := 12) rfl)) (hw _ (List.mem_of_getElem? (i := 13) rfl)) (hw _ (List.mem_of_getElem? (i := 14) rfl)) (by decide) (rm_rot l Z a0 hw p5 w_ROTATION_0 w_ROTATION_90 w_ROTATION_180 w_ROTATION_270 h0 n0 Z0 S_ROTATION_0 S_ROTATION_90 S_ROTATION_180 S_ROTATION_270) e0 pd_1 (hb hby at_101) (by rw [hml]; rfl) (argsL := [(.int p5)]) (rest := [(.ref a1)]) rfl rfl rfl (W := 1) (Nat.le_of_eq rfl) (by decide) (by decide) (by decide) (by decide)
        obtain ⟨rfl, M17, e17⟩ := q17
        have N17 := Fr.app N0 M17
        have r17 : (f_rot p5 w_ROTATION_0 w_ROTATION_90 w_ROTATION_180 w_ROTATION_270) = w_ROTATION_0 := by rw [f_rot, if_pos (q16 : (p5 &&& (3 : Int32)) = (0 : Int32))]
        rw [r17] at st17
        refine Go.mp st17 ?_
        show Go p e below (T17.setTop (mkF m 104 #[.val (.int p1), .val (.int p2), .val (.int p3), .val (.int p4), .val (.int p5), .val (.int p6), .val (.ref a1), .val (.int (0 : Int32)), .unset, .unset, .unset, .unset] [(.ref w_ROTATION_0), (.ref a1)])) _
        obtain ⟨v18, T18, L18, X18, q18, st18⟩ := own_callV X17 hx hZ (y := (⟨"com/example/reorient/reorient/service/Window", "turnTo", "(Lcom/example/reorient/reorient/model/Rotation;)V"⟩ : MethodName)) (pc := 104) (Ls := #[.val (.int p1), .val (.int p2), .val (.int p3), .val (.int p4), .val (.int p5), .val (.int p6), .val (.ref a1), .val (.int (0 : Int32)), .unset, .unset, .unset, .unset]) (st := [(.ref w_ROTATION_0), (.ref a1)]) hown (hw _ (List.mem_of_getElem? (i := 43) rfl)) (hw _ (List.mem_of_getElem? (i := 44) rfl)) (hw _ (List.mem_of_getElem? (i := 46) rfl)) (hw _ (List.mem_of_getElem? (i := 45) rfl)) (hw _ (List.mem_of_getElem? (i := 47) rfl)) (hw _ (List.mem_of_getElem? (i := 2) rfl)) (by decide) (rm_turnTo l Z a0 hw a1 w_ROTATION_0 (.ref w_ROTATION_0) dz h0 n0 Z0 rfl E_a1 F_a1_drawn F_a1_picture g_a1) e17 E_a1 pd_2 (hb hby at_104) (by rw [hml]; rfl) (argsL := [(.ref w_ROTATION_0)]) (rest := []) rfl rfl rfl (W := 0) (Nat.le_of_eq rfl) (by decide) (by decide) (by decide) (by decide)
        obtain ⟨rv18, M18, Kc18, Fk18_0, Fk18_1⟩ := q18
        have N18 := Fr.app N17 M18
        subst rv18
        have r18_1 : (f_turnTo_a1_picture a1 w_ROTATION_0 (.ref w_ROTATION_0) dz) = (.ref w_ROTATION_0) := by rw [f_turnTo_a1_picture, if_pos (rfl : (Value.ref w_ROTATION_0) = (Value.ref w_ROTATION_0))]
        rw [r18_1] at Fk18_1
        have S_ROTATION_0_18 := own_sta_keep S_ROTATION_0 Kc18 (own_plain E_a1 (fun _ q => nomatch q))
        have E_w_ROTATION_0_18 := Exa.keep E_w_ROTATION_0 Kc18
        have S_APPLICATION_18 := own_sta_keep S_APPLICATION Kc18 (own_plain E_a1 (fun _ q => nomatch q))
        have E_w_APPLICATION_18 := Exa.keep E_w_APPLICATION Kc18
        have S_ROTATION_270_18 := own_sta_keep S_ROTATION_270 Kc18 (own_plain E_a1 (fun _ q => nomatch q))
        have E_w_ROTATION_270_18 := Exa.keep E_w_ROTATION_270 Kc18
        have S_ROTATION_180_18 := own_sta_keep S_ROTATION_180 Kc18 (own_plain E_a1 (fun _ q => nomatch q))
        have E_w_ROTATION_180_18 := Exa.keep E_w_ROTATION_180 Kc18
        have S_ROTATION_90_18 := own_sta_keep S_ROTATION_90 Kc18 (own_plain E_a1 (fun _ q => nomatch q))
        have E_w_ROTATION_90_18 := Exa.keep E_w_ROTATION_90 Kc18
        have E_a1_18 := Exa.keep E_a1 Kc18
        have Z18 : n0 ≤ T18.heap.size := Nat.le_trans Z0 Kc18.1
        have B18 : _ ≤ T18.heap.size := Nat.le_trans hB Kc18.1
        refine Go.mp st18 ?_
        show Go p e below (T18.setTop (mkF m 107 #[.val (.int p1), .val (.int p2), .val (.int p3), .val (.int p4), .val (.int p5), .val (.int p6), .val (.ref a1), .val (.int (0 : Int32)), .unset, .unset, .unset, .unset] [])) _
        refine g_iload X18 hx (hb hby at_107) rfl ?_
        refine g_iload X18 hx (hb hby at_109) rfl ?_
        obtain ⟨v19, T19, L19, X19, q19, st19⟩ := own_callS X18 hx hZ (y := (⟨"com/example/reorient/reorient/service/WindowPictureOfPinLaw", "turn", "(II)I"⟩ : MethodName)) (pc := 111) (Ls := #[.val (.int p1), .val (.int p2), .val (.int p3), .val (.int p4), .val (.int p5), .val (.int p6), .val (.ref a1), .val (.int (0 : Int32)), .unset, .unset, .unset, .unset]) (st := [(.int p5), (.int (0 : Int32))]) hown (hw _ (List.mem_of_getElem? (i := 48) rfl)) (hw _ (List.mem_of_getElem? (i := 49) rfl)) (hw _ (List.mem_of_getElem? (i := 13) rfl)) (hw _ (List.mem_of_getElem? (i := 50) rfl)) (by decide) (rm_turn l Z a0 hw (0 : Int32) p5 T18.heap n0 Z18 ) (rfl : T18.heap = T18.heap) pd_3 (hb hby at_111) (by rw [hml]; rfl) (argsL := [(.int (0 : Int32)), (.int p5)]) (rest := []) rfl rfl rfl (W := 0) (Nat.le_of_eq rfl) (by decide) (by decide) (by decide) (by decide)
        obtain ⟨rfl, M19, e19⟩ := q19
        have N19 := Fr.app N18 M19
        have r19 : (f_turn (0 : Int32) p5) = (0 : Int32) := by rw [f_turn, if_pos (q16.symm : (0 : Int32) = (p5 &&& (3 : Int32)))]
        rw [r19] at st19
        refine Go.mp st19 ?_
        show Go p e below (T19.setTop (mkF m 114 #[.val (.int p1), .val (.int p2), .val (.int p3), .val (.int p4), .val (.int p5), .val (.int p6), .val (.ref a1), .val (.int (0 : Int32)), .unset, .unset, .unset, .unset] [(.int (0 : Int32))])) _
        refine g_istore X19 hx #[.val (.int p1), .val (.int p2), .val (.int p3), .val (.int p4), .val (.int p5), .val (.int p6), .val (.ref a1), .val (.int (0 : Int32)), .unset, .unset, .unset, .unset] (hb hby at_114) rfl ?_
        show Go p e below (T19.setTop (mkF m 116 #[.val (.int p1), .val (.int p2), .val (.int p3), .val (.int p4), .val (.int p5), .val (.int p6), .val (.ref a1), .val (.int (0 : Int32)), .unset, .unset, .unset, .unset] [])) _
        exact seg_5 l Z a0 hw p1 p2 p3 p4 p5 p6 a1 (0 : Int32) (.ref w_ROTATION_0) dz w_ROTATION_0 w_APPLICATION w_ROTATION_270 w_ROTATION_180 w_ROTATION_90 T18.heap n0 Z18 S_ROTATION_0_18 E_w_ROTATION_0_18 S_APPLICATION_18 E_w_APPLICATION_18 S_ROTATION_270_18 E_w_ROTATION_270_18 S_ROTATION_180_18 E_w_ROTATION_180_18 S_ROTATION_90_18 E_w_ROTATION_90_18 ne_ROTATION_0_ROTATION_270 ne_ROTATION_0_ROTATION_90 ne_ROTATION_0_ROTATION_180 ne_ROTATION_270_ROTATION_90 ne_ROTATION_270_ROTATION_180 ne_ROTATION_90_ROTATION_180 E_a1_18 Fk18_1 Fk18_0 g_a1 (Or.inr (Or.inl ⟨rfl, rfl⟩)) hx hby hml hown hnm hret hlk hZ X19 e19 N19 hS B18
      · obtain ⟨v20, T20, L20, X20, q20, st20⟩ := own_callS X0 hx hZ (y := (⟨"com/example/reorient/reorient/service/WindowPictureOfPinLaw", "rot", "(I)Lcom/example/reorient/reorient/model/Rotation;"⟩ : MethodName)) (pc := 101) (Ls := #[.val (.int p1), .val (.int p2), .val (.int p3), .val (.int p4), .val (.int p5), .val (.int p6), .val (.ref a1), .val (.int (0 : Int32)), .unset, .unset, .unset, .unset]) (st := [(.int p5), (.ref a1)]) hown (hw _ (List.mem_of_getElem? (i := 11) rfl)) (hw _ (List.mem_of_getElem? (i := 12) rfl)) (hw _ (List.mem_of_getElem? (i := 13) rfl)) (hw _ (List.mem_of_getElem? (i := 14) rfl)) (by decide) (rm_rot l Z a0 hw p5 w_ROTATION_0 w_ROTATION_90 w_ROTATION_180 w_ROTATION_270 h0 n0 Z0 S_ROTATION_0 S_ROTATION_90 S_ROTATION_180 S_ROTATION_270) e0 pd_1 (hb hby at_101) (by rw [hml]; rfl) (argsL := [(.int p5)]) (rest := [(.ref a1)]) rfl rfl rfl (W := 1) (Nat.le_of_eq rfl) (by decide) (by decide) (by decide) (by decide)
        obtain ⟨rfl, M20, e20⟩ := q20
        have N20 := Fr.app N0 M20
        have r20 : (f_rot p5 w_ROTATION_0 w_ROTATION_90 w_ROTATION_180 w_ROTATION_270) = w_ROTATION_90 := by rw [f_rot, if_neg ((by rw [q16]; decide) : ¬ ((p5 &&& (3 : Int32)) = (0 : Int32))), if_pos (q16 : (p5 &&& (3 : Int32)) = (1 : Int32))]
        rw [r20] at st20
        refine Go.mp st20 ?_
        show Go p e below (T20.setTop (mkF m 104 #[.val (.int p1), .val (.int p2), .val (.int p3), .val (.int p4), .val (.int p5), .val (.int p6), .val (.ref a1), .val (.int (0 : Int32)), .unset, .unset, .unset, .unset] [(.ref w_ROTATION_90), (.ref a1)])) _
        obtain ⟨v21, T21, L21, X21, q21, st21⟩ := own_callV X20 hx hZ (y := (⟨"com/example/reorient/reorient/service/Window", "turnTo", "(Lcom/example/reorient/reorient/model/Rotation;)V"⟩ : MethodName)) (pc := 104) (Ls := #[.val (.int p1), .val (.int p2), .val (.int p3), .val (.int p4), .val (.int p5), .val (.int p6), .val (.ref a1), .val (.int (0 : Int32)), .unset, .unset, .unset, .unset]) (st := [(.ref w_ROTATION_90), (.ref a1)]) hown (hw _ (List.mem_of_getElem? (i := 43) rfl)) (hw _ (List.mem_of_getElem? (i := 44) rfl)) (hw _ (List.mem_of_getElem? (i := 46) rfl)) (hw _ (List.mem_of_getElem? (i := 45) rfl)) (hw _ (List.mem_of_getElem? (i := 47) rfl)) (hw _ (List.mem_of_getElem? (i := 2) rfl)) (by decide) (rm_turnTo l Z a0 hw a1 w_ROTATION_90 (.ref w_ROTATION_0) dz h0 n0 Z0 rfl E_a1 F_a1_drawn F_a1_picture g_a1) e20 E_a1 pd_2 (hb hby at_104) (by rw [hml]; rfl) (argsL := [(.ref w_ROTATION_90)]) (rest := []) rfl rfl rfl (W := 0) (Nat.le_of_eq rfl) (by decide) (by decide) (by decide) (by decide)
        obtain ⟨rv21, M21, Kc21, Fk21_0, Fk21_1⟩ := q21
        have N21 := Fr.app N20 M21
        subst rv21
        have r21_1 : (f_turnTo_a1_picture a1 w_ROTATION_90 (.ref w_ROTATION_0) dz) = .null := by rw [f_turnTo_a1_picture, if_neg ((fun q => ne_ROTATION_0_ROTATION_90 (Value.ref.inj q)) : ¬ ((Value.ref w_ROTATION_0) = (Value.ref w_ROTATION_90)))]
        rw [r21_1] at Fk21_1
        have S_ROTATION_0_21 := own_sta_keep S_ROTATION_0 Kc21 (own_plain E_a1 (fun _ q => nomatch q))
        have E_w_ROTATION_0_21 := Exa.keep E_w_ROTATION_0 Kc21
        have S_APPLICATION_21 := own_sta_keep S_APPLICATION Kc21 (own_plain E_a1 (fun _ q => nomatch q))
        have E_w_APPLICATION_21 := Exa.keep E_w_APPLICATION Kc21
        have S_ROTATION_270_21 := own_sta_keep S_ROTATION_270 Kc21 (own_plain E_a1 (fun _ q => nomatch q))
        have E_w_ROTATION_270_21 := Exa.keep E_w_ROTATION_270 Kc21
        have S_ROTATION_180_21 := own_sta_keep S_ROTATION_180 Kc21 (own_plain E_a1 (fun _ q => nomatch q))
        have E_w_ROTATION_180_21 := Exa.keep E_w_ROTATION_180 Kc21
        have S_ROTATION_90_21 := own_sta_keep S_ROTATION_90 Kc21 (own_plain E_a1 (fun _ q => nomatch q))
        have E_w_ROTATION_90_21 := Exa.keep E_w_ROTATION_90 Kc21
        have E_a1_21 := Exa.keep E_a1 Kc21
        have Z21 : n0 ≤ T21.heap.size := Nat.le_trans Z0 Kc21.1
        have B21 : _ ≤ T21.heap.size := Nat.le_trans hB Kc21.1
        refine Go.mp st21 ?_
        show Go p e below (T21.setTop (mkF m 107 #[.val (.int p1), .val (.int p2), .val (.int p3), .val (.int p4), .val (.int p5), .val (.int p6), .val (.ref a1), .val (.int (0 : Int32)), .unset, .unset, .unset, .unset] [])) _
        refine g_iload X21 hx (hb hby at_107) rfl ?_
        refine g_iload X21 hx (hb hby at_109) rfl ?_
        obtain ⟨v22, T22, L22, X22, q22, st22⟩ := own_callS X21 hx hZ (y := (⟨"com/example/reorient/reorient/service/WindowPictureOfPinLaw", "turn", "(II)I"⟩ : MethodName)) (pc := 111) (Ls := #[.val (.int p1), .val (.int p2), .val (.int p3), .val (.int p4), .val (.int p5), .val (.int p6), .val (.ref a1), .val (.int (0 : Int32)), .unset, .unset, .unset, .unset]) (st := [(.int p5), (.int (0 : Int32))]) hown (hw _ (List.mem_of_getElem? (i := 48) rfl)) (hw _ (List.mem_of_getElem? (i := 49) rfl)) (hw _ (List.mem_of_getElem? (i := 13) rfl)) (hw _ (List.mem_of_getElem? (i := 50) rfl)) (by decide) (rm_turn l Z a0 hw (0 : Int32) p5 T21.heap n0 Z21 ) (rfl : T21.heap = T21.heap) pd_3 (hb hby at_111) (by rw [hml]; rfl) (argsL := [(.int (0 : Int32)), (.int p5)]) (rest := []) rfl rfl rfl (W := 0) (Nat.le_of_eq rfl) (by decide) (by decide) (by decide) (by decide)
        obtain ⟨rfl, M22, e22⟩ := q22
        have N22 := Fr.app N21 M22
        have r22 : (f_turn (0 : Int32) p5) = (-1 : Int32) := by rw [f_turn, if_neg ((by rw [q16]; decide) : ¬ ((0 : Int32) = (p5 &&& (3 : Int32))))]
        rw [r22] at st22
        refine Go.mp st22 ?_
        show Go p e below (T22.setTop (mkF m 114 #[.val (.int p1), .val (.int p2), .val (.int p3), .val (.int p4), .val (.int p5), .val (.int p6), .val (.ref a1), .val (.int (0 : Int32)), .unset, .unset, .unset, .unset] [(.int (-1 : Int32))])) _
        refine g_istore X22 hx #[.val (.int p1), .val (.int p2), .val (.int p3), .val (.int p4), .val (.int p5), .val (.int p6), .val (.ref a1), .val (.int (-1 : Int32)), .unset, .unset, .unset, .unset] (hb hby at_114) rfl ?_
        show Go p e below (T22.setTop (mkF m 116 #[.val (.int p1), .val (.int p2), .val (.int p3), .val (.int p4), .val (.int p5), .val (.int p6), .val (.ref a1), .val (.int (-1 : Int32)), .unset, .unset, .unset, .unset] [])) _
        exact seg_5 l Z a0 hw p1 p2 p3 p4 p5 p6 a1 (-1 : Int32) .null dz w_ROTATION_0 w_APPLICATION w_ROTATION_270 w_ROTATION_180 w_ROTATION_90 T21.heap n0 Z21 S_ROTATION_0_21 E_w_ROTATION_0_21 S_APPLICATION_21 E_w_APPLICATION_21 S_ROTATION_270_21 E_w_ROTATION_270_21 S_ROTATION_180_21 E_w_ROTATION_180_21 S_ROTATION_90_21 E_w_ROTATION_90_21 ne_ROTATION_0_ROTATION_270 ne_ROTATION_0_ROTATION_90 ne_ROTATION_0_ROTATION_180 ne_ROTATION_270_ROTATION_90 ne_ROTATION_270_ROTATION_180 ne_ROTATION_90_ROTATION_180 E_a1_21 Fk21_1 Fk21_0 g_a1 (Or.inl ⟨rfl, rfl⟩) hx hby hml hown hnm hret hlk hZ X22 e22 N22 hS B21
      · obtain ⟨v23, T23, L23, X23, q23, st23⟩ := own_callS X0 hx hZ (y := (⟨"com/example/reorient/reorient/service/WindowPictureOfPinLaw", "rot", "(I)Lcom/example/reorient/reorient/model/Rotation;"⟩ : MethodName)) (pc := 101) (Ls := #[.val (.int p1), .val (.int p2), .val (.int p3), .val (.int p4), .val (.int p5), .val (.int p6), .val (.ref a1), .val (.int (0 : Int32)), .unset, .unset, .unset, .unset]) (st := [(.int p5), (.ref a1)]) hown (hw _ (List.mem_of_getElem? (i := 11) rfl)) (hw _ (List.mem_of_getElem? (i := 12) rfl)) (hw _ (List.mem_of_getElem? (i := 13) rfl)) (hw _ (List.mem_of_getElem? (i := 14) rfl)) (by decide) (rm_rot l Z a0 hw p5 w_ROTATION_0 w_ROTATION_90 w_ROTATION_180 w_ROTATION_270 h0 n0 Z0 S_ROTATION_0 S_ROTATION_90 S_ROTATION_180 S_ROTATION_270) e0 pd_1 (hb hby at_101) (by rw [hml]; rfl) (argsL := [(.int p5)]) (rest := [(.ref a1)]) rfl rfl rfl (W := 1) (Nat.le_of_eq rfl) (by decide) (by decide) (by decide) (by decide)
        obtain ⟨rfl, M23, e23⟩ := q23
        have N23 := Fr.app N0 M23
        have r23 : (f_rot p5 w_ROTATION_0 w_ROTATION_90 w_ROTATION_180 w_ROTATION_270) = w_ROTATION_180 := by rw [f_rot, if_neg ((by rw [q16]; decide) : ¬ ((p5 &&& (3 : Int32)) = (0 : Int32))), if_neg ((by rw [q16]; decide) : ¬ ((p5 &&& (3 : Int32)) = (1 : Int32))), if_pos (q16 : (p5 &&& (3 : Int32)) = (2 : Int32))]
        rw [r23] at st23
        refine Go.mp st23 ?_
        show Go p e below (T23.setTop (mkF m 104 #[.val (.int p1), .val (.int p2), .val (.int p3), .val (.int p4), .val (.int p5), .val (.int p6), .val (.ref a1), .val (.int (0 : Int32)), .unset, .unset, .unset, .unset] [(.ref w_ROTATION_180), (.ref a1)])) _
        obtain ⟨v24, T24, L24, X24, q24, st24⟩ := own_callV X23 hx hZ (y := (⟨"com/example/reorient/reorient/service/Window", "turnTo", "(Lcom/example/reorient/reorient/model/Rotation;)V"⟩ : MethodName)) (pc := 104) (Ls := #[.val (.int p1), .val (.int p2), .val (.int p3), .val (.int p4), .val (.int p5), .val (.int p6), .val (.ref a1), .val (.int (0 : Int32)), .unset, .unset, .unset, .unset]) (st := [(.ref w_ROTATION_180), (.ref a1)]) hown (hw _ (List.mem_of_getElem? (i := 43) rfl)) (hw _ (List.mem_of_getElem? (i := 44) rfl)) (hw _ (List.mem_of_getElem? (i := 46) rfl)) (hw _ (List.mem_of_getElem? (i := 45) rfl)) (hw _ (List.mem_of_getElem? (i := 47) rfl)) (hw _ (List.mem_of_getElem? (i := 2) rfl)) (by decide) (rm_turnTo l Z a0 hw a1 w_ROTATION_180 (.ref w_ROTATION_0) dz h0 n0 Z0 rfl E_a1 F_a1_drawn F_a1_picture g_a1) e23 E_a1 pd_2 (hb hby at_104) (by rw [hml]; rfl) (argsL := [(.ref w_ROTATION_180)]) (rest := []) rfl rfl rfl (W := 0) (Nat.le_of_eq rfl) (by decide) (by decide) (by decide) (by decide)
        obtain ⟨rv24, M24, Kc24, Fk24_0, Fk24_1⟩ := q24
        have N24 := Fr.app N23 M24
        subst rv24
        have r24_1 : (f_turnTo_a1_picture a1 w_ROTATION_180 (.ref w_ROTATION_0) dz) = .null := by rw [f_turnTo_a1_picture, if_neg ((fun q => ne_ROTATION_0_ROTATION_180 (Value.ref.inj q)) : ¬ ((Value.ref w_ROTATION_0) = (Value.ref w_ROTATION_180)))]
        rw [r24_1] at Fk24_1
        have S_ROTATION_0_24 := own_sta_keep S_ROTATION_0 Kc24 (own_plain E_a1 (fun _ q => nomatch q))
        have E_w_ROTATION_0_24 := Exa.keep E_w_ROTATION_0 Kc24
        have S_APPLICATION_24 := own_sta_keep S_APPLICATION Kc24 (own_plain E_a1 (fun _ q => nomatch q))
        have E_w_APPLICATION_24 := Exa.keep E_w_APPLICATION Kc24
        have S_ROTATION_270_24 := own_sta_keep S_ROTATION_270 Kc24 (own_plain E_a1 (fun _ q => nomatch q))
        have E_w_ROTATION_270_24 := Exa.keep E_w_ROTATION_270 Kc24
        have S_ROTATION_180_24 := own_sta_keep S_ROTATION_180 Kc24 (own_plain E_a1 (fun _ q => nomatch q))
        have E_w_ROTATION_180_24 := Exa.keep E_w_ROTATION_180 Kc24
        have S_ROTATION_90_24 := own_sta_keep S_ROTATION_90 Kc24 (own_plain E_a1 (fun _ q => nomatch q))
        have E_w_ROTATION_90_24 := Exa.keep E_w_ROTATION_90 Kc24
        have E_a1_24 := Exa.keep E_a1 Kc24
        have Z24 : n0 ≤ T24.heap.size := Nat.le_trans Z0 Kc24.1
        have B24 : _ ≤ T24.heap.size := Nat.le_trans hB Kc24.1
        refine Go.mp st24 ?_
        show Go p e below (T24.setTop (mkF m 107 #[.val (.int p1), .val (.int p2), .val (.int p3), .val (.int p4), .val (.int p5), .val (.int p6), .val (.ref a1), .val (.int (0 : Int32)), .unset, .unset, .unset, .unset] [])) _
        refine g_iload X24 hx (hb hby at_107) rfl ?_
        refine g_iload X24 hx (hb hby at_109) rfl ?_
        obtain ⟨v25, T25, L25, X25, q25, st25⟩ := own_callS X24 hx hZ (y := (⟨"com/example/reorient/reorient/service/WindowPictureOfPinLaw", "turn", "(II)I"⟩ : MethodName)) (pc := 111) (Ls := #[.val (.int p1), .val (.int p2), .val (.int p3), .val (.int p4), .val (.int p5), .val (.int p6), .val (.ref a1), .val (.int (0 : Int32)), .unset, .unset, .unset, .unset]) (st := [(.int p5), (.int (0 : Int32))]) hown (hw _ (List.mem_of_getElem? (i := 48) rfl)) (hw _ (List.mem_of_getElem? (i := 49) rfl)) (hw _ (List.mem_of_getElem? (i := 13) rfl)) (hw _ (List.mem_of_getElem? (i := 50) rfl)) (by decide) (rm_turn l Z a0 hw (0 : Int32) p5 T24.heap n0 Z24 ) (rfl : T24.heap = T24.heap) pd_3 (hb hby at_111) (by rw [hml]; rfl) (argsL := [(.int (0 : Int32)), (.int p5)]) (rest := []) rfl rfl rfl (W := 0) (Nat.le_of_eq rfl) (by decide) (by decide) (by decide) (by decide)
        obtain ⟨rfl, M25, e25⟩ := q25
        have N25 := Fr.app N24 M25
        have r25 : (f_turn (0 : Int32) p5) = (-1 : Int32) := by rw [f_turn, if_neg ((by rw [q16]; decide) : ¬ ((0 : Int32) = (p5 &&& (3 : Int32))))]
        rw [r25] at st25
        refine Go.mp st25 ?_
        show Go p e below (T25.setTop (mkF m 114 #[.val (.int p1), .val (.int p2), .val (.int p3), .val (.int p4), .val (.int p5), .val (.int p6), .val (.ref a1), .val (.int (0 : Int32)), .unset, .unset, .unset, .unset] [(.int (-1 : Int32))])) _
        refine g_istore X25 hx #[.val (.int p1), .val (.int p2), .val (.int p3), .val (.int p4), .val (.int p5), .val (.int p6), .val (.ref a1), .val (.int (-1 : Int32)), .unset, .unset, .unset, .unset] (hb hby at_114) rfl ?_
        show Go p e below (T25.setTop (mkF m 116 #[.val (.int p1), .val (.int p2), .val (.int p3), .val (.int p4), .val (.int p5), .val (.int p6), .val (.ref a1), .val (.int (-1 : Int32)), .unset, .unset, .unset, .unset] [])) _
        exact seg_5 l Z a0 hw p1 p2 p3 p4 p5 p6 a1 (-1 : Int32) .null dz w_ROTATION_0 w_APPLICATION w_ROTATION_270 w_ROTATION_180 w_ROTATION_90 T24.heap n0 Z24 S_ROTATION_0_24 E_w_ROTATION_0_24 S_APPLICATION_24 E_w_APPLICATION_24 S_ROTATION_270_24 E_w_ROTATION_270_24 S_ROTATION_180_24 E_w_ROTATION_180_24 S_ROTATION_90_24 E_w_ROTATION_90_24 ne_ROTATION_0_ROTATION_270 ne_ROTATION_0_ROTATION_90 ne_ROTATION_0_ROTATION_180 ne_ROTATION_270_ROTATION_90 ne_ROTATION_270_ROTATION_180 ne_ROTATION_90_ROTATION_180 E_a1_24 Fk24_1 Fk24_0 g_a1 (Or.inl ⟨rfl, rfl⟩) hx hby hml hown hnm hret hlk hZ X25 e25 N25 hS B24
      · obtain ⟨v26, T26, L26, X26, q26, st26⟩ := own_callS X0 hx hZ (y := (⟨"com/example/reorient/reorient/service/WindowPictureOfPinLaw", "rot", "(I)Lcom/example/reorient/reorient/model/Rotation;"⟩ : MethodName)) (pc := 101) (Ls := #[.val (.int p1), .val (.int p2), .val (.int p3), .val (.int p4), .val (.int p5), .val (.int p6), .val (.ref a1), .val (.int (0 : Int32)), .unset, .unset, .unset, .unset]) (st := [(.int p5), (.ref a1)]) hown (hw _ (List.mem_of_getElem? (i := 11) rfl)) (hw _ (List.mem_of_getElem? (i := 12) rfl)) (hw _ (List.mem_of_getElem? (i := 13) rfl)) (hw _ (List.mem_of_getElem? (i := 14) rfl)) (by decide) (rm_rot l Z a0 hw p5 w_ROTATION_0 w_ROTATION_90 w_ROTATION_180 w_ROTATION_270 h0 n0 Z0 S_ROTATION_0 S_ROTATION_90 S_ROTATION_180 S_ROTATION_270) e0 pd_1 (hb hby at_101) (by rw [hml]; rfl) (argsL := [(.int p5)]) (rest := [(.ref a1)]) rfl rfl rfl (W := 1) (Nat.le_of_eq rfl) (by decide) (by decide) (by decide) (by decide)
        obtain ⟨rfl, M26, e26⟩ := q26
        have N26 := Fr.app N0 M26
        have r26 : (f_rot p5 w_ROTATION_0 w_ROTATION_90 w_ROTATION_180 w_ROTATION_270) = w_ROTATION_270 := by rw [f_rot, if_neg ((by rw [q16]; decide) : ¬ ((p5 &&& (3 : Int32)) = (0 : Int32))), if_neg ((by rw [q16]; decide) : ¬ ((p5 &&& (3 : Int32)) = (1 : Int32))), if_neg ((by rw [q16]; decide) : ¬ ((p5 &&& (3 : Int32)) = (2 : Int32)))]
        rw [r26] at st26
        refine Go.mp st26 ?_
        show Go p e below (T26.setTop (mkF m 104 #[.val (.int p1), .val (.int p2), .val (.int p3), .val (.int p4), .val (.int p5), .val (.int p6), .val (.ref a1), .val (.int (0 : Int32)), .unset, .unset, .unset, .unset] [(.ref w_ROTATION_270), (.ref a1)])) _
        obtain ⟨v27, T27, L27, X27, q27, st27⟩ := own_callV X26 hx hZ (y := (⟨"com/example/reorient/reorient/service/Window", "turnTo", "(Lcom/example/reorient/reorient/model/Rotation;)V"⟩ : MethodName)) (pc := 104) (Ls := #[.val (.int p1), .val (.int p2), .val (.int p3), .val (.int p4), .val (.int p5), .val (.int p6), .val (.ref a1), .val (.int (0 : Int32)), .unset, .unset, .unset, .unset]) (st := [(.ref w_ROTATION_270), (.ref a1)]) hown (hw _ (List.mem_of_getElem? (i := 43) rfl)) (hw _ (List.mem_of_getElem? (i := 44) rfl)) (hw _ (List.mem_of_getElem? (i := 46) rfl)) (hw _ (List.mem_of_getElem? (i := 45) rfl)) (hw _ (List.mem_of_getElem? (i := 47) rfl)) (hw _ (List.mem_of_getElem? (i := 2) rfl)) (by decide) (rm_turnTo l Z a0 hw a1 w_ROTATION_270 (.ref w_ROTATION_0) dz h0 n0 Z0 rfl E_a1 F_a1_drawn F_a1_picture g_a1) e26 E_a1 pd_2 (hb hby at_104) (by rw [hml]; rfl) (argsL := [(.ref w_ROTATION_270)]) (rest := []) rfl rfl rfl (W := 0) (Nat.le_of_eq rfl) (by decide) (by decide) (by decide) (by decide)
        obtain ⟨rv27, M27, Kc27, Fk27_0, Fk27_1⟩ := q27
        have N27 := Fr.app N26 M27
        subst rv27
        have r27_1 : (f_turnTo_a1_picture a1 w_ROTATION_270 (.ref w_ROTATION_0) dz) = .null := by rw [f_turnTo_a1_picture, if_neg ((fun q => ne_ROTATION_0_ROTATION_270 (Value.ref.inj q)) : ¬ ((Value.ref w_ROTATION_0) = (Value.ref w_ROTATION_270)))]
        rw [r27_1] at Fk27_1
        have S_ROTATION_0_27 := own_sta_keep S_ROTATION_0 Kc27 (own_plain E_a1 (fun _ q => nomatch q))
        have E_w_ROTATION_0_27 := Exa.keep E_w_ROTATION_0 Kc27
        have S_APPLICATION_27 := own_sta_keep S_APPLICATION Kc27 (own_plain E_a1 (fun _ q => nomatch q))
        have E_w_APPLICATION_27 := Exa.keep E_w_APPLICATION Kc27
        have S_ROTATION_270_27 := own_sta_keep S_ROTATION_270 Kc27 (own_plain E_a1 (fun _ q => nomatch q))
        have E_w_ROTATION_270_27 := Exa.keep E_w_ROTATION_270 Kc27
        have S_ROTATION_180_27 := own_sta_keep S_ROTATION_180 Kc27 (own_plain E_a1 (fun _ q => nomatch q))
        have E_w_ROTATION_180_27 := Exa.keep E_w_ROTATION_180 Kc27
        have S_ROTATION_90_27 := own_sta_keep S_ROTATION_90 Kc27 (own_plain E_a1 (fun _ q => nomatch q))
        have E_w_ROTATION_90_27 := Exa.keep E_w_ROTATION_90 Kc27
        have E_a1_27 := Exa.keep E_a1 Kc27
        have Z27 : n0 ≤ T27.heap.size := Nat.le_trans Z0 Kc27.1
        have B27 : _ ≤ T27.heap.size := Nat.le_trans hB Kc27.1
        refine Go.mp st27 ?_
        show Go p e below (T27.setTop (mkF m 107 #[.val (.int p1), .val (.int p2), .val (.int p3), .val (.int p4), .val (.int p5), .val (.int p6), .val (.ref a1), .val (.int (0 : Int32)), .unset, .unset, .unset, .unset] [])) _
        refine g_iload X27 hx (hb hby at_107) rfl ?_
        refine g_iload X27 hx (hb hby at_109) rfl ?_
        obtain ⟨v28, T28, L28, X28, q28, st28⟩ := own_callS X27 hx hZ (y := (⟨"com/example/reorient/reorient/service/WindowPictureOfPinLaw", "turn", "(II)I"⟩ : MethodName)) (pc := 111) (Ls := #[.val (.int p1), .val (.int p2), .val (.int p3), .val (.int p4), .val (.int p5), .val (.int p6), .val (.ref a1), .val (.int (0 : Int32)), .unset, .unset, .unset, .unset]) (st := [(.int p5), (.int (0 : Int32))]) hown (hw _ (List.mem_of_getElem? (i := 48) rfl)) (hw _ (List.mem_of_getElem? (i := 49) rfl)) (hw _ (List.mem_of_getElem? (i := 13) rfl)) (hw _ (List.mem_of_getElem? (i := 50) rfl)) (by decide) (rm_turn l Z a0 hw (0 : Int32) p5 T27.heap n0 Z27 ) (rfl : T27.heap = T27.heap) pd_3 (hb hby at_111) (by rw [hml]; rfl) (argsL := [(.int (0 : Int32)), (.int p5)]) (rest := []) rfl rfl rfl (W := 0) (Nat.le_of_eq rfl) (by decide) (by decide) (by decide) (by decide)
        obtain ⟨rfl, M28, e28⟩ := q28
        have N28 := Fr.app N27 M28
        have r28 : (f_turn (0 : Int32) p5) = (-1 : Int32) := by rw [f_turn, if_neg ((by rw [q16]; decide) : ¬ ((0 : Int32) = (p5 &&& (3 : Int32))))]
        rw [r28] at st28
        refine Go.mp st28 ?_
        show Go p e below (T28.setTop (mkF m 114 #[.val (.int p1), .val (.int p2), .val (.int p3), .val (.int p4), .val (.int p5), .val (.int p6), .val (.ref a1), .val (.int (0 : Int32)), .unset, .unset, .unset, .unset] [(.int (-1 : Int32))])) _
        refine g_istore X28 hx #[.val (.int p1), .val (.int p2), .val (.int p3), .val (.int p4), .val (.int p5), .val (.int p6), .val (.ref a1), .val (.int (-1 : Int32)), .unset, .unset, .unset, .unset] (hb hby at_114) rfl ?_
        show Go p e below (T28.setTop (mkF m 116 #[.val (.int p1), .val (.int p2), .val (.int p3), .val (.int p4), .val (.int p5), .val (.int p6), .val (.ref a1), .val (.int (-1 : Int32)), .unset, .unset, .unset, .unset] [])) _
        exact seg_5 l Z a0 hw p1 p2 p3 p4 p5 p6 a1 (-1 : Int32) .null dz w_ROTATION_0 w_APPLICATION w_ROTATION_270 w_ROTATION_180 w_ROTATION_90 T27.heap n0 Z27 S_ROTATION_0_27 E_w_ROTATION_0_27 S_APPLICATION_27 E_w_APPLICATION_27 S_ROTATION_270_27 E_w_ROTATION_270_27 S_ROTATION_180_27 E_w_ROTATION_180_27 S_ROTATION_90_27 E_w_ROTATION_90_27 ne_ROTATION_0_ROTATION_270 ne_ROTATION_0_ROTATION_90 ne_ROTATION_0_ROTATION_180 ne_ROTATION_270_ROTATION_90 ne_ROTATION_270_ROTATION_180 ne_ROTATION_90_ROTATION_180 E_a1_27 Fk27_1 Fk27_0 g_a1 (Or.inl ⟨rfl, rfl⟩) hx hby hml hown hnm hret hlk hZ X28 e28 N28 hS B27
  · refine g_iload X0 hx (hb hby at_89) rfl ?_
    refine g_bipush X0 hx (8 : Int32) (hb hby at_91) (by decide) ?_
    refine g_iand X0 hx (hb hby at_93) ?_
    by_cases c94_29 : (p6 &&& (8 : Int32)) = (0 : Int32)
    · refine g_ifYes X0 hx 116 (hb hby at_94) ((if0 _ _).trans (teq c94_29).1) (by decide) (by decide) ?_
      show Go p e below (s₁.setTop (mkF m 116 #[.val (.int p1), .val (.int p2), .val (.int p3), .val (.int p4), .val (.int p5), .val (.int p6), .val (.ref a1), .val (.int (1 : Int32)), .unset, .unset, .unset, .unset] [])) _
      exact seg_5 l Z a0 hw p1 p2 p3 p4 p5 p6 a1 (1 : Int32) (.ref w_ROTATION_90) dz w_ROTATION_0 w_APPLICATION w_ROTATION_270 w_ROTATION_180 w_ROTATION_90 h0 n0 Z0 S_ROTATION_0 E_w_ROTATION_0 S_APPLICATION E_w_APPLICATION S_ROTATION_270 E_w_ROTATION_270 S_ROTATION_180 E_w_ROTATION_180 S_ROTATION_90 E_w_ROTATION_90 ne_ROTATION_0_ROTATION_270 ne_ROTATION_0_ROTATION_90 ne_ROTATION_0_ROTATION_180 ne_ROTATION_270_ROTATION_90 ne_ROTATION_270_ROTATION_180 ne_ROTATION_90_ROTATION_180 E_a1 F_a1_picture F_a1_drawn g_a1 (Or.inr (Or.inr (Or.inl ⟨rfl, rfl⟩))) hx hby hml hown hnm hret hlk hZ X0 e0 N0 hS hB
    · refine g_ifNo X0 hx (hb hby at_94) ((if0 _ _).trans (feq c94_29).1) ?_
      refine g_aload X0 hx (hb hby at_97) rfl rfl ?_
      refine g_iload X0 hx (hb hby at_99) rfl ?_
      show Go p e below (s₁.setTop (mkF m 101 #[.val (.int p1), .val (.int p2), .val (.int p3), .val (.int p4), .val (.int p5), .val (.int p6), .val (.ref a1), .val (.int (1 : Int32)), .unset, .unset, .unset, .unset] [(.int p5), (.ref a1)])) _
      rcases own_and3 p5 with q30 | q30 | q30 | q30
      · obtain ⟨v31, T31, L31, X31, q31, st31⟩ := own_callS X0 hx hZ (y := (⟨"com/example/reorient/reorient/service/WindowPictureOfPinLaw", "rot", "(I)Lcom/example/reorient/reorient/model/Rotation;"⟩ : MethodName)) (pc := 101) (Ls := #[.val (.int p1), .val (.int p2), .val (.int p3), .val (.int p4), .val (.int p5), .val (.int p6), .val (.ref a1), .val (.int (1 : Int32)), .unset, .unset, .unset, .unset]) (st := [(.int p5), (.ref a1)]) hown (hw _ (List.mem_of_getElem? (i := 11) rfl)) (hw _ (List.mem_of_getElem? (i := 12) rfl)) (hw _ (List.mem_of_getElem? (i := 13) rfl)) (hw _ (List.mem_of_getElem? (i := 14) rfl)) (by decide) (rm_rot l Z a0 hw p5 w_ROTATION_0 w_ROTATION_90 w_ROTATION_180 w_ROTATION_270 h0 n0 Z0 S_ROTATION_0 S_ROTATION_90 S_ROTATION_180 S_ROTATION_270) e0 pd_1 (hb hby at_101) (by rw [hml]; rfl) (argsL := [(.int p5)]) (rest := [(.ref a1)]) rfl rfl rfl (W := 1) (Nat.le_of_eq rfl) (by decide) (by decide) (by decide) (by decide)
        obtain ⟨rfl, M31, e31⟩ := q31
        have N31 := Fr.app N0 M31
        have r31 : (f_rot p5 w_ROTATION_0 w_ROTATION_90 w_ROTATION_180 w_ROTATION_270) = w_ROTATION_0 := by rw [f_rot, if_pos (q30 : (p5 &&& (3 : Int32)) = (0 : Int32))]
        rw [r31] at st31
        refine Go.mp st31 ?_
        show Go p e below (T31.setTop (mkF m 104 #[.val (.int p1), .val (.int p2), .val (.int p3), .val (.int p4), .val (.int p5), .val (.int p6), .val (.ref a1), .val (.int (1 : Int32)), .unset, .unset, .unset, .unset] [(.ref w_ROTATION_0), (.ref a1)])) _
        obtain ⟨v32, T32, L32, X32, q32, st32⟩ := own_callV X31 hx hZ (y := (⟨"com/example/reorient/reorient/service/Window", "turnTo", "(Lcom/example/reorient/reorient/model/Rotation;)V"⟩ : MethodName)) (pc := 104) (Ls := #[.val (.int p1), .val (.int p2), .val (.int p3), .val (.int p4), .val (.int p5), .val (.int p6), .val (.ref a1), .val (.int (1 : Int32)), .unset, .unset, .unset, .unset]) (st := [(.ref w_ROTATION_0), (.ref a1)]) hown (hw _ (List.mem_of_getElem? (i := 43) rfl)) (hw _ (List.mem_of_getElem? (i := 44) rfl)) (hw _ (List.mem_of_getElem? (i := 46) rfl)) (hw _ (List.mem_of_getElem? (i := 45) rfl)) (hw _ (List.mem_of_getElem? (i := 47) rfl)) (hw _ (List.mem_of_getElem? (i := 2) rfl)) (by decide) (rm_turnTo l Z a0 hw a1 w_ROTATION_0 (.ref w_ROTATION_90) dz h0 n0 Z0 rfl E_a1 F_a1_drawn F_a1_picture g_a1) e31 E_a1 pd_2 (hb hby at_104) (by rw [hml]; rfl) (argsL := [(.ref w_ROTATION_0)]) (rest := []) rfl rfl rfl (W := 0) (Nat.le_of_eq rfl) (by decide) (by decide) (by decide) (by decide)
        obtain ⟨rv32, M32, Kc32, Fk32_0, Fk32_1⟩ := q32
        have N32 := Fr.app N31 M32
        subst rv32
        have r32_1 : (f_turnTo_a1_picture a1 w_ROTATION_0 (.ref w_ROTATION_90) dz) = .null := by rw [f_turnTo_a1_picture, if_neg ((fun q => ne_ROTATION_0_ROTATION_90 (Value.ref.inj q).symm) : ¬ ((Value.ref w_ROTATION_90) = (Value.ref w_ROTATION_0)))]
        rw [r32_1] at Fk32_1
        have S_ROTATION_0_32 := own_sta_keep S_ROTATION_0 Kc32 (own_plain E_a1 (fun _ q => nomatch q))
        have E_w_ROTATION_0_32 := Exa.keep E_w_ROTATION_0 Kc32
        have S_APPLICATION_32 := own_sta_keep S_APPLICATION Kc32 (own_plain E_a1 (fun _ q => nomatch q))
        have E_w_APPLICATION_32 := Exa.keep E_w_APPLICATION Kc32
        have S_ROTATION_270_32 := own_sta_keep S_ROTATION_270 Kc32 (own_plain E_a1 (fun _ q => nomatch q))
        have E_w_ROTATION_270_32 := Exa.keep E_w_ROTATION_270 Kc32
        have S_ROTATION_180_32 := own_sta_keep S_ROTATION_180 Kc32 (own_plain E_a1 (fun _ q => nomatch q))
        have E_w_ROTATION_180_32 := Exa.keep E_w_ROTATION_180 Kc32
        have S_ROTATION_90_32 := own_sta_keep S_ROTATION_90 Kc32 (own_plain E_a1 (fun _ q => nomatch q))
        have E_w_ROTATION_90_32 := Exa.keep E_w_ROTATION_90 Kc32
        have E_a1_32 := Exa.keep E_a1 Kc32
        have Z32 : n0 ≤ T32.heap.size := Nat.le_trans Z0 Kc32.1
        have B32 : _ ≤ T32.heap.size := Nat.le_trans hB Kc32.1
        refine Go.mp st32 ?_
        show Go p e below (T32.setTop (mkF m 107 #[.val (.int p1), .val (.int p2), .val (.int p3), .val (.int p4), .val (.int p5), .val (.int p6), .val (.ref a1), .val (.int (1 : Int32)), .unset, .unset, .unset, .unset] [])) _
        refine g_iload X32 hx (hb hby at_107) rfl ?_
        refine g_iload X32 hx (hb hby at_109) rfl ?_
        obtain ⟨v33, T33, L33, X33, q33, st33⟩ := own_callS X32 hx hZ (y := (⟨"com/example/reorient/reorient/service/WindowPictureOfPinLaw", "turn", "(II)I"⟩ : MethodName)) (pc := 111) (Ls := #[.val (.int p1), .val (.int p2), .val (.int p3), .val (.int p4), .val (.int p5), .val (.int p6), .val (.ref a1), .val (.int (1 : Int32)), .unset, .unset, .unset, .unset]) (st := [(.int p5), (.int (1 : Int32))]) hown (hw _ (List.mem_of_getElem? (i := 48) rfl)) (hw _ (List.mem_of_getElem? (i := 49) rfl)) (hw _ (List.mem_of_getElem? (i := 13) rfl)) (hw _ (List.mem_of_getElem? (i := 50) rfl)) (by decide) (rm_turn l Z a0 hw (1 : Int32) p5 T32.heap n0 Z32 ) (rfl : T32.heap = T32.heap) pd_3 (hb hby at_111) (by rw [hml]; rfl) (argsL := [(.int (1 : Int32)), (.int p5)]) (rest := []) rfl rfl rfl (W := 0) (Nat.le_of_eq rfl) (by decide) (by decide) (by decide) (by decide)
        obtain ⟨rfl, M33, e33⟩ := q33
        have N33 := Fr.app N32 M33
        have r33 : (f_turn (1 : Int32) p5) = (-1 : Int32) := by rw [f_turn, if_neg ((by rw [q30]; decide) : ¬ ((1 : Int32) = (p5 &&& (3 : Int32))))]
        rw [r33] at st33
        refine Go.mp st33 ?_
        show Go p e below (T33.setTop (mkF m 114 #[.val (.int p1), .val (.int p2), .val (.int p3), .val (.int p4), .val (.int p5), .val (.int p6), .val (.ref a1), .val (.int (1 : Int32)), .unset, .unset, .unset, .unset] [(.int (-1 : Int32))])) _
        refine g_istore X33 hx #[.val (.int p1), .val (.int p2), .val (.int p3), .val (.int p4), .val (.int p5), .val (.int p6), .val (.ref a1), .val (.int (-1 : Int32)), .unset, .unset, .unset, .unset] (hb hby at_114) rfl ?_
        show Go p e below (T33.setTop (mkF m 116 #[.val (.int p1), .val (.int p2), .val (.int p3), .val (.int p4), .val (.int p5), .val (.int p6), .val (.ref a1), .val (.int (-1 : Int32)), .unset, .unset, .unset, .unset] [])) _
        exact seg_5 l Z a0 hw p1 p2 p3 p4 p5 p6 a1 (-1 : Int32) .null dz w_ROTATION_0 w_APPLICATION w_ROTATION_270 w_ROTATION_180 w_ROTATION_90 T32.heap n0 Z32 S_ROTATION_0_32 E_w_ROTATION_0_32 S_APPLICATION_32 E_w_APPLICATION_32 S_ROTATION_270_32 E_w_ROTATION_270_32 S_ROTATION_180_32 E_w_ROTATION_180_32 S_ROTATION_90_32 E_w_ROTATION_90_32 ne_ROTATION_0_ROTATION_270 ne_ROTATION_0_ROTATION_90 ne_ROTATION_0_ROTATION_180 ne_ROTATION_270_ROTATION_90 ne_ROTATION_270_ROTATION_180 ne_ROTATION_90_ROTATION_180 E_a1_32 Fk32_1 Fk32_0 g_a1 (Or.inl ⟨rfl, rfl⟩) hx hby hml hown hnm hret hlk hZ X33 e33 N33 hS B32
      · obtain ⟨v34, T34, L34, X34, q34, st34⟩ := own_callS X0 hx hZ (y := (⟨"com/example/reorient/reorient/service/WindowPictureOfPinLaw", "rot", "(I)Lcom/example/reorient/reorient/model/Rotation;"⟩ : MethodName)) (pc := 101) (Ls := #[.val (.int p1), .val (.int p2), .val (.int p3), .val (.int p4), .val (.int p5), .val (.int p6), .val (.ref a1), .val (.int (1 : Int32)), .unset, .unset, .unset, .unset]) (st := [(.int p5), (.ref a1)]) hown (hw _ (List.mem_of_getElem? (i := 11) rfl)) (hw _ (List.mem_of_getElem? (i := 12) rfl)) (hw _ (List.mem_of_getElem? (i := 13) rfl)) (hw _ (List.mem_of_getElem? (i := 14) rfl)) (by decide) (rm_rot l Z a0 hw p5 w_ROTATION_0 w_ROTATION_90 w_ROTATION_180 w_ROTATION_270 h0 n0 Z0 S_ROTATION_0 S_ROTATION_90 S_ROTATION_180 S_ROTATION_270) e0 pd_1 (hb hby at_101) (by rw [hml]; rfl) (argsL := [(.int p5)]) (rest := [(.ref a1)]) rfl rfl rfl (W := 1) (Nat.le_of_eq rfl) (by decide) (by decide) (by decide) (by decide)
        obtain ⟨rfl, M34, e34⟩ := q34
        have N34 := Fr.app N0 M34
        have r34 : (f_rot p5 w_ROTATION_0 w_ROTATION_90 w_ROTATION_180 w_ROTATION_270) = w_ROTATION_90 := by rw [f_rot, if_neg ((by rw [q30]; decide) : ¬ ((p5 &&& (3 : Int32)) = (0 : Int32))), if_pos (q30 : (p5 &&& (3 : Int32)) = (1 : Int32))]
        rw [r34] at st34
        refine Go.mp st34 ?_
        show Go p e below (T34.setTop (mkF m 104 #[.val (.int p1), .val (.int p2), .val (.int p3), .val (.int p4), .val (.int p5), .val (.int p6), .val (.ref a1), .val (.int (1 : Int32)), .unset, .unset, .unset, .unset] [(.ref w_ROTATION_90), (.ref a1)])) _
        obtain ⟨v35, T35, L35, X35, q35, st35⟩ := own_callV X34 hx hZ (y := (⟨"com/example/reorient/reorient/service/Window", "turnTo", "(Lcom/example/reorient/reorient/model/Rotation;)V"⟩ : MethodName)) (pc := 104) (Ls := #[.val (.int p1), .val (.int p2), .val (.int p3), .val (.int p4), .val (.int p5), .val (.int p6), .val (.ref a1), .val (.int (1 : Int32)), .unset, .unset, .unset, .unset]) (st := [(.ref w_ROTATION_90), (.ref a1)]) hown (hw _ (List.mem_of_getElem? (i := 43) rfl)) (hw _ (List.mem_of_getElem? (i := 44) rfl)) (hw _ (List.mem_of_getElem? (i := 46) rfl)) (hw _ (List.mem_of_getElem? (i := 45) rfl)) (hw _ (List.mem_of_getElem? (i := 47) rfl)) (hw _ (List.mem_of_getElem? (i := 2) rfl)) (by decide) (rm_turnTo l Z a0 hw a1 w_ROTATION_90 (.ref w_ROTATION_90) dz h0 n0 Z0 rfl E_a1 F_a1_drawn F_a1_picture g_a1) e34 E_a1 pd_2 (hb hby at_104) (by rw [hml]; rfl) (argsL := [(.ref w_ROTATION_90)]) (rest := []) rfl rfl rfl (W := 0) (Nat.le_of_eq rfl) (by decide) (by decide) (by decide) (by decide)
        obtain ⟨rv35, M35, Kc35, Fk35_0, Fk35_1⟩ := q35
        have N35 := Fr.app N34 M35
        subst rv35
        have r35_1 : (f_turnTo_a1_picture a1 w_ROTATION_90 (.ref w_ROTATION_90) dz) = (.ref w_ROTATION_90) := by rw [f_turnTo_a1_picture, if_pos (rfl : (Value.ref w_ROTATION_90) = (Value.ref w_ROTATION_90))]
        rw [r35_1] at Fk35_1
        have S_ROTATION_0_35 := own_sta_keep S_ROTATION_0 Kc35 (own_plain E_a1 (fun _ q => nomatch q))
        have E_w_ROTATION_0_35 := Exa.keep E_w_ROTATION_0 Kc35
        have S_APPLICATION_35 := own_sta_keep S_APPLICATION Kc35 (own_plain E_a1 (fun _ q => nomatch q))
        have E_w_APPLICATION_35 := Exa.keep E_w_APPLICATION Kc35
        have S_ROTATION_270_35 := own_sta_keep S_ROTATION_270 Kc35 (own_plain E_a1 (fun _ q => nomatch q))
        have E_w_ROTATION_270_35 := Exa.keep E_w_ROTATION_270 Kc35
        have S_ROTATION_180_35 := own_sta_keep S_ROTATION_180 Kc35 (own_plain E_a1 (fun _ q => nomatch q))
        have E_w_ROTATION_180_35 := Exa.keep E_w_ROTATION_180 Kc35
        have S_ROTATION_90_35 := own_sta_keep S_ROTATION_90 Kc35 (own_plain E_a1 (fun _ q => nomatch q))
        have E_w_ROTATION_90_35 := Exa.keep E_w_ROTATION_90 Kc35
        have E_a1_35 := Exa.keep E_a1 Kc35
        have Z35 : n0 ≤ T35.heap.size := Nat.le_trans Z0 Kc35.1
        have B35 : _ ≤ T35.heap.size := Nat.le_trans hB Kc35.1
        refine Go.mp st35 ?_
        show Go p e below (T35.setTop (mkF m 107 #[.val (.int p1), .val (.int p2), .val (.int p3), .val (.int p4), .val (.int p5), .val (.int p6), .val (.ref a1), .val (.int (1 : Int32)), .unset, .unset, .unset, .unset] [])) _
        refine g_iload X35 hx (hb hby at_107) rfl ?_
        refine g_iload X35 hx (hb hby at_109) rfl ?_
        obtain ⟨v36, T36, L36, X36, q36, st36⟩ := own_callS X35 hx hZ (y := (⟨"com/example/reorient/reorient/service/WindowPictureOfPinLaw", "turn", "(II)I"⟩ : MethodName)) (pc := 111) (Ls := #[.val (.int p1), .val (.int p2), .val (.int p3), .val (.int p4), .val (.int p5), .val (.int p6), .val (.ref a1), .val (.int (1 : Int32)), .unset, .unset, .unset, .unset]) (st := [(.int p5), (.int (1 : Int32))]) hown (hw _ (List.mem_of_getElem? (i := 48) rfl)) (hw _ (List.mem_of_getElem? (i := 49) rfl)) (hw _ (List.mem_of_getElem? (i := 13) rfl)) (hw _ (List.mem_of_getElem? (i := 50) rfl)) (by decide) (rm_turn l Z a0 hw (1 : Int32) p5 T35.heap n0 Z35 ) (rfl : T35.heap = T35.heap) pd_3 (hb hby at_111) (by rw [hml]; rfl) (argsL := [(.int (1 : Int32)), (.int p5)]) (rest := []) rfl rfl rfl (W := 0) (Nat.le_of_eq rfl) (by decide) (by decide) (by decide) (by decide)
        obtain ⟨rfl, M36, e36⟩ := q36
        have N36 := Fr.app N35 M36
        have r36 : (f_turn (1 : Int32) p5) = (1 : Int32) := by rw [f_turn, if_pos (q30.symm : (1 : Int32) = (p5 &&& (3 : Int32)))]
        rw [r36] at st36
        refine Go.mp st36 ?_
        show Go p e below (T36.setTop (mkF m 114 #[.val (.int p1), .val (.int p2), .val (.int p3), .val (.int p4), .val (.int p5), .val (.int p6), .val (.ref a1), .val (.int (1 : Int32)), .unset, .unset, .unset, .unset] [(.int (1 : Int32))])) _
        refine g_istore X36 hx #[.val (.int p1), .val (.int p2), .val (.int p3), .val (.int p4), .val (.int p5), .val (.int p6), .val (.ref a1), .val (.int (1 : Int32)), .unset, .unset, .unset, .unset] (hb hby at_114) rfl ?_
        show Go p e below (T36.setTop (mkF m 116 #[.val (.int p1), .val (.int p2), .val (.int p3), .val (.int p4), .val (.int p5), .val (.int p6), .val (.ref a1), .val (.int (1 : Int32)), .unset, .unset, .unset, .unset] [])) _
        exact seg_5 l Z a0 hw p1 p2 p3 p4 p5 p6 a1 (1 : Int32) (.ref w_ROTATION_90) dz w_ROTATION_0 w_APPLICATION w_ROTATION_270 w_ROTATION_180 w_ROTATION_90 T35.heap n0 Z35 S_ROTATION_0_35 E_w_ROTATION_0_35 S_APPLICATION_35 E_w_APPLICATION_35 S_ROTATION_270_35 E_w_ROTATION_270_35 S_ROTATION_180_35 E_w_ROTATION_180_35 S_ROTATION_90_35 E_w_ROTATION_90_35 ne_ROTATION_0_ROTATION_270 ne_ROTATION_0_ROTATION_90 ne_ROTATION_0_ROTATION_180 ne_ROTATION_270_ROTATION_90 ne_ROTATION_270_ROTATION_180 ne_ROTATION_90_ROTATION_180 E_a1_35 Fk35_1 Fk35_0 g_a1 (Or.inr (Or.inr (Or.inl ⟨rfl, rfl⟩))) hx hby hml hown hnm hret hlk hZ X36 e36 N36 hS B35
      · obtain ⟨v37, T37, L37, X37, q37, st37⟩ := own_callS X0 hx hZ (y := (⟨"com/example/reorient/reorient/service/WindowPictureOfPinLaw", "rot", "(I)Lcom/example/reorient/reorient/model/Rotation;"⟩ : MethodName)) (pc := 101) (Ls := #[.val (.int p1), .val (.int p2), .val (.int p3), .val (.int p4), .val (.int p5), .val (.int p6), .val (.ref a1), .val (.int (1 : Int32)), .unset, .unset, .unset, .unset]) (st := [(.int p5), (.ref a1)]) hown (hw _ (List.mem_of_getElem? (i := 11) rfl)) (hw _ (List.mem_of_getElem? (i := 12) rfl)) (hw _ (List.mem_of_getElem? (i := 13) rfl)) (hw _ (List.mem_of_getElem? (i := 14) rfl)) (by decide) (rm_rot l Z a0 hw p5 w_ROTATION_0 w_ROTATION_90 w_ROTATION_180 w_ROTATION_270 h0 n0 Z0 S_ROTATION_0 S_ROTATION_90 S_ROTATION_180 S_ROTATION_270) e0 pd_1 (hb hby at_101) (by rw [hml]; rfl) (argsL := [(.int p5)]) (rest := [(.ref a1)]) rfl rfl rfl (W := 1) (Nat.le_of_eq rfl) (by decide) (by decide) (by decide) (by decide)
        obtain ⟨rfl, M37, e37⟩ := q37
        have N37 := Fr.app N0 M37
        have r37 : (f_rot p5 w_ROTATION_0 w_ROTATION_90 w_ROTATION_180 w_ROTATION_270) = w_ROTATION_180 := by rw [f_rot, if_neg ((by rw [q30]; decide) : ¬ ((p5 &&& (3 : Int32)) = (0 : Int32))), if_neg ((by rw [q30]; decide) : ¬ ((p5 &&& (3 : Int32)) = (1 : Int32))), if_pos (q30 : (p5 &&& (3 : Int32)) = (2 : Int32))]
        rw [r37] at st37
        refine Go.mp st37 ?_
        show Go p e below (T37.setTop (mkF m 104 #[.val (.int p1), .val (.int p2), .val (.int p3), .val (.int p4), .val (.int p5), .val (.int p6), .val (.ref a1), .val (.int (1 : Int32)), .unset, .unset, .unset, .unset] [(.ref w_ROTATION_180), (.ref a1)])) _
        obtain ⟨v38, T38, L38, X38, q38, st38⟩ := own_callV X37 hx hZ (y := (⟨"com/example/reorient/reorient/service/Window", "turnTo", "(Lcom/example/reorient/reorient/model/Rotation;)V"⟩ : MethodName)) (pc := 104) (Ls := #[.val (.int p1), .val (.int p2), .val (.int p3), .val (.int p4), .val (.int p5), .val (.int p6), .val (.ref a1), .val (.int (1 : Int32)), .unset, .unset, .unset, .unset]) (st := [(.ref w_ROTATION_180), (.ref a1)]) hown (hw _ (List.mem_of_getElem? (i := 43) rfl)) (hw _ (List.mem_of_getElem? (i := 44) rfl)) (hw _ (List.mem_of_getElem? (i := 46) rfl)) (hw _ (List.mem_of_getElem? (i := 45) rfl)) (hw _ (List.mem_of_getElem? (i := 47) rfl)) (hw _ (List.mem_of_getElem? (i := 2) rfl)) (by decide) (rm_turnTo l Z a0 hw a1 w_ROTATION_180 (.ref w_ROTATION_90) dz h0 n0 Z0 rfl E_a1 F_a1_drawn F_a1_picture g_a1) e37 E_a1 pd_2 (hb hby at_104) (by rw [hml]; rfl) (argsL := [(.ref w_ROTATION_180)]) (rest := []) rfl rfl rfl (W := 0) (Nat.le_of_eq rfl) (by decide) (by decide) (by decide) (by decide)
        obtain ⟨rv38, M38, Kc38, Fk38_0, Fk38_1⟩ := q38
        have N38 := Fr.app N37 M38
        subst rv38
        have r38_1 : (f_turnTo_a1_picture a1 w_ROTATION_180 (.ref w_ROTATION_90) dz) = .null := by rw [f_turnTo_a1_picture, if_neg ((fun q => ne_ROTATION_90_ROTATION_180 (Value.ref.inj q)) : ¬ ((Value.ref w_ROTATION_90) = (Value.ref w_ROTATION_180)))]
        rw [r38_1] at Fk38_1
        have S_ROTATION_0_38 := own_sta_keep S_ROTATION_0 Kc38 (own_plain E_a1 (fun _ q => nomatch q))
        have E_w_ROTATION_0_38 := Exa.keep E_w_ROTATION_0 Kc38
        have S_APPLICATION_38 := own_sta_keep S_APPLICATION Kc38 (own_plain E_a1 (fun _ q => nomatch q))
        have E_w_APPLICATION_38 := Exa.keep E_w_APPLICATION Kc38
        have S_ROTATION_270_38 := own_sta_keep S_ROTATION_270 Kc38 (own_plain E_a1 (fun _ q => nomatch q))
        have E_w_ROTATION_270_38 := Exa.keep E_w_ROTATION_270 Kc38
        have S_ROTATION_180_38 := own_sta_keep S_ROTATION_180 Kc38 (own_plain E_a1 (fun _ q => nomatch q))
        have E_w_ROTATION_180_38 := Exa.keep E_w_ROTATION_180 Kc38
        have S_ROTATION_90_38 := own_sta_keep S_ROTATION_90 Kc38 (own_plain E_a1 (fun _ q => nomatch q))
        have E_w_ROTATION_90_38 := Exa.keep E_w_ROTATION_90 Kc38
        have E_a1_38 := Exa.keep E_a1 Kc38
        have Z38 : n0 ≤ T38.heap.size := Nat.le_trans Z0 Kc38.1
        have B38 : _ ≤ T38.heap.size := Nat.le_trans hB Kc38.1
        refine Go.mp st38 ?_
        show Go p e below (T38.setTop (mkF m 107 #[.val (.int p1), .val (.int p2), .val (.int p3), .val (.int p4), .val (.int p5), .val (.int p6), .val (.ref a1), .val (.int (1 : Int32)), .unset, .unset, .unset, .unset] [])) _
        refine g_iload X38 hx (hb hby at_107) rfl ?_
        refine g_iload X38 hx (hb hby at_109) rfl ?_
        obtain ⟨v39, T39, L39, X39, q39, st39⟩ := own_callS X38 hx hZ (y := (⟨"com/example/reorient/reorient/service/WindowPictureOfPinLaw", "turn", "(II)I"⟩ : MethodName)) (pc := 111) (Ls := #[.val (.int p1), .val (.int p2), .val (.int p3), .val (.int p4), .val (.int p5), .val (.int p6), .val (.ref a1), .val (.int (1 : Int32)), .unset, .unset, .unset, .unset]) (st := [(.int p5), (.int (1 : Int32))]) hown (hw _ (List.mem_of_getElem? (i := 48) rfl)) (hw _ (List.mem_of_getElem? (i := 49) rfl)) (hw _ (List.mem_of_getElem? (i := 13) rfl)) (hw _ (List.mem_of_getElem? (i := 50) rfl)) (by decide) (rm_turn l Z a0 hw (1 : Int32) p5 T38.heap n0 Z38 ) (rfl : T38.heap = T38.heap) pd_3 (hb hby at_111) (by rw [hml]; rfl) (argsL := [(.int (1 : Int32)), (.int p5)]) (rest := []) rfl rfl rfl (W := 0) (Nat.le_of_eq rfl) (by decide) (by decide) (by decide) (by decide)
        obtain ⟨rfl, M39, e39⟩ := q39
        have N39 := Fr.app N38 M39
        have r39 : (f_turn (1 : Int32) p5) = (-1 : Int32) := by rw [f_turn, if_neg ((by rw [q30]; decide) : ¬ ((1 : Int32) = (p5 &&& (3 : Int32))))]
        rw [r39] at st39
        refine Go.mp st39 ?_
        show Go p e below (T39.setTop (mkF m 114 #[.val (.int p1), .val (.int p2), .val (.int p3), .val (.int p4), .val (.int p5), .val (.int p6), .val (.ref a1), .val (.int (1 : Int32)), .unset, .unset, .unset, .unset] [(.int (-1 : Int32))])) _
        refine g_istore X39 hx #[.val (.int p1), .val (.int p2), .val (.int p3), .val (.int p4), .val (.int p5), .val (.int p6), .val (.ref a1), .val (.int (-1 : Int32)), .unset, .unset, .unset, .unset] (hb hby at_114) rfl ?_
        show Go p e below (T39.setTop (mkF m 116 #[.val (.int p1), .val (.int p2), .val (.int p3), .val (.int p4), .val (.int p5), .val (.int p6), .val (.ref a1), .val (.int (-1 : Int32)), .unset, .unset, .unset, .unset] [])) _
        exact seg_5 l Z a0 hw p1 p2 p3 p4 p5 p6 a1 (-1 : Int32) .null dz w_ROTATION_0 w_APPLICATION w_ROTATION_270 w_ROTATION_180 w_ROTATION_90 T38.heap n0 Z38 S_ROTATION_0_38 E_w_ROTATION_0_38 S_APPLICATION_38 E_w_APPLICATION_38 S_ROTATION_270_38 E_w_ROTATION_270_38 S_ROTATION_180_38 E_w_ROTATION_180_38 S_ROTATION_90_38 E_w_ROTATION_90_38 ne_ROTATION_0_ROTATION_270 ne_ROTATION_0_ROTATION_90 ne_ROTATION_0_ROTATION_180 ne_ROTATION_270_ROTATION_90 ne_ROTATION_270_ROTATION_180 ne_ROTATION_90_ROTATION_180 E_a1_38 Fk38_1 Fk38_0 g_a1 (Or.inl ⟨rfl, rfl⟩) hx hby hml hown hnm hret hlk hZ X39 e39 N39 hS B38
      · obtain ⟨v40, T40, L40, X40, q40, st40⟩ := own_callS X0 hx hZ (y := (⟨"com/example/reorient/reorient/service/WindowPictureOfPinLaw", "rot", "(I)Lcom/example/reorient/reorient/model/Rotation;"⟩ : MethodName)) (pc := 101) (Ls := #[.val (.int p1), .val (.int p2), .val (.int p3), .val (.int p4), .val (.int p5), .val (.int p6), .val (.ref a1), .val (.int (1 : Int32)), .unset, .unset, .unset, .unset]) (st := [(.int p5), (.ref a1)]) hown (hw _ (List.mem_of_getElem? (i := 11) rfl)) (hw _ (List.mem_of_getElem? (i := 12) rfl)) (hw _ (List.mem_of_getElem? (i := 13) rfl)) (hw _ (List.mem_of_getElem? (i := 14) rfl)) (by decide) (rm_rot l Z a0 hw p5 w_ROTATION_0 w_ROTATION_90 w_ROTATION_180 w_ROTATION_270 h0 n0 Z0 S_ROTATION_0 S_ROTATION_90 S_ROTATION_180 S_ROTATION_270) e0 pd_1 (hb hby at_101) (by rw [hml]; rfl) (argsL := [(.int p5)]) (rest := [(.ref a1)]) rfl rfl rfl (W := 1) (Nat.le_of_eq rfl) (by decide) (by decide) (by decide) (by decide)
        obtain ⟨rfl, M40, e40⟩ := q40
        have N40 := Fr.app N0 M40
        have r40 : (f_rot p5 w_ROTATION_0 w_ROTATION_90 w_ROTATION_180 w_ROTATION_270) = w_ROTATION_270 := by rw [f_rot, if_neg ((by rw [q30]; decide) : ¬ ((p5 &&& (3 : Int32)) = (0 : Int32))), if_neg ((by rw [q30]; decide) : ¬ ((p5 &&& (3 : Int32)) = (1 : Int32))), if_neg ((by rw [q30]; decide) : ¬ ((p5 &&& (3 : Int32)) = (2 : Int32)))]
        rw [r40] at st40
        refine Go.mp st40 ?_
        show Go p e below (T40.setTop (mkF m 104 #[.val (.int p1), .val (.int p2), .val (.int p3), .val (.int p4), .val (.int p5), .val (.int p6), .val (.ref a1), .val (.int (1 : Int32)), .unset, .unset, .unset, .unset] [(.ref w_ROTATION_270), (.ref a1)])) _
        obtain ⟨v41, T41, L41, X41, q41, st41⟩ := own_callV X40 hx hZ (y := (⟨"com/example/reorient/reorient/service/Window", "turnTo", "(Lcom/example/reorient/reorient/model/Rotation;)V"⟩ : MethodName)) (pc := 104) (Ls := #[.val (.int p1), .val (.int p2), .val (.int p3), .val (.int p4), .val (.int p5), .val (.int p6), .val (.ref a1), .val (.int (1 : Int32)), .unset, .unset, .unset, .unset]) (st := [(.ref w_ROTATION_270), (.ref a1)]) hown (hw _ (List.mem_of_getElem? (i := 43) rfl)) (hw _ (List.mem_of_getElem? (i := 44) rfl)) (hw _ (List.mem_of_getElem? (i := 46) rfl)) (hw _ (List.mem_of_getElem? (i := 45) rfl)) (hw _ (List.mem_of_getElem? (i := 47) rfl)) (hw _ (List.mem_of_getElem? (i := 2) rfl)) (by decide) (rm_turnTo l Z a0 hw a1 w_ROTATION_270 (.ref w_ROTATION_90) dz h0 n0 Z0 rfl E_a1 F_a1_drawn F_a1_picture g_a1) e40 E_a1 pd_2 (hb hby at_104) (by rw [hml]; rfl) (argsL := [(.ref w_ROTATION_270)]) (rest := []) rfl rfl rfl (W := 0) (Nat.le_of_eq rfl) (by decide) (by decide) (by decide) (by decide)
        obtain ⟨rv41, M41, Kc41, Fk41_0, Fk41_1⟩ := q41
        have N41 := Fr.app N40 M41
        subst rv41
        have r41_1 : (f_turnTo_a1_picture a1 w_ROTATION_270 (.ref w_ROTATION_90) dz) = .null := by rw [f_turnTo_a1_picture, if_neg ((fun q => ne_ROTATION_270_ROTATION_90 (Value.ref.inj q).symm) : ¬ ((Value.ref w_ROTATION_90) = (Value.ref w_ROTATION_270)))]
        rw [r41_1] at Fk41_1
        have S_ROTATION_0_41 := own_sta_keep S_ROTATION_0 Kc41 (own_plain E_a1 (fun _ q => nomatch q))
        have E_w_ROTATION_0_41 := Exa.keep E_w_ROTATION_0 Kc41
        have S_APPLICATION_41 := own_sta_keep S_APPLICATION Kc41 (own_plain E_a1 (fun _ q => nomatch q))
        have E_w_APPLICATION_41 := Exa.keep E_w_APPLICATION Kc41
        have S_ROTATION_270_41 := own_sta_keep S_ROTATION_270 Kc41 (own_plain E_a1 (fun _ q => nomatch q))
        have E_w_ROTATION_270_41 := Exa.keep E_w_ROTATION_270 Kc41
        have S_ROTATION_180_41 := own_sta_keep S_ROTATION_180 Kc41 (own_plain E_a1 (fun _ q => nomatch q))
        have E_w_ROTATION_180_41 := Exa.keep E_w_ROTATION_180 Kc41
        have S_ROTATION_90_41 := own_sta_keep S_ROTATION_90 Kc41 (own_plain E_a1 (fun _ q => nomatch q))
        have E_w_ROTATION_90_41 := Exa.keep E_w_ROTATION_90 Kc41
        have E_a1_41 := Exa.keep E_a1 Kc41
        have Z41 : n0 ≤ T41.heap.size := Nat.le_trans Z0 Kc41.1
        have B41 : _ ≤ T41.heap.size := Nat.le_trans hB Kc41.1
        refine Go.mp st41 ?_
        show Go p e below (T41.setTop (mkF m 107 #[.val (.int p1), .val (.int p2), .val (.int p3), .val (.int p4), .val (.int p5), .val (.int p6), .val (.ref a1), .val (.int (1 : Int32)), .unset, .unset, .unset, .unset] [])) _
        refine g_iload X41 hx (hb hby at_107) rfl ?_
        refine g_iload X41 hx (hb hby at_109) rfl ?_
        obtain ⟨v42, T42, L42, X42, q42, st42⟩ := own_callS X41 hx hZ (y := (⟨"com/example/reorient/reorient/service/WindowPictureOfPinLaw", "turn", "(II)I"⟩ : MethodName)) (pc := 111) (Ls := #[.val (.int p1), .val (.int p2), .val (.int p3), .val (.int p4), .val (.int p5), .val (.int p6), .val (.ref a1), .val (.int (1 : Int32)), .unset, .unset, .unset, .unset]) (st := [(.int p5), (.int (1 : Int32))]) hown (hw _ (List.mem_of_getElem? (i := 48) rfl)) (hw _ (List.mem_of_getElem? (i := 49) rfl)) (hw _ (List.mem_of_getElem? (i := 13) rfl)) (hw _ (List.mem_of_getElem? (i := 50) rfl)) (by decide) (rm_turn l Z a0 hw (1 : Int32) p5 T41.heap n0 Z41 ) (rfl : T41.heap = T41.heap) pd_3 (hb hby at_111) (by rw [hml]; rfl) (argsL := [(.int (1 : Int32)), (.int p5)]) (rest := []) rfl rfl rfl (W := 0) (Nat.le_of_eq rfl) (by decide) (by decide) (by decide) (by decide)
        obtain ⟨rfl, M42, e42⟩ := q42
        have N42 := Fr.app N41 M42
        have r42 : (f_turn (1 : Int32) p5) = (-1 : Int32) := by rw [f_turn, if_neg ((by rw [q30]; decide) : ¬ ((1 : Int32) = (p5 &&& (3 : Int32))))]
        rw [r42] at st42
        refine Go.mp st42 ?_
        show Go p e below (T42.setTop (mkF m 114 #[.val (.int p1), .val (.int p2), .val (.int p3), .val (.int p4), .val (.int p5), .val (.int p6), .val (.ref a1), .val (.int (1 : Int32)), .unset, .unset, .unset, .unset] [(.int (-1 : Int32))])) _
        refine g_istore X42 hx #[.val (.int p1), .val (.int p2), .val (.int p3), .val (.int p4), .val (.int p5), .val (.int p6), .val (.ref a1), .val (.int (-1 : Int32)), .unset, .unset, .unset, .unset] (hb hby at_114) rfl ?_
        show Go p e below (T42.setTop (mkF m 116 #[.val (.int p1), .val (.int p2), .val (.int p3), .val (.int p4), .val (.int p5), .val (.int p6), .val (.ref a1), .val (.int (-1 : Int32)), .unset, .unset, .unset, .unset] [])) _
        exact seg_5 l Z a0 hw p1 p2 p3 p4 p5 p6 a1 (-1 : Int32) .null dz w_ROTATION_0 w_APPLICATION w_ROTATION_270 w_ROTATION_180 w_ROTATION_90 T41.heap n0 Z41 S_ROTATION_0_41 E_w_ROTATION_0_41 S_APPLICATION_41 E_w_APPLICATION_41 S_ROTATION_270_41 E_w_ROTATION_270_41 S_ROTATION_180_41 E_w_ROTATION_180_41 S_ROTATION_90_41 E_w_ROTATION_90_41 ne_ROTATION_0_ROTATION_270 ne_ROTATION_0_ROTATION_90 ne_ROTATION_0_ROTATION_180 ne_ROTATION_270_ROTATION_90 ne_ROTATION_270_ROTATION_180 ne_ROTATION_90_ROTATION_180 E_a1_41 Fk41_1 Fk41_0 g_a1 (Or.inl ⟨rfl, rfl⟩) hx hby hml hown hnm hret hlk hZ X42 e42 N42 hS B41
  · refine g_iload X0 hx (hb hby at_89) rfl ?_
    refine g_bipush X0 hx (8 : Int32) (hb hby at_91) (by decide) ?_
    refine g_iand X0 hx (hb hby at_93) ?_
    by_cases c94_43 : (p6 &&& (8 : Int32)) = (0 : Int32)
    · refine g_ifYes X0 hx 116 (hb hby at_94) ((if0 _ _).trans (teq c94_43).1) (by decide) (by decide) ?_
      show Go p e below (s₁.setTop (mkF m 116 #[.val (.int p1), .val (.int p2), .val (.int p3), .val (.int p4), .val (.int p5), .val (.int p6), .val (.ref a1), .val (.int (2 : Int32)), .unset, .unset, .unset, .unset] [])) _
      exact seg_5 l Z a0 hw p1 p2 p3 p4 p5 p6 a1 (2 : Int32) (.ref w_ROTATION_180) dz w_ROTATION_0 w_APPLICATION w_ROTATION_270 w_ROTATION_180 w_ROTATION_90 h0 n0 Z0 S_ROTATION_0 E_w_ROTATION_0 S_APPLICATION E_w_APPLICATION S_ROTATION_270 E_w_ROTATION_270 S_ROTATION_180 E_w_ROTATION_180 S_ROTATION_90 E_w_ROTATION_90 ne_ROTATION_0_ROTATION_270 ne_ROTATION_0_ROTATION_90 ne_ROTATION_0_ROTATION_180 ne_ROTATION_270_ROTATION_90 ne_ROTATION_270_ROTATION_180 ne_ROTATION_90_ROTATION_180 E_a1 F_a1_picture F_a1_drawn g_a1 (Or.inr (Or.inr (Or.inr (Or.inl ⟨rfl, rfl⟩)))) hx hby hml hown hnm hret hlk hZ X0 e0 N0 hS hB
    · refine g_ifNo X0 hx (hb hby at_94) ((if0 _ _).trans (feq c94_43).1) ?_
      refine g_aload X0 hx (hb hby at_97) rfl rfl ?_
      refine g_iload X0 hx (hb hby at_99) rfl ?_
      show Go p e below (s₁.setTop (mkF m 101 #[.val (.int p1), .val (.int p2), .val (.int p3), .val (.int p4), .val (.int p5), .val (.int p6), .val (.ref a1), .val (.int (2 : Int32)), .unset, .unset, .unset, .unset] [(.int p5), (.ref a1)])) _
      rcases own_and3 p5 with q44 | q44 | q44 | q44
      · obtain ⟨v45, T45, L45, X45, q45, st45⟩ := own_callS X0 hx hZ (y := (⟨"com/example/reorient/reorient/service/WindowPictureOfPinLaw", "rot", "(I)Lcom/example/reorient/reorient/model/Rotation;"⟩ : MethodName)) (pc := 101) (Ls := #[.val (.int p1), .val (.int p2), .val (.int p3), .val (.int p4), .val (.int p5), .val (.int p6), .val (.ref a1), .val (.int (2 : Int32)), .unset, .unset, .unset, .unset]) (st := [(.int p5), (.ref a1)]) hown (hw _ (List.mem_of_getElem? (i := 11) rfl)) (hw _ (List.mem_of_getElem? (i := 12) rfl)) (hw _ (List.mem_of_getElem? (i := 13) rfl)) (hw _ (List.mem_of_getElem? (i := 14) rfl)) (by decide) (rm_rot l Z a0 hw p5 w_ROTATION_0 w_ROTATION_90 w_ROTATION_180 w_ROTATION_270 h0 n0 Z0 S_ROTATION_0 S_ROTATION_90 S_ROTATION_180 S_ROTATION_270) e0 pd_1 (hb hby at_101) (by rw [hml]; rfl) (argsL := [(.int p5)]) (rest := [(.ref a1)]) rfl rfl rfl (W := 1) (Nat.le_of_eq rfl) (by decide) (by decide) (by decide) (by decide)
        obtain ⟨rfl, M45, e45⟩ := q45
        have N45 := Fr.app N0 M45
        have r45 : (f_rot p5 w_ROTATION_0 w_ROTATION_90 w_ROTATION_180 w_ROTATION_270) = w_ROTATION_0 := by rw [f_rot, if_pos (q44 : (p5 &&& (3 : Int32)) = (0 : Int32))]
        rw [r45] at st45
        refine Go.mp st45 ?_
        show Go p e below (T45.setTop (mkF m 104 #[.val (.int p1), .val (.int p2), .val (.int p3), .val (.int p4), .val (.int p5), .val (.int p6), .val (.ref a1), .val (.int (2 : Int32)), .unset, .unset, .unset, .unset] [(.ref w_ROTATION_0), (.ref a1)])) _
        obtain ⟨v46, T46, L46, X46, q46, st46⟩ := own_callV X45 hx hZ (y := (⟨"com/example/reorient/reorient/service/Window", "turnTo", "(Lcom/example/reorient/reorient/model/Rotation;)V"⟩ : MethodName)) (pc := 104) (Ls := #[.val (.int p1), .val (.int p2), .val (.int p3), .val (.int p4), .val (.int p5), .val (.int p6), .val (.ref a1), .val (.int (2 : Int32)), .unset, .unset, .unset, .unset]) (st := [(.ref w_ROTATION_0), (.ref a1)]) hown (hw _ (List.mem_of_getElem? (i := 43) rfl)) (hw _ (List.mem_of_getElem? (i := 44) rfl)) (hw _ (List.mem_of_getElem? (i := 46) rfl)) (hw _ (List.mem_of_getElem? (i := 45) rfl)) (hw _ (List.mem_of_getElem? (i := 47) rfl)) (hw _ (List.mem_of_getElem? (i := 2) rfl)) (by decide) (rm_turnTo l Z a0 hw a1 w_ROTATION_0 (.ref w_ROTATION_180) dz h0 n0 Z0 rfl E_a1 F_a1_drawn F_a1_picture g_a1) e45 E_a1 pd_2 (hb hby at_104) (by rw [hml]; rfl) (argsL := [(.ref w_ROTATION_0)]) (rest := []) rfl rfl rfl (W := 0) (Nat.le_of_eq rfl) (by decide) (by decide) (by decide) (by decide)
        obtain ⟨rv46, M46, Kc46, Fk46_0, Fk46_1⟩ := q46
        have N46 := Fr.app N45 M46
        subst rv46
        have r46_1 : (f_turnTo_a1_picture a1 w_ROTATION_0 (.ref w_ROTATION_180) dz) = .null := by rw [f_turnTo_a1_picture, if_neg ((fun q => ne_ROTATION_0_ROTATION_180 (Value.ref.inj q).symm) : ¬ ((Value.ref w_ROTATION_180) = (Value.ref w_ROTATION_0)))]
        rw [r46_1] at Fk46_1
        have S_ROTATION_0_46 := own_sta_keep S_ROTATION_0 Kc46 (own_plain E_a1 (fun _ q => nomatch q))
        have E_w_ROTATION_0_46 := Exa.keep E_w_ROTATION_0 Kc46
        have S_APPLICATION_46 := own_sta_keep S_APPLICATION Kc46 (own_plain E_a1 (fun _ q => nomatch q))
        have E_w_APPLICATION_46 := Exa.keep E_w_APPLICATION Kc46
        have S_ROTATION_270_46 := own_sta_keep S_ROTATION_270 Kc46 (own_plain E_a1 (fun _ q => nomatch q))
        have E_w_ROTATION_270_46 := Exa.keep E_w_ROTATION_270 Kc46
        have S_ROTATION_180_46 := own_sta_keep S_ROTATION_180 Kc46 (own_plain E_a1 (fun _ q => nomatch q))
        have E_w_ROTATION_180_46 := Exa.keep E_w_ROTATION_180 Kc46
        have S_ROTATION_90_46 := own_sta_keep S_ROTATION_90 Kc46 (own_plain E_a1 (fun _ q => nomatch q))
        have E_w_ROTATION_90_46 := Exa.keep E_w_ROTATION_90 Kc46
        have E_a1_46 := Exa.keep E_a1 Kc46
        have Z46 : n0 ≤ T46.heap.size := Nat.le_trans Z0 Kc46.1
        have B46 : _ ≤ T46.heap.size := Nat.le_trans hB Kc46.1
        refine Go.mp st46 ?_
        show Go p e below (T46.setTop (mkF m 107 #[.val (.int p1), .val (.int p2), .val (.int p3), .val (.int p4), .val (.int p5), .val (.int p6), .val (.ref a1), .val (.int (2 : Int32)), .unset, .unset, .unset, .unset] [])) _
        refine g_iload X46 hx (hb hby at_107) rfl ?_
        refine g_iload X46 hx (hb hby at_109) rfl ?_
        obtain ⟨v47, T47, L47, X47, q47, st47⟩ := own_callS X46 hx hZ (y := (⟨"com/example/reorient/reorient/service/WindowPictureOfPinLaw", "turn", "(II)I"⟩ : MethodName)) (pc := 111) (Ls := #[.val (.int p1), .val (.int p2), .val (.int p3), .val (.int p4), .val (.int p5), .val (.int p6), .val (.ref a1), .val (.int (2 : Int32)), .unset, .unset, .unset, .unset]) (st := [(.int p5), (.int (2 : Int32))]) hown (hw _ (List.mem_of_getElem? (i := 48) rfl)) (hw _ (List.mem_of_getElem? (i := 49) rfl)) (hw _ (List.mem_of_getElem? (i := 13) rfl)) (hw _ (List.mem_of_getElem? (i := 50) rfl)) (by decide) (rm_turn l Z a0 hw (2 : Int32) p5 T46.heap n0 Z46 ) (rfl : T46.heap = T46.heap) pd_3 (hb hby at_111) (by rw [hml]; rfl) (argsL := [(.int (2 : Int32)), (.int p5)]) (rest := []) rfl rfl rfl (W := 0) (Nat.le_of_eq rfl) (by decide) (by decide) (by decide) (by decide)
        obtain ⟨rfl, M47, e47⟩ := q47
        have N47 := Fr.app N46 M47
        have r47 : (f_turn (2 : Int32) p5) = (-1 : Int32) := by rw [f_turn, if_neg ((by rw [q44]; decide) : ¬ ((2 : Int32) = (p5 &&& (3 : Int32))))]
        rw [r47] at st47
        refine Go.mp st47 ?_
        show Go p e below (T47.setTop (mkF m 114 #[.val (.int p1), .val (.int p2), .val (.int p3), .val (.int p4), .val (.int p5), .val (.int p6), .val (.ref a1), .val (.int (2 : Int32)), .unset, .unset, .unset, .unset] [(.int (-1 : Int32))])) _
        refine g_istore X47 hx #[.val (.int p1), .val (.int p2), .val (.int p3), .val (.int p4), .val (.int p5), .val (.int p6), .val (.ref a1), .val (.int (-1 : Int32)), .unset, .unset, .unset, .unset] (hb hby at_114) rfl ?_
        show Go p e below (T47.setTop (mkF m 116 #[.val (.int p1), .val (.int p2), .val (.int p3), .val (.int p4), .val (.int p5), .val (.int p6), .val (.ref a1), .val (.int (-1 : Int32)), .unset, .unset, .unset, .unset] [])) _
        exact seg_5 l Z a0 hw p1 p2 p3 p4 p5 p6 a1 (-1 : Int32) .null dz w_ROTATION_0 w_APPLICATION w_ROTATION_270 w_ROTATION_180 w_ROTATION_90 T46.heap n0 Z46 S_ROTATION_0_46 E_w_ROTATION_0_46 S_APPLICATION_46 E_w_APPLICATION_46 S_ROTATION_270_46 E_w_ROTATION_270_46 S_ROTATION_180_46 E_w_ROTATION_180_46 S_ROTATION_90_46 E_w_ROTATION_90_46 ne_ROTATION_0_ROTATION_270 ne_ROTATION_0_ROTATION_90 ne_ROTATION_0_ROTATION_180 ne_ROTATION_270_ROTATION_90 ne_ROTATION_270_ROTATION_180 ne_ROTATION_90_ROTATION_180 E_a1_46 Fk46_1 Fk46_0 g_a1 (Or.inl ⟨rfl, rfl⟩) hx hby hml hown hnm hret hlk hZ X47 e47 N47 hS B46
      · obtain ⟨v48, T48, L48, X48, q48, st48⟩ := own_callS X0 hx hZ (y := (⟨"com/example/reorient/reorient/service/WindowPictureOfPinLaw", "rot", "(I)Lcom/example/reorient/reorient/model/Rotation;"⟩ : MethodName)) (pc := 101) (Ls := #[.val (.int p1), .val (.int p2), .val (.int p3), .val (.int p4), .val (.int p5), .val (.int p6), .val (.ref a1), .val (.int (2 : Int32)), .unset, .unset, .unset, .unset]) (st := [(.int p5), (.ref a1)]) hown (hw _ (List.mem_of_getElem? (i := 11) rfl)) (hw _ (List.mem_of_getElem? (i := 12) rfl)) (hw _ (List.mem_of_getElem? (i := 13) rfl)) (hw _ (List.mem_of_getElem? (i := 14) rfl)) (by decide) (rm_rot l Z a0 hw p5 w_ROTATION_0 w_ROTATION_90 w_ROTATION_180 w_ROTATION_270 h0 n0 Z0 S_ROTATION_0 S_ROTATION_90 S_ROTATION_180 S_ROTATION_270) e0 pd_1 (hb hby at_101) (by rw [hml]; rfl) (argsL := [(.int p5)]) (rest := [(.ref a1)]) rfl rfl rfl (W := 1) (Nat.le_of_eq rfl) (by decide) (by decide) (by decide) (by decide)
        obtain ⟨rfl, M48, e48⟩ := q48
        have N48 := Fr.app N0 M48
        have r48 : (f_rot p5 w_ROTATION_0 w_ROTATION_90 w_ROTATION_180 w_ROTATION_270) = w_ROTATION_90 := by rw [f_rot, if_neg ((by rw [q44]; decide) : ¬ ((p5 &&& (3 : Int32)) = (0 : Int32))), if_pos (q44 : (p5 &&& (3 : Int32)) = (1 : Int32))]
        rw [r48] at st48
        refine Go.mp st48 ?_
        show Go p e below (T48.setTop (mkF m 104 #[.val (.int p1), .val (.int p2), .val (.int p3), .val (.int p4), .val (.int p5), .val (.int p6), .val (.ref a1), .val (.int (2 : Int32)), .unset, .unset, .unset, .unset] [(.ref w_ROTATION_90), (.ref a1)])) _
        obtain ⟨v49, T49, L49, X49, q49, st49⟩ := own_callV X48 hx hZ (y := (⟨"com/example/reorient/reorient/service/Window", "turnTo", "(Lcom/example/reorient/reorient/model/Rotation;)V"⟩ : MethodName)) (pc := 104) (Ls := #[.val (.int p1), .val (.int p2), .val (.int p3), .val (.int p4), .val (.int p5), .val (.int p6), .val (.ref a1), .val (.int (2 : Int32)), .unset, .unset, .unset, .unset]) (st := [(.ref w_ROTATION_90), (.ref a1)]) hown (hw _ (List.mem_of_getElem? (i := 43) rfl)) (hw _ (List.mem_of_getElem? (i := 44) rfl)) (hw _ (List.mem_of_getElem? (i := 46) rfl)) (hw _ (List.mem_of_getElem? (i := 45) rfl)) (hw _ (List.mem_of_getElem? (i := 47) rfl)) (hw _ (List.mem_of_getElem? (i := 2) rfl)) (by decide) (rm_turnTo l Z a0 hw a1 w_ROTATION_90 (.ref w_ROTATION_180) dz h0 n0 Z0 rfl E_a1 F_a1_drawn F_a1_picture g_a1) e48 E_a1 pd_2 (hb hby at_104) (by rw [hml]; rfl) (argsL := [(.ref w_ROTATION_90)]) (rest := []) rfl rfl rfl (W := 0) (Nat.le_of_eq rfl) (by decide) (by decide) (by decide) (by decide)
        obtain ⟨rv49, M49, Kc49, Fk49_0, Fk49_1⟩ := q49
        have N49 := Fr.app N48 M49
        subst rv49
        have r49_1 : (f_turnTo_a1_picture a1 w_ROTATION_90 (.ref w_ROTATION_180) dz) = .null := by rw [f_turnTo_a1_picture, if_neg ((fun q => ne_ROTATION_90_ROTATION_180 (Value.ref.inj q).symm) : ¬ ((Value.ref w_ROTATION_180) = (Value.ref w_ROTATION_90)))]
        rw [r49_1] at Fk49_1
        have S_ROTATION_0_49 := own_sta_keep S_ROTATION_0 Kc49 (own_plain E_a1 (fun _ q => nomatch q))
        have E_w_ROTATION_0_49 := Exa.keep E_w_ROTATION_0 Kc49
        have S_APPLICATION_49 := own_sta_keep S_APPLICATION Kc49 (own_plain E_a1 (fun _ q => nomatch q))
        have E_w_APPLICATION_49 := Exa.keep E_w_APPLICATION Kc49
        have S_ROTATION_270_49 := own_sta_keep S_ROTATION_270 Kc49 (own_plain E_a1 (fun _ q => nomatch q))
        have E_w_ROTATION_270_49 := Exa.keep E_w_ROTATION_270 Kc49
        have S_ROTATION_180_49 := own_sta_keep S_ROTATION_180 Kc49 (own_plain E_a1 (fun _ q => nomatch q))
        have E_w_ROTATION_180_49 := Exa.keep E_w_ROTATION_180 Kc49
        have S_ROTATION_90_49 := own_sta_keep S_ROTATION_90 Kc49 (own_plain E_a1 (fun _ q => nomatch q))
        have E_w_ROTATION_90_49 := Exa.keep E_w_ROTATION_90 Kc49
        have E_a1_49 := Exa.keep E_a1 Kc49
        have Z49 : n0 ≤ T49.heap.size := Nat.le_trans Z0 Kc49.1
        have B49 : _ ≤ T49.heap.size := Nat.le_trans hB Kc49.1
        refine Go.mp st49 ?_
        show Go p e below (T49.setTop (mkF m 107 #[.val (.int p1), .val (.int p2), .val (.int p3), .val (.int p4), .val (.int p5), .val (.int p6), .val (.ref a1), .val (.int (2 : Int32)), .unset, .unset, .unset, .unset] [])) _
        refine g_iload X49 hx (hb hby at_107) rfl ?_
        refine g_iload X49 hx (hb hby at_109) rfl ?_
        obtain ⟨v50, T50, L50, X50, q50, st50⟩ := own_callS X49 hx hZ (y := (⟨"com/example/reorient/reorient/service/WindowPictureOfPinLaw", "turn", "(II)I"⟩ : MethodName)) (pc := 111) (Ls := #[.val (.int p1), .val (.int p2), .val (.int p3), .val (.int p4), .val (.int p5), .val (.int p6), .val (.ref a1), .val (.int (2 : Int32)), .unset, .unset, .unset, .unset]) (st := [(.int p5), (.int (2 : Int32))]) hown (hw _ (List.mem_of_getElem? (i := 48) rfl)) (hw _ (List.mem_of_getElem? (i := 49) rfl)) (hw _ (List.mem_of_getElem? (i := 13) rfl)) (hw _ (List.mem_of_getElem? (i := 50) rfl)) (by decide) (rm_turn l Z a0 hw (2 : Int32) p5 T49.heap n0 Z49 ) (rfl : T49.heap = T49.heap) pd_3 (hb hby at_111) (by rw [hml]; rfl) (argsL := [(.int (2 : Int32)), (.int p5)]) (rest := []) rfl rfl rfl (W := 0) (Nat.le_of_eq rfl) (by decide) (by decide) (by decide) (by decide)
        obtain ⟨rfl, M50, e50⟩ := q50
        have N50 := Fr.app N49 M50
        have r50 : (f_turn (2 : Int32) p5) = (-1 : Int32) := by rw [f_turn, if_neg ((by rw [q44]; decide) : ¬ ((2 : Int32) = (p5 &&& (3 : Int32))))]
        rw [r50] at st50
        refine Go.mp st50 ?_
        show Go p e below (T50.setTop (mkF m 114 #[.val (.int p1), .val (.int p2), .val (.int p3), .val (.int p4), .val (.int p5), .val (.int p6), .val (.ref a1), .val (.int (2 : Int32)), .unset, .unset, .unset, .unset] [(.int (-1 : Int32))])) _
        refine g_istore X50 hx #[.val (.int p1), .val (.int p2), .val (.int p3), .val (.int p4), .val (.int p5), .val (.int p6), .val (.ref a1), .val (.int (-1 : Int32)), .unset, .unset, .unset, .unset] (hb hby at_114) rfl ?_
        show Go p e below (T50.setTop (mkF m 116 #[.val (.int p1), .val (.int p2), .val (.int p3), .val (.int p4), .val (.int p5), .val (.int p6), .val (.ref a1), .val (.int (-1 : Int32)), .unset, .unset, .unset, .unset] [])) _
        exact seg_5 l Z a0 hw p1 p2 p3 p4 p5 p6 a1 (-1 : Int32) .null dz w_ROTATION_0 w_APPLICATION w_ROTATION_270 w_ROTATION_180 w_ROTATION_90 T49.heap n0 Z49 S_ROTATION_0_49 E_w_ROTATION_0_49 S_APPLICATION_49 E_w_APPLICATION_49 S_ROTATION_270_49 E_w_ROTATION_270_49 S_ROTATION_180_49 E_w_ROTATION_180_49 S_ROTATION_90_49 E_w_ROTATION_90_49 ne_ROTATION_0_ROTATION_270 ne_ROTATION_0_ROTATION_90 ne_ROTATION_0_ROTATION_180 ne_ROTATION_270_ROTATION_90 ne_ROTATION_270_ROTATION_180 ne_ROTATION_90_ROTATION_180 E_a1_49 Fk49_1 Fk49_0 g_a1 (Or.inl ⟨rfl, rfl⟩) hx hby hml hown hnm hret hlk hZ X50 e50 N50 hS B49
      · obtain ⟨v51, T51, L51, X51, q51, st51⟩ := own_callS X0 hx hZ (y := (⟨"com/example/reorient/reorient/service/WindowPictureOfPinLaw", "rot", "(I)Lcom/example/reorient/reorient/model/Rotation;"⟩ : MethodName)) (pc := 101) (Ls := #[.val (.int p1), .val (.int p2), .val (.int p3), .val (.int p4), .val (.int p5), .val (.int p6), .val (.ref a1), .val (.int (2 : Int32)), .unset, .unset, .unset, .unset]) (st := [(.int p5), (.ref a1)]) hown (hw _ (List.mem_of_getElem? (i := 11) rfl)) (hw _ (List.mem_of_getElem? (i := 12) rfl)) (hw _ (List.mem_of_getElem? (i := 13) rfl)) (hw _ (List.mem_of_getElem? (i := 14) rfl)) (by decide) (rm_rot l Z a0 hw p5 w_ROTATION_0 w_ROTATION_90 w_ROTATION_180 w_ROTATION_270 h0 n0 Z0 S_ROTATION_0 S_ROTATION_90 S_ROTATION_180 S_ROTATION_270) e0 pd_1 (hb hby at_101) (by rw [hml]; rfl) (argsL := [(.int p5)]) (rest := [(.ref a1)]) rfl rfl rfl (W := 1) (Nat.le_of_eq rfl) (by decide) (by decide) (by decide) (by decide)
        obtain ⟨rfl, M51, e51⟩ := q51
        have N51 := Fr.app N0 M51
        have r51 : (f_rot p5 w_ROTATION_0 w_ROTATION_90 w_ROTATION_180 w_ROTATION_270) = w_ROTATION_180 := by rw [f_rot, if_neg ((by rw [q44]; decide) : ¬ ((p5 &&& (3 : Int32)) = (0 : Int32))), if_neg ((by rw [q44]; decide) : ¬ ((p5 &&& (3 : Int32)) = (1 : Int32))), if_pos (q44 : (p5 &&& (3 : Int32)) = (2 : Int32))]
        rw [r51] at st51
        refine Go.mp st51 ?_
        show Go p e below (T51.setTop (mkF m 104 #[.val (.int p1), .val (.int p2), .val (.int p3), .val (.int p4), .val (.int p5), .val (.int p6), .val (.ref a1), .val (.int (2 : Int32)), .unset, .unset, .unset, .unset] [(.ref w_ROTATION_180), (.ref a1)])) _
        obtain ⟨v52, T52, L52, X52, q52, st52⟩ := own_callV X51 hx hZ (y := (⟨"com/example/reorient/reorient/service/Window", "turnTo", "(Lcom/example/reorient/reorient/model/Rotation;)V"⟩ : MethodName)) (pc := 104) (Ls := #[.val (.int p1), .val (.int p2), .val (.int p3), .val (.int p4), .val (.int p5), .val (.int p6), .val (.ref a1), .val (.int (2 : Int32)), .unset, .unset, .unset, .unset]) (st := [(.ref w_ROTATION_180), (.ref a1)]) hown (hw _ (List.mem_of_getElem? (i := 43) rfl)) (hw _ (List.mem_of_getElem? (i := 44) rfl)) (hw _ (List.mem_of_getElem? (i := 46) rfl)) (hw _ (List.mem_of_getElem? (i := 45) rfl)) (hw _ (List.mem_of_getElem? (i := 47) rfl)) (hw _ (List.mem_of_getElem? (i := 2) rfl)) (by decide) (rm_turnTo l Z a0 hw a1 w_ROTATION_180 (.ref w_ROTATION_180) dz h0 n0 Z0 rfl E_a1 F_a1_drawn F_a1_picture g_a1) e51 E_a1 pd_2 (hb hby at_104) (by rw [hml]; rfl) (argsL := [(.ref w_ROTATION_180)]) (rest := []) rfl rfl rfl (W := 0) (Nat.le_of_eq rfl) (by decide) (by decide) (by decide) (by decide)
        obtain ⟨rv52, M52, Kc52, Fk52_0, Fk52_1⟩ := q52
        have N52 := Fr.app N51 M52
        subst rv52
        have r52_1 : (f_turnTo_a1_picture a1 w_ROTATION_180 (.ref w_ROTATION_180) dz) = (.ref w_ROTATION_180) := by rw [f_turnTo_a1_picture, if_pos (rfl : (Value.ref w_ROTATION_180) = (Value.ref w_ROTATION_180))]
        rw [r52_1] at Fk52_1
        have S_ROTATION_0_52 := own_sta_keep S_ROTATION_0 Kc52 (own_plain E_a1 (fun _ q => nomatch q))
        have E_w_ROTATION_0_52 := Exa.keep E_w_ROTATION_0 Kc52
        have S_APPLICATION_52 := own_sta_keep S_APPLICATION Kc52 (own_plain E_a1 (fun _ q => nomatch q))
        have E_w_APPLICATION_52 := Exa.keep E_w_APPLICATION Kc52
        have S_ROTATION_270_52 := own_sta_keep S_ROTATION_270 Kc52 (own_plain E_a1 (fun _ q => nomatch q))
        have E_w_ROTATION_270_52 := Exa.keep E_w_ROTATION_270 Kc52
        have S_ROTATION_180_52 := own_sta_keep S_ROTATION_180 Kc52 (own_plain E_a1 (fun _ q => nomatch q))
        have E_w_ROTATION_180_52 := Exa.keep E_w_ROTATION_180 Kc52
        have S_ROTATION_90_52 := own_sta_keep S_ROTATION_90 Kc52 (own_plain E_a1 (fun _ q => nomatch q))
        have E_w_ROTATION_90_52 := Exa.keep E_w_ROTATION_90 Kc52
        have E_a1_52 := Exa.keep E_a1 Kc52
        have Z52 : n0 ≤ T52.heap.size := Nat.le_trans Z0 Kc52.1
        have B52 : _ ≤ T52.heap.size := Nat.le_trans hB Kc52.1
        refine Go.mp st52 ?_
        show Go p e below (T52.setTop (mkF m 107 #[.val (.int p1), .val (.int p2), .val (.int p3), .val (.int p4), .val (.int p5), .val (.int p6), .val (.ref a1), .val (.int (2 : Int32)), .unset, .unset, .unset, .unset] [])) _
        refine g_iload X52 hx (hb hby at_107) rfl ?_
        refine g_iload X52 hx (hb hby at_109) rfl ?_
        obtain ⟨v53, T53, L53, X53, q53, st53⟩ := own_callS X52 hx hZ (y := (⟨"com/example/reorient/reorient/service/WindowPictureOfPinLaw", "turn", "(II)I"⟩ : MethodName)) (pc := 111) (Ls := #[.val (.int p1), .val (.int p2), .val (.int p3), .val (.int p4), .val (.int p5), .val (.int p6), .val (.ref a1), .val (.int (2 : Int32)), .unset, .unset, .unset, .unset]) (st := [(.int p5), (.int (2 : Int32))]) hown (hw _ (List.mem_of_getElem? (i := 48) rfl)) (hw _ (List.mem_of_getElem? (i := 49) rfl)) (hw _ (List.mem_of_getElem? (i := 13) rfl)) (hw _ (List.mem_of_getElem? (i := 50) rfl)) (by decide) (rm_turn l Z a0 hw (2 : Int32) p5 T52.heap n0 Z52 ) (rfl : T52.heap = T52.heap) pd_3 (hb hby at_111) (by rw [hml]; rfl) (argsL := [(.int (2 : Int32)), (.int p5)]) (rest := []) rfl rfl rfl (W := 0) (Nat.le_of_eq rfl) (by decide) (by decide) (by decide) (by decide)
        obtain ⟨rfl, M53, e53⟩ := q53
        have N53 := Fr.app N52 M53
        have r53 : (f_turn (2 : Int32) p5) = (2 : Int32) := by rw [f_turn, if_pos (q44.symm : (2 : Int32) = (p5 &&& (3 : Int32)))]
        rw [r53] at st53
        refine Go.mp st53 ?_
        show Go p e below (T53.setTop (mkF m 114 #[.val (.int p1), .val (.int p2), .val (.int p3), .val (.int p4), .val (.int p5), .val (.int p6), .val (.ref a1), .val (.int (2 : Int32)), .unset, .unset, .unset, .unset] [(.int (2 : Int32))])) _
        refine g_istore X53 hx #[.val (.int p1), .val (.int p2), .val (.int p3), .val (.int p4), .val (.int p5), .val (.int p6), .val (.ref a1), .val (.int (2 : Int32)), .unset, .unset, .unset, .unset] (hb hby at_114) rfl ?_
        show Go p e below (T53.setTop (mkF m 116 #[.val (.int p1), .val (.int p2), .val (.int p3), .val (.int p4), .val (.int p5), .val (.int p6), .val (.ref a1), .val (.int (2 : Int32)), .unset, .unset, .unset, .unset] [])) _
        exact seg_5 l Z a0 hw p1 p2 p3 p4 p5 p6 a1 (2 : Int32) (.ref w_ROTATION_180) dz w_ROTATION_0 w_APPLICATION w_ROTATION_270 w_ROTATION_180 w_ROTATION_90 T52.heap n0 Z52 S_ROTATION_0_52 E_w_ROTATION_0_52 S_APPLICATION_52 E_w_APPLICATION_52 S_ROTATION_270_52 E_w_ROTATION_270_52 S_ROTATION_180_52 E_w_ROTATION_180_52 S_ROTATION_90_52 E_w_ROTATION_90_52 ne_ROTATION_0_ROTATION_270 ne_ROTATION_0_ROTATION_90 ne_ROTATION_0_ROTATION_180 ne_ROTATION_270_ROTATION_90 ne_ROTATION_270_ROTATION_180 ne_ROTATION_90_ROTATION_180 E_a1_52 Fk52_1 Fk52_0 g_a1 (Or.inr (Or.inr (Or.inr (Or.inl ⟨rfl, rfl⟩)))) hx hby hml hown hnm hret hlk hZ X53 e53 N53 hS B52
      · obtain ⟨v54, T54, L54, X54, q54, st54⟩ := own_callS X0 hx hZ (y := (⟨"com/example/reorient/reorient/service/WindowPictureOfPinLaw", "rot", "(I)Lcom/example/reorient/reorient/model/Rotation;"⟩ : MethodName)) (pc := 101) (Ls := #[.val (.int p1), .val (.int p2), .val (.int p3), .val (.int p4), .val (.int p5), .val (.int p6), .val (.ref a1), .val (.int (2 : Int32)), .unset, .unset, .unset, .unset]) (st := [(.int p5), (.ref a1)]) hown (hw _ (List.mem_of_getElem? (i := 11) rfl)) (hw _ (List.mem_of_getElem? (i := 12) rfl)) (hw _ (List.mem_of_getElem? (i := 13) rfl)) (hw _ (List.mem_of_getElem? (i := 14) rfl)) (by decide) (rm_rot l Z a0 hw p5 w_ROTATION_0 w_ROTATION_90 w_ROTATION_180 w_ROTATION_270 h0 n0 Z0 S_ROTATION_0 S_ROTATION_90 S_ROTATION_180 S_ROTATION_270) e0 pd_1 (hb hby at_101) (by rw [hml]; rfl) (argsL := [(.int p5)]) (rest := [(.ref a1)]) rfl rfl rfl (W := 1) (Nat.le_of_eq rfl) (by decide) (by decide) (by decide) (by decide)
        obtain ⟨rfl, M54, e54⟩ := q54
        have N54 := Fr.app N0 M54
        have r54 : (f_rot p5 w_ROTATION_0 w_ROTATION_90 w_ROTATION_180 w_ROTATION_270) = w_ROTATION_270 := by rw [f_rot, if_neg ((by rw [q44]; decide) : ¬ ((p5 &&& (3 : Int32)) = (0 : Int32))), if_neg ((by rw [q44]; decide) : ¬ ((p5 &&& (3 : Int32)) = (1 : Int32))), if_neg ((by rw [q44]; decide) : ¬ ((p5 &&& (3 : Int32)) = (2 : Int32)))]
        rw [r54] at st54
        refine Go.mp st54 ?_
        show Go p e below (T54.setTop (mkF m 104 #[.val (.int p1), .val (.int p2), .val (.int p3), .val (.int p4), .val (.int p5), .val (.int p6), .val (.ref a1), .val (.int (2 : Int32)), .unset, .unset, .unset, .unset] [(.ref w_ROTATION_270), (.ref a1)])) _
        obtain ⟨v55, T55, L55, X55, q55, st55⟩ := own_callV X54 hx hZ (y := (⟨"com/example/reorient/reorient/service/Window", "turnTo", "(Lcom/example/reorient/reorient/model/Rotation;)V"⟩ : MethodName)) (pc := 104) (Ls := #[.val (.int p1), .val (.int p2), .val (.int p3), .val (.int p4), .val (.int p5), .val (.int p6), .val (.ref a1), .val (.int (2 : Int32)), .unset, .unset, .unset, .unset]) (st := [(.ref w_ROTATION_270), (.ref a1)]) hown (hw _ (List.mem_of_getElem? (i := 43) rfl)) (hw _ (List.mem_of_getElem? (i := 44) rfl)) (hw _ (List.mem_of_getElem? (i := 46) rfl)) (hw _ (List.mem_of_getElem? (i := 45) rfl)) (hw _ (List.mem_of_getElem? (i := 47) rfl)) (hw _ (List.mem_of_getElem? (i := 2) rfl)) (by decide) (rm_turnTo l Z a0 hw a1 w_ROTATION_270 (.ref w_ROTATION_180) dz h0 n0 Z0 rfl E_a1 F_a1_drawn F_a1_picture g_a1) e54 E_a1 pd_2 (hb hby at_104) (by rw [hml]; rfl) (argsL := [(.ref w_ROTATION_270)]) (rest := []) rfl rfl rfl (W := 0) (Nat.le_of_eq rfl) (by decide) (by decide) (by decide) (by decide)
        obtain ⟨rv55, M55, Kc55, Fk55_0, Fk55_1⟩ := q55
        have N55 := Fr.app N54 M55
        subst rv55
        have r55_1 : (f_turnTo_a1_picture a1 w_ROTATION_270 (.ref w_ROTATION_180) dz) = .null := by rw [f_turnTo_a1_picture, if_neg ((fun q => ne_ROTATION_270_ROTATION_180 (Value.ref.inj q).symm) : ¬ ((Value.ref w_ROTATION_180) = (Value.ref w_ROTATION_270)))]
        rw [r55_1] at Fk55_1
        have S_ROTATION_0_55 := own_sta_keep S_ROTATION_0 Kc55 (own_plain E_a1 (fun _ q => nomatch q))
        have E_w_ROTATION_0_55 := Exa.keep E_w_ROTATION_0 Kc55
        have S_APPLICATION_55 := own_sta_keep S_APPLICATION Kc55 (own_plain E_a1 (fun _ q => nomatch q))
        have E_w_APPLICATION_55 := Exa.keep E_w_APPLICATION Kc55
        have S_ROTATION_270_55 := own_sta_keep S_ROTATION_270 Kc55 (own_plain E_a1 (fun _ q => nomatch q))
        have E_w_ROTATION_270_55 := Exa.keep E_w_ROTATION_270 Kc55
        have S_ROTATION_180_55 := own_sta_keep S_ROTATION_180 Kc55 (own_plain E_a1 (fun _ q => nomatch q))
        have E_w_ROTATION_180_55 := Exa.keep E_w_ROTATION_180 Kc55
        have S_ROTATION_90_55 := own_sta_keep S_ROTATION_90 Kc55 (own_plain E_a1 (fun _ q => nomatch q))
        have E_w_ROTATION_90_55 := Exa.keep E_w_ROTATION_90 Kc55
        have E_a1_55 := Exa.keep E_a1 Kc55
        have Z55 : n0 ≤ T55.heap.size := Nat.le_trans Z0 Kc55.1
        have B55 : _ ≤ T55.heap.size := Nat.le_trans hB Kc55.1
        refine Go.mp st55 ?_
        show Go p e below (T55.setTop (mkF m 107 #[.val (.int p1), .val (.int p2), .val (.int p3), .val (.int p4), .val (.int p5), .val (.int p6), .val (.ref a1), .val (.int (2 : Int32)), .unset, .unset, .unset, .unset] [])) _
        refine g_iload X55 hx (hb hby at_107) rfl ?_
        refine g_iload X55 hx (hb hby at_109) rfl ?_
        obtain ⟨v56, T56, L56, X56, q56, st56⟩ := own_callS X55 hx hZ (y := (⟨"com/example/reorient/reorient/service/WindowPictureOfPinLaw", "turn", "(II)I"⟩ : MethodName)) (pc := 111) (Ls := #[.val (.int p1), .val (.int p2), .val (.int p3), .val (.int p4), .val (.int p5), .val (.int p6), .val (.ref a1), .val (.int (2 : Int32)), .unset, .unset, .unset, .unset]) (st := [(.int p5), (.int (2 : Int32))]) hown (hw _ (List.mem_of_getElem? (i := 48) rfl)) (hw _ (List.mem_of_getElem? (i := 49) rfl)) (hw _ (List.mem_of_getElem? (i := 13) rfl)) (hw _ (List.mem_of_getElem? (i := 50) rfl)) (by decide) (rm_turn l Z a0 hw (2 : Int32) p5 T55.heap n0 Z55 ) (rfl : T55.heap = T55.heap) pd_3 (hb hby at_111) (by rw [hml]; rfl) (argsL := [(.int (2 : Int32)), (.int p5)]) (rest := []) rfl rfl rfl (W := 0) (Nat.le_of_eq rfl) (by decide) (by decide) (by decide) (by decide)
        obtain ⟨rfl, M56, e56⟩ := q56
        have N56 := Fr.app N55 M56
        have r56 : (f_turn (2 : Int32) p5) = (-1 : Int32) := by rw [f_turn, if_neg ((by rw [q44]; decide) : ¬ ((2 : Int32) = (p5 &&& (3 : Int32))))]
        rw [r56] at st56
        refine Go.mp st56 ?_
        show Go p e below (T56.setTop (mkF m 114 #[.val (.int p1), .val (.int p2), .val (.int p3), .val (.int p4), .val (.int p5), .val (.int p6), .val (.ref a1), .val (.int (2 : Int32)), .unset, .unset, .unset, .unset] [(.int (-1 : Int32))])) _
        refine g_istore X56 hx #[.val (.int p1), .val (.int p2), .val (.int p3), .val (.int p4), .val (.int p5), .val (.int p6), .val (.ref a1), .val (.int (-1 : Int32)), .unset, .unset, .unset, .unset] (hb hby at_114) rfl ?_
        show Go p e below (T56.setTop (mkF m 116 #[.val (.int p1), .val (.int p2), .val (.int p3), .val (.int p4), .val (.int p5), .val (.int p6), .val (.ref a1), .val (.int (-1 : Int32)), .unset, .unset, .unset, .unset] [])) _
        exact seg_5 l Z a0 hw p1 p2 p3 p4 p5 p6 a1 (-1 : Int32) .null dz w_ROTATION_0 w_APPLICATION w_ROTATION_270 w_ROTATION_180 w_ROTATION_90 T55.heap n0 Z55 S_ROTATION_0_55 E_w_ROTATION_0_55 S_APPLICATION_55 E_w_APPLICATION_55 S_ROTATION_270_55 E_w_ROTATION_270_55 S_ROTATION_180_55 E_w_ROTATION_180_55 S_ROTATION_90_55 E_w_ROTATION_90_55 ne_ROTATION_0_ROTATION_270 ne_ROTATION_0_ROTATION_90 ne_ROTATION_0_ROTATION_180 ne_ROTATION_270_ROTATION_90 ne_ROTATION_270_ROTATION_180 ne_ROTATION_90_ROTATION_180 E_a1_55 Fk55_1 Fk55_0 g_a1 (Or.inl ⟨rfl, rfl⟩) hx hby hml hown hnm hret hlk hZ X56 e56 N56 hS B55
  · refine g_iload X0 hx (hb hby at_89) rfl ?_
    refine g_bipush X0 hx (8 : Int32) (hb hby at_91) (by decide) ?_
    refine g_iand X0 hx (hb hby at_93) ?_
    by_cases c94_57 : (p6 &&& (8 : Int32)) = (0 : Int32)
    · refine g_ifYes X0 hx 116 (hb hby at_94) ((if0 _ _).trans (teq c94_57).1) (by decide) (by decide) ?_
      show Go p e below (s₁.setTop (mkF m 116 #[.val (.int p1), .val (.int p2), .val (.int p3), .val (.int p4), .val (.int p5), .val (.int p6), .val (.ref a1), .val (.int (3 : Int32)), .unset, .unset, .unset, .unset] [])) _
      exact seg_5 l Z a0 hw p1 p2 p3 p4 p5 p6 a1 (3 : Int32) (.ref w_ROTATION_270) dz w_ROTATION_0 w_APPLICATION w_ROTATION_270 w_ROTATION_180 w_ROTATION_90 h0 n0 Z0 S_ROTATION_0 E_w_ROTATION_0 S_APPLICATION E_w_APPLICATION S_ROTATION_270 E_w_ROTATION_270 S_ROTATION_180 E_w_ROTATION_180 S_ROTATION_90 E_w_ROTATION_90 ne_ROTATION_0_ROTATION_270 ne_ROTATION_0_ROTATION_90 ne_ROTATION_0_ROTATION_180 ne_ROTATION_270_ROTATION_90 ne_ROTATION_270_ROTATION_180 ne_ROTATION_90_ROTATION_180 E_a1 F_a1_picture F_a1_drawn g_a1 (Or.inr (Or.inr (Or.inr (Or.inr (⟨rfl, rfl⟩))))) hx hby hml hown hnm hret hlk hZ X0 e0 N0 hS hB
    · refine g_ifNo X0 hx (hb hby at_94) ((if0 _ _).trans (feq c94_57).1) ?_
      refine g_aload X0 hx (hb hby at_97) rfl rfl ?_
      refine g_iload X0 hx (hb hby at_99) rfl ?_
      show Go p e below (s₁.setTop (mkF m 101 #[.val (.int p1), .val (.int p2), .val (.int p3), .val (.int p4), .val (.int p5), .val (.int p6), .val (.ref a1), .val (.int (3 : Int32)), .unset, .unset, .unset, .unset] [(.int p5), (.ref a1)])) _
      rcases own_and3 p5 with q58 | q58 | q58 | q58
      · obtain ⟨v59, T59, L59, X59, q59, st59⟩ := own_callS X0 hx hZ (y := (⟨"com/example/reorient/reorient/service/WindowPictureOfPinLaw", "rot", "(I)Lcom/example/reorient/reorient/model/Rotation;"⟩ : MethodName)) (pc := 101) (Ls := #[.val (.int p1), .val (.int p2), .val (.int p3), .val (.int p4), .val (.int p5), .val (.int p6), .val (.ref a1), .val (.int (3 : Int32)), .unset, .unset, .unset, .unset]) (st := [(.int p5), (.ref a1)]) hown (hw _ (List.mem_of_getElem? (i := 11) rfl)) (hw _ (List.mem_of_getElem? (i := 12) rfl)) (hw _ (List.mem_of_getElem? (i := 13) rfl)) (hw _ (List.mem_of_getElem? (i := 14) rfl)) (by decide) (rm_rot l Z a0 hw p5 w_ROTATION_0 w_ROTATION_90 w_ROTATION_180 w_ROTATION_270 h0 n0 Z0 S_ROTATION_0 S_ROTATION_90 S_ROTATION_180 S_ROTATION_270) e0 pd_1 (hb hby at_101) (by rw [hml]; rfl) (argsL := [(.int p5)]) (rest := [(.ref a1)]) rfl rfl rfl (W := 1) (Nat.le_of_eq rfl) (by decide) (by decide) (by decide) (by decide)
        obtain ⟨rfl, M59, e59⟩ := q59
        have N59 := Fr.app N0 M59
        have r59 : (f_rot p5 w_ROTATION_0 w_ROTATION_90 w_ROTATION_180 w_ROTATION_270) = w_ROTATION_0 := by rw [f_rot, if_pos (q58 : (p5 &&& (3 : Int32)) = (0 : Int32))]
        rw [r59] at st59
        refine Go.mp st59 ?_
        show Go p e below (T59.setTop (mkF m 104 #[.val (.int p1), .val (.int p2), .val (.int p3), .val (.int p4), .val (.int p5), .val (.int p6), .val (.ref a1), .val (.int (3 : Int32)), .unset, .unset, .unset, .unset] [(.ref w_ROTATION_0), (.ref a1)])) _
        obtain ⟨v60, T60, L60, X60, q60, st60⟩ := own_callV X59 hx hZ (y := (⟨"com/example/reorient/reorient/service/Window", "turnTo", "(Lcom/example/reorient/reorient/model/Rotation;)V"⟩ : MethodName)) (pc := 104) (Ls := #[.val (.int p1), .val (.int p2), .val (.int p3), .val (.int p4), .val (.int p5), .val (.int p6), .val (.ref a1), .val (.int (3 : Int32)), .unset, .unset, .unset, .unset]) (st := [(.ref w_ROTATION_0), (.ref a1)]) hown (hw _ (List.mem_of_getElem? (i := 43) rfl)) (hw _ (List.mem_of_getElem? (i := 44) rfl)) (hw _ (List.mem_of_getElem? (i := 46) rfl)) (hw _ (List.mem_of_getElem? (i := 45) rfl)) (hw _ (List.mem_of_getElem? (i := 47) rfl)) (hw _ (List.mem_of_getElem? (i := 2) rfl)) (by decide) (rm_turnTo l Z a0 hw a1 w_ROTATION_0 (.ref w_ROTATION_270) dz h0 n0 Z0 rfl E_a1 F_a1_drawn F_a1_picture g_a1) e59 E_a1 pd_2 (hb hby at_104) (by rw [hml]; rfl) (argsL := [(.ref w_ROTATION_0)]) (rest := []) rfl rfl rfl (W := 0) (Nat.le_of_eq rfl) (by decide) (by decide) (by decide) (by decide)
        obtain ⟨rv60, M60, Kc60, Fk60_0, Fk60_1⟩ := q60
        have N60 := Fr.app N59 M60
        subst rv60
        have r60_1 : (f_turnTo_a1_picture a1 w_ROTATION_0 (.ref w_ROTATION_270) dz) = .null := by rw [f_turnTo_a1_picture, if_neg ((fun q => ne_ROTATION_0_ROTATION_270 (Value.ref.inj q).symm) : ¬ ((Value.ref w_ROTATION_270) = (Value.ref w_ROTATION_0)))]
        rw [r60_1] at Fk60_1
        have S_ROTATION_0_60 := own_sta_keep S_ROTATION_0 Kc60 (own_plain E_a1 (fun _ q => nomatch q))
        have E_w_ROTATION_0_60 := Exa.keep E_w_ROTATION_0 Kc60
        have S_APPLICATION_60 := own_sta_keep S_APPLICATION Kc60 (own_plain E_a1 (fun _ q => nomatch q))
        have E_w_APPLICATION_60 := Exa.keep E_w_APPLICATION Kc60
        have S_ROTATION_270_60 := own_sta_keep S_ROTATION_270 Kc60 (own_plain E_a1 (fun _ q => nomatch q))
        have E_w_ROTATION_270_60 := Exa.keep E_w_ROTATION_270 Kc60
        have S_ROTATION_180_60 := own_sta_keep S_ROTATION_180 Kc60 (own_plain E_a1 (fun _ q => nomatch q))
        have E_w_ROTATION_180_60 := Exa.keep E_w_ROTATION_180 Kc60
        have S_ROTATION_90_60 := own_sta_keep S_ROTATION_90 Kc60 (own_plain E_a1 (fun _ q => nomatch q))
        have E_w_ROTATION_90_60 := Exa.keep E_w_ROTATION_90 Kc60
        have E_a1_60 := Exa.keep E_a1 Kc60
        have Z60 : n0 ≤ T60.heap.size := Nat.le_trans Z0 Kc60.1
        have B60 : _ ≤ T60.heap.size := Nat.le_trans hB Kc60.1
        refine Go.mp st60 ?_
        show Go p e below (T60.setTop (mkF m 107 #[.val (.int p1), .val (.int p2), .val (.int p3), .val (.int p4), .val (.int p5), .val (.int p6), .val (.ref a1), .val (.int (3 : Int32)), .unset, .unset, .unset, .unset] [])) _
        refine g_iload X60 hx (hb hby at_107) rfl ?_
        refine g_iload X60 hx (hb hby at_109) rfl ?_
        obtain ⟨v61, T61, L61, X61, q61, st61⟩ := own_callS X60 hx hZ (y := (⟨"com/example/reorient/reorient/service/WindowPictureOfPinLaw", "turn", "(II)I"⟩ : MethodName)) (pc := 111) (Ls := #[.val (.int p1), .val (.int p2), .val (.int p3), .val (.int p4), .val (.int p5), .val (.int p6), .val (.ref a1), .val (.int (3 : Int32)), .unset, .unset, .unset, .unset]) (st := [(.int p5), (.int (3 : Int32))]) hown (hw _ (List.mem_of_getElem? (i := 48) rfl)) (hw _ (List.mem_of_getElem? (i := 49) rfl)) (hw _ (List.mem_of_getElem? (i := 13) rfl)) (hw _ (List.mem_of_getElem? (i := 50) rfl)) (by decide) (rm_turn l Z a0 hw (3 : Int32) p5 T60.heap n0 Z60 ) (rfl : T60.heap = T60.heap) pd_3 (hb hby at_111) (by rw [hml]; rfl) (argsL := [(.int (3 : Int32)), (.int p5)]) (rest := []) rfl rfl rfl (W := 0) (Nat.le_of_eq rfl) (by decide) (by decide) (by decide) (by decide)
        obtain ⟨rfl, M61, e61⟩ := q61
        have N61 := Fr.app N60 M61
        have r61 : (f_turn (3 : Int32) p5) = (-1 : Int32) := by rw [f_turn, if_neg ((by rw [q58]; decide) : ¬ ((3 : Int32) = (p5 &&& (3 : Int32))))]
        rw [r61] at st61
        refine Go.mp st61 ?_
        show Go p e below (T61.setTop (mkF m 114 #[.val (.int p1), .val (.int p2), .val (.int p3), .val (.int p4), .val (.int p5), .val (.int p6), .val (.ref a1), .val (.int (3 : Int32)), .unset, .unset, .unset, .unset] [(.int (-1 : Int32))])) _
        refine g_istore X61 hx #[.val (.int p1), .val (.int p2), .val (.int p3), .val (.int p4), .val (.int p5), .val (.int p6), .val (.ref a1), .val (.int (-1 : Int32)), .unset, .unset, .unset, .unset] (hb hby at_114) rfl ?_
        show Go p e below (T61.setTop (mkF m 116 #[.val (.int p1), .val (.int p2), .val (.int p3), .val (.int p4), .val (.int p5), .val (.int p6), .val (.ref a1), .val (.int (-1 : Int32)), .unset, .unset, .unset, .unset] [])) _
        exact seg_5 l Z a0 hw p1 p2 p3 p4 p5 p6 a1 (-1 : Int32) .null dz w_ROTATION_0 w_APPLICATION w_ROTATION_270 w_ROTATION_180 w_ROTATION_90 T60.heap n0 Z60 S_ROTATION_0_60 E_w_ROTATION_0_60 S_APPLICATION_60 E_w_APPLICATION_60 S_ROTATION_270_60 E_w_ROTATION_270_60 S_ROTATION_180_60 E_w_ROTATION_180_60 S_ROTATION_90_60 E_w_ROTATION_90_60 ne_ROTATION_0_ROTATION_270 ne_ROTATION_0_ROTATION_90 ne_ROTATION_0_ROTATION_180 ne_ROTATION_270_ROTATION_90 ne_ROTATION_270_ROTATION_180 ne_ROTATION_90_ROTATION_180 E_a1_60 Fk60_1 Fk60_0 g_a1 (Or.inl ⟨rfl, rfl⟩) hx hby hml hown hnm hret hlk hZ X61 e61 N61 hS B60
      · obtain ⟨v62, T62, L62, X62, q62, st62⟩ := own_callS X0 hx hZ (y := (⟨"com/example/reorient/reorient/service/WindowPictureOfPinLaw", "rot", "(I)Lcom/example/reorient/reorient/model/Rotation;"⟩ : MethodName)) (pc := 101) (Ls := #[.val (.int p1), .val (.int p2), .val (.int p3), .val (.int p4), .val (.int p5), .val (.int p6), .val (.ref a1), .val (.int (3 : Int32)), .unset, .unset, .unset, .unset]) (st := [(.int p5), (.ref a1)]) hown (hw _ (List.mem_of_getElem? (i := 11) rfl)) (hw _ (List.mem_of_getElem? (i := 12) rfl)) (hw _ (List.mem_of_getElem? (i := 13) rfl)) (hw _ (List.mem_of_getElem? (i := 14) rfl)) (by decide) (rm_rot l Z a0 hw p5 w_ROTATION_0 w_ROTATION_90 w_ROTATION_180 w_ROTATION_270 h0 n0 Z0 S_ROTATION_0 S_ROTATION_90 S_ROTATION_180 S_ROTATION_270) e0 pd_1 (hb hby at_101) (by rw [hml]; rfl) (argsL := [(.int p5)]) (rest := [(.ref a1)]) rfl rfl rfl (W := 1) (Nat.le_of_eq rfl) (by decide) (by decide) (by decide) (by decide)
        obtain ⟨rfl, M62, e62⟩ := q62
        have N62 := Fr.app N0 M62
        have r62 : (f_rot p5 w_ROTATION_0 w_ROTATION_90 w_ROTATION_180 w_ROTATION_270) = w_ROTATION_90 := by rw [f_rot, if_neg ((by rw [q58]; decide) : ¬ ((p5 &&& (3 : Int32)) = (0 : Int32))), if_pos (q58 : (p5 &&& (3 : Int32)) = (1 : Int32))]
        rw [r62] at st62
        refine Go.mp st62 ?_
        show Go p e below (T62.setTop (mkF m 104 #[.val (.int p1), .val (.int p2), .val (.int p3), .val (.int p4), .val (.int p5), .val (.int p6), .val (.ref a1), .val (.int (3 : Int32)), .unset, .unset, .unset, .unset] [(.ref w_ROTATION_90), (.ref a1)])) _
        obtain ⟨v63, T63, L63, X63, q63, st63⟩ := own_callV X62 hx hZ (y := (⟨"com/example/reorient/reorient/service/Window", "turnTo", "(Lcom/example/reorient/reorient/model/Rotation;)V"⟩ : MethodName)) (pc := 104) (Ls := #[.val (.int p1), .val (.int p2), .val (.int p3), .val (.int p4), .val (.int p5), .val (.int p6), .val (.ref a1), .val (.int (3 : Int32)), .unset, .unset, .unset, .unset]) (st := [(.ref w_ROTATION_90), (.ref a1)]) hown (hw _ (List.mem_of_getElem? (i := 43) rfl)) (hw _ (List.mem_of_getElem? (i := 44) rfl)) (hw _ (List.mem_of_getElem? (i := 46) rfl)) (hw _ (List.mem_of_getElem? (i := 45) rfl)) (hw _ (List.mem_of_getElem? (i := 47) rfl)) (hw _ (List.mem_of_getElem? (i := 2) rfl)) (by decide) (rm_turnTo l Z a0 hw a1 w_ROTATION_90 (.ref w_ROTATION_270) dz h0 n0 Z0 rfl E_a1 F_a1_drawn F_a1_picture g_a1) e62 E_a1 pd_2 (hb hby at_104) (by rw [hml]; rfl) (argsL := [(.ref w_ROTATION_90)]) (rest := []) rfl rfl rfl (W := 0) (Nat.le_of_eq rfl) (by decide) (by decide) (by decide) (by decide)
        obtain ⟨rv63, M63, Kc63, Fk63_0, Fk63_1⟩ := q63
        have N63 := Fr.app N62 M63
        subst rv63
        have r63_1 : (f_turnTo_a1_picture a1 w_ROTATION_90 (.ref w_ROTATION_270) dz) = .null := by rw [f_turnTo_a1_picture, if_neg ((fun q => ne_ROTATION_270_ROTATION_90 (Value.ref.inj q)) : ¬ ((Value.ref w_ROTATION_270) = (Value.ref w_ROTATION_90)))]
        rw [r63_1] at Fk63_1
        have S_ROTATION_0_63 := own_sta_keep S_ROTATION_0 Kc63 (own_plain E_a1 (fun _ q => nomatch q))
        have E_w_ROTATION_0_63 := Exa.keep E_w_ROTATION_0 Kc63
        have S_APPLICATION_63 := own_sta_keep S_APPLICATION Kc63 (own_plain E_a1 (fun _ q => nomatch q))
        have E_w_APPLICATION_63 := Exa.keep E_w_APPLICATION Kc63
        have S_ROTATION_270_63 := own_sta_keep S_ROTATION_270 Kc63 (own_plain E_a1 (fun _ q => nomatch q))
        have E_w_ROTATION_270_63 := Exa.keep E_w_ROTATION_270 Kc63
        have S_ROTATION_180_63 := own_sta_keep S_ROTATION_180 Kc63 (own_plain E_a1 (fun _ q => nomatch q))
        have E_w_ROTATION_180_63 := Exa.keep E_w_ROTATION_180 Kc63
        have S_ROTATION_90_63 := own_sta_keep S_ROTATION_90 Kc63 (own_plain E_a1 (fun _ q => nomatch q))
        have E_w_ROTATION_90_63 := Exa.keep E_w_ROTATION_90 Kc63
        have E_a1_63 := Exa.keep E_a1 Kc63
        have Z63 : n0 ≤ T63.heap.size := Nat.le_trans Z0 Kc63.1
        have B63 : _ ≤ T63.heap.size := Nat.le_trans hB Kc63.1
        refine Go.mp st63 ?_
        show Go p e below (T63.setTop (mkF m 107 #[.val (.int p1), .val (.int p2), .val (.int p3), .val (.int p4), .val (.int p5), .val (.int p6), .val (.ref a1), .val (.int (3 : Int32)), .unset, .unset, .unset, .unset] [])) _
        refine g_iload X63 hx (hb hby at_107) rfl ?_
        refine g_iload X63 hx (hb hby at_109) rfl ?_
        obtain ⟨v64, T64, L64, X64, q64, st64⟩ := own_callS X63 hx hZ (y := (⟨"com/example/reorient/reorient/service/WindowPictureOfPinLaw", "turn", "(II)I"⟩ : MethodName)) (pc := 111) (Ls := #[.val (.int p1), .val (.int p2), .val (.int p3), .val (.int p4), .val (.int p5), .val (.int p6), .val (.ref a1), .val (.int (3 : Int32)), .unset, .unset, .unset, .unset]) (st := [(.int p5), (.int (3 : Int32))]) hown (hw _ (List.mem_of_getElem? (i := 48) rfl)) (hw _ (List.mem_of_getElem? (i := 49) rfl)) (hw _ (List.mem_of_getElem? (i := 13) rfl)) (hw _ (List.mem_of_getElem? (i := 50) rfl)) (by decide) (rm_turn l Z a0 hw (3 : Int32) p5 T63.heap n0 Z63 ) (rfl : T63.heap = T63.heap) pd_3 (hb hby at_111) (by rw [hml]; rfl) (argsL := [(.int (3 : Int32)), (.int p5)]) (rest := []) rfl rfl rfl (W := 0) (Nat.le_of_eq rfl) (by decide) (by decide) (by decide) (by decide)
        obtain ⟨rfl, M64, e64⟩ := q64
        have N64 := Fr.app N63 M64
        have r64 : (f_turn (3 : Int32) p5) = (-1 : Int32) := by rw [f_turn, if_neg ((by rw [q58]; decide) : ¬ ((3 : Int32) = (p5 &&& (3 : Int32))))]
        rw [r64] at st64
        refine Go.mp st64 ?_
        show Go p e below (T64.setTop (mkF m 114 #[.val (.int p1), .val (.int p2), .val (.int p3), .val (.int p4), .val (.int p5), .val (.int p6), .val (.ref a1), .val (.int (3 : Int32)), .unset, .unset, .unset, .unset] [(.int (-1 : Int32))])) _
        refine g_istore X64 hx #[.val (.int p1), .val (.int p2), .val (.int p3), .val (.int p4), .val (.int p5), .val (.int p6), .val (.ref a1), .val (.int (-1 : Int32)), .unset, .unset, .unset, .unset] (hb hby at_114) rfl ?_
        show Go p e below (T64.setTop (mkF m 116 #[.val (.int p1), .val (.int p2), .val (.int p3), .val (.int p4), .val (.int p5), .val (.int p6), .val (.ref a1), .val (.int (-1 : Int32)), .unset, .unset, .unset, .unset] [])) _
        exact seg_5 l Z a0 hw p1 p2 p3 p4 p5 p6 a1 (-1 : Int32) .null dz w_ROTATION_0 w_APPLICATION w_ROTATION_270 w_ROTATION_180 w_ROTATION_90 T63.heap n0 Z63 S_ROTATION_0_63 E_w_ROTATION_0_63 S_APPLICATION_63 E_w_APPLICATION_63 S_ROTATION_270_63 E_w_ROTATION_270_63 S_ROTATION_180_63 E_w_ROTATION_180_63 S_ROTATION_90_63 E_w_ROTATION_90_63 ne_ROTATION_0_ROTATION_270 ne_ROTATION_0_ROTATION_90 ne_ROTATION_0_ROTATION_180 ne_ROTATION_270_ROTATION_90 ne_ROTATION_270_ROTATION_180 ne_ROTATION_90_ROTATION_180 E_a1_63 Fk63_1 Fk63_0 g_a1 (Or.inl ⟨rfl, rfl⟩) hx hby hml hown hnm hret hlk hZ X64 e64 N64 hS B63
      · obtain ⟨v65, T65, L65, X65, q65, st65⟩ := own_callS X0 hx hZ (y := (⟨"com/example/reorient/reorient/service/WindowPictureOfPinLaw", "rot", "(I)Lcom/example/reorient/reorient/model/Rotation;"⟩ : MethodName)) (pc := 101) (Ls := #[.val (.int p1), .val (.int p2), .val (.int p3), .val (.int p4), .val (.int p5), .val (.int p6), .val (.ref a1), .val (.int (3 : Int32)), .unset, .unset, .unset, .unset]) (st := [(.int p5), (.ref a1)]) hown (hw _ (List.mem_of_getElem? (i := 11) rfl)) (hw _ (List.mem_of_getElem? (i := 12) rfl)) (hw _ (List.mem_of_getElem? (i := 13) rfl)) (hw _ (List.mem_of_getElem? (i := 14) rfl)) (by decide) (rm_rot l Z a0 hw p5 w_ROTATION_0 w_ROTATION_90 w_ROTATION_180 w_ROTATION_270 h0 n0 Z0 S_ROTATION_0 S_ROTATION_90 S_ROTATION_180 S_ROTATION_270) e0 pd_1 (hb hby at_101) (by rw [hml]; rfl) (argsL := [(.int p5)]) (rest := [(.ref a1)]) rfl rfl rfl (W := 1) (Nat.le_of_eq rfl) (by decide) (by decide) (by decide) (by decide)
        obtain ⟨rfl, M65, e65⟩ := q65
        have N65 := Fr.app N0 M65
        have r65 : (f_rot p5 w_ROTATION_0 w_ROTATION_90 w_ROTATION_180 w_ROTATION_270) = w_ROTATION_180 := by rw [f_rot, if_neg ((by rw [q58]; decide) : ¬ ((p5 &&& (3 : Int32)) = (0 : Int32))), if_neg ((by rw [q58]; decide) : ¬ ((p5 &&& (3 : Int32)) = (1 : Int32))), if_pos (q58 : (p5 &&& (3 : Int32)) = (2 : Int32))]
        rw [r65] at st65
        refine Go.mp st65 ?_
        show Go p e below (T65.setTop (mkF m 104 #[.val (.int p1), .val (.int p2), .val (.int p3), .val (.int p4), .val (.int p5), .val (.int p6), .val (.ref a1), .val (.int (3 : Int32)), .unset, .unset, .unset, .unset] [(.ref w_ROTATION_180), (.ref a1)])) _
        obtain ⟨v66, T66, L66, X66, q66, st66⟩ := own_callV X65 hx hZ (y := (⟨"com/example/reorient/reorient/service/Window", "turnTo", "(Lcom/example/reorient/reorient/model/Rotation;)V"⟩ : MethodName)) (pc := 104) (Ls := #[.val (.int p1), .val (.int p2), .val (.int p3), .val (.int p4), .val (.int p5), .val (.int p6), .val (.ref a1), .val (.int (3 : Int32)), .unset, .unset, .unset, .unset]) (st := [(.ref w_ROTATION_180), (.ref a1)]) hown (hw _ (List.mem_of_getElem? (i := 43) rfl)) (hw _ (List.mem_of_getElem? (i := 44) rfl)) (hw _ (List.mem_of_getElem? (i := 46) rfl)) (hw _ (List.mem_of_getElem? (i := 45) rfl)) (hw _ (List.mem_of_getElem? (i := 47) rfl)) (hw _ (List.mem_of_getElem? (i := 2) rfl)) (by decide) (rm_turnTo l Z a0 hw a1 w_ROTATION_180 (.ref w_ROTATION_270) dz h0 n0 Z0 rfl E_a1 F_a1_drawn F_a1_picture g_a1) e65 E_a1 pd_2 (hb hby at_104) (by rw [hml]; rfl) (argsL := [(.ref w_ROTATION_180)]) (rest := []) rfl rfl rfl (W := 0) (Nat.le_of_eq rfl) (by decide) (by decide) (by decide) (by decide)
        obtain ⟨rv66, M66, Kc66, Fk66_0, Fk66_1⟩ := q66
        have N66 := Fr.app N65 M66
        subst rv66
        have r66_1 : (f_turnTo_a1_picture a1 w_ROTATION_180 (.ref w_ROTATION_270) dz) = .null := by rw [f_turnTo_a1_picture, if_neg ((fun q => ne_ROTATION_270_ROTATION_180 (Value.ref.inj q)) : ¬ ((Value.ref w_ROTATION_270) = (Value.ref w_ROTATION_180)))]
        rw [r66_1] at Fk66_1
        have S_ROTATION_0_66 := own_sta_keep S_ROTATION_0 Kc66 (own_plain E_a1 (fun _ q => nomatch q))
        have E_w_ROTATION_0_66 := Exa.keep E_w_ROTATION_0 Kc66
        have S_APPLICATION_66 := own_sta_keep S_APPLICATION Kc66 (own_plain E_a1 (fun _ q => nomatch q))
        have E_w_APPLICATION_66 := Exa.keep E_w_APPLICATION Kc66
        have S_ROTATION_270_66 := own_sta_keep S_ROTATION_270 Kc66 (own_plain E_a1 (fun _ q => nomatch q))
        have E_w_ROTATION_270_66 := Exa.keep E_w_ROTATION_270 Kc66
        have S_ROTATION_180_66 := own_sta_keep S_ROTATION_180 Kc66 (own_plain E_a1 (fun _ q => nomatch q))
        have E_w_ROTATION_180_66 := Exa.keep E_w_ROTATION_180 Kc66
        have S_ROTATION_90_66 := own_sta_keep S_ROTATION_90 Kc66 (own_plain E_a1 (fun _ q => nomatch q))
        have E_w_ROTATION_90_66 := Exa.keep E_w_ROTATION_90 Kc66
        have E_a1_66 := Exa.keep E_a1 Kc66
        have Z66 : n0 ≤ T66.heap.size := Nat.le_trans Z0 Kc66.1
        have B66 : _ ≤ T66.heap.size := Nat.le_trans hB Kc66.1
        refine Go.mp st66 ?_
        show Go p e below (T66.setTop (mkF m 107 #[.val (.int p1), .val (.int p2), .val (.int p3), .val (.int p4), .val (.int p5), .val (.int p6), .val (.ref a1), .val (.int (3 : Int32)), .unset, .unset, .unset, .unset] [])) _
        refine g_iload X66 hx (hb hby at_107) rfl ?_
        refine g_iload X66 hx (hb hby at_109) rfl ?_
        obtain ⟨v67, T67, L67, X67, q67, st67⟩ := own_callS X66 hx hZ (y := (⟨"com/example/reorient/reorient/service/WindowPictureOfPinLaw", "turn", "(II)I"⟩ : MethodName)) (pc := 111) (Ls := #[.val (.int p1), .val (.int p2), .val (.int p3), .val (.int p4), .val (.int p5), .val (.int p6), .val (.ref a1), .val (.int (3 : Int32)), .unset, .unset, .unset, .unset]) (st := [(.int p5), (.int (3 : Int32))]) hown (hw _ (List.mem_of_getElem? (i := 48) rfl)) (hw _ (List.mem_of_getElem? (i := 49) rfl)) (hw _ (List.mem_of_getElem? (i := 13) rfl)) (hw _ (List.mem_of_getElem? (i := 50) rfl)) (by decide) (rm_turn l Z a0 hw (3 : Int32) p5 T66.heap n0 Z66 ) (rfl : T66.heap = T66.heap) pd_3 (hb hby at_111) (by rw [hml]; rfl) (argsL := [(.int (3 : Int32)), (.int p5)]) (rest := []) rfl rfl rfl (W := 0) (Nat.le_of_eq rfl) (by decide) (by decide) (by decide) (by decide)
        obtain ⟨rfl, M67, e67⟩ := q67
        have N67 := Fr.app N66 M67
        have r67 : (f_turn (3 : Int32) p5) = (-1 : Int32) := by rw [f_turn, if_neg ((by rw [q58]; decide) : ¬ ((3 : Int32) = (p5 &&& (3 : Int32))))]
        rw [r67] at st67
        refine Go.mp st67 ?_
        show Go p e below (T67.setTop (mkF m 114 #[.val (.int p1), .val (.int p2), .val (.int p3), .val (.int p4), .val (.int p5), .val (.int p6), .val (.ref a1), .val (.int (3 : Int32)), .unset, .unset, .unset, .unset] [(.int (-1 : Int32))])) _
        refine g_istore X67 hx #[.val (.int p1), .val (.int p2), .val (.int p3), .val (.int p4), .val (.int p5), .val (.int p6), .val (.ref a1), .val (.int (-1 : Int32)), .unset, .unset, .unset, .unset] (hb hby at_114) rfl ?_
        show Go p e below (T67.setTop (mkF m 116 #[.val (.int p1), .val (.int p2), .val (.int p3), .val (.int p4), .val (.int p5), .val (.int p6), .val (.ref a1), .val (.int (-1 : Int32)), .unset, .unset, .unset, .unset] [])) _
        exact seg_5 l Z a0 hw p1 p2 p3 p4 p5 p6 a1 (-1 : Int32) .null dz w_ROTATION_0 w_APPLICATION w_ROTATION_270 w_ROTATION_180 w_ROTATION_90 T66.heap n0 Z66 S_ROTATION_0_66 E_w_ROTATION_0_66 S_APPLICATION_66 E_w_APPLICATION_66 S_ROTATION_270_66 E_w_ROTATION_270_66 S_ROTATION_180_66 E_w_ROTATION_180_66 S_ROTATION_90_66 E_w_ROTATION_90_66 ne_ROTATION_0_ROTATION_270 ne_ROTATION_0_ROTATION_90 ne_ROTATION_0_ROTATION_180 ne_ROTATION_270_ROTATION_90 ne_ROTATION_270_ROTATION_180 ne_ROTATION_90_ROTATION_180 E_a1_66 Fk66_1 Fk66_0 g_a1 (Or.inl ⟨rfl, rfl⟩) hx hby hml hown hnm hret hlk hZ X67 e67 N67 hS B66
      · obtain ⟨v68, T68, L68, X68, q68, st68⟩ := own_callS X0 hx hZ (y := (⟨"com/example/reorient/reorient/service/WindowPictureOfPinLaw", "rot", "(I)Lcom/example/reorient/reorient/model/Rotation;"⟩ : MethodName)) (pc := 101) (Ls := #[.val (.int p1), .val (.int p2), .val (.int p3), .val (.int p4), .val (.int p5), .val (.int p6), .val (.ref a1), .val (.int (3 : Int32)), .unset, .unset, .unset, .unset]) (st := [(.int p5), (.ref a1)]) hown (hw _ (List.mem_of_getElem? (i := 11) rfl)) (hw _ (List.mem_of_getElem? (i := 12) rfl)) (hw _ (List.mem_of_getElem? (i := 13) rfl)) (hw _ (List.mem_of_getElem? (i := 14) rfl)) (by decide) (rm_rot l Z a0 hw p5 w_ROTATION_0 w_ROTATION_90 w_ROTATION_180 w_ROTATION_270 h0 n0 Z0 S_ROTATION_0 S_ROTATION_90 S_ROTATION_180 S_ROTATION_270) e0 pd_1 (hb hby at_101) (by rw [hml]; rfl) (argsL := [(.int p5)]) (rest := [(.ref a1)]) rfl rfl rfl (W := 1) (Nat.le_of_eq rfl) (by decide) (by decide) (by decide) (by decide)
        obtain ⟨rfl, M68, e68⟩ := q68
        have N68 := Fr.app N0 M68
        have r68 : (f_rot p5 w_ROTATION_0 w_ROTATION_90 w_ROTATION_180 w_ROTATION_270) = w_ROTATION_270 := by rw [f_rot, if_neg ((by rw [q58]; decide) : ¬ ((p5 &&& (3 : Int32)) = (0 : Int32))), if_neg ((by rw [q58]; decide) : ¬ ((p5 &&& (3 : Int32)) = (1 : Int32))), if_neg ((by rw [q58]; decide) : ¬ ((p5 &&& (3 : Int32)) = (2 : Int32)))]
        rw [r68] at st68
        refine Go.mp st68 ?_
        show Go p e below (T68.setTop (mkF m 104 #[.val (.int p1), .val (.int p2), .val (.int p3), .val (.int p4), .val (.int p5), .val (.int p6), .val (.ref a1), .val (.int (3 : Int32)), .unset, .unset, .unset, .unset] [(.ref w_ROTATION_270), (.ref a1)])) _
        obtain ⟨v69, T69, L69, X69, q69, st69⟩ := own_callV X68 hx hZ (y := (⟨"com/example/reorient/reorient/service/Window", "turnTo", "(Lcom/example/reorient/reorient/model/Rotation;)V"⟩ : MethodName)) (pc := 104) (Ls := #[.val (.int p1), .val (.int p2), .val (.int p3), .val (.int p4), .val (.int p5), .val (.int p6), .val (.ref a1), .val (.int (3 : Int32)), .unset, .unset, .unset, .unset]) (st := [(.ref w_ROTATION_270), (.ref a1)]) hown (hw _ (List.mem_of_getElem? (i := 43) rfl)) (hw _ (List.mem_of_getElem? (i := 44) rfl)) (hw _ (List.mem_of_getElem? (i := 46) rfl)) (hw _ (List.mem_of_getElem? (i := 45) rfl)) (hw _ (List.mem_of_getElem? (i := 47) rfl)) (hw _ (List.mem_of_getElem? (i := 2) rfl)) (by decide) (rm_turnTo l Z a0 hw a1 w_ROTATION_270 (.ref w_ROTATION_270) dz h0 n0 Z0 rfl E_a1 F_a1_drawn F_a1_picture g_a1) e68 E_a1 pd_2 (hb hby at_104) (by rw [hml]; rfl) (argsL := [(.ref w_ROTATION_270)]) (rest := []) rfl rfl rfl (W := 0) (Nat.le_of_eq rfl) (by decide) (by decide) (by decide) (by decide)
        obtain ⟨rv69, M69, Kc69, Fk69_0, Fk69_1⟩ := q69
        have N69 := Fr.app N68 M69
        subst rv69
        have r69_1 : (f_turnTo_a1_picture a1 w_ROTATION_270 (.ref w_ROTATION_270) dz) = (.ref w_ROTATION_270) := by rw [f_turnTo_a1_picture, if_pos (rfl : (Value.ref w_ROTATION_270) = (Value.ref w_ROTATION_270))]
        rw [r69_1] at Fk69_1
        have S_ROTATION_0_69 := own_sta_keep S_ROTATION_0 Kc69 (own_plain E_a1 (fun _ q => nomatch q))
        have E_w_ROTATION_0_69 := Exa.keep E_w_ROTATION_0 Kc69
        have S_APPLICATION_69 := own_sta_keep S_APPLICATION Kc69 (own_plain E_a1 (fun _ q => nomatch q))
        have E_w_APPLICATION_69 := Exa.keep E_w_APPLICATION Kc69
        have S_ROTATION_270_69 := own_sta_keep S_ROTATION_270 Kc69 (own_plain E_a1 (fun _ q => nomatch q))
        have E_w_ROTATION_270_69 := Exa.keep E_w_ROTATION_270 Kc69
        have S_ROTATION_180_69 := own_sta_keep S_ROTATION_180 Kc69 (own_plain E_a1 (fun _ q => nomatch q))
        have E_w_ROTATION_180_69 := Exa.keep E_w_ROTATION_180 Kc69
        have S_ROTATION_90_69 := own_sta_keep S_ROTATION_90 Kc69 (own_plain E_a1 (fun _ q => nomatch q))
        have E_w_ROTATION_90_69 := Exa.keep E_w_ROTATION_90 Kc69
        have E_a1_69 := Exa.keep E_a1 Kc69
        have Z69 : n0 ≤ T69.heap.size := Nat.le_trans Z0 Kc69.1
        have B69 : _ ≤ T69.heap.size := Nat.le_trans hB Kc69.1
        refine Go.mp st69 ?_
        show Go p e below (T69.setTop (mkF m 107 #[.val (.int p1), .val (.int p2), .val (.int p3), .val (.int p4), .val (.int p5), .val (.int p6), .val (.ref a1), .val (.int (3 : Int32)), .unset, .unset, .unset, .unset] [])) _
        refine g_iload X69 hx (hb hby at_107) rfl ?_
        refine g_iload X69 hx (hb hby at_109) rfl ?_
        obtain ⟨v70, T70, L70, X70, q70, st70⟩ := own_callS X69 hx hZ (y := (⟨"com/example/reorient/reorient/service/WindowPictureOfPinLaw", "turn", "(II)I"⟩ : MethodName)) (pc := 111) (Ls := #[.val (.int p1), .val (.int p2), .val (.int p3), .val (.int p4), .val (.int p5), .val (.int p6), .val (.ref a1), .val (.int (3 : Int32)), .unset, .unset, .unset, .unset]) (st := [(.int p5), (.int (3 : Int32))]) hown (hw _ (List.mem_of_getElem? (i := 48) rfl)) (hw _ (List.mem_of_getElem? (i := 49) rfl)) (hw _ (List.mem_of_getElem? (i := 13) rfl)) (hw _ (List.mem_of_getElem? (i := 50) rfl)) (by decide) (rm_turn l Z a0 hw (3 : Int32) p5 T69.heap n0 Z69 ) (rfl : T69.heap = T69.heap) pd_3 (hb hby at_111) (by rw [hml]; rfl) (argsL := [(.int (3 : Int32)), (.int p5)]) (rest := []) rfl rfl rfl (W := 0) (Nat.le_of_eq rfl) (by decide) (by decide) (by decide) (by decide)
        obtain ⟨rfl, M70, e70⟩ := q70
        have N70 := Fr.app N69 M70
        have r70 : (f_turn (3 : Int32) p5) = (3 : Int32) := by rw [f_turn, if_pos (q58.symm : (3 : Int32) = (p5 &&& (3 : Int32)))]
        rw [r70] at st70
        refine Go.mp st70 ?_
        show Go p e below (T70.setTop (mkF m 114 #[.val (.int p1), .val (.int p2), .val (.int p3), .val (.int p4), .val (.int p5), .val (.int p6), .val (.ref a1), .val (.int (3 : Int32)), .unset, .unset, .unset, .unset] [(.int (3 : Int32))])) _
        refine g_istore X70 hx #[.val (.int p1), .val (.int p2), .val (.int p3), .val (.int p4), .val (.int p5), .val (.int p6), .val (.ref a1), .val (.int (3 : Int32)), .unset, .unset, .unset, .unset] (hb hby at_114) rfl ?_
        show Go p e below (T70.setTop (mkF m 116 #[.val (.int p1), .val (.int p2), .val (.int p3), .val (.int p4), .val (.int p5), .val (.int p6), .val (.ref a1), .val (.int (3 : Int32)), .unset, .unset, .unset, .unset] [])) _
        exact seg_5 l Z a0 hw p1 p2 p3 p4 p5 p6 a1 (3 : Int32) (.ref w_ROTATION_270) dz w_ROTATION_0 w_APPLICATION w_ROTATION_270 w_ROTATION_180 w_ROTATION_90 T69.heap n0 Z69 S_ROTATION_0_69 E_w_ROTATION_0_69 S_APPLICATION_69 E_w_APPLICATION_69 S_ROTATION_270_69 E_w_ROTATION_270_69 S_ROTATION_180_69 E_w_ROTATION_180_69 S_ROTATION_90_69 E_w_ROTATION_90_69 ne_ROTATION_0_ROTATION_270 ne_ROTATION_0_ROTATION_90 ne_ROTATION_0_ROTATION_180 ne_ROTATION_270_ROTATION_90 ne_ROTATION_270_ROTATION_180 ne_ROTATION_90_ROTATION_180 E_a1_69 Fk69_1 Fk69_0 g_a1 (Or.inr (Or.inr (Or.inr (Or.inr (⟨rfl, rfl⟩))))) hx hby hml hown hnm hret hlk hZ X70 e70 N70 hS B69
set_option maxRecDepth 65536 in
set_option maxHeartbeats 40000000 in
theorem seg_3 (l : Launch) (Z : State) (a0 : Array Value) (hw : ∀ d ∈ tables_1, d.before a0 Z = true) (p1 : Int32) (p2 : Int32) (p3 : Int32) (p4 : Int32) (p5 : Int32) (p6 : Int32) (a1 : Addr) (pp : Int32) (pv : Value) (dz : Int32) (w_ROTATION_0 : Addr) (w_APPLICATION : Addr) (w_ROTATION_270 : Addr) (w_ROTATION_180 : Addr) (w_ROTATION_90 : Addr) (h0 : Heap) (n0 : Nat) (Z0 : n0 ≤ h0.size) (S_ROTATION_0 : Sta Z h0 "com/example/reorient/reorient/model/Rotation" "ROTATION_0" "Lcom/example/reorient/reorient/model/Rotation;" (.ref w_ROTATION_0)) (E_w_ROTATION_0 : Exa Z h0 w_ROTATION_0 "com/example/reorient/reorient/model/Rotation") (S_APPLICATION : Sta Z h0 "com/example/reorient/reorient/model/WindowType" "APPLICATION" "Lcom/example/reorient/reorient/model/WindowType;" (.ref w_APPLICATION)) (E_w_APPLICATION : Exa Z h0 w_APPLICATION "com/example/reorient/reorient/model/WindowType") (S_ROTATION_270 : Sta Z h0 "com/example/reorient/reorient/model/Rotation" "ROTATION_270" "Lcom/example/reorient/reorient/model/Rotation;" (.ref w_ROTATION_270)) (E_w_ROTATION_270 : Exa Z h0 w_ROTATION_270 "com/example/reorient/reorient/model/Rotation") (S_ROTATION_180 : Sta Z h0 "com/example/reorient/reorient/model/Rotation" "ROTATION_180" "Lcom/example/reorient/reorient/model/Rotation;" (.ref w_ROTATION_180)) (E_w_ROTATION_180 : Exa Z h0 w_ROTATION_180 "com/example/reorient/reorient/model/Rotation") (S_ROTATION_90 : Sta Z h0 "com/example/reorient/reorient/model/Rotation" "ROTATION_90" "Lcom/example/reorient/reorient/model/Rotation;" (.ref w_ROTATION_90)) (E_w_ROTATION_90 : Exa Z h0 w_ROTATION_90 "com/example/reorient/reorient/model/Rotation") (ne_ROTATION_0_ROTATION_270 : ¬ (w_ROTATION_0 = w_ROTATION_270)) (ne_ROTATION_0_ROTATION_90 : ¬ (w_ROTATION_0 = w_ROTATION_90)) (ne_ROTATION_0_ROTATION_180 : ¬ (w_ROTATION_0 = w_ROTATION_180)) (ne_ROTATION_270_ROTATION_90 : ¬ (w_ROTATION_270 = w_ROTATION_90)) (ne_ROTATION_270_ROTATION_180 : ¬ (w_ROTATION_270 = w_ROTATION_180)) (ne_ROTATION_90_ROTATION_180 : ¬ (w_ROTATION_90 = w_ROTATION_180)) (E_a1 : Exa Z h0 a1 "com/example/reorient/reorient/service/Window") (F_a1_picture : Fld Z h0 a1 "com/example/reorient/reorient/service/Window" "picture" "Lcom/example/reorient/reorient/model/Rotation;" pv) (F_a1_drawn : Fld Z h0 a1 "com/example/reorient/reorient/service/Window" "drawn" "Z" (.int dz)) (g_a1 : n0 ≤ a1) (hr : own_P w_ROTATION_0 w_ROTATION_90 w_ROTATION_180 w_ROTATION_270 pp pv) {vm1 : Vm} {k1 : Nat} {p : Program} {e : Env} {s : State} {m : MethodId} {below : List Frame} {meth : Method} {c : Code} {args : Array Value} {s₁ : State} {lo : List Loc} (hx : p.tables.exec = Jvm.exec) (hby : c.code = code) (hml : c.maxLocals = maxLocals) (hown : (s.setVm vm1).vm.findClass "com/example/reorient/reorient/service/WindowPictureOfPinLaw" = some m.cls) (hnm : meth.name = "law") (hret : meth.sig.returnType = ret) (hlk : meth.locks = false) (hZ : Z.Warmed39 (s.setVm vm1).vm) (X0 : Stand p l e room_1 (s.setVm vm1) m args below meth c s₁ lo 3 15) (e0 : s₁.heap = h0) (N0 : Fr n0 lo) (hS : s.Since vm1 k1) (hB : k1 ≤ h0.size) :
    Go p e below (s₁.setTop (mkF m 68 #[.val (.int p1), .val (.int p2), .val (.int p3), .val (.int p4), .val (.int p5), .val (.int p6), .val (.ref a1), .val (.int pp), .unset, .unset, .unset, .unset] [])) (FinW s room_1.cells room_1.slots (fun v h L => v = some (.int 1) ∧ Fr n0 L)) := by
  show Go p e below (s₁.setTop (mkF m 68 #[.val (.int p1), .val (.int p2), .val (.int p3), .val (.int p4), .val (.int p5), .val (.int p6), .val (.ref a1), .val (.int pp), .unset, .unset, .unset, .unset] [])) _
  rcases hr with ⟨rfl, rfl⟩ | ⟨rfl, rfl⟩ | ⟨rfl, rfl⟩ | ⟨rfl, rfl⟩ | ⟨rfl, rfl⟩
  · refine g_iload X0 hx (hb hby at_68) rfl ?_
    refine g_iconst X0 hx (4 : Int32) (hb hby at_70) (by decide) ?_
    refine g_iand X0 hx (hb hby at_71) ?_
    by_cases c72_1 : (p6 &&& (4 : Int32)) = (0 : Int32)
    · refine g_ifYes X0 hx 89 (hb hby at_72) ((if0 _ _).trans (teq c72_1).1) (by decide) (by decide) ?_
      show Go p e below (s₁.setTop (mkF m 89 #[.val (.int p1), .val (.int p2), .val (.int p3), .val (.int p4), .val (.int p5), .val (.int p6), .val (.ref a1), .val (.int (-1 : Int32)), .unset, .unset, .unset, .unset] [])) _
      exact seg_4 l Z a0 hw p1 p2 p3 p4 p5 p6 a1 (-1 : Int32) .null dz w_ROTATION_0 w_APPLICATION w_ROTATION_270 w_ROTATION_180 w_ROTATION_90 h0 n0 Z0 S_ROTATION_0 E_w_ROTATION_0 S_APPLICATION E_w_APPLICATION S_ROTATION_270 E_w_ROTATION_270 S_ROTATION_180 E_w_ROTATION_180 S_ROTATION_90 E_w_ROTATION_90 ne_ROTATION_0_ROTATION_270 ne_ROTATION_0_ROTATION_90 ne_ROTATION_0_ROTATION_180 ne_ROTATION_270_ROTATION_90 ne_ROTATION_270_ROTATION_180 ne_ROTATION_90_ROTATION_180 E_a1 F_a1_picture F_a1_drawn g_a1 (Or.inl ⟨rfl, rfl⟩) hx hby hml hown hnm hret hlk hZ X0 e0 N0 hS hB
    · refine g_ifNo X0 hx (hb hby at_72) ((if0 _ _).trans (feq c72_1).1) ?_
      refine g_aload X0 hx (hb hby at_75) rfl rfl ?_
      refine g_iloadN X0 hx (hb hby at_77) rfl ?_
      show Go p e below (s₁.setTop (mkF m 78 #[.val (.int p1), .val (.int p2), .val (.int p3), .val (.int p4), .val (.int p5), .val (.int p6), .val (.ref a1), .val (.int (-1 : Int32)), .unset, .unset, .unset, .unset] [(.int p4), (.ref a1)])) _
      rcases own_and3 p4 with q2 | q2 | q2 | q2
      · obtain ⟨v3, T3, L3, X3, q3, st3⟩ := own_callS X0 hx hZ (y := (⟨"com/example/reorient/reorient/service/WindowPictureOfPinLaw", "rot", "(I)Lcom/example/reorient/reorient/model/Rotation;"⟩ : MethodName)) (pc := 78) (Ls := #[.val (.int p1), .val (.int p2), .val (.int p3), .val (.int p4), .val (.int p5), .val (.int p6), .val (.ref a1), .val (.int (-1 : Int32)), .unset, .unset, .unset, .unset]) (st := [(.int p4), (.ref a1)]) hown (hw _ (List.mem_of_getElem? (i := 11) rfl)) (hw _ (List.mem_of_getElem? (i := 12) rfl)) (hw _ (List.mem_of_getElem? (i := 13) rfl)) (hw _ (List.mem_of_getElem? (i := 14) rfl)) (by decide) (rm_rot l Z a0 hw p4 w_ROTATION_0 w_ROTATION_90 w_ROTATION_180 w_ROTATION_270 h0 n0 Z0 S_ROTATION_0 S_ROTATION_90 S_ROTATION_180 S_ROTATION_270) e0 pd_1 (hb hby at_78) (by rw [hml]; rfl) (argsL := [(.int p4)]) (rest := [(.ref a1)]) rfl rfl rfl (W := 1) (Nat.le_of_eq rfl) (by decide) (by decide) (by decide) (by decide)
        obtain ⟨rfl, M3, e3⟩ := q3
        have N3 := Fr.app N0 M3
        have r3 : (f_rot p4 w_ROTATION_0 w_ROTATION_90 w_ROTATION_180 w_ROTATION_270) = w_ROTATION_0 := by rw [f_rot, if_pos (q2 : (p4 &&& (3 : Int32)) = (0 : Int32))]
        rw [r3] at st3
        refine Go.mp st3 ?_
        show Go p e below (T3.setTop (mkF m 81 #[.val (.int p1), .val (.int p2), .val (.int p3), .val (.int p4), .val (.int p5), .val (.int p6), .val (.ref a1), .val (.int (-1 : Int32)), .unset, .unset, .unset, .unset] [(.ref w_ROTATION_0), (.ref a1)])) _
        obtain ⟨v4, T4, L4, X4, q4, st4⟩ := own_callV X3 hx hZ (y := (⟨"com/example/reorient/reorient/service/Window", "reportDrawn", "(Lcom/example/reorient/reorient/model/Rotation;)V"⟩ : MethodName)) (pc := 81) (Ls := #[.val (.int p1), .val (.int p2), .val (.int p3), .val (.int p4), .val (.int p5), .val (.int p6), .val (.ref a1), .val (.int (-1 : Int32)), .unset, .unset, .unset, .unset]) (st := [(.ref w_ROTATION_0), (.ref a1)]) hown (hw _ (List.mem_of_getElem? (i := 60) rfl)) (hw _ (List.mem_of_getElem? (i := 61) rfl)) (hw _ (List.mem_of_getElem? (i := 63) rfl)) (hw _ (List.mem_of_getElem? (i := 62) rfl)) (hw _ (List.mem_of_getElem? (i := 64) rfl)) (hw _ (List.mem_of_getElem? (i := 2) rfl)) (by decide) (rm_reportDrawn l Z a0 hw a1 w_ROTATION_0 .null dz h0 n0 Z0 E_a1 F_a1_drawn F_a1_picture g_a1) e3 E_a1 pd_2 (hb hby at_81) (by rw [hml]; rfl) (argsL := [(.ref w_ROTATION_0)]) (rest := []) rfl rfl rfl (W := 0) (Nat.le_of_eq rfl) (by decide) (by decide) (by decide) (by decide)
        obtain ⟨rv4, M4, Kc4, Fk4_0, Fk4_1⟩ := q4
        have N4 := Fr.app N3 M4
        subst rv4
        have S_ROTATION_0_4 := own_sta_keep S_ROTATION_0 Kc4 (own_plain E_a1 (fun _ q => nomatch q))
        have E_w_ROTATION_0_4 := Exa.keep E_w_ROTATION_0 Kc4
        have S_APPLICATION_4 := own_sta_keep S_APPLICATION Kc4 (own_plain E_a1 (fun _ q => nomatch q))
        have E_w_APPLICATION_4 := Exa.keep E_w_APPLICATION Kc4
        have S_ROTATION_270_4 := own_sta_keep S_ROTATION_270 Kc4 (own_plain E_a1 (fun _ q => nomatch q))
        have E_w_ROTATION_270_4 := Exa.keep E_w_ROTATION_270 Kc4
        have S_ROTATION_180_4 := own_sta_keep S_ROTATION_180 Kc4 (own_plain E_a1 (fun _ q => nomatch q))
        have E_w_ROTATION_180_4 := Exa.keep E_w_ROTATION_180 Kc4
        have S_ROTATION_90_4 := own_sta_keep S_ROTATION_90 Kc4 (own_plain E_a1 (fun _ q => nomatch q))
        have E_w_ROTATION_90_4 := Exa.keep E_w_ROTATION_90 Kc4
        have E_a1_4 := Exa.keep E_a1 Kc4
        have Z4 : n0 ≤ T4.heap.size := Nat.le_trans Z0 Kc4.1
        have B4 : _ ≤ T4.heap.size := Nat.le_trans hB Kc4.1
        refine Go.mp st4 ?_
        show Go p e below (T4.setTop (mkF m 84 #[.val (.int p1), .val (.int p2), .val (.int p3), .val (.int p4), .val (.int p5), .val (.int p6), .val (.ref a1), .val (.int (-1 : Int32)), .unset, .unset, .unset, .unset] [])) _
        refine g_iloadN X4 hx (hb hby at_84) rfl ?_
        refine g_iconst X4 hx (3 : Int32) (hb hby at_85) (by decide) ?_
        refine g_iand X4 hx (hb hby at_86) ?_
        refine g_istore X4 hx #[.val (.int p1), .val (.int p2), .val (.int p3), .val (.int p4), .val (.int p5), .val (.int p6), .val (.ref a1), .val (.int (p4 &&& (3 : Int32))), .unset, .unset, .unset, .unset] (hb hby at_87) rfl ?_
        show Go p e below (T4.setTop (mkF m 89 #[.val (.int p1), .val (.int p2), .val (.int p3), .val (.int p4), .val (.int p5), .val (.int p6), .val (.ref a1), .val (.int (p4 &&& (3 : Int32))), .unset, .unset, .unset, .unset] [])) _
        exact seg_4 l Z a0 hw p1 p2 p3 p4 p5 p6 a1 (p4 &&& (3 : Int32)) (.ref w_ROTATION_0) (1 : Int32) w_ROTATION_0 w_APPLICATION w_ROTATION_270 w_ROTATION_180 w_ROTATION_90 T4.heap n0 Z4 S_ROTATION_0_4 E_w_ROTATION_0_4 S_APPLICATION_4 E_w_APPLICATION_4 S_ROTATION_270_4 E_w_ROTATION_270_4 S_ROTATION_180_4 E_w_ROTATION_180_4 S_ROTATION_90_4 E_w_ROTATION_90_4 ne_ROTATION_0_ROTATION_270 ne_ROTATION_0_ROTATION_90 ne_ROTATION_0_ROTATION_180 ne_ROTATION_270_ROTATION_90 ne_ROTATION_270_ROTATION_180 ne_ROTATION_90_ROTATION_180 E_a1_4 Fk4_1 Fk4_0 g_a1 (Or.inr (Or.inl ⟨q2, rfl⟩)) hx hby hml hown hnm hret hlk hZ X4 (rfl : T4.heap = T4.heap) N4 hS B4
      · obtain ⟨v5, T5, L5, X5, q5, st5⟩ := own_callS X0 hx hZ (y := (⟨"com/example/reorient/reorient/service/WindowPictureOfPinLaw", "rot", "(I)Lcom/example/reorient/reorient/model/Rotation;"⟩ : MethodName)) (pc := 78) (Ls := #[.val (.int p1), .val (.int p2), .val (.int p3), .val (.int p4), .val (.int p5), .val (.int p6), .val (.ref a1), .val (.int (-1 : Int32)), .unset, .unset, .unset, .unset]) (st := [(.int p4), (.ref a1)]) hown (hw _ (List.mem_of_getElem? (i := 11) rfl)) (hw _ (List.mem_of_getElem? (i := 12) rfl)) (hw _ (List.mem_of_getElem? (i := 13) rfl)) (hw _ (List.mem_of_getElem? (i := 14) rfl)) (by decide) (rm_rot l Z a0 hw p4 w_ROTATION_0 w_ROTATION_90 w_ROTATION_180 w_ROTATION_270 h0 n0 Z0 S_ROTATION_0 S_ROTATION_90 S_ROTATION_180 S_ROTATION_270) e0 pd_1 (hb hby at_78) (by rw [hml]; rfl) (argsL := [(.int p4)]) (rest := [(.ref a1)]) rfl rfl rfl (W := 1) (Nat.le_of_eq rfl) (by decide) (by decide) (by decide) (by decide)
        obtain ⟨rfl, M5, e5⟩ := q5
        have N5 := Fr.app N0 M5
        have r5 : (f_rot p4 w_ROTATION_0 w_ROTATION_90 w_ROTATION_180 w_ROTATION_270) = w_ROTATION_90 := by rw [f_rot, if_neg ((by rw [q2]; decide) : ¬ ((p4 &&& (3 : Int32)) = (0 : Int32))), if_pos (q2 : (p4 &&& (3 : Int32)) = (1 : Int32))]
        rw [r5] at st5
        refine Go.mp st5 ?_
        show Go p e below (T5.setTop (mkF m 81 #[.val (.int p1), .val (.int p2), .val (.int p3), .val (.int p4), .val (.int p5), .val (.int p6), .val (.ref a1), .val (.int (-1 : Int32)), .unset, .unset, .unset, .unset] [(.ref w_ROTATION_90), (.ref a1)])) _
        obtain ⟨v6, T6, L6, X6, q6, st6⟩ := own_callV X5 hx hZ (y := (⟨"com/example/reorient/reorient/service/Window", "reportDrawn", "(Lcom/example/reorient/reorient/model/Rotation;)V"⟩ : MethodName)) (pc := 81) (Ls := #[.val (.int p1), .val (.int p2), .val (.int p3), .val (.int p4), .val (.int p5), .val (.int p6), .val (.ref a1), .val (.int (-1 : Int32)), .unset, .unset, .unset, .unset]) (st := [(.ref w_ROTATION_90), (.ref a1)]) hown (hw _ (List.mem_of_getElem? (i := 60) rfl)) (hw _ (List.mem_of_getElem? (i := 61) rfl)) (hw _ (List.mem_of_getElem? (i := 63) rfl)) (hw _ (List.mem_of_getElem? (i := 62) rfl)) (hw _ (List.mem_of_getElem? (i := 64) rfl)) (hw _ (List.mem_of_getElem? (i := 2) rfl)) (by decide) (rm_reportDrawn l Z a0 hw a1 w_ROTATION_90 .null dz h0 n0 Z0 E_a1 F_a1_drawn F_a1_picture g_a1) e5 E_a1 pd_2 (hb hby at_81) (by rw [hml]; rfl) (argsL := [(.ref w_ROTATION_90)]) (rest := []) rfl rfl rfl (W := 0) (Nat.le_of_eq rfl) (by decide) (by decide) (by decide) (by decide)
        obtain ⟨rv6, M6, Kc6, Fk6_0, Fk6_1⟩ := q6
        have N6 := Fr.app N5 M6
        subst rv6
        have S_ROTATION_0_6 := own_sta_keep S_ROTATION_0 Kc6 (own_plain E_a1 (fun _ q => nomatch q))
        have E_w_ROTATION_0_6 := Exa.keep E_w_ROTATION_0 Kc6
        have S_APPLICATION_6 := own_sta_keep S_APPLICATION Kc6 (own_plain E_a1 (fun _ q => nomatch q))
        have E_w_APPLICATION_6 := Exa.keep E_w_APPLICATION Kc6
        have S_ROTATION_270_6 := own_sta_keep S_ROTATION_270 Kc6 (own_plain E_a1 (fun _ q => nomatch q))
        have E_w_ROTATION_270_6 := Exa.keep E_w_ROTATION_270 Kc6
        have S_ROTATION_180_6 := own_sta_keep S_ROTATION_180 Kc6 (own_plain E_a1 (fun _ q => nomatch q))
        have E_w_ROTATION_180_6 := Exa.keep E_w_ROTATION_180 Kc6
        have S_ROTATION_90_6 := own_sta_keep S_ROTATION_90 Kc6 (own_plain E_a1 (fun _ q => nomatch q))
        have E_w_ROTATION_90_6 := Exa.keep E_w_ROTATION_90 Kc6
        have E_a1_6 := Exa.keep E_a1 Kc6
        have Z6 : n0 ≤ T6.heap.size := Nat.le_trans Z0 Kc6.1
        have B6 : _ ≤ T6.heap.size := Nat.le_trans hB Kc6.1
        refine Go.mp st6 ?_
        show Go p e below (T6.setTop (mkF m 84 #[.val (.int p1), .val (.int p2), .val (.int p3), .val (.int p4), .val (.int p5), .val (.int p6), .val (.ref a1), .val (.int (-1 : Int32)), .unset, .unset, .unset, .unset] [])) _
        refine g_iloadN X6 hx (hb hby at_84) rfl ?_
        refine g_iconst X6 hx (3 : Int32) (hb hby at_85) (by decide) ?_
        refine g_iand X6 hx (hb hby at_86) ?_
        refine g_istore X6 hx #[.val (.int p1), .val (.int p2), .val (.int p3), .val (.int p4), .val (.int p5), .val (.int p6), .val (.ref a1), .val (.int (p4 &&& (3 : Int32))), .unset, .unset, .unset, .unset] (hb hby at_87) rfl ?_
        show Go p e below (T6.setTop (mkF m 89 #[.val (.int p1), .val (.int p2), .val (.int p3), .val (.int p4), .val (.int p5), .val (.int p6), .val (.ref a1), .val (.int (p4 &&& (3 : Int32))), .unset, .unset, .unset, .unset] [])) _
        exact seg_4 l Z a0 hw p1 p2 p3 p4 p5 p6 a1 (p4 &&& (3 : Int32)) (.ref w_ROTATION_90) (1 : Int32) w_ROTATION_0 w_APPLICATION w_ROTATION_270 w_ROTATION_180 w_ROTATION_90 T6.heap n0 Z6 S_ROTATION_0_6 E_w_ROTATION_0_6 S_APPLICATION_6 E_w_APPLICATION_6 S_ROTATION_270_6 E_w_ROTATION_270_6 S_ROTATION_180_6 E_w_ROTATION_180_6 S_ROTATION_90_6 E_w_ROTATION_90_6 ne_ROTATION_0_ROTATION_270 ne_ROTATION_0_ROTATION_90 ne_ROTATION_0_ROTATION_180 ne_ROTATION_270_ROTATION_90 ne_ROTATION_270_ROTATION_180 ne_ROTATION_90_ROTATION_180 E_a1_6 Fk6_1 Fk6_0 g_a1 (Or.inr (Or.inr (Or.inl ⟨q2, rfl⟩))) hx hby hml hown hnm hret hlk hZ X6 (rfl : T6.heap = T6.heap) N6 hS B6
      · obtain ⟨v7, T7, L7, X7, q7, st7⟩ := own_callS X0 hx hZ (y := (⟨"com/example/reorient/reorient/service/WindowPictureOfPinLaw", "rot", "(I)Lcom/example/reorient/reorient/model/Rotation;"⟩ : MethodName)) (pc := 78) (Ls := #[.val (.int p1), .val (.int p2), .val (.int p3), .val (.int p4), .val (.int p5), .val (.int p6), .val (.ref a1), .val (.int (-1 : Int32)), .unset, .unset, .unset, .unset]) (st := [(.int p4), (.ref a1)]) hown (hw _ (List.mem_of_getElem? (i := 11) rfl)) (hw _ (List.mem_of_getElem? (i := 12) rfl)) (hw _ (List.mem_of_getElem? (i := 13) rfl)) (hw _ (List.mem_of_getElem? (i := 14) rfl)) (by decide) (rm_rot l Z a0 hw p4 w_ROTATION_0 w_ROTATION_90 w_ROTATION_180 w_ROTATION_270 h0 n0 Z0 S_ROTATION_0 S_ROTATION_90 S_ROTATION_180 S_ROTATION_270) e0 pd_1 (hb hby at_78) (by rw [hml]; rfl) (argsL := [(.int p4)]) (rest := [(.ref a1)]) rfl rfl rfl (W := 1) (Nat.le_of_eq rfl) (by decide) (by decide) (by decide) (by decide)
        obtain ⟨rfl, M7, e7⟩ := q7
        have N7 := Fr.app N0 M7
        have r7 : (f_rot p4 w_ROTATION_0 w_ROTATION_90 w_ROTATION_180 w_ROTATION_270) = w_ROTATION_180 := by rw [f_rot, if_neg ((by rw [q2]; decide) : ¬ ((p4 &&& (3 : Int32)) = (0 : Int32))), if_neg ((by rw [q2]; decide) : ¬ ((p4 &&& (3 : Int32)) = (1 : Int32))), if_pos (q2 : (p4 &&& (3 : Int32)) = (2 : Int32))]
        rw [r7] at st7
        refine Go.mp st7 ?_
        show Go p e below (T7.setTop (mkF m 81 #[.val (.int p1), .val (.int p2), .val (.int p3), .val (.int p4), .val (.int p5), .val (.int p6), .val (.ref a1), .val (.int (-1 : Int32)), .unset, .unset, .unset, .unset] [(.ref w_ROTATION_180), (.ref a1)])) _
        obtain ⟨v8, T8, L8, X8, q8, st8⟩ := own_callV X7 hx hZ (y := (⟨"com/example/reorient/reorient/service/Window", "reportDrawn", "(Lcom/example/reorient/reorient/model/Rotation;)V"⟩ : MethodName)) (pc := 81) (Ls := #[.val (.int p1), .val (.int p2), .val (.int p3), .val (.int p4), .val (.int p5), .val (.int p6), .val (.ref a1), .val (.int (-1 : Int32)), .unset, .unset, .unset, .unset]) (st := [(.ref w_ROTATION_180), (.ref a1)]) hown (hw _ (List.mem_of_getElem? (i := 60) rfl)) (hw _ (List.mem_of_getElem? (i := 61) rfl)) (hw _ (List.mem_of_getElem? (i := 63) rfl)) (hw _ (List.mem_of_getElem? (i := 62) rfl)) (hw _ (List.mem_of_getElem? (i := 64) rfl)) (hw _ (List.mem_of_getElem? (i := 2) rfl)) (by decide) (rm_reportDrawn l Z a0 hw a1 w_ROTATION_180 .null dz h0 n0 Z0 E_a1 F_a1_drawn F_a1_picture g_a1) e7 E_a1 pd_2 (hb hby at_81) (by rw [hml]; rfl) (argsL := [(.ref w_ROTATION_180)]) (rest := []) rfl rfl rfl (W := 0) (Nat.le_of_eq rfl) (by decide) (by decide) (by decide) (by decide)
        obtain ⟨rv8, M8, Kc8, Fk8_0, Fk8_1⟩ := q8
        have N8 := Fr.app N7 M8
        subst rv8
        have S_ROTATION_0_8 := own_sta_keep S_ROTATION_0 Kc8 (own_plain E_a1 (fun _ q => nomatch q))
        have E_w_ROTATION_0_8 := Exa.keep E_w_ROTATION_0 Kc8
        have S_APPLICATION_8 := own_sta_keep S_APPLICATION Kc8 (own_plain E_a1 (fun _ q => nomatch q))
        have E_w_APPLICATION_8 := Exa.keep E_w_APPLICATION Kc8
        have S_ROTATION_270_8 := own_sta_keep S_ROTATION_270 Kc8 (own_plain E_a1 (fun _ q => nomatch q))
        have E_w_ROTATION_270_8 := Exa.keep E_w_ROTATION_270 Kc8
        have S_ROTATION_180_8 := own_sta_keep S_ROTATION_180 Kc8 (own_plain E_a1 (fun _ q => nomatch q))
        have E_w_ROTATION_180_8 := Exa.keep E_w_ROTATION_180 Kc8
        have S_ROTATION_90_8 := own_sta_keep S_ROTATION_90 Kc8 (own_plain E_a1 (fun _ q => nomatch q))
        have E_w_ROTATION_90_8 := Exa.keep E_w_ROTATION_90 Kc8
        have E_a1_8 := Exa.keep E_a1 Kc8
        have Z8 : n0 ≤ T8.heap.size := Nat.le_trans Z0 Kc8.1
        have B8 : _ ≤ T8.heap.size := Nat.le_trans hB Kc8.1
        refine Go.mp st8 ?_
        show Go p e below (T8.setTop (mkF m 84 #[.val (.int p1), .val (.int p2), .val (.int p3), .val (.int p4), .val (.int p5), .val (.int p6), .val (.ref a1), .val (.int (-1 : Int32)), .unset, .unset, .unset, .unset] [])) _
        refine g_iloadN X8 hx (hb hby at_84) rfl ?_
        refine g_iconst X8 hx (3 : Int32) (hb hby at_85) (by decide) ?_
        refine g_iand X8 hx (hb hby at_86) ?_
        refine g_istore X8 hx #[.val (.int p1), .val (.int p2), .val (.int p3), .val (.int p4), .val (.int p5), .val (.int p6), .val (.ref a1), .val (.int (p4 &&& (3 : Int32))), .unset, .unset, .unset, .unset] (hb hby at_87) rfl ?_
        show Go p e below (T8.setTop (mkF m 89 #[.val (.int p1), .val (.int p2), .val (.int p3), .val (.int p4), .val (.int p5), .val (.int p6), .val (.ref a1), .val (.int (p4 &&& (3 : Int32))), .unset, .unset, .unset, .unset] [])) _
        exact seg_4 l Z a0 hw p1 p2 p3 p4 p5 p6 a1 (p4 &&& (3 : Int32)) (.ref w_ROTATION_180) (1 : Int32) w_ROTATION_0 w_APPLICATION w_ROTATION_270 w_ROTATION_180 w_ROTATION_90 T8.heap n0 Z8 S_ROTATION_0_8 E_w_ROTATION_0_8 S_APPLICATION_8 E_w_APPLICATION_8 S_ROTATION_270_8 E_w_ROTATION_270_8 S_ROTATION_180_8 E_w_ROTATION_180_8 S_ROTATION_90_8 E_w_ROTATION_90_8 ne_ROTATION_0_ROTATION_270 ne_ROTATION_0_ROTATION_90 ne_ROTATION_0_ROTATION_180 ne_ROTATION_270_ROTATION_90 ne_ROTATION_270_ROTATION_180 ne_ROTATION_90_ROTATION_180 E_a1_8 Fk8_1 Fk8_0 g_a1 (Or.inr (Or.inr (Or.inr (Or.inl ⟨q2, rfl⟩)))) hx hby hml hown hnm hret hlk hZ X8 (rfl : T8.heap = T8.heap) N8 hS B8
      · obtain ⟨v9, T9, L9, X9, q9, st9⟩ := own_callS X0 hx hZ (y := (⟨"com/example/reorient/reorient/service/WindowPictureOfPinLaw", "rot", "(I)Lcom/example/reorient/reorient/model/Rotation;"⟩ : MethodName)) (pc := 78) (Ls := #[.val (.int p1), .val (.int p2), .val (.int p3), .val (.int p4), .val (.int p5), .val (.int p6), .val (.ref a1), .val (.int (-1 : Int32)), .unset, .unset, .unset, .unset]) (st := [(.int p4), (.ref a1)]) hown (hw _ (List.mem_of_getElem? (i := 11) rfl)) (hw _ (List.mem_of_getElem? (i := 12) rfl)) (hw _ (List.mem_of_getElem? (i := 13) rfl)) (hw _ (List.mem_of_getElem? (i := 14) rfl)) (by decide) (rm_rot l Z a0 hw p4 w_ROTATION_0 w_ROTATION_90 w_ROTATION_180 w_ROTATION_270 h0 n0 Z0 S_ROTATION_0 S_ROTATION_90 S_ROTATION_180 S_ROTATION_270) e0 pd_1 (hb hby at_78) (by rw [hml]; rfl) (argsL := [(.int p4)]) (rest := [(.ref a1)]) rfl rfl rfl (W := 1) (Nat.le_of_eq rfl) (by decide) (by decide) (by decide) (by decide)
        obtain ⟨rfl, M9, e9⟩ := q9
        have N9 := Fr.app N0 M9
        have r9 : (f_rot p4 w_ROTATION_0 w_ROTATION_90 w_ROTATION_180 w_ROTATION_270) = w_ROTATION_270 := by rw [f_rot, if_neg ((by rw [q2]; decide) : ¬ ((p4 &&& (3 : Int32)) = (0 : Int32))), if_neg ((by rw [q2]; decide) : ¬ ((p4 &&& (3 : Int32)) = (1 : Int32))), if_neg ((by rw [q2]; decide) : ¬ ((p4 &&& (3 : Int32)) = (2 : Int32)))]
        rw [r9] at st9
        refine Go.mp st9 ?_
        show Go p e below (T9.setTop (mkF m 81 #[.val (.int p1), .val (.int p2), .val (.int p3), .val (.int p4), .val (.int p5), .val (.int p6), .val (.ref a1), .val (.int (-1 : Int32)), .unset, .unset, .unset, .unset] [(.ref w_ROTATION_270), (.ref a1)])) _
        obtain ⟨v10, T10, L10, X10, q10, st10⟩ := own_callV X9 hx hZ (y := (⟨"com/example/reorient/reorient/service/Window", "reportDrawn", "(Lcom/example/reorient/reorient/model/Rotation;)V"⟩ : MethodName)) (pc := 81) (Ls := #[.val (.int p1), .val (.int p2), .val (.int p3), .val (.int p4), .val (.int p5), .val (.int p6), .val (.ref a1), .val (.int (-1 : Int32)), .unset, .unset, .unset, .unset]) (st := [(.ref w_ROTATION_270), (.ref a1)]) hown (hw _ (List.mem_of_getElem? (i := 60) rfl)) (hw _ (List.mem_of_getElem? (i := 61) rfl)) (hw _ (List.mem_of_getElem? (i := 63) rfl)) (hw _ (List.mem_of_getElem? (i := 62) rfl)) (hw _ (List.mem_of_getElem? (i := 64) rfl)) (hw _ (List.mem_of_getElem? (i := 2) rfl)) (by decide) (rm_reportDrawn l Z a0 hw a1 w_ROTATION_270 .null dz h0 n0 Z0 E_a1 F_a1_drawn F_a1_picture g_a1) e9 E_a1 pd_2 (hb hby at_81) (by rw [hml]; rfl) (argsL := [(.ref w_ROTATION_270)]) (rest := []) rfl rfl rfl (W := 0) (Nat.le_of_eq rfl) (by decide) (by decide) (by decide) (by decide)
        obtain ⟨rv10, M10, Kc10, Fk10_0, Fk10_1⟩ := q10
        have N10 := Fr.app N9 M10
        subst rv10
        have S_ROTATION_0_10 := own_sta_keep S_ROTATION_0 Kc10 (own_plain E_a1 (fun _ q => nomatch q))
        have E_w_ROTATION_0_10 := Exa.keep E_w_ROTATION_0 Kc10
        have S_APPLICATION_10 := own_sta_keep S_APPLICATION Kc10 (own_plain E_a1 (fun _ q => nomatch q))
        have E_w_APPLICATION_10 := Exa.keep E_w_APPLICATION Kc10
        have S_ROTATION_270_10 := own_sta_keep S_ROTATION_270 Kc10 (own_plain E_a1 (fun _ q => nomatch q))
        have E_w_ROTATION_270_10 := Exa.keep E_w_ROTATION_270 Kc10
        have S_ROTATION_180_10 := own_sta_keep S_ROTATION_180 Kc10 (own_plain E_a1 (fun _ q => nomatch q))
        have E_w_ROTATION_180_10 := Exa.keep E_w_ROTATION_180 Kc10
        have S_ROTATION_90_10 := own_sta_keep S_ROTATION_90 Kc10 (own_plain E_a1 (fun _ q => nomatch q))
        have E_w_ROTATION_90_10 := Exa.keep E_w_ROTATION_90 Kc10
        have E_a1_10 := Exa.keep E_a1 Kc10
        have Z10 : n0 ≤ T10.heap.size := Nat.le_trans Z0 Kc10.1
        have B10 : _ ≤ T10.heap.size := Nat.le_trans hB Kc10.1
        refine Go.mp st10 ?_
        show Go p e below (T10.setTop (mkF m 84 #[.val (.int p1), .val (.int p2), .val (.int p3), .val (.int p4), .val (.int p5), .val (.int p6), .val (.ref a1), .val (.int (-1 : Int32)), .unset, .unset, .unset, .unset] [])) _
        refine g_iloadN X10 hx (hb hby at_84) rfl ?_
        refine g_iconst X10 hx (3 : Int32) (hb hby at_85) (by decide) ?_
        refine g_iand X10 hx (hb hby at_86) ?_
        refine g_istore X10 hx #[.val (.int p1), .val (.int p2), .val (.int p3), .val (.int p4), .val (.int p5), .val (.int p6), .val (.ref a1), .val (.int (p4 &&& (3 : Int32))), .unset, .unset, .unset, .unset] (hb hby at_87) rfl ?_
        show Go p e below (T10.setTop (mkF m 89 #[.val (.int p1), .val (.int p2), .val (.int p3), .val (.int p4), .val (.int p5), .val (.int p6), .val (.ref a1), .val (.int (p4 &&& (3 : Int32))), .unset, .unset, .unset, .unset] [])) _
        exact seg_4 l Z a0 hw p1 p2 p3 p4 p5 p6 a1 (p4 &&& (3 : Int32)) (.ref w_ROTATION_270) (1 : Int32) w_ROTATION_0 w_APPLICATION w_ROTATION_270 w_ROTATION_180 w_ROTATION_90 T10.heap n0 Z10 S_ROTATION_0_10 E_w_ROTATION_0_10 S_APPLICATION_10 E_w_APPLICATION_10 S_ROTATION_270_10 E_w_ROTATION_270_10 S_ROTATION_180_10 E_w_ROTATION_180_10 S_ROTATION_90_10 E_w_ROTATION_90_10 ne_ROTATION_0_ROTATION_270 ne_ROTATION_0_ROTATION_90 ne_ROTATION_0_ROTATION_180 ne_ROTATION_270_ROTATION_90 ne_ROTATION_270_ROTATION_180 ne_ROTATION_90_ROTATION_180 E_a1_10 Fk10_1 Fk10_0 g_a1 (Or.inr (Or.inr (Or.inr (Or.inr (⟨q2, rfl⟩))))) hx hby hml hown hnm hret hlk hZ X10 (rfl : T10.heap = T10.heap) N10 hS B10
  · refine g_iload X0 hx (hb hby at_68) rfl ?_
    refine g_iconst X0 hx (4 : Int32) (hb hby at_70) (by decide) ?_
    refine g_iand X0 hx (hb hby at_71) ?_
    by_cases c72_11 : (p6 &&& (4 : Int32)) = (0 : Int32)
    · refine g_ifYes X0 hx 89 (hb hby at_72) ((if0 _ _).trans (teq c72_11).1) (by decide) (by decide) ?_
      show Go p e below (s₁.setTop (mkF m 89 #[.val (.int p1), .val (.int p2), .val (.int p3), .val (.int p4), .val (.int p5), .val (.int p6), .val (.ref a1), .val (.int (0 : Int32)), .unset, .unset, .unset, .unset] [])) _
      exact seg_4 l Z a0 hw p1 p2 p3 p4 p5 p6 a1 (0 : Int32) (.ref w_ROTATION_0) dz w_ROTATION_0 w_APPLICATION w_ROTATION_270 w_ROTATION_180 w_ROTATION_90 h0 n0 Z0 S_ROTATION_0 E_w_ROTATION_0 S_APPLICATION E_w_APPLICATION S_ROTATION_270 E_w_ROTATION_270 S_ROTATION_180 E_w_ROTATION_180 S_ROTATION_90 E_w_ROTATION_90 ne_ROTATION_0_ROTATION_270 ne_ROTATION_0_ROTATION_90 ne_ROTATION_0_ROTATION_180 ne_ROTATION_270_ROTATION_90 ne_ROTATION_270_ROTATION_180 ne_ROTATION_90_ROTATION_180 E_a1 F_a1_picture F_a1_drawn g_a1 (Or.inr (Or.inl ⟨rfl, rfl⟩)) hx hby hml hown hnm hret hlk hZ X0 e0 N0 hS hB
    · refine g_ifNo X0 hx (hb hby at_72) ((if0 _ _).trans (feq c72_11).1) ?_
      refine g_aload X0 hx (hb hby at_75) rfl rfl ?_
      refine g_iloadN X0 hx (hb hby at_77) rfl ?_
      show Go p e below (s₁.setTop (mkF m 78 #[.val (.int p1), .val (.int p2), .val (.int p3), .val (.int p4), .val (.int p5), .val (.int p6), .val (.ref a1), .val (.int (0 : Int32)), .unset, .unset, .unset, .unset] [(.int p4), (.ref a1)])) _
      rcases own_and3 p4 with q12 | q12 | q12 | q12
      · obtain ⟨v13, T13, L13, X13, q13, st13⟩ := own_callS X0 hx hZ (y := (⟨"com/example/reorient/reorient/service/WindowPictureOfPinLaw", "rot", "(I)Lcom/example/reorient/reorient/model/Rotation;"⟩ : MethodName)) (pc := 78) (Ls := #[.val (.int p1), .val (.int p2), .val (.int p3), .val (.int p4), .val (.int p5), .val (.int p6), .val (.ref a1), .val (.int (0 : Int32)), .unset, .unset, .unset, .unset]) (st := [(.int p4), (.ref a1)]) hown (hw _ (List.mem_of_getElem? (i := 11) rfl)) (hw _ (List.mem_of_getElem? (i := 12) rfl)) (hw _ (List.mem_of_getElem? (i := 13) rfl)) (hw _ (List.mem_of_getElem? (i := 14) rfl)) (by decide) (rm_rot l Z a0 hw p4 w_ROTATION_0 w_ROTATION_90 w_ROTATION_180 w_ROTATION_270 h0 n0 Z0 S_ROTATION_0 S_ROTATION_90 S_ROTATION_180 S_ROTATION_270) e0 pd_1 (hb hby at_78) (by rw [hml]; rfl) (argsL := [(.int p4)]) (rest := [(.ref a1)]) rfl rfl rfl (W := 1) (Nat.le_of_eq rfl) (by decide) (by decide) (by decide) (by decide)
        obtain ⟨rfl, M13, e13⟩ := q13
        have N13 := Fr.app N0 M13
        have r13 : (f_rot p4 w_ROTATION_0 w_ROTATION_90 w_ROTATION_180 w_ROTATION_270) = w_ROTATION_0 := by rw [f_rot, if_pos (q12 : (p4 &&& (3 : Int32)) = (0 : Int32))]
        rw [r13] at st13
        refine Go.mp st13 ?_
        show Go p e below (T13.setTop (mkF m 81 #[.val (.int p1), .val (.int p2), .val (.int p3), .val (.int p4), .val (.int p5), .val (.int p6), .val (.ref a1), .val (.int (0 : Int32)), .unset, .unset, .unset, .unset] [(.ref w_ROTATION_0), (.ref a1)])) _
        obtain ⟨v14, T14, L14, X14, q14, st14⟩ := own_callV X13 hx hZ (y := (⟨"com/example/reorient/reorient/service/Window", "reportDrawn", "(Lcom/example/reorient/reorient/model/Rotation;)V"⟩ : MethodName)) (pc := 81) (Ls := #[.val (.int p1), .val (.int p2), .val (.int p3), .val (.int p4), .val (.int p5), .val (.int p6), .val (.ref a1), .val (.int (0 : Int32)), .unset, .unset, .unset, .unset]) (st := [(.ref w_ROTATION_0), (.ref a1)]) hown (hw _ (List.mem_of_getElem? (i := 60) rfl)) (hw _ (List.mem_of_getElem? (i := 61) rfl)) (hw _ (List.mem_of_getElem? (i := 63) rfl)) (hw _ (List.mem_of_getElem? (i := 62) rfl)) (hw _ (List.mem_of_getElem? (i := 64) rfl)) (hw _ (List.mem_of_getElem? (i := 2) rfl)) (by decide) (rm_reportDrawn l Z a0 hw a1 w_ROTATION_0 (.ref w_ROTATION_0) dz h0 n0 Z0 E_a1 F_a1_drawn F_a1_picture g_a1) e13 E_a1 pd_2 (hb hby at_81) (by rw [hml]; rfl) (argsL := [(.ref w_ROTATION_0)]) (rest := []) rfl rfl rfl (W := 0) (Nat.le_of_eq rfl) (by decide) (by decide) (by decide) (by decide)
        obtain ⟨rv14, M14, Kc14, Fk14_0, Fk14_1⟩ := q14
        have N14 := Fr.app N13 M14
        subst rv14
        have S_ROTATION_0_14 := own_sta_keep S_ROTATION_0 Kc14 (own_plain E_a1 (fun _ q => nomatch q))
        have E_w_ROTATION_0_14 := Exa.keep E_w_ROTATION_0 Kc14
        have S_APPLICATION_14 := own_sta_keep S_APPLICATION Kc14 (own_plain E_a1 (fun _ q => nomatch q))
        have E_w_APPLICATION_14 := Exa.keep E_w_APPLICATION Kc14
        have S_ROTATION_270_14 := own_sta_keep S_ROTATION_270 Kc14 (own_plain E_a1 (fun _ q => nomatch q))
        have E_w_ROTATION_270_14 := Exa.keep E_w_ROTATION_270 Kc14
        have S_ROTATION_180_14 := own_sta_keep S_ROTATION_180 Kc14 (own_plain E_a1 (fun _ q => nomatch q))
        have E_w_ROTATION_180_14 := Exa.keep E_w_ROTATION_180 Kc14
        have S_ROTATION_90_14 := own_sta_keep S_ROTATION_90 Kc14 (own_plain E_a1 (fun _ q => nomatch q))
        have E_w_ROTATION_90_14 := Exa.keep E_w_ROTATION_90 Kc14
        have E_a1_14 := Exa.keep E_a1 Kc14
        have Z14 : n0 ≤ T14.heap.size := Nat.le_trans Z0 Kc14.1
        have B14 : _ ≤ T14.heap.size := Nat.le_trans hB Kc14.1
        refine Go.mp st14 ?_
        show Go p e below (T14.setTop (mkF m 84 #[.val (.int p1), .val (.int p2), .val (.int p3), .val (.int p4), .val (.int p5), .val (.int p6), .val (.ref a1), .val (.int (0 : Int32)), .unset, .unset, .unset, .unset] [])) _
        refine g_iloadN X14 hx (hb hby at_84) rfl ?_
        refine g_iconst X14 hx (3 : Int32) (hb hby at_85) (by decide) ?_
        refine g_iand X14 hx (hb hby at_86) ?_
        refine g_istore X14 hx #[.val (.int p1), .val (.int p2), .val (.int p3), .val (.int p4), .val (.int p5), .val (.int p6), .val (.ref a1), .val (.int (p4 &&& (3 : Int32))), .unset, .unset, .unset, .unset] (hb hby at_87) rfl ?_
        show Go p e below (T14.setTop (mkF m 89 #[.val (.int p1), .val (.int p2), .val (.int p3), .val (.int p4), .val (.int p5), .val (.int p6), .val (.ref a1), .val (.int (p4 &&& (3 : Int32))), .unset, .unset, .unset, .unset] [])) _
        exact seg_4 l Z a0 hw p1 p2 p3 p4 p5 p6 a1 (p4 &&& (3 : Int32)) (.ref w_ROTATION_0) (1 : Int32) w_ROTATION_0 w_APPLICATION w_ROTATION_270 w_ROTATION_180 w_ROTATION_90 T14.heap n0 Z14 S_ROTATION_0_14 E_w_ROTATION_0_14 S_APPLICATION_14 E_w_APPLICATION_14 S_ROTATION_270_14 E_w_ROTATION_270_14 S_ROTATION_180_14 E_w_ROTATION_180_14 S_ROTATION_90_14 E_w_ROTATION_90_14 ne_ROTATION_0_ROTATION_270 ne_ROTATION_0_ROTATION_90 ne_ROTATION_0_ROTATION_180 ne_ROTATION_270_ROTATION_90 ne_ROTATION_270_ROTATION_180 ne_ROTATION_90_ROTATION_180 E_a1_14 Fk14_1 Fk14_0 g_a1 (Or.inr (Or.inl ⟨q12, rfl⟩)) hx hby hml hown hnm hret hlk hZ X14 (rfl : T14.heap = T14.heap) N14 hS B14
      · obtain ⟨v15, T15, L15, X15, q15, st15⟩ := own_callS X0 hx hZ (y := (⟨"com/example/reorient/reorient/service/WindowPictureOfPinLaw", "rot", "(I)Lcom/example/reorient/reorient/model/Rotation;"⟩ : MethodName)) (pc := 78) (Ls := #[.val (.int p1), .val (.int p2), .val (.int p3), .val (.int p4), .val (.int p5), .val (.int p6), .val (.ref a1), .val (.int (0 : Int32)), .unset, .unset, .unset, .unset]) (st := [(.int p4), (.ref a1)]) hown (hw _ (List.mem_of_getElem? (i := 11) rfl)) (hw _ (List.mem_of_getElem? (i := 12) rfl)) (hw _ (List.mem_of_getElem? (i := 13) rfl)) (hw _ (List.mem_of_getElem? (i := 14) rfl)) (by decide) (rm_rot l Z a0 hw p4 w_ROTATION_0 w_ROTATION_90 w_ROTATION_180 w_ROTATION_270 h0 n0 Z0 S_ROTATION_0 S_ROTATION_90 S_ROTATION_180 S_ROTATION_270) e0 pd_1 (hb hby at_78) (by rw [hml]; rfl) (argsL := [(.int p4)]) (rest := [(.ref a1)]) rfl rfl rfl (W := 1) (Nat.le_of_eq rfl) (by decide) (by decide) (by decide) (by decide)
        obtain ⟨rfl, M15, e15⟩ := q15
        have N15 := Fr.app N0 M15
        have r15 : (f_rot p4 w_ROTATION_0 w_ROTATION_90 w_ROTATION_180 w_ROTATION_270) = w_ROTATION_90 := by rw [f_rot, if_neg ((by rw [q12]; decide) : ¬ ((p4 &&& (3 : Int32)) = (0 : Int32))), if_pos (q12 : (p4 &&& (3 : Int32)) = (1 : Int32))]
        rw [r15] at st15
        refine Go.mp st15 ?_
        show Go p e below (T15.setTop (mkF m 81 #[.val (.int p1), .val (.int p2), .val (.int p3), .val (.int p4), .val (.int p5), .val (.int p6), .val (.ref a1), .val (.int (0 : Int32)), .unset, .unset, .unset, .unset] [(.ref w_ROTATION_90), (.ref a1)])) _
        obtain ⟨v16, T16, L16, X16, q16, st16⟩ := own_callV X15 hx hZ (y := (⟨"com/example/reorient/reorient/service/Window", "reportDrawn", "(Lcom/example/reorient/reorient/model/Rotation;)V"⟩ : MethodName)) (pc := 81) (Ls := #[.val (.int p1), .val (.int p2), .val (.int p3), .val (.int p4), .val (.int p5), .val (.int p6), .val (.ref a1), .val (.int (0 : Int32)), .unset, .unset, .unset, .unset]) (st := [(.ref w_ROTATION_90), (.ref a1)]) hown (hw _ (List.mem_of_getElem? (i := 60) rfl)) (hw _ (List.mem_of_getElem? (i := 61) rfl)) (hw _ (List.mem_of_getElem? (i := 63) rfl)) (hw _ (List.mem_of_getElem? (i := 62) rfl)) (hw _ (List.mem_of_getElem? (i := 64) rfl)) (hw _ (List.mem_of_getElem? (i := 2) rfl)) (by decide) (rm_reportDrawn l Z a0 hw a1 w_ROTATION_90 (.ref w_ROTATION_0) dz h0 n0 Z0 E_a1 F_a1_drawn F_a1_picture g_a1) e15 E_a1 pd_2 (hb hby at_81) (by rw [hml]; rfl) (argsL := [(.ref w_ROTATION_90)]) (rest := []) rfl rfl rfl (W := 0) (Nat.le_of_eq rfl) (by decide) (by decide) (by decide) (by decide)
        obtain ⟨rv16, M16, Kc16, Fk16_0, Fk16_1⟩ := q16
        have N16 := Fr.app N15 M16
        subst rv16
        have S_ROTATION_0_16 := own_sta_keep S_ROTATION_0 Kc16 (own_plain E_a1 (fun _ q => nomatch q))
        have E_w_ROTATION_0_16 := Exa.keep E_w_ROTATION_0 Kc16
        have S_APPLICATION_16 := own_sta_keep S_APPLICATION Kc16 (own_plain E_a1 (fun _ q => nomatch q))
        have E_w_APPLICATION_16 := Exa.keep E_w_APPLICATION Kc16
        have S_ROTATION_270_16 := own_sta_keep S_ROTATION_270 Kc16 (own_plain E_a1 (fun _ q => nomatch q))
        have E_w_ROTATION_270_16 := Exa.keep E_w_ROTATION_270 Kc16
        have S_ROTATION_180_16 := own_sta_keep S_ROTATION_180 Kc16 (own_plain E_a1 (fun _ q => nomatch q))
        have E_w_ROTATION_180_16 := Exa.keep E_w_ROTATION_180 Kc16
        have S_ROTATION_90_16 := own_sta_keep S_ROTATION_90 Kc16 (own_plain E_a1 (fun _ q => nomatch q))
        have E_w_ROTATION_90_16 := Exa.keep E_w_ROTATION_90 Kc16
        have E_a1_16 := Exa.keep E_a1 Kc16
        have Z16 : n0 ≤ T16.heap.size := Nat.le_trans Z0 Kc16.1
        have B16 : _ ≤ T16.heap.size := Nat.le_trans hB Kc16.1
        refine Go.mp st16 ?_
        show Go p e below (T16.setTop (mkF m 84 #[.val (.int p1), .val (.int p2), .val (.int p3), .val (.int p4), .val (.int p5), .val (.int p6), .val (.ref a1), .val (.int (0 : Int32)), .unset, .unset, .unset, .unset] [])) _
        refine g_iloadN X16 hx (hb hby at_84) rfl ?_
        refine g_iconst X16 hx (3 : Int32) (hb hby at_85) (by decide) ?_
        refine g_iand X16 hx (hb hby at_86) ?_
        refine g_istore X16 hx #[.val (.int p1), .val (.int p2), .val (.int p3), .val (.int p4), .val (.int p5), .val (.int p6), .val (.ref a1), .val (.int (p4 &&& (3 : Int32))), .unset, .unset, .unset, .unset] (hb hby at_87) rfl ?_
        show Go p e below (T16.setTop (mkF m 89 #[.val (.int p1), .val (.int p2), .val (.int p3), .val (.int p4), .val (.int p5), .val (.int p6), .val (.ref a1), .val (.int (p4 &&& (3 : Int32))), .unset, .unset, .unset, .unset] [])) _
        exact seg_4 l Z a0 hw p1 p2 p3 p4 p5 p6 a1 (p4 &&& (3 : Int32)) (.ref w_ROTATION_90) (1 : Int32) w_ROTATION_0 w_APPLICATION w_ROTATION_270 w_ROTATION_180 w_ROTATION_90 T16.heap n0 Z16 S_ROTATION_0_16 E_w_ROTATION_0_16 S_APPLICATION_16 E_w_APPLICATION_16 S_ROTATION_270_16 E_w_ROTATION_270_16 S_ROTATION_180_16 E_w_ROTATION_180_16 S_ROTATION_90_16 E_w_ROTATION_90_16 ne_ROTATION_0_ROTATION_270 ne_ROTATION_0_ROTATION_90 ne_ROTATION_0_ROTATION_180 ne_ROTATION_270_ROTATION_90 ne_ROTATION_270_ROTATION_180 ne_ROTATION_90_ROTATION_180 E_a1_16 Fk16_1 Fk16_0 g_a1 (Or.inr (Or.inr (Or.inl ⟨q12, rfl⟩))) hx hby hml hown hnm hret hlk hZ X16 (rfl : T16.heap = T16.heap) N16 hS B16
      · obtain ⟨v17, T17, L17, X17, q17, st17⟩ := own_callS X0 hx hZ (y := (⟨"com/example/reorient/reorient/service/WindowPictureOfPinLaw", "rot", "(I)Lcom/example/reorient/reorient/model/Rotation;"⟩ : MethodName)) (pc := 78) (Ls := #[.val (.int p1), .val (.int p2), .val (.int p3), .val (.int p4), .val (.int p5), .val (.int p6), .val (.ref a1), .val (.int (0 : Int32)), .unset, .unset, .unset, .unset]) (st := [(.int p4), (.ref a1)]) hown (hw _ (List.mem_of_getElem? (i := 11) rfl)) (hw _ (List.mem_of_getElem? (i := 12) rfl)) (hw _ (List.mem_of_getElem? (i := 13) rfl)) (hw _ (List.mem_of_getElem? (i := 14) rfl)) (by decide) (rm_rot l Z a0 hw p4 w_ROTATION_0 w_ROTATION_90 w_ROTATION_180 w_ROTATION_270 h0 n0 Z0 S_ROTATION_0 S_ROTATION_90 S_ROTATION_180 S_ROTATION_270) e0 pd_1 (hb hby at_78) (by rw [hml]; rfl) (argsL := [(.int p4)]) (rest := [(.ref a1)]) rfl rfl rfl (W := 1) (Nat.le_of_eq rfl) (by decide) (by decide) (by decide) (by decide)
        obtain ⟨rfl, M17, e17⟩ := q17
        have N17 := Fr.app N0 M17
        have r17 : (f_rot p4 w_ROTATION_0 w_ROTATION_90 w_ROTATION_180 w_ROTATION_270) = w_ROTATION_180 := by rw [f_rot, if_neg ((by rw [q12]; decide) : ¬ ((p4 &&& (3 : Int32)) = (0 : Int32))), if_neg ((by rw [q12]; decide) : ¬ ((p4 &&& (3 : Int32)) = (1 : Int32))), if_pos (q12 : (p4 &&& (3 : Int32)) = (2 : Int32))]
        rw [r17] at st17
        refine Go.mp st17 ?_
        show Go p e below (T17.setTop (mkF m 81 #[.val (.int p1), .val (.int p2), .val (.int p3), .val (.int p4), .val (.int p5), .val (.int p6), .val (.ref a1), .val (.int (0 : Int32)), .unset, .unset, .unset, .unset] [(.ref w_ROTATION_180), (.ref a1)])) _
        obtain ⟨v18, T18, L18, X18, q18, st18⟩ := own_callV X17 hx hZ (y := (⟨"com/example/reorient/reorient/service/Window", "reportDrawn", "(Lcom/example/reorient/reorient/model/Rotation;)V"⟩ : MethodName)) (pc := 81) (Ls := #[.val (.int p1), .val (.int p2), .val (.int p3), .val (.int p4), .val (.int p5), .val (.int p6), .val (.ref a1), .val (.int (0 : Int32)), .unset, .unset, .unset, .unset]) (st := [(.ref w_ROTATION_180), (.ref a1)]) hown (hw _ (List.mem_of_getElem? (i := 60) rfl)) (hw _ (List.mem_of_getElem? (i := 61) rfl)) (hw _ (List.mem_of_getElem? (i := 63) rfl)) (hw _ (List.mem_of_getElem? (i := 62) rfl)) (hw _ (List.mem_of_getElem? (i := 64) rfl)) (hw _ (List.mem_of_getElem? (i := 2) rfl)) (by decide) (rm_reportDrawn l Z a0 hw a1 w_ROTATION_180 (.ref w_ROTATION_0) dz h0 n0 Z0 E_a1 F_a1_drawn F_a1_picture g_a1) e17 E_a1 pd_2 (hb hby at_81) (by rw [hml]; rfl) (argsL := [(.ref w_ROTATION_180)]) (rest := []) rfl rfl rfl (W := 0) (Nat.le_of_eq rfl) (by decide) (by decide) (by decide) (by decide)
        obtain ⟨rv18, M18, Kc18, Fk18_0, Fk18_1⟩ := q18
        have N18 := Fr.app N17 M18
        subst rv18
        have S_ROTATION_0_18 := own_sta_keep S_ROTATION_0 Kc18 (own_plain E_a1 (fun _ q => nomatch q))
        have E_w_ROTATION_0_18 := Exa.keep E_w_ROTATION_0 Kc18
        have S_APPLICATION_18 := own_sta_keep S_APPLICATION Kc18 (own_plain E_a1 (fun _ q => nomatch q))
        have E_w_APPLICATION_18 := Exa.keep E_w_APPLICATION Kc18
        have S_ROTATION_270_18 := own_sta_keep S_ROTATION_270 Kc18 (own_plain E_a1 (fun _ q => nomatch q))
        have E_w_ROTATION_270_18 := Exa.keep E_w_ROTATION_270 Kc18
        have S_ROTATION_180_18 := own_sta_keep S_ROTATION_180 Kc18 (own_plain E_a1 (fun _ q => nomatch q))
        have E_w_ROTATION_180_18 := Exa.keep E_w_ROTATION_180 Kc18
        have S_ROTATION_90_18 := own_sta_keep S_ROTATION_90 Kc18 (own_plain E_a1 (fun _ q => nomatch q))
        have E_w_ROTATION_90_18 := Exa.keep E_w_ROTATION_90 Kc18
        have E_a1_18 := Exa.keep E_a1 Kc18
        have Z18 : n0 ≤ T18.heap.size := Nat.le_trans Z0 Kc18.1
        have B18 : _ ≤ T18.heap.size := Nat.le_trans hB Kc18.1
        refine Go.mp st18 ?_
        show Go p e below (T18.setTop (mkF m 84 #[.val (.int p1), .val (.int p2), .val (.int p3), .val (.int p4), .val (.int p5), .val (.int p6), .val (.ref a1), .val (.int (0 : Int32)), .unset, .unset, .unset, .unset] [])) _
        refine g_iloadN X18 hx (hb hby at_84) rfl ?_
        refine g_iconst X18 hx (3 : Int32) (hb hby at_85) (by decide) ?_
        refine g_iand X18 hx (hb hby at_86) ?_
        refine g_istore X18 hx #[.val (.int p1), .val (.int p2), .val (.int p3), .val (.int p4), .val (.int p5), .val (.int p6), .val (.ref a1), .val (.int (p4 &&& (3 : Int32))), .unset, .unset, .unset, .unset] (hb hby at_87) rfl ?_
        show Go p e below (T18.setTop (mkF m 89 #[.val (.int p1), .val (.int p2), .val (.int p3), .val (.int p4), .val (.int p5), .val (.int p6), .val (.ref a1), .val (.int (p4 &&& (3 : Int32))), .unset, .unset, .unset, .unset] [])) _
        exact seg_4 l Z a0 hw p1 p2 p3 p4 p5 p6 a1 (p4 &&& (3 : Int32)) (.ref w_ROTATION_180) (1 : Int32) w_ROTATION_0 w_APPLICATION w_ROTATION_270 w_ROTATION_180 w_ROTATION_90 T18.heap n0 Z18 S_ROTATION_0_18 E_w_ROTATION_0_18 S_APPLICATION_18 E_w_APPLICATION_18 S_ROTATION_270_18 E_w_ROTATION_270_18 S_ROTATION_180_18 E_w_ROTATION_180_18 S_ROTATION_90_18 E_w_ROTATION_90_18 ne_ROTATION_0_ROTATION_270 ne_ROTATION_0_ROTATION_90 ne_ROTATION_0_ROTATION_180 ne_ROTATION_270_ROTATION_90 ne_ROTATION_270_ROTATION_180 ne_ROTATION_90_ROTATION_180 E_a1_18 Fk18_1 Fk18_0 g_a1 (Or.inr (Or.inr (Or.inr (Or.inl ⟨q12, rfl⟩)))) hx hby hml hown hnm hret hlk hZ X18 (rfl : T18.heap = T18.heap) N18 hS B18
      · obtain ⟨v19, T19, L19, X19, q19, st19⟩ := own_callS X0 hx hZ (y := (⟨"com/example/reorient/reorient/service/WindowPictureOfPinLaw", "rot", "(I)Lcom/example/reorient/reorient/model/Rotation;"⟩ : MethodName)) (pc := 78) (Ls := #[.val (.int p1), .val (.int p2), .val (.int p3), .val (.int p4), .val (.int p5), .val (.int p6), .val (.ref a1), .val (.int (0 : Int32)), .unset, .unset, .unset, .unset]) (st := [(.int p4), (.ref a1)]) hown (hw _ (List.mem_of_getElem? (i := 11) rfl)) (hw _ (List.mem_of_getElem? (i := 12) rfl)) (hw _ (List.mem_of_getElem? (i := 13) rfl)) (hw _ (List.mem_of_getElem? (i := 14) rfl)) (by decide) (rm_rot l Z a0 hw p4 w_ROTATION_0 w_ROTATION_90 w_ROTATION_180 w_ROTATION_270 h0 n0 Z0 S_ROTATION_0 S_ROTATION_90 S_ROTATION_180 S_ROTATION_270) e0 pd_1 (hb hby at_78) (by rw [hml]; rfl) (argsL := [(.int p4)]) (rest := [(.ref a1)]) rfl rfl rfl (W := 1) (Nat.le_of_eq rfl) (by decide) (by decide) (by decide) (by decide)
        obtain ⟨rfl, M19, e19⟩ := q19
        have N19 := Fr.app N0 M19
        have r19 : (f_rot p4 w_ROTATION_0 w_ROTATION_90 w_ROTATION_180 w_ROTATION_270) = w_ROTATION_270 := by rw [f_rot, if_neg ((by rw [q12]; decide) : ¬ ((p4 &&& (3 : Int32)) = (0 : Int32))), if_neg ((by rw [q12]; decide) : ¬ ((p4 &&& (3 : Int32)) = (1 : Int32))), if_neg ((by rw [q12]; decide) : ¬ ((p4 &&& (3 : Int32)) = (2 : Int32)))]
        rw [r19] at st19
        refine Go.mp st19 ?_
        show Go p e below (T19.setTop (mkF m 81 #[.val (.int p1), .val (.int p2), .val (.int p3), .val (.int p4), .val (.int p5), .val (.int p6), .val (.ref a1), .val (.int (0 : Int32)), .unset, .unset, .unset, .unset] [(.ref w_ROTATION_270), (.ref a1)])) _
        obtain ⟨v20, T20, L20, X20, q20, st20⟩ := own_callV X19 hx hZ (y := (⟨"com/example/reorient/reorient/service/Window", "reportDrawn", "(Lcom/example/reorient/reorient/model/Rotation;)V"⟩ : MethodName)) (pc := 81) (Ls := #[.val (.int p1), .val (.int p2), .val (.int p3), .val (.int p4), .val (.int p5), .val (.int p6), .val (.ref a1), .val (.int (0 : Int32)), .unset, .unset, .unset, .unset]) (st := [(.ref w_ROTATION_270), (.ref a1)]) hown (hw _ (List.mem_of_getElem? (i := 60) rfl)) (hw _ (List.mem_of_getElem? (i := 61) rfl)) (hw _ (List.mem_of_getElem? (i := 63) rfl)) (hw _ (List.mem_of_getElem? (i := 62) rfl)) (hw _ (List.mem_of_getElem? (i := 64) rfl)) (hw _ (List.mem_of_getElem? (i := 2) rfl)) (by decide) (rm_reportDrawn l Z a0 hw a1 w_ROTATION_270 (.ref w_ROTATION_0) dz h0 n0 Z0 E_a1 F_a1_drawn F_a1_picture g_a1) e19 E_a1 pd_2 (hb hby at_81) (by rw [hml]; rfl) (argsL := [(.ref w_ROTATION_270)]) (rest := []) rfl rfl rfl (W := 0) (Nat.le_of_eq rfl) (by decide) (by decide) (by decide) (by decide)
        obtain ⟨rv20, M20, Kc20, Fk20_0, Fk20_1⟩ := q20
        have N20 := Fr.app N19 M20
        subst rv20
        have S_ROTATION_0_20 := own_sta_keep S_ROTATION_0 Kc20 (own_plain E_a1 (fun _ q => nomatch q))
        have E_w_ROTATION_0_20 := Exa.keep E_w_ROTATION_0 Kc20
        have S_APPLICATION_20 := own_sta_keep S_APPLICATION Kc20 (own_plain E_a1 (fun _ q => nomatch q))
        have E_w_APPLICATION_20 := Exa.keep E_w_APPLICATION Kc20
        have S_ROTATION_270_20 := own_sta_keep S_ROTATION_270 Kc20 (own_plain E_a1 (fun _ q => nomatch q))
        have E_w_ROTATION_270_20 := Exa.keep E_w_ROTATION_270 Kc20
        have S_ROTATION_180_20 := own_sta_keep S_ROTATION_180 Kc20 (own_plain E_a1 (fun _ q => nomatch q))
        have E_w_ROTATION_180_20 := Exa.keep E_w_ROTATION_180 Kc20
        have S_ROTATION_90_20 := own_sta_keep S_ROTATION_90 Kc20 (own_plain E_a1 (fun _ q => nomatch q))
        have E_w_ROTATION_90_20 := Exa.keep E_w_ROTATION_90 Kc20
        have E_a1_20 := Exa.keep E_a1 Kc20
        have Z20 : n0 ≤ T20.heap.size := Nat.le_trans Z0 Kc20.1
        have B20 : _ ≤ T20.heap.size := Nat.le_trans hB Kc20.1
        refine Go.mp st20 ?_
        show Go p e below (T20.setTop (mkF m 84 #[.val (.int p1), .val (.int p2), .val (.int p3), .val (.int p4), .val (.int p5), .val (.int p6), .val (.ref a1), .val (.int (0 : Int32)), .unset, .unset, .unset, .unset] [])) _
        refine g_iloadN X20 hx (hb hby at_84) rfl ?_
        refine g_iconst X20 hx (3 : Int32) (hb hby at_85) (by decide) ?_
        refine g_iand X20 hx (hb hby at_86) ?_
        refine g_istore X20 hx #[.val (.int p1), .val (.int p2), .val (.int p3), .val (.int p4), .val (.int p5), .val (.int p6), .val (.ref a1), .val (.int (p4 &&& (3 : Int32))), .unset, .unset, .unset, .unset] (hb hby at_87) rfl ?_
        show Go p e below (T20.setTop (mkF m 89 #[.val (.int p1), .val (.int p2), .val (.int p3), .val (.int p4), .val (.int p5), .val (.int p6), .val (.ref a1), .val (.int (p4 &&& (3 : Int32))), .unset, .unset, .unset, .unset] [])) _
        exact seg_4 l Z a0 hw p1 p2 p3 p4 p5 p6 a1 (p4 &&& (3 : Int32)) (.ref w_ROTATION_270) (1 : Int32) w_ROTATION_0 w_APPLICATION w_ROTATION_270 w_ROTATION_180 w_ROTATION_90 T20.heap n0 Z20 S_ROTATION_0_20 E_w_ROTATION_0_20 S_APPLICATION_20 E_w_APPLICATION_20 S_ROTATION_270_20 E_w_ROTATION_270_20 S_ROTATION_180_20 E_w_ROTATION_180_20 S_ROTATION_90_20 E_w_ROTATION_90_20 ne_ROTATION_0_ROTATION_270 ne_ROTATION_0_ROTATION_90 ne_ROTATION_0_ROTATION_180 ne_ROTATION_270_ROTATION_90 ne_ROTATION_270_ROTATION_180 ne_ROTATION_90_ROTATION_180 E_a1_20 Fk20_1 Fk20_0 g_a1 (Or.inr (Or.inr (Or.inr (Or.inr (⟨q12, rfl⟩))))) hx hby hml hown hnm hret hlk hZ X20 (rfl : T20.heap = T20.heap) N20 hS B20
  · refine g_iload X0 hx (hb hby at_68) rfl ?_
    refine g_iconst X0 hx (4 : Int32) (hb hby at_70) (by decide) ?_
    refine g_iand X0 hx (hb hby at_71) ?_
    by_cases c72_21 : (p6 &&& (4 : Int32)) = (0 : Int32)
    · refine g_ifYes X0 hx 89 (hb hby at_72) ((if0 _ _).trans (teq c72_21).1) (by decide) (by decide) ?_
      show Go p e below (s₁.setTop (mkF m 89 #[.val (.int p1), .val (.int p2), .val (.int p3), .val (.int p4), .val (.int p5), .val (.int p6), .val (.ref a1), .val (.int (1 : Int32)), .unset, .unset, .unset, .unset] [])) _
      exact seg_4 l Z a0 hw p1 p2 p3 p4 p5 p6 a1 (1 : Int32) (.ref w_ROTATION_90) dz w_ROTATION_0 w_APPLICATION w_ROTATION_270 w_ROTATION_180 w_ROTATION_90 h0 n0 Z0 S_ROTATION_0 E_w_ROTATION_0 S_APPLICATION E_w_APPLICATION S_ROTATION_270 E_w_ROTATION_270 S_ROTATION_180 E_w_ROTATION_180 S_ROTATION_90 E_w_ROTATION_90 ne_ROTATION_0_ROTATION_270 ne_ROTATION_0_ROTATION_90 ne_ROTATION_0_ROTATION_180 ne_ROTATION_270_ROTATION_90 ne_ROTATION_270_ROTATION_180 ne_ROTATION_90_ROTATION_180 E_a1 F_a1_picture F_a1_drawn g_a1 (Or.inr (Or.inr (Or.inl ⟨rfl, rfl⟩))) hx hby hml hown hnm hret hlk hZ X0 e0 N0 hS hB
    · refine g_ifNo X0 hx (hb hby at_72) ((if0 _ _).trans (feq c72_21).1) ?_
      refine g_aload X0 hx (hb hby at_75) rfl rfl ?_
      refine g_iloadN X0 hx (hb hby at_77) rfl ?_
      show Go p e below (s₁.setTop (mkF m 78 #[.val (.int p1), .val (.int p2), .val (.int p3), .val (.int p4), .val (.int p5), .val (.int p6), .val (.ref a1), .val (.int (1 : Int32)), .unset, .unset, .unset, .unset] [(.int p4), (.ref a1)])) _
      rcases own_and3 p4 with q22 | q22 | q22 | q22
      · obtain ⟨v23, T23, L23, X23, q23, st23⟩ := own_callS X0 hx hZ (y := (⟨"com/example/reorient/reorient/service/WindowPictureOfPinLaw", "rot", "(I)Lcom/example/reorient/reorient/model/Rotation;"⟩ : MethodName)) (pc := 78) (Ls := #[.val (.int p1), .val (.int p2), .val (.int p3), .val (.int p4), .val (.int p5), .val (.int p6), .val (.ref a1), .val (.int (1 : Int32)), .unset, .unset, .unset, .unset]) (st := [(.int p4), (.ref a1)]) hown (hw _ (List.mem_of_getElem? (i := 11) rfl)) (hw _ (List.mem_of_getElem? (i := 12) rfl)) (hw _ (List.mem_of_getElem? (i := 13) rfl)) (hw _ (List.mem_of_getElem? (i := 14) rfl)) (by decide) (rm_rot l Z a0 hw p4 w_ROTATION_0 w_ROTATION_90 w_ROTATION_180 w_ROTATION_270 h0 n0 Z0 S_ROTATION_0 S_ROTATION_90 S_ROTATION_180 S_ROTATION_270) e0 pd_1 (hb hby at_78) (by rw [hml]; rfl) (argsL := [(.int p4)]) (rest := [(.ref a1)]) rfl rfl rfl (W := 1) (Nat.le_of_eq rfl) (by decide) (by decide) (by decide) (by decide)
        obtain ⟨rfl, M23, e23⟩ := q23
        have N23 := Fr.app N0 M23
        have r23 : (f_rot p4 w_ROTATION_0 w_ROTATION_90 w_ROTATION_180 w_ROTATION_270) = w_ROTATION_0 := by rw [f_rot, if_pos (q22 : (p4 &&& (3 : Int32)) = (0 : Int32))]
        rw [r23] at st23
        refine Go.mp st23 ?_
        show Go p e below (T23.setTop (mkF m 81 #[.val (.int p1), .val (.int p2), .val (.int p3), .val (.int p4), .val (.int p5), .val (.int p6), .val (.ref a1), .val (.int (1 : Int32)), .unset, .unset, .unset, .unset] [(.ref w_ROTATION_0), (.ref a1)])) _
        obtain ⟨v24, T24, L24, X24, q24, st24⟩ := own_callV X23 hx hZ (y := (⟨"com/example/reorient/reorient/service/Window", "reportDrawn", "(Lcom/example/reorient/reorient/model/Rotation;)V"⟩ : MethodName)) (pc := 81) (Ls := #[.val (.int p1), .val (.int p2), .val (.int p3), .val (.int p4), .val (.int p5), .val (.int p6), .val (.ref a1), .val (.int (1 : Int32)), .unset, .unset, .unset, .unset]) (st := [(.ref w_ROTATION_0), (.ref a1)]) hown (hw _ (List.mem_of_getElem? (i := 60) rfl)) (hw _ (List.mem_of_getElem? (i := 61) rfl)) (hw _ (List.mem_of_getElem? (i := 63) rfl)) (hw _ (List.mem_of_getElem? (i := 62) rfl)) (hw _ (List.mem_of_getElem? (i := 64) rfl)) (hw _ (List.mem_of_getElem? (i := 2) rfl)) (by decide) (rm_reportDrawn l Z a0 hw a1 w_ROTATION_0 (.ref w_ROTATION_90) dz h0 n0 Z0 E_a1 F_a1_drawn F_a1_picture g_a1) e23 E_a1 pd_2 (hb hby at_81) (by rw [hml]; rfl) (argsL := [(.ref w_ROTATION_0)]) (rest := []) rfl rfl rfl (W := 0) (Nat.le_of_eq rfl) (by decide) (by decide) (by decide) (by decide)
        obtain ⟨rv24, M24, Kc24, Fk24_0, Fk24_1⟩ := q24
        have N24 := Fr.app N23 M24
        subst rv24
        have S_ROTATION_0_24 := own_sta_keep S_ROTATION_0 Kc24 (own_plain E_a1 (fun _ q => nomatch q))
        have E_w_ROTATION_0_24 := Exa.keep E_w_ROTATION_0 Kc24
        have S_APPLICATION_24 := own_sta_keep S_APPLICATION Kc24 (own_plain E_a1 (fun _ q => nomatch q))
        have E_w_APPLICATION_24 := Exa.keep E_w_APPLICATION Kc24
        have S_ROTATION_270_24 := own_sta_keep S_ROTATION_270 Kc24 (own_plain E_a1 (fun _ q => nomatch q))
        have E_w_ROTATION_270_24 := Exa.keep E_w_ROTATION_270 Kc24
        have S_ROTATION_180_24 := own_sta_keep S_ROTATION_180 Kc24 (own_plain E_a1 (fun _ q => nomatch q))
        have E_w_ROTATION_180_24 := Exa.keep E_w_ROTATION_180 Kc24
        have S_ROTATION_90_24 := own_sta_keep S_ROTATION_90 Kc24 (own_plain E_a1 (fun _ q => nomatch q))
        have E_w_ROTATION_90_24 := Exa.keep E_w_ROTATION_90 Kc24
        have E_a1_24 := Exa.keep E_a1 Kc24
        have Z24 : n0 ≤ T24.heap.size := Nat.le_trans Z0 Kc24.1
        have B24 : _ ≤ T24.heap.size := Nat.le_trans hB Kc24.1
        refine Go.mp st24 ?_
        show Go p e below (T24.setTop (mkF m 84 #[.val (.int p1), .val (.int p2), .val (.int p3), .val (.int p4), .val (.int p5), .val (.int p6), .val (.ref a1), .val (.int (1 : Int32)), .unset, .unset, .unset, .unset] [])) _
        refine g_iloadN X24 hx (hb hby at_84) rfl ?_
        refine g_iconst X24 hx (3 : Int32) (hb hby at_85) (by decide) ?_
        refine g_iand X24 hx (hb hby at_86) ?_
        refine g_istore X24 hx #[.val (.int p1), .val (.int p2), .val (.int p3), .val (.int p4), .val (.int p5), .val (.int p6), .val (.ref a1), .val (.int (p4 &&& (3 : Int32))), .unset, .unset, .unset, .unset] (hb hby at_87) rfl ?_
        show Go p e below (T24.setTop (mkF m 89 #[.val (.int p1), .val (.int p2), .val (.int p3), .val (.int p4), .val (.int p5), .val (.int p6), .val (.ref a1), .val (.int (p4 &&& (3 : Int32))), .unset, .unset, .unset, .unset] [])) _
        exact seg_4 l Z a0 hw p1 p2 p3 p4 p5 p6 a1 (p4 &&& (3 : Int32)) (.ref w_ROTATION_0) (1 : Int32) w_ROTATION_0 w_APPLICATION w_ROTATION_270 w_ROTATION_180 w_ROTATION_90 T24.heap n0 Z24 S_ROTATION_0_24 E_w_ROTATION_0_24 S_APPLICATION_24 E_w_APPLICATION_24 S_ROTATION_270_24 E_w_ROTATION_270_24 S_ROTATION_180_24 E_w_ROTATION_180_24 S_ROTATION_90_24 E_w_ROTATION_90_24 ne_ROTATION_0_ROTATION_270 ne_ROTATION_0_ROTATION_90 ne_ROTATION_0_ROTATION_180 ne_ROTATION_270_ROTATION_90 ne_ROTATION_270_ROTATION_180 ne_ROTATION_90_ROTATION_180 E_a1_24 Fk24_1 Fk24_0 g_a1 (Or.inr (Or.inl ⟨q22, rfl⟩)) hx hby hml hown hnm hret hlk hZ X24 (rfl : T24.heap = T24.heap) N24 hS B24
      · obtain ⟨v25, T25, L25, X25, q25, st25⟩ := own_callS X0 hx hZ (y := (⟨"com/example/reorient/reorient/service/WindowPictureOfPinLaw", "rot", "(I)Lcom/example/reorient/reorient/model/Rotation;"⟩ : MethodName)) (pc := 78) (Ls := #[.val (.int p1), .val (.int p2), .val (.int p3), .val (.int p4), .val (.int p5), .val (.int p6), .val (.ref a1), .val (.int (1 : Int32)), .unset, .unset, .unset, .unset]) (st := [(.int p4), (.ref a1)]) hown (hw _ (List.mem_of_getElem? (i := 11) rfl)) (hw _ (List.mem_of_getElem? (i := 12) rfl)) (hw _ (List.mem_of_getElem? (i := 13) rfl)) (hw _ (List.mem_of_getElem? (i := 14) rfl)) (by decide) (rm_rot l Z a0 hw p4 w_ROTATION_0 w_ROTATION_90 w_ROTATION_180 w_ROTATION_270 h0 n0 Z0 S_ROTATION_0 S_ROTATION_90 S_ROTATION_180 S_ROTATION_270) e0 pd_1 (hb hby at_78) (by rw [hml]; rfl) (argsL := [(.int p4)]) (rest := [(.ref a1)]) rfl rfl rfl (W := 1) (Nat.le_of_eq rfl) (by decide) (by decide) (by decide) (by decide)
        obtain ⟨rfl, M25, e25⟩ := q25
        have N25 := Fr.app N0 M25
        have r25 : (f_rot p4 w_ROTATION_0 w_ROTATION_90 w_ROTATION_180 w_ROTATION_270) = w_ROTATION_90 := by rw [f_rot, if_neg ((by rw [q22]; decide) : ¬ ((p4 &&& (3 : Int32)) = (0 : Int32))), if_pos (q22 : (p4 &&& (3 : Int32)) = (1 : Int32))]
        rw [r25] at st25
        refine Go.mp st25 ?_
        show Go p e below (T25.setTop (mkF m 81 #[.val (.int p1), .val (.int p2), .val (.int p3), .val (.int p4), .val (.int p5), .val (.int p6), .val (.ref a1), .val (.int (1 : Int32)), .unset, .unset, .unset, .unset] [(.ref w_ROTATION_90), (.ref a1)])) _
        obtain ⟨v26, T26, L26, X26, q26, st26⟩ := own_callV X25 hx hZ (y := (⟨"com/example/reorient/reorient/service/Window", "reportDrawn", "(Lcom/example/reorient/reorient/model/Rotation;)V"⟩ : MethodName)) (pc := 81) (Ls := #[.val (.int p1), .val (.int p2), .val (.int p3), .val (.int p4), .val (.int p5), .val (.int p6), .val (.ref a1), .val (.int (1 : Int32)), .unset, .unset, .unset, .unset]) (st := [(.ref w_ROTATION_90), (.ref a1)]) hown (hw _ (List.mem_of_getElem? (i := 60) rfl)) (hw _ (List.mem_of_getElem? (i := 61) rfl)) (hw _ (List.mem_of_getElem? (i := 63) rfl)) (hw _ (List.mem_of_getElem? (i := 62) rfl)) (hw _ (List.mem_of_getElem? (i := 64) rfl)) (hw _ (List.mem_of_getElem? (i := 2) rfl)) (by decide) (rm_reportDrawn l Z a0 hw a1 w_ROTATION_90 (.ref w_ROTATION_90) dz h0 n0 Z0 E_a1 F_a1_drawn F_a1_picture g_a1) e25 E_a1 pd_2 (hb hby at_81) (by rw [hml]; rfl) (argsL := [(.ref w_ROTATION_90)]) (rest := []) rfl rfl rfl (W := 0) (Nat.le_of_eq rfl) (by decide) (by decide) (by decide) (by decide)
        obtain ⟨rv26, M26, Kc26, Fk26_0, Fk26_1⟩ := q26
        have N26 := Fr.app N25 M26
        subst rv26
        have S_ROTATION_0_26 := own_sta_keep S_ROTATION_0 Kc26 (own_plain E_a1 (fun _ q => nomatch q))
        have E_w_ROTATION_0_26 := Exa.keep E_w_ROTATION_0 Kc26
        have S_APPLICATION_26 := own_sta_keep S_APPLICATION Kc26 (own_plain E_a1 (fun _ q => nomatch q))
        have E_w_APPLICATION_26 := Exa.keep E_w_APPLICATION Kc26
        have S_ROTATION_270_26 := own_sta_keep S_ROTATION_270 Kc26 (own_plain E_a1 (fun _ q => nomatch q))
        have E_w_ROTATION_270_26 := Exa.keep E_w_ROTATION_270 Kc26
        have S_ROTATION_180_26 := own_sta_keep S_ROTATION_180 Kc26 (own_plain E_a1 (fun _ q => nomatch q))
        have E_w_ROTATION_180_26 := Exa.keep E_w_ROTATION_180 Kc26
        have S_ROTATION_90_26 := own_sta_keep S_ROTATION_90 Kc26 (own_plain E_a1 (fun _ q => nomatch q))
        have E_w_ROTATION_90_26 := Exa.keep E_w_ROTATION_90 Kc26
        have E_a1_26 := Exa.keep E_a1 Kc26
        have Z26 : n0 ≤ T26.heap.size := Nat.le_trans Z0 Kc26.1
        have B26 : _ ≤ T26.heap.size := Nat.le_trans hB Kc26.1
        refine Go.mp st26 ?_
        show Go p e below (T26.setTop (mkF m 84 #[.val (.int p1), .val (.int p2), .val (.int p3), .val (.int p4), .val (.int p5), .val (.int p6), .val (.ref a1), .val (.int (1 : Int32)), .unset, .unset, .unset, .unset] [])) _
        refine g_iloadN X26 hx (hb hby at_84) rfl ?_
        refine g_iconst X26 hx (3 : Int32) (hb hby at_85) (by decide) ?_
        refine g_iand X26 hx (hb hby at_86) ?_
        refine g_istore X26 hx #[.val (.int p1), .val (.int p2), .val (.int p3), .val (.int p4), .val (.int p5), .val (.int p6), .val (.ref a1), .val (.int (p4 &&& (3 : Int32))), .unset, .unset, .unset, .unset] (hb hby at_87) rfl ?_
        show Go p e below (T26.setTop (mkF m 89 #[.val (.int p1), .val (.int p2), .val (.int p3), .val (.int p4), .val (.int p5), .val (.int p6), .val (.ref a1), .val (.int (p4 &&& (3 : Int32))), .unset, .unset, .unset, .unset] [])) _
        exact seg_4 l Z a0 hw p1 p2 p3 p4 p5 p6 a1 (p4 &&& (3 : Int32)) (.ref w_ROTATION_90) (1 : Int32) w_ROTATION_0 w_APPLICATION w_ROTATION_270 w_ROTATION_180 w_ROTATION_90 T26.heap n0 Z26 S_ROTATION_0_26 E_w_ROTATION_0_26 S_APPLICATION_26 E_w_APPLICATION_26 S_ROTATION_270_26 E_w_ROTATION_270_26 S_ROTATION_180_26 E_w_ROTATION_180_26 S_ROTATION_90_26 E_w_ROTATION_90_26 ne_ROTATION_0_ROTATION_270 ne_ROTATION_0_ROTATION_90 ne_ROTATION_0_ROTATION_180 ne_ROTATION_270_ROTATION_90 ne_ROTATION_270_ROTATION_180 ne_ROTATION_90_ROTATION_180 E_a1_26 Fk26_1 Fk26_0 g_a1 (Or.inr (Or.inr (Or.inl ⟨q22, rfl⟩))) hx hby hml hown hnm hret hlk hZ X26 (rfl : T26.heap = T26.heap) N26 hS B26
      · obtain ⟨v27, T27, L27, X27, q27, st27⟩ := own_callS X0 hx hZ (y := (⟨"com/example/reorient/reorient/service/WindowPictureOfPinLaw", "rot", "(I)Lcom/example/reorient/reorient/model/Rotation;"⟩ : MethodName)) (pc := 78) (Ls := #[.val (.int p1), .val (.int p2), .val (.int p3), .val (.int p4), .val (.int p5), .val (.int p6), .val (.ref a1), .val (.int (1 : Int32)), .unset, .unset, .unset, .unset]) (st := [(.int p4), (.ref a1)]) hown (hw _ (List.mem_of_getElem? (i := 11) rfl)) (hw _ (List.mem_of_getElem? (i := 12) rfl)) (hw _ (List.mem_of_getElem? (i := 13) rfl)) (hw _ (List.mem_of_getElem? (i := 14) rfl)) (by decide) (rm_rot l Z a0 hw p4 w_ROTATION_0 w_ROTATION_90 w_ROTATION_180 w_ROTATION_270 h0 n0 Z0 S_ROTATION_0 S_ROTATION_90 S_ROTATION_180 S_ROTATION_270) e0 pd_1 (hb hby at_78) (by rw [hml]; rfl) (argsL := [(.int p4)]) (rest := [(.ref a1)]) rfl rfl rfl (W := 1) (Nat.le_of_eq rfl) (by decide) (by decide) (by decide) (by decide)
        obtain ⟨rfl, M27, e27⟩ := q27
        have N27 := Fr.app N0 M27
        have r27 : (f_rot p4 w_ROTATION_0 w_ROTATION_90 w_ROTATION_180 w_ROTATION_270) = w_ROTATION_180 := by rw [f_rot, if_neg ((by rw [q22]; decide) : ¬ ((p4 &&& (3 : Int32)) = (0 : Int32))), if_neg ((by rw [q22]; decide) : ¬ ((p4 &&& (3 : Int32)) = (1 : Int32))), if_pos (q22 : (p4 &&& (3 : Int32)) = (2 : Int32))]
        rw [r27] at st27
        refine Go.mp st27 ?_
        show Go p e below (T27.setTop (mkF m 81 #[.val (.int p1), .val (.int p2), .val (.int p3), .val (.int p4), .val (.int p5), .val (.int p6), .val (.ref a1), .val (.int (1 : Int32)), .unset, .unset, .unset, .unset] [(.ref w_ROTATION_180), (.ref a1)])) _
        obtain ⟨v28, T28, L28, X28, q28, st28⟩ := own_callV X27 hx hZ (y := (⟨"com/example/reorient/reorient/service/Window", "reportDrawn", "(Lcom/example/reorient/reorient/model/Rotation;)V"⟩ : MethodName)) (pc := 81) (Ls := #[.val (.int p1), .val (.int p2), .val (.int p3), .val (.int p4), .val (.int p5), .val (.int p6), .val (.ref a1), .val (.int (1 : Int32)), .unset, .unset, .unset, .unset]) (st := [(.ref w_ROTATION_180), (.ref a1)]) hown (hw _ (List.mem_of_getElem? (i := 60) rfl)) (hw _ (List.mem_of_getElem? (i := 61) rfl)) (hw _ (List.mem_of_getElem? (i := 63) rfl)) (hw _ (List.mem_of_getElem? (i := 62) rfl)) (hw _ (List.mem_of_getElem? (i := 64) rfl)) (hw _ (List.mem_of_getElem? (i := 2) rfl)) (by decide) (rm_reportDrawn l Z a0 hw a1 w_ROTATION_180 (.ref w_ROTATION_90) dz h0 n0 Z0 E_a1 F_a1_drawn F_a1_picture g_a1) e27 E_a1 pd_2 (hb hby at_81) (by rw [hml]; rfl) (argsL := [(.ref w_ROTATION_180)]) (rest := []) rfl rfl rfl (W := 0) (Nat.le_of_eq rfl) (by decide) (by decide) (by decide) (by decide)
        obtain ⟨rv28, M28, Kc28, Fk28_0, Fk28_1⟩ := q28
        have N28 := Fr.app N27 M28
        subst rv28
        have S_ROTATION_0_28 := own_sta_keep S_ROTATION_0 Kc28 (own_plain E_a1 (fun _ q => nomatch q))
        have E_w_ROTATION_0_28 := Exa.keep E_w_ROTATION_0 Kc28
        have S_APPLICATION_28 := own_sta_keep S_APPLICATION Kc28 (own_plain E_a1 (fun _ q => nomatch q))
        have E_w_APPLICATION_28 := Exa.keep E_w_APPLICATION Kc28
        have S_ROTATION_270_28 := own_sta_keep S_ROTATION_270 Kc28 (own_plain E_a1 (fun _ q => nomatch q))
        have E_w_ROTATION_270_28 := Exa.keep E_w_ROTATION_270 Kc28
        have S_ROTATION_180_28 := own_sta_keep S_ROTATION_180 Kc28 (own_plain E_a1 (fun _ q => nomatch q))
        have E_w_ROTATION_180_28 := Exa.keep E_w_ROTATION_180 Kc28
        have S_ROTATION_90_28 := own_sta_keep S_ROTATION_90 Kc28 (own_plain E_a1 (fun _ q => nomatch q))
        have E_w_ROTATION_90_28 := Exa.keep E_w_ROTATION_90 Kc28
        have E_a1_28 := Exa.keep E_a1 Kc28
        have Z28 : n0 ≤ T28.heap.size := Nat.le_trans Z0 Kc28.1
        have B28 : _ ≤ T28.heap.size := Nat.le_trans hB Kc28.1
        refine Go.mp st28 ?_
        show Go p e below (T28.setTop (mkF m 84 #[.val (.int p1), .val (.int p2), .val (.int p3), .val (.int p4), .val (.int p5), .val (.int p6), .val (.ref a1), .val (.int (1 : Int32)), .unset, .unset, .unset, .unset] [])) _
        refine g_iloadN X28 hx (hb hby at_84) rfl ?_
        refine g_iconst X28 hx (3 : Int32) (hb hby at_85) (by decide) ?_
        refine g_iand X28 hx (hb hby at_86) ?_
        refine g_istore X28 hx #[.val (.int p1), .val (.int p2), .val (.int p3), .val (.int p4), .val (.int p5), .val (.int p6), .val (.ref a1), .val (.int (p4 &&& (3 : Int32))), .unset, .unset, .unset, .unset] (hb hby at_87) rfl ?_
        show Go p e below (T28.setTop (mkF m 89 #[.val (.int p1), .val (.int p2), .val (.int p3), .val (.int p4), .val (.int p5), .val (.int p6), .val (.ref a1), .val (.int (p4 &&& (3 : Int32))), .unset, .unset, .unset, .unset] [])) _
        exact seg_4 l Z a0 hw p1 p2 p3 p4 p5 p6 a1 (p4 &&& (3 : Int32)) (.ref w_ROTATION_180) (1 : Int32) w_ROTATION_0 w_APPLICATION w_ROTATION_270 w_ROTATION_180 w_ROTATION_90 T28.heap n0 Z28 S_ROTATION_0_28 E_w_ROTATION_0_28 S_APPLICATION_28 E_w_APPLICATION_28 S_ROTATION_270_28 E_w_ROTATION_270_28 S_ROTATION_180_28 E_w_ROTATION_180_28 S_ROTATION_90_28 E_w_ROTATION_90_28 ne_ROTATION_0_ROTATION_270 ne_ROTATION_0_ROTATION_90 ne_ROTATION_0_ROTATION_180 ne_ROTATION_270_ROTATION_90 ne_ROTATION_270_ROTATION_180 ne_ROTATION_90_ROTATION_180 E_a1_28 Fk28_1 Fk28_0 g_a1 (Or.inr (Or.inr (Or.inr (Or.inl ⟨q22, rfl⟩)))) hx hby hml hown hnm hret hlk hZ X28 (rfl : T28.heap = T28.heap) N28 hS B28
      · obtain ⟨v29, T29, L29, X29, q29, st29⟩ := own_callS X0 hx hZ (y := (⟨"com/example/reorient/reorient/service/WindowPictureOfPinLaw", "rot", "(I)Lcom/example/reorient/reorient/model/Rotation;"⟩ : MethodName)) (pc := 78) (Ls := #[.val (.int p1), .val (.int p2), .val (.int p3), .val (.int p4), .val (.int p5), .val (.int p6), .val (.ref a1), .val (.int (1 : Int32)), .unset, .unset, .unset, .unset]) (st := [(.int p4), (.ref a1)]) hown (hw _ (List.mem_of_getElem? (i := 11) rfl)) (hw _ (List.mem_of_getElem? (i := 12) rfl)) (hw _ (List.mem_of_getElem? (i := 13) rfl)) (hw _ (List.mem_of_getElem? (i := 14) rfl)) (by decide) (rm_rot l Z a0 hw p4 w_ROTATION_0 w_ROTATION_90 w_ROTATION_180 w_ROTATION_270 h0 n0 Z0 S_ROTATION_0 S_ROTATION_90 S_ROTATION_180 S_ROTATION_270) e0 pd_1 (hb hby at_78) (by rw [hml]; rfl) (argsL := [(.int p4)]) (rest := [(.ref a1)]) rfl rfl rfl (W := 1) (Nat.le_of_eq rfl) (by decide) (by decide) (by decide) (by decide)
        obtain ⟨rfl, M29, e29⟩ := q29
        have N29 := Fr.app N0 M29
        have r29 : (f_rot p4 w_ROTATION_0 w_ROTATION_90 w_ROTATION_180 w_ROTATION_270) = w_ROTATION_270 := by rw [f_rot, if_neg ((by rw [q22]; decide) : ¬ ((p4 &&& (3 : Int32)) = (0 : Int32))), if_neg ((by rw [q22]; decide) : ¬ ((p4 &&& (3 : Int32)) = (1 : Int32))), if_neg ((by rw [q22]; decide) : ¬ ((p4 &&& (3 : Int32)) = (2 : Int32)))]
        rw [r29] at st29
        refine Go.mp st29 ?_
        show Go p e below (T29.setTop (mkF m 81 #[.val (.int p1), .val (.int p2), .val (.int p3), .val (.int p4), .val (.int p5), .val (.int p6), .val (.ref a1), .val (.int (1 : Int32)), .unset, .unset, .unset, .unset] [(.ref w_ROTATION_270), (.ref a1)])) _
        obtain ⟨v30, T30, L30, X30, q30, st30⟩ := own_callV X29 hx hZ (y := (⟨"com/example/reorient/reorient/service/Window", "reportDrawn", "(Lcom/example/reorient/reorient/model/Rotation;)V"⟩ : MethodName)) (pc := 81) (Ls := #[.val (.int p1), .val (.int p2), .val (.int p3), .val (.int p4), .val (.int p5), .val (.int p6), .val (.ref a1), .val (.int (1 : Int32)), .unset, .unset, .unset, .unset]) (st := [(.ref w_ROTATION_270), (.ref a1)]) hown (hw _ (List.mem_of_getElem? (i := 60) rfl)) (hw _ (List.mem_of_getElem? (i := 61) rfl)) (hw _ (List.mem_of_getElem? (i := 63) rfl)) (hw _ (List.mem_of_getElem? (i := 62) rfl)) (hw _ (List.mem_of_getElem? (i := 64) rfl)) (hw _ (List.mem_of_getElem? (i := 2) rfl)) (by decide) (rm_reportDrawn l Z a0 hw a1 w_ROTATION_270 (.ref w_ROTATION_90) dz h0 n0 Z0 E_a1 F_a1_drawn F_a1_picture g_a1) e29 E_a1 pd_2 (hb hby at_81) (by rw [hml]; rfl) (argsL := [(.ref w_ROTATION_270)]) (rest := []) rfl rfl rfl (W := 0) (Nat.le_of_eq rfl) (by decide) (by decide) (by decide) (by decide)
        obtain ⟨rv30, M30, Kc30, Fk30_0, Fk30_1⟩ := q30
        have N30 := Fr.app N29 M30
        subst rv30
        have S_ROTATION_0_30 := own_sta_keep S_ROTATION_0 Kc30 (own_plain E_a1 (fun _ q => nomatch q))
        have E_w_ROTATION_0_30 := Exa.keep E_w_ROTATION_0 Kc30
        have S_APPLICATION_30 := own_sta_keep S_APPLICATION Kc30 (own_plain E_a1 (fun _ q => nomatch q))
        have E_w_APPLICATION_30 := Exa.keep E_w_APPLICATION Kc30
        have S_ROTATION_270_30 := own_sta_keep S_ROTATION_270 Kc30 (own_plain E_a1 (fun _ q => nomatch q))
        have E_w_ROTATION_270_30 := Exa.keep E_w_ROTATION_270 Kc30
        have S_ROTATION_180_30 := own_sta_keep S_ROTATION_180 Kc30 (own_plain E_a1 (fun _ q => nomatch q))
        have E_w_ROTATION_180_30 := Exa.keep E_w_ROTATION_180 Kc30
        have S_ROTATION_90_30 := own_sta_keep S_ROTATION_90 Kc30 (own_plain E_a1 (fun _ q => nomatch q))
        have E_w_ROTATION_90_30 := Exa.keep E_w_ROTATION_90 Kc30
        have E_a1_30 := Exa.keep E_a1 Kc30
        have Z30 : n0 ≤ T30.heap.size := Nat.le_trans Z0 Kc30.1
        have B30 : _ ≤ T30.heap.size := Nat.le_trans hB Kc30.1
        refine Go.mp st30 ?_
        show Go p e below (T30.setTop (mkF m 84 #[.val (.int p1), .val (.int p2), .val (.int p3), .val (.int p4), .val (.int p5), .val (.int p6), .val (.ref a1), .val (.int (1 : Int32)), .unset, .unset, .unset, .unset] [])) _
        refine g_iloadN X30 hx (hb hby at_84) rfl ?_
        refine g_iconst X30 hx (3 : Int32) (hb hby at_85) (by decide) ?_
        refine g_iand X30 hx (hb hby at_86) ?_
        refine g_istore X30 hx #[.val (.int p1), .val (.int p2), .val (.int p3), .val (.int p4), .val (.int p5), .val (.int p6), .val (.ref a1), .val (.int (p4 &&& (3 : Int32))), .unset, .unset, .unset, .unset] (hb hby at_87) rfl ?_
        show Go p e below (T30.setTop (mkF m 89 #[.val (.int p1), .val (.int p2), .val (.int p3), .val (.int p4), .val (.int p5), .val (.int p6), .val (.ref a1), .val (.int (p4 &&& (3 : Int32))), .unset, .unset, .unset, .unset] [])) _
        exact seg_4 l Z a0 hw p1 p2 p3 p4 p5 p6 a1 (p4 &&& (3 : Int32)) (.ref w_ROTATION_270) (1 : Int32) w_ROTATION_0 w_APPLICATION w_ROTATION_270 w_ROTATION_180 w_ROTATION_90 T30.heap n0 Z30 S_ROTATION_0_30 E_w_ROTATION_0_30 S_APPLICATION_30 E_w_APPLICATION_30 S_ROTATION_270_30 E_w_ROTATION_270_30 S_ROTATION_180_30 E_w_ROTATION_180_30 S_ROTATION_90_30 E_w_ROTATION_90_30 ne_ROTATION_0_ROTATION_270 ne_ROTATION_0_ROTATION_90 ne_ROTATION_0_ROTATION_180 ne_ROTATION_270_ROTATION_90 ne_ROTATION_270_ROTATION_180 ne_ROTATION_90_ROTATION_180 E_a1_30 Fk30_1 Fk30_0 g_a1 (Or.inr (Or.inr (Or.inr (Or.inr (⟨q22, rfl⟩))))) hx hby hml hown hnm hret hlk hZ X30 (rfl : T30.heap = T30.heap) N30 hS B30
  · refine g_iload X0 hx (hb hby at_68) rfl ?_
    refine g_iconst X0 hx (4 : Int32) (hb hby at_70) (by decide) ?_
    refine g_iand X0 hx (hb hby at_71) ?_
    by_cases c72_31 : (p6 &&& (4 : Int32)) = (0 : Int32)
    · refine g_ifYes X0 hx 89 (hb hby at_72) ((if0 _ _).trans (teq c72_31).1) (by decide) (by decide) ?_
      show Go p e below (s₁.setTop (mkF m 89 #[.val (.int p1), .val (.int p2), .val (.int p3), .val (.int p4), .val (.int p5), .val (.int p6), .val (.ref a1), .val (.int (2 : Int32)), .unset, .unset, .unset, .unset] [])) _
      exact seg_4 l Z a0 hw p1 p2 p3 p4 p5 p6 a1 (2 : Int32) (.ref w_ROTATION_180) dz w_ROTATION_0 w_APPLICATION w_ROTATION_270 w_ROTATION_180 w_ROTATION_90 h0 n0 Z0 S_ROTATION_0 E_w_ROTATION_0 S_APPLICATION E_w_APPLICATION S_ROTATION_270 E_w_ROTATION_270 S_ROTATION_180 E_w_ROTATION_180 S_ROTATION_90 E_w_ROTATION_90 ne_ROTATION_0_ROTATION_270 ne_ROTATION_0_ROTATION_90 ne_ROTATION_0_ROTATION_180 ne_ROTATION_270_ROTATION_90 ne_ROTATION_270_ROTATION_180 ne_ROTATION_90_ROTATION_180 E_a1 F_a1_picture F_a1_drawn g_a1 (Or.inr (Or.inr (Or.inr (Or.inl ⟨rfl, rfl⟩)))) hx hby hml hown hnm hret hlk hZ X0 e0 N0 hS hB
    · refine g_ifNo X0 hx (hb hby at_72) ((if0 _ _).trans (feq c72_31).1) ?_
      refine g_aload X0 hx (hb hby at_75) rfl rfl ?_
      refine g_iloadN X0 hx (hb hby at_77) rfl ?_
      show Go p e below (s₁.setTop (mkF m 78 #[.val (.int p1), .val (.int p2), .val (.int p3), .val (.int p4), .val (.int p5), .val (.int p6), .val (.ref a1), .val (.int (2 : Int32)), .unset, .unset, .unset, .unset] [(.int p4), (.ref a1)])) _
      rcases own_and3 p4 with q32 | q32 | q32 | q32
      · obtain ⟨v33, T33, L33, X33, q33, st33⟩ := own_callS X0 hx hZ (y := (⟨"com/example/reorient/reorient/service/WindowPictureOfPinLaw", "rot", "(I)Lcom/example/reorient/reorient/model/Rotation;"⟩ : MethodName)) (pc := 78) (Ls := #[.val (.int p1), .val (.int p2), .val (.int p3), .val (.int p4), .val (.int p5), .val (.int p6), .val (.ref a1), .val (.int (2 : Int32)), .unset, .unset, .unset, .unset]) (st := [(.int p4), (.ref a1)]) hown (hw _ (List.mem_of_getElem? (i := 11) rfl)) (hw _ (List.mem_of_getElem? (i := 12) rfl)) (hw _ (List.mem_of_getElem? (i := 13) rfl)) (hw _ (List.mem_of_getElem? (i := 14) rfl)) (by decide) (rm_rot l Z a0 hw p4 w_ROTATION_0 w_ROTATION_90 w_ROTATION_180 w_ROTATION_270 h0 n0 Z0 S_ROTATION_0 S_ROTATION_90 S_ROTATION_180 S_ROTATION_270) e0 pd_1 (hb hby at_78) (by rw [hml]; rfl) (argsL := [(.int p4)]) (rest := [(.ref a1)]) rfl rfl rfl (W := 1) (Nat.le_of_eq rfl) (by decide) (by decide) (by decide) (by decide)
        obtain ⟨rfl, M33, e33⟩ := q33
        have N33 := Fr.app N0 M33
        have r33 : (f_rot p4 w_ROTATION_0 w_ROTATION_90 w_ROTATION_180 w_ROTATION_270) = w_ROTATION_0 := by rw [f_rot, if_pos (q32 : (p4 &&& (3 : Int32)) = (0 : Int32))]
        rw [r33] at st33
        refine Go.mp st33 ?_
        show Go p e below (T33.setTop (mkF m 81 #[.val (.int p1), .val (.int p2), .val (.int p3), .val (.int p4), .val (.int p5), .val (.int p6), .val (.ref a1), .val (.int (2 : Int32)), .unset, .unset, .unset, .unset] [(.ref w_ROTATION_0), (.ref a1)])) _
        obtain ⟨v34, T34, L34, X34, q34, st34⟩ := own_callV X33 hx hZ (y := (⟨"com/example/reorient/reorient/service/Window", "reportDrawn", "(Lcom/example/reorient/reorient/model/Rotation;)V"⟩ : MethodName)) (pc := 81) (Ls := #[.val (.int p1), .val (.int p2), .val (.int p3), .val (.int p4), .val (.int p5), .val (.int p6), .val (.ref a1), .val (.int (2 : Int32)), .unset, .unset, .unset, .unset]) (st := [(.ref w_ROTATION_0), (.ref a1)]) hown (hw _ (List.mem_of_getElem? (i := 60) rfl)) (hw _ (List.mem_of_getElem? (i := 61) rfl)) (hw _ (List.mem_of_getElem? (i := 63) rfl)) (hw _ (List.mem_of_getElem? (i := 62) rfl)) (hw _ (List.mem_of_getElem? (i := 64) rfl)) (hw _ (List.mem_of_getElem? (i := 2) rfl)) (by decide) (rm_reportDrawn l Z a0 hw a1 w_ROTATION_0 (.ref w_ROTATION_180) dz h0 n0 Z0 E_a1 F_a1_drawn F_a1_picture g_a1) e33 E_a1 pd_2 (hb hby at_81) (by rw [hml]; rfl) (argsL := [(.ref w_ROTATION_0)]) (rest := []) rfl rfl rfl (W := 0) (Nat.le_of_eq rfl) (by decide) (by decide) (by decide) (by decide)
        obtain ⟨rv34, M34, Kc34, Fk34_0, Fk34_1⟩ := q34
        have N34 := Fr.app N33 M34
        subst rv34
        have S_ROTATION_0_34 := own_sta_keep S_ROTATION_0 Kc34 (own_plain E_a1 (fun _ q => nomatch q))
        have E_w_ROTATION_0_34 := Exa.keep E_w_ROTATION_0 Kc34
        have S_APPLICATION_34 := own_sta_keep S_APPLICATION Kc34 (own_plain E_a1 (fun _ q => nomatch q))
        have E_w_APPLICATION_34 := Exa.keep E_w_APPLICATION Kc34
        have S_ROTATION_270_34 := own_sta_keep S_ROTATION_270 Kc34 (own_plain E_a1 (fun _ q => nomatch q))
        have E_w_ROTATION_270_34 := Exa.keep E_w_ROTATION_270 Kc34
        have S_ROTATION_180_34 := own_sta_keep S_ROTATION_180 Kc34 (own_plain E_a1 (fun _ q => nomatch q))
        have E_w_ROTATION_180_34 := Exa.keep E_w_ROTATION_180 Kc34
        have S_ROTATION_90_34 := own_sta_keep S_ROTATION_90 Kc34 (own_plain E_a1 (fun _ q => nomatch q))
        have E_w_ROTATION_90_34 := Exa.keep E_w_ROTATION_90 Kc34
        have E_a1_34 := Exa.keep E_a1 Kc34
        have Z34 : n0 ≤ T34.heap.size := Nat.le_trans Z0 Kc34.1
        have B34 : _ ≤ T34.heap.size := Nat.le_trans hB Kc34.1
        refine Go.mp st34 ?_
        show Go p e below (T34.setTop (mkF m 84 #[.val (.int p1), .val (.int p2), .val (.int p3), .val (.int p4), .val (.int p5), .val (.int p6), .val (.ref a1), .val (.int (2 : Int32)), .unset, .unset, .unset, .unset] [])) _
        refine g_iloadN X34 hx (hb hby at_84) rfl ?_
        refine g_iconst X34 hx (3 : Int32) (hb hby at_85) (by decide) ?_
        refine g_iand X34 hx (hb hby at_86) ?_
        refine g_istore X34 hx #[.val (.int p1), .val (.int p2), .val (.int p3), .val (.int p4), .val (.int p5), .val (.int p6), .val (.ref a1), .val (.int (p4 &&& (3 : Int32))), .unset, .unset, .unset, .unset] (hb hby at_87) rfl ?_
        show Go p e below (T34.setTop (mkF m 89 #[.val (.int p1), .val (.int p2), .val (.int p3), .val (.int p4), .val (.int p5), .val (.int p6), .val (.ref a1), .val (.int (p4 &&& (3 : Int32))), .unset, .unset, .unset, .unset] [])) _
        exact seg_4 l Z a0 hw p1 p2 p3 p4 p5 p6 a1 (p4 &&& (3 : Int32)) (.ref w_ROTATION_0) (1 : Int32) w_ROTATION_0 w_APPLICATION w_ROTATION_270 w_ROTATION_180 w_ROTATION_90 T34.heap n0 Z34 S_ROTATION_0_34 E_w_ROTATION_0_34 S_APPLICATION_34 E_w_APPLICATION_34 S_ROTATION_270_34 E_w_ROTATION_270_34 S_ROTATION_180_34 E_w_ROTATION_180_34 S_ROTATION_90_34 E_w_ROTATION_90_34 ne_ROTATION_0_ROTATION_270 ne_ROTATION_0_ROTATION_90 ne_ROTATION_0_ROTATION_180 ne_ROTATION_270_ROTATION_90 ne_ROTATION_270_ROTATION_180 ne_ROTATION_90_ROTATION_180 E_a1_34 Fk34_1 Fk34_0 g_a1 (Or.inr (Or.inl ⟨q32, rfl⟩)) hx hby hml hown hnm hret hlk hZ X34 (rfl : T34.heap = T34.heap) N34 hS B34
      · obtain ⟨v35, T35, L35, X35, q35, st35⟩ := own_callS X0 hx hZ (y := (⟨"com/example/reorient/reorient/service/WindowPictureOfPinLaw", "rot", "(I)Lcom/example/reorient/reorient/model/Rotation;"⟩ : MethodName)) (pc := 78) (Ls := #[.val (.int p1), .val (.int p2), .val (.int p3), .val (.int p4), .val (.int p5), .val (.int p6), .val (.ref a1), .val (.int (2 : Int32)), .unset, .unset, .unset, .unset]) (st := [(.int p4), (.ref a1)]) hown (hw _ (List.mem_of_getElem? (i := 11) rfl)) (hw _ (List.mem_of_getElem? (i := 12) rfl)) (hw _ (List.mem_of_getElem? (i := 13) rfl)) (hw _ (List.mem_of_getElem? (i := 14) rfl)) (by decide) (rm_rot l Z a0 hw p4 w_ROTATION_0 w_ROTATION_90 w_ROTATION_180 w_ROTATION_270 h0 n0 Z0 S_ROTATION_0 S_ROTATION_90 S_ROTATION_180 S_ROTATION_270) e0 pd_1 (hb hby at_78) (by rw [hml]; rfl) (argsL := [(.int p4)]) (rest := [(.ref a1)]) rfl rfl rfl (W := 1) (Nat.le_of_eq rfl) (by decide) (by decide) (by decide) (by decide)
        obtain ⟨rfl, M35, e35⟩ := q35
        have N35 := Fr.app N0 M35
        have r35 : (f_rot p4 w_ROTATION_0 w_ROTATION_90 w_ROTATION_180 w_ROTATION_270) = w_ROTATION_90 := by rw [f_rot, if_neg ((by rw [q32]; decide) : ¬ ((p4 &&& (3 : Int32)) = (0 : Int32))), if_pos (q32 : (p4 &&& (3 : Int32)) = (1 : Int32))]
        rw [r35] at st35
        refine Go.mp st35 ?_
        show Go p e below (T35.setTop (mkF m 81 #[.val (.int p1), .val (.int p2), .val (.int p3), .val (.int p4), .val (.int p5), .val (.int p6), .val (.ref a1), .val (.int (2 : Int32)), .unset, .unset, .unset, .unset] [(.ref w_ROTATION_90), (.ref a1)])) _
        obtain ⟨v36, T36, L36, X36, q36, st36⟩ := own_callV X35 hx hZ (y := (⟨"com/example/reorient/reorient/service/Window", "reportDrawn", "(Lcom/example/reorient/reorient/model/Rotation;)V"⟩ : MethodName)) (pc := 81) (Ls := #[.val (.int p1), .val (.int p2), .val (.int p3), .val (.int p4), .val (.int p5), .val (.int p6), .val (.ref a1), .val (.int (2 : Int32)), .unset, .unset, .unset, .unset]) (st := [(.ref w_ROTATION_90), (.ref a1)]) hown (hw _ (List.mem_of_getElem? (i := 60) rfl)) (hw _ (List.mem_of_getElem? (i := 61) rfl)) (hw _ (List.mem_of_getElem? (i := 63) rfl)) (hw _ (List.mem_of_getElem? (i := 62) rfl)) (hw _ (List.mem_of_getElem? (i := 64) rfl)) (hw _ (List.mem_of_getElem? (i := 2) rfl)) (by decide) (rm_reportDrawn l Z a0 hw a1 w_ROTATION_90 (.ref w_ROTATION_180) dz h0 n0 Z0 E_a1 F_a1_drawn F_a1_picture g_a1) e35 E_a1 pd_2 (hb hby at_81) (by rw [hml]; rfl) (argsL := [(.ref w_ROTATION_90)]) (rest := []) rfl rfl rfl (W := 0) (Nat.le_of_eq rfl) (by decide) (by decide) (by decide) (by decide)
        obtain ⟨rv36, M36, Kc36, Fk36_0, Fk36_1⟩ := q36
        have N36 := Fr.app N35 M36
        subst rv36
        have S_ROTATION_0_36 := own_sta_keep S_ROTATION_0 Kc36 (own_plain E_a1 (fun _ q => nomatch q))
        have E_w_ROTATION_0_36 := Exa.keep E_w_ROTATION_0 Kc36
        have S_APPLICATION_36 := own_sta_keep S_APPLICATION Kc36 (own_plain E_a1 (fun _ q => nomatch q))
        have E_w_APPLICATION_36 := Exa.keep E_w_APPLICATION Kc36
        have S_ROTATION_270_36 := own_sta_keep S_ROTATION_270 Kc36 (own_plain E_a1 (fun _ q => nomatch q))
        have E_w_ROTATION_270_36 := Exa.keep E_w_ROTATION_270 Kc36
        have S_ROTATION_180_36 := own_sta_keep S_ROTATION_180 Kc36 (own_plain E_a1 (fun _ q => nomatch q))
        have E_w_ROTATION_180_36 := Exa.keep E_w_ROTATION_180 Kc36
        have S_ROTATION_90_36 := own_sta_keep S_ROTATION_90 Kc36 (own_plain E_a1 (fun _ q => nomatch q))
        have E_w_ROTATION_90_36 := Exa.keep E_w_ROTATION_90 Kc36
        have E_a1_36 := Exa.keep E_a1 Kc36
        have Z36 : n0 ≤ T36.heap.size := Nat.le_trans Z0 Kc36.1
        have B36 : _ ≤ T36.heap.size := Nat.le_trans hB Kc36.1
        refine Go.mp st36 ?_
        show Go p e below (T36.setTop (mkF m 84 #[.val (.int p1), .val (.int p2), .val (.int p3), .val (.int p4), .val (.int p5), .val (.int p6), .val (.ref a1), .val (.int (2 : Int32)), .unset, .unset, .unset, .unset] [])) _
        refine g_iloadN X36 hx (hb hby at_84) rfl ?_
        refine g_iconst X36 hx (3 : Int32) (hb hby at_85) (by decide) ?_
        refine g_iand X36 hx (hb hby at_86) ?_
        refine g_istore X36 hx #[.val (.int p1), .val (.int p2), .val (.int p3), .val (.int p4), .val (.int p5), .val (.int p6), .val (.ref a1), .val (.int (p4 &&& (3 : Int32))), .unset, .unset, .unset, .unset] (hb hby at_87) rfl ?_
        show Go p e below (T36.setTop (mkF m 89 #[.val (.int p1), .val (.int p2), .val (.int p3), .val (.int p4), .val (.int p5), .val (.int p6), .val (.ref a1), .val (.int (p4 &&& (3 : Int32))), .unset, .unset, .unset, .unset] [])) _
        exact seg_4 l Z a0 hw p1 p2 p3 p4 p5 p6 a1 (p4 &&& (3 : Int32)) (.ref w_ROTATION_90) (1 : Int32) w_ROTATION_0 w_APPLICATION w_ROTATION_270 w_ROTATION_180 w_ROTATION_90 T36.heap n0 Z36 S_ROTATION_0_36 E_w_ROTATION_0_36 S_APPLICATION_36 E_w_APPLICATION_36 S_ROTATION_270_36 E_w_ROTATION_270_36 S_ROTATION_180_36 E_w_ROTATION_180_36 S_ROTATION_90_36 E_w_ROTATION_90_36 ne_ROTATION_0_ROTATION_270 ne_ROTATION_0_ROTATION_90 ne_ROTATION_0_ROTATION_180 ne_ROTATION_270_ROTATION_90 ne_ROTATION_270_ROTATION_180 ne_ROTATION_90_ROTATION_180 E_a1_36 Fk36_1 Fk36_0 g_a1 (Or.inr (Or.inr (Or.inl ⟨q32, rfl⟩))) hx hby hml hown hnm hret hlk hZ X36 (rfl : T36.heap = T36.heap) N36 hS B36
      · obtain ⟨v37, T37, L37, X37, q37, st37⟩ := own_callS X0 hx hZ (y := (⟨"com/example/reorient/reorient/service/WindowPictureOfPinLaw", "rot", "(I)Lcom/example/reorient/reorient/model/Rotation;"⟩ : MethodName)) (pc := 78) (Ls := #[.val (.int p1), .val (.int p2), .val (.int p3), .val (.int p4), .val (.int p5), .val (.int p6), .val (.ref a1), .val (.int (2 : Int32)), .unset, .unset, .unset, .unset]) (st := [(.int p4), (.ref a1)]) hown (hw _ (List.mem_of_getElem? (i := 11) rfl)) (hw _ (List.mem_of_getElem? (i := 12) rfl)) (hw _ (List.mem_of_getElem? (i := 13) rfl)) (hw _ (List.mem_of_getElem? (i := 14) rfl)) (by decide) (rm_rot l Z a0 hw p4 w_ROTATION_0 w_ROTATION_90 w_ROTATION_180 w_ROTATION_270 h0 n0 Z0 S_ROTATION_0 S_ROTATION_90 S_ROTATION_180 S_ROTATION_270) e0 pd_1 (hb hby at_78) (by rw [hml]; rfl) (argsL := [(.int p4)]) (rest := [(.ref a1)]) rfl rfl rfl (W := 1) (Nat.le_of_eq rfl) (by decide) (by decide) (by decide) (by decide)
        obtain ⟨rfl, M37, e37⟩ := q37
        have N37 := Fr.app N0 M37
        have r37 : (f_rot p4 w_ROTATION_0 w_ROTATION_90 w_ROTATION_180 w_ROTATION_270) = w_ROTATION_180 := by rw [f_rot, if_neg ((by rw [q32]; decide) : ¬ ((p4 &&& (3 : Int32)) = (0 : Int32))), if_neg ((by rw [q32]; decide) : ¬ ((p4 &&& (3 : Int32)) = (1 : Int32))), if_pos (q32 : (p4 &&& (3 : Int32)) = (2 : Int32))]
        rw [r37] at st37
        refine Go.mp st37 ?_
        show Go p e below (T37.setTop (mkF m 81 #[.val (.int p1), .val (.int p2), .val (.int p3), .val (.int p4), .val (.int p5), .val (.int p6), .val (.ref a1), .val (.int (2 : Int32)), .unset, .unset, .unset, .unset] [(.ref w_ROTATION_180), (.ref a1)])) _
        obtain ⟨v38, T38, L38, X38, q38, st38⟩ := own_callV X37 hx hZ (y := (⟨"com/example/reorient/reorient/service/Window", "reportDrawn", "(Lcom/example/reorient/reorient/model/Rotation;)V"⟩ : MethodName)) (pc := 81) (Ls := #[.val (.int p1), .val (.int p2), .val (.int p3), .val (.int p4), .val (.int p5), .val (.int p6), .val (.ref a1), .val (.int (2 : Int32)), .unset, .unset, .unset, .unset]) (st := [(.ref w_ROTATION_180), (.ref a1)]) hown (hw _ (List.mem_of_getElem? (i := 60) rfl)) (hw _ (List.mem_of_getElem? (i := 61) rfl)) (hw _ (List.mem_of_getElem? (i := 63) rfl)) (hw _ (List.mem_of_getElem? (i := 62) rfl)) (hw _ (List.mem_of_getElem? (i := 64) rfl)) (hw _ (List.mem_of_getElem? (i := 2) rfl)) (by decide) (rm_reportDrawn l Z a0 hw a1 w_ROTATION_180 (.ref w_ROTATION_180) dz h0 n0 Z0 E_a1 F_a1_drawn F_a1_picture g_a1) e37 E_a1 pd_2 (hb hby at_81) (by rw [hml]; rfl) (argsL := [(.ref w_ROTATION_180)]) (rest := []) rfl rfl rfl (W := 0) (Nat.le_of_eq rfl) (by decide) (by decide) (by decide) (by decide)
        obtain ⟨rv38, M38, Kc38, Fk38_0, Fk38_1⟩ := q38
        have N38 := Fr.app N37 M38
        subst rv38
        have S_ROTATION_0_38 := own_sta_keep S_ROTATION_0 Kc38 (own_plain E_a1 (fun _ q => nomatch q))
        have E_w_ROTATION_0_38 := Exa.keep E_w_ROTATION_0 Kc38
        have S_APPLICATION_38 := own_sta_keep S_APPLICATION Kc38 (own_plain E_a1 (fun _ q => nomatch q))
        have E_w_APPLICATION_38 := Exa.keep E_w_APPLICATION Kc38
        have S_ROTATION_270_38 := own_sta_keep S_ROTATION_270 Kc38 (own_plain E_a1 (fun _ q => nomatch q))
        have E_w_ROTATION_270_38 := Exa.keep E_w_ROTATION_270 Kc38
        have S_ROTATION_180_38 := own_sta_keep S_ROTATION_180 Kc38 (own_plain E_a1 (fun _ q => nomatch q))
        have E_w_ROTATION_180_38 := Exa.keep E_w_ROTATION_180 Kc38
        have S_ROTATION_90_38 := own_sta_keep S_ROTATION_90 Kc38 (own_plain E_a1 (fun _ q => nomatch q))
        have E_w_ROTATION_90_38 := Exa.keep E_w_ROTATION_90 Kc38
        have E_a1_38 := Exa.keep E_a1 Kc38
        have Z38 : n0 ≤ T38.heap.size := Nat.le_trans Z0 Kc38.1
        have B38 : _ ≤ T38.heap.size := Nat.le_trans hB Kc38.1
        refine Go.mp st38 ?_
        show Go p e below (T38.setTop (mkF m 84 #[.val (.int p1), .val (.int p2), .val (.int p3), .val (.int p4), .val (.int p5), .val (.int p6), .val (.ref a1), .val (.int (2 : Int32)), .unset, .unset, .unset, .unset] [])) _
        refine g_iloadN X38 hx (hb hby at_84) rfl ?_
        refine g_iconst X38 hx (3 : Int32) (hb hby at_85) (by decide) ?_
        refine g_iand X38 hx (hb hby at_86) ?_
        refine g_istore X38 hx #[.val (.int p1), .val (.int p2), .val (.int p3), .val (.int p4), .val (.int p5), .val (.int p6), .val (.ref a1), .val (.int (p4 &&& (3 : Int32))), .unset, .unset, .unset, .unset] (hb hby at_87) rfl ?_
        show Go p e below (T38.setTop (mkF m 89 #[.val (.int p1), .val (.int p2), .val (.int p3), .val (.int p4), .val (.int p5), .val (.int p6), .val (.ref a1), .val (.int (p4 &&& (3 : Int32))), .unset, .unset, .unset, .unset] [])) _
        exact seg_4 l Z a0 hw p1 p2 p3 p4 p5 p6 a1 (p4 &&& (3 : Int32)) (.ref w_ROTATION_180) (1 : Int32) w_ROTATION_0 w_APPLICATION w_ROTATION_270 w_ROTATION_180 w_ROTATION_90 T38.heap n0 Z38 S_ROTATION_0_38 E_w_ROTATION_0_38 S_APPLICATION_38 E_w_APPLICATION_38 S_ROTATION_270_38 E_w_ROTATION_270_38 S_ROTATION_180_38 E_w_ROTATION_180_38 S_ROTATION_90_38 E_w_ROTATION_90_38 ne_ROTATION_0_ROTATION_270 ne_ROTATION_0_ROTATION_90 ne_ROTATION_0_ROTATION_180 ne_ROTATION_270_ROTATION_90 ne_ROTATION_270_ROTATION_180 ne_ROTATION_90_ROTATION_180 E_a1_38 Fk38_1 Fk38_0 g_a1 (Or.inr (Or.inr (Or.inr (Or.inl ⟨q32, rfl⟩)))) hx hby hml hown hnm hret hlk hZ X38 (rfl : T38.heap = T38.heap) N38 hS B38
      · obtain ⟨v39, T39, L39, X39, q39, st39⟩ := own_callS X0 hx hZ (y := (⟨"com/example/reorient/reorient/service/WindowPictureOfPinLaw", "rot", "(I)Lcom/example/reorient/reorient/model/Rotation;"⟩ : MethodName)) (pc := 78) (Ls := #[.val (.int p1), .val (.int p2), .val (.int p3), .val (.int p4), .val (.int p5), .val (.int p6), .val (.ref a1), .val (.int (2 : Int32)), .unset, .unset, .unset, .unset]) (st := [(.int p4), (.ref a1)]) hown (hw _ (List.mem_of_getElem? (i := 11) rfl)) (hw _ (List.mem_of_getElem? (i := 12) rfl)) (hw _ (List.mem_of_getElem? (i := 13) rfl)) (hw _ (List.mem_of_getElem? (i := 14) rfl)) (by decide) (rm_rot l Z a0 hw p4 w_ROTATION_0 w_ROTATION_90 w_ROTATION_180 w_ROTATION_270 h0 n0 Z0 S_ROTATION_0 S_ROTATION_90 S_ROTATION_180 S_ROTATION_270) e0 pd_1 (hb hby at_78) (by rw [hml]; rfl) (argsL := [(.int p4)]) (rest := [(.ref a1)]) rfl rfl rfl (W := 1) (Nat.le_of_eq rfl) (by decide) (by decide) (by decide) (by decide)
        obtain ⟨rfl, M39, e39⟩ := q39
        have N39 := Fr.app N0 M39
        have r39 : (f_rot p4 w_ROTATION_0 w_ROTATION_90 w_ROTATION_180 w_ROTATION_270) = w_ROTATION_270 := by rw [f_rot, if_neg ((by rw [q32]; decide) : ¬ ((p4 &&& (3 : Int32)) = (0 : Int32))), if_neg ((by rw [q32]; decide) : ¬ ((p4 &&& (3 : Int32)) = (1 : Int32))), if_neg ((by rw [q32]; decide) : ¬ ((p4 &&& (3 : Int32)) = (2 : Int32)))]
        rw [r39] at st39
        refine Go.mp st39 ?_
        show Go p e below (T39.setTop (mkF m 81 #[.val (.int p1), .val (.int p2), .val (.int p3), .val (.int p4), .val (.int p5), .val (.int p6), .val (.ref a1), .val (.int (2 : Int32)), .unset, .unset, .unset, .unset] [(.ref w_ROTATION_270), (.ref a1)])) _
        obtain ⟨v40, T40, L40, X40, q40, st40⟩ := own_callV X39 hx hZ (y := (⟨"com/example/reorient/reorient/service/Window", "reportDrawn", "(Lcom/example/reorient/reorient/model/Rotation;)V"⟩ : MethodName)) (pc := 81) (Ls := #[.val (.int p1), .val (.int p2), .val (.int p3), .val (.int p4), .val (.int p5), .val (.int p6), .val (.ref a1), .val (.int (2 : Int32)), .unset, .unset, .unset, .unset]) (st := [(.ref w_ROTATION_270), (.ref a1)]) hown (hw _ (List.mem_of_getElem? (i := 60) rfl)) (hw _ (List.mem_of_getElem? (i := 61) rfl)) (hw _ (List.mem_of_getElem? (i := 63) rfl)) (hw _ (List.mem_of_getElem? (i := 62) rfl)) (hw _ (List.mem_of_getElem? (i := 64) rfl)) (hw _ (List.mem_of_getElem? (i := 2) rfl)) (by decide) (rm_reportDrawn l Z a0 hw a1 w_ROTATION_270 (.ref w_ROTATION_180) dz h0 n0 Z0 E_a1 F_a1_drawn F_a1_picture g_a1) e39 E_a1 pd_2 (hb hby at_81) (by rw [hml]; rfl) (argsL := [(.ref w_ROTATION_270)]) (rest := []) rfl rfl rfl (W := 0) (Nat.le_of_eq rfl) (by decide) (by decide) (by decide) (by decide)
        obtain ⟨rv40, M40, Kc40, Fk40_0, Fk40_1⟩ := q40
        have N40 := Fr.app N39 M40
        subst rv40
        have S_ROTATION_0_40 := own_sta_keep S_ROTATION_0 Kc40 (own_plain E_a1 (fun _ q => nomatch q))
        have E_w_ROTATION_0_40 := Exa.keep E_w_ROTATION_0 Kc40
        have S_APPLICATION_40 := own_sta_keep S_APPLICATION Kc40 (own_plain E_a1 (fun _ q => nomatch q))
        have E_w_APPLICATION_40 := Exa.keep E_w_APPLICATION Kc40
        have S_ROTATION_270_40 := own_sta_keep S_ROTATION_270 Kc40 (own_plain E_a1 (fun _ q => nomatch q))
        have E_w_ROTATION_270_40 := Exa.keep E_w_ROTATION_270 Kc40
        have S_ROTATION_180_40 := own_sta_keep S_ROTATION_180 Kc40 (own_plain E_a1 (fun _ q => nomatch q))
        have E_w_ROTATION_180_40 := Exa.keep E_w_ROTATION_180 Kc40
        have S_ROTATION_90_40 := own_sta_keep S_ROTATION_90 Kc40 (own_plain E_a1 (fun _ q => nomatch q))
        have E_w_ROTATION_90_40 := Exa.keep E_w_ROTATION_90 Kc40
        have E_a1_40 := Exa.keep E_a1 Kc40
        have Z40 : n0 ≤ T40.heap.size := Nat.le_trans Z0 Kc40.1
        have B40 : _ ≤ T40.heap.size := Nat.le_trans hB Kc40.1
        refine Go.mp st40 ?_
        show Go p e below (T40.setTop (mkF m 84 #[.val (.int p1), .val (.int p2), .val (.int p3), .val (.int p4), .val (.int p5), .val (.int p6), .val (.ref a1), .val (.int (2 : Int32)), .unset, .unset, .unset, .unset] [])) _
        refine g_iloadN X40 hx (hb hby at_84) rfl ?_
        refine g_iconst X40 hx (3 : Int32) (hb hby at_85) (by decide) ?_
        refine g_iand X40 hx (hb hby at_86) ?_
        refine g_istore X40 hx #[.val (.int p1), .val (.int p2), .val (.int p3), .val (.int p4), .val (.int p5), .val (.int p6), .val (.ref a1), .val (.int (p4 &&& (3 : Int32))), .unset, .unset, .unset, .unset] (hb hby at_87) rfl ?_
        show Go p e below (T40.setTop (mkF m 89 #[.val (.int p1), .val (.int p2), .val (.int p3), .val (.int p4), .val (.int p5), .val (.int p6), .val (.ref a1), .val (.int (p4 &&& (3 : Int32))), .unset, .unset, .unset, .unset] [])) _
        exact seg_4 l Z a0 hw p1 p2 p3 p4 p5 p6 a1 (p4 &&& (3 : Int32)) (.ref w_ROTATION_270) (1 : Int32) w_ROTATION_0 w_APPLICATION w_ROTATION_270 w_ROTATION_180 w_ROTATION_90 T40.heap n0 Z40 S_ROTATION_0_40 E_w_ROTATION_0_40 S_APPLICATION_40 E_w_APPLICATION_40 S_ROTATION_270_40 E_w_ROTATION_270_40 S_ROTATION_180_40 E_w_ROTATION_180_40 S_ROTATION_90_40 E_w_ROTATION_90_40 ne_ROTATION_0_ROTATION_270 ne_ROTATION_0_ROTATION_90 ne_ROTATION_0_ROTATION_180 ne_ROTATION_270_ROTATION_90 ne_ROTATION_270_ROTATION_180 ne_ROTATION_90_ROTATION_180 E_a1_40 Fk40_1 Fk40_0 g_a1 (Or.inr (Or.inr (Or.inr (Or.inr (⟨q32, rfl⟩))))) hx hby hml hown hnm hret hlk hZ X40 (rfl : T40.heap = T40.heap) N40 hS B40
  · refine g_iload X0 hx (hb hby at_68) rfl ?_
    refine g_iconst X0 hx (4 : Int32) (hb hby at_70) (by decide) ?_
    refine g_iand X0 hx (hb hby at_71) ?_
    by_cases c72_41 : (p6 &&& (4 : Int32)) = (0 : Int32)
    · refine g_ifYes X0 hx 89 (hb hby at_72) ((if0 _ _).trans (teq c72_41).1) (by decide) (by decide) ?_
      show Go p e below (s₁.setTop (mkF m 89 #[.val (.int p1), .val (.int p2), .val (.int p3), .val (.int p4), .val (.int p5), .val (.int p6), .val (.ref a1), .val (.int (3 : Int32)), .unset, .unset, .unset, .unset] [])) _
      exact seg_4 l Z a0 hw p1 p2 p3 p4 p5 p6 a1 (3 : Int32) (.ref w_ROTATION_270) dz w_ROTATION_0 w_APPLICATION w_ROTATION_270 w_ROTATION_180 w_ROTATION_90 h0 n0 Z0 S_ROTATION_0 E_w_ROTATION_0 S_APPLICATION E_w_APPLICATION S_ROTATION_270 E_w_ROTATION_270 S_ROTATION_180 E_w_ROTATION_180 S_ROTATION_90 E_w_ROTATION_90 ne_ROTATION_0_ROTATION_270 ne_ROTATION_0_ROTATION_90 ne_ROTATION_0_ROTATION_180 ne_ROTATION_270_ROTATION_90 ne_ROTATION_270_ROTATION_180 ne_ROTATION_90_ROTATION_180 E_a1 F_a1_picture F_a1_drawn g_a1 (Or.inr (Or.inr (Or.inr (Or.inr (⟨rfl, rfl⟩))))) hx hby hml hown hnm hret hlk hZ X0 e0 N0 hS hB
    · refine g_ifNo X0 hx (hb hby at_72) ((if0 _ _).trans (feq c72_41).1) ?_
      refine g_aload X0 hx (hb hby at_75) rfl rfl ?_
      refine g_iloadN X0 hx (hb hby at_77) rfl ?_
      show Go p e below (s₁.setTop (mkF m 78 #[.val (.int p1), .val (.int p2), .val (.int p3), .val (.int p4), .val (.int p5), .val (.int p6), .val (.ref a1), .val (.int (3 : Int32)), .unset, .unset, .unset, .unset] [(.int p4), (.ref a1)])) _
      rcases own_and3 p4 with q42 | q42 | q42 | q42
      · obtain ⟨v43, T43, L43, X43, q43, st43⟩ := own_callS X0 hx hZ (y := (⟨"com/example/reorient/reorient/service/WindowPictureOfPinLaw", "rot", "(I)Lcom/example/reorient/reorient/model/Rotation;"⟩ : MethodName)) (pc := 78) (Ls := #[.val (.int p1), .val (.int p2), .val (.int p3), .val (.int p4), .val (.int p5), .val (.int p6), .val (.ref a1), .val (.int (3 : Int32)), .unset, .unset, .unset, .unset]) (st := [(.int p4), (.ref a1)]) hown (hw _ (List.mem_of_getElem? (i := 11) rfl)) (hw _ (List.mem_of_getElem? (i := 12) rfl)) (hw _ (List.mem_of_getElem? (i := 13) rfl)) (hw _ (List.mem_of_getElem? (i := 14) rfl)) (by decide) (rm_rot l Z a0 hw p4 w_ROTATION_0 w_ROTATION_90 w_ROTATION_180 w_ROTATION_270 h0 n0 Z0 S_ROTATION_0 S_ROTATION_90 S_ROTATION_180 S_ROTATION_270) e0 pd_1 (hb hby at_78) (by rw [hml]; rfl) (argsL := [(.int p4)]) (rest := [(.ref a1)]) rfl rfl rfl (W := 1) (Nat.le_of_eq rfl) (by decide) (by decide) (by decide) (by decide)
        obtain ⟨rfl, M43, e43⟩ := q43
        have N43 := Fr.app N0 M43
        have r43 : (f_rot p4 w_ROTATION_0 w_ROTATION_90 w_ROTATION_180 w_ROTATION_270) = w_ROTATION_0 := by rw [f_rot, if_pos (q42 : (p4 &&& (3 : Int32)) = (0 : Int32))]
        rw [r43] at st43
        refine Go.mp st43 ?_
        show Go p e below (T43.setTop (mkF m 81 #[.val (.int p1), .val (.int p2), .val (.int p3), .val (.int p4), .val (.int p5), .val (.int p6), .val (.ref a1), .val (.int (3 : Int32)), .unset, .unset, .unset, .unset] [(.ref w_ROTATION_0), (.ref a1)])) _
        obtain ⟨v44, T44, L44, X44, q44, st44⟩ := own_callV X43 hx hZ (y := (⟨"com/example/reorient/reorient/service/Window", "reportDrawn", "(Lcom/example/reorient/reorient/model/Rotation;)V"⟩ : MethodName)) (pc := 81) (Ls := #[.val (.int p1), .val (.int p2), .val (.int p3), .val (.int p4), .val (.int p5), .val (.int p6), .val (.ref a1), .val (.int (3 : Int32)), .unset, .unset, .unset, .unset]) (st := [(.ref w_ROTATION_0), (.ref a1)]) hown (hw _ (List.mem_of_getElem? (i := 60) rfl)) (hw _ (List.mem_of_getElem? (i := 61) rfl)) (hw _ (List.mem_of_getElem? (i := 63) rfl)) (hw _ (List.mem_of_getElem? (i := 62) rfl)) (hw _ (List.mem_of_getElem? (i := 64) rfl)) (hw _ (List.mem_of_getElem? (i := 2) rfl)) (by decide) (rm_reportDrawn l Z a0 hw a1 w_ROTATION_0 (.ref w_ROTATION_270) dz h0 n0 Z0 E_a1 F_a1_drawn F_a1_picture g_a1) e43 E_a1 pd_2 (hb hby at_81) (by rw [hml]; rfl) (argsL := [(.ref w_ROTATION_0)]) (rest := []) rfl rfl rfl (W := 0) (Nat.le_of_eq rfl) (by decide) (by decide) (by decide) (by decide)
        obtain ⟨rv44, M44, Kc44, Fk44_0, Fk44_1⟩ := q44
        have N44 := Fr.app N43 M44
        subst rv44
        have S_ROTATION_0_44 := own_sta_keep S_ROTATION_0 Kc44 (own_plain E_a1 (fun _ q => nomatch q))
        have E_w_ROTATION_0_44 := Exa.keep E_w_ROTATION_0 Kc44
        have S_APPLICATION_44 := own_sta_keep S_APPLICATION Kc44 (own_plain E_a1 (fun _ q => nomatch q))
        have E_w_APPLICATION_44 := Exa.keep E_w_APPLICATION Kc44
        have S_ROTATION_270_44 := own_sta_keep S_ROTATION_270 Kc44 (own_plain E_a1 (fun _ q => nomatch q))
        have E_w_ROTATION_270_44 := Exa.keep E_w_ROTATION_270 Kc44
        have S_ROTATION_180_44 := own_sta_keep S_ROTATION_180 Kc44 (own_plain E_a1 (fun _ q => nomatch q))
        have E_w_ROTATION_180_44 := Exa.keep E_w_ROTATION_180 Kc44
        have S_ROTATION_90_44 := own_sta_keep S_ROTATION_90 Kc44 (own_plain E_a1 (fun _ q => nomatch q))
        have E_w_ROTATION_90_44 := Exa.keep E_w_ROTATION_90 Kc44
        have E_a1_44 := Exa.keep E_a1 Kc44
        have Z44 : n0 ≤ T44.heap.size := Nat.le_trans Z0 Kc44.1
        have B44 : _ ≤ T44.heap.size := Nat.le_trans hB Kc44.1
        refine Go.mp st44 ?_
        show Go p e below (T44.setTop (mkF m 84 #[.val (.int p1), .val (.int p2), .val (.int p3), .val (.int p4), .val (.int p5), .val (.int p6), .val (.ref a1), .val (.int (3 : Int32)), .unset, .unset, .unset, .unset] [])) _
        refine g_iloadN X44 hx (hb hby at_84) rfl ?_
        refine g_iconst X44 hx (3 : Int32) (hb hby at_85) (by decide) ?_
        refine g_iand X44 hx (hb hby at_86) ?_
        refine g_istore X44 hx #[.val (.int p1), .val (.int p2), .val (.int p3), .val (.int p4), .val (.int p5), .val (.int p6), .val (.ref a1), .val (.int (p4 &&& (3 : Int32))), .unset, .unset, .unset, .unset] (hb hby at_87) rfl ?_
        show Go p e below (T44.setTop (mkF m 89 #[.val (.int p1), .val (.int p2), .val (.int p3), .val (.int p4), .val (.int p5), .val (.int p6), .val (.ref a1), .val (.int (p4 &&& (3 : Int32))), .unset, .unset, .unset, .unset] [])) _
        exact seg_4 l Z a0 hw p1 p2 p3 p4 p5 p6 a1 (p4 &&& (3 : Int32)) (.ref w_ROTATION_0) (1 : Int32) w_ROTATION_0 w_APPLICATION w_ROTATION_270 w_ROTATION_180 w_ROTATION_90 T44.heap n0 Z44 S_ROTATION_0_44 E_w_ROTATION_0_44 S_APPLICATION_44 E_w_APPLICATION_44 S_ROTATION_270_44 E_w_ROTATION_270_44 S_ROTATION_180_44 E_w_ROTATION_180_44 S_ROTATION_90_44 E_w_ROTATION_90_44 ne_ROTATION_0_ROTATION_270 ne_ROTATION_0_ROTATION_90 ne_ROTATION_0_ROTATION_180 ne_ROTATION_270_ROTATION_90 ne_ROTATION_270_ROTATION_180 ne_ROTATION_90_ROTATION_180 E_a1_44 Fk44_1 Fk44_0 g_a1 (Or.inr (Or.inl ⟨q42, rfl⟩)) hx hby hml hown hnm hret hlk hZ X44 (rfl : T44.heap = T44.heap) N44 hS B44
      · obtain ⟨v45, T45, L45, X45, q45, st45⟩ := own_callS X0 hx hZ (y := (⟨"com/example/reorient/reorient/service/WindowPictureOfPinLaw", "rot", "(I)Lcom/example/reorient/reorient/model/Rotation;"⟩ : MethodName)) (pc := 78) (Ls := #[.val (.int p1), .val (.int p2), .val (.int p3), .val (.int p4), .val (.int p5), .val (.int p6), .val (.ref a1), .val (.int (3 : Int32)), .unset, .unset, .unset, .unset]) (st := [(.int p4), (.ref a1)]) hown (hw _ (List.mem_of_getElem? (i := 11) rfl)) (hw _ (List.mem_of_getElem? (i := 12) rfl)) (hw _ (List.mem_of_getElem? (i := 13) rfl)) (hw _ (List.mem_of_getElem? (i := 14) rfl)) (by decide) (rm_rot l Z a0 hw p4 w_ROTATION_0 w_ROTATION_90 w_ROTATION_180 w_ROTATION_270 h0 n0 Z0 S_ROTATION_0 S_ROTATION_90 S_ROTATION_180 S_ROTATION_270) e0 pd_1 (hb hby at_78) (by rw [hml]; rfl) (argsL := [(.int p4)]) (rest := [(.ref a1)]) rfl rfl rfl (W := 1) (Nat.le_of_eq rfl) (by decide) (by decide) (by decide) (by decide)
        obtain ⟨rfl, M45, e45⟩ := q45
        have N45 := Fr.app N0 M45
        have r45 : (f_rot p4 w_ROTATION_0 w_ROTATION_90 w_ROTATION_180 w_ROTATION_270) = w_ROTATION_90 := by rw [f_rot, if_neg ((by rw [q42]; decide) : ¬ ((p4 &&& (3 : Int32)) = (0 : Int32))), if_pos (q42 : (p4 &&& (3 : Int32)) = (1 : Int32))]
        rw [r45] at st45
        refine Go.mp st45 ?_
        show Go p e below (T45.setTop (mkF m 81 #[.val (.int p1), .val (.int p2), .val (.int p3), .val (.int p4), .val (.int p5), .val (.int p6), .val (.ref a1), .val (.int (3 : Int32)), .unset, .unset, .unset, .unset] [(.ref w_ROTATION_90), (.ref a1)])) _
        obtain ⟨v46, T46, L46, X46, q46, st46⟩ := own_callV X45 hx hZ (y := (⟨"com/example/reorient/reorient/service/Window", "reportDrawn", "(Lcom/example/reorient/reorient/model/Rotation;)V"⟩ : MethodName)) (pc := 81) (Ls := #[.val (.int p1), .val (.int p2), .val (.int p3), .val (.int p4), .val (.int p5), .val (.int p6), .val (.ref a1), .val (.int (3 : Int32)), .unset, .unset, .unset, .unset]) (st := [(.ref w_ROTATION_90), (.ref a1)]) hown (hw _ (List.mem_of_getElem? (i := 60) rfl)) (hw _ (List.mem_of_getElem? (i := 61) rfl)) (hw _ (List.mem_of_getElem? (i := 63) rfl)) (hw _ (List.mem_of_getElem? (i := 62) rfl)) (hw _ (List.mem_of_getElem? (i := 64) rfl)) (hw _ (List.mem_of_getElem? (i := 2) rfl)) (by decide) (rm_reportDrawn l Z a0 hw a1 w_ROTATION_90 (.ref w_ROTATION_270) dz h0 n0 Z0 E_a1 F_a1_drawn F_a1_picture g_a1) e45 E_a1 pd_2 (hb hby at_81) (by rw [hml]; rfl) (argsL := [(.ref w_ROTATION_90)]) (rest := []) rfl rfl rfl (W := 0) (Nat.le_of_eq rfl) (by decide) (by decide) (by decide) (by decide)
        obtain ⟨rv46, M46, Kc46, Fk46_0, Fk46_1⟩ := q46
        have N46 := Fr.app N45 M46
        subst rv46
        have S_ROTATION_0_46 := own_sta_keep S_ROTATION_0 Kc46 (own_plain E_a1 (fun _ q => nomatch q))
        have E_w_ROTATION_0_46 := Exa.keep E_w_ROTATION_0 Kc46
        have S_APPLICATION_46 := own_sta_keep S_APPLICATION Kc46 (own_plain E_a1 (fun _ q => nomatch q))
        have E_w_APPLICATION_46 := Exa.keep E_w_APPLICATION Kc46
        have S_ROTATION_270_46 := own_sta_keep S_ROTATION_270 Kc46 (own_plain E_a1 (fun _ q => nomatch q))
        have E_w_ROTATION_270_46 := Exa.keep E_w_ROTATION_270 Kc46
        have S_ROTATION_180_46 := own_sta_keep S_ROTATION_180 Kc46 (own_plain E_a1 (fun _ q => nomatch q))
        have E_w_ROTATION_180_46 := Exa.keep E_w_ROTATION_180 Kc46
        have S_ROTATION_90_46 := own_sta_keep S_ROTATION_90 Kc46 (own_plain E_a1 (fun _ q => nomatch q))
        have E_w_ROTATION_90_46 := Exa.keep E_w_ROTATION_90 Kc46
        have E_a1_46 := Exa.keep E_a1 Kc46
        have Z46 : n0 ≤ T46.heap.size := Nat.le_trans Z0 Kc46.1
        have B46 : _ ≤ T46.heap.size := Nat.le_trans hB Kc46.1
        refine Go.mp st46 ?_
        show Go p e below (T46.setTop (mkF m 84 #[.val (.int p1), .val (.int p2), .val (.int p3), .val (.int p4), .val (.int p5), .val (.int p6), .val (.ref a1), .val (.int (3 : Int32)), .unset, .unset, .unset, .unset] [])) _
        refine g_iloadN X46 hx (hb hby at_84) rfl ?_
        refine g_iconst X46 hx (3 : Int32) (hb hby at_85) (by decide) ?_
        refine g_iand X46 hx (hb hby at_86) ?_
        refine g_istore X46 hx #[.val (.int p1), .val (.int p2), .val (.int p3), .val (.int p4), .val (.int p5), .val (.int p6), .val (.ref a1), .val (.int (p4 &&& (3 : Int32))), .unset, .unset, .unset, .unset] (hb hby at_87) rfl ?_
        show Go p e below (T46.setTop (mkF m 89 #[.val (.int p1), .val (.int p2), .val (.int p3), .val (.int p4), .val (.int p5), .val (.int p6), .val (.ref a1), .val (.int (p4 &&& (3 : Int32))), .unset, .unset, .unset, .unset] [])) _
        exact seg_4 l Z a0 hw p1 p2 p3 p4 p5 p6 a1 (p4 &&& (3 : Int32)) (.ref w_ROTATION_90) (1 : Int32) w_ROTATION_0 w_APPLICATION w_ROTATION_270 w_ROTATION_180 w_ROTATION_90 T46.heap n0 Z46 S_ROTATION_0_46 E_w_ROTATION_0_46 S_APPLICATION_46 E_w_APPLICATION_46 S_ROTATION_270_46 E_w_ROTATION_270_46 S_ROTATION_180_46 E_w_ROTATION_180_46 S_ROTATION_90_46 E_w_ROTATION_90_46 ne_ROTATION_0_ROTATION_270 ne_ROTATION_0_ROTATION_90 ne_ROTATION_0_ROTATION_180 ne_ROTATION_270_ROTATION_90 ne_ROTATION_270_ROTATION_180 ne_ROTATION_90_ROTATION_180 E_a1_46 Fk46_1 Fk46_0 g_a1 (Or.inr (Or.inr (Or.inl ⟨q42, rfl⟩))) hx hby hml hown hnm hret hlk hZ X46 (rfl : T46.heap = T46.heap) N46 hS B46
      · obtain ⟨v47, T47, L47, X47, q47, st47⟩ := own_callS X0 hx hZ (y := (⟨"com/example/reorient/reorient/service/WindowPictureOfPinLaw", "rot", "(I)Lcom/example/reorient/reorient/model/Rotation;"⟩ : MethodName)) (pc := 78) (Ls := #[.val (.int p1), .val (.int p2), .val (.int p3), .val (.int p4), .val (.int p5), .val (.int p6), .val (.ref a1), .val (.int (3 : Int32)), .unset, .unset, .unset, .unset]) (st := [(.int p4), (.ref a1)]) hown (hw _ (List.mem_of_getElem? (i := 11) rfl)) (hw _ (List.mem_of_getElem? (i := 12) rfl)) (hw _ (List.mem_of_getElem? (i := 13) rfl)) (hw _ (List.mem_of_getElem? (i := 14) rfl)) (by decide) (rm_rot l Z a0 hw p4 w_ROTATION_0 w_ROTATION_90 w_ROTATION_180 w_ROTATION_270 h0 n0 Z0 S_ROTATION_0 S_ROTATION_90 S_ROTATION_180 S_ROTATION_270) e0 pd_1 (hb hby at_78) (by rw [hml]; rfl) (argsL := [(.int p4)]) (rest := [(.ref a1)]) rfl rfl rfl (W := 1) (Nat.le_of_eq rfl) (by decide) (by decide) (by decide) (by decide)
        obtain ⟨rfl, M47, e47⟩ := q47
        have N47 := Fr.app N0 M47
        have r47 : (f_rot p4 w_ROTATION_0 w_ROTATION_90 w_ROTATION_180 w_ROTATION_270) = w_ROTATION_180 := by rw [f_rot, if_neg ((by rw [q42]; decide) : ¬ ((p4 &&& (3 : Int32)) = (0 : Int32))), if_neg ((by rw [q42]; decide) : ¬ ((p4 &&& (3 : Int32)) = (1 : Int32))), if_pos (q42 : (p4 &&& (3 : Int32)) = (2 : Int32))]
        rw [r47] at st47
        refine Go.mp st47 ?_
        show Go p e below (T47.setTop (mkF m 81 #[.val (.int p1), .val (.int p2), .val (.int p3), .val (.int p4), .val (.int p5), .val (.int p6), .val (.ref a1), .val (.int (3 : Int32)), .unset, .unset, .unset, .unset] [(.ref w_ROTATION_180), (.ref a1)])) _
        obtain ⟨v48, T48, L48, X48, q48, st48⟩ := own_callV X47 hx hZ (y := (⟨"com/example/reorient/reorient/service/Window", "reportDrawn", "(Lcom/example/reorient/reorient/model/Rotation;)V"⟩ : MethodName)) (pc := 81) (Ls := #[.val (.int p1), .val (.int p2), .val (.int p3), .val (.int p4), .val (.int p5), .val (.int p6), .val (.ref a1), .val (.int (3 : Int32)), .unset, .unset, .unset, .unset]) (st := [(.ref w_ROTATION_180), (.ref a1)]) hown (hw _ (List.mem_of_getElem? (i := 60) rfl)) (hw _ (List.mem_of_getElem? (i := 61) rfl)) (hw _ (List.mem_of_getElem? (i := 63) rfl)) (hw _ (List.mem_of_getElem? (i := 62) rfl)) (hw _ (List.mem_of_getElem? (i := 64) rfl)) (hw _ (List.mem_of_getElem? (i := 2) rfl)) (by decide) (rm_reportDrawn l Z a0 hw a1 w_ROTATION_180 (.ref w_ROTATION_270) dz h0 n0 Z0 E_a1 F_a1_drawn F_a1_picture g_a1) e47 E_a1 pd_2 (hb hby at_81) (by rw [hml]; rfl) (argsL := [(.ref w_ROTATION_180)]) (rest := []) rfl rfl rfl (W := 0) (Nat.le_of_eq rfl) (by decide) (by decide) (by decide) (by decide)
        obtain ⟨rv48, M48, Kc48, Fk48_0, Fk48_1⟩ := q48
        have N48 := Fr.app N47 M48
        subst rv48
        have S_ROTATION_0_48 := own_sta_keep S_ROTATION_0 Kc48 (own_plain E_a1 (fun _ q => nomatch q))
        have E_w_ROTATION_0_48 := Exa.keep E_w_ROTATION_0 Kc48
        have S_APPLICATION_48 := own_sta_keep S_APPLICATION Kc48 (own_plain E_a1 (fun _ q => nomatch q))
        have E_w_APPLICATION_48 := Exa.keep E_w_APPLICATION Kc48
        have S_ROTATION_270_48 := own_sta_keep S_ROTATION_270 Kc48 (own_plain E_a1 (fun _ q => nomatch q))
        have E_w_ROTATION_270_48 := Exa.keep E_w_ROTATION_270 Kc48
        have S_ROTATION_180_48 := own_sta_keep S_ROTATION_180 Kc48 (own_plain E_a1 (fun _ q => nomatch q))
        have E_w_ROTATION_180_48 := Exa.keep E_w_ROTATION_180 Kc48
        have S_ROTATION_90_48 := own_sta_keep S_ROTATION_90 Kc48 (own_plain E_a1 (fun _ q => nomatch q))
        have E_w_ROTATION_90_48 := Exa.keep E_w_ROTATION_90 Kc48
        have E_a1_48 := Exa.keep E_a1 Kc48
        have Z48 : n0 ≤ T48.heap.size := Nat.le_trans Z0 Kc48.1
        have B48 : _ ≤ T48.heap.size := Nat.le_trans hB Kc48.1
        refine Go.mp st48 ?_
        show Go p e below (T48.setTop (mkF m 84 #[.val (.int p1), .val (.int p2), .val (.int p3), .val (.int p4), .val (.int p5), .val (.int p6), .val (.ref a1), .val (.int (3 : Int32)), .unset, .unset, .unset, .unset] [])) _
        refine g_iloadN X48 hx (hb hby at_84) rfl ?_
        refine g_iconst X48 hx (3 : Int32) (hb hby at_85) (by decide) ?_
        refine g_iand X48 hx (hb hby at_86) ?_
        refine g_istore X48 hx #[.val (.int p1), .val (.int p2), .val (.int p3), .val (.int p4), .val (.int p5), .val (.int p6), .val (.ref a1), .val (.int (p4 &&& (3 : Int32))), .unset, .unset, .unset, .unset] (hb hby at_87) rfl ?_
        show Go p e below (T48.setTop (mkF m 89 #[.val (.int p1), .val (.int p2), .val (.int p3), .val (.int p4), .val (.int p5), .val (.int p6), .val (.ref a1), .val (.int (p4 &&& (3 : Int32))), .unset, .unset, .unset, .unset] [])) _
        exact seg_4 l Z a0 hw p1 p2 p3 p4 p5 p6 a1 (p4 &&& (3 : Int32)) (.ref w_ROTATION_180) (1 : Int32) w_ROTATION_0 w_APPLICATION w_ROTATION_270 w_ROTATION_180 w_ROTATION_90 T48.heap n0 Z48 S_ROTATION_0_48 E_w_ROTATION_0_48 S_APPLICATION_48 E_w_APPLICATION_48 S_ROTATION_270_48 E_w_ROTATION_270_48 S_ROTATION_180_48 E_w_ROTATION_180_48 S_ROTATION_90_48 E_w_ROTATION_90_48 ne_ROTATION_0_ROTATION_270 ne_ROTATION_0_ROTATION_90 ne_ROTATION_0_ROTATION_180 ne_ROTATION_270_ROTATION_90 ne_ROTATION_270_ROTATION_180 ne_ROTATION_90_ROTATION_180 E_a1_48 Fk48_1 Fk48_0 g_a1 (Or.inr (Or.inr (Or.inr (Or.inl ⟨q42, rfl⟩)))) hx hby hml hown hnm hret hlk hZ X48 (rfl : T48.heap = T48.heap) N48 hS B48
      · obtain ⟨v49, T49, L49, X49, q49, st49⟩ := own_callS X0 hx hZ (y := (⟨"com/example/reorient/reorient/service/WindowPictureOfPinLaw", "rot", "(I)Lcom/example/reorient/reorient/model/Rotation;"⟩ : MethodName)) (pc := 78) (Ls := #[.val (.int p1), .val (.int p2), .val (.int p3), .val (.int p4), .val (.int p5), .val (.int p6), .val (.ref a1), .val (.int (3 : Int32)), .unset, .unset, .unset, .unset]) (st := [(.int p4), (.ref a1)]) hown (hw _ (List.mem_of_getElem? (i := 11) rfl)) (hw _ (List.mem_of_getElem? (i := 12) rfl)) (hw _ (List.mem_of_getElem? (i := 13) rfl)) (hw _ (List.mem_of_getElem? (i := 14) rfl)) (by decide) (rm_rot l Z a0 hw p4 w_ROTATION_0 w_ROTATION_90 w_ROTATION_180 w_ROTATION_270 h0 n0 Z0 S_ROTATION_0 S_ROTATION_90 S_ROTATION_180 S_ROTATION_270) e0 pd_1 (hb hby at_78) (by rw [hml]; rfl) (argsL := [(.int p4)]) (rest := [(.ref a1)]) rfl rfl rfl (W := 1) (Nat.le_of_eq rfl) (by decide) (by decide) (by decide) (by decide)
        obtain ⟨rfl, M49, e49⟩ := q49
        have N49 := Fr.app N0 M49
        have r49 : (f_rot p4 w_ROTATION_0 w_ROTATION_90 w_ROTATION_180 w_ROTATION_270) = w_ROTATION_270 := by rw [f_rot, if_neg ((by rw [q42]; decide) : ¬ ((p4 &&& (3 : Int32)) = (0 : Int32))), if_neg ((by rw [q42]; decide) : ¬ ((p4 &&& (3 : Int32)) = (1 : Int32))), if_neg ((by rw [q42]; decide) : ¬ ((p4 &&& (3 : Int32)) = (2 : Int32)))]
        rw [r49] at st49
        refine Go.mp st49 ?_
        show Go p e below (T49.setTop (mkF m 81 #[.val (.int p1), .val (.int p2), .val (.int p3), .val (.int p4), .val (.int p5), .val (.int p6), .val (.ref a1), .val (.int (3 : Int32)), .unset, .unset, .unset, .unset] [(.ref w_ROTATION_270), (.ref a1)])) _
        obtain ⟨v50, T50, L50, X50, q50, st50⟩ := own_callV X49 hx hZ (y := (⟨"com/example/reorient/reorient/service/Window", "reportDrawn", "(Lcom/example/reorient/reorient/model/Rotation;)V"⟩ : MethodName)) (pc := 81) (Ls := #[.val (.int p1), .val (.int p2), .val (.int p3), .val (.int p4), .val (.int p5), .val (.int p6), .val (.ref a1), .val (.int (3 : Int32)), .unset, .unset, .unset, .unset]) (st := [(.ref w_ROTATION_270), (.ref a1)]) hown (hw _ (List.mem_of_getElem? (i := 60) rfl)) (hw _ (List.mem_of_getElem? (i := 61) rfl)) (hw _ (List.mem_of_getElem? (i := 63) rfl)) (hw _ (List.mem_of_getElem? (i := 62) rfl)) (hw _ (List.mem_of_getElem? (i := 64) rfl)) (hw _ (List.mem_of_getElem? (i := 2) rfl)) (by decide) (rm_reportDrawn l Z a0 hw a1 w_ROTATION_270 (.ref w_ROTATION_270) dz h0 n0 Z0 E_a1 F_a1_drawn F_a1_picture g_a1) e49 E_a1 pd_2 (hb hby at_81) (by rw [hml]; rfl) (argsL := [(.ref w_ROTATION_270)]) (rest := []) rfl rfl rfl (W := 0) (Nat.le_of_eq rfl) (by decide) (by decide) (by decide) (by decide)
        obtain ⟨rv50, M50, Kc50, Fk50_0, Fk50_1⟩ := q50
        have N50 := Fr.app N49 M50
        subst rv50
        have S_ROTATION_0_50 := own_sta_keep S_ROTATION_0 Kc50 (own_plain E_a1 (fun _ q => nomatch q))
        have E_w_ROTATION_0_50 := Exa.keep E_w_ROTATION_0 Kc50
        have S_APPLICATION_50 := own_sta_keep S_APPLICATION Kc50 (own_plain E_a1 (fun _ q => nomatch q))
        have E_w_APPLICATION_50 := Exa.keep E_w_APPLICATION Kc50
        have S_ROTATION_270_50 := own_sta_keep S_ROTATION_270 Kc50 (own_plain E_a1 (fun _ q => nomatch q))
        have E_w_ROTATION_270_50 := Exa.keep E_w_ROTATION_270 Kc50
        have S_ROTATION_180_50 := own_sta_keep S_ROTATION_180 Kc50 (own_plain E_a1 (fun _ q => nomatch q))
        have E_w_ROTATION_180_50 := Exa.keep E_w_ROTATION_180 Kc50
        have S_ROTATION_90_50 := own_sta_keep S_ROTATION_90 Kc50 (own_plain E_a1 (fun _ q => nomatch q))
        have E_w_ROTATION_90_50 := Exa.keep E_w_ROTATION_90 Kc50
        have E_a1_50 := Exa.keep E_a1 Kc50
        have Z50 : n0 ≤ T50.heap.size := Nat.le_trans Z0 Kc50.1
        have B50 : _ ≤ T50.heap.size := Nat.le_trans hB Kc50.1
        refine Go.mp st50 ?_
        show Go p e below (T50.setTop (mkF m 84 #[.val (.int p1), .val (.int p2), .val (.int p3), .val (.int p4), .val (.int p5), .val (.int p6), .val (.ref a1), .val (.int (3 : Int32)), .unset, .unset, .unset, .unset] [])) _
        refine g_iloadN X50 hx (hb hby at_84) rfl ?_
        refine g_iconst X50 hx (3 : Int32) (hb hby at_85) (by decide) ?_
        refine g_iand X50 hx (hb hby at_86) ?_
        refine g_istore X50 hx #[.val (.int p1), .val (.int p2), .val (.int p3), .val (.int p4), .val (.int p5), .val (.int p6), .val (.ref a1), .val (.int (p4 &&& (3 : Int32))), .unset, .unset, .unset, .unset] (hb hby at_87) rfl ?_
        show Go p e below (T50.setTop (mkF m 89 #[.val (.int p1), .val (.int p2), .val (.int p3), .val (.int p4), .val (.int p5), .val (.int p6), .val (.ref a1), .val (.int (p4 &&& (3 : Int32))), .unset, .unset, .unset, .unset] [])) _
        exact seg_4 l Z a0 hw p1 p2 p3 p4 p5 p6 a1 (p4 &&& (3 : Int32)) (.ref w_ROTATION_270) (1 : Int32) w_ROTATION_0 w_APPLICATION w_ROTATION_270 w_ROTATION_180 w_ROTATION_90 T50.heap n0 Z50 S_ROTATION_0_50 E_w_ROTATION_0_50 S_APPLICATION_50 E_w_APPLICATION_50 S_ROTATION_270_50 E_w_ROTATION_270_50 S_ROTATION_180_50 E_w_ROTATION_180_50 S_ROTATION_90_50 E_w_ROTATION_90_50 ne_ROTATION_0_ROTATION_270 ne_ROTATION_0_ROTATION_90 ne_ROTATION_0_ROTATION_180 ne_ROTATION_270_ROTATION_90 ne_ROTATION_270_ROTATION_180 ne_ROTATION_90_ROTATION_180 E_a1_50 Fk50_1 Fk50_0 g_a1 (Or.inr (Or.inr (Or.inr (Or.inr (⟨q42, rfl⟩))))) hx hby hml hown hnm hret hlk hZ X50 (rfl : T50.heap = T50.heap) N50 hS B50
set_option maxRecDepth 65536 in
set_option maxHeartbeats 40000000 in
theorem seg_2 (l : Launch) (Z : State) (a0 : Array Value) (hw : ∀ d ∈ tables_1, d.before a0 Z = true) (p1 : Int32) (p2 : Int32) (p3 : Int32) (p4 : Int32) (p5 : Int32) (p6 : Int32) (a1 : Addr) (pp : Int32) (pv : Value) (dz : Int32) (w_ROTATION_0 : Addr) (w_APPLICATION : Addr) (w_ROTATION_270 : Addr) (w_ROTATION_180 : Addr) (w_ROTATION_90 : Addr) (h0 : Heap) (n0 : Nat) (Z0 : n0 ≤ h0.size) (S_ROTATION_0 : Sta Z h0 "com/example/reorient/reorient/model/Rotation" "ROTATION_0" "Lcom/example/reorient/reorient/model/Rotation;" (.ref w_ROTATION_0)) (E_w_ROTATION_0 : Exa Z h0 w_ROTATION_0 "com/example/reorient/reorient/model/Rotation") (S_APPLICATION : Sta Z h0 "com/example/reorient/reorient/model/WindowType" "APPLICATION" "Lcom/example/reorient/reorient/model/WindowType;" (.ref w_APPLICATION)) (E_w_APPLICATION : Exa Z h0 w_APPLICATION "com/example/reorient/reorient/model/WindowType") (S_ROTATION_270 : Sta Z h0 "com/example/reorient/reorient/model/Rotation" "ROTATION_270" "Lcom/example/reorient/reorient/model/Rotation;" (.ref w_ROTATION_270)) (E_w_ROTATION_270 : Exa Z h0 w_ROTATION_270 "com/example/reorient/reorient/model/Rotation") (S_ROTATION_180 : Sta Z h0 "com/example/reorient/reorient/model/Rotation" "ROTATION_180" "Lcom/example/reorient/reorient/model/Rotation;" (.ref w_ROTATION_180)) (E_w_ROTATION_180 : Exa Z h0 w_ROTATION_180 "com/example/reorient/reorient/model/Rotation") (S_ROTATION_90 : Sta Z h0 "com/example/reorient/reorient/model/Rotation" "ROTATION_90" "Lcom/example/reorient/reorient/model/Rotation;" (.ref w_ROTATION_90)) (E_w_ROTATION_90 : Exa Z h0 w_ROTATION_90 "com/example/reorient/reorient/model/Rotation") (ne_ROTATION_0_ROTATION_270 : ¬ (w_ROTATION_0 = w_ROTATION_270)) (ne_ROTATION_0_ROTATION_90 : ¬ (w_ROTATION_0 = w_ROTATION_90)) (ne_ROTATION_0_ROTATION_180 : ¬ (w_ROTATION_0 = w_ROTATION_180)) (ne_ROTATION_270_ROTATION_90 : ¬ (w_ROTATION_270 = w_ROTATION_90)) (ne_ROTATION_270_ROTATION_180 : ¬ (w_ROTATION_270 = w_ROTATION_180)) (ne_ROTATION_90_ROTATION_180 : ¬ (w_ROTATION_90 = w_ROTATION_180)) (E_a1 : Exa Z h0 a1 "com/example/reorient/reorient/service/Window") (F_a1_picture : Fld Z h0 a1 "com/example/reorient/reorient/service/Window" "picture" "Lcom/example/reorient/reorient/model/Rotation;" pv) (F_a1_drawn : Fld Z h0 a1 "com/example/reorient/reorient/service/Window" "drawn" "Z" (.int dz)) (g_a1 : n0 ≤ a1) (hr : own_P w_ROTATION_0 w_ROTATION_90 w_ROTATION_180 w_ROTATION_270 pp pv) {vm1 : Vm} {k1 : Nat} {p : Program} {e : Env} {s : State} {m : MethodId} {below : List Frame} {meth : Method} {c : Code} {args : Array Value} {s₁ : State} {lo : List Loc} (hx : p.tables.exec = Jvm.exec) (hby : c.code = code) (hml : c.maxLocals = maxLocals) (hown : (s.setVm vm1).vm.findClass "com/example/reorient/reorient/service/WindowPictureOfPinLaw" = some m.cls) (hnm : meth.name = "law") (hret : meth.sig.returnType = ret) (hlk : meth.locks = false) (hZ : Z.Warmed39 (s.setVm vm1).vm) (X0 : Stand p l e room_1 (s.setVm vm1) m args below meth c s₁ lo 3 15) (e0 : s₁.heap = h0) (N0 : Fr n0 lo) (hS : s.Since vm1 k1) (hB : k1 ≤ h0.size) :
    Go p e below (s₁.setTop (mkF m 44 #[.val (.int p1), .val (.int p2), .val (.int p3), .val (.int p4), .val (.int p5), .val (.int p6), .val (.ref a1), .val (.int pp), .unset, .unset, .unset, .unset] [])) (FinW s room_1.cells room_1.slots (fun v h L => v = some (.int 1) ∧ Fr n0 L)) := by
  show Go p e below (s₁.setTop (mkF m 44 #[.val (.int p1), .val (.int p2), .val (.int p3), .val (.int p4), .val (.int p5), .val (.int p6), .val (.ref a1), .val (.int pp), .unset, .unset, .unset, .unset] [])) _
  rcases hr with ⟨rfl, rfl⟩ | ⟨rfl, rfl⟩ | ⟨rfl, rfl⟩ | ⟨rfl, rfl⟩ | ⟨rfl, rfl⟩
  · refine g_iload X0 hx (hb hby at_44) rfl ?_
    refine g_iconst X0 hx (2 : Int32) (hb hby at_46) (by decide) ?_
    refine g_iand X0 hx (hb hby at_47) ?_
    by_cases c48_1 : (p6 &&& (2 : Int32)) = (0 : Int32)
    · refine g_ifYes X0 hx 68 (hb hby at_48) ((if0 _ _).trans (teq c48_1).1) (by decide) (by decide) ?_
      show Go p e below (s₁.setTop (mkF m 68 #[.val (.int p1), .val (.int p2), .val (.int p3), .val (.int p4), .val (.int p5), .val (.int p6), .val (.ref a1), .val (.int (-1 : Int32)), .unset, .unset, .unset, .unset] [])) _
      exact seg_3 l Z a0 hw p1 p2 p3 p4 p5 p6 a1 (-1 : Int32) .null dz w_ROTATION_0 w_APPLICATION w_ROTATION_270 w_ROTATION_180 w_ROTATION_90 h0 n0 Z0 S_ROTATION_0 E_w_ROTATION_0 S_APPLICATION E_w_APPLICATION S_ROTATION_270 E_w_ROTATION_270 S_ROTATION_180 E_w_ROTATION_180 S_ROTATION_90 E_w_ROTATION_90 ne_ROTATION_0_ROTATION_270 ne_ROTATION_0_ROTATION_90 ne_ROTATION_0_ROTATION_180 ne_ROTATION_270_ROTATION_90 ne_ROTATION_270_ROTATION_180 ne_ROTATION_90_ROTATION_180 E_a1 F_a1_picture F_a1_drawn g_a1 (Or.inl ⟨rfl, rfl⟩) hx hby hml hown hnm hret hlk hZ X0 e0 N0 hS hB
    · refine g_ifNo X0 hx (hb hby at_48) ((if0 _ _).trans (feq c48_1).1) ?_
      refine g_aload X0 hx (hb hby at_51) rfl rfl ?_
      refine g_iloadN X0 hx (hb hby at_53) rfl ?_
      show Go p e below (s₁.setTop (mkF m 54 #[.val (.int p1), .val (.int p2), .val (.int p3), .val (.int p4), .val (.int p5), .val (.int p6), .val (.ref a1), .val (.int (-1 : Int32)), .unset, .unset, .unset, .unset] [(.int p3), (.ref a1)])) _
      rcases own_and3 p3 with q2 | q2 | q2 | q2
      · obtain ⟨v3, T3, L3, X3, q3, st3⟩ := own_callS X0 hx hZ (y := (⟨"com/example/reorient/reorient/service/WindowPictureOfPinLaw", "rot", "(I)Lcom/example/reorient/reorient/model/Rotation;"⟩ : MethodName)) (pc := 54) (Ls := #[.val (.int p1), .val (.int p2), .val (.int p3), .val (.int p4), .val (.int p5), .val (.int p6), .val (.ref a1), .val (.int (-1 : Int32)), .unset, .unset, .unset, .unset]) (st := [(.int p3), (.ref a1)]) hown (hw _ (List.mem_of_getElem? (i := 11) rfl)) (hw _ (List.mem_of_getElem? (i := 12) rfl)) (hw _ (List.mem_of_getElem? (i := 13) rfl)) (hw _ (List.mem_of_getElem? (i := 14) rfl)) (by decide) (rm_rot l Z a0 hw p3 w_ROTATION_0 w_ROTATION_90 w_ROTATION_180 w_ROTATION_270 h0 n0 Z0 S_ROTATION_0 S_ROTATION_90 S_ROTATION_180 S_ROTATION_270) e0 pd_1 (hb hby at_54) (by rw [hml]; rfl) (argsL := [(.int p3)]) (rest := [(.ref a1)]) rfl rfl rfl (W := 1) (Nat.le_of_eq rfl) (by decide) (by decide) (by decide) (by decide)
        obtain ⟨rfl, M3, e3⟩ := q3
        have N3 := Fr.app N0 M3
        have r3 : (f_rot p3 w_ROTATION_0 w_ROTATION_90 w_ROTATION_180 w_ROTATION_270) = w_ROTATION_0 := by rw [f_rot, if_pos (q2 : (p3 &&& (3 : Int32)) = (0 : Int32))]
        rw [r3] at st3
        refine Go.mp st3 ?_
        show Go p e below (T3.setTop (mkF m 57 #[.val (.int p1), .val (.int p2), .val (.int p3), .val (.int p4), .val (.int p5), .val (.int p6), .val (.ref a1), .val (.int (-1 : Int32)), .unset, .unset, .unset, .unset] [(.ref w_ROTATION_0), (.ref a1)])) _
        obtain ⟨v4, T4, L4, X4, q4, st4⟩ := own_callV X3 hx hZ (y := (⟨"com/example/reorient/reorient/service/Window", "turnTo", "(Lcom/example/reorient/reorient/model/Rotation;)V"⟩ : MethodName)) (pc := 57) (Ls := #[.val (.int p1), .val (.int p2), .val (.int p3), .val (.int p4), .val (.int p5), .val (.int p6), .val (.ref a1), .val (.int (-1 : Int32)), .unset, .unset, .unset, .unset]) (st := [(.ref w_ROTATION_0), (.ref a1)]) hown (hw _ (List.mem_of_getElem? (i := 43) rfl)) (hw _ (List.mem_of_getElem? (i := 44) rfl)) (hw _ (List.mem_of_getElem? (i := 46) rfl)) (hw _ (List.mem_of_getElem? (i := 45) rfl)) (hw _ (List.mem_of_getElem? (i := 47) rfl)) (hw _ (List.mem_of_getElem? (i := 2) rfl)) (by decide) (rm_turnTo l Z a0 hw a1 w_ROTATION_0 .null dz h0 n0 Z0 rfl E_a1 F_a1_drawn F_a1_picture g_a1) e3 E_a1 pd_2 (hb hby at_57) (by rw [hml]; rfl) (argsL := [(.ref w_ROTATION_0)]) (rest := []) rfl rfl rfl (W := 0) (Nat.le_of_eq rfl) (by decide) (by decide) (by decide) (by decide)
        obtain ⟨rv4, M4, Kc4, Fk4_0, Fk4_1⟩ := q4
        have N4 := Fr.app N3 M4
        subst rv4
        have r4_1 : (f_turnTo_a1_picture a1 w_ROTATION_0 .null dz) = .null := by rw [f_turnTo_a1_picture, if_neg (nofun : ¬ (Value.null = (Value.ref w_ROTATION_0)))]
        rw [r4_1] at Fk4_1
        have S_ROTATION_0_4 := own_sta_keep S_ROTATION_0 Kc4 (own_plain E_a1 (fun _ q => nomatch q))
        have E_w_ROTATION_0_4 := Exa.keep E_w_ROTATION_0 Kc4
        have S_APPLICATION_4 := own_sta_keep S_APPLICATION Kc4 (own_plain E_a1 (fun _ q => nomatch q))
        have E_w_APPLICATION_4 := Exa.keep E_w_APPLICATION Kc4
        have S_ROTATION_270_4 := own_sta_keep S_ROTATION_270 Kc4 (own_plain E_a1 (fun _ q => nomatch q))
        have E_w_ROTATION_270_4 := Exa.keep E_w_ROTATION_270 Kc4
        have S_ROTATION_180_4 := own_sta_keep S_ROTATION_180 Kc4 (own_plain E_a1 (fun _ q => nomatch q))
        have E_w_ROTATION_180_4 := Exa.keep E_w_ROTATION_180 Kc4
        have S_ROTATION_90_4 := own_sta_keep S_ROTATION_90 Kc4 (own_plain E_a1 (fun _ q => nomatch q))
        have E_w_ROTATION_90_4 := Exa.keep E_w_ROTATION_90 Kc4
        have E_a1_4 := Exa.keep E_a1 Kc4
        have Z4 : n0 ≤ T4.heap.size := Nat.le_trans Z0 Kc4.1
        have B4 : _ ≤ T4.heap.size := Nat.le_trans hB Kc4.1
        refine Go.mp st4 ?_
        show Go p e below (T4.setTop (mkF m 60 #[.val (.int p1), .val (.int p2), .val (.int p3), .val (.int p4), .val (.int p5), .val (.int p6), .val (.ref a1), .val (.int (-1 : Int32)), .unset, .unset, .unset, .unset] [])) _
        refine g_iload X4 hx (hb hby at_60) rfl ?_
        refine g_iloadN X4 hx (hb hby at_62) rfl ?_
        obtain ⟨v5, T5, L5, X5, q5, st5⟩ := own_callS X4 hx hZ (y := (⟨"com/example/reorient/reorient/service/WindowPictureOfPinLaw", "turn", "(II)I"⟩ : MethodName)) (pc := 63) (Ls := #[.val (.int p1), .val (.int p2), .val (.int p3), .val (.int p4), .val (.int p5), .val (.int p6), .val (.ref a1), .val (.int (-1 : Int32)), .unset, .unset, .unset, .unset]) (st := [(.int p3), (.int (-1 : Int32))]) hown (hw _ (List.mem_of_getElem? (i := 48) rfl)) (hw _ (List.mem_of_getElem? (i := 49) rfl)) (hw _ (List.mem_of_getElem? (i := 13) rfl)) (hw _ (List.mem_of_getElem? (i := 50) rfl)) (by decide) (rm_turn l Z a0 hw (-1 : Int32) p3 T4.heap n0 Z4 ) (rfl : T4.heap = T4.heap) pd_3 (hb hby at_63) (by rw [hml]; rfl) (argsL := [(.int (-1 : Int32)), (.int p3)]) (rest := []) rfl rfl rfl (W := 0) (Nat.le_of_eq rfl) (by decide) (by decide) (by decide) (by decide)
        obtain ⟨rfl, M5, e5⟩ := q5
        have N5 := Fr.app N4 M5
        have r5 : (f_turn (-1 : Int32) p3) = (-1 : Int32) := by rw [f_turn, if_neg ((by rw [q2]; decide) : ¬ ((-1 : Int32) = (p3 &&& (3 : Int32))))]
        rw [r5] at st5
        refine Go.mp st5 ?_
        show Go p e below (T5.setTop (mkF m 66 #[.val (.int p1), .val (.int p2), .val (.int p3), .val (.int p4), .val (.int p5), .val (.int p6), .val (.ref a1), .val (.int (-1 : Int32)), .unset, .unset, .unset, .unset] [(.int (-1 : Int32))])) _
        refine g_istore X5 hx #[.val (.int p1), .val (.int p2), .val (.int p3), .val (.int p4), .val (.int p5), .val (.int p6), .val (.ref a1), .val (.int (-1 : Int32)), .unset, .unset, .unset, .unset] (hb hby at_66) rfl ?_
        show Go p e below (T5.setTop (mkF m 68 #[.val (.int p1), .val (.int p2), .val (.int p3), .val (.int p4), .val (.int p5), .val (.int p6), .val (.ref a1), .val (.int (-1 : Int32)), .unset, .unset, .unset, .unset] [])) _
        exact seg_3 l Z a0 hw p1 p2 p3 p4 p5 p6 a1 (-1 : Int32) .null dz w_ROTATION_0 w_APPLICATION w_ROTATION_270 w_ROTATION_180 w_ROTATION_90 T4.heap n0 Z4 S_ROTATION_0_4 E_w_ROTATION_0_4 S_APPLICATION_4 E_w_APPLICATION_4 S_ROTATION_270_4 E_w_ROTATION_270_4 S_ROTATION_180_4 E_w_ROTATION_180_4 S_ROTATION_90_4 E_w_ROTATION_90_4 ne_ROTATION_0_ROTATION_270 ne_ROTATION_0_ROTATION_90 ne_ROTATION_0_ROTATION_180 ne_ROTATION_270_ROTATION_90 ne_ROTATION_270_ROTATION_180 ne_ROTATION_90_ROTATION_180 E_a1_4 Fk4_1 Fk4_0 g_a1 (Or.inl ⟨rfl, rfl⟩) hx hby hml hown hnm hret hlk hZ X5 e5 N5 hS B4
      · obtain ⟨v6, T6, L6, X6, q6, st6⟩ := own_callS X0 hx hZ (y := (⟨"com/example/reorient/reorient/service/WindowPictureOfPinLaw", "rot", "(I)Lcom/example/reorient/reorient/model/Rotation;"⟩ : MethodName)) (pc := 54) (Ls := #[.val (.int p1), .val (.int p2), .val (.int p3), .val (.int p4), .val (.int p5), .val (.int p6), .val (.ref a1), .val (.int (-1 : Int32)), .unset, .unset, .unset, .unset]) (st := [(.int p3), (.ref a1)]) hown (hw _ (List.mem_of_getElem? (i := 11) rfl)) (hw _ (List.mem_of_getElem? (i := 12) rfl)) (hw _ (List.mem_of_getElem? (i := 13) rfl)) (hw _ (List.mem_of_getElem? (i := 14) rfl)) (by decide) (rm_rot l Z a0 hw p3 w_ROTATION_0 w_ROTATION_90 w_ROTATION_180 w_ROTATION_270 h0 n0 Z0 S_ROTATION_0 S_ROTATION_90 S_ROTATION_180 S_ROTATION_270) e0 pd_1 (hb hby at_54) (by rw [hml]; rfl) (argsL := [(.int p3)]) (rest := [(.ref a1)]) rfl rfl rfl (W := 1) (Nat.le_of_eq rfl) (by decide) (by decide) (by decide) (by decide)
        obtain ⟨rfl, M6, e6⟩ := q6
        have N6 := Fr.app N0 M6
        have r6 : (f_rot p3 w_ROTATION_0 w_ROTATION_90 w_ROTATION_180 w_ROTATION_270) = w_ROTATION_90 := by rw [f_rot, if_neg ((by rw [q2]; decide) : ¬ ((p3 &&& (3 : Int32)) = (0 : Int32))), if_pos (q2 : (p3 &&& (3 : Int32)) = (1 : Int32))]
        rw [r6] at st6
        refine Go.mp st6 ?_
        show Go p e below (T6.setTop (mkF m 57 #[.val (.int p1), .val (.int p2), .val (.int p3), .val (.int p4), .val (.int p5), .val (.int p6), .val (.ref a1), .val (.int (-1 : Int32)), .unset, .unset, .unset, .unset] [(.ref w_ROTATION_90), (.ref a1)])) _
        obtain ⟨v7, T7, L7, X7, q7, st7⟩ := own_callV X6 hx hZ (y := (⟨"com/example/reorient/reorient/service/Window", "turnTo", "(Lcom/example/reorient/reorient/model/Rotation;)V"⟩ : MethodName)) (pc := 57) (Ls := #[.val (.int p1), .val (.int p2), .val (.int p3), .val (.int p4), .val (.int p5), .val (.int p6), .val (.ref a1), .val (.int (-1 : Int32)), .unset, .unset, .unset, .unset]) (st := [(.ref w_ROTATION_90), (.ref a1)]) hown (hw _ (List.mem_of_getElem? (i := 43) rfl)) (hw _ (List.mem_of_getElem? (i := 44) rfl)) (hw _ (List.mem_of_getElem? (i := 46) rfl)) (hw _ (List.mem_of_getElem? (i := 45) rfl)) (hw _ (List.mem_of_getElem? (i := 47) rfl)) (hw _ (List.mem_of_getElem? (i := 2) rfl)) (by decide) (rm_turnTo l Z a0 hw a1 w_ROTATION_90 .null dz h0 n0 Z0 rfl E_a1 F_a1_drawn F_a1_picture g_a1) e6 E_a1 pd_2 (hb hby at_57) (by rw [hml]; rfl) (argsL := [(.ref w_ROTATION_90)]) (rest := []) rfl rfl rfl (W := 0) (Nat.le_of_eq rfl) (by decide) (by decide) (by decide) (by decide)
        obtain ⟨rv7, M7, Kc7, Fk7_0, Fk7_1⟩ := q7
        have N7 := Fr.app N6 M7
        subst rv7
        have r7_1 : (f_turnTo_a1_picture a1 w_ROTATION_90 .null dz) = .null := by rw [f_turnTo_a1_picture, if_neg (nofun : ¬ (Value.null = (Value.ref w_ROTATION_90)))]
        rw [r7_1] at Fk7_1
        have S_ROTATION_0_7 := own_sta_keep S_ROTATION_0 Kc7 (own_plain E_a1 (fun _ q => nomatch q))
        have E_w_ROTATION_0_7 := Exa.keep E_w_ROTATION_0 Kc7
        have S_APPLICATION_7 := own_sta_keep S_APPLICATION Kc7 (own_plain E_a1 (fun _ q => nomatch q))
        have E_w_APPLICATION_7 := Exa.keep E_w_APPLICATION Kc7
        have S_ROTATION_270_7 := own_sta_keep S_ROTATION_270 Kc7 (own_plain E_a1 (fun _ q => nomatch q))
        have E_w_ROTATION_270_7 := Exa.keep E_w_ROTATION_270 Kc7
        have S_ROTATION_180_7 := own_sta_keep S_ROTATION_180 Kc7 (own_plain E_a1 (fun _ q => nomatch q))
        have E_w_ROTATION_180_7 := Exa.keep E_w_ROTATION_180 Kc7
        have S_ROTATION_90_7 := own_sta_keep S_ROTATION_90 Kc7 (own_plain E_a1 (fun _ q => nomatch q))
        have E_w_ROTATION_90_7 := Exa.keep E_w_ROTATION_90 Kc7
        have E_a1_7 := Exa.keep E_a1 Kc7
        have Z7 : n0 ≤ T7.heap.size := Nat.le_trans Z0 Kc7.1
        have B7 : _ ≤ T7.heap.size := Nat.le_trans hB Kc7.1
        refine Go.mp st7 ?_
        show Go p e below (T7.setTop (mkF m 60 #[.val (.int p1), .val (.int p2), .val (.int p3), .val (.int p4), .val (.int p5), .val (.int p6), .val (.ref a1), .val (.int (-1 : Int32)), .unset, .unset, .unset, .unset] [])) _
        refine g_iload X7 hx (hb hby at_60) rfl ?_
        refine g_iloadN X7 hx (hb hby at_62) rfl ?_
        obtain ⟨v8, T8, L8, X8, q8, st8⟩ := own_callS X7 hx hZ (y := (⟨"com/example/reorient/reorient/service/WindowPictureOfPinLaw", "turn", "(II)I"⟩ : MethodName)) (pc := 63) (Ls := #[.val (.int p1), .val (.int p2), .val (.int p3), .val (.int p4), .val (.int p5), .val (.int p6), .val (.ref a1), .val (.int (-1 : Int32)), .unset, .unset, .unset, .unset]) (st := [(.int p3), (.int (-1 : Int32))]) hown (hw _ (List.mem_of_getElem? (i := 48) rfl)) (hw _ (List.mem_of_getElem? (i := 49) rfl)) (hw _ (List.mem_of_getElem? (i := 13) rfl)) (hw _ (List.mem_of_getElem? (i := 50) rfl)) (by decide) (rm_turn l Z a0 hw (-1 : Int32) p3 T7.heap n0 Z7 ) (rfl : T7.heap = T7.heap) pd_3 (hb hby at_63) (by rw [hml]; rfl) (argsL := [(.int (-1 : Int32)), (.int p3)]) (rest := []) rfl rfl rfl (W := 0) (Nat.le_of_eq rfl) (by decide) (by decide) (by decide) (by decide)
        obtain ⟨rfl, M8, e8⟩ := q8
        have N8 := Fr.app N7 M8
        have r8 : (f_turn (-1 : Int32) p3) = (-1 : Int32) := by rw [f_turn, if_neg ((by rw [q2]; decide) : ¬ ((-1 : Int32) = (p3 &&& (3 : Int32))))]
        rw [r8] at st8
        refine Go.mp st8 ?_
        show Go p e below (T8.setTop (mkF m 66 #[.val (.int p1), .val (.int p2), .val (.int p3), .val (.int p4), .val (.int p5), .val (.int p6), .val (.ref a1), .val (.int (-1 : Int32)), .unset, .unset, .unset, .unset] [(.int (-1 : Int32))])) _
        refine g_istore X8 hx #[.val (.int p1), .val (.int p2), .val (.int p3), .val (.int p4), .val (.int p5), .val (.int p6), .val (.ref a1), .val (.int (-1 : Int32)), .unset, .unset, .unset, .unset] (hb hby at_66) rfl ?_
        show Go p e below (T8.setTop (mkF m 68 #[.val (.int p1), .val (.int p2), .val (.int p3), .val (.int p4), .val (.int p5), .val (.int p6), .val (.ref a1), .val (.int (-1 : Int32)), .unset, .unset, .unset, .unset] [])) _
        exact seg_3 l Z a0 hw p1 p2 p3 p4 p5 p6 a1 (-1 : Int32) .null dz w_ROTATION_0 w_APPLICATION w_ROTATION_270 w_ROTATION_180 w_ROTATION_90 T7.heap n0 Z7 S_ROTATION_0_7 E_w_ROTATION_0_7 S_APPLICATION_7 E_w_APPLICATION_7 S_ROTATION_270_7 E_w_ROTATION_270_7 S_ROTATION_180_7 E_w_ROTATION_180_7 S_ROTATION_90_7 E_w_ROTATION_90_7 ne_ROTATION_0_ROTATION_270 ne_ROTATION_0_ROTATION_90 ne_ROTATION_0_ROTATION_180 ne_ROTATION_270_ROTATION_90 ne_ROTATION_270_ROTATION_180 ne_ROTATION_90_ROTATION_180 E_a1_7 Fk7_1 Fk7_0 g_a1 (Or.inl ⟨rfl, rfl⟩) hx hby hml hown hnm hret hlk hZ X8 e8 N8 hS B7
      · obtain ⟨v9, T9, L9, X9, q9, st9⟩ := own_callS X0 hx hZ (y := (⟨"com/example/reorient/reorient/service/WindowPictureOfPinLaw", "rot", "(I)Lcom/example/reorient/reorient/model/Rotation;"⟩ : MethodName)) (pc := 54) (Ls := #[.val (.int p1), .val (.int p2), .val (.int p3), .val (.int p4), .val (.int p5), .val (.int p6), .val (.ref a1), .val (.int (-1 : Int32)), .unset, .unset, .unset, .unset]) (st := [(.int p3), (.ref a1)]) hown (hw _ (List.mem_of_getElem? (i := 11) rfl)) (hw _ (List.mem_of_getElem? (i := 12) rfl)) (hw _ (List.mem_of_getElem? (i := 13) rfl)) (hw _ (List.mem_of_getElem? (i := 14) rfl)) (by decide) (rm_rot l Z a0 hw p3 w_ROTATION_0 w_ROTATION_90 w_ROTATION_180 w_ROTATION_270 h0 n0 Z0 S_ROTATION_0 S_ROTATION_90 S_ROTATION_180 S_ROTATION_270) e0 pd_1 (hb hby at_54) (by rw [hml]; rfl) (argsL := [(.int p3)]) (rest := [(.ref a1)]) rfl rfl rfl (W := 1) (Nat.le_of_eq rfl) (by decide) (by decide) (by decide) (by decide)
        obtain ⟨rfl, M9, e9⟩ := q9
        have N9 := Fr.app N0 M9
        have r9 : (f_rot p3 w_ROTATION_0 w_ROTATION_90 w_ROTATION_180 w_ROTATION_270) = w_ROTATION_180 := by rw [f_rot, if_neg ((by rw [q2]; decide) : ¬ ((p3 &&& (3 : Int32)) = (0 : Int32))), if_neg ((by rw [q2]; decide) : ¬ ((p3 &&& (3 : Int32)) = (1 : Int32))), if_pos (q2 : (p3 &&& (3 : Int32)) = (2 : Int32))]
        rw [r9] at st9
        refine Go.mp st9 ?_
        show Go p e below (T9.setTop (mkF m 57 #[.val (.int p1), .val (.int p2), .val (.int p3), .val (.int p4), .val (.int p5), .val (.int p6), .val (.ref a1), .val (.int (-1 : Int32)), .unset, .unset, .unset, .unset] [(.ref w_ROTATION_180), (.ref a1)])) _
        obtain ⟨v10, T10, L10, X10, q10, st10⟩ := own_callV X9 hx hZ (y := (⟨"com/example/reorient/reorient/service/Window", "turnTo", "(Lcom/example/reorient/reorient/model/Rotation;)V"⟩ : MethodName)) (pc := 57) (Ls := #[.val (.int p1), .val (.int p2), .val (.int p3), .val (.int p4), .val (.int p5), .val (.int p6), .val (.ref a1), .val (.int (-1 : Int32)), .unset, .unset, .unset, .unset]) (st := [(.ref w_ROTATION_180), (.ref a1)]) hown (hw _ (List.mem_of_getElem? (i := 43) rfl)) (hw _ (List.mem_of_getElem? (i := 44) rfl)) (hw _ (List.mem_of_getElem? (i := 46) rfl)) (hw _ (List.mem_of_getElem? (i := 45) rfl)) (hw _ (List.mem_of_getElem? (i := 47) rfl)) (hw _ (List.mem_of_getElem? (i := 2) rfl)) (by decide) (rm_turnTo l Z a0 hw a1 w_ROTATION_180 .null dz h0 n0 Z0 rfl E_a1 F_a1_drawn F_a1_picture g_a1) e9 E_a1 pd_2 (hb hby at_57) (by rw [hml]; rfl) (argsL := [(.ref w_ROTATION_180)]) (rest := []) rfl rfl rfl (W := 0) (Nat.le_of_eq rfl) (by decide) (by decide) (by decide) (by decide)
        obtain ⟨rv10, M10, Kc10, Fk10_0, Fk10_1⟩ := q10
        have N10 := Fr.app N9 M10
        subst rv10
        have r10_1 : (f_turnTo_a1_picture a1 w_ROTATION_180 .null dz) = .null := by rw [f_turnTo_a1_picture, if_neg (nofun : ¬ (Value.null = (Value.ref w_ROTATION_180)))]
        rw [r10_1] at Fk10_1
        have S_ROTATION_0_10 := own_sta_keep S_ROTATION_0 Kc10 (own_plain E_a1 (fun _ q => nomatch q))
        have E_w_ROTATION_0_10 := Exa.keep E_w_ROTATION_0 Kc10
        have S_APPLICATION_10 := own_sta_keep S_APPLICATION Kc10 (own_plain E_a1 (fun _ q => nomatch q))
        have E_w_APPLICATION_10 := Exa.keep E_w_APPLICATION Kc10
        have S_ROTATION_270_10 := own_sta_keep S_ROTATION_270 Kc10 (own_plain E_a1 (fun _ q => nomatch q))
        have E_w_ROTATION_270_10 := Exa.keep E_w_ROTATION_270 Kc10
        have S_ROTATION_180_10 := own_sta_keep S_ROTATION_180 Kc10 (own_plain E_a1 (fun _ q => nomatch q))
        have E_w_ROTATION_180_10 := Exa.keep E_w_ROTATION_180 Kc10
        have S_ROTATION_90_10 := own_sta_keep S_ROTATION_90 Kc10 (own_plain E_a1 (fun _ q => nomatch q))
        have E_w_ROTATION_90_10 := Exa.keep E_w_ROTATION_90 Kc10
        have E_a1_10 := Exa.keep E_a1 Kc10
        have Z10 : n0 ≤ T10.heap.size := Nat.le_trans Z0 Kc10.1
        have B10 : _ ≤ T10.heap.size := Nat.le_trans hB Kc10.1
        refine Go.mp st10 ?_
        show Go p e below (T10.setTop (mkF m 60 #[.val (.int p1), .val (.int p2), .val (.int p3), .val (.int p4), .val (.int p5), .val (.int p6), .val (.ref a1), .val (.int (-1 : Int32)), .unset, .unset, .unset, .unset] [])) _
        refine g_iload X10 hx (hb hby at_60) rfl ?_
        refine g_iloadN X10 hx (hb hby at_62) rfl ?_
        obtain ⟨v11, T11, L11, X11, q11, st11⟩ := own_callS X10 hx hZ (y := (⟨"com/example/reorient/reorient/service/WindowPictureOfPinLaw", "turn", "(II)I"⟩ : MethodName)) (pc := 63) (Ls := #[.val (.int p1), .val (.int p2), .val (.int p3), .val (.int p4), .val (.int p5), .val (.int p6), .val (.ref a1), .val (.int (-1 : Int32)), .unset, .unset, .unset, .unset]) (st := [(.int p3), (.int (-1 : Int32))]) hown (hw _ (List.mem_of_getElem? (i := 48) rfl)) (hw _ (List.mem_of_getElem? (i := 49) rfl)) (hw _ (List.mem_of_getElem? (i := 13) rfl)) (hw _ (List.mem_of_getElem? (i := 50) rfl)) (by decide) (rm_turn l Z a0 hw (-1 : Int32) p3 T10.heap n0 Z10 ) (rfl : T10.heap = T10.heap) pd_3 (hb hby at_63) (by rw [hml]; rfl) (argsL := [(.int (-1 : Int32)), (.int p3)]) (rest := []) rfl rfl rfl (W := 0) (Nat.le_of_eq rfl) (by decide) (by decide) (by decide) (by decide)
        obtain ⟨rfl, M11, e11⟩ := q11
        have N11 := Fr.app N10 M11
        have r11 : (f_turn (-1 : Int32) p3) = (-1 : Int32) := by rw [f_turn, if_neg ((by rw [q2]; decide) : ¬ ((-1 : Int32) = (p3 &&& (3 : Int32))))]
        rw [r11] at st11
        refine Go.mp st11 ?_
        show Go p e below (T11.setTop (mkF m 66 #[.val (.int p1), .val (.int p2), .val (.int p3), .val (.int p4), .val (.int p5), .val (.int p6), .val (.ref a1), .val (.int (-1 : Int32)), .unset, .unset, .unset, .unset] [(.int (-1 : Int32))])) _
        refine g_istore X11 hx #[.val (.int p1), .val (.int p2), .val (.int p3), .val (.int p4), .val (.int p5), .val (.int p6), .val (.ref a1), .val (.int (-1 : Int32)), .unset, .unset, .unset, .unset] (hb hby at_66) rfl ?_
        show Go p e below (T11.setTop (mkF m 68 #[.val (.int p1), .val (.int p2), .val (.int p3), .val (.int p4), .val (.int p5), .val (.int p6), .val (.ref a1), .val (.int (-1 : Int32)), .unset, .unset, .unset, .unset] [])) _
        exact seg_3 l Z a0 hw p1 p2 p3 p4 p5 p6 a1 (-1 : Int32) .null dz w_ROTATION_0 w_APPLICATION w_ROTATION_270 w_ROTATION_180 w_ROTATION_90 T10.heap n0 Z10 S_ROTATION_0_10 E_w_ROTATION_0_10 S_APPLICATION_10 E_w_APPLICATION_10 S_ROTATION_270_10 E_w_ROTATION_270_10 S_ROTATION_180_10 E_w_ROTATION_180_10 S_ROTATION_90_10 E_w_ROTATION_90_10 ne_ROTATION_0_ROTATION_270 ne_ROTATION_0_ROTATION_90 ne_ROTATION_0_ROTATION_180 ne_ROTATION_270_ROTATION_90 ne_ROTATION_270_ROTATION_180 ne_ROTATION_90_ROTATION_180 E_a1_10 Fk10_1 Fk10_0 g_a1 (Or.inl ⟨rfl, rfl⟩) hx hby hml hown hnm hret hlk hZ X11 e11 N11 hS B10
      · obtain ⟨v12, T12, L12, X12, q12, st12⟩ := own_callS X0 hx hZ (y := (⟨"com/example/reorient/reorient/service/WindowPictureOfPinLaw", "rot", "(I)Lcom/example/reorient/reorient/model/Rotation;"⟩ : MethodName)) (pc := 54) (Ls := #[.val (.int p1), .val (.int p2), .val (.int p3), .val (.int p4), .val (.int p5), .val (.int p6), .val (.ref a1), .val (.int (-1 : Int32)), .unset, .unset, .unset, .unset]) (st := [(.int p3), (.ref a1)]) hown (hw _ (List.mem_of_getElem? (i := 11) rfl)) (hw _ (List.mem_of_getElem? (i := 12) rfl)) (hw _ (List.mem_of_getElem? (i := 13) rfl)) (hw _ (List.mem_of_getElem? (i := 14) rfl)) (by decide) (rm_rot l Z a0 hw p3 w_ROTATION_0 w_ROTATION_90 w_ROTATION_180 w_ROTATION_270 h0 n0 Z0 S_ROTATION_0 S_ROTATION_90 S_ROTATION_180 S_ROTATION_270) e0 pd_1 (hb hby at_54) (by rw [hml]; rfl) (argsL := [(.int p3)]) (rest := [(.ref a1)]) rfl rfl rfl (W := 1) (Nat.le_of_eq rfl) (by decide) (by decide) (by decide) (by decide)
        obtain ⟨rfl, M12, e12⟩ := q12
        have N12 := Fr.app N0 M12
        have r12 : (f_rot p3 w_ROTATION_0 w_ROTATION_90 w_ROTATION_180 w_ROTATION_270) = w_ROTATION_270 := by rw [f_rot, if_neg ((by rw [q2]; decide) : ¬ ((p3 &&& (3 : Int32)) = (0 : Int32))), if_neg ((by rw [q2]; decide) : ¬ ((p3 &&& (3 : Int32)) = (1 : Int32))), if_neg ((by rw [q2]; decide) : ¬ ((p3 &&& (3 : Int32)) = (2 : Int32)))]
        rw [r12] at st12
        refine Go.mp st12 ?_
        show Go p e below (T12.setTop (mkF m 57 #[.val (.int p1), .val (.int p2), .val (.int p3), .val (.int p4), .val (.int p5), .val (.int p6), .val (.ref a1), .val (.int (-1 : Int32)), .unset, .unset, .unset, .unset] [(.ref w_ROTATION_270), (.ref a1)])) _
        obtain ⟨v13, T13, L13, X13, q13, st13⟩ := own_callV X12 hx hZ (y := (⟨"com/example/reorient/reorient/service/Window", "turnTo", "(Lcom/example/reorient/reorient/model/Rotation;)V"⟩ : MethodName)) (pc := 57) (Ls := #[.val (.int p1), .val (.int p2), .val (.int p3), .val (.int p4), .val (.int p5), .val (.int p6), .val (.ref a1), .val (.int (-1 : Int32)), .unset, .unset, .unset, .unset]) (st := [(.ref w_ROTATION_270), (.ref a1)]) hown (hw _ (List.mem_of_getElem? (i := 43) rfl)) (hw _ (List.mem_of_getElem? (i := 44) rfl)) (hw _ (List.mem_of_getElem? (i := 46) rfl)) (hw _ (List.mem_of_getElem? (i := 45) rfl)) (hw _ (List.mem_of_getElem? (i := 47) rfl)) (hw _ (List.mem_of_getElem? (i := 2) rfl)) (by decide) (rm_turnTo l Z a0 hw a1 w_ROTATION_270 .null dz h0 n0 Z0 rfl E_a1 F_a1_drawn F_a1_picture g_a1) e12 E_a1 pd_2 (hb hby at_57) (by rw [hml]; rfl) (argsL := [(.ref w_ROTATION_270)]) (rest := []) rfl rfl rfl (W := 0) (Nat.le_of_eq rfl) (by decide) (by decide) (by decide) (by decide)
        obtain ⟨rv13, M13, Kc13, Fk13_0, Fk13_1⟩ := q13
        have N13 := Fr.app N12 M13
        subst rv13
        have r13_1 : (f_turnTo_a1_picture a1 w_ROTATION_270 .null dz) = .null := by rw [f_turnTo_a1_picture, if_neg (nofun : ¬ (Value.null = (Value.ref w_ROTATION_270)))]
        rw [r13_1] at Fk13_1
        have S_ROTATION_0_13 := own_sta_keep S_ROTATION_0 Kc13 (own_plain E_a1 (fun _ q => nomatch q))
        have E_w_ROTATION_0_13 := Exa.keep E_w_ROTATION_0 Kc13
        have S_APPLICATION_13 := own_sta_keep S_APPLICATION Kc13 (own_plain E_a1 (fun _ q => nomatch q))
        have E_w_APPLICATION_13 := Exa.keep E_w_APPLICATION Kc13
        have S_ROTATION_270_13 := own_sta_keep S_ROTATION_270 Kc13 (own_plain E_a1 (fun _ q => nomatch q))
        have E_w_ROTATION_270_13 := Exa.keep E_w_ROTATION_270 Kc13
        have S_ROTATION_180_13 := own_sta_keep S_ROTATION_180 Kc13 (own_plain E_a1 (fun _ q => nomatch q))
        have E_w_ROTATION_180_13 := Exa.keep E_w_ROTATION_180 Kc13
        have S_ROTATION_90_13 := own_sta_keep S_ROTATION_90 Kc13 (own_plain E_a1 (fun _ q => nomatch q))
        have E_w_ROTATION_90_13 := Exa.keep E_w_ROTATION_90 Kc13
        have E_a1_13 := Exa.keep E_a1 Kc13
        have Z13 : n0 ≤ T13.heap.size := Nat.le_trans Z0 Kc13.1
        have B13 : _ ≤ T13.heap.size := Nat.le_trans hB Kc13.1
        refine Go.mp st13 ?_
        show Go p e below (T13.setTop (mkF m 60 #[.val (.int p1), .val (.int p2), .val (.int p3), .val (.int p4), .val (.int p5), .val (.int p6), .val (.ref a1), .val (.int (-1 : Int32)), .unset, .unset, .unset, .unset] [])) _
        refine g_iload X13 hx (hb hby at_60) rfl ?_
        refine g_iloadN X13 hx (hb hby at_62) rfl ?_
        obtain ⟨v14, T14, L14, X14, q14, st14⟩ := own_callS X13 hx hZ (y := (⟨"com/example/reorient/reorient/service/WindowPictureOfPinLaw", "turn", "(II)I"⟩ : MethodName)) (pc := 63) (Ls := #[.val (.int p1), .val (.int p2), .val (.int p3), .val (.int p4), .val (.int p5), .val (.int p6), .val (.ref a1), .val (.int (-1 : Int32)), .unset, .unset, .unset, .unset]) (st := [(.int p3), (.int (-1 : Int32))]) hown (hw _ (List.mem_of_getElem? (i := 48) rfl)) (hw _ (List.mem_of_getElem? (i := 49) rfl)) (hw _ (List.mem_of_getElem? (i := 13) rfl)) (hw _ (List.mem_of_getElem? (i := 50) rfl)) (by decide) (rm_turn l Z a0 hw (-1 : Int32) p3 T13.heap n0 Z13 ) (rfl : T13.heap = T13.heap) pd_3 (hb hby at_63) (by rw [hml]; rfl) (argsL := [(.int (-1 : Int32)), (.int p3)]) (rest := []) rfl rfl rfl (W := 0) (Nat.le_of_eq rfl) (by decide) (by decide) (by decide) (by decide)
        obtain ⟨rfl, M14, e14⟩ := q14
        have N14 := Fr.app N13 M14
        have r14 : (f_turn (-1 : Int32) p3) = (-1 : Int32) := by rw [f_turn, if_neg ((by rw [q2]; decide) : ¬ ((-1 : Int32) = (p3 &&& (3 : Int32))))]
        rw [r14] at st14
        refine Go.mp st14 ?_
        show Go p e below (T14.setTop (mkF m 66 #[.val (.int p1), .val (.int p2), .val (.int p3), .val (.int p4), .val (.int p5), .val (.int p6), .val (.ref a1), .val (.int (-1 : Int32)), .unset, .unset, .unset, .unset] [(.int (-1 : Int32))])) _
        refine g_istore X14 hx #[.val (.int p1), .val (.int p2), .val (.int p3), .val (.int p4), .val (.int p5), .val (.int p6), .val (.ref a1), .val (.int (-1 : Int32)), .unset, .unset, .unset, .unset] (hb hby at_66) rfl ?_
        show Go p e below (T14.setTop (mkF m 68 #[.val (.int p1), .val (.int p2), .val (.int p3), .val (.int p4), .val (.int p5), .val (.int p6), .val (.ref a1), .val (.int (-1 : Int32)), .unset, .unset, .unset, .unset] [])) _
        exact seg_3 l Z a0 hw p1 p2 p3 p4 p5 p6 a1 (-1 : Int32) .null dz w_ROTATION_0 w_APPLICATION w_ROTATION_270 w_ROTATION_180 w_ROTATION_90 T13.heap n0 Z13 S_ROTATION_0_13 E_w_ROTATION_0_13 S_APPLICATION_13 E_w_APPLICATION_13 S_ROTATION_270_13 E_w_ROTATION_270_13 S_ROTATION_180_13 E_w_ROTATION_180_13 S_ROTATION_90_13 E_w_ROTATION_90_13 ne_ROTATION_0_ROTATION_270 ne_ROTATION_0_ROTATION_90 ne_ROTATION_0_ROTATION_180 ne_ROTATION_270_ROTATION_90 ne_ROTATION_270_ROTATION_180 ne_ROTATION_90_ROTATION_180 E_a1_13 Fk13_1 Fk13_0 g_a1 (Or.inl ⟨rfl, rfl⟩) hx hby hml hown hnm hret hlk hZ X14 e14 N14 hS B13
  · refine g_iload X0 hx (hb hby at_44) rfl ?_
    refine g_iconst X0 hx (2 : Int32) (hb hby at_46) (by decide) ?_
    refine g_iand X0 hx (hb hby at_47) ?_
    by_cases c48_15 : (p6 &&& (2 : Int32)) = (0 : Int32)
    · refine g_ifYes X0 hx 68 (hb hby at_48) ((if0 _ _).trans (teq c48_15).1) (by decide) (by decide) ?_
      show Go p e below (s₁.setTop (mkF m 68 #[.val (.int p1), .val (.int p2), .val (.int p3), .val (.int p4), .val (.int p5), .val (.int p6), .val (.ref a1), .val (.int (0 : Int32)), .unset, .unset, .unset, .unset] [])) _
      exact seg_3 l Z a0 hw p1 p2 p3 p4 p5 p6 a1 (0 : Int32) (.ref w_ROTATION_0) dz w_ROTATION_0 w_APPLICATION w_ROTATION_270 w_ROTATION_180 w_ROTATION_90 h0 n0 Z0 S_ROTATION_0 E_w_ROTATION_0 S_APPLICATION E_w_APPLICATION S_ROTATION_270 E_w_ROTATION_270 S_ROTATION_180 E_w_ROTATION_180 S_ROTATION_90 E_w_ROTATION_90 ne_ROTATION_0_ROTATION_270 ne_ROTATION_0_ROTATION_90 ne_ROTATION_0_ROTATION_180 ne_ROTATION_270_ROTATION_90 ne_ROTATION_270_ROTATION_180 ne_ROTATION_90_ROTATION_180 E_a1 F_a1_picture F_a1_drawn g_a1 (Or.inr (Or.inl ⟨rfl, rfl⟩)) hx hby hml hown hnm hret hlk hZ X0 e0 N0 hS hB
    · refine g_ifNo X0 hx (hb hby at_48) ((if0 _ _).trans (feq c48_15).1) ?_
      refine g_aload X0 hx (hb hby at_51) rfl rfl ?_
      refine g_iloadN X0 hx (hb hby at_53) rfl ?_
      show Go p e below (s₁.setTop (mkF m 54 #[.val (.int p1), .val (.int p2), .val (.int p3), .val (.int p4), .val (.int p5), .val (.int p6), .val (.ref a1), .val (.int (0 : Int32)), .unset, .unset, .unset, .unset] [(.int p3), (.ref a1)])) _
      rcases own_and3 p3 with q16 | q16 | q16 | q16
      · obtain ⟨v17, T17, L17, X17, q17, st17⟩ := own_callS X0 hx hZ (y := (⟨"com/example/reorient/reorient/service/WindowPictureOfPinLaw", "rot", "(I)Lcom/example/reorient/reorient/model/Rotation;"⟩ : MethodName)) (pc := 54) (Ls := #[.val (.int p1), .val (.int p2), .val (.int p3), .val (.int p4), .val (.int p5), .val (.int p6), .val (.ref a1), .val (.int (0 : Int32)), .unset, .unset, .unset, .unset]) (st := [(.int p3), (.ref a1)]) hown (hw _ (List.mem_of_getElem? (i := 11) rfl)) (hw _ (List.mem_of_getElem? (i := 12) rfl)) (hw _ (List.mem_of_getElem? (i := 13) rfl)) (hw _ (List.mem_of_getElem? (i := 14) rfl)) (by decide) (rm_rot l Z a0 hw p3 w_ROTATION_0 w_ROTATION_90 w_ROTATION_180 w_ROTATION_270 h0 n0 Z0 S_ROTATION_0 S_ROTATION_90 S_ROTATION_180 S_ROTATION_270) e0 pd_1 (hb hby at_54) (by rw [hml]; rfl) (argsL := [(.int p3)]) (rest := [(.ref a1)]) rfl rfl rfl (W := 1) (Nat.le_of_eq rfl) (by decide) (by decide) (by decide) (by decide)
        obtain ⟨rfl, M17, e17⟩ := q17
        have N17 := Fr.app N0 M17
        have r17 : (f_rot p3 w_ROTATION_0 w_ROTATION_90 w_ROTATION_180 w_ROTATION_270) = w_ROTATION_0 := by rw [f_rot, if_pos (q16 : (p3 &&& (3 : Int32)) = (0 : Int32))]
        rw [r17] at st17
        refine Go.mp st17 ?_
        show Go p e below (T17.setTop (mkF m 57 #[.val (.int p1), .val (.int p2), .val (.int p3), .val (.int p4), .val (.int p5), .val (.int p6), .val (.ref a1), .val (.int (0 : Int32)), .unset, .unset, .unset, .unset] [(.ref w_ROTATION_0), (.ref a1)])) _
        obtain ⟨v18, T18, L18, X18, q18, st18⟩ := own_callV X17 hx hZ (y := (⟨"com/example/reorient/reorient/service/Window", "turnTo", "(Lcom/example/reorient/reorient/model/Rotation;)V"⟩ : MethodName)) (pc := 57) (Ls := #[.val (.int p1), .val (.int p2), .val (.int p3), .val (.int p4), .val (.int p5), .val (.int p6), .val (.ref a1), .val (.int (0 : Int32)), .unset, .unset, .unset, .unset]) (st := [(.ref w_ROTATION_0), (.ref a1)]) hown (hw _ (List.mem_of_getElem? (i := 43) rfl)) (hw _ (List.mem_of_getElem? (i := 44) rfl)) (hw _ (List.mem_of_getElem? (i := 46) rfl)) (hw _ (List.mem_of_getElem? (i := 45) rfl)) (hw _ (List.mem_of_getElem? (i := 47) rfl)) (hw _ (List.mem_of_getElem? (i := 2) rfl)) (by decide) (rm_turnTo l Z a0 hw a1 w_ROTATION_0 (.ref w_ROTATION_0) dz h0 n0 Z0 rfl E_a1 F_a1_drawn F_a1_picture g_a1) e17 E_a1 pd_2 (hb hby at_57) (by rw [hml]; rfl) (argsL := [(.ref w_ROTATION_0)]) (rest := []) rfl rfl rfl (W := 0) (Nat.le_of_eq rfl) (by decide) (by decide) (by decide) (by decide)
        obtain ⟨rv18, M18, Kc18, Fk18_0, Fk18_1⟩ := q18
        have N18 := Fr.app N17 M18
        subst rv18
        have r18_1 : (f_turnTo_a1_picture a1 w_ROTATION_0 (.ref w_ROTATION_0) dz) = (.ref w_ROTATION_0) := by rw [f_turnTo_a1_picture, if_pos (rfl : (Value.ref w_ROTATION_0) = (Value.ref w_ROTATION_0))]
        rw [r18_1] at Fk18_1
        have S_ROTATION_0_18 := own_sta_keep S_ROTATION_0 Kc18 (own_plain E_a1 (fun _ q => nomatch q))
        have E_w_ROTATION_0_18 := Exa.keep E_w_ROTATION_0 Kc18
        have S_APPLICATION_18 := own_sta_keep S_APPLICATION Kc18 (own_plain E_a1 (fun _ q => nomatch q))
        have E_w_APPLICATION_18 := Exa.keep E_w_APPLICATION Kc18
        have S_ROTATION_270_18 := own_sta_keep S_ROTATION_270 Kc18 (own_plain E_a1 (fun _ q => nomatch q))
        have E_w_ROTATION_270_18 := Exa.keep E_w_ROTATION_270 Kc18
        have S_ROTATION_180_18 := own_sta_keep S_ROTATION_180 Kc18 (own_plain E_a1 (fun _ q => nomatch q))
        have E_w_ROTATION_180_18 := Exa.keep E_w_ROTATION_180 Kc18
        have S_ROTATION_90_18 := own_sta_keep S_ROTATION_90 Kc18 (own_plain E_a1 (fun _ q => nomatch q))
        have E_w_ROTATION_90_18 := Exa.keep E_w_ROTATION_90 Kc18
        have E_a1_18 := Exa.keep E_a1 Kc18
        have Z18 : n0 ≤ T18.heap.size := Nat.le_trans Z0 Kc18.1
        have B18 : _ ≤ T18.heap.size := Nat.le_trans hB Kc18.1
        refine Go.mp st18 ?_
        show Go p e below (T18.setTop (mkF m 60 #[.val (.int p1), .val (.int p2), .val (.int p3), .val (.int p4), .val (.int p5), .val (.int p6), .val (.ref a1), .val (.int (0 : Int32)), .unset, .unset, .unset, .unset] [])) _
        refine g_iload X18 hx (hb hby at_60) rfl ?_
        refine g_iloadN X18 hx (hb hby at_62) rfl ?_
        obtain ⟨v19, T19, L19, X19, q19, st19⟩ := own_callS X18 hx hZ (y := (⟨"com/example/reorient/reorient/service/WindowPictureOfPinLaw", "turn", "(II)I"⟩ : MethodName)) (pc := 63) (Ls := #[.val (.int p1), .val (.int p2), .val (.int p3), .val (.int p4), .val (.int p5), .val (.int p6), .val (.ref a1), .val (.int (0 : Int32)), .unset, .unset, .unset, .unset]) (st := [(.int p3), (.int (0 : Int32))]) hown (hw _ (List.mem_of_getElem? (i := 48) rfl)) (hw _ (List.mem_of_getElem? (i := 49) rfl)) (hw _ (List.mem_of_getElem? (i := 13) rfl)) (hw _ (List.mem_of_getElem? (i := 50) rfl)) (by decide) (rm_turn l Z a0 hw (0 : Int32) p3 T18.heap n0 Z18 ) (rfl : T18.heap = T18.heap) pd_3 (hb hby at_63) (by rw [hml]; rfl) (argsL := [(.int (0 : Int32)), (.int p3)]) (rest := []) rfl rfl rfl (W := 0) (Nat.le_of_eq rfl) (by decide) (by decide) (by decide) (by decide)
        obtain ⟨rfl, M19, e19⟩ := q19
        have N19 := Fr.app N18 M19
        have r19 : (f_turn (0 : Int32) p3) = (0 : Int32) := by rw [f_turn, if_pos (q16.symm : (0 : Int32) = (p3 &&& (3 : Int32)))]
        rw [r19] at st19
        refine Go.mp st19 ?_
        show Go p e below (T19.setTop (mkF m 66 #[.val (.int p1), .val (.int p2), .val (.int p3), .val (.int p4), .val (.int p5), .val (.int p6), .val (.ref a1), .val (.int (0 : Int32)), .unset, .unset, .unset, .unset] [(.int (0 : Int32))])) _
        refine g_istore X19 hx #[.val (.int p1), .val (.int p2), .val (.int p3), .val (.int p4), .val (.int p5), .val (.int p6), .val (.ref a1), .val (.int (0 : Int32)), .unset, .unset, .unset, .unset] (hb hby at_66) rfl ?_
        show Go p e below (T19.setTop (mkF m 68 #[.val (.int p1), .val (.int p2), .val (.int p3), .val (.int p4), .val (.int p5), .val (.int p6), .val (.ref a1), .val (.int (0 : Int32)), .unset, .unset, .unset, .unset] [])) _
        exact seg_3 l Z a0 hw p1 p2 p3 p4 p5 p6 a1 (0 : Int32) (.ref w_ROTATION_0) dz w_ROTATION_0 w_APPLICATION w_ROTATION_270 w_ROTATION_180 w_ROTATION_90 T18.heap n0 Z18 S_ROTATION_0_18 E_w_ROTATION_0_18 S_APPLICATION_18 E_w_APPLICATION_18 S_ROTATION_270_18 E_w_ROTATION_270_18 S_ROTATION_180_18 E_w_ROTATION_180_18 S_ROTATION_90_18 E_w_ROTATION_90_18 ne_ROTATION_0_ROTATION_270 ne_ROTATION_0_ROTATION_90 ne_ROTATION_0_ROTATION_180 ne_ROTATION_270_ROTATION_90 ne_ROTATION_270_ROTATION_180 ne_ROTATION_90_ROTATION_180 E_a1_18 Fk18_1 Fk18_0 g_a1 (Or.inr (Or.inl ⟨rfl, rfl⟩)) hx hby hml hown hnm hret hlk hZ X19 e19 N19 hS B18
      · obtain ⟨v20, T20, L20, X20, q20, st20⟩ := own_callS X0 hx hZ (y := (⟨"com/example/reorient/reorient/service/WindowPictureOfPinLaw", "rot", "(I)Lcom/example/reorient/reorient/model/Rotation;"⟩ : MethodName)) (pc := 54) (Ls := #[.val (.int p1), .val (.int p2), .val (.int p3), .val (.int p4), .val (.int p5), .val (.int p6), .val (.ref a1), .val (.int (0 : Int32)), .unset, .unset, .unset, .unset]) (st := [(.int p3), (.ref a1)]) hown (hw _ (List.mem_of_getElem? (i := 11) rfl)) (hw _ (List.mem_of_getElem? (i := 12) rfl)) (hw _ (List.mem_of_getElem? (i := 13) rfl)) (hw _ (List.mem_of_getElem? (i := 14) rfl)) (by decide) (rm_rot l Z a0 hw p3 w_ROTATION_0 w_ROTATION_90 w_ROTATION_180 w_ROTATION_270 h0 n0 Z0 S_ROTATION_0 S_ROTATION_90 S_ROTATION_180 S_ROTATION_270) e0 pd_1 (hb hby at_54) (by rw [hml]; rfl) (argsL := [(.int p3)]) (rest := [(.ref a1)]) rfl rfl rfl (W := 1) (Nat.le_of_eq rfl) (by decide) (by decide) (by decide) (by decide)
        obtain ⟨rfl, M20, e20⟩ := q20
        have N20 := Fr.app N0 M20
        have r20 : (f_rot p3 w_ROTATION_0 w_ROTATION_90 w_ROTATION_180 w_ROTATION_270) = w_ROTATION_90 := by rw [f_rot, if_neg ((by rw [q16]; decide) : ¬ ((p3 &&& (3 : Int32)) = (0 : Int32))), if_pos (q16 : (p3 &&& (3 : Int32)) = (1 : Int32))]
        rw [r20] at st20
        refine Go.mp st20 ?_
        show Go p e below (T20.setTop (mkF m 57 #[.val (.int p1), .val (.int p2), .val (.int p3), .val (.int p4), .val (.int p5), .val (.int p6), .val (.ref a1), .val (.int (0 : Int32)), .unset, .unset, .unset, .unset] [(.ref w_ROTATION_90), (.ref a1)])) _
        obtain ⟨v21, T21, L21, X21, q21, st21⟩ := own_callV X20 hx hZ (y := (⟨"com/example/reorient/reorient/service/Window", "turnTo", "(Lcom/example/reorient/reorient/model/Rotation;)V"⟩ : MethodName)) (pc := 57) (Ls := #[.val (.int p1), .val (.int p2), .val (.int p3), .val (.int p4), .val (.int p5), .val (.int p6), .val (.ref a1), .val (.int (0 : Int32)), .unset, .unset, .unset, .unset]) (st := [(.ref w_ROTATION_90), (.ref a1)]) hown (hw _ (List.mem_of_getElem? (i := 43) rfl)) (hw _ (List.mem_of_getElem? (i := 44) rfl)) (hw _ (List.mem_of_getElem? (i := 46) rfl)) (hw _ (List.mem_of_getElem? (i := 45) rfl)) (hw _ (List.mem_of_getElem? (i := 47) rfl)) (hw _ (List.mem_of_getElem? (i := 2) rfl)) (by decide) (rm_turnTo l Z a0 hw a1 w_ROTATION_90 (.ref w_ROTATION_0) dz h0 n0 Z0 rfl E_a1 F_a1_drawn F_a1_picture g_a1) e20 E_a1 pd_2 (hb hby at_57) (by rw [hml]; rfl) (argsL := [(.ref w_ROTATION_90)]) (rest := []) rfl rfl rfl (W := 0) (Nat.le_of_eq rfl) (by decide) (by decide) (by decide) (by decide)
        obtain ⟨rv21, M21, Kc21, Fk21_0, Fk21_1⟩ := q21
        have N21 := Fr.app N20 M21
        subst rv21
        have r21_1 : (f_turnTo_a1_picture a1 w_ROTATION_90 (.ref w_ROTATION_0) dz) = .null := by rw [f_turnTo_a1_picture, if_neg ((fun q => ne_ROTATION_0_ROTATION_90 (Value.ref.inj q)) : ¬ ((Value.ref w_ROTATION_0) = (Value.ref w_ROTATION_90)))]
        rw [r21_1] at Fk21_1
        have S_ROTATION_0_21 := own_sta_keep S_ROTATION_0 Kc21 (own_plain E_a1 (fun _ q => nomatch q))
        have E_w_ROTATION_0_21 := Exa.keep E_w_ROTATION_0 Kc21
        have S_APPLICATION_21 := own_sta_keep S_APPLICATION Kc21 (own_plain E_a1 (fun _ q => nomatch q))
        have E_w_APPLICATION_21 := Exa.keep E_w_APPLICATION Kc21
        have S_ROTATION_270_21 := own_sta_keep S_ROTATION_270 Kc21 (own_plain E_a1 (fun _ q => nomatch q))
        have E_w_ROTATION_270_21 := Exa.keep E_w_ROTATION_270 Kc21
        have S_ROTATION_180_21 := own_sta_keep S_ROTATION_180 Kc21 (own_plain E_a1 (fun _ q => nomatch q))
        have E_w_ROTATION_180_21 := Exa.keep E_w_ROTATION_180 Kc21
        have S_ROTATION_90_21 := own_sta_keep S_ROTATION_90 Kc21 (own_plain E_a1 (fun _ q => nomatch q))
        have E_w_ROTATION_90_21 := Exa.keep E_w_ROTATION_90 Kc21
        have E_a1_21 := Exa.keep E_a1 Kc21
        have Z21 : n0 ≤ T21.heap.size := Nat.le_trans Z0 Kc21.1
        have B21 : _ ≤ T21.heap.size := Nat.le_trans hB Kc21.1
        refine Go.mp st21 ?_
        show Go p e below (T21.setTop (mkF m 60 #[.val (.int p1), .val (.int p2), .val (.int p3), .val (.int p4), .val (.int p5), .val (.int p6), .val (.ref a1), .val (.int (0 : Int32)), .unset, .unset, .unset, .unset] [])) _
        refine g_iload X21 hx (hb hby at_60) rfl ?_
        refine g_iloadN X21 hx (hb hby at_62) rfl ?_
        obtain ⟨v22, T22, L22, X22, q22, st22⟩ := own_callS X21 hx hZ (y := (⟨"com/example/reorient/reorient/service/WindowPictureOfPinLaw", "turn", "(II)I"⟩ : MethodName)) (pc := 63) (Ls := #[.val (.int p1), .val (.int p2), .val (.int p3), .val (.int p4), .val (.int p5), .val (.int p6), .val (.ref a1), .val (.int (0 : Int32)), .unset, .unset, .unset, .unset]) (st := [(.int p3), (.int (0 : Int32))]) hown (hw _ (List.mem_of_getElem? (i := 48) rfl)) (hw _ (List.mem_of_getElem? (i := 49) rfl)) (hw _ (List.mem_of_getElem? (i := 13) rfl)) (hw _ (List.mem_of_getElem? (i := 50) rfl)) (by decide) (rm_turn l Z a0 hw (0 : Int32) p3 T21.heap n0 Z21 ) (rfl : T21.heap = T21.heap) pd_3 (hb hby at_63) (by rw [hml]; rfl) (argsL := [(.int (0 : Int32)), (.int p3)]) (rest := []) rfl rfl rfl (W := 0) (Nat.le_of_eq rfl) (by decide) (by decide) (by decide) (by decide)
        obtain ⟨rfl, M22, e22⟩ := q22
        have N22 := Fr.app N21 M22
        have r22 : (f_turn (0 : Int32) p3) = (-1 : Int32) := by rw [f_turn, if_neg ((by rw [q16]; decide) : ¬ ((0 : Int32) = (p3 &&& (3 : Int32))))]
        rw [r22] at st22
        refine Go.mp st22 ?_
        show Go p e below (T22.setTop (mkF m 66 #[.val (.int p1), .val (.int p2), .val (.int p3), .val (.int p4), .val (.int p5), .val (.int p6), .val (.ref a1), .val (.int (0 : Int32)), .unset, .unset, .unset, .unset] [(.int (-1 : Int32))])) _
        refine g_istore X22 hx #[.val (.int p1), .val (.int p2), .val (.int p3), .val (.int p4), .val (.int p5), .val (.int p6), .val (.ref a1), .val (.int (-1 : Int32)), .unset, .unset, .unset, .unset] (hb hby at_66) rfl ?_
        show Go p e below (T22.setTop (mkF m 68 #[.val (.int p1), .val (.int p2), .val (.int p3), .val (.int p4), .val (.int p5), .val (.int p6), .val (.ref a1), .val (.int (-1 : Int32)), .unset, .unset, .unset, .unset] [])) _
        exact seg_3 l Z a0 hw p1 p2 p3 p4 p5 p6 a1 (-1 : Int32) .null dz w_ROTATION_0 w_APPLICATION w_ROTATION_270 w_ROTATION_180 w_ROTATION_90 T21.heap n0 Z21 S_ROTATION_0_21 E_w_ROTATION_0_21 S_APPLICATION_21 E_w_APPLICATION_21 S_ROTATION_270_21 E_w_ROTATION_270_21 S_ROTATION_180_21 E_w_ROTATION_180_21 S_ROTATION_90_21 E_w_ROTATION_90_21 ne_ROTATION_0_ROTATION_270 ne_ROTATION_0_ROTATION_90 ne_ROTATION_0_ROTATION_180 ne_ROTATION_270_ROTATION_90 ne_ROTATION_270_ROTATION_180 ne_ROTATION_90_ROTATION_180 E_a1_21 Fk21_1 Fk21_0 g_a1 (Or.inl ⟨rfl, rfl⟩) hx hby hml hown hnm hret hlk hZ X22 e22 N22 hS B21
      · obtain ⟨v23, T23, L23, X23, q23, st23⟩ := own_callS X0 hx hZ (y := (⟨"com/example/reorient/reorient/service/WindowPictureOfPinLaw", "rot", "(I)Lcom/example/reorient/reorient/model/Rotation;"⟩ : MethodName)) (pc := 54) (Ls := #[.val (.int p1), .val (.int p2), .val (.int p3), .val (.int p4), .val (.int p5), .val (.int p6), .val (.ref a1), .val (.int (0 : Int32)), .unset, .unset, .unset, .unset]) (st := [(.int p3), (.ref a1)]) hown (hw _ (List.mem_of_getElem? (i := 11) rfl)) (hw _ (List.mem_of_getElem? (i := 12) rfl)) (hw _ (List.mem_of_getElem? (i := 13) rfl)) (hw _ (List.mem_of_getElem? (i := 14) rfl)) (by decide) (rm_rot l Z a0 hw p3 w_ROTATION_0 w_ROTATION_90 w_ROTATION_180 w_ROTATION_270 h0 n0 Z0 S_ROTATION_0 S_ROTATION_90 S_ROTATION_180 S_ROTATION_270) e0 pd_1 (hb hby at_54) (by rw [hml]; rfl) (argsL := [(.int p3)]) (rest := [(.ref a1)]) rfl rfl rfl (W := 1) (Nat.le_of_eq rfl) (by decide) (by decide) (by decide) (by decide)
        obtain ⟨rfl, M23, e23⟩ := q23
        have N23 := Fr.app N0 M23
        have r23 : (f_rot p3 w_ROTATION_0 w_ROTATION_90 w_ROTATION_180 w_ROTATION_270) = w_ROTATION_180 := by rw [f_rot, if_neg ((by rw [q16]; decide) : ¬ ((p3 &&& (3 : Int32)) = (0 : Int32))), if_neg ((by rw [q16]; decide) : ¬ ((p3 &&& (3 : Int32)) = (1 : Int32))), if_pos (q16 : (p3 &&& (3 : Int32)) = (2 : Int32))]
        rw [r23] at st23
        refine Go.mp st23 ?_
        show Go p e below (T23.setTop (mkF m 57 #[.val (.int p1), .val (.int p2), .val (.int p3), .val (.int p4), .val (.int p5), .val (.int p6), .val (.ref a1), .val (.int (0 : Int32)), .unset, .unset, .unset, .unset] [(.ref w_ROTATION_180), (.ref a1)])) _
        obtain ⟨v24, T24, L24, X24, q24, st24⟩ := own_callV X23 hx hZ (y := (⟨"com/example/reorient/reorient/service/Window", "turnTo", "(Lcom/example/reorient/reorient/model/Rotation;)V"⟩ : MethodName)) (pc := 57) (Ls := #[.val (.int p1), .val (.int p2), .val (.int p3), .val (.int p4), .val (.int p5), .val (.int p6), .val (.ref a1), .val (.int (0 : Int32)), .unset, .unset, .unset, .unset]) (st := [(.ref w_ROTATION_180), (.ref a1)]) hown (hw _ (List.mem_of_getElem? (i := 43) rfl)) (hw _ (List.mem_of_getElem? (i := 44) rfl)) (hw _ (List.mem_of_getElem? (i := 46) rfl)) (hw _ (List.mem_of_getElem? (i := 45) rfl)) (hw _ (List.mem_of_getElem? (i := 47) rfl)) (hw _ (List.mem_of_getElem? (i := 2) rfl)) (by decide) (rm_turnTo l Z a0 hw a1 w_ROTATION_180 (.ref w_ROTATION_0) dz h0 n0 Z0 rfl E_a1 F_a1_drawn F_a1_picture g_a1) e23 E_a1 pd_2 (hb hby at_57) (by rw [hml]; rfl) (argsL := [(.ref w_ROTATION_180)]) (rest := []) rfl rfl rfl (W := 0) (Nat.le_of_eq rfl) (by decide) (by decide) (by decide) (by decide)
        obtain ⟨rv24, M24, Kc24, Fk24_0, Fk24_1⟩ := q24
        have N24 := Fr.app N23 M24
        subst rv24
        have r24_1 : (f_turnTo_a1_picture a1 w_ROTATION_180 (.ref w_ROTATION_0) dz) = .null := by rw [f_turnTo_a1_picture, if_neg ((fun q => ne_ROTATION_0_ROTATION_180 (Value.ref.inj q)) : ¬ ((Value.ref w_ROTATION_0) = (Value.ref w_ROTATION_180)))]
        rw [r24_1] at Fk24_1
        have S_ROTATION_0_24 := own_sta_keep S_ROTATION_0 Kc24 (own_plain E_a1 (fun _ q => nomatch q))
        have E_w_ROTATION_0_24 := Exa.keep E_w_ROTATION_0 Kc24
        have S_APPLICATION_24 := own_sta_keep S_APPLICATION Kc24 (own_plain E_a1 (fun _ q => nomatch q))
        have E_w_APPLICATION_24 := Exa.keep E_w_APPLICATION Kc24
        have S_ROTATION_270_24 := own_sta_keep S_ROTATION_270 Kc24 (own_plain E_a1 (fun _ q => nomatch q))
        have E_w_ROTATION_270_24 := Exa.keep E_w_ROTATION_270 Kc24
        have S_ROTATION_180_24 := own_sta_keep S_ROTATION_180 Kc24 (own_plain E_a1 (fun _ q => nomatch q))
        have E_w_ROTATION_180_24 := Exa.keep E_w_ROTATION_180 Kc24
        have S_ROTATION_90_24 := own_sta_keep S_ROTATION_90 Kc24 (own_plain E_a1 (fun _ q => nomatch q))
        have E_w_ROTATION_90_24 := Exa.keep E_w_ROTATION_90 Kc24
        have E_a1_24 := Exa.keep E_a1 Kc24
        have Z24 : n0 ≤ T24.heap.size := Nat.le_trans Z0 Kc24.1
        have B24 : _ ≤ T24.heap.size := Nat.le_trans hB Kc24.1
        refine Go.mp st24 ?_
        show Go p e below (T24.setTop (mkF m 60 #[.val (.int p1), .val (.int p2), .val (.int p3), .val (.int p4), .val (.int p5), .val (.int p6), .val (.ref a1), .val (.int (0 : Int32)), .unset, .unset, .unset, .unset] [])) _
        refine g_iload X24 hx (hb hby at_60) rfl ?_
        refine g_iloadN X24 hx (hb hby at_62) rfl ?_
        obtain ⟨v25, T25, L25, X25, q25, st25⟩ := own_callS X24 hx hZ (y := (⟨"com/example/reorient/reorient/service/WindowPictureOfPinLaw", "turn", "(II)I"⟩ : MethodName)) (pc := 63) (Ls := #[.val (.int p1), .val (.int p2), .val (.int p3), .val (.int p4), .val (.int p5), .val (.int p6), .val (.ref a1), .val (.int (0 : Int32)), .unset, .unset, .unset, .unset]) (st := [(.int p3), (.int (0 : Int32))]) hown (hw _ (List.mem_of_getElem? (i := 48) rfl)) (hw _ (List.mem_of_getElem? (i := 49) rfl)) (hw _ (List.mem_of_getElem? (i := 13) rfl)) (hw _ (List.mem_of_getElem? (i := 50) rfl)) (by decide) (rm_turn l Z a0 hw (0 : Int32) p3 T24.heap n0 Z24 ) (rfl : T24.heap = T24.heap) pd_3 (hb hby at_63) (by rw [hml]; rfl) (argsL := [(.int (0 : Int32)), (.int p3)]) (rest := []) rfl rfl rfl (W := 0) (Nat.le_of_eq rfl) (by decide) (by decide) (by decide) (by decide)
        obtain ⟨rfl, M25, e25⟩ := q25
        have N25 := Fr.app N24 M25
        have r25 : (f_turn (0 : Int32) p3) = (-1 : Int32) := by rw [f_turn, if_neg ((by rw [q16]; decide) : ¬ ((0 : Int32) = (p3 &&& (3 : Int32))))]
        rw [r25] at st25
        refine Go.mp st25 ?_
        show Go p e below (T25.setTop (mkF m 66 #[.val (.int p1), .val (.int p2), .val (.int p3), .val (.int p4), .val (.int p5), .val (.int p6), .val (.ref a1), .val (.int (0 : Int32)), .unset, .unset, .unset, .unset] [(.int (-1 : Int32))])) _
        refine g_istore X25 hx #[.val (.int p1), .val (.int p2), .val (.int p3), .val (.int p4), .val (.int p5), .val (.int p6), .val (.ref a1), .val (.int (-1 : Int32)), .unset, .unset, .unset, .unset] (hb hby at_66) rfl ?_
        show Go p e below (T25.setTop (mkF m 68 #[.val (.int p1), .val (.int p2), .val (.int p3), .val (.int p4), .val (.int p5), .val (.int p6), .val (.ref a1), .val (.int (-1 : Int32)), .unset, .unset, .unset, .unset] [])) _
        exact seg_3 l Z a0 hw p1 p2 p3 p4 p5 p6 a1 (-1 : Int32) .null dz w_ROTATION_0 w_APPLICATION w_ROTATION_270 w_ROTATION_180 w_ROTATION_90 T24.heap n0 Z24 S_ROTATION_0_24 E_w_ROTATION_0_24 S_APPLICATION_24 E_w_APPLICATION_24 S_ROTATION_270_24 E_w_ROTATION_270_24 S_ROTATION_180_24 E_w_ROTATION_180_24 S_ROTATION_90_24 E_w_ROTATION_90_24 ne_ROTATION_0_ROTATION_270 ne_ROTATION_0_ROTATION_90 ne_ROTATION_0_ROTATION_180 ne_ROTATION_270_ROTATION_90 ne_ROTATION_270_ROTATION_180 ne_ROTATION_90_ROTATION_180 E_a1_24 Fk24_1 Fk24_0 g_a1 (Or.inl ⟨rfl, rfl⟩) hx hby hml hown hnm hret hlk hZ X25 e25 N25 hS B24
      · obtain ⟨v26, T26, L26, X26, q26, st26⟩ := own_callS X0 hx hZ (y := (⟨"com/example/reorient/reorient/service/WindowPictureOfPinLaw", "rot", "(I)Lcom/example/reorient/reorient/model/Rotation;"⟩ : MethodName)) (pc := 54) (Ls := #[.val (.int p1), .val (.int p2), .val (.int p3), .val (.int p4), .val (.int p5), .val (.int p6), .val (.ref a1), .val (.int (0 : Int32)), .unset, .unset, .unset, .unset]) (st := [(.int p3), (.ref a1)]) hown (hw _ (List.mem_of_getElem? (i := 11) rfl)) (hw _ (List.mem_of_getElem? (i := 12) rfl)) (hw _ (List.mem_of_getElem? (i := 13) rfl)) (hw _ (List.mem_of_getElem? (i := 14) rfl)) (by decide) (rm_rot l Z a0 hw p3 w_ROTATION_0 w_ROTATION_90 w_ROTATION_180 w_ROTATION_270 h0 n0 Z0 S_ROTATION_0 S_ROTATION_90 S_ROTATION_180 S_ROTATION_270) e0 pd_1 (hb hby at_54) (by rw [hml]; rfl) (argsL := [(.int p3)]) (rest := [(.ref a1)]) rfl rfl rfl (W := 1) (Nat.le_of_eq rfl) (by decide) (by decide) (by decide) (by decide)
        obtain ⟨rfl, M26, e26⟩ := q26
        have N26 := Fr.app N0 M26
        have r26 : (f_rot p3 w_ROTATION_0 w_ROTATION_90 w_ROTATION_180 w_ROTATION_270) = w_ROTATION_270 := by rw [f_rot, if_neg ((by rw [q16]; decide) : ¬ ((p3 &&& (3 : Int32)) = (0 : Int32))), if_neg ((by rw [q16]; decide) : ¬ ((p3 &&& (3 : Int32)) = (1 : Int32))), if_neg ((by rw [q16]; decide) : ¬ ((p3 &&& (3 : Int32)) = (2 : Int32)))]
        rw [r26] at st26
        refine Go.mp st26 ?_
        show Go p e below (T26.setTop (mkF m 57 #[.val (.int p1), .val (.int p2), .val (.int p3), .val (.int p4), .val (.int p5), .val (.int p6), .val (.ref a1), .val (.int (0 : Int32)), .unset, .unset, .unset, .unset] [(.ref w_ROTATION_270), (.ref a1)])) _
        obtain ⟨v27, T27, L27, X27, q27, st27⟩ := own_callV X26 hx hZ (y := (⟨"com/example/reorient/reorient/service/Window", "turnTo", "(Lcom/example/reorient/reorient/model/Rotation;)V"⟩ : MethodName)) (pc := 57) (Ls := #[.val (.int p1), .val (.int p2), .val (.int p3), .val (.int p4), .val (.int p5), .val (.int p6), .val (.ref a1), .val (.int (0 : Int32)), .unset, .unset, .unset, .unset]) (st := [(.ref w_ROTATION_270), (.ref a1)]) hown (hw _ (List.mem_of_getElem? (i := 43) rfl)) (hw _ (List.mem_of_getElem? (i := 44) rfl)) (hw _ (List.mem_of_getElem? (i := 46) rfl)) (hw _ (List.mem_of_getElem? (i := 45) rfl)) (hw _ (List.mem_of_getElem? (i := 47) rfl)) (hw _ (List.mem_of_getElem? (i := 2) rfl)) (by decide) (rm_turnTo l Z a0 hw a1 w_ROTATION_270 (.ref w_ROTATION_0) dz h0 n0 Z0 rfl E_a1 F_a1_drawn F_a1_picture g_a1) e26 E_a1 pd_2 (hb hby at_57) (by rw [hml]; rfl) (argsL := [(.ref w_ROTATION_270)]) (rest := []) rfl rfl rfl (W := 0) (Nat.le_of_eq rfl) (by decide) (by decide) (by decide) (by decide)
        obtain ⟨rv27, M27, Kc27, Fk27_0, Fk27_1⟩ := q27
        have N27 := Fr.app N26 M27
        subst rv27
        have r27_1 : (f_turnTo_a1_picture a1 w_ROTATION_270 (.ref w_ROTATION_0) dz) = .null := by rw [f_turnTo_a1_picture, if_neg ((fun q => ne_ROTATION_0_ROTATION_270 (Value.ref.inj q)) : ¬ ((Value.ref w_ROTATION_0) = (Value.ref w_ROTATION_270)))]
        rw [r27_1] at Fk27_1
        have S_ROTATION_0_27 := own_sta_keep S_ROTATION_0 Kc27 (own_plain E_a1 (fun _ q => nomatch q))
        have E_w_ROTATION_0_27 := Exa.keep E_w_ROTATION_0 Kc27
        have S_APPLICATION_27 := own_sta_keep S_APPLICATION Kc27 (own_plain E_a1 (fun _ q => nomatch q))
        have E_w_APPLICATION_27 := Exa.keep E_w_APPLICATION Kc27
        have S_ROTATION_270_27 := own_sta_keep S_ROTATION_270 Kc27 (own_plain E_a1 (fun _ q => nomatch q))
        have E_w_ROTATION_270_27 := Exa.keep E_w_ROTATION_270 Kc27
        have S_ROTATION_180_27 := own_sta_keep S_ROTATION_180 Kc27 (own_plain E_a1 (fun _ q => nomatch q))
        have E_w_ROTATION_180_27 := Exa.keep E_w_ROTATION_180 Kc27
        have S_ROTATION_90_27 := own_sta_keep S_ROTATION_90 Kc27 (own_plain E_a1 (fun _ q => nomatch q))
        have E_w_ROTATION_90_27 := Exa.keep E_w_ROTATION_90 Kc27
        have E_a1_27 := Exa.keep E_a1 Kc27
        have Z27 : n0 ≤ T27.heap.size := Nat.le_trans Z0 Kc27.1
        have B27 : _ ≤ T27.heap.size := Nat.le_trans hB Kc27.1
        refine Go.mp st27 ?_
        show Go p e below (T27.setTop (mkF m 60 #[.val (.int p1), .val (.int p2), .val (.int p3), .val (.int p4), .val (.int p5), .val (.int p6), .val (.ref a1), .val (.int (0 : Int32)), .unset, .unset, .unset, .unset] [])) _
        refine g_iload X27 hx (hb hby at_60) rfl ?_
        refine g_iloadN X27 hx (hb hby at_62) rfl ?_
        obtain ⟨v28, T28, L28, X28, q28, st28⟩ := own_callS X27 hx hZ (y := (⟨"com/example/reorient/reorient/service/WindowPictureOfPinLaw", "turn", "(II)I"⟩ : MethodName)) (pc := 63) (Ls := #[.val (.int p1), .val (.int p2), .val (.int p3), .val (.int p4), .val (.int p5), .val (.int p6), .val (.ref a1), .val (.int (0 : Int32)), .unset, .unset, .unset, .unset]) (st := [(.int p3), (.int (0 : Int32))]) hown (hw _ (List.mem_of_getElem? (i := 48) rfl)) (hw _ (List.mem_of_getElem? (i := 49) rfl)) (hw _ (List.mem_of_getElem? (i := 13) rfl)) (hw _ (List.mem_of_getElem? (i := 50) rfl)) (by decide) (rm_turn l Z a0 hw (0 : Int32) p3 T27.heap n0 Z27 ) (rfl : T27.heap = T27.heap) pd_3 (hb hby at_63) (by rw [hml]; rfl) (argsL := [(.int (0 : Int32)), (.int p3)]) (rest := []) rfl rfl rfl (W := 0) (Nat.le_of_eq rfl) (by decide) (by decide) (by decide) (by decide)
        obtain ⟨rfl, M28, e28⟩ := q28
        have N28 := Fr.app N27 M28
        have r28 : (f_turn (0 : Int32) p3) = (-1 : Int32) := by rw [f_turn, if_neg ((by rw [q16]; decide) : ¬ ((0 : Int32) = (p3 &&& (3 : Int32))))]
        rw [r28] at st28
        refine Go.mp st28 ?_
        show Go p e below (T28.setTop (mkF m 66 #[.val (.int p1), .val (.int p2), .val (.int p3), .val (.int p4), .val (.int p5), .val (.int p6), .val (.ref a1), .val (.int (0 : Int32)), .unset, .unset, .unset, .unset] [(.int (-1 : Int32))])) _
        refine g_istore X28 hx #[.val (.int p1), .val (.int p2), .val (.int p3), .val (.int p4), .val (.int p5), .val (.int p6), .val (.ref a1), .val (.int (-1 : Int32)), .unset, .unset, .unset, .unset] (hb hby at_66) rfl ?_
        show Go p e below (T28.setTop (mkF m 68 #[.val (.int p1), .val (.int p2), .val (.int p3), .val (.int p4), .val (.int p5), .val (.int p6), .val (.ref a1), .val (.int (-1 : Int32)), .unset, .unset, .unset, .unset] [])) _
        exact seg_3 l Z a0 hw p1 p2 p3 p4 p5 p6 a1 (-1 : Int32) .null dz w_ROTATION_0 w_APPLICATION w_ROTATION_270 w_ROTATION_180 w_ROTATION_90 T27.heap n0 Z27 S_ROTATION_0_27 E_w_ROTATION_0_27 S_APPLICATION_27 E_w_APPLICATION_27 S_ROTATION_270_27 E_w_ROTATION_270_27 S_ROTATION_180_27 E_w_ROTATION_180_27 S_ROTATION_90_27 E_w_ROTATION_90_27 ne_ROTATION_0_ROTATION_270 ne_ROTATION_0_ROTATION_90 ne_ROTATION_0_ROTATION_180 ne_ROTATION_270_ROTATION_90 ne_ROTATION_270_ROTATION_180 ne_ROTATION_90_ROTATION_180 E_a1_27 Fk27_1 Fk27_0 g_a1 (Or.inl ⟨rfl, rfl⟩) hx hby hml hown hnm hret hlk hZ X28 e28 N28 hS B27
  · refine g_iload X0 hx (hb hby at_44) rfl ?_
    refine g_iconst X0 hx (2 : Int32) (hb hby at_46) (by decide) ?_
    refine g_iand X0 hx (hb hby at_47) ?_
    by_cases c48_29 : (p6 &&& (2 : Int32)) = (0 : Int32)
    · refine g_ifYes X0 hx 68 (hb hby at_48) ((if0 _ _).trans (teq c48_29).1) (by decide) (by decide) ?_
      show Go p e below (s₁.setTop (mkF m 68 #[.val (.int p1), .val (.int p2), .val (.int p3), .val (.int p4), .val (.int p5), .val (.int p6), .val (.ref a1), .val (.int (1 : Int32)), .unset, .unset, .unset, .unset] [])) _
      exact seg_3 l Z a0 hw p1 p2 p3 p4 p5 p6 a1 (1 : Int32) (.ref w_ROTATION_90) dz w_ROTATION_0 w_APPLICATION w_ROTATION_270 w_ROTATION_180 w_ROTATION_90 h0 n0 Z0 S_ROTATION_0 E_w_ROTATION_0 S_APPLICATION E_w_APPLICATION S_ROTATION_270 E_w_ROTATION_270 S_ROTATION_180 E_w_ROTATION_180 S_ROTATION_90 E_w_ROTATION_90 ne_ROTATION_0_ROTATION_270 ne_ROTATION_0_ROTATION_90 ne_ROTATION_0_ROTATION_180 ne_ROTATION_270_ROTATION_90 ne_ROTATION_270_ROTATION_180 ne_ROTATION_90_ROTATION_180 E_a1 F_a1_picture F_a1_drawn g_a1 (Or.inr (Or.inr (Or.inl ⟨rfl, rfl⟩))) hx hby hml hown hnm hret hlk hZ X0 e0 N0 hS hB
    · refine g_ifNo X0 hx (hb hby at_48) ((if0 _ _).trans (feq c48_29).1) ?_
      refine g_aload X0 hx (hb hby at_51) rfl rfl ?_
      refine g_iloadN X0 hx (hb hby at_53) rfl ?_
      show Go p e below (s₁.setTop (mkF m 54 #[.val (.int p1), .val (.int p2), .val (.int p3), .val (.int p4), .val (.int p5), .val (.int p6), .val (.ref a1), .val (.int (1 : Int32)), .unset, .unset, .unset, .unset] [(.int p3), (.ref a1)])) _
      rcases own_and3 p3 with q30 | q30 | q30 | q30
      · obtain ⟨v31, T31, L31, X31, q31, st31⟩ := own_callS X0 hx hZ (y := (⟨"com/example/reorient/reorient/service/WindowPictureOfPinLaw", "rot", "(I)Lcom/example/reorient/reorient/model/Rotation;"⟩ : MethodName)) (pc := 54) (Ls := #[.val (.int p1), .val (.int p2), .val (.int p3), .val (.int p4), .val (.int p5), .val (.int p6), .val (.ref a1), .val (.int (1 : Int32)), .unset, .unset, .unset, .unset]) (st := [(.int p3), (.ref a1)]) hown (hw _ (List.mem_of_getElem? (i := 11) rfl)) (hw _ (List.mem_of_getElem? (i := 12) rfl)) (hw _ (List.mem_of_getElem? (i := 13) rfl)) (hw _ (List.mem_of_getElem? (i := 14) rfl)) (by decide) (rm_rot l Z a0 hw p3 w_ROTATION_0 w_ROTATION_90 w_ROTATION_180 w_ROTATION_270 h0 n0 Z0 S_ROTATION_0 S_ROTATION_90 S_ROTATION_180 S_ROTATION_270) e0 pd_1 (hb hby at_54) (by rw [hml]; rfl) (argsL := [(.int p3)]) (rest := [(.ref a1)]) rfl rfl rfl (W := 1) (Nat.le_of_eq rfl) (by decide) (by decide) (by decide) (by decide)
        obtain ⟨rfl, M31, e31⟩ := q31
        have N31 := Fr.app N0 M31
        have r31 : (f_rot p3 w_ROTATION_0 w_ROTATION_90 w_ROTATION_180 w_ROTATION_270) = w_ROTATION_0 := by rw [f_rot, if_pos (q30 : (p3 &&& (3 : Int32)) = (0 : Int32))]
        rw [r31] at st31
        refine Go.mp st31 ?_
        show Go p e below (T31.setTop (mkF m 57 #[.val (.int p1), .val (.int p2), .val (.int p3), .val (.int p4), .val (.int p5), .val (.int p6), .val (.ref a1), .val (.int (1 : Int32)), .unset, .unset, .unset, .unset] [(.ref w_ROTATION_0), (.ref a1)])) _
        obtain ⟨v32, T32, L32, X32, q32, st32⟩ := own_callV X31 hx hZ (y := (⟨"com/example/reorient/reorient/service/Window", "turnTo", "(Lcom/example/reorient/reorient/model/Rotation;)V"⟩ : MethodName)) (pc := 57) (Ls := #[.val (.int p1), .val (.int p2), .val (.int p3), .val (.int p4), .val (.int p5), .val (.int p6), .val (.ref a1), .val (.int (1 : Int32)), .unset, .unset, .unset, .unset]) (st := [(.ref w_ROTATION_0), (.ref a1)]) hown (hw _ (List.mem_of_getElem? (i := 43) rfl)) (hw _ (List.mem_of_getElem? (i := 44) rfl)) (hw _ (List.mem_of_getElem? (i := 46) rfl)) (hw _ (List.mem_of_getElem? (i := 45) rfl)) (hw _ (List.mem_of_getElem? (i := 47) rfl)) (hw _ (List.mem_of_getElem? (i := 2) rfl)) (by decide) (rm_turnTo l Z a0 hw a1 w_ROTATION_0 (.ref w_ROTATION_90) dz h0 n0 Z0 rfl E_a1 F_a1_drawn F_a1_picture g_a1) e31 E_a1 pd_2 (hb hby at_57) (by rw [hml]; rfl) (argsL := [(.ref w_ROTATION_0)]) (rest := []) rfl rfl rfl (W := 0) (Nat.le_of_eq rfl) (by decide) (by decide) (by decide) (by decide)
        obtain ⟨rv32, M32, Kc32, Fk32_0, Fk32_1⟩ := q32
        have N32 := Fr.app N31 M32
        subst rv32
        have r32_1 : (f_turnTo_a1_picture a1 w_ROTATION_0 (.ref w_ROTATION_90) dz) = .null := by rw [f_turnTo_a1_picture, if_neg ((fun q => ne_ROTATION_0_ROTATION_90 (Value.ref.inj q).symm) : ¬ ((Value.ref w_ROTATION_90) = (Value.ref w_ROTATION_0)))]
        rw [r32_1] at Fk32_1
        have S_ROTATION_0_32 := own_sta_keep S_ROTATION_0 Kc32 (own_plain E_a1 (fun _ q => nomatch q))
        have E_w_ROTATION_0_32 := Exa.keep E_w_ROTATION_0 Kc32
        have S_APPLICATION_32 := own_sta_keep S_APPLICATION Kc32 (own_plain E_a1 (fun _ q => nomatch q))
        have E_w_APPLICATION_32 := Exa.keep E_w_APPLICATION Kc32
        have S_ROTATION_270_32 := own_sta_keep S_ROTATION_270 Kc32 (own_plain E_a1 (fun _ q => nomatch q))
        have E_w_ROTATION_270_32 := Exa.keep E_w_ROTATION_270 Kc32
        have S_ROTATION_180_32 := own_sta_keep S_ROTATION_180 Kc32 (own_plain E_a1 (fun _ q => nomatch q))
        have E_w_ROTATION_180_32 := Exa.keep E_w_ROTATION_180 Kc32
        have S_ROTATION_90_32 := own_sta_keep S_ROTATION_90 Kc32 (own_plain E_a1 (fun _ q => nomatch q))
        have E_w_ROTATION_90_32 := Exa.keep E_w_ROTATION_90 Kc32
        have E_a1_32 := Exa.keep E_a1 Kc32
        have Z32 : n0 ≤ T32.heap.size := Nat.le_trans Z0 Kc32.1
        have B32 : _ ≤ T32.heap.size := Nat.le_trans hB Kc32.1
        refine Go.mp st32 ?_
        show Go p e below (T32.setTop (mkF m 60 #[.val (.int p1), .val (.int p2), .val (.int p3), .val (.int p4), .val (.int p5), .val (.int p6), .val (.ref a1), .val (.int (1 : Int32)), .unset, .unset, .unset, .unset] [])) _
        refine g_iload X32 hx (hb hby at_60) rfl ?_
        refine g_iloadN X32 hx (hb hby at_62) rfl ?_
        obtain ⟨v33, T33, L33, X33, q33, st33⟩ := own_callS X32 hx hZ (y := (⟨"com/example/reorient/reorient/service/WindowPictureOfPinLaw", "turn", "(II)I"⟩ : MethodName)) (pc := 63) (Ls := #[.val (.int p1), .val (.int p2), .val (.int p3), .val (.int p4), .val (.int p5), .val (.int p6), .val (.ref a1), .val (.int (1 : Int32)), .unset, .unset, .unset, .unset]) (st := [(.int p3), (.int (1 : Int32))]) hown (hw _ (List.mem_of_getElem? (i := 48) rfl)) (hw _ (List.mem_of_getElem? (i := 49) rfl)) (hw _ (List.mem_of_getElem? (i := 13) rfl)) (hw _ (List.mem_of_getElem? (i := 50) rfl)) (by decide) (rm_turn l Z a0 hw (1 : Int32) p3 T32.heap n0 Z32 ) (rfl : T32.heap = T32.heap) pd_3 (hb hby at_63) (by rw [hml]; rfl) (argsL := [(.int (1 : Int32)), (.int p3)]) (rest := []) rfl rfl rfl (W := 0) (Nat.le_of_eq rfl) (by decide) (by decide) (by decide) (by decide)
        obtain ⟨rfl, M33, e33⟩ := q33
        have N33 := Fr.app N32 M33
        have r33 : (f_turn (1 : Int32) p3) = (-1 : Int32) := by rw [f_turn, if_neg ((by rw [q30]; decide) : ¬ ((1 : Int32) = (p3 &&& (3 : Int32))))]
        rw [r33] at st33
        refine Go.mp st33 ?_
        show Go p e below (T33.setTop (mkF m 66 #[.val (.int p1), .val (.int p2), .val (.int p3), .val (.int p4), .val (.int p5), .val (.int p6), .val (.ref a1), .val (.int (1 : Int32)), .unset, .unset, .unset, .unset] [(.int (-1 : Int32))])) _
        refine g_istore X33 hx #[.val (.int p1), .val (.int p2), .val (.int p3), .val (.int p4), .val (.int p5), .val (.int p6), .val (.ref a1), .val (.int (-1 : Int32)), .unset, .unset, .unset, .unset] (hb hby at_66) rfl ?_
        show Go p e below (T33.setTop (mkF m 68 #[.val (.int p1), .val (.int p2), .val (.int p3), .val (.int p4), .val (.int p5), .val (.int p6), .val (.ref a1), .val (.int (-1 : Int32)), .unset, .unset, .unset, .unset] [])) _
        exact seg_3 l Z a0 hw p1 p2 p3 p4 p5 p6 a1 (-1 : Int32) .null dz w_ROTATION_0 w_APPLICATION w_ROTATION_270 w_ROTATION_180 w_ROTATION_90 T32.heap n0 Z32 S_ROTATION_0_32 E_w_ROTATION_0_32 S_APPLICATION_32 E_w_APPLICATION_32 S_ROTATION_270_32 E_w_ROTATION_270_32 S_ROTATION_180_32 E_w_ROTATION_180_32 S_ROTATION_90_32 E_w_ROTATION_90_32 ne_ROTATION_0_ROTATION_270 ne_ROTATION_0_ROTATION_90 ne_ROTATION_0_ROTATION_180 ne_ROTATION_270_ROTATION_90 ne_ROTATION_270_ROTATION_180 ne_ROTATION_90_ROTATION_180 E_a1_32 Fk32_1 Fk32_0 g_a1 (Or.inl ⟨rfl, rfl⟩) hx hby hml hown hnm hret hlk hZ X33 e33 N33 hS B32
      · obtain ⟨v34, T34, L34, X34, q34, st34⟩ := own_callS X0 hx hZ (y := (⟨"com/example/reorient/reorient/service/WindowPictureOfPinLaw", "rot", "(I)Lcom/example/reorient/reorient/model/Rotation;"⟩ : MethodName)) (pc := 54) (Ls := #[.val (.int p1), .val (.int p2), .val (.int p3), .val (.int p4), .val (.int p5), .val (.int p6), .val (.ref a1), .val (.int (1 : Int32)), .unset, .unset, .unset, .unset]) (st := [(.int p3), (.ref a1)]) hown (hw _ (List.mem_of_getElem? (i := 11) rfl)) (hw _ (List.mem_of_getElem? (i := 12) rfl)) (hw _ (List.mem_of_getElem? (i := 13) rfl)) (hw _ (List.mem_of_getElem? (i := 14) rfl)) (by decide) (rm_rot l Z a0 hw p3 w_ROTATION_0 w_ROTATION_90 w_ROTATION_180 w_ROTATION_270 h0 n0 Z0 S_ROTATION_0 S_ROTATION_90 S_ROTATION_180 S_ROTATION_270) e0 pd_1 (hb hby at_54) (by rw [hml]; rfl) (argsL := [(.int p3)]) (rest := [(.ref a1)]) rfl rfl rfl (W := 1) (Nat.le_of_eq rfl) (by decide) (by decide) (by decide) (by decide)
        obtain ⟨rfl, M34, e34⟩ := q34
        have N34 := Fr.app N0 M34
        have r34 : (f_rot p3 w_ROTATION_0 w_ROTATION_90 w_ROTATION_180 w_ROTATION_270) = w_ROTATION_90 := by rw [f_rot, if_neg ((by rw [q30]; decide) : ¬ ((p3 &&& (3 : Int32)) = (0 : Int32))), if_pos (q30 : (p3 &&& (3 : Int32)) = (1 : Int32))]
        rw [r34] at st34
        refine Go.mp st34 ?_
        show Go p e below (T34.setTop (mkF m 57 #[.val (.int p1), .val (.int p2), .val (.int p3), .val (.int p4), .val (.int p5), .val (.int p6), .val (.ref a1), .val (.int (1 : Int32)), .unset, .unset, .unset, .unset] [(.ref w_ROTATION_90), (.ref a1)])) _
        obtain ⟨v35, T35, L35, X35, q35, st35⟩ := own_callV X34 hx hZ (y := (⟨"com/example/reorient/reorient/service/Window", "turnTo", "(Lcom/example/reorient/reorient/model/Rotation;)V"⟩ : MethodName)) (pc := 57) (Ls := #[.val (.int p1), .val (.int p2), .val (.int p3), .val (.int p4), .val (.int p5), .val (.int p6), .val (.ref a1), .val (.int (1 : Int32)), .unset, .unset, .unset, .unset]) (st := [(.ref w_ROTATION_90), (.ref a1)]) hown (hw _ (List.mem_of_getElem? (i := 43) rfl)) (hw _ (List.mem_of_getElem? (i := 44) rfl)) (hw _ (List.mem_of_getElem? (i := 46) rfl)) (hw _ (List.mem_of_getElem? (i := 45) rfl)) (hw _ (List.mem_of_getElem? (i := 47) rfl)) (hw _ (List.mem_of_getElem? (i := 2) rfl)) (by decide) (rm_turnTo l Z a0 hw a1 w_ROTATION_90 (.ref w_ROTATION_90) dz h0 n0 Z0 rfl E_a1 F_a1_drawn F_a1_picture g_a1) e34 E_a1 pd_2 (hb hby at_57) (by rw [hml]; rfl) (argsL := [(.ref w_ROTATION_90)]) (rest := []) rfl rfl rfl (W := 0) (Nat.le_of_eq rfl) (by decide) (by decide) (by decide) (by decide)
        obtain ⟨rv35, M35, Kc35, Fk35_0, Fk35_1⟩ := q35
        have N35 := Fr.app N34 M35
        subst rv35
        have r35_1 : (f_turnTo_a1_picture a1 w_ROTATION_90 (.ref w_ROTATION_90) dz) = (.ref w_ROTATION_90) := by rw [f_turnTo_a1_picture, if_pos (rfl : (Value.ref w_ROTATION_90) = (Value.ref w_ROTATION_90))]
        rw [r35_1] at Fk35_1
        have S_ROTATION_0_35 := own_sta_keep S_ROTATION_0 Kc35 (own_plain E_a1 (fun _ q => nomatch q))
        have E_w_ROTATION_0_35 := Exa.keep E_w_ROTATION_0 Kc35
        have S_APPLICATION_35 := own_sta_keep S_APPLICATION Kc35 (own_plain E_a1 (fun _ q => nomatch q))
        have E_w_APPLICATION_35 := Exa.keep E_w_APPLICATION Kc35
        have S_ROTATION_270_35 := own_sta_keep S_ROTATION_270 Kc35 (own_plain E_a1 (fun _ q => nomatch q))
        have E_w_ROTATION_270_35 := Exa.keep E_w_ROTATION_270 Kc35
        have S_ROTATION_180_35 := own_sta_keep S_ROTATION_180 Kc35 (own_plain E_a1 (fun _ q => nomatch q))
        have E_w_ROTATION_180_35 := Exa.keep E_w_ROTATION_180 Kc35
        have S_ROTATION_90_35 := own_sta_keep S_ROTATION_90 Kc35 (own_plain E_a1 (fun _ q => nomatch q))
        have E_w_ROTATION_90_35 := Exa.keep E_w_ROTATION_90 Kc35
        have E_a1_35 := Exa.keep E_a1 Kc35
        have Z35 : n0 ≤ T35.heap.size := Nat.le_trans Z0 Kc35.1
        have B35 : _ ≤ T35.heap.size := Nat.le_trans hB Kc35.1
        refine Go.mp st35 ?_
        show Go p e below (T35.setTop (mkF m 60 #[.val (.int p1), .val (.int p2), .val (.int p3), .val (.int p4), .val (.int p5), .val (.int p6), .val (.ref a1), .val (.int (1 : Int32)), .unset, .unset, .unset, .unset] [])) _
        refine g_iload X35 hx (hb hby at_60) rfl ?_
        refine g_iloadN X35 hx (hb hby at_62) rfl ?_
        obtain ⟨v36, T36, L36, X36, q36, st36⟩ := own_callS X35 hx hZ (y := (⟨"com/example/reorient/reorient/service/WindowPictureOfPinLaw", "turn", "(II)I"⟩ : MethodName)) (pc := 63) (Ls := #[.val (.int p1), .val (.int p2), .val (.int p3), .val (.int p4), .val (.int p5), .val (.int p6), .val (.ref a1), .val (.int (1 : Int32)), .unset, .unset, .unset, .unset]) (st := [(.int p3), (.int (1 : Int32))]) hown (hw _ (List.mem_of_getElem? (i := 48) rfl)) (hw _ (List.mem_of_getElem? (i := 49) rfl)) (hw _ (List.mem_of_getElem? (i := 13) rfl)) (hw _ (List.mem_of_getElem? (i := 50) rfl)) (by decide) (rm_turn l Z a0 hw (1 : Int32) p3 T35.heap n0 Z35 ) (rfl : T35.heap = T35.heap) pd_3 (hb hby at_63) (by rw [hml]; rfl) (argsL := [(.int (1 : Int32)), (.int p3)]) (rest := []) rfl rfl rfl (W := 0) (Nat.le_of_eq rfl) (by decide) (by decide) (by decide) (by decide)
        obtain ⟨rfl, M36, e36⟩ := q36
        have N36 := Fr.app N35 M36
        have r36 : (f_turn (1 : Int32) p3) = (1 : Int32) := by rw [f_turn, if_pos (q30.symm : (1 : Int32) = (p3 &&& (3 : Int32)))]
        rw [r36] at st36
        refine Go.mp st36 ?_
        show Go p e below (T36.setTop (mkF m 66 #[.val (.int p1), .val (.int p2), .val (.int p3), .val (.int p4), .val (.int p5), .val (.int p6), .val (.ref a1), .val (.int (1 : Int32)), .unset, .unset, .unset, .unset] [(.int (1 : Int32))])) _
        refine g_istore X36 hx #[.val (.int p1), .val (.int p2), .val (.int p3), .val (.int p4), .val (.int p5), .val (.int p6), .val (.ref a1), .val (.int (1 : Int32)), .unset, .unset, .unset, .unset] (hb hby at_66) rfl ?_
        show Go p e below (T36.setTop (mkF m 68 #[.val (.int p1), .val (.int p2), .val (.int p3), .val (.int p4), .val (.int p5), .val (.int p6), .val (.ref a1), .val (.int (1 : Int32)), .unset, .unset, .unset, .unset] [])) _
        exact seg_3 l Z a0 hw p1 p2 p3 p4 p5 p6 a1 (1 : Int32) (.ref w_ROTATION_90) dz w_ROTATION_0 w_APPLICATION w_ROTATION_270 w_ROTATION_180 w_ROTATION_90 T35.heap n0 Z35 S_ROTATION_0_35 E_w_ROTATION_0_35 S_APPLICATION_35 E_w_APPLICATION_35 S_ROTATION_270_35 E_w_ROTATION_270_35 S_ROTATION_180_35 E_w_ROTATION_180_35 S_ROTATION_90_35 E_w_ROTATION_90_35 ne_ROTATION_0_ROTATION_270 ne_ROTATION_0_ROTATION_90 ne_ROTATION_0_ROTATION_180 ne_ROTATION_270_ROTATION_90 ne_ROTATION_270_ROTATION_180 ne_ROTATION_90_ROTATION_180 E_a1_35 Fk35_1 Fk35_0 g_a1 (Or.inr (Or.inr (Or.inl ⟨rfl, rfl⟩))) hx hby hml hown hnm hret hlk hZ X36 e36 N36 hS B35
      · obtain ⟨v37, T37, L37, X37, q37, st37⟩ := own_callS X0 hx hZ (y := (⟨"com/example/reorient/reorient/service/WindowPictureOfPinLaw", "rot", "(I)Lcom/example/reorient/reorient/model/Rotation;"⟩ : MethodName)) (pc := 54) (Ls := #[.val (.int p1), .val (.int p2), .val (.int p3), .val (.int p4), .val (.int p5), .val (.int p6), .val (.ref a1), .val (.int (1 : Int32)), .unset, .unset, .unset, .unset]) (st := [(.int p3), (.ref a1)]) hown (hw _ (List.mem_of_getElem? (i := 11) rfl)) (hw _ (List.mem_of_getElem? (i := 12) rfl)) (hw _ (List.mem_of_getElem? (i := 13) rfl)) (hw _ (List.mem_of_getElem? (i := 14) rfl)) (by decide) (rm_rot l Z a0 hw p3 w_ROTATION_0 w_ROTATION_90 w_ROTATION_180 w_ROTATION_270 h0 n0 Z0 S_ROTATION_0 S_ROTATION_90 S_ROTATION_180 S_ROTATION_270) e0 pd_1 (hb hby at_54) (by rw [hml]; rfl) (argsL := [(.int p3)]) (rest := [(.ref a1)]) rfl rfl rfl (W := 1) (Nat.le_of_eq rfl) (by decide) (by decide) (by decide) (by decide)
        obtain ⟨rfl, M37, e37⟩ := q37
        have N37 := Fr.app N0 M37
        have r37 : (f_rot p3 w_ROTATION_0 w_ROTATION_90 w_ROTATION_180 w_ROTATION_270) = w_ROTATION_180 := by rw [f_rot, if_neg ((by rw [q30]; decide) : ¬ ((p3 &&& (3 : Int32)) = (0 : Int32))), if_neg ((by rw [q30]; decide) : ¬ ((p3 &&& (3 : Int32)) = (1 : Int32))), if_pos (q30 : (p3 &&& (3 : Int32)) = (2 : Int32))]
        rw [r37] at st37
        refine Go.mp st37 ?_
        show Go p e below (T37.setTop (mkF m 57 #[.val (.int p1), .val (.int p2), .val (.int p3), .val (.int p4), .val (.int p5), .val (.int p6), .val (.ref a1), .val (.int (1 : Int32)), .unset, .unset, .unset, .unset] [(.ref w_ROTATION_180), (.ref a1)])) _
        obtain ⟨v38, T38, L38, X38, q38, st38⟩ := own_callV X37 hx hZ (y := (⟨"com/example/reorient/reorient/service/Window", "turnTo", "(Lcom/example/reorient/reorient/model/Rotation;)V"⟩ : MethodName)) (pc := 57) (Ls := #[.val (.int p1), .val (.int p2), .val (.int p3), .val (.int p4), .val (.int p5), .val (.int p6), .val (.ref a1), .val (.int (1 : Int32)), .unset, .unset, .unset, .unset]) (st := [(.ref w_ROTATION_180), (.ref a1)]) hown (hw _ (List.mem_of_getElem? (i := 43) rfl)) (hw _ (List.mem_of_getElem? (i := 44) rfl)) (hw _ (List.mem_of_getElem? (i := 46) rfl)) (hw _ (List.mem_of_getElem? (i := 45) rfl)) (hw _ (List.mem_of_getElem? (i := 47) rfl)) (hw _ (List.mem_of_getElem? (i := 2) rfl)) (by decide) (rm_turnTo l Z a0 hw a1 w_ROTATION_180 (.ref w_ROTATION_90) dz h0 n0 Z0 rfl E_a1 F_a1_drawn F_a1_picture g_a1) e37 E_a1 pd_2 (hb hby at_57) (by rw [hml]; rfl) (argsL := [(.ref w_ROTATION_180)]) (rest := []) rfl rfl rfl (W := 0) (Nat.le_of_eq rfl) (by decide) (by decide) (by decide) (by decide)
        obtain ⟨rv38, M38, Kc38, Fk38_0, Fk38_1⟩ := q38
        have N38 := Fr.app N37 M38
        subst rv38
        have r38_1 : (f_turnTo_a1_picture a1 w_ROTATION_180 (.ref w_ROTATION_90) dz) = .null := by rw [f_turnTo_a1_picture, if_neg ((fun q => ne_ROTATION_90_ROTATION_180 (Value.ref.inj q)) : ¬ ((Value.ref w_ROTATION_90) = (Value.ref w_ROTATION_180)))]
        rw [r38_1] at Fk38_1
        have S_ROTATION_0_38 := own_sta_keep S_ROTATION_0 Kc38 (own_plain E_a1 (fun _ q => nomatch q))
        have E_w_ROTATION_0_38 := Exa.keep E_w_ROTATION_0 Kc38
        have S_APPLICATION_38 := own_sta_keep S_APPLICATION Kc38 (own_plain E_a1 (fun _ q => nomatch q))
        have E_w_APPLICATION_38 := Exa.keep E_w_APPLICATION Kc38
        have S_ROTATION_270_38 := own_sta_keep S_ROTATION_270 Kc38 (own_plain E_a1 (fun _ q => nomatch q))
        have E_w_ROTATION_270_38 := Exa.keep E_w_ROTATION_270 Kc38
        have S_ROTATION_180_38 := own_sta_keep S_ROTATION_180 Kc38 (own_plain E_a1 (fun _ q => nomatch q))
        have E_w_ROTATION_180_38 := Exa.keep E_w_ROTATION_180 Kc38
        have S_ROTATION_90_38 := own_sta_keep S_ROTATION_90 Kc38 (own_plain E_a1 (fun _ q => nomatch q))
        have E_w_ROTATION_90_38 := Exa.keep E_w_ROTATION_90 Kc38
        have E_a1_38 := Exa.keep E_a1 Kc38
        have Z38 : n0 ≤ T38.heap.size := Nat.le_trans Z0 Kc38.1
        have B38 : _ ≤ T38.heap.size := Nat.le_trans hB Kc38.1
        refine Go.mp st38 ?_
        show Go p e below (T38.setTop (mkF m 60 #[.val (.int p1), .val (.int p2), .val (.int p3), .val (.int p4), .val (.int p5), .val (.int p6), .val (.ref a1), .val (.int (1 : Int32)), .unset, .unset, .unset, .unset] [])) _
        refine g_iload X38 hx (hb hby at_60) rfl ?_
        refine g_iloadN X38 hx (hb hby at_62) rfl ?_
        obtain ⟨v39, T39, L39, X39, q39, st39⟩ := own_callS X38 hx hZ (y := (⟨"com/example/reorient/reorient/service/WindowPictureOfPinLaw", "turn", "(II)I"⟩ : MethodName)) (pc := 63) (Ls := #[.val (.int p1), .val (.int p2), .val (.int p3), .val (.int p4), .val (.int p5), .val (.int p6), .val (.ref a1), .val (.int (1 : Int32)), .unset, .unset, .unset, .unset]) (st := [(.int p3), (.int (1 : Int32))]) hown (hw _ (List.mem_of_getElem? (i := 48) rfl)) (hw _ (List.mem_of_getElem? (i := 49) rfl)) (hw _ (List.mem_of_getElem? (i := 13) rfl)) (hw _ (List.mem_of_getElem? (i := 50) rfl)) (by decide) (rm_turn l Z a0 hw (1 : Int32) p3 T38.heap n0 Z38 ) (rfl : T38.heap = T38.heap) pd_3 (hb hby at_63) (by rw [hml]; rfl) (argsL := [(.int (1 : Int32)), (.int p3)]) (rest := []) rfl rfl rfl (W := 0) (Nat.le_of_eq rfl) (by decide) (by decide) (by decide) (by decide)
        obtain ⟨rfl, M39, e39⟩ := q39
        have N39 := Fr.app N38 M39
        have r39 : (f_turn (1 : Int32) p3) = (-1 : Int32) := by rw [f_turn, if_neg ((by rw [q30]; decide) : ¬ ((1 : Int32) = (p3 &&& (3 : Int32))))]
        rw [r39] at st39
        refine Go.mp st39 ?_
        show Go p e below (T39.setTop (mkF m 66 #[.val (.int p1), .val (.int p2), .val (.int p3), .val (.int p4), .val (.int p5), .val (.int p6), .val (.ref a1), .val (.int (1 : Int32)), .unset, .unset, .unset, .unset] [(.int (-1 : Int32))])) _
        refine g_istore X39 hx #[.val (.int p1), .val (.int p2), .val (.int p3), .val (.int p4), .val (.int p5), .val (.int p6), .val (.ref a1), .val (.int (-1 : Int32)), .unset, .unset, .unset, .unset] (hb hby at_66) rfl ?_
        show Go p e below (T39.setTop (mkF m 68 #[.val (.int p1), .val (.int p2), .val (.int p3), .val (.int p4), .val (.int p5), .val (.int p6), .val (.ref a1), .val (.int (-1 : Int32)), .unset, .unset, .unset, .unset] [])) _
        exact seg_3 l Z a0 hw p1 p2 p3 p4 p5 p6 a1 (-1 : Int32) .null dz w_ROTATION_0 w_APPLICATION w_ROTATION_270 w_ROTATION_180 w_ROTATION_90 T38.heap n0 Z38 S_ROTATION_0_38 E_w_ROTATION_0_38 S_APPLICATION_38 E_w_APPLICATION_38 S_ROTATION_270_38 E_w_ROTATION_270_38 S_ROTATION_180_38 E_w_ROTATION_180_38 S_ROTATION_90_38 E_w_ROTATION_90_38 ne_ROTATION_0_ROTATION_270 ne_ROTATION_0_ROTATION_90 ne_ROTATION_0_ROTATION_180 ne_ROTATION_270_ROTATION_90 ne_ROTATION_270_ROTATION_180 ne_ROTATION_90_ROTATION_180 E_a1_38 Fk38_1 Fk38_0 g_a1 (Or.inl ⟨rfl, rfl⟩) hx hby hml hown hnm hret hlk hZ X39 e39 N39 hS B38
      · obtain ⟨v40, T40, L40, X40, q40, st40⟩ := own_callS X0 hx hZ (y := (⟨"com/example/reorient/reorient/service/WindowPictureOfPinLaw", "rot", "(I)Lcom/example/reorient/reorient/model/Rotation;"⟩ : MethodName)) (pc := 54) (Ls := #[.val (.int p1), .val (.int p2), .val (.int p3), .val (.int p4), .val (.int p5), .val (.int p6), .val (.ref a1), .val (.int (1 : Int32)), .unset, .unset, .unset, .unset]) (st := [(.int p3), (.ref a1)]) hown (hw _ (List.mem_of_getElem? (i := 11) rfl)) (hw _ (List.mem_of_getElem? (i := 12) rfl)) (hw _ (List.mem_of_getElem? (i := 13) rfl)) (hw _ (List.mem_of_getElem? (i := 14) rfl)) (by decide) (rm_rot l Z a0 hw p3 w_ROTATION_0 w_ROTATION_90 w_ROTATION_180 w_ROTATION_270 h0 n0 Z0 S_ROTATION_0 S_ROTATION_90 S_ROTATION_180 S_ROTATION_270) e0 pd_1 (hb hby at_54) (by rw [hml]; rfl) (argsL := [(.int p3)]) (rest := [(.ref a1)]) rfl rfl rfl (W := 1) (Nat.le_of_eq rfl) (by decide) (by decide) (by decide) (by decide)
        obtain ⟨rfl, M40, e40⟩ := q40
        have N40 := Fr.app N0 M40
        have r40 : (f_rot p3 w_ROTATION_0 w_ROTATION_90 w_ROTATION_180 w_ROTATION_270) = w_ROTATION_270 := by rw [f_rot, if_neg ((by rw [q30]; decide) : ¬ ((p3 &&& (3 : Int32)) = (0 : Int32))), if_neg ((by rw [q30]; decide) : ¬ ((p3 &&& (3 : Int32)) = (1 : Int32))), if_neg ((by rw [q30]; decide) : ¬ ((p3 &&& (3 : Int32)) = (2 : Int32)))]
        rw [r40] at st40
        refine Go.mp st40 ?_
        show Go p e below (T40.setTop (mkF m 57 #[.val (.int p1), .val (.int p2), .val (.int p3), .val (.int p4), .val (.int p5), .val (.int p6), .val (.ref a1), .val (.int (1 : Int32)), .unset, .unset, .unset, .unset] [(.ref w_ROTATION_270), (.ref a1)])) _
        obtain ⟨v41, T41, L41, X41, q41, st41⟩ := own_callV X40 hx hZ (y := (⟨"com/example/reorient/reorient/service/Window", "turnTo", "(Lcom/example/reorient/reorient/model/Rotation;)V"⟩ : MethodName)) (pc := 57) (Ls := #[.val (.int p1), .val (.int p2), .val (.int p3), .val (.int p4), .val (.int p5), .val (.int p6), .val (.ref a1), .val (.int (1 : Int32)), .unset, .unset, .unset, .unset]) (st := [(.ref w_ROTATION_270), (.ref a1)]) hown (hw _ (List.mem_of_getElem? (i := 43) rfl)) (hw _ (List.mem_of_getElem? (i := 44) rfl)) (hw _ (List.mem_of_getElem? (i := 46) rfl)) (hw _ (List.mem_of_getElem? (i := 45) rfl)) (hw _ (List.mem_of_getElem? (i := 47) rfl)) (hw _ (List.mem_of_getElem? (i := 2) rfl)) (by decide) (rm_turnTo l Z a0 hw a1 w_ROTATION_270 (.ref w_ROTATION_90) dz h0 n0 Z0 rfl E_a1 F_a1_drawn F_a1_picture g_a1) e40 E_a1 pd_2 (hb hby at_57) (by rw [hml]; rfl) (argsL := [(.ref w_ROTATION_270)]) (rest := []) rfl rfl rfl (W := 0) (Nat.le_of_eq rfl) (by decide) (by decide) (by decide) (by decide)
        obtain ⟨rv41, M41, Kc41, Fk41_0, Fk41_1⟩ := q41
        have N41 := Fr.app N40 M41
        subst rv41
        have r41_1 : (f_turnTo_a1_picture a1 w_ROTATION_270 (.ref w_ROTATION_90) dz) = .null := by rw [f_turnTo_a1_picture, if_neg ((fun q => ne_ROTATION_270_ROTATION_90 (Value.ref.inj q).symm) : ¬ ((Value.ref w_ROTATION_90) = (Value.ref w_ROTATION_270)))]
        rw [r41_1] at Fk41_1
        have S_ROTATION_0_41 := own_sta_keep S_ROTATION_0 Kc41 (own_plain E_a1 (fun _ q => nomatch q))
        have E_w_ROTATION_0_41 := Exa.keep E_w_ROTATION_0 Kc41
        have S_APPLICATION_41 := own_sta_keep S_APPLICATION Kc41 (own_plain E_a1 (fun _ q => nomatch q))
        have E_w_APPLICATION_41 := Exa.keep E_w_APPLICATION Kc41
        have S_ROTATION_270_41 := own_sta_keep S_ROTATION_270 Kc41 (own_plain E_a1 (fun _ q => nomatch q))
        have E_w_ROTATION_270_41 := Exa.keep E_w_ROTATION_270 Kc41
        have S_ROTATION_180_41 := own_sta_keep S_ROTATION_180 Kc41 (own_plain E_a1 (fun _ q => nomatch q))
        have E_w_ROTATION_180_41 := Exa.keep E_w_ROTATION_180 Kc41
        have S_ROTATION_90_41 := own_sta_keep S_ROTATION_90 Kc41 (own_plain E_a1 (fun _ q => nomatch q))
        have E_w_ROTATION_90_41 := Exa.keep E_w_ROTATION_90 Kc41
        have E_a1_41 := Exa.keep E_a1 Kc41
        have Z41 : n0 ≤ T41.heap.size := Nat.le_trans Z0 Kc41.1
        have B41 : _ ≤ T41.heap.size := Nat.le_trans hB Kc41.1
        refine Go.mp st41 ?_
        show Go p e below (T41.setTop (mkF m 60 #[.val (.int p1), .val (.int p2), .val (.int p3), .val (.int p4), .val (.int p5), .val (.int p6), .val (.ref a1), .val (.int (1 : Int32)), .unset, .unset, .unset, .unset] [])) _
        refine g_iload X41 hx (hb hby at_60) rfl ?_
        refine g_iloadN X41 hx (hb hby at_62) rfl ?_
        obtain ⟨v42, T42, L42, X42, q42, st42⟩ := own_callS X41 hx hZ (y := (⟨"com/example/reorient/reorient/service/WindowPictureOfPinLaw", "turn", "(II)I"⟩ : MethodName)) (pc := 63) (Ls := #[.val (.int p1), .val (.int p2), .val (.int p3), .val (.int p4), .val (.int p5), .val (.int p6), .val (.ref a1), .val (.int (1 : Int32)), .unset, .unset, .unset, .unset]) (st := [(.int p3), (.int (1 : Int32))]) hown (hw _ (List.mem_of_getElem? (i := 48) rfl)) (hw _ (List.mem_of_getElem? (i := 49) rfl)) (hw _ (List.mem_of_getElem? (i := 13) rfl)) (hw _ (List.mem_of_getElem? (i := 50) rfl)) (by decide) (rm_turn l Z a0 hw (1 : Int32) p3 T41.heap n0 Z41 ) (rfl : T41.heap = T41.heap) pd_3 (hb hby at_63) (by rw [hml]; rfl) (argsL := [(.int (1 : Int32)), (.int p3)]) (rest := []) rfl rfl rfl (W := 0) (Nat.le_of_eq rfl) (by decide) (by decide) (by decide) (by decide)
        obtain ⟨rfl, M42, e42⟩ := q42
        have N42 := Fr.app N41 M42
        have r42 : (f_turn (1 : Int32) p3) = (-1 : Int32) := by rw [f_turn, if_neg ((by rw [q30]; decide) : ¬ ((1 : Int32) = (p3 &&& (3 : Int32))))]
        rw [r42] at st42
        refine Go.mp st42 ?_
        show Go p e below (T42.setTop (mkF m 66 #[.val (.int p1), .val (.int p2), .val (.int p3), .val (.int p4), .val (.int p5), .val (.int p6), .val (.ref a1), .val (.int (1 : Int32)), .unset, .unset, .unset, .unset] [(.int (-1 : Int32))])) _
        refine g_istore X42 hx #[.val (.int p1), .val (.int p2), .val (.int p3), .val (.int p4), .val (.int p5), .val (.int p6), .val (.ref a1), .val (.int (-1 : Int32)), .unset, .unset, .unset, .unset] (hb hby at_66) rfl ?_
        show Go p e below (T42.setTop (mkF m 68 #[.val (.int p1), .val (.int p2), .val (.int p3), .val (.int p4), .val (.int p5), .val (.int p6), .val (.ref a1), .val (.int (-1 : Int32)), .unset, .unset, .unset, .unset] [])) _
        exact seg_3 l Z a0 hw p1 p2 p3 p4 p5 p6 a1 (-1 : Int32) .null dz w_ROTATION_0 w_APPLICATION w_ROTATION_270 w_ROTATION_180 w_ROTATION_90 T41.heap n0 Z41 S_ROTATION_0_41 E_w_ROTATION_0_41 S_APPLICATION_41 E_w_APPLICATION_41 S_ROTATION_270_41 E_w_ROTATION_270_41 S_ROTATION_180_41 E_w_ROTATION_180_41 S_ROTATION_90_41 E_w_ROTATION_90_41 ne_ROTATION_0_ROTATION_270 ne_ROTATION_0_ROTATION_90 ne_ROTATION_0_ROTATION_180 ne_ROTATION_270_ROTATION_90 ne_ROTATION_270_ROTATION_180 ne_ROTATION_90_ROTATION_180 E_a1_41 Fk41_1 Fk41_0 g_a1 (Or.inl ⟨rfl, rfl⟩) hx hby hml hown hnm hret hlk hZ X42 e42 N42 hS B41
  · refine g_iload X0 hx (hb hby at_44) rfl ?_
    refine g_iconst X0 hx (2 : Int32) (hb hby at_46) (by decide) ?_
    refine g_iand X0 hx (hb hby at_47) ?_
    by_cases c48_43 : (p6 &&& (2 : Int32)) = (0 : Int32)
    · refine g_ifYes X0 hx 68 (hb hby at_48) ((if0 _ _).trans (teq c48_43).1) (by decide) (by decide) ?_
      show Go p e below (s₁.setTop (mkF m 68 #[.val (.int p1), .val (.int p2), .val (.int p3), .val (.int p4), .val (.int p5), .val (.int p6), .val (.ref a1), .val (.int (2 : Int32)), .unset, .unset, .unset, .unset] [])) _
      exact seg_3 l Z a0 hw p1 p2 p3 p4 p5 p6 a1 (2 : Int32) (.ref w_ROTATION_180) dz w_ROTATION_0 w_APPLICATION w_ROTATION_270 w_ROTATION_180 w_ROTATION_90 h0 n0 Z0 S_ROTATION_0 E_w_ROTATION_0 S_APPLICATION E_w_APPLICATION S_ROTATION_270 E_w_ROTATION_270 S_ROTATION_180 E_w_ROTATION_180 S_ROTATION_90 E_w_ROTATION_90 ne_ROTATION_0_ROTATION_270 ne_ROTATION_0_ROTATION_90 ne_ROTATION_0_ROTATION_180 ne_ROTATION_270_ROTATION_90 ne_ROTATION_270_ROTATION_180 ne_ROTATION_90_ROTATION_180 E_a1 F_a1_picture F_a1_drawn g_a1 (Or.inr (Or.inr (Or.inr (Or.inl ⟨rfl, rfl⟩)))) hx hby hml hown hnm hret hlk hZ X0 e0 N0 hS hB
    · refine g_ifNo X0 hx (hb hby at_48) ((if0 _ _).trans (feq c48_43).1) ?_
      refine g_aload X0 hx (hb hby at_51) rfl rfl ?_
      refine g_iloadN X0 hx (hb hby at_53) rfl ?_
      show Go p e below (s₁.setTop (mkF m 54 #[.val (.int p1), .val (.int p2), .val (.int p3), .val (.int p4), .val (.int p5), .val (.int p6), .val (.ref a1), .val (.int (2 : Int32)), .unset, .unset, .unset, .unset] [(.int p3), (.ref a1)])) _
      rcases own_and3 p3 with q44 | q44 | q44 | q44
      · obtain ⟨v45, T45, L45, X45, q45, st45⟩ := own_callS X0 hx hZ (y := (⟨"com/example/reorient/reorient/service/WindowPictureOfPinLaw", "rot", "(I)Lcom/example/reorient/reorient/model/Rotation;"⟩ : MethodName)) (pc := 54) (Ls := #[.val (.int p1), .val (.int p2), .val (.int p3), .val (.int p4), .val (.int p5), .val (.int p6), .val (.ref a1), .val (.int (2 : Int32)), .unset, .unset, .unset, .unset]) (st := [(.int p3), (.ref a1)]) hown (hw _ (List.mem_of_getElem? (i := 11) rfl)) (hw _ (List.mem_of_getElem? (i := 12) rfl)) (hw _ (List.mem_of_getElem? (i := 13) rfl)) (hw _ (List.mem_of_getElem? (i := 14) rfl)) (by decide) (rm_rot l Z a0 hw p3 w_ROTATION_0 w_ROTATION_90 w_ROTATION_180 w_ROTATION_270 h0 n0 Z0 S_ROTATION_0 S_ROTATION_90 S_ROTATION_180 S_ROTATION_270) e0 pd_1 (hb hby at_54) (by rw [hml]; rfl) (argsL := [(.int p3)]) (rest := [(.ref a1)]) rfl rfl rfl (W := 1) (Nat.le_of_eq rfl) (by decide) (by decide) (by decide) (by decide)
        obtain ⟨rfl, M45, e45⟩ := q45
        have N45 := Fr.app N0 M45
        have r45 : (f_rot p3 w_ROTATION_0 w_ROTATION_90 w_ROTATION_180 w_ROTATION_270) = w_ROTATION_0 := by rw [f_rot, if_pos (q44 : (p3 &&& (3 : Int32)) = (0 : Int32))]
        rw [r45] at st45
        refine Go.mp st45 ?_
        show Go p e below (T45.setTop (mkF m 57 #[.val (.int p1), .val (.int p2), .val (.int p3), .val (.int p4), .val (.int p5), .val (.int p6), .val (.ref a1), .val (.int (2 : Int32)), .unset, .unset, .unset, .unset] [(.ref w_ROTATION_0), (.ref a1)])) _
        obtain ⟨v46, T46, L46, X46, q46, st46⟩ := own_callV X45 hx hZ (y := (⟨"com/example/reorient/reorient/service/Window", "turnTo", "(Lcom/example/reorient/reorient/model/Rotation;)V"⟩ : MethodName)) (pc := 57) (Ls := #[.val (.int p1), .val (.int p2), .val (.int p3), .val (.int p4), .val (.int p5), .val (.int p6), .val (.ref a1), .val (.int (2 : Int32)), .unset, .unset, .unset, .unset]) (st := [(.ref w_ROTATION_0), (.ref a1)]) hown (hw _ (List.mem_of_getElem? (i := 43) rfl)) (hw _ (List.mem_of_getElem? (i := 44) rfl)) (hw _ (List.mem_of_getElem? (i := 46) rfl)) (hw _ (List.mem_of_getElem? (i := 45) rfl)) (hw _ (List.mem_of_getElem? (i := 47) rfl)) (hw _ (List.mem_of_getElem? (i := 2) rfl)) (by decide) (rm_turnTo l Z a0 hw a1 w_ROTATION_0 (.ref w_ROTATION_180) dz h0 n0 Z0 rfl E_a1 F_a1_drawn F_a1_picture g_a1) e45 E_a1 pd_2 (hb hby at_57) (by rw [hml]; rfl) (argsL := [(.ref w_ROTATION_0)]) (rest := []) rfl rfl rfl (W := 0) (Nat.le_of_eq rfl) (by decide) (by decide) (by decide) (by decide)
        obtain ⟨rv46, M46, Kc46, Fk46_0, Fk46_1⟩ := q46
        have N46 := Fr.app N45 M46
        subst rv46
        have r46_1 : (f_turnTo_a1_picture a1 w_ROTATION_0 (.ref w_ROTATION_180) dz) = .null := by rw [f_turnTo_a1_picture, if_neg ((fun q => ne_ROTATION_0_ROTATION_180 (Value.ref.inj q).symm) : ¬ ((Value.ref w_ROTATION_180) = (Value.ref w_ROTATION_0)))]
        rw [r46_1] at Fk46_1
        have S_ROTATION_0_46 := own_sta_keep S_ROTATION_0 Kc46 (own_plain E_a1 (fun _ q => nomatch q))
        have E_w_ROTATION_0_46 := Exa.keep E_w_ROTATION_0 Kc46
        have S_APPLICATION_46 := own_sta_keep S_APPLICATION Kc46 (own_plain E_a1 (fun _ q => nomatch q))
        have E_w_APPLICATION_46 := Exa.keep E_w_APPLICATION Kc46
        have S_ROTATION_270_46 := own_sta_keep S_ROTATION_270 Kc46 (own_plain E_a1 (fun _ q => nomatch q))
        have E_w_ROTATION_270_46 := Exa.keep E_w_ROTATION_270 Kc46
        have S_ROTATION_180_46 := own_sta_keep S_ROTATION_180 Kc46 (own_plain E_a1 (fun _ q => nomatch q))
        have E_w_ROTATION_180_46 := Exa.keep E_w_ROTATION_180 Kc46
        have S_ROTATION_90_46 := own_sta_keep S_ROTATION_90 Kc46 (own_plain E_a1 (fun _ q => nomatch q))
        have E_w_ROTATION_90_46 := Exa.keep E_w_ROTATION_90 Kc46
        have E_a1_46 := Exa.keep E_a1 Kc46
        have Z46 : n0 ≤ T46.heap.size := Nat.le_trans Z0 Kc46.1
        have B46 : _ ≤ T46.heap.size := Nat.le_trans hB Kc46.1
        refine Go.mp st46 ?_
        show Go p e below (T46.setTop (mkF m 60 #[.val (.int p1), .val (.int p2), .val (.int p3), .val (.int p4), .val (.int p5), .val (.int p6), .val (.ref a1), .val (.int (2 : Int32)), .unset, .unset, .unset, .unset] [])) _
        refine g_iload X46 hx (hb hby at_60) rfl ?_
        refine g_iloadN X46 hx (hb hby at_62) rfl ?_
        obtain ⟨v47, T47, L47, X47, q47, st47⟩ := own_callS X46 hx hZ (y := (⟨"com/example/reorient/reorient/service/WindowPictureOfPinLaw", "turn", "(II)I"⟩ : MethodName)) (pc := 63) (Ls := #[.val (.int p1), .val (.int p2), .val (.int p3), .val (.int p4), .val (.int p5), .val (.int p6), .val (.ref a1), .val (.int (2 : Int32)), .unset, .unset, .unset, .unset]) (st := [(.int p3), (.int (2 : Int32))]) hown (hw _ (List.mem_of_getElem? (i := 48) rfl)) (hw _ (List.mem_of_getElem? (i := 49) rfl)) (hw _ (List.mem_of_getElem? (i := 13) rfl)) (hw _ (List.mem_of_getElem? (i := 50) rfl)) (by decide) (rm_turn l Z a0 hw (2 : Int32) p3 T46.heap n0 Z46 ) (rfl : T46.heap = T46.heap) pd_3 (hb hby at_63) (by rw [hml]; rfl) (argsL := [(.int (2 : Int32)), (.int p3)]) (rest := []) rfl rfl rfl (W := 0) (Nat.le_of_eq rfl) (by decide) (by decide) (by decide) (by decide)
        obtain ⟨rfl, M47, e47⟩ := q47
        have N47 := Fr.app N46 M47
        have r47 : (f_turn (2 : Int32) p3) = (-1 : Int32) := by rw [f_turn, if_neg ((by rw [q44]; decide) : ¬ ((2 : Int32) = (p3 &&& (3 : Int32))))]
        rw [r47] at st47
        refine Go.mp st47 ?_
        show Go p e below (T47.setTop (mkF m 66 #[.val (.int p1), .val (.int p2), .val (.int p3), .val (.int p4), .val (.int p5), .val (.int p6), .val (.ref a1), .val (.int (2 : Int32)), .unset, .unset, .unset, .unset] [(.int (-1 : Int32))])) _
        refine g_istore X47 hx #[.val (.int p1), .val (.int p2), .val (.int p3), .val (.int p4), .val (.int p5), .val (.int p6), .val (.ref a1), .val (.int (-1 : Int32)), .unset, .unset, .unset, .unset] (hb hby at_66) rfl ?_
        show Go p e below (T47.setTop (mkF m 68 #[.val (.int p1), .val (.int p2), .val (.int p3), .val (.int p4), .val (.int p5), .val (.int p6), .val (.ref a1), .val (.int (-1 : Int32)), .unset, .unset, .unset, .unset] [])) _
        exact seg_3 l Z a0 hw p1 p2 p3 p4 p5 p6 a1 (-1 : Int32) .null dz w_ROTATION_0 w_APPLICATION w_ROTATION_270 w_ROTATION_180 w_ROTATION_90 T46.heap n0 Z46 S_ROTATION_0_46 E_w_ROTATION_0_46 S_APPLICATION_46 E_w_APPLICATION_46 S_ROTATION_270_46 E_w_ROTATION_270_46 S_ROTATION_180_46 E_w_ROTATION_180_46 S_ROTATION_90_46 E_w_ROTATION_90_46 ne_ROTATION_0_ROTATION_270 ne_ROTATION_0_ROTATION_90 ne_ROTATION_0_ROTATION_180 ne_ROTATION_270_ROTATION_90 ne_ROTATION_270_ROTATION_180 ne_ROTATION_90_ROTATION_180 E_a1_46 Fk46_1 Fk46_0 g_a1 (Or.inl ⟨rfl, rfl⟩) hx hby hml hown hnm hret hlk hZ X47 e47 N47 hS B46
      · obtain ⟨v48, T48, L48, X48, q48, st48⟩ := own_callS X0 hx hZ (y := (⟨"com/example/reorient/reorient/service/WindowPictureOfPinLaw", "rot", "(I)Lcom/example/reorient/reorient/model/Rotation;"⟩ : MethodName)) (pc := 54) (Ls := #[.val (.int p1), .val (.int p2), .val (.int p3), .val (.int p4), .val (.int p5), .val (.int p6), .val (.ref a1), .val (.int (2 : Int32)), .unset, .unset, .unset, .unset]) (st := [(.int p3), (.ref a1)]) hown (hw _ (List.mem_of_getElem? (i := 11) rfl)) (hw _ (List.mem_of_getElem? (i := 12) rfl)) (hw _ (List.mem_of_getElem? (i := 13) rfl)) (hw _ (List.mem_of_getElem? (i := 14) rfl)) (by decide) (rm_rot l Z a0 hw p3 w_ROTATION_0 w_ROTATION_90 w_ROTATION_180 w_ROTATION_270 h0 n0 Z0 S_ROTATION_0 S_ROTATION_90 S_ROTATION_180 S_ROTATION_270) e0 pd_1 (hb hby at_54) (by rw [hml]; rfl) (argsL := [(.int p3)]) (rest := [(.ref a1)]) rfl rfl rfl (W := 1) (Nat.le_of_eq rfl) (by decide) (by decide) (by decide) (by decide)
        obtain ⟨rfl, M48, e48⟩ := q48
        have N48 := Fr.app N0 M48
        have r48 : (f_rot p3 w_ROTATION_0 w_ROTATION_90 w_ROTATION_180 w_ROTATION_270) = w_ROTATION_90 := by rw [f_rot, if_neg ((by rw [q44]; decide) : ¬ ((p3 &&& (3 : Int32)) = (0 : Int32))), if_pos (q44 : (p3 &&& (3 : Int32)) = (1 : Int32))]
        rw [r48] at st48
        refine Go.mp st48 ?_
        show Go p e below (T48.setTop (mkF m 57 #[.val (.int p1), .val (.int p2), .val (.int p3), .val (.int p4), .val (.int p5), .val (.int p6), .val (.ref a1), .val (.int (2 : Int32)), .unset, .unset, .unset, .unset] [(.ref w_ROTATION_90), (.ref a1)])) _
        obtain ⟨v49, T49, L49, X49, q49, st49⟩ := own_callV X48 hx hZ (y := (⟨"com/example/reorient/reorient/service/Window", "turnTo", "(Lcom/example/reorient/reorient/model/Rotation;)V"⟩ : MethodName)) (pc := 57) (Ls := #[.val (.int p1), .val (.int p2), .val (.int p3), .val (.int p4), .val (.int p5), .val (.int p6), .val (.ref a1), .val (.int (2 : Int32)), .unset, .unset, .unset, .unset]) (st := [(.ref w_ROTATION_90), (.ref a1)]) hown (hw _ (List.mem_of_getElem? (i := 43) rfl)) (hw _ (List.mem_of_getElem? (i := 44) rfl)) (hw _ (List.mem_of_getElem? (i := 46) rfl)) (hw _ (List.mem_of_getElem? (i := 45) rfl)) (hw _ (List.mem_of_getElem? (i := 47) rfl)) (hw _ (List.mem_of_getElem? (i := 2) rfl)) (by decide) (rm_turnTo l Z a0 hw a1 w_ROTATION_90 (.ref w_ROTATION_180) dz h0 n0 Z0 rfl E_a1 F_a1_drawn F_a1_picture g_a1) e48 E_a1 pd_2 (hb hby at_57) (by rw [hml]; rfl) (argsL := [(.ref w_ROTATION_90)]) (rest := []) rfl rfl rfl (W := 0) (Nat.le_of_eq rfl) (by decide) (by decide) (by decide) (by decide)
        obtain ⟨rv49, M49, Kc49, Fk49_0, Fk49_1⟩ := q49
        have N49 := Fr.app N48 M49
        subst rv49
        have r49_1 : (f_turnTo_a1_picture a1 w_ROTATION_90 (.ref w_ROTATION_180) dz) = .null := by rw [f_turnTo_a1_picture, if_neg ((fun q => ne_ROTATION_90_ROTATION_180 (Value.ref.inj q).symm) : ¬ ((Value.ref w_ROTATION_180) = (Value.ref w_ROTATION_90)))]
        rw [r49_1] at Fk49_1
        have S_ROTATION_0_49 := own_sta_keep S_ROTATION_0 Kc49 (own_plain E_a1 (fun _ q => nomatch q))
        have E_w_ROTATION_0_49 := Exa.keep E_w_ROTATION_0 Kc49
        have S_APPLICATION_49 := own_sta_keep S_APPLICATION Kc49 (own_plain E_a1 (fun _ q => nomatch q))
        have E_w_APPLICATION_49 := Exa.keep E_w_APPLICATION Kc49
        have S_ROTATION_270_49 := own_sta_keep S_ROTATION_270 Kc49 (own_plain E_a1 (fun _ q => nomatch q))
        have E_w_ROTATION_270_49 := Exa.keep E_w_ROTATION_270 Kc49
        have S_ROTATION_180_49 := own_sta_keep S_ROTATION_180 Kc49 (own_plain E_a1 (fun _ q => nomatch q))
        have E_w_ROTATION_180_49 := Exa.keep E_w_ROTATION_180 Kc49
        have S_ROTATION_90_49 := own_sta_keep S_ROTATION_90 Kc49 (own_plain E_a1 (fun _ q => nomatch q))
        have E_w_ROTATION_90_49 := Exa.keep E_w_ROTATION_90 Kc49
        have E_a1_49 := Exa.keep E_a1 Kc49
        have Z49 : n0 ≤ T49.heap.size := Nat.le_trans Z0 Kc49.1
        have B49 : _ ≤ T49.heap.size := Nat.le_trans hB Kc49.1
        refine Go.mp st49 ?_
        show Go p e below (T49.setTop (mkF m 60 #[.val (.int p1), .val (.int p2), .val (.int p3), .val (.int p4), .val (.int p5), .val (.int p6), .val (.ref a1), .val (.int (2 : Int32)), .unset, .unset, .unset, .unset] [])) _
        refine g_iload X49 hx (hb hby at_60) rfl ?_
        refine g_iloadN X49 hx (hb hby at_62) rfl ?_
        obtain ⟨v50, T50, L50, X50, q50, st50⟩ := own_callS X49 hx hZ (y := (⟨"com/example/reorient/reorient/service/WindowPictureOfPinLaw", "turn", "(II)I"⟩ : MethodName)) (pc := 63) (Ls := #[.val (.int p1), .val (.int p2), .val (.int p3), .val (.int p4), .val (.int p5), .val (.int p6), .val (.ref a1), .val (.int (2 : Int32)), .unset, .unset, .unset, .unset]) (st := [(.int p3), (.int (2 : Int32))]) hown (hw _ (List.mem_of_getElem? (i := 48) rfl)) (hw _ (List.mem_of_getElem? (i := 49) rfl)) (hw _ (List.mem_of_getElem? (i := 13) rfl)) (hw _ (List.mem_of_getElem? (i := 50) rfl)) (by decide) (rm_turn l Z a0 hw (2 : Int32) p3 T49.heap n0 Z49 ) (rfl : T49.heap = T49.heap) pd_3 (hb hby at_63) (by rw [hml]; rfl) (argsL := [(.int (2 : Int32)), (.int p3)]) (rest := []) rfl rfl rfl (W := 0) (Nat.le_of_eq rfl) (by decide) (by decide) (by decide) (by decide)
        obtain ⟨rfl, M50, e50⟩ := q50
        have N50 := Fr.app N49 M50
        have r50 : (f_turn (2 : Int32) p3) = (-1 : Int32) := by rw [f_turn, if_neg ((by rw [q44]; decide) : ¬ ((2 : Int32) = (p3 &&& (3 : Int32))))]
        rw [r50] at st50
        refine Go.mp st50 ?_
        show Go p e below (T50.setTop (mkF m 66 #[.val (.int p1), .val (.int p2), .val (.int p3), .val (.int p4), .val (.int p5), .val (.int p6), .val (.ref a1), .val (.int (2 : Int32)), .unset, .unset, .unset, .unset] [(.int (-1 : Int32))])) _
        refine g_istore X50 hx #[.val (.int p1), .val (.int p2), .val (.int p3), .val (.int p4), .val (.int p5), .val (.int p6), .val (.ref a1), .val (.int (-1 : Int32)), .unset, .unset, .unset, .unset] (hb hby at_66) rfl ?_
        show Go p e below (T50.setTop (mkF m 68 #[.val (.int p1), .val (.int p2), .val (.int p3), .val (.int p4), .val (.int p5), .val (.int p6), .val (.ref a1), .val (.int (-1 : Int32)), .unset, .unset, .unset, .unset] [])) _
        exact seg_3 l Z a0 hw p1 p2 p3 p4 p5 p6 a1 (-1 : Int32) .null dz w_ROTATION_0 w_APPLICATION w_ROTATION_270 w_ROTATION_180 w_ROTATION_90 T49.heap n0 Z49 S_ROTATION_0_49 E_w_ROTATION_0_49 S_APPLICATION_49 E_w_APPLICATION_49 S_ROTATION_270_49 E_w_ROTATION_270_49 S_ROTATION_180_49 E_w_ROTATION_180_49 S_ROTATION_90_49 E_w_ROTATION_90_49 ne_ROTATION_0_ROTATION_270 ne_ROTATION_0_ROTATION_90 ne_ROTATION_0_ROTATION_180 ne_ROTATION_270_ROTATION_90 ne_ROTATION_270_ROTATION_180 ne_ROTATION_90_ROTATION_180 E_a1_49 Fk49_1 Fk49_0 g_a1 (Or.inl ⟨rfl, rfl⟩) hx hby hml hown hnm hret hlk hZ X50 e50 N50 hS B49
      · obtain ⟨v51, T51, L51, X51, q51, st51⟩ := own_callS X0 hx hZ (y := (⟨"com/example/reorient/reorient/service/WindowPictureOfPinLaw", "rot", "(I)Lcom/example/reorient/reorient/model/Rotation;"⟩ : MethodName)) (pc := 54) (Ls := #[.val (.int p1), .val (.int p2), .val (.int p3), .val (.int p4), .val (.int p5), .val (.int p6), .val (.ref a1), .val (.int (2 : Int32)), .unset, .unset, .unset, .unset]) (st := [(.int p3), (.ref a1)]) hown (hw _ (List.mem_of_getElem? (i := 11) rfl)) (hw _ (List.mem_of_getElem? (i := 12) rfl)) (hw _ (List.mem_of_getElem? (i := 13) rfl)) (hw _ (List.mem_of_getElem? (i := 14) rfl)) (by decide) (rm_rot l Z a0 hw p3 w_ROTATION_0 w_ROTATION_90 w_ROTATION_180 w_ROTATION_270 h0 n0 Z0 S_ROTATION_0 S_ROTATION_90 S_ROTATION_180 S_ROTATION_270) e0 pd_1 (hb hby at_54) (by rw [hml]; rfl) (argsL := [(.int p3)]) (rest := [(.ref a1)]) rfl rfl rfl (W := 1) (Nat.le_of_eq rfl) (by decide) (by decide) (by decide) (by decide)
        obtain ⟨rfl, M51, e51⟩ := q51
        have N51 := Fr.app N0 M51
        have r51 : (f_rot p3 w_ROTATION_0 w_ROTATION_90 w_ROTATION_180 w_ROTATION_270) = w_ROTATION_180 := by rw [f_rot, if_neg ((by rw [q44]; decide) : ¬ ((p3 &&& (3 : Int32)) = (0 : Int32))), if_neg ((by rw [q44]; decide) : ¬ ((p3 &&& (3 : Int32)) = (1 : Int32))), if_pos (q44 : (p3 &&& (3 : Int32)) = (2 : Int32))]
        rw [r51] at st51
        refine Go.mp st51 ?_
        show Go p e below (T51.setTop (mkF m 57 #[.val (.int p1), .val (.int p2), .val (.int p3), .val (.int p4), .val (.int p5), .val (.int p6), .val (.ref a1), .val (.int (2 : Int32)), .unset, .unset, .unset, .unset] [(.ref w_ROTATION_180), (.ref a1)])) _
        obtain ⟨v52, T52, L52, X52, q52, st52⟩ := own_callV X51 hx hZ (y := (⟨"com/example/reorient/reorient/service/Window", "turnTo", "(Lcom/example/reorient/reorient/model/Rotation;)V"⟩ : MethodName)) (pc := 57) (Ls := #[.val (.int p1), .val (.int p2), .val (.int p3), .val (.int p4), .val (.int p5), .val (.int p6), .val (.ref a1), .val (.int (2 : Int32)), .unset, .unset, .unset, .unset]) (st := [(.ref w_ROTATION_180), (.ref a1)]) hown (hw _ (List.mem_of_getElem? (i := 43) rfl)) (hw _ (List.mem_of_getElem? (i := 44) rfl)) (hw _ (List.mem_of_getElem? (i := 46) rfl)) (hw _ (List.mem_of_getElem? (i := 45) rfl)) (hw _ (List.mem_of_getElem? (i := 47) rfl)) (hw _ (List.mem_of_getElem? (i := 2) rfl)) (by decide) (rm_turnTo l Z a0 hw a1 w_ROTATION_180 (.ref w_ROTATION_180) dz h0 n0 Z0 rfl E_a1 F_a1_drawn F_a1_picture g_a1) e51 E_a1 pd_2 (hb hby at_57) (by rw [hml]; rfl) (argsL := [(.ref w_ROTATION_180)]) (rest := []) rfl rfl rfl (W := 0) (Nat.le_of_eq rfl) (by decide) (by decide) (by decide) (by decide)
        obtain ⟨rv52, M52, Kc52, Fk52_0, Fk52_1⟩ := q52
        have N52 := Fr.app N51 M52
        subst rv52
        have r52_1 : (f_turnTo_a1_picture a1 w_ROTATION_180 (.ref w_ROTATION_180) dz) = (.ref w_ROTATION_180) := by rw [f_turnTo_a1_picture, if_pos (rfl : (Value.ref w_ROTATION_180) = (Value.ref w_ROTATION_180))]
        rw [r52_1] at Fk52_1
        have S_ROTATION_0_52 := own_sta_keep S_ROTATION_0 Kc52 (own_plain E_a1 (fun _ q => nomatch q))
        have E_w_ROTATION_0_52 := Exa.keep E_w_ROTATION_0 Kc52
        have S_APPLICATION_52 := own_sta_keep S_APPLICATION Kc52 (own_plain E_a1 (fun _ q => nomatch q))
        have E_w_APPLICATION_52 := Exa.keep E_w_APPLICATION Kc52
        have S_ROTATION_270_52 := own_sta_keep S_ROTATION_270 Kc52 (own_plain E_a1 (fun _ q => nomatch q))
        have E_w_ROTATION_270_52 := Exa.keep E_w_ROTATION_270 Kc52
        have S_ROTATION_180_52 := own_sta_keep S_ROTATION_180 Kc52 (own_plain E_a1 (fun _ q => nomatch q))
        have E_w_ROTATION_180_52 := Exa.keep E_w_ROTATION_180 Kc52
        have S_ROTATION_90_52 := own_sta_keep S_ROTATION_90 Kc52 (own_plain E_a1 (fun _ q => nomatch q))
        have E_w_ROTATION_90_52 := Exa.keep E_w_ROTATION_90 Kc52
        have E_a1_52 := Exa.keep E_a1 Kc52
        have Z52 : n0 ≤ T52.heap.size := Nat.le_trans Z0 Kc52.1
        have B52 : _ ≤ T52.heap.size := Nat.le_trans hB Kc52.1
        refine Go.mp st52 ?_
        show Go p e below (T52.setTop (mkF m 60 #[.val (.int p1), .val (.int p2), .val (.int p3), .val (.int p4), .val (.int p5), .val (.int p6), .val (.ref a1), .val (.int (2 : Int32)), .unset, .unset, .unset, .unset] [])) _
        refine g_iload X52 hx (hb hby at_60) rfl ?_
        refine g_iloadN X52 hx (hb hby at_62) rfl ?_
        obtain ⟨v53, T53, L53, X53, q53, st53⟩ := own_callS X52 hx hZ (y := (⟨"com/example/reorient/reorient/service/WindowPictureOfPinLaw", "turn", "(II)I"⟩ : MethodName)) (pc := 63) (Ls := #[.val (.int p1), .val (.int p2), .val (.int p3), .val (.int p4), .val (.int p5), .val (.int p6), .val (.ref a1), .val (.int (2 : Int32)), .unset, .unset, .unset, .unset]) (st := [(.int p3), (.int (2 : Int32))]) hown (hw _ (List.mem_of_getElem? (i := 48) rfl)) (hw _ (List.mem_of_getElem? (i := 49) rfl)) (hw _ (List.mem_of_getElem? (i := 13) rfl)) (hw _ (List.mem_of_getElem? (i := 50) rfl)) (by decide) (rm_turn l Z a0 hw (2 : Int32) p3 T52.heap n0 Z52 ) (rfl : T52.heap = T52.heap) pd_3 (hb hby at_63) (by rw [hml]; rfl) (argsL := [(.int (2 : Int32)), (.int p3)]) (rest := []) rfl rfl rfl (W := 0) (Nat.le_of_eq rfl) (by decide) (by decide) (by decide) (by decide)
        obtain ⟨rfl, M53, e53⟩ := q53
        have N53 := Fr.app N52 M53
        have r53 : (f_turn (2 : Int32) p3) = (2 : Int32) := by rw [f_turn, if_pos (q44.symm : (2 : Int32) = (p3 &&& (3 : Int32)))]
        rw [r53] at st53
        refine Go.mp st53 ?_
        show Go p e below (T53.setTop (mkF m 66 #[.val (.int p1), .val (.int p2), .val (.int p3), .val (.int p4), .val (.int p5), .val (.int p6), .val (.ref a1), .val (.int (2 : Int32)), .unset, .unset, .unset, .unset] [(.int (2 : Int32))])) _
        refine g_istore X53 hx #[.val (.int p1), .val (.int p2), .val (.int p3), .val (.int p4), .val (.int p5), .val (.int p6), .val (.ref a1), .val (.int (2 : Int32)), .unset, .unset, .unset, .unset] (hb hby at_66) rfl ?_
        show Go p e below (T53.setTop (mkF m 68 #[.val (.int p1), .val (.int p2), .val (.int p3), .val (.int p4), .val (.int p5), .val (.int p6), .val (.ref a1), .val (.int (2 : Int32)), .unset, .unset, .unset, .unset] [])) _
        exact seg_3 l Z a0 hw p1 p2 p3 p4 p5 p6 a1 (2 : Int32) (.ref w_ROTATION_180) dz w_ROTATION_0 w_APPLICATION w_ROTATION_270 w_ROTATION_180 w_ROTATION_90 T52.heap n0 Z52 S_ROTATION_0_52 E_w_ROTATION_0_52 S_APPLICATION_52 E_w_APPLICATION_52 S_ROTATION_270_52 E_w_ROTATION_270_52 S_ROTATION_180_52 E_w_ROTATION_180_52 S_ROTATION_90_52 E_w_ROTATION_90_52 ne_ROTATION_0_ROTATION_270 ne_ROTATION_0_ROTATION_90 ne_ROTATION_0_ROTATION_180 ne_ROTATION_270_ROTATION_90 ne_ROTATION_270_ROTATION_180 ne_ROTATION_90_ROTATION_180 E_a1_52 Fk52_1 Fk52_0 g_a1 (Or.inr (Or.inr (Or.inr (Or.inl ⟨rfl, rfl⟩)))) hx hby hml hown hnm hret hlk hZ X53 e53 N53 hS B52
      · obtain ⟨v54, T54, L54, X54, q54, st54⟩ := own_callS X0 hx hZ (y := (⟨"com/example/reorient/reorient/service/WindowPictureOfPinLaw", "rot", "(I)Lcom/example/reorient/reorient/model/Rotation;"⟩ : MethodName)) (pc := 54) (Ls := #[.val (.int p1), .val (.int p2), .val (.int p3), .val (.int p4), .val (.int p5), .val (.int p6), .val (.ref a1), .val (.int (2 : Int32)), .unset, .unset, .unset, .unset]) (st := [(.int p3), (.ref a1)]) hown (hw _ (List.mem_of_getElem? (i := 11) rfl)) (hw _ (List.mem_of_getElem? (i := 12) rfl)) (hw _ (List.mem_of_getElem? (i := 13) rfl)) (hw _ (List.mem_of_getElem? (i := 14) rfl)) (by decide) (rm_rot l Z a0 hw p3 w_ROTATION_0 w_ROTATION_90 w_ROTATION_180 w_ROTATION_270 h0 n0 Z0 S_ROTATION_0 S_ROTATION_90 S_ROTATION_180 S_ROTATION_270) e0 pd_1 (hb hby at_54) (by rw [hml]; rfl) (argsL := [(.int p3)]) (rest := [(.ref a1)]) rfl rfl rfl (W := 1) (Nat.le_of_eq rfl) (by decide) (by decide) (by decide) (by decide)
        obtain ⟨rfl, M54, e54⟩ := q54
        have N54 := Fr.app N0 M54
        have r54 : (f_rot p3 w_ROTATION_0 w_ROTATION_90 w_ROTATION_180 w_ROTATION_270) = w_ROTATION_270 := by rw [f_rot, if_neg ((by rw [q44]; decide) : ¬ ((p3 &&& (3 : Int32)) = (0 : Int32))), if_neg ((by rw [q44]; decide) : ¬ ((p3 &&& (3 : Int32)) = (1 : Int32))), if_neg ((by rw [q44]; decide) : ¬ ((p3 &&& (3 : Int32)) = (2 : Int32)))]
        rw [r54] at st54
        refine Go.mp st54 ?_
        show Go p e below (T54.setTop (mkF m 57 #[.val (.int p1), .val (.int p2), .val (.int p3), .val (.int p4), .val (.int p5), .val (.int p6), .val (.ref a1), .val (.int (2 : Int32)), .unset, .unset, .unset, .unset] [(.ref w_ROTATION_270), (.ref a1)])) _
        obtain ⟨v55, T55, L55, X55, q55, st55⟩ := own_callV X54 hx hZ (y := (⟨"com/example/reorient/reorient/service/Window", "turnTo", "(Lcom/example/reorient/reorient/model/Rotation;)V"⟩ : MethodName)) (pc := 57) (Ls := #[.val (.int p1), .val (.int p2), .val (.int p3), .val (.int p4), .val (.int p5), .val (.int p6), .val (.ref a1), .val (.int (2 : Int32)), .unset, .unset, .unset, .unset]) (st := [(.ref w_ROTATION_270), (.ref a1)]) hown (hw _ (List.mem_of_getElem? (i := 43) rfl)) (hw _ (List.mem_of_getElem? (i := 44) rfl)) (hw _ (List.mem_of_getElem? (i := 46) rfl)) (hw _ (List.mem_of_getElem? (i := 45) rfl)) (hw _ (List.mem_of_getElem? (i := 47) rfl)) (hw _ (List.mem_of_getElem? (i := 2) rfl)) (by decide) (rm_turnTo l Z a0 hw a1 w_ROTATION_270 (.ref w_ROTATION_180) dz h0 n0 Z0 rfl E_a1 F_a1_drawn F_a1_picture g_a1) e54 E_a1 pd_2 (hb hby at_57) (by rw [hml]; rfl) (argsL := [(.ref w_ROTATION_270)]) (rest := []) rfl rfl rfl (W := 0) (Nat.le_of_eq rfl) (by decide) (by decide) (by decide) (by decide)
        obtain ⟨rv55, M55, Kc55, Fk55_0, Fk55_1⟩ := q55
        have N55 := Fr.app N54 M55
        subst rv55
        have r55_1 : (f_turnTo_a1_picture a1 w_ROTATION_270 (.ref w_ROTATION_180) dz) = .null := by rw [f_turnTo_a1_picture, if_neg ((fun q => ne_ROTATION_270_ROTATION_180 (Value.ref.inj q).symm) : ¬ ((Value.ref w_ROTATION_180) = (Value.ref w_ROTATION_270)))]
        rw [r55_1] at Fk55_1
        have S_ROTATION_0_55 := own_sta_keep S_ROTATION_0 Kc55 (own_plain E_a1 (fun _ q => nomatch q))
        have E_w_ROTATION_0_55 := Exa.keep E_w_ROTATION_0 Kc55
        have S_APPLICATION_55 := own_sta_keep S_APPLICATION Kc55 (own_plain E_a1 (fun _ q => nomatch q))
        have E_w_APPLICATION_55 := Exa.keep E_w_APPLICATION Kc55
        have S_ROTATION_270_55 := own_sta_keep S_ROTATION_270 Kc55 (own_plain E_a1 (fun _ q => nomatch q))
        have E_w_ROTATION_270_55 := Exa.keep E_w_ROTATION_270 Kc55
        have S_ROTATION_180_55 := own_sta_keep S_ROTATION_180 Kc55 (own_plain E_a1 (fun _ q => nomatch q))
        have E_w_ROTATION_180_55 := Exa.keep E_w_ROTATION_180 Kc55
        have S_ROTATION_90_55 := own_sta_keep S_ROTATION_90 Kc55 (own_plain E_a1 (fun _ q => nomatch q))
        have E_w_ROTATION_90_55 := Exa.keep E_w_ROTATION_90 Kc55
        have E_a1_55 := Exa.keep E_a1 Kc55
        have Z55 : n0 ≤ T55.heap.size := Nat.le_trans Z0 Kc55.1
        have B55 : _ ≤ T55.heap.size := Nat.le_trans hB Kc55.1
        refine Go.mp st55 ?_
        show Go p e below (T55.setTop (mkF m 60 #[.val (.int p1), .val (.int p2), .val (.int p3), .val (.int p4), .val (.int p5), .val (.int p6), .val (.ref a1), .val (.int (2 : Int32)), .unset, .unset, .unset, .unset] [])) _
        refine g_iload X55 hx (hb hby at_60) rfl ?_
        refine g_iloadN X55 hx (hb hby at_62) rfl ?_
        obtain ⟨v56, T56, L56, X56, q56, st56⟩ := own_callS X55 hx hZ (y := (⟨"com/example/reorient/reorient/service/WindowPictureOfPinLaw", "turn", "(II)I"⟩ : MethodName)) (pc := 63) (Ls := #[.val (.int p1), .val (.int p2), .val (.int p3), .val (.int p4), .val (.int p5), .val (.int p6), .val (.ref a1), .val (.int (2 : Int32)), .unset, .unset, .unset, .unset]) (st := [(.int p3), (.int (2 : Int32))]) hown (hw _ (List.mem_of_getElem? (i := 48) rfl)) (hw _ (List.mem_of_getElem? (i := 49) rfl)) (hw _ (List.mem_of_getElem? (i := 13) rfl)) (hw _ (List.mem_of_getElem? (i := 50) rfl)) (by decide) (rm_turn l Z a0 hw (2 : Int32) p3 T55.heap n0 Z55 ) (rfl : T55.heap = T55.heap) pd_3 (hb hby at_63) (by rw [hml]; rfl) (argsL := [(.int (2 : Int32)), (.int p3)]) (rest := []) rfl rfl rfl (W := 0) (Nat.le_of_eq rfl) (by decide) (by decide) (by decide) (by decide)
        obtain ⟨rfl, M56, e56⟩ := q56
        have N56 := Fr.app N55 M56
        have r56 : (f_turn (2 : Int32) p3) = (-1 : Int32) := by rw [f_turn, if_neg ((by rw [q44]; decide) : ¬ ((2 : Int32) = (p3 &&& (3 : Int32))))]
        rw [r56] at st56
        refine Go.mp st56 ?_
        show Go p e below (T56.setTop (mkF m 66 #[.val (.int p1), .val (.int p2), .val (.int p3), .val (.int p4), .val (.int p5), .val (.int p6), .val (.ref a1), .val (.int (2 : Int32)), .unset, .unset, .unset, .unset] [(.int (-1 : Int32))])) _
        refine g_istore X56 hx #[.val (.int p1), .val (.int p2), .val (.int p3), .val (.int p4), .val (.int p5), .val (.int p6), .val (.ref a1), .val (.int (-1 : Int32)), .unset, .unset, .unset, .unset] (hb hby at_66) rfl ?_
        show Go p e below (T56.setTop (mkF m 68 #[.val (.int p1), .val (.int p2), .val (.int p3), .val (.int p4), .val (.int p5), .val (.int p6), .val (.ref a1), .val (.int (-1 : Int32)), .unset, .unset, .unset, .unset] [])) _
        exact seg_3 l Z a0 hw p1 p2 p3 p4 p5 p6 a1 (-1 : Int32) .null dz w_ROTATION_0 w_APPLICATION w_ROTATION_270 w_ROTATION_180 w_ROTATION_90 T55.heap n0 Z55 S_ROTATION_0_55 E_w_ROTATION_0_55 S_APPLICATION_55 E_w_APPLICATION_55 S_ROTATION_270_55 E_w_ROTATION_270_55 S_ROTATION_180_55 E_w_ROTATION_180_55 S_ROTATION_90_55 E_w_ROTATION_90_55 ne_ROTATION_0_ROTATION_270 ne_ROTATION_0_ROTATION_90 ne_ROTATION_0_ROTATION_180 ne_ROTATION_270_ROTATION_90 ne_ROTATION_270_ROTATION_180 ne_ROTATION_90_ROTATION_180 E_a1_55 Fk55_1 Fk55_0 g_a1 (Or.inl ⟨rfl, rfl⟩) hx hby hml hown hnm hret hlk hZ X56 e56 N56 hS B55
  · refine g_iload X0 hx (hb hby at_44) rfl ?_
    refine g_iconst X0 hx (2 : Int32) (hb hby at_46) (by decide) ?_
    refine g_iand X0 hx (hb hby at_47) ?_
    by_cases c48_57 : (p6 &&& (2 : Int32)) = (0 : Int32)
    · refine g_ifYes X0 hx 68 (hb hby at_48) ((if0 _ _).trans (teq c48_57).1) (by decide) (by decide) ?_
      show Go p e below (s₁.setTop (mkF m 68 #[.val (.int p1), .val (.int p2), .val (.int p3), .val (.int p4), .val (.int p5), .val (.int p6), .val (.ref a1), .val (.int (3 : Int32)), .unset, .unset, .unset, .unset] [])) _
      exact seg_3 l Z a0 hw p1 p2 p3 p4 p5 p6 a1 (3 : Int32) (.ref w_ROTATION_270) dz w_ROTATION_0 w_APPLICATION w_ROTATION_270 w_ROTATION_180 w_ROTATION_90 h0 n0 Z0 S_ROTATION_0 E_w_ROTATION_0 S_APPLICATION E_w_APPLICATION S_ROTATION_270 E_w_ROTATION_270 S_ROTATION_180 E_w_ROTATION_180 S_ROTATION_90 E_w_ROTATION_90 ne_ROTATION_0_ROTATION_270 ne_ROTATION_0_ROTATION_90 ne_ROTATION_0_ROTATION_180 ne_ROTATION_270_ROTATION_90 ne_ROTATION_270_ROTATION_180 ne_ROTATION_90_ROTATION_180 E_a1 F_a1_picture F_a1_drawn g_a1 (Or.inr (Or.inr (Or.inr (Or.inr (⟨rfl, rfl⟩))))) hx hby hml hown hnm hret hlk hZ X0 e0 N0 hS hB
    · refine g_ifNo X0 hx (hb hby at_48) ((if0 _ _).trans (feq c48_57).1) ?_
      refine g_aload X0 hx (hb hby at_51) rfl rfl ?_
      refine g_iloadN X0 hx (hb hby at_53) rfl ?_
      show Go p e below (s₁.setTop (mkF m 54 #[.val (.int p1), .val (.int p2), .val (.int p3), .val (.int p4), .val (.int p5), .val (.int p6), .val (.ref a1), .val (.int (3 : Int32)), .unset, .unset, .unset, .unset] [(.int p3), (.ref a1)])) _
      rcases own_and3 p3 with q58 | q58 | q58 | q58
      · obtain ⟨v59, T59, L59, X59, q59, st59⟩ := own_callS X0 hx hZ (y := (⟨"com/example/reorient/reorient/service/WindowPictureOfPinLaw", "rot", "(I)Lcom/example/reorient/reorient/model/Rotation;"⟩ : MethodName)) (pc := 54) (Ls := #[.val (.int p1), .val (.int p2), .val (.int p3), .val (.int p4), .val (.int p5), .val (.int p6), .val (.ref a1), .val (.int (3 : Int32)), .unset, .unset, .unset, .unset]) (st := [(.int p3), (.ref a1)]) hown (hw _ (List.mem_of_getElem? (i := 11) rfl)) (hw _ (List.mem_of_getElem? (i := 12) rfl)) (hw _ (List.mem_of_getElem? (i := 13) rfl)) (hw _ (List.mem_of_getElem? (i := 14) rfl)) (by decide) (rm_rot l Z a0 hw p3 w_ROTATION_0 w_ROTATION_90 w_ROTATION_180 w_ROTATION_270 h0 n0 Z0 S_ROTATION_0 S_ROTATION_90 S_ROTATION_180 S_ROTATION_270) e0 pd_1 (hb hby at_54) (by rw [hml]; rfl) (argsL := [(.int p3)]) (rest := [(.ref a1)]) rfl rfl rfl (W := 1) (Nat.le_of_eq rfl) (by decide) (by decide) (by decide) (by decide)
        obtain ⟨rfl, M59, e59⟩ := q59
        have N59 := Fr.app N0 M59
        have r59 : (f_rot p3 w_ROTATION_0 w_ROTATION_90 w_ROTATION_180 w_ROTATION_270) = w_ROTATION_0 := by rw [f_rot, if_pos (q58 : (p3 &&& (3 : Int32)) = (0 : Int32))]
        rw [r59] at st59
        refine Go.mp st59 ?_
        show Go p e below (T59.setTop (mkF m 57 #[.val (.int p1), .val (.int p2), .val (.int p3), .val (.int p4), .val (.int p5), .val (.int p6), .val (.ref a1), .val (.int (3 : Int32)), .unset, .unset, .unset, .unset] [(.ref w_ROTATION_0), (.ref a1)])) _
        obtain ⟨v60, T60, L60, X60, q60, st60⟩ := own_callV X59 hx hZ (y := (⟨"com/example/reorient/reorient/service/Window", "turnTo", "(Lcom/example/reorient/reorient/model/Rotation;)V"⟩ : MethodName)) (pc := 57) (Ls := #[.val (.int p1), .val (.int p2), .val (.int p3), .val (.int p4), .val (.int p5), .val (.int p6), .val (.ref a1), .val (.int (3 : Int32)), .unset, .unset, .unset, .unset]) (st := [(.ref w_ROTATION_0), (.ref a1)]) hown (hw _ (List.mem_of_getElem? (i := 43) rfl)) (hw _ (List.mem_of_getElem? (i := 44) rfl)) (hw _ (List.mem_of_getElem? (i := 46) rfl)) (hw _ (List.mem_of_getElem? (i := 45) rfl)) (hw _ (List.mem_of_getElem? (i := 47) rfl)) (hw _ (List.mem_of_getElem? (i := 2) rfl)) (by decide) (rm_turnTo l Z a0 hw a1 w_ROTATION_0 (.ref w_ROTATION_270) dz h0 n0 Z0 rfl E_a1 F_a1_drawn F_a1_picture g_a1) e59 E_a1 pd_2 (hb hby at_57) (by rw [hml]; rfl) (argsL := [(.ref w_ROTATION_0)]) (rest := []) rfl rfl rfl (W := 0) (Nat.le_of_eq rfl) (by decide) (by decide) (by decide) (by decide)
        obtain ⟨rv60, M60, Kc60, Fk60_0, Fk60_1⟩ := q60
        have N60 := Fr.app N59 M60
        subst rv60
        have r60_1 : (f_turnTo_a1_picture a1 w_ROTATION_0 (.ref w_ROTATION_270) dz) = .null := by rw [f_turnTo_a1_picture, if_neg ((fun q => ne_ROTATION_0_ROTATION_270 (Value.ref.inj q).symm) : ¬ ((Value.ref w_ROTATION_270) = (Value.ref w_ROTATION_0)))]
        rw [r60_1] at Fk60_1
        have S_ROTATION_0_60 := own_sta_keep S_ROTATION_0 Kc60 (own_plain E_a1 (fun _ q => nomatch q))
        have E_w_ROTATION_0_60 := Exa.keep E_w_ROTATION_0 Kc60
        have S_APPLICATION_60 := own_sta_keep S_APPLICATION Kc60 (own_plain E_a1 (fun _ q => nomatch q))
        have E_w_APPLICATION_60 := Exa.keep E_w_APPLICATION Kc60
        have S_ROTATION_270_60 := own_sta_keep S_ROTATION_270 Kc60 (own_plain E_a1 (fun _ q => nomatch q))
        have E_w_ROTATION_270_60 := Exa.keep E_w_ROTATION_270 Kc60
        have S_ROTATION_180_60 := own_sta_keep S_ROTATION_180 Kc60 (own_plain E_a1 (fun _ q => nomatch q))
        have E_w_ROTATION_180_60 := Exa.keep E_w_ROTATION_180 Kc60
        have S_ROTATION_90_60 := own_sta_keep S_ROTATION_90 Kc60 (own_plain E_a1 (fun _ q => nomatch q))
        have E_w_ROTATION_90_60 := Exa.keep E_w_ROTATION_90 Kc60
        have E_a1_60 := Exa.keep E_a1 Kc60
        have Z60 : n0 ≤ T60.heap.size := Nat.le_trans Z0 Kc60.1
        have B60 : _ ≤ T60.heap.size := Nat.le_trans hB Kc60.1
        refine Go.mp st60 ?_
        show Go p e below (T60.setTop (mkF m 60 #[.val (.int p1), .val (.int p2), .val (.int p3), .val (.int p4), .val (.int p5), .val (.int p6), .val (.ref a1), .val (.int (3 : Int32)), .unset, .unset, .unset, .unset] [])) _
        refine g_iload X60 hx (hb hby at_60) rfl ?_
        refine g_iloadN X60 hx (hb hby at_62) rfl ?_
        obtain ⟨v61, T61, L61, X61, q61, st61⟩ := own_callS X60 hx hZ (y := (⟨"com/example/reorient/reorient/service/WindowPictureOfPinLaw", "turn", "(II)I"⟩ : MethodName)) (pc := 63) (Ls := #[.val (.int p1), .val (.int p2), .val (.int p3), .val (.int p4), .val (.int p5), .val (.int p6), .val (.ref a1), .val (.int (3 : Int32)), .unset, .unset, .unset, .unset]) (st := [(.int p3), (.int (3 : Int32))]) hown (hw _ (List.mem_of_getElem? (i := 48) rfl)) (hw _ (List.mem_of_getElem? (i := 49) rfl)) (hw _ (List.mem_of_getElem? (i := 13) rfl)) (hw _ (List.mem_of_getElem? (i := 50) rfl)) (by decide) (rm_turn l Z a0 hw (3 : Int32) p3 T60.heap n0 Z60 ) (rfl : T60.heap = T60.heap) pd_3 (hb hby at_63) (by rw [hml]; rfl) (argsL := [(.int (3 : Int32)), (.int p3)]) (rest := []) rfl rfl rfl (W := 0) (Nat.le_of_eq rfl) (by decide) (by decide) (by decide) (by decide)
        obtain ⟨rfl, M61, e61⟩ := q61
        have N61 := Fr.app N60 M61
        have r61 : (f_turn (3 : Int32) p3) = (-1 : Int32) := by rw [f_turn, if_neg ((by rw [q58]; decide) : ¬ ((3 : Int32) = (p3 &&& (3 : Int32))))]
        rw [r61] at st61
        refine Go.mp st61 ?_
        show Go p e below (T61.setTop (mkF m 66 #[.val (.int p1), .val (.int p2), .val (.int p3), .val (.int p4), .val (.int p5), .val (.int p6), .val (.ref a1), .val (.int (3 : Int32)), .unset, .unset, .unset, .unset] [(.int (-1 : Int32))])) _
        refine g_istore X61 hx #[.val (.int p1), .val (.int p2), .val (.int p3), .val (.int p4), .val (.int p5), .val (.int p6), .val (.ref a1), .val (.int (-1 : Int32)), .unset, .unset, .unset, .unset] (hb hby at_66) rfl ?_
        show Go p e below (T61.setTop (mkF m 68 #[.val (.int p1), .val (.int p2), .val (.int p3), .val (.int p4), .val (.int p5), .val (.int p6), .val (.ref a1), .val (.int (-1 : Int32)), .unset, .unset, .unset, .unset] [])) _
        exact seg_3 l Z a0 hw p1 p2 p3 p4 p5 p6 a1 (-1 : Int32) .null dz w_ROTATION_0 w_APPLICATION w_ROTATION_270 w_ROTATION_180 w_ROTATION_90 T60.heap n0 Z60 S_ROTATION_0_60 E_w_ROTATION_0_60 S_APPLICATION_60 E_w_APPLICATION_60 S_ROTATION_270_60 E_w_ROTATION_270_60 S_ROTATION_180_60 E_w_ROTATION_180_60 S_ROTATION_90_60 E_w_ROTATION_90_60 ne_ROTATION_0_ROTATION_270 ne_ROTATION_0_ROTATION_90 ne_ROTATION_0_ROTATION_180 ne_ROTATION_270_ROTATION_90 ne_ROTATION_270_ROTATION_180 ne_ROTATION_90_ROTATION_180 E_a1_60 Fk60_1 Fk60_0 g_a1 (Or.inl ⟨rfl, rfl⟩) hx hby hml hown hnm hret hlk hZ X61 e61 N61 hS B60
      · obtain ⟨v62, T62, L62, X62, q62, st62⟩ := own_callS X0 hx hZ (y := (⟨"com/example/reorient/reorient/service/WindowPictureOfPinLaw", "rot", "(I)Lcom/example/reorient/reorient/model/Rotation;"⟩ : MethodName)) (pc := 54) (Ls := #[.val (.int p1), .val (.int p2), .val (.int p3), .val (.int p4), .val (.int p5), .val (.int p6), .val (.ref a1), .val (.int (3 : Int32)), .unset, .unset, .unset, .unset]) (st := [(.int p3), (.ref a1)]) hown (hw _ (List.mem_of_getElem? (i := 11) rfl)) (hw _ (List.mem_of_getElem? (i := 12) rfl)) (hw _ (List.mem_of_getElem? (i := 13) rfl)) (hw _ (List.mem_of_getElem? (i := 14) rfl)) (by decide) (rm_rot l Z a0 hw p3 w_ROTATION_0 w_ROTATION_90 w_ROTATION_180 w_ROTATION_270 h0 n0 Z0 S_ROTATION_0 S_ROTATION_90 S_ROTATION_180 S_ROTATION_270) e0 pd_1 (hb hby at_54) (by rw [hml]; rfl) (argsL := [(.int p3)]) (rest := [(.ref a1)]) rfl rfl rfl (W := 1) (Nat.le_of_eq rfl) (by decide) (by decide) (by decide) (by decide)
        obtain ⟨rfl, M62, e62⟩ := q62
        have N62 := Fr.app N0 M62
        have r62 : (f_rot p3 w_ROTATION_0 w_ROTATION_90 w_ROTATION_180 w_ROTATION_270) = w_ROTATION_90 := by rw [f_rot, if_neg ((by rw [q58]; decide) : ¬ ((p3 &&& (3 : Int32)) = (0 : Int32))), if_pos (q58 : (p3 &&& (3 : Int32)) = (1 : Int32))]
        rw [r62] at st62
        refine Go.mp st62 ?_
        show Go p e below (T62.setTop (mkF m 57 #[.val (.int p1), .val (.int p2), .val (.int p3), .val (.int p4), .val (.int p5), .val (.int p6), .val (.ref a1), .val (.int (3 : Int32)), .unset, .unset, .unset, .unset] [(.ref w_ROTATION_90), (.ref a1)])) _
        obtain ⟨v63, T63, L63, X63, q63, st63⟩ := own_callV X62 hx hZ (y := (⟨"com/example/reorient/reorient/service/Window", "turnTo", "(Lcom/example/reorient/reorient/model/Rotation;)V"⟩ : MethodName)) (pc := 57) (Ls := #[.val (.int p1), .val (.int p2), .val (.int p3), .val (.int p4), .val (.int p5), .val (.int p6), .val (.ref a1), .val (.int (3 : Int32)), .unset, .unset, .unset, .unset]) (st := [(.ref w_ROTATION_90), (.ref a1)]) hown (hw _ (List.mem_of_getElem? (i := 43) rfl)) (hw _ (List.mem_of_getElem? (i := 44) rfl)) (hw _ (List.mem_of_getElem? (i := 46) rfl)) (hw _ (List.mem_of_getElem? (i := 45) rfl)) (hw _ (List.mem_of_getElem? (i := 47) rfl)) (hw _ (List.mem_of_getElem? (i := 2) rfl)) (by decide) (rm_turnTo l Z a0 hw a1 w_ROTATION_90 (.ref w_ROTATION_270) dz h0 n0 Z0 rfl E_a1 F_a1_drawn F_a1_picture g_a1) e62 E_a1 pd_2 (hb hby at_57) (by rw [hml]; rfl) (argsL := [(.ref w_ROTATION_90)]) (rest := []) rfl rfl rfl (W := 0) (Nat.le_of_eq rfl) (by decide) (by decide) (by decide) (by decide)
        obtain ⟨rv63, M63, Kc63, Fk63_0, Fk63_1⟩ := q63
        have N63 := Fr.app N62 M63
        subst rv63
        have r63_1 : (f_turnTo_a1_picture a1 w_ROTATION_90 (.ref w_ROTATION_270) dz) = .null := by rw [f_turnTo_a1_picture, if_neg ((fun q => ne_ROTATION_270_ROTATION_90 (Value.ref.inj q)) : ¬ ((Value.ref w_ROTATION_270) = (Value.ref w_ROTATION_90)))]
        rw [r63_1] at Fk63_1
        have S_ROTATION_0_63 := own_sta_keep S_ROTATION_0 Kc63 (own_plain E_a1 (fun _ q => nomatch q))
        have E_w_ROTATION_0_63 := Exa.keep E_w_ROTATION_0 Kc63
        have S_APPLICATION_63 := own_sta_keep S_APPLICATION Kc63 (own_plain E_a1 (fun _ q => nomatch q))
        have E_w_APPLICATION_63 := Exa.keep E_w_APPLICATION Kc63
        have S_ROTATION_270_63 := own_sta_keep S_ROTATION_270 Kc63 (own_plain E_a1 (fun _ q => nomatch q))
        have E_w_ROTATION_270_63 := Exa.keep E_w_ROTATION_270 Kc63
        have S_ROTATION_180_63 := own_sta_keep S_ROTATION_180 Kc63 (own_plain E_a1 (fun _ q => nomatch q))
        have E_w_ROTATION_180_63 := Exa.keep E_w_ROTATION_180 Kc63
        have S_ROTATION_90_63 := own_sta_keep S_ROTATION_90 Kc63 (own_plain E_a1 (fun _ q => nomatch q))
        have E_w_ROTATION_90_63 := Exa.keep E_w_ROTATION_90 Kc63
        have E_a1_63 := Exa.keep E_a1 Kc63
        have Z63 : n0 ≤ T63.heap.size := Nat.le_trans Z0 Kc63.1
        have B63 : _ ≤ T63.heap.size := Nat.le_trans hB Kc63.1
        refine Go.mp st63 ?_
        show Go p e below (T63.setTop (mkF m 60 #[.val (.int p1), .val (.int p2), .val (.int p3), .val (.int p4), .val (.int p5), .val (.int p6), .val (.ref a1), .val (.int (3 : Int32)), .unset, .unset, .unset, .unset] [])) _
        refine g_iload X63 hx (hb hby at_60) rfl ?_
        refine g_iloadN X63 hx (hb hby at_62) rfl ?_
        obtain ⟨v64, T64, L64, X64, q64, st64⟩ := own_callS X63 hx hZ (y := (⟨"com/example/reorient/reorient/service/WindowPictureOfPinLaw", "turn", "(II)I"⟩ : MethodName)) (pc := 63) (Ls := #[.val (.int p1), .val (.int p2), .val (.int p3), .val (.int p4), .val (.int p5), .val (.int p6), .val (.ref a1), .val (.int (3 : Int32)), .unset, .unset, .unset, .unset]) (st := [(.int p3), (.int (3 : Int32))]) hown (hw _ (List.mem_of_getElem? (i := 48) rfl)) (hw _ (List.mem_of_getElem? (i := 49) rfl)) (hw _ (List.mem_of_getElem? (i := 13) rfl)) (hw _ (List.mem_of_getElem? (i := 50) rfl)) (by decide) (rm_turn l Z a0 hw (3 : Int32) p3 T63.heap n0 Z63 ) (rfl : T63.heap = T63.heap) pd_3 (hb hby at_63) (by rw [hml]; rfl) (argsL := [(.int (3 : Int32)), (.int p3)]) (rest := []) rfl rfl rfl (W := 0) (Nat.le_of_eq rfl) (by decide) (by decide) (by decide) (by decide)
        obtain ⟨rfl, M64, e64⟩ := q64
        have N64 := Fr.app N63 M64
        have r64 : (f_turn (3 : Int32) p3) = (-1 : Int32) := by rw [f_turn, if_neg ((by rw [q58]; decide) : ¬ ((3 : Int32) = (p3 &&& (3 : Int32))))]
        rw [r64] at st64
        refine Go.mp st64 ?_
        show Go p e below (T64.setTop (mkF m 66 #[.val (.int p1), .val (.int p2), .val (.int p3), .val (.int p4), .val (.int p5), .val (.int p6), .val (.ref a1), .val (.int (3 : Int32)), .unset, .unset, .unset, .unset] [(.int (-1 : Int32))])) _
        refine g_istore X64 hx #[.val (.int p1), .val (.int p2), .val (.int p3), .val (.int p4), .val (.int p5), .val (.int p6), .val (.ref a1), .val (.int (-1 : Int32)), .unset, .unset, .unset, .unset] (hb hby at_66) rfl ?_
        show Go p e below (T64.setTop (mkF m 68 #[.val (.int p1), .val (.int p2), .val (.int p3), .val (.int p4), .val (.int p5), .val (.int p6), .val (.ref a1), .val (.int (-1 : Int32)), .unset, .unset, .unset, .unset] [])) _
        exact seg_3 l Z a0 hw p1 p2 p3 p4 p5 p6 a1 (-1 : Int32) .null dz w_ROTATION_0 w_APPLICATION w_ROTATION_270 w_ROTATION_180 w_ROTATION_90 T63.heap n0 Z63 S_ROTATION_0_63 E_w_ROTATION_0_63 S_APPLICATION_63 E_w_APPLICATION_63 S_ROTATION_270_63 E_w_ROTATION_270_63 S_ROTATION_180_63 E_w_ROTATION_180_63 S_ROTATION_90_63 E_w_ROTATION_90_63 ne_ROTATION_0_ROTATION_270 ne_ROTATION_0_ROTATION_90 ne_ROTATION_0_ROTATION_180 ne_ROTATION_270_ROTATION_90 ne_ROTATION_270_ROTATION_180 ne_ROTATION_90_ROTATION_180 E_a1_63 Fk63_1 Fk63_0 g_a1 (Or.inl ⟨rfl, rfl⟩) hx hby hml hown hnm hret hlk hZ X64 e64 N64 hS B63
      · obtain ⟨v65, T65, L65, X65, q65, st65⟩ := own_callS X0 hx hZ (y := (⟨"com/example/reorient/reorient/service/WindowPictureOfPinLaw", "rot", "(I)Lcom/example/reorient/reorient/model/Rotation;"⟩ : MethodName)) (pc := 54) (Ls := #[.val (.int p1), .val (.int p2), .val (.int p3), .val (.int p4), .val (.int p5), .val (.int p6), .val (.ref a1), .val (.int (3 : Int32)), .unset, .unset, .unset, .unset]) (st := [(.int p3), (.ref a1)]) hown (hw _ (List.mem_of_getElem? (i := 11) rfl)) (hw _ (List.mem_of_getElem? (i := 12) rfl)) (hw _ (List.mem_of_getElem? (i := 13) rfl)) (hw _ (List.mem_of_getElem? (i := 14) rfl)) (by decide) (rm_rot l Z a0 hw p3 w_ROTATION_0 w_ROTATION_90 w_ROTATION_180 w_ROTATION_270 h0 n0 Z0 S_ROTATION_0 S_ROTATION_90 S_ROTATION_180 S_ROTATION_270) e0 pd_1 (hb hby at_54) (by rw [hml]; rfl) (argsL := [(.int p3)]) (rest := [(.ref a1)]) rfl rfl rfl (W := 1) (Nat.le_of_eq rfl) (by decide) (by decide) (by decide) (by decide)
        obtain ⟨rfl, M65, e65⟩ := q65
        have N65 := Fr.app N0 M65
        have r65 : (f_rot p3 w_ROTATION_0 w_ROTATION_90 w_ROTATION_180 w_ROTATION_270) = w_ROTATION_180 := by rw [f_rot, if_neg ((by rw [q58]; decide) : ¬ ((p3 &&& (3 : Int32)) = (0 : Int32))), if_neg ((by rw [q58]; decide) : ¬ ((p3 &&& (3 : Int32)) = (1 : Int32))), if_pos (q58 : (p3 &&& (3 : Int32)) = (2 : Int32))]
        rw [r65] at st65
        refine Go.mp st65 ?_
        show Go p e below (T65.setTop (mkF m 57 #[.val (.int p1), .val (.int p2), .val (.int p3), .val (.int p4), .val (.int p5), .val (.int p6), .val (.ref a1), .val (.int (3 : Int32)), .unset, .unset, .unset, .unset] [(.ref w_ROTATION_180), (.ref a1)])) _
        obtain ⟨v66, T66, L66, X66, q66, st66⟩ := own_callV X65 hx hZ (y := (⟨"com/example/reorient/reorient/service/Window", "turnTo", "(Lcom/example/reorient/reorient/model/Rotation;)V"⟩ : MethodName)) (pc := 57) (Ls := #[.val (.int p1), .val (.int p2), .val (.int p3), .val (.int p4), .val (.int p5), .val (.int p6), .val (.ref a1), .val (.int (3 : Int32)), .unset, .unset, .unset, .unset]) (st := [(.ref w_ROTATION_180), (.ref a1)]) hown (hw _ (List.mem_of_getElem? (i := 43) rfl)) (hw _ (List.mem_of_getElem? (i := 44) rfl)) (hw _ (List.mem_of_getElem? (i := 46) rfl)) (hw _ (List.mem_of_getElem? (i := 45) rfl)) (hw _ (List.mem_of_getElem? (i := 47) rfl)) (hw _ (List.mem_of_getElem? (i := 2) rfl)) (by decide) (rm_turnTo l Z a0 hw a1 w_ROTATION_180 (.ref w_ROTATION_270) dz h0 n0 Z0 rfl E_a1 F_a1_drawn F_a1_picture g_a1) e65 E_a1 pd_2 (hb hby at_57) (by rw [hml]; rfl) (argsL := [(.ref w_ROTATION_180)]) (rest := []) rfl rfl rfl (W := 0) (Nat.le_of_eq rfl) (by decide) (by decide) (by decide) (by decide)
        obtain ⟨rv66, M66, Kc66, Fk66_0, Fk66_1⟩ := q66
        have N66 := Fr.app N65 M66
        subst rv66
        have r66_1 : (f_turnTo_a1_picture a1 w_ROTATION_180 (.ref w_ROTATION_270) dz) = .null := by rw [f_turnTo_a1_picture, if_neg ((fun q => ne_ROTATION_270_ROTATION_180 (Value.ref.inj q)) : ¬ ((Value.ref w_ROTATION_270) = (Value.ref w_ROTATION_180)))]
        rw [r66_1] at Fk66_1
        have S_ROTATION_0_66 := own_sta_keep S_ROTATION_0 Kc66 (own_plain E_a1 (fun _ q => nomatch q))
        have E_w_ROTATION_0_66 := Exa.keep E_w_ROTATION_0 Kc66
        have S_APPLICATION_66 := own_sta_keep S_APPLICATION Kc66 (own_plain E_a1 (fun _ q => nomatch q))
        have E_w_APPLICATION_66 := Exa.keep E_w_APPLICATION Kc66
        have S_ROTATION_270_66 := own_sta_keep S_ROTATION_270 Kc66 (own_plain E_a1 (fun _ q => nomatch q))
        have E_w_ROTATION_270_66 := Exa.keep E_w_ROTATION_270 Kc66
        have S_ROTATION_180_66 := own_sta_keep S_ROTATION_180 Kc66 (own_plain E_a1 (fun _ q => nomatch q))
        have E_w_ROTATION_180_66 := Exa.keep E_w_ROTATION_180 Kc66
        have S_ROTATION_90_66 := own_sta_keep S_ROTATION_90 Kc66 (own_plain E_a1 (fun _ q => nomatch q))
        have E_w_ROTATION_90_66 := Exa.keep E_w_ROTATION_90 Kc66
        have E_a1_66 := Exa.keep E_a1 Kc66
        have Z66 : n0 ≤ T66.heap.size := Nat.le_trans Z0 Kc66.1
        have B66 : _ ≤ T66.heap.size := Nat.le_trans hB Kc66.1
        refine Go.mp st66 ?_
        show Go p e below (T66.setTop (mkF m 60 #[.val (.int p1), .val (.int p2), .val (.int p3), .val (.int p4), .val (.int p5), .val (.int p6), .val (.ref a1), .val (.int (3 : Int32)), .unset, .unset, .unset, .unset] [])) _
        refine g_iload X66 hx (hb hby at_60) rfl ?_
        refine g_iloadN X66 hx (hb hby at_62) rfl ?_
        obtain ⟨v67, T67, L67, X67, q67, st67⟩ := own_callS X66 hx hZ (y := (⟨"com/example/reorient/reorient/service/WindowPictureOfPinLaw", "turn", "(II)I"⟩ : MethodName)) (pc := 63) (Ls := #[.val (.int p1), .val (.int p2), .val (.int p3), .val (.int p4), .val (.int p5), .val (.int p6), .val (.ref a1), .val (.int (3 : Int32)), .unset, .unset, .unset, .unset]) (st := [(.int p3), (.int (3 : Int32))]) hown (hw _ (List.mem_of_getElem? (i := 48) rfl)) (hw _ (List.mem_of_getElem? (i := 49) rfl)) (hw _ (List.mem_of_getElem? (i := 13) rfl)) (hw _ (List.mem_of_getElem? (i := 50) rfl)) (by decide) (rm_turn l Z a0 hw (3 : Int32) p3 T66.heap n0 Z66 ) (rfl : T66.heap = T66.heap) pd_3 (hb hby at_63) (by rw [hml]; rfl) (argsL := [(.int (3 : Int32)), (.int p3)]) (rest := []) rfl rfl rfl (W := 0) (Nat.le_of_eq rfl) (by decide) (by decide) (by decide) (by decide)
        obtain ⟨rfl, M67, e67⟩ := q67
        have N67 := Fr.app N66 M67
        have r67 : (f_turn (3 : Int32) p3) = (-1 : Int32) := by rw [f_turn, if_neg ((by rw [q58]; decide) : ¬ ((3 : Int32) = (p3 &&& (3 : Int32))))]
        rw [r67] at st67
        refine Go.mp st67 ?_
        show Go p e below (T67.setTop (mkF m 66 #[.val (.int p1), .val (.int p2), .val (.int p3), .val (.int p4), .val (.int p5), .val (.int p6), .val (.ref a1), .val (.int (3 : Int32)), .unset, .unset, .unset, .unset] [(.int (-1 : Int32))])) _
        refine g_istore X67 hx #[.val (.int p1), .val (.int p2), .val (.int p3), .val (.int p4), .val (.int p5), .val (.int p6), .val (.ref a1), .val (.int (-1 : Int32)), .unset, .unset, .unset, .unset] (hb hby at_66) rfl ?_
        show Go p e below (T67.setTop (mkF m 68 #[.val (.int p1), .val (.int p2), .val (.int p3), .val (.int p4), .val (.int p5), .val (.int p6), .val (.ref a1), .val (.int (-1 : Int32)), .unset, .unset, .unset, .unset] [])) _
        exact seg_3 l Z a0 hw p1 p2 p3 p4 p5 p6 a1 (-1 : Int32) .null dz w_ROTATION_0 w_APPLICATION w_ROTATION_270 w_ROTATION_180 w_ROTATION_90 T66.heap n0 Z66 S_ROTATION_0_66 E_w_ROTATION_0_66 S_APPLICATION_66 E_w_APPLICATION_66 S_ROTATION_270_66 E_w_ROTATION_270_66 S_ROTATION_180_66 E_w_ROTATION_180_66 S_ROTATION_90_66 E_w_ROTATION_90_66 ne_ROTATION_0_ROTATION_270 ne_ROTATION_0_ROTATION_90 ne_ROTATION_0_ROTATION_180 ne_ROTATION_270_ROTATION_90 ne_ROTATION_270_ROTATION_180 ne_ROTATION_90_ROTATION_180 E_a1_66 Fk66_1 Fk66_0 g_a1 (Or.inl ⟨rfl, rfl⟩) hx hby hml hown hnm hret hlk hZ X67 e67 N67 hS B66
      · obtain ⟨v68, T68, L68, X68, q68, st68⟩ := own_callS X0 hx hZ (y := (⟨"com/example/reorient/reorient/service/WindowPictureOfPinLaw", "rot", "(I)Lcom/example/reorient/reorient/model/Rotation;"⟩ : MethodName)) (pc := 54) (Ls := #[.val (.int p1), .val (.int p2), .val (.int p3), .val (.int p4), .val (.int p5), .val (.int p6), .val (.ref a1), .val (.int (3 : Int32)), .unset, .unset, .unset, .unset]) (st := [(.int p3), (.ref a1)]) hown (hw _ (List.mem_of_getElem? (i := 11) rfl)) (hw _ (List.mem_of_getElem? (i := 12) rfl)) (hw _ (List.mem_of_getElem? (i := 13) rfl)) (hw _ (List.mem_of_getElem? (i := 14) rfl)) (by decide) (rm_rot l Z a0 hw p3 w_ROTATION_0 w_ROTATION_90 w_ROTATION_180 w_ROTATION_270 h0 n0 Z0 S_ROTATION_0 S_ROTATION_90 S_ROTATION_180 S_ROTATION_270) e0 pd_1 (hb hby at_54) (by rw [hml]; rfl) (argsL := [(.int p3)]) (rest := [(.ref a1)]) rfl rfl rfl (W := 1) (Nat.le_of_eq rfl) (by decide) (by decide) (by decide) (by decide)
        obtain ⟨rfl, M68, e68⟩ := q68
        have N68 := Fr.app N0 M68
        have r68 : (f_rot p3 w_ROTATION_0 w_ROTATION_90 w_ROTATION_180 w_ROTATION_270) = w_ROTATION_270 := by rw [f_rot, if_neg ((by rw [q58]; decide) : ¬ ((p3 &&& (3 : Int32)) = (0 : Int32))), if_neg ((by rw [q58]; decide) : ¬ ((p3 &&& (3 : Int32)) = (1 : Int32))), if_neg ((by rw [q58]; decide) : ¬ ((p3 &&& (3 : Int32)) = (2 : Int32)))]
        rw [r68] at st68
        refine Go.mp st68 ?_
        show Go p e below (T68.setTop (mkF m 57 #[.val (.int p1), .val (.int p2), .val (.int p3), .val (.int p4), .val (.int p5), .val (.int p6), .val (.ref a1), .val (.int (3 : Int32)), .unset, .unset, .unset, .unset] [(.ref w_ROTATION_270), (.ref a1)])) _
        obtain ⟨v69, T69, L69, X69, q69, st69⟩ := own_callV X68 hx hZ (y := (⟨"com/example/reorient/reorient/service/Window", "turnTo", "(Lcom/example/reorient/reorient/model/Rotation;)V"⟩ : MethodName)) (pc := 57) (Ls := #[.val (.int p1), .val (.int p2), .val (.int p3), .val (.int p4), .val (.int p5), .val (.int p6), .val (.ref a1), .val (.int (3 : Int32)), .unset, .unset, .unset, .unset]) (st := [(.ref w_ROTATION_270), (.ref a1)]) hown (hw _ (List.mem_of_getElem? (i := 43) rfl)) (hw _ (List.mem_of_getElem? (i := 44) rfl)) (hw _ (List.mem_of_getElem? (i := 46) rfl)) (hw _ (List.mem_of_getElem? (i := 45) rfl)) (hw _ (List.mem_of_getElem? (i := 47) rfl)) (hw _ (List.mem_of_getElem? (i := 2) rfl)) (by decide) (rm_turnTo l Z a0 hw a1 w_ROTATION_270 (.ref w_ROTATION_270) dz h0 n0 Z0 rfl E_a1 F_a1_drawn F_a1_picture g_a1) e68 E_a1 pd_2 (hb hby at_57) (by rw [hml]; rfl) (argsL := [(.ref w_ROTATION_270)]) (rest := []) rfl rfl rfl (W := 0) (Nat.le_of_eq rfl) (by decide) (by decide) (by decide) (by decide)
        obtain ⟨rv69, M69, Kc69, Fk69_0, Fk69_1⟩ := q69
        have N69 := Fr.app N68 M69
        subst rv69
        have r69_1 : (f_turnTo_a1_picture a1 w_ROTATION_270 (.ref w_ROTATION_270) dz) = (.ref w_ROTATION_270) := by rw [f_turnTo_a1_picture, if_pos (rfl : (Value.ref w_ROTATION_270) = (Value.ref w_ROTATION_270))]
        rw [r69_1] at Fk69_1
        have S_ROTATION_0_69 := own_sta_keep S_ROTATION_0 Kc69 (own_plain E_a1 (fun _ q => nomatch q))
        have E_w_ROTATION_0_69 := Exa.keep E_w_ROTATION_0 Kc69
        have S_APPLICATION_69 := own_sta_keep S_APPLICATION Kc69 (own_plain E_a1 (fun _ q => nomatch q))
        have E_w_APPLICATION_69 := Exa.keep E_w_APPLICATION Kc69
        have S_ROTATION_270_69 := own_sta_keep S_ROTATION_270 Kc69 (own_plain E_a1 (fun _ q => nomatch q))
        have E_w_ROTATION_270_69 := Exa.keep E_w_ROTATION_270 Kc69
        have S_ROTATION_180_69 := own_sta_keep S_ROTATION_180 Kc69 (own_plain E_a1 (fun _ q => nomatch q))
        have E_w_ROTATION_180_69 := Exa.keep E_w_ROTATION_180 Kc69
        have S_ROTATION_90_69 := own_sta_keep S_ROTATION_90 Kc69 (own_plain E_a1 (fun _ q => nomatch q))
        have E_w_ROTATION_90_69 := Exa.keep E_w_ROTATION_90 Kc69
        have E_a1_69 := Exa.keep E_a1 Kc69
        have Z69 : n0 ≤ T69.heap.size := Nat.le_trans Z0 Kc69.1
        have B69 : _ ≤ T69.heap.size := Nat.le_trans hB Kc69.1
        refine Go.mp st69 ?_
        show Go p e below (T69.setTop (mkF m 60 #[.val (.int p1), .val (.int p2), .val (.int p3), .val (.int p4), .val (.int p5), .val (.int p6), .val (.ref a1), .val (.int (3 : Int32)), .unset, .unset, .unset, .unset] [])) _
        refine g_iload X69 hx (hb hby at_60) rfl ?_
        refine g_iloadN X69 hx (hb hby at_62) rfl ?_
        obtain ⟨v70, T70, L70, X70, q70, st70⟩ := own_callS X69 hx hZ (y := (⟨"com/example/reorient/reorient/service/WindowPictureOfPinLaw", "turn", "(II)I"⟩ : MethodName)) (pc := 63) (Ls := #[.val (.int p1), .val (.int p2), .val (.int p3), .val (.int p4), .val (.int p5), .val (.int p6), .val (.ref a1), .val (.int (3 : Int32)), .unset, .unset, .unset, .unset]) (st := [(.int p3), (.int (3 : Int32))]) hown (hw _ (List.mem_of_getElem? (i := 48) rfl)) (hw _ (List.mem_of_getElem? (i := 49) rfl)) (hw _ (List.mem_of_getElem? (i := 13) rfl)) (hw _ (List.mem_of_getElem? (i := 50) rfl)) (by decide) (rm_turn l Z a0 hw (3 : Int32) p3 T69.heap n0 Z69 ) (rfl : T69.heap = T69.heap) pd_3 (hb hby at_63) (by rw [hml]; rfl) (argsL := [(.int (3 : Int32)), (.int p3)]) (rest := []) rfl rfl rfl (W := 0) (Nat.le_of_eq rfl) (by decide) (by decide) (by decide) (by decide)
        obtain ⟨rfl, M70, e70⟩ := q70
        have N70 := Fr.app N69 M70
        have r70 : (f_turn (3 : Int32) p3) = (3 : Int32) := by rw [f_turn, if_pos (q58.symm : (3 : Int32) = (p3 &&& (3 : Int32)))]
        rw [r70] at st70
        refine Go.mp st70 ?_
        show Go p e below (T70.setTop (mkF m 66 #[.val (.int p1), .val (.int p2), .val (.int p3), .val (.int p4), .val (.int p5), .val (.int p6), .val (.ref a1), .val (.int (3 : Int32)), .unset, .unset, .unset, .unset] [(.int (3 : Int32))])) _
        refine g_istore X70 hx #[.val (.int p1), .val (.int p2), .val (.int p3), .val (.int p4), .val (.int p5), .val (.int p6), .val (.ref a1), .val (.int (3 : Int32)), .unset, .unset, .unset, .unset] (hb hby at_66) rfl ?_
        show Go p e below (T70.setTop (mkF m 68 #[.val (.int p1), .val (.int p2), .val (.int p3), .val (.int p4), .val (.int p5), .val (.int p6), .val (.ref a1), .val (.int (3 : Int32)), .unset, .unset, .unset, .unset] [])) _
        exact seg_3 l Z a0 hw p1 p2 p3 p4 p5 p6 a1 (3 : Int32) (.ref w_ROTATION_270) dz w_ROTATION_0 w_APPLICATION w_ROTATION_270 w_ROTATION_180 w_ROTATION_90 T69.heap n0 Z69 S_ROTATION_0_69 E_w_ROTATION_0_69 S_APPLICATION_69 E_w_APPLICATION_69 S_ROTATION_270_69 E_w_ROTATION_270_69 S_ROTATION_180_69 E_w_ROTATION_180_69 S_ROTATION_90_69 E_w_ROTATION_90_69 ne_ROTATION_0_ROTATION_270 ne_ROTATION_0_ROTATION_90 ne_ROTATION_0_ROTATION_180 ne_ROTATION_270_ROTATION_90 ne_ROTATION_270_ROTATION_180 ne_ROTATION_90_ROTATION_180 E_a1_69 Fk69_1 Fk69_0 g_a1 (Or.inr (Or.inr (Or.inr (Or.inr (⟨rfl, rfl⟩))))) hx hby hml hown hnm hret hlk hZ X70 e70 N70 hS B69
set_option maxRecDepth 65536 in
set_option maxHeartbeats 40000000 in
theorem seg_1 (l : Launch) (Z : State) (a0 : Array Value) (hw : ∀ d ∈ tables_1, d.before a0 Z = true) (p1 : Int32) (p2 : Int32) (p3 : Int32) (p4 : Int32) (p5 : Int32) (p6 : Int32) (a1 : Addr) (pp : Int32) (pv : Value) (dz : Int32) (w_ROTATION_0 : Addr) (w_APPLICATION : Addr) (w_ROTATION_270 : Addr) (w_ROTATION_180 : Addr) (w_ROTATION_90 : Addr) (h0 : Heap) (n0 : Nat) (Z0 : n0 ≤ h0.size) (S_ROTATION_0 : Sta Z h0 "com/example/reorient/reorient/model/Rotation" "ROTATION_0" "Lcom/example/reorient/reorient/model/Rotation;" (.ref w_ROTATION_0)) (E_w_ROTATION_0 : Exa Z h0 w_ROTATION_0 "com/example/reorient/reorient/model/Rotation") (S_APPLICATION : Sta Z h0 "com/example/reorient/reorient/model/WindowType" "APPLICATION" "Lcom/example/reorient/reorient/model/WindowType;" (.ref w_APPLICATION)) (E_w_APPLICATION : Exa Z h0 w_APPLICATION "com/example/reorient/reorient/model/WindowType") (S_ROTATION_270 : Sta Z h0 "com/example/reorient/reorient/model/Rotation" "ROTATION_270" "Lcom/example/reorient/reorient/model/Rotation;" (.ref w_ROTATION_270)) (E_w_ROTATION_270 : Exa Z h0 w_ROTATION_270 "com/example/reorient/reorient/model/Rotation") (S_ROTATION_180 : Sta Z h0 "com/example/reorient/reorient/model/Rotation" "ROTATION_180" "Lcom/example/reorient/reorient/model/Rotation;" (.ref w_ROTATION_180)) (E_w_ROTATION_180 : Exa Z h0 w_ROTATION_180 "com/example/reorient/reorient/model/Rotation") (S_ROTATION_90 : Sta Z h0 "com/example/reorient/reorient/model/Rotation" "ROTATION_90" "Lcom/example/reorient/reorient/model/Rotation;" (.ref w_ROTATION_90)) (E_w_ROTATION_90 : Exa Z h0 w_ROTATION_90 "com/example/reorient/reorient/model/Rotation") (ne_ROTATION_0_ROTATION_270 : ¬ (w_ROTATION_0 = w_ROTATION_270)) (ne_ROTATION_0_ROTATION_90 : ¬ (w_ROTATION_0 = w_ROTATION_90)) (ne_ROTATION_0_ROTATION_180 : ¬ (w_ROTATION_0 = w_ROTATION_180)) (ne_ROTATION_270_ROTATION_90 : ¬ (w_ROTATION_270 = w_ROTATION_90)) (ne_ROTATION_270_ROTATION_180 : ¬ (w_ROTATION_270 = w_ROTATION_180)) (ne_ROTATION_90_ROTATION_180 : ¬ (w_ROTATION_90 = w_ROTATION_180)) (E_a1 : Exa Z h0 a1 "com/example/reorient/reorient/service/Window") (F_a1_picture : Fld Z h0 a1 "com/example/reorient/reorient/service/Window" "picture" "Lcom/example/reorient/reorient/model/Rotation;" pv) (F_a1_drawn : Fld Z h0 a1 "com/example/reorient/reorient/service/Window" "drawn" "Z" (.int dz)) (g_a1 : n0 ≤ a1) (hr : own_P w_ROTATION_0 w_ROTATION_90 w_ROTATION_180 w_ROTATION_270 pp pv) {vm1 : Vm} {k1 : Nat} {p : Program} {e : Env} {s : State} {m : MethodId} {below : List Frame} {meth : Method} {c : Code} {args : Array Value} {s₁ : State} {lo : List Loc} (hx : p.tables.exec = Jvm.exec) (hby : c.code = code) (hml : c.maxLocals = maxLocals) (hown : (s.setVm vm1).vm.findClass "com/example/reorient/reorient/service/WindowPictureOfPinLaw" = some m.cls) (hnm : meth.name = "law") (hret : meth.sig.returnType = ret) (hlk : meth.locks = false) (hZ : Z.Warmed39 (s.setVm vm1).vm) (X0 : Stand p l e room_1 (s.setVm vm1) m args below meth c s₁ lo 3 15) (e0 : s₁.heap = h0) (N0 : Fr n0 lo) (hS : s.Since vm1 k1) (hB : k1 ≤ h0.size) :
    Go p e below (s₁.setTop (mkF m 20 #[.val (.int p1), .val (.int p2), .val (.int p3), .val (.int p4), .val (.int p5), .val (.int p6), .val (.ref a1), .val (.int pp), .unset, .unset, .unset, .unset] [])) (FinW s room_1.cells room_1.slots (fun v h L => v = some (.int 1) ∧ Fr n0 L)) := by
  show Go p e below (s₁.setTop (mkF m 20 #[.val (.int p1), .val (.int p2), .val (.int p3), .val (.int p4), .val (.int p5), .val (.int p6), .val (.ref a1), .val (.int pp), .unset, .unset, .unset, .unset] [])) _
  rcases hr with ⟨rfl, rfl⟩ | ⟨rfl, rfl⟩ | ⟨rfl, rfl⟩ | ⟨rfl, rfl⟩ | ⟨rfl, rfl⟩
  · refine g_iload X0 hx (hb hby at_20) rfl ?_
    refine g_iconst X0 hx (1 : Int32) (hb hby at_22) (by decide) ?_
    refine g_iand X0 hx (hb hby at_23) ?_
    by_cases c24_1 : (p6 &&& (1 : Int32)) = (0 : Int32)
    · refine g_ifYes X0 hx 44 (hb hby at_24) ((if0 _ _).trans (teq c24_1).1) (by decide) (by decide) ?_
      show Go p e below (s₁.setTop (mkF m 44 #[.val (.int p1), .val (.int p2), .val (.int p3), .val (.int p4), .val (.int p5), .val (.int p6), .val (.ref a1), .val (.int (-1 : Int32)), .unset, .unset, .unset, .unset] [])) _
      exact seg_2 l Z a0 hw p1 p2 p3 p4 p5 p6 a1 (-1 : Int32) .null dz w_ROTATION_0 w_APPLICATION w_ROTATION_270 w_ROTATION_180 w_ROTATION_90 h0 n0 Z0 S_ROTATION_0 E_w_ROTATION_0 S_APPLICATION E_w_APPLICATION S_ROTATION_270 E_w_ROTATION_270 S_ROTATION_180 E_w_ROTATION_180 S_ROTATION_90 E_w_ROTATION_90 ne_ROTATION_0_ROTATION_270 ne_ROTATION_0_ROTATION_90 ne_ROTATION_0_ROTATION_180 ne_ROTATION_270_ROTATION_90 ne_ROTATION_270_ROTATION_180 ne_ROTATION_90_ROTATION_180 E_a1 F_a1_picture F_a1_drawn g_a1 (Or.inl ⟨rfl, rfl⟩) hx hby hml hown hnm hret hlk hZ X0 e0 N0 hS hB
    · refine g_ifNo X0 hx (hb hby at_24) ((if0 _ _).trans (feq c24_1).1) ?_
      refine g_aload X0 hx (hb hby at_27) rfl rfl ?_
      refine g_iloadN X0 hx (hb hby at_29) rfl ?_
      show Go p e below (s₁.setTop (mkF m 30 #[.val (.int p1), .val (.int p2), .val (.int p3), .val (.int p4), .val (.int p5), .val (.int p6), .val (.ref a1), .val (.int (-1 : Int32)), .unset, .unset, .unset, .unset] [(.int p2), (.ref a1)])) _
      rcases own_and3 p2 with q2 | q2 | q2 | q2
      · obtain ⟨v3, T3, L3, X3, q3, st3⟩ := own_callS X0 hx hZ (y := (⟨"com/example/reorient/reorient/service/WindowPictureOfPinLaw", "rot", "(I)Lcom/example/reorient/reorient/model/Rotation;"⟩ : MethodName)) (pc := 30) (Ls := #[.val (.int p1), .val (.int p2), .val (.int p3), .val (.int p4), .val (.int p5), .val (.int p6), .val (.ref a1), .val (.int (-1 : Int32)), .unset, .unset, .unset, .unset]) (st := [(.int p2), (.ref a1)]) hown (hw _ (List.mem_of_getElem? (i := 11) rfl)) (hw _ (List.mem_of_getElem? (i := 12) rfl)) (hw _ (List.mem_of_getElem? (i := 13) rfl)) (hw _ (List.mem_of_getElem? (i := 14) rfl)) (by decide) (rm_rot l Z a0 hw p2 w_ROTATION_0 w_ROTATION_90 w_ROTATION_180 w_ROTATION_270 h0 n0 Z0 S_ROTATION_0 S_ROTATION_90 S_ROTATION_180 S_ROTATION_270) e0 pd_1 (hb hby at_30) (by rw [hml]; rfl) (argsL := [(.int p2)]) (rest := [(.ref a1)]) rfl rfl rfl (W := 1) (Nat.le_of_eq rfl) (by decide) (by decide) (by decide) (by decide)
        obtain ⟨rfl, M3, e3⟩ := q3
        have N3 := Fr.app N0 M3
        have r3 : (f_rot p2 w_ROTATION_0 w_ROTATION_90 w_ROTATION_180 w_ROTATION_270) = w_ROTATION_0 := by rw [f_rot, if_pos (q2 : (p2 &&& (3 : Int32)) = (0 : Int32))]
        rw [r3] at st3
        refine Go.mp st3 ?_
        show Go p e below (T3.setTop (mkF m 33 #[.val (.int p1), .val (.int p2), .val (.int p3), .val (.int p4), .val (.int p5), .val (.int p6), .val (.ref a1), .val (.int (-1 : Int32)), .unset, .unset, .unset, .unset] [(.ref w_ROTATION_0), (.ref a1)])) _
        obtain ⟨v4, T4, L4, X4, q4, st4⟩ := own_callV X3 hx hZ (y := (⟨"com/example/reorient/reorient/service/Window", "turnTo", "(Lcom/example/reorient/reorient/model/Rotation;)V"⟩ : MethodName)) (pc := 33) (Ls := #[.val (.int p1), .val (.int p2), .val (.int p3), .val (.int p4), .val (.int p5), .val (.int p6), .val (.ref a1), .val (.int (-1 : Int32)), .unset, .unset, .unset, .unset]) (st := [(.ref w_ROTATION_0), (.ref a1)]) hown (hw _ (List.mem_of_getElem? (i := 43) rfl)) (hw _ (List.mem_of_getElem? (i := 44) rfl)) (hw _ (List.mem_of_getElem? (i := 46) rfl)) (hw _ (List.mem_of_getElem? (i := 45) rfl)) (hw _ (List.mem_of_getElem? (i := 47) rfl)) (hw _ (List.mem_of_getElem? (i := 2) rfl)) (by decide) (rm_turnTo l Z a0 hw a1 w_ROTATION_0 .null dz h0 n0 Z0 rfl E_a1 F_a1_drawn F_a1_picture g_a1) e3 E_a1 pd_2 (hb hby at_33) (by rw [hml]; rfl) (argsL := [(.ref w_ROTATION_0)]) (rest := []) rfl rfl rfl (W := 0) (Nat.le_of_eq rfl) (by decide) (by decide) (by decide) (by decide)
        obtain ⟨rv4, M4, Kc4, Fk4_0, Fk4_1⟩ := q4
        have N4 := Fr.app N3 M4
        subst rv4
        have r4_1 : (f_turnTo_a1_picture a1 w_ROTATION_0 .null dz) = .null := by rw [f_turnTo_a1_picture, if_neg (nofun : ¬ (Value.null = (Value.ref w_ROTATION_0)))]
        rw [r4_1] at Fk4_1
        have S_ROTATION_0_4 := own_sta_keep S_ROTATION_0 Kc4 (own_plain E_a1 (fun _ q => nomatch q))
        have E_w_ROTATION_0_4 := Exa.keep E_w_ROTATION_0 Kc4
        have S_APPLICATION_4 := own_sta_keep S_APPLICATION Kc4 (own_plain E_a1 (fun _ q => nomatch q))
        have E_w_APPLICATION_4 := Exa.keep E_w_APPLICATION Kc4
        have S_ROTATION_270_4 := own_sta_keep S_ROTATION_270 Kc4 (own_plain E_a1 (fun _ q => nomatch q))
        have E_w_ROTATION_270_4 := Exa.keep E_w_ROTATION_270 Kc4
        have S_ROTATION_180_4 := own_sta_keep S_ROTATION_180 Kc4 (own_plain E_a1 (fun _ q => nomatch q))
        have E_w_ROTATION_180_4 := Exa.keep E_w_ROTATION_180 Kc4
        have S_ROTATION_90_4 := own_sta_keep S_ROTATION_90 Kc4 (own_plain E_a1 (fun _ q => nomatch q))
        have E_w_ROTATION_90_4 := Exa.keep E_w_ROTATION_90 Kc4
        have E_a1_4 := Exa.keep E_a1 Kc4
        have Z4 : n0 ≤ T4.heap.size := Nat.le_trans Z0 Kc4.1
        have B4 : _ ≤ T4.heap.size := Nat.le_trans hB Kc4.1
        refine Go.mp st4 ?_
        show Go p e below (T4.setTop (mkF m 36 #[.val (.int p1), .val (.int p2), .val (.int p3), .val (.int p4), .val (.int p5), .val (.int p6), .val (.ref a1), .val (.int (-1 : Int32)), .unset, .unset, .unset, .unset] [])) _
        refine g_iload X4 hx (hb hby at_36) rfl ?_
        refine g_iloadN X4 hx (hb hby at_38) rfl ?_
        obtain ⟨v5, T5, L5, X5, q5, st5⟩ := own_callS X4 hx hZ (y := (⟨"com/example/reorient/reorient/service/WindowPictureOfPinLaw", "turn", "(II)I"⟩ : MethodName)) (pc := 39) (Ls := #[.val (.int p1), .val (.int p2), .val (.int p3), .val (.int p4), .val (.int p5), .val (.int p6), .val (.ref a1), .val (.int (-1 : Int32)), .unset, .unset, .unset, .unset]) (st := [(.int p2), (.int (-1 : Int32))]) hown (hw _ (List.mem_of_getElem? (i := 48) rfl)) (hw _ (List.mem_of_getElem? (i := 49) rfl)) (hw _ (List.mem_of_getElem? (i := 13) rfl)) (hw _ (List.mem_of_getElem? (i := 50) rfl)) (by decide) (rm_turn l Z a0 hw (-1 : Int32) p2 T4.heap n0 Z4 ) (rfl : T4.heap = T4.heap) pd_3 (hb hby at_39) (by rw [hml]; rfl) (argsL := [(.int (-1 : Int32)), (.int p2)]) (rest := []) rfl rfl rfl (W := 0) (Nat.le_of_eq rfl) (by decide) (by decide) (by decide) (by decide)
        obtain ⟨rfl, M5, e5⟩ := q5
        have N5 := Fr.app N4 M5
        have r5 : (f_turn (-1 : Int32) p2) = (-1 : Int32) := by rw [f_turn, if_neg ((by rw [q2]; decide) : ¬ ((-1 : Int32) = (p2 &&& (3 : Int32))))]
        rw [r5] at st5
        refine Go.mp st5 ?_
        show Go p e below (T5.setTop (mkF m 42 #[.val (.int p1), .val (.int p2), .val (.int p3), .val (.int p4), .val (.int p5), .val (.int p6), .val (.ref a1), .val (.int (-1 : Int32)), .unset, .unset, .unset, .unset] [(.int (-1 : Int32))])) _
        refine g_istore X5 hx #[.val (.int p1), .val (.int p2), .val (.int p3), .val (.int p4), .val (.int p5), .val (.int p6), .val (.ref a1), .val (.int (-1 : Int32)), .unset, .unset, .unset, .unset] (hb hby at_42) rfl ?_
        show Go p e below (T5.setTop (mkF m 44 #[.val (.int p1), .val (.int p2), .val (.int p3), .val (.int p4), .val (.int p5), .val (.int p6), .val (.ref a1), .val (.int (-1 : Int32)), .unset, .unset, .unset, .unset] [])) _
        exact seg_2 l Z a0 hw p1 p2 p3 p4 p5 p6 a1 (-1 : Int32) .null dz w_ROTATION_0 w_APPLICATION w_ROTATION_270 w_ROTATION_180 w_ROTATION_90 T4.heap n0 Z4 S_ROTATION_0_4 E_w_ROTATION_0_4 S_APPLICATION_4 E_w_APPLICATION_4 S_ROTATION_270_4 E_w_ROTATION_270_4 S_ROTATION_180_4 E_w_ROTATION_180_4 S_ROTATION_90_4 E_w_ROTATION_90_4 ne_ROTATION_0_ROTATION_270 ne_ROTATION_0_ROTATION_90 ne_ROTATION_0_ROTATION_180 ne_ROTATION_270_ROTATION_90 ne_ROTATION_270_ROTATION_180 ne_ROTATION_90_ROTATION_180 E_a1_4 Fk4_1 Fk4_0 g_a1 (Or.inl ⟨rfl, rfl⟩) hx hby hml hown hnm hret hlk hZ X5 e5 N5 hS B4
      · obtain ⟨v6, T6, L6, X6, q6, st6⟩ := own_callS X0 hx hZ (y := (⟨"com/example/reorient/reorient/service/WindowPictureOfPinLaw", "rot", "(I)Lcom/example/reorient/reorient/model/Rotation;"⟩ : MethodName)) (pc := 30) (Ls := #[.val (.int p1), .val (.int p2), .val (.int p3), .val (.int p4), .val (.int p5), .val (.int p6), .val (.ref a1), .val (.int (-1 : Int32)), .unset, .unset, .unset, .unset]) (st := [(.int p2), (.ref a1)]) hown (hw _ (List.mem_of_getElem? (i := 11) rfl)) (hw _ (List.mem_of_getElem? (i := 12) rfl)) (hw _ (List.mem_of_getElem? (i := 13) rfl)) (hw _ (List.mem_of_getElem? (i := 14) rfl)) (by decide) (rm_rot l Z a0 hw p2 w_ROTATION_0 w_ROTATION_90 w_ROTATION_180 w_ROTATION_270 h0 n0 Z0 S_ROTATION_0 S_ROTATION_90 S_ROTATION_180 S_ROTATION_270) e0 pd_1 (hb hby at_30) (by rw [hml]; rfl) (argsL := [(.int p2)]) (rest := [(.ref a1)]) rfl rfl rfl (W := 1) (Nat.le_of_eq rfl) (by decide) (by decide) (by decide) (by decide)
        obtain ⟨rfl, M6, e6⟩ := q6
        have N6 := Fr.app N0 M6
        have r6 : (f_rot p2 w_ROTATION_0 w_ROTATION_90 w_ROTATION_180 w_ROTATION_270) = w_ROTATION_90 := by rw [f_rot, if_neg ((by rw [q2]; decide) : ¬ ((p2 &&& (3 : Int32)) = (0 : Int32))), if_pos (q2 : (p2 &&& (3 : Int32)) = (1 : Int32))]
        rw [r6] at st6
        refine Go.mp st6 ?_
        show Go p e below (T6.setTop (mkF m 33 #[.val (.int p1), .val (.int p2), .val (.int p3), .val (.int p4), .val (.int p5), .val (.int p6), .val (.ref a1), .val (.int (-1 : Int32)), .unset, .unset, .unset, .unset] [(.ref w_ROTATION_90), (.ref a1)])) _
        obtain ⟨v7, T7, L7, X7, q7, st7⟩ := own_callV X6 hx hZ (y := (⟨"com/example/reorient/reorient/service/Window", "turnTo", "(Lcom/example/reorient/reorient/model/Rotation;)V"⟩ : MethodName)) (pc := 33) (Ls := #[.val (.int p1), .val (.int p2), .val (.int p3), .val (.int p4), .val (.int p5), .val (.int p6), .val (.ref a1), .val (.int (-1 : Int32)), .unset, .unset, .unset, .unset]) (st := [(.ref w_ROTATION_90), (.ref a1)]) hown (hw _ (List.mem_of_getElem? (i := 43) rfl)) (hw _ (List.mem_of_getElem? (i := 44) rfl)) (hw _ (List.mem_of_getElem? (i := 46) rfl)) (hw _ (List.mem_of_getElem? (i := 45) rfl)) (hw _ (List.mem_of_getElem? (i := 47) rfl)) (hw _ (List.mem_of_getElem? (i := 2) rfl)) (by decide) (rm_turnTo l Z a0 hw a1 w_ROTATION_90 .null dz h0 n0 Z0 rfl E_a1 F_a1_drawn F_a1_picture g_a1) e6 E_a1 pd_2 (hb hby at_33) (by rw [hml]; rfl) (argsL := [(.ref w_ROTATION_90)]) (rest := []) rfl rfl rfl (W := 0) (Nat.le_of_eq rfl) (by decide) (by decide) (by decide) (by decide)
        obtain ⟨rv7, M7, Kc7, Fk7_0, Fk7_1⟩ := q7
        have N7 := Fr.app N6 M7
        subst rv7
        have r7_1 : (f_turnTo_a1_picture a1 w_ROTATION_90 .null dz) = .null := by rw [f_turnTo_a1_picture, if_neg (nofun : ¬ (Value.null = (Value.ref w_ROTATION_90)))]
        rw [r7_1] at Fk7_1
        have S_ROTATION_0_7 := own_sta_keep S_ROTATION_0 Kc7 (own_plain E_a1 (fun _ q => nomatch q))
        have E_w_ROTATION_0_7 := Exa.keep E_w_ROTATION_0 Kc7
        have S_APPLICATION_7 := own_sta_keep S_APPLICATION Kc7 (own_plain E_a1 (fun _ q => nomatch q))
        have E_w_APPLICATION_7 := Exa.keep E_w_APPLICATION Kc7
        have S_ROTATION_270_7 := own_sta_keep S_ROTATION_270 Kc7 (own_plain E_a1 (fun _ q => nomatch q))
        have E_w_ROTATION_270_7 := Exa.keep E_w_ROTATION_270 Kc7
        have S_ROTATION_180_7 := own_sta_keep S_ROTATION_180 Kc7 (own_plain E_a1 (fun _ q => nomatch q))
        have E_w_ROTATION_180_7 := Exa.keep E_w_ROTATION_180 Kc7
        have S_ROTATION_90_7 := own_sta_keep S_ROTATION_90 Kc7 (own_plain E_a1 (fun _ q => nomatch q))
        have E_w_ROTATION_90_7 := Exa.keep E_w_ROTATION_90 Kc7
        have E_a1_7 := Exa.keep E_a1 Kc7
        have Z7 : n0 ≤ T7.heap.size := Nat.le_trans Z0 Kc7.1
        have B7 : _ ≤ T7.heap.size := Nat.le_trans hB Kc7.1
        refine Go.mp st7 ?_
        show Go p e below (T7.setTop (mkF m 36 #[.val (.int p1), .val (.int p2), .val (.int p3), .val (.int p4), .val (.int p5), .val (.int p6), .val (.ref a1), .val (.int (-1 : Int32)), .unset, .unset, .unset, .unset] [])) _
        refine g_iload X7 hx (hb hby at_36) rfl ?_
        refine g_iloadN X7 hx (hb hby at_38) rfl ?_
        obtain ⟨v8, T8, L8, X8, q8, st8⟩ := own_callS X7 hx hZ (y := (⟨"com/example/reorient/reorient/service/WindowPictureOfPinLaw", "turn", "(II)I"⟩ : MethodName)) (pc := 39) (Ls := #[.val (.int p1), .val (.int p2), .val (.int p3), .val (.int p4), .val (.int p5), .val (.int p6), .val (.ref a1), .val (.int (-1 : Int32)), .unset, .unset, .unset, .unset]) (st := [(.int p2), (.int (-1 : Int32))]) hown (hw _ (List.mem_of_getElem? (i := 48) rfl)) (hw _ (List.mem_of_getElem? (i := 49) rfl)) (hw _ (List.mem_of_getElem? (i := 13) rfl)) (hw _ (List.mem_of_getElem? (i := 50) rfl)) (by decide) (rm_turn l Z a0 hw (-1 : Int32) p2 T7.heap n0 Z7 ) (rfl : T7.heap = T7.heap) pd_3 (hb hby at_39) (by rw [hml]; rfl) (argsL := [(.int (-1 : Int32)), (.int p2)]) (rest := []) rfl rfl rfl (W := 0) (Nat.le_of_eq rfl) (by decide) (by decide) (by decide) (by decide)
        obtain ⟨rfl, M8, e8⟩ := q8
        have N8 := Fr.app N7 M8
        have r8 : (f_turn (-1 : Int32) p2) = (-1 : Int32) := by rw [f_turn, if_neg ((by rw [q2]; decide) : ¬ ((-1 : Int32) = (p2 &&& (3 : Int32))))]
        rw [r8] at st8
        refine Go.mp st8 ?_
        show Go p e below (T8.setTop (mkF m 42 #[.val (.int p1), .val (.int p2), .val (.int p3), .val (.int p4), .val (.int p5), .val (.int p6), .val (.ref a1), .val (.int (-1 : Int32)), .unset, .unset, .unset, .unset] [(.int (-1 : Int32))])) _
        refine g_istore X8 hx #[.val (.int p1), .val (.int p2), .val (.int p3), .val (.int p4), .val (.int p5), .val (.int p6), .val (.ref a1), .val (.int (-1 : Int32)), .unset, .unset, .unset, .unset] (hb hby at_42) rfl ?_
        show Go p e below (T8.setTop (mkF m 44 #[.val (.int p1), .val (.int p2), .val (.int p3), .val (.int p4), .val (.int p5), .val (.int p6), .val (.ref a1), .val (.int (-1 : Int32)), .unset, .unset, .unset, .unset] [])) _
        exact seg_2 l Z a0 hw p1 p2 p3 p4 p5 p6 a1 (-1 : Int32) .null dz w_ROTATION_0 w_APPLICATION w_ROTATION_270 w_ROTATION_180 w_ROTATION_90 T7.heap n0 Z7 S_ROTATION_0_7 E_w_ROTATION_0_7 S_APPLICATION_7 E_w_APPLICATION_7 S_ROTATION_270_7 E_w_ROTATION_270_7 S_ROTATION_180_7 E_w_ROTATION_180_7 S_ROTATION_90_7 E_w_ROTATION_90_7 ne_ROTATION_0_ROTATION_270 ne_ROTATION_0_ROTATION_90 ne_ROTATION_0_ROTATION_180 ne_ROTATION_270_ROTATION_90 ne_ROTATION_270_ROTATION_180 ne_ROTATION_90_ROTATION_180 E_a1_7 Fk7_1 Fk7_0 g_a1 (Or.inl ⟨rfl, rfl⟩) hx hby hml hown hnm hret hlk hZ X8 e8 N8 hS B7
      · obtain ⟨v9, T9, L9, X9, q9, st9⟩ := own_callS X0 hx hZ (y := (⟨"com/example/reorient/reorient/service/WindowPictureOfPinLaw", "rot", "(I)Lcom/example/reorient/reorient/model/Rotation;"⟩ : MethodName)) (pc := 30) (Ls := #[.val (.int p1), .val (.int p2), .val (.int p3), .val (.int p4), .val (.int p5), .val (.int p6), .val (.ref a1), .val (.int (-1 : Int32)), .unset, .unset, .unset, .unset]) (st := [(.int p2), (.ref a1)]) hown (hw _ (List.mem_of_getElem? (i := 11) rfl)) (hw _ (List.mem_of_getElem? (i := 12) rfl)) (hw _ (List.mem_of_getElem? (i := 13) rfl)) (hw _ (List.mem_of_getElem? (i := 14) rfl)) (by decide) (rm_rot l Z a0 hw p2 w_ROTATION_0 w_ROTATION_90 w_ROTATION_180 w_ROTATION_270 h0 n0 Z0 S_ROTATION_0 S_ROTATION_90 S_ROTATION_180 S_ROTATION_270) e0 pd_1 (hb hby at_30) (by rw [hml]; rfl) (argsL := [(.int p2)]) (rest := [(.ref a1)]) rfl rfl rfl (W := 1) (Nat.le_of_eq rfl) (by decide) (by decide) (by decide) (by decide)
        obtain ⟨rfl, M9, e9⟩ := q9
        have N9 := Fr.app N0 M9
        have r9 : (f_rot p2 w_ROTATION_0 w_ROTATION_90 w_ROTATION_180 w_ROTATION_270) = w_ROTATION_180 := by rw [f_rot, if_neg ((by rw [q2]; decide) : ¬ ((p2 &&& (3 : Int32)) = (0 : Int32))), if_neg ((by rw [q2]; decide) : ¬ ((p2 &&& (3 : Int32)) = (1 : Int32))), if_pos (q2 : (p2 &&& (3 : Int32)) = (2 : Int32))]
        rw [r9] at st9
        refine Go.mp st9 ?_
        show Go p e below (T9.setTop (mkF m 33 #[.val (.int p1), .val (.int p2), .val (.int p3), .val (.int p4), .val (.int p5), .val (.int p6), .val (.ref a1), .val (.int (-1 : Int32)), .unset, .unset, .unset, .unset] [(.ref w_ROTATION_180), (.ref a1)])) _
        obtain ⟨v10, T10, L10, X10, q10, st10⟩ := own_callV X9 hx hZ (y := (⟨"com/example/reorient/reorient/service/Window", "turnTo", "(Lcom/example/reorient/reorient/model/Rotation;)V"⟩ : MethodName)) (pc := 33) (Ls := #[.val (.int p1), .val (.int p2), .val (.int p3), .val (.int p4), .val (.int p5), .val (.int p6), .val (.ref a1), .val (.int (-1 : Int32)), .unset, .unset, .unset, .unset]) (st := [(.ref w_ROTATION_180), (.ref a1)]) hown (hw _ (List.mem_of_getElem? (i := 43) rfl)) (hw _ (List.mem_of_getElem? (i := 44) rfl)) (hw _ (List.mem_of_getElem? (i := 46) rfl)) (hw _ (List.mem_of_getElem? (i := 45) rfl)) (hw _ (List.mem_of_getElem? (i := 47) rfl)) (hw _ (List.mem_of_getElem? (i := 2) rfl)) (by decide) (rm_turnTo l Z a0 hw a1 w_ROTATION_180 .null dz h0 n0 Z0 rfl E_a1 F_a1_drawn F_a1_picture g_a1) e9 E_a1 pd_2 (hb hby at_33) (by rw [hml]; rfl) (argsL := [(.ref w_ROTATION_180)]) (rest := []) rfl rfl rfl (W := 0) (Nat.le_of_eq rfl) (by decide) (by decide) (by decide) (by decide)
        obtain ⟨rv10, M10, Kc10, Fk10_0, Fk10_1⟩ := q10
        have N10 := Fr.app N9 M10
        subst rv10
        have r10_1 : (f_turnTo_a1_picture a1 w_ROTATION_180 .null dz) = .null := by rw [f_turnTo_a1_picture, if_neg (nofun : ¬ (Value.null = (Value.ref w_ROTATION_180)))]
        rw [r10_1] at Fk10_1
        have S_ROTATION_0_10 := own_sta_keep S_ROTATION_0 Kc10 (own_plain E_a1 (fun _ q => nomatch q))
        have E_w_ROTATION_0_10 := Exa.keep E_w_ROTATION_0 Kc10
        have S_APPLICATION_10 := own_sta_keep S_APPLICATION Kc10 (own_plain E_a1 (fun _ q => nomatch q))
        have E_w_APPLICATION_10 := Exa.keep E_w_APPLICATION Kc10
        have S_ROTATION_270_10 := own_sta_keep S_ROTATION_270 Kc10 (own_plain E_a1 (fun _ q => nomatch q))
        have E_w_ROTATION_270_10 := Exa.keep E_w_ROTATION_270 Kc10
        have S_ROTATION_180_10 := own_sta_keep S_ROTATION_180 Kc10 (own_plain E_a1 (fun _ q => nomatch q))
        have E_w_ROTATION_180_10 := Exa.keep E_w_ROTATION_180 Kc10
        have S_ROTATION_90_10 := own_sta_keep S_ROTATION_90 Kc10 (own_plain E_a1 (fun _ q => nomatch q))
        have E_w_ROTATION_90_10 := Exa.keep E_w_ROTATION_90 Kc10
        have E_a1_10 := Exa.keep E_a1 Kc10
        have Z10 : n0 ≤ T10.heap.size := Nat.le_trans Z0 Kc10.1
        have B10 : _ ≤ T10.heap.size := Nat.le_trans hB Kc10.1
        refine Go.mp st10 ?_
        show Go p e below (T10.setTop (mkF m 36 #[.val (.int p1), .val (.int p2), .val (.int p3), .val (.int p4), .val (.int p5), .val (.int p6), .val (.ref a1), .val (.int (-1 : Int32)), .unset, .unset, .unset, .unset] [])) _
        refine g_iload X10 hx (hb hby at_36) rfl ?_
        refine g_iloadN X10 hx (hb hby at_38) rfl ?_
        obtain ⟨v11, T11, L11, X11, q11, st11⟩ := own_callS X10 hx hZ (y := (⟨"com/example/reorient/reorient/service/WindowPictureOfPinLaw", "turn", "(II)I"⟩ : MethodName)) (pc := 39) (Ls := #[.val (.int p1), .val (.int p2), .val (.int p3), .val (.int p4), .val (.int p5), .val (.int p6), .val (.ref a1), .val (.int (-1 : Int32)), .unset, .unset, .unset, .unset]) (st := [(.int p2), (.int (-1 : Int32))]) hown (hw _ (List.mem_of_getElem? (i := 48) rfl)) (hw _ (List.mem_of_getElem? (i := 49) rfl)) (hw _ (List.mem_of_getElem? (i := 13) rfl)) (hw _ (List.mem_of_getElem? (i := 50) rfl)) (by decide) (rm_turn l Z a0 hw (-1 : Int32) p2 T10.heap n0 Z10 ) (rfl : T10.heap = T10.heap) pd_3 (hb hby at_39) (by rw [hml]; rfl) (argsL := [(.int (-1 : Int32)), (.int p2)]) (rest := []) rfl rfl rfl (W := 0) (Nat.le_of_eq rfl) (by decide) (by decide) (by decide) (by decide)
        obtain ⟨rfl, M11, e11⟩ := q11
        have N11 := Fr.app N10 M11
        have r11 : (f_turn (-1 : Int32) p2) = (-1 : Int32) := by rw [f_turn, if_neg ((by rw [q2]; decide) : ¬ ((-1 : Int32) = (p2 &&& (3 : Int32))))]
        rw [r11] at st11
        refine Go.mp st11 ?_
        show Go p e below (T11.setTop (mkF m 42 #[.val (.int p1), .val (.int p2), .val (.int p3), .val (.int p4), .val (.int p5), .val (.int p6), .val (.ref a1), .val (.int (-1 : Int32)), .unset, .unset, .unset, .unset] [(.int (-1 : Int32))])) _
        refine g_istore X11 hx #[.val (.int p1), .val (.int p2), .val (.int p3), .val (.int p4), .val (.int p5), .val (.int p6), .val (.ref a1), .val (.int (-1 : Int32)), .unset, .unset, .unset, .unset] (hb hby at_42) rfl ?_
        show Go p e below (T11.setTop (mkF m 44 #[.val (.int p1), .val (.int p2), .val (.int p3), .val (.int p4), .val (.int p5), .val (.int p6), .val (.ref a1), .val (.int (-1 : Int32)), .unset, .unset, .unset, .unset] [])) _
        exact seg_2 l Z a0 hw p1 p2 p3 p4 p5 p6 a1 (-1 : Int32) .null dz w_ROTATION_0 w_APPLICATION w_ROTATION_270 w_ROTATION_180 w_ROTATION_90 T10.heap n0 Z10 S_ROTATION_0_10 E_w_ROTATION_0_10 S_APPLICATION_10 E_w_APPLICATION_10 S_ROTATION_270_10 E_w_ROTATION_270_10 S_ROTATION_180_10 E_w_ROTATION_180_10 S_ROTATION_90_10 E_w_ROTATION_90_10 ne_ROTATION_0_ROTATION_270 ne_ROTATION_0_ROTATION_90 ne_ROTATION_0_ROTATION_180 ne_ROTATION_270_ROTATION_90 ne_ROTATION_270_ROTATION_180 ne_ROTATION_90_ROTATION_180 E_a1_10 Fk10_1 Fk10_0 g_a1 (Or.inl ⟨rfl, rfl⟩) hx hby hml hown hnm hret hlk hZ X11 e11 N11 hS B10
      · obtain ⟨v12, T12, L12, X12, q12, st12⟩ := own_callS X0 hx hZ (y := (⟨"com/example/reorient/reorient/service/WindowPictureOfPinLaw", "rot", "(I)Lcom/example/reorient/reorient/model/Rotation;"⟩ : MethodName)) (pc := 30) (Ls := #[.val (.int p1), .val (.int p2), .val (.int p3), .val (.int p4), .val (.int p5), .val (.int p6), .val (.ref a1), .val (.int (-1 : Int32)), .unset, .unset, .unset, .unset]) (st := [(.int p2), (.ref a1)]) hown (hw _ (List.mem_of_getElem? (i := 11) rfl)) (hw _ (List.mem_of_getElem? (i := 12) rfl)) (hw _ (List.mem_of_getElem? (i := 13) rfl)) (hw _ (List.mem_of_getElem? (i := 14) rfl)) (by decide) (rm_rot l Z a0 hw p2 w_ROTATION_0 w_ROTATION_90 w_ROTATION_180 w_ROTATION_270 h0 n0 Z0 S_ROTATION_0 S_ROTATION_90 S_ROTATION_180 S_ROTATION_270) e0 pd_1 (hb hby at_30) (by rw [hml]; rfl) (argsL := [(.int p2)]) (rest := [(.ref a1)]) rfl rfl rfl (W := 1) (Nat.le_of_eq rfl) (by decide) (by decide) (by decide) (by decide)
        obtain ⟨rfl, M12, e12⟩ := q12
        have N12 := Fr.app N0 M12
        have r12 : (f_rot p2 w_ROTATION_0 w_ROTATION_90 w_ROTATION_180 w_ROTATION_270) = w_ROTATION_270 := by rw [f_rot, if_neg ((by rw [q2]; decide) : ¬ ((p2 &&& (3 : Int32)) = (0 : Int32))), if_neg ((by rw [q2]; decide) : ¬ ((p2 &&& (3 : Int32)) = (1 : Int32))), if_neg ((by rw [q2]; decide) : ¬ ((p2 &&& (3 : Int32)) = (2 : Int32)))]
        rw [r12] at st12
        refine Go.mp st12 ?_
        show Go p e below (T12.setTop (mkF m 33 #[.val (.int p1), .val (.int p2), .val (.int p3), .val (.int p4), .val (.int p5), .val (.int p6), .val (.ref a1), .val (.int (-1 : Int32)), .unset, .unset, .unset, .unset] [(.ref w_ROTATION_270), (.ref a1)])) _
        obtain ⟨v13, T13, L13, X13, q13, st13⟩ := own_callV X12 hx hZ (y := (⟨"com/example/reorient/reorient/service/Window", "turnTo", "(Lcom/example/reorient/reorient/model/Rotation;)V"⟩ : MethodName)) (pc := 33) (Ls := #[.val (.int p1), .val (.int p2), .val (.int p3), .val (.int p4), .val (.int p5), .val (.int p6), .val (.ref a1), .val (.int (-1 : Int32)), .unset, .unset, .unset, .unset]) (st := [(.ref w_ROTATION_270), (.ref a1)]) hown (hw _ (List.mem_of_getElem? (i := 43) rfl)) (hw _ (List.mem_of_getElem? (i := 44) rfl)) (hw _ (List.mem_of_getElem? (i := 46) rfl)) (hw _ (List.mem_of_getElem? (i := 45) rfl)) (hw _ (List.mem_of_getElem? (i := 47) rfl)) (hw _ (List.mem_of_getElem? (i := 2) rfl)) (by decide) (rm_turnTo l Z a0 hw a1 w_ROTATION_270 .null dz h0 n0 Z0 rfl E_a1 F_a1_drawn F_a1_picture g_a1) e12 E_a1 pd_2 (hb hby at_33) (by rw [hml]; rfl) (argsL := [(.ref w_ROTATION_270)]) (rest := []) rfl rfl rfl (W := 0) (Nat.le_of_eq rfl) (by decide) (by decide) (by decide) (by decide)
        obtain ⟨rv13, M13, Kc13, Fk13_0, Fk13_1⟩ := q13
        have N13 := Fr.app N12 M13
        subst rv13
        have r13_1 : (f_turnTo_a1_picture a1 w_ROTATION_270 .null dz) = .null := by rw [f_turnTo_a1_picture, if_neg (nofun : ¬ (Value.null = (Value.ref w_ROTATION_270)))]
        rw [r13_1] at Fk13_1
        have S_ROTATION_0_13 := own_sta_keep S_ROTATION_0 Kc13 (own_plain E_a1 (fun _ q => nomatch q))
        have E_w_ROTATION_0_13 := Exa.keep E_w_ROTATION_0 Kc13
        have S_APPLICATION_13 := own_sta_keep S_APPLICATION Kc13 (own_plain E_a1 (fun _ q => nomatch q))
        have E_w_APPLICATION_13 := Exa.keep E_w_APPLICATION Kc13
        have S_ROTATION_270_13 := own_sta_keep S_ROTATION_270 Kc13 (own_plain E_a1 (fun _ q => nomatch q))
        have E_w_ROTATION_270_13 := Exa.keep E_w_ROTATION_270 Kc13
        have S_ROTATION_180_13 := own_sta_keep S_ROTATION_180 Kc13 (own_plain E_a1 (fun _ q => nomatch q))
        have E_w_ROTATION_180_13 := Exa.keep E_w_ROTATION_180 Kc13
        have S_ROTATION_90_13 := own_sta_keep S_ROTATION_90 Kc13 (own_plain E_a1 (fun _ q => nomatch q))
        have E_w_ROTATION_90_13 := Exa.keep E_w_ROTATION_90 Kc13
        have E_a1_13 := Exa.keep E_a1 Kc13
        have Z13 : n0 ≤ T13.heap.size := Nat.le_trans Z0 Kc13.1
        have B13 : _ ≤ T13.heap.size := Nat.le_trans hB Kc13.1
        refine Go.mp st13 ?_
        show Go p e below (T13.setTop (mkF m 36 #[.val (.int p1), .val (.int p2), .val (.int p3), .val (.int p4), .val (.int p5), .val (.int p6), .val (.ref a1), .val (.int (-1 : Int32)), .unset, .unset, .unset, .unset] [])) _
        refine g_iload X13 hx (hb hby at_36) rfl ?_
        refine g_iloadN X13 hx (hb hby at_38) rfl ?_
        obtain ⟨v14, T14, L14, X14, q14, st14⟩ := own_callS X13 hx hZ (y := (⟨"com/example/reorient/reorient/service/WindowPictureOfPinLaw", "turn", "(II)I"⟩ : MethodName)) (pc := 39) (Ls := #[.val (.int p1), .val (.int p2), .val (.int p3), .val (.int p4), .val (.int p5), .val (.int p6), .val (.ref a1), .val (.int (-1 : Int32)), .unset, .unset, .unset, .unset]) (st := [(.int p2), (.int (-1 : Int32))]) hown (hw _ (List.mem_of_getElem? (i := 48) rfl)) (hw _ (List.mem_of_getElem? (i := 49) rfl)) (hw _ (List.mem_of_getElem? (i := 13) rfl)) (hw _ (List.mem_of_getElem? (i := 50) rfl)) (by decide) (rm_turn l Z a0 hw (-1 : Int32) p2 T13.heap n0 Z13 ) (rfl : T13.heap = T13.heap) pd_3 (hb hby at_39) (by rw [hml]; rfl) (argsL := [(.int (-1 : Int32)), (.int p2)]) (rest := []) rfl rfl rfl (W := 0) (Nat.le_of_eq rfl) (by decide) (by decide) (by decide) (by decide)
        obtain ⟨rfl, M14, e14⟩ := q14
        have N14 := Fr.app N13 M14
        have r14 : (f_turn (-1 : Int32) p2) = (-1 : Int32) := by rw [f_turn, if_neg ((by rw [q2]; decide) : ¬ ((-1 : Int32) = (p2 &&& (3 : Int32))))]
        rw [r14] at st14
        refine Go.mp st14 ?_
        show Go p e below (T14.setTop (mkF m 42 #[.val (.int p1), .val (.int p2), .val (.int p3), .val (.int p4), .val (.int p5), .val (.int p6), .val (.ref a1), .val (.int (-1 : Int32)), .unset, .unset, .unset, .unset] [(.int (-1 : Int32))])) _
        refine g_istore X14 hx #[.val (.int p1), .val (.int p2), .val (.int p3), .val (.int p4), .val (.int p5), .val (.int p6), .val (.ref a1), .val (.int (-1 : Int32)), .unset, .unset, .unset, .unset] (hb hby at_42) rfl ?_
        show Go p e below (T14.setTop (mkF m 44 #[.val (.int p1), .val (.int p2), .val (.int p3), .val (.int p4), .val (.int p5), .val (.int p6), .val (.ref a1), .val (.int (-1 : Int32)), .unset, .unset, .unset, .unset] [])) _
        exact seg_2 l Z a0 hw p1 p2 p3 p4 p5 p6 a1 (-1 : Int32) .null dz w_ROTATION_0 w_APPLICATION w_ROTATION_270 w_ROTATION_180 w_ROTATION_90 T13.heap n0 Z13 S_ROTATION_0_13 E_w_ROTATION_0_13 S_APPLICATION_13 E_w_APPLICATION_13 S_ROTATION_270_13 E_w_ROTATION_270_13 S_ROTATION_180_13 E_w_ROTATION_180_13 S_ROTATION_90_13 E_w_ROTATION_90_13 ne_ROTATION_0_ROTATION_270 ne_ROTATION_0_ROTATION_90 ne_ROTATION_0_ROTATION_180 ne_ROTATION_270_ROTATION_90 ne_ROTATION_270_ROTATION_180 ne_ROTATION_90_ROTATION_180 E_a1_13 Fk13_1 Fk13_0 g_a1 (Or.inl ⟨rfl, rfl⟩) hx hby hml hown hnm hret hlk hZ X14 e14 N14 hS B13
  · refine g_iload X0 hx (hb hby at_20) rfl ?_
    refine g_iconst X0 hx (1 : Int32) (hb hby at_22) (by decide) ?_
    refine g_iand X0 hx (hb hby at_23) ?_
    by_cases c24_15 : (p6 &&& (1 : Int32)) = (0 : Int32)
    · refine g_ifYes X0 hx 44 (hb hby at_24) ((if0 _ _).trans (teq c24_15).1) (by decide) (by decide) ?_
      show Go p e below (s₁.setTop (mkF m 44 #[.val (.int p1), .val (.int p2), .val (.int p3), .val (.int p4), .val (.int p5), .val (.int p6), .val (.ref a1), .val (.int (0 : Int32)), .unset, .unset, .unset, .unset] [])) _
      exact seg_2 l Z a0 hw p1 p2 p3 p4 p5 p6 a1 (0 : Int32) (.ref w_ROTATION_0) dz w_ROTATION_0 w_APPLICATION w_ROTATION_270 w_ROTATION_180 w_ROTATION_90 h0 n0 Z0 S_ROTATION_0 E_w_ROTATION_0 S_APPLICATION E_w_APPLICATION S_ROTATION_270 E_w_ROTATION_270 S_ROTATION_180 E_w_ROTATION_180 S_ROTATION_90 E_w_ROTATION_90 ne_ROTATION_0_ROTATION_270 ne_ROTATION_0_ROTATION_90 ne_ROTATION_0_ROTATION_180 ne_ROTATION_270_ROTATION_90 ne_ROTATION_270_ROTATION_180 ne_ROTATION_90_ROTATION_180 E_a1 F_a1_picture F_a1_drawn g_a1 (Or.inr (Or.inl ⟨rfl, rfl⟩)) hx hby hml hown hnm hret hlk hZ X0 e0 N0 hS hB
    · refine g_ifNo X0 hx (hb hby at_24) ((if0 _ _).trans (feq c24_15).1) ?_
      refine g_aload X0 hx (hb hby at_27) rfl rfl ?_
      refine g_iloadN X0 hx (hb hby at_29) rfl ?_
      show Go p e below (s₁.setTop (mkF m 30 #[.val (.int p1), .val (.int p2), .val (.int p3), .val (.int p4), .val (.int p5), .val (.int p6), .val (.ref a1), .val (.int (0 : Int32)), .unset, .unset, .unset, .unset] [(.int p2), (.ref a1)])) _
      rcases own_and3 p2 with q16 | q16 | q16 | q16
      · obtain ⟨v17, T17, L17, X17, q17, st17⟩ := own_callS X0 hx hZ (y := (⟨"com/example/reorient/reorient/service/WindowPictureOfPinLaw", "rot", "(I)Lcom/example/reorient/reorient/model/Rotation;"⟩ : MethodName)) (pc := 30) (Ls := #[.val (.int p1), .val (.int p2), .val (.int p3), .val (.int p4), .val (.int p5), .val (.int p6), .val (.ref a1), .val (.int (0 : Int32)), .unset, .unset, .unset, .unset]) (st := [(.int p2), (.ref a1)]) hown (hw _ (List.mem_of_getElem? (i := 11) rfl)) (hw _ (List.mem_of_getElem? (i := 12) rfl)) (hw _ (List.mem_of_getElem? (i := 13) rfl)) (hw _ (List.mem_of_getElem? (i := 14) rfl)) (by decide) (rm_rot l Z a0 hw p2 w_ROTATION_0 w_ROTATION_90 w_ROTATION_180 w_ROTATION_270 h0 n0 Z0 S_ROTATION_0 S_ROTATION_90 S_ROTATION_180 S_ROTATION_270) e0 pd_1 (hb hby at_30) (by rw [hml]; rfl) (argsL := [(.int p2)]) (rest := [(.ref a1)]) rfl rfl rfl (W := 1) (Nat.le_of_eq rfl) (by decide) (by decide) (by decide) (by decide)
        obtain ⟨rfl, M17, e17⟩ := q17
        have N17 := Fr.app N0 M17
        have r17 : (f_rot p2 w_ROTATION_0 w_ROTATION_90 w_ROTATION_180 w_ROTATION_270) = w_ROTATION_0 := by rw [f_rot, if_pos (q16 : (p2 &&& (3 : Int32)) = (0 : Int32))]
        rw [r17] at st17
        refine Go.mp st17 ?_
        show Go p e below (T17.setTop (mkF m 33 #[.val (.int p1), .val (.int p2), .val (.int p3), .val (.int p4), .val (.int p5), .val (.int p6), .val (.ref a1), .val (.int (0 : Int32)), .unset, .unset, .unset, .unset] [(.ref w_ROTATION_0), (.ref a1)])) _
        obtain ⟨v18, T18, L18, X18, q18, st18⟩ := own_callV X17 hx hZ (y := (⟨"com/example/reorient/reorient/service/Window", "turnTo", "(Lcom/example/reorient/reorient/model/Rotation;)V"⟩ : MethodName)) (pc := 33) (Ls := #[.val (.int p1), .val (.int p2), .val (.int p3), .val (.int p4), .val (.int p5), .val (.int p6), .val (.ref a1), .val (.int (0 : Int32)), .unset, .unset, .unset, .unset]) (st := [(.ref w_ROTATION_0), (.ref a1)]) hown (hw _ (List.mem_of_getElem? (i := 43) rfl)) (hw _ (List.mem_of_getElem? (i := 44) rfl)) (hw _ (List.mem_of_getElem? (i := 46) rfl)) (hw _ (List.mem_of_getElem? (i := 45) rfl)) (hw _ (List.mem_of_getElem? (i := 47) rfl)) (hw _ (List.mem_of_getElem? (i := 2) rfl)) (by decide) (rm_turnTo l Z a0 hw a1 w_ROTATION_0 (.ref w_ROTATION_0) dz h0 n0 Z0 rfl E_a1 F_a1_drawn F_a1_picture g_a1) e17 E_a1 pd_2 (hb hby at_33) (by rw [hml]; rfl) (argsL := [(.ref w_ROTATION_0)]) (rest := []) rfl rfl rfl (W := 0) (Nat.le_of_eq rfl) (by decide) (by decide) (by decide) (by decide)
        obtain ⟨rv18, M18, Kc18, Fk18_0, Fk18_1⟩ := q18
        have N18 := Fr.app N17 M18
        subst rv18
        have r18_1 : (f_turnTo_a1_picture a1 w_ROTATION_0 (.ref w_ROTATION_0) dz) = (.ref w_ROTATION_0) := by rw [f_turnTo_a1_picture, if_pos (rfl : (Value.ref w_ROTATION_0) = (Value.ref w_ROTATION_0))]
        rw [r18_1] at Fk18_1
        have S_ROTATION_0_18 := own_sta_keep S_ROTATION_0 Kc18 (own_plain E_a1 (fun _ q => nomatch q))
        have E_w_ROTATION_0_18 := Exa.keep E_w_ROTATION_0 Kc18
        have S_APPLICATION_18 := own_sta_keep S_APPLICATION Kc18 (own_plain E_a1 (fun _ q => nomatch q))
        have E_w_APPLICATION_18 := Exa.keep E_w_APPLICATION Kc18
        have S_ROTATION_270_18 := own_sta_keep S_ROTATION_270 Kc18 (own_plain E_a1 (fun _ q => nomatch q))
        have E_w_ROTATION_270_18 := Exa.keep E_w_ROTATION_270 Kc18
        have S_ROTATION_180_18 := own_sta_keep S_ROTATION_180 Kc18 (own_plain E_a1 (fun _ q => nomatch q))
        have E_w_ROTATION_180_18 := Exa.keep E_w_ROTATION_180 Kc18
        have S_ROTATION_90_18 := own_sta_keep S_ROTATION_90 Kc18 (own_plain E_a1 (fun _ q => nomatch q))
        have E_w_ROTATION_90_18 := Exa.keep E_w_ROTATION_90 Kc18
        have E_a1_18 := Exa.keep E_a1 Kc18
        have Z18 : n0 ≤ T18.heap.size := Nat.le_trans Z0 Kc18.1
        have B18 : _ ≤ T18.heap.size := Nat.le_trans hB Kc18.1
        refine Go.mp st18 ?_
        show Go p e below (T18.setTop (mkF m 36 #[.val (.int p1), .val (.int p2), .val (.int p3), .val (.int p4), .val (.int p5), .val (.int p6), .val (.ref a1), .val (.int (0 : Int32)), .unset, .unset, .unset, .unset] [])) _
        refine g_iload X18 hx (hb hby at_36) rfl ?_
        refine g_iloadN X18 hx (hb hby at_38) rfl ?_
        obtain ⟨v19, T19, L19, X19, q19, st19⟩ := own_callS X18 hx hZ (y := (⟨"com/example/reorient/reorient/service/WindowPictureOfPinLaw", "turn", "(II)I"⟩ : MethodName)) (pc := 39) (Ls := #[.val (.int p1), .val (.int p2), .val (.int p3), .val (.int p4), .val (.int p5), .val (.int p6), .val (.ref a1), .val (.int (0 : Int32)), .unset, .unset, .unset, .unset]) (st := [(.int p2), (.int (0 : Int32))]) hown (hw _ (List.mem_of_getElem? (i := 48) rfl)) (hw _ (List.mem_of_getElem? (i := 49) rfl)) (hw _ (List.mem_of_getElem? (i := 13) rfl)) (hw _ (List.mem_of_getElem? (i := 50) rfl)) (by decide) (rm_turn l Z a0 hw (0 : Int32) p2 T18.heap n0 Z18 ) (rfl : T18.heap = T18.heap) pd_3 (hb hby at_39) (by rw [hml]; rfl) (argsL := [(.int (0 : Int32)), (.int p2)]) (rest := []) rfl rfl rfl (W := 0) (Nat.le_of_eq rfl) (by decide) (by decide) (by decide) (by decide)
        obtain ⟨rfl, M19, e19⟩ := q19
        have N19 := Fr.app N18 M19
        have r19 : (f_turn (0 : Int32) p2) = (0 : Int32) := by rw [f_turn, if_pos (q16.symm : (0 : Int32) = (p2 &&& (3 : Int32)))]
        rw [r19] at st19
        refine Go.mp st19 ?_
        show Go p e below (T19.setTop (mkF m 42 #[.val (.int p1), .val (.int p2), .val (.int p3), .val (.int p4), .val (.int p5), .val (.int p6), .val (.ref a1), .val (.int (0 : Int32)), .unset, .unset, .unset, .unset] [(.int (0 : Int32))])) _
        refine g_istore X19 hx #[.val (.int p1), .val (.int p2), .val (.int p3), .val (.int p4), .val (.int p5), .val (.int p6), .val (.ref a1), .val (.int (0 : Int32)), .unset, .unset, .unset, .unset] (hb hby at_42) rfl ?_
        show Go p e below (T19.setTop (mkF m 44 #[.val (.int p1), .val (.int p2), .val (.int p3), .val (.int p4), .val (.int p5), .val (.int p6), .val (.ref a1), .val (.int (0 : Int32)), .unset, .unset, .unset, .unset] [])) _
        exact seg_2 l Z a0 hw p1 p2 p3 p4 p5 p6 a1 (0 : Int32) (.ref w_ROTATION_0) dz w_ROTATION_0 w_APPLICATION w_ROTATION_270 w_ROTATION_180 w_ROTATION_90 T18.heap n0 Z18 S_ROTATION_0_18 E_w_ROTATION_0_18 S_APPLICATION_18 E_w_APPLICATION_18 S_ROTATION_270_18 E_w_ROTATION_270_18 S_ROTATION_180_18 E_w_ROTATION_180_18 S_ROTATION_90_18 E_w_ROTATION_90_18 ne_ROTATION_0_ROTATION_270 ne_ROTATION_0_ROTATION_90 ne_ROTATION_0_ROTATION_180 ne_ROTATION_270_ROTATION_90 ne_ROTATION_270_ROTATION_180 ne_ROTATION_90_ROTATION_180 E_a1_18 Fk18_1 Fk18_0 g_a1 (Or.inr (Or.inl ⟨rfl, rfl⟩)) hx hby hml hown hnm hret hlk hZ X19 e19 N19 hS B18
      · obtain ⟨v20, T20, L20, X20, q20, st20⟩ := own_callS X0 hx hZ (y := (⟨"com/example/reorient/reorient/service/WindowPictureOfPinLaw", "rot", "(I)Lcom/example/reorient/reorient/model/Rotation;"⟩ : MethodName)) (pc := 30) (Ls := #[.val (.int p1), .val (.int p2), .val (.int p3), .val (.int p4), .val (.int p5), .val (.int p6), .val (.ref a1), .val (.int (0 : Int32)), .unset, .unset, .unset, .unset]) (st := [(.int p2), (.ref a1)]) hown (hw _ (List.mem_of_getElem? (i := 11) rfl)) (hw _ (List.mem_of_getElem? (i := 12) rfl)) (hw _ (List.mem_of_getElem? (i := 13) rfl)) (hw _ (List.mem_of_getElem? (i := 14) rfl)) (by decide) (rm_rot l Z a0 hw p2 w_ROTATION_0 w_ROTATION_90 w_ROTATION_180 w_ROTATION_270 h0 n0 Z0 S_ROTATION_0 S_ROTATION_90 S_ROTATION_180 S_ROTATION_270) e0 pd_1 (hb hby at_30) (by rw [hml]; rfl) (argsL := [(.int p2)]) (rest := [(.ref a1)]) rfl rfl rfl (W := 1) (Nat.le_of_eq rfl) (by decide) (by decide) (by decide) (by decide)
        obtain ⟨rfl, M20, e20⟩ := q20
        have N20 := Fr.app N0 M20
        have r20 : (f_rot p2 w_ROTATION_0 w_ROTATION_90 w_ROTATION_180 w_ROTATION_270) = w_ROTATION_90 := by rw [f_rot, if_neg ((by rw [q16]; decide) : ¬ ((p2 &&& (3 : Int32)) = (0 : Int32))), if_pos (q16 : (p2 &&& (3 : Int32)) = (1 : Int32))]
        rw [r20] at st20
        refine Go.mp st20 ?_
        show Go p e below (T20.setTop (mkF m 33 #[.val (.int p1), .val (.int p2), .val (.int p3), .val (.int p4), .val (.int p5), .val (.int p6), .val (.ref a1), .val (.int (0 : Int32)), .unset, .unset, .unset, .unset] [(.ref w_ROTATION_90), (.ref a1)])) _
        obtain ⟨v21, T21, L21, X21, q21, st21⟩ := own_callV X20 hx hZ (y := (⟨"com/example/reorient/reorient/service/Window", "turnTo", "(Lcom/example/reorient/reorient/model/Rotation;)V"⟩ : MethodName)) (pc := 33) (Ls := #[.val (.int p1), .val (.int p2), .val (.int p3), .val (.int p4), .val (.int p5), .val (.int p6), .val (.ref a1), .val (.int (0 : Int32)), .unset, .unset, .unset, .unset]) (st := [(.ref w_ROTATION_90), (.ref a1)]) hown (hw _ (List.mem_of_getElem? (i := 43) rfl)) (hw _ (List.mem_of_getElem? (i := 44) rfl)) (hw _ (List.mem_of_getElem? (i := 46) rfl)) (hw _ (List.mem_of_getElem? (i := 45) rfl)) (hw _ (List.mem_of_getElem? (i := 47) rfl)) (hw _ (List.mem_of_getElem? (i := 2) rfl)) (by decide) (rm_turnTo l Z a0 hw a1 w_ROTATION_90 (.ref w_ROTATION_0) dz h0 n0 Z0 rfl E_a1 F_a1_drawn F_a1_picture g_a1) e20 E_a1 pd_2 (hb hby at_33) (by rw [hml]; rfl) (argsL := [(.ref w_ROTATION_90)]) (rest := []) rfl rfl rfl (W := 0) (Nat.le_of_eq rfl) (by decide) (by decide) (by decide) (by decide)
        obtain ⟨rv21, M21, Kc21, Fk21_0, Fk21_1⟩ := q21
        have N21 := Fr.app N20 M21
        subst rv21
        have r21_1 : (f_turnTo_a1_picture a1 w_ROTATION_90 (.ref w_ROTATION_0) dz) = .null := by rw [f_turnTo_a1_picture, if_neg ((fun q => ne_ROTATION_0_ROTATION_90 (Value.ref.inj q)) : ¬ ((Value.ref w_ROTATION_0) = (Value.ref w_ROTATION_90)))]
        rw [r21_1] at Fk21_1
        have S_ROTATION_0_21 := own_sta_keep S_ROTATION_0 Kc21 (own_plain E_a1 (fun _ q => nomatch q))
        have E_w_ROTATION_0_21 := Exa.keep E_w_ROTATION_0 Kc21
        have S_APPLICATION_21 := own_sta_keep S_APPLICATION Kc21 (own_plain E_a1 (fun _ q => nomatch q))
        have E_w_APPLICATION_21 := Exa.keep E_w_APPLICATION Kc21
        have S_ROTATION_270_21 := own_sta_keep S_ROTATION_270 Kc21 (own_plain E_a1 (fun _ q => nomatch q))
        have E_w_ROTATION_270_21 := Exa.keep E_w_ROTATION_270 Kc21
        have S_ROTATION_180_21 := own_sta_keep S_ROTATION_180 Kc21 (own_plain E_a1 (fun _ q => nomatch q))
        have E_w_ROTATION_180_21 := Exa.keep E_w_ROTATION_180 Kc21
        have S_ROTATION_90_21 := own_sta_keep S_ROTATION_90 Kc21 (own_plain E_a1 (fun _ q => nomatch q))
        have E_w_ROTATION_90_21 := Exa.keep E_w_ROTATION_90 Kc21
        have E_a1_21 := Exa.keep E_a1 Kc21
        have Z21 : n0 ≤ T21.heap.size := Nat.le_trans Z0 Kc21.1
        have B21 : _ ≤ T21.heap.size := Nat.le_trans hB Kc21.1
        refine Go.mp st21 ?_
        show Go p e below (T21.setTop (mkF m 36 #[.val (.int p1), .val (.int p2), .val (.int p3), .val (.int p4), .val (.int p5), .val (.int p6), .val (.ref a1), .val (.int (0 : Int32)), .unset, .unset, .unset, .unset] [])) _
        refine g_iload X21 hx (hb hby at_36) rfl ?_
        refine g_iloadN X21 hx (hb hby at_38) rfl ?_
        obtain ⟨v22, T22, L22, X22, q22, st22⟩ := own_callS X21 hx hZ (y := (⟨"com/example/reorient/reorient/service/WindowPictureOfPinLaw", "turn", "(II)I"⟩ : MethodName)) (pc := 39) (Ls := #[.val (.int p1), .val (.int p2), .val (.int p3), .val (.int p4), .val (.int p5), .val (.int p6), .val (.ref a1), .val (.int (0 : Int32)), .unset, .unset, .unset, .unset]) (st := [(.int p2), (.int (0 : Int32))]) hown (hw _ (List.mem_of_getElem? (i := 48) rfl)) (hw _ (List.mem_of_getElem? (i := 49) rfl)) (hw _ (List.mem_of_getElem? (i := 13) rfl)) (hw _ (List.mem_of_getElem? (i := 50) rfl)) (by decide) (rm_turn l Z a0 hw (0 : Int32) p2 T21.heap n0 Z21 ) (rfl : T21.heap = T21.heap) pd_3 (hb hby at_39) (by rw [hml]; rfl) (argsL := [(.int (0 : Int32)), (.int p2)]) (rest := []) rfl rfl rfl (W := 0) (Nat.le_of_eq rfl) (by decide) (by decide) (by decide) (by decide)
        obtain ⟨rfl, M22, e22⟩ := q22
        have N22 := Fr.app N21 M22
        have r22 : (f_turn (0 : Int32) p2) = (-1 : Int32) := by rw [f_turn, if_neg ((by rw [q16]; decide) : ¬ ((0 : Int32) = (p2 &&& (3 : Int32))))]
        rw [r22] at st22
        refine Go.mp st22 ?_
        show Go p e below (T22.setTop (mkF m 42 #[.val (.int p1), .val (.int p2), .val (.int p3), .val (.int p4), .val (.int p5), .val (.int p6), .val (.ref a1), .val (.int (0 : Int32)), .unset, .unset, .unset, .unset] [(.int (-1 : Int32))])) _
        refine g_istore X22 hx #[.val (.int p1), .val (.int p2), .val (.int p3), .val (.int p4), .val (.int p5), .val (.int p6), .val (.ref a1), .val (.int (-1 : Int32)), .unset, .unset, .unset, .unset] (hb hby at_42) rfl ?_
        show Go p e below (T22.setTop (mkF m 44 #[.val (.int p1), .val (.int p2), .val (.int p3), .val (.int p4), .val (.int p5), .val (.int p6), .val (.ref a1), .val (.int (-1 : Int32)), .unset, .unset, .unset, .unset] [])) _
        exact seg_2 l Z a0 hw p1 p2 p3 p4 p5 p6 a1 (-1 : Int32) .null dz w_ROTATION_0 w_APPLICATION w_ROTATION_270 w_ROTATION_180 w_ROTATION_90 T21.heap n0 Z21 S_ROTATION_0_21 E_w_ROTATION_0_21 S_APPLICATION_21 E_w_APPLICATION_21 S_ROTATION_270_21 E_w_ROTATION_270_21 S_ROTATION_180_21 E_w_ROTATION_180_21 S_ROTATION_90_21 E_w_ROTATION_90_21 ne_ROTATION_0_ROTATION_270 ne_ROTATION_0_ROTATION_90 ne_ROTATION_0_ROTATION_180 ne_ROTATION_270_ROTATION_90 ne_ROTATION_270_ROTATION_180 ne_ROTATION_90_ROTATION_180 E_a1_21 Fk21_1 Fk21_0 g_a1 (Or.inl ⟨rfl, rfl⟩) hx hby hml hown hnm hret hlk hZ X22 e22 N22 hS B21
      · obtain ⟨v23, T23, L23, X23, q23, st23⟩ := own_callS X0 hx hZ (y := (⟨"com/example/reorient/reorient/service/WindowPictureOfPinLaw", "rot", "(I)Lcom/example/reorient/reorient/model/Rotation;"⟩ : MethodName)) (pc := 30) (Ls := #[.val (.int p1), .val (.int p2), .val (.int p3), .val (.int p4), .val (.int p5), .val (.int p6), .val (.ref a1), .val (.int (0 : Int32)), .unset, .unset, .unset, .unset]) (st := [(.int p2), (.ref a1)]) hown (hw _ (List.mem_of_getElem? (i := 11) rfl)) (hw _ (List.mem_of_getElem? (i := 12) rfl)) (hw _ (List.mem_of_getElem? (i := 13) rfl)) (hw _ (List.mem_of_getElem? (i := 14) rfl)) (by decide) (rm_rot l Z a0 hw p2 w_ROTATION_0 w_ROTATION_90 w_ROTATION_180 w_ROTATION_270 h0 n0 Z0 S_ROTATION_0 S_ROTATION_90 S_ROTATION_180 S_ROTATION_270) e0 pd_1 (hb hby at_30) (by rw [hml]; rfl) (argsL := [(.int p2)]) (rest := [(.ref a1)]) rfl rfl rfl (W := 1) (Nat.le_of_eq rfl) (by decide) (by decide) (by decide) (by decide)
        obtain ⟨rfl, M23, e23⟩ := q23
        have N23 := Fr.app N0 M23
        have r23 : (f_rot p2 w_ROTATION_0 w_ROTATION_90 w_ROTATION_180 w_ROTATION_270) = w_ROTATION_180 := by rw [f_rot, if_neg ((by rw [q16]; decide) : ¬ ((p2 &&& (3 : Int32)) = (0 : Int32))), if_neg ((by rw [q16]; decide) : ¬ ((p2 &&& (3 : Int32)) = (1 : Int32))), if_pos (q16 : (p2 &&& (3 : Int32)) = (2 : Int32))]
        rw [r23] at st23
        refine Go.mp st23 ?_
        show Go p e below (T23.setTop (mkF m 33 #[.val (.int p1), .val (.int p2), .val (.int p3), .val (.int p4), .val (.int p5), .val (.int p6), .val (.ref a1), .val (.int (0 : Int32)), .unset, .unset, .unset, .unset] [(.ref w_ROTATION_180), (.ref a1)])) _
        obtain ⟨v24, T24, L24, X24, q24, st24⟩ := own_callV X23 hx hZ (y := (⟨"com/example/reorient/reorient/service/Window", "turnTo", "(Lcom/example/reorient/reorient/model/Rotation;)V"⟩ : MethodName)) (pc := 33) (Ls := #[.val (.int p1), .val (.int p2), .val (.int p3), .val (.int p4), .val (.int p5), .val (.int p6), .val (.ref a1), .val (.int (0 : Int32)), .unset, .unset, .unset, .unset]) (st := [(.ref w_ROTATION_180), (.ref a1)]) hown (hw _ (List.mem_of_getElem? (i := 43) rfl)) (hw _ (List.mem_of_getElem? (i := 44) rfl)) (hw _ (List.mem_of_getElem? (i := 46) rfl)) (hw _ (List.mem_of_getElem? (i := 45) rfl)) (hw _ (List.mem_of_getElem? (i := 47) rfl)) (hw _ (List.mem_of_getElem? (i := 2) rfl)) (by decide) (rm_turnTo l Z a0 hw a1 w_ROTATION_180 (.ref w_ROTATION_0) dz h0 n0 Z0 rfl E_a1 F_a1_drawn F_a1_picture g_a1) e23 E_a1 pd_2 (hb hby at_33) (by rw [hml]; rfl) (argsL := [(.ref w_ROTATION_180)]) (rest := []) rfl rfl rfl (W := 0) (Nat.le_of_eq rfl) (by decide) (by decide) (by decide) (by decide)
        obtain ⟨rv24, M24, Kc24, Fk24_0, Fk24_1⟩ := q24
        have N24 := Fr.app N23 M24
        subst rv24
        have r24_1 : (f_turnTo_a1_picture a1 w_ROTATION_180 (.ref w_ROTATION_0) dz) = .null := by rw [f_turnTo_a1_picture, if_neg ((fun q => ne_ROTATION_0_ROTATION_180 (Value.ref.inj q)) : ¬ ((Value.ref w_ROTATION_0) = (Value.ref w_ROTATION_180)))]
        rw [r24_1] at Fk24_1
        have S_ROTATION_0_24 := own_sta_keep S_ROTATION_0 Kc24 (own_plain E_a1 (fun _ q => nomatch q))
        have E_w_ROTATION_0_24 := Exa.keep E_w_ROTATION_0 Kc24
        have S_APPLICATION_24 := own_sta_keep S_APPLICATION Kc24 (own_plain E_a1 (fun _ q => nomatch q))
        have E_w_APPLICATION_24 := Exa.keep E_w_APPLICATION Kc24
        have S_ROTATION_270_24 := own_sta_keep S_ROTATION_270 Kc24 (own_plain E_a1 (fun _ q => nomatch q))
        have E_w_ROTATION_270_24 := Exa.keep E_w_ROTATION_270 Kc24
        have S_ROTATION_180_24 := own_sta_keep S_ROTATION_180 Kc24 (own_plain E_a1 (fun _ q => nomatch q))
        have E_w_ROTATION_180_24 := Exa.keep E_w_ROTATION_180 Kc24
        have S_ROTATION_90_24 := own_sta_keep S_ROTATION_90 Kc24 (own_plain E_a1 (fun _ q => nomatch q))
        have E_w_ROTATION_90_24 := Exa.keep E_w_ROTATION_90 Kc24
        have E_a1_24 := Exa.keep E_a1 Kc24
        have Z24 : n0 ≤ T24.heap.size := Nat.le_trans Z0 Kc24.1
        have B24 : _ ≤ T24.heap.size := Nat.le_trans hB Kc24.1
        refine Go.mp st24 ?_
        show Go p e below (T24.setTop (mkF m 36 #[.val (.int p1), .val (.int p2), .val (.int p3), .val (.int p4), .val (.int p5), .val (.int p6), .val (.ref a1), .val (.int (0 : Int32)), .unset, .unset, .unset, .unset] [])) _
        refine g_iload X24 hx (hb hby at_36) rfl ?_
        refine g_iloadN X24 hx (hb hby at_38) rfl ?_
        obtain ⟨v25, T25, L25, X25, q25, st25⟩ := own_callS X24 hx hZ (y := (⟨"com/example/reorient/reorient/service/WindowPictureOfPinLaw", "turn", "(II)I"⟩ : MethodName)) (pc := 39) (Ls := #[.val (.int p1), .val (.int p2), .val (.int p3), .val (.int p4), .val (.int p5), .val (.int p6), .val (.ref a1), .val (.int (0 : Int32)), .unset, .unset, .unset, .unset]) (st := [(.int p2), (.int (0 : Int32))]) hown (hw _ (List.mem_of_getElem? (i := 48) rfl)) (hw _ (List.mem_of_getElem? (i := 49) rfl)) (hw _ (List.mem_of_getElem? (i := 13) rfl)) (hw _ (List.mem_of_getElem? (i := 50) rfl)) (by decide) (rm_turn l Z a0 hw (0 : Int32) p2 T24.heap n0 Z24 ) (rfl : T24.heap = T24.heap) pd_3 (hb hby at_39) (by rw [hml]; rfl) (argsL := [(.int (0 : Int32)), (.int p2)]) (rest := []) rfl rfl rfl (W := 0) (Nat.le_of_eq rfl) (by decide) (by decide) (by decide) (by decide)
        obtain ⟨rfl, M25, e25⟩ := q25
        have N25 := Fr.app N24 M25
        have r25 : (f_turn (0 : Int32) p2) = (-1 : Int32) := by rw [f_turn, if_neg ((by rw [q16]; decide) : ¬ ((0 : Int32) = (p2 &&& (3 : Int32))))]
        rw [r25] at st25
        refine Go.mp st25 ?_
        show Go p e below (T25.setTop (mkF m 42 #[.val (.int p1), .val (.int p2), .val (.int p3), .val (.int p4), .val (.int p5), .val (.int p6), .val (.ref a1), .val (.int (0 : Int32)), .unset, .unset, .unset, .unset] [(.int (-1 : Int32))])) _
        refine g_istore X25 hx #[.val (.int p1), .val (.int p2), .val (.int p3), .val (.int p4), .val (.int p5), .val (.int p6), .val (.ref a1), .val (.int (-1 : Int32)), .unset, .unset, .unset, .unset] (hb hby at_42) rfl ?_
        show Go p e below (T25.setTop (mkF m 44 #[.val (.int p1), .val (.int p2), .val (.int p3), .val (.int p4), .val (.int p5), .val (.int p6), .val (.ref a1), .val (.int (-1 : Int32)), .unset, .unset, .unset, .unset] [])) _
        exact seg_2 l Z a0 hw p1 p2 p3 p4 p5 p6 a1 (-1 : Int32) .null dz w_ROTATION_0 w_APPLICATION w_ROTATION_270 w_ROTATION_180 w_ROTATION_90 T24.heap n0 Z24 S_ROTATION_0_24 E_w_ROTATION_0_24 S_APPLICATION_24 E_w_APPLICATION_24 S_ROTATION_270_24 E_w_ROTATION_270_24 S_ROTATION_180_24 E_w_ROTATION_180_24 S_ROTATION_90_24 E_w_ROTATION_90_24 ne_ROTATION_0_ROTATION_270 ne_ROTATION_0_ROTATION_90 ne_ROTATION_0_ROTATION_180 ne_ROTATION_270_ROTATION_90 ne_ROTATION_270_ROTATION_180 ne_ROTATION_90_ROTATION_180 E_a1_24 Fk24_1 Fk24_0 g_a1 (Or.inl ⟨rfl, rfl⟩) hx hby hml hown hnm hret hlk hZ X25 e25 N25 hS B24
      · obtain ⟨v26, T26, L26, X26, q26, st26⟩ := own_callS X0 hx hZ (y := (⟨"com/example/reorient/reorient/service/WindowPictureOfPinLaw", "rot", "(I)Lcom/example/reorient/reorient/model/Rotation;"⟩ : MethodName)) (pc := 30) (Ls := #[.val (.int p1), .val (.int p2), .val (.int p3), .val (.int p4), .val (.int p5), .val (.int p6), .val (.ref a1), .val (.int (0 : Int32)), .unset, .unset, .unset, .unset]) (st := [(.int p2), (.ref a1)]) hown (hw _ (List.mem_of_getElem? (i := 11) rfl)) (hw _ (List.mem_of_getElem? (i := 12) rfl)) (hw _ (List.mem_of_getElem? (i := 13) rfl)) (hw _ (List.mem_of_getElem? (i := 14) rfl)) (by decide) (rm_rot l Z a0 hw p2 w_ROTATION_0 w_ROTATION_90 w_ROTATION_180 w_ROTATION_270 h0 n0 Z0 S_ROTATION_0 S_ROTATION_90 S_ROTATION_180 S_ROTATION_270) e0 pd_1 (hb hby at_30) (by rw [hml]; rfl) (argsL := [(.int p2)]) (rest := [(.ref a1)]) rfl rfl rfl (W := 1) (Nat.le_of_eq rfl) (by decide) (by decide) (by decide) (by decide)
        obtain ⟨rfl, M26, e26⟩ := q26
        have N26 := Fr.app N0 M26
        have r26 : (f_rot p2 w_ROTATION_0 w_ROTATION_90 w_ROTATION_180 w_ROTATION_270) = w_ROTATION_270 := by rw [f_rot, if_neg ((by rw [q16]; decide) : ¬ ((p2 &&& (3 : Int32)) = (0 : Int32))), if_neg ((by rw [q16]; decide) : ¬ ((p2 &&& (3 : Int32)) = (1 : Int32))), if_neg ((by rw [q16]; decide) : ¬ ((p2 &&& (3 : Int32)) = (2 : Int32)))]
        rw [r26] at st26
        refine Go.mp st26 ?_
        show Go p e below (T26.setTop (mkF m 33 #[.val (.int p1), .val (.int p2), .val (.int p3), .val (.int p4), .val (.int p5), .val (.int p6), .val (.ref a1), .val (.int (0 : Int32)), .unset, .unset, .unset, .unset] [(.ref w_ROTATION_270), (.ref a1)])) _
        obtain ⟨v27, T27, L27, X27, q27, st27⟩ := own_callV X26 hx hZ (y := (⟨"com/example/reorient/reorient/service/Window", "turnTo", "(Lcom/example/reorient/reorient/model/Rotation;)V"⟩ : MethodName)) (pc := 33) (Ls := #[.val (.int p1), .val (.int p2), .val (.int p3), .val (.int p4), .val (.int p5), .val (.int p6), .val (.ref a1), .val (.int (0 : Int32)), .unset, .unset, .unset, .unset]) (st := [(.ref w_ROTATION_270), (.ref a1)]) hown (hw _ (List.mem_of_getElem? (i := 43) rfl)) (hw _ (List.mem_of_getElem? (i := 44) rfl)) (hw _ (List.mem_of_getElem? (i := 46) rfl)) (hw _ (List.mem_of_getElem? (i := 45) rfl)) (hw _ (List.mem_of_getElem? (i := 47) rfl)) (hw _ (List.mem_of_getElem? (i := 2) rfl)) (by decide) (rm_turnTo l Z a0 hw a1 w_ROTATION_270 (.ref w_ROTATION_0) dz h0 n0 Z0 rfl E_a1 F_a1_drawn F_a1_picture g_a1) e26 E_a1 pd_2 (hb hby at_33) (by rw [hml]; rfl) (argsL := [(.ref w_ROTATION_270)]) (rest := []) rfl rfl rfl (W := 0) (Nat.le_of_eq rfl) (by decide) (by decide) (by decide) (by decide)
        obtain ⟨rv27, M27, Kc27, Fk27_0, Fk27_1⟩ := q27
        have N27 := Fr.app N26 M27
        subst rv27
        have r27_1 : (f_turnTo_a1_picture a1 w_ROTATION_270 (.ref w_ROTATION_0) dz) = .null := by rw [f_turnTo_a1_picture, if_neg ((fun q => ne_ROTATION_0_ROTATION_270 (Value.ref.inj q)) : ¬ ((Value.ref w_ROTATION_0) = (Value.ref w_ROTATION_270)))]
        rw [r27_1] at Fk27_1
        have S_ROTATION_0_27 := own_sta_keep S_ROTATION_0 Kc27 (own_plain E_a1 (fun _ q => nomatch q))
        have E_w_ROTATION_0_27 := Exa.keep E_w_ROTATION_0 Kc27
        have S_APPLICATION_27 := own_sta_keep S_APPLICATION Kc27 (own_plain E_a1 (fun _ q => nomatch q))
        have E_w_APPLICATION_27 := Exa.keep E_w_APPLICATION Kc27
        have S_ROTATION_270_27 := own_sta_keep S_ROTATION_270 Kc27 (own_plain E_a1 (fun _ q => nomatch q))
        have E_w_ROTATION_270_27 := Exa.keep E_w_ROTATION_270 Kc27
        have S_ROTATION_180_27 := own_sta_keep S_ROTATION_180 Kc27 (own_plain E_a1 (fun _ q => nomatch q))
        have E_w_ROTATION_180_27 := Exa.keep E_w_ROTATION_180 Kc27
        have S_ROTATION_90_27 := own_sta_keep S_ROTATION_90 Kc27 (own_plain E_a1 (fun _ q => nomatch q))
        have E_w_ROTATION_90_27 := Exa.keep E_w_ROTATION_90 Kc27
        have E_a1_27 := Exa.keep E_a1 Kc27
        have Z27 : n0 ≤ T27.heap.size := Nat.le_trans Z0 Kc27.1
        have B27 : _ ≤ T27.heap.size := Nat.le_trans hB Kc27.1
        refine Go.mp st27 ?_
        show Go p e below (T27.setTop (mkF m 36 #[.val (.int p1), .val (.int p2), .val (.int p3), .val (.int p4), .val (.int p5), .val (.int p6), .val (.ref a1), .val (.int (0 : Int32)), .unset, .unset, .unset, .unset] [])) _
        refine g_iload X27 hx (hb hby at_36) rfl ?_
        refine g_iloadN X27 hx (hb hby at_38) rfl ?_
        obtain ⟨v28, T28, L28, X28, q28, st28⟩ := own_callS X27 hx hZ (y := (⟨"com/example/reorient/reorient/service/WindowPictureOfPinLaw", "turn", "(II)I"⟩ : MethodName)) (pc := 39) (Ls := #[.val (.int p1), .val (.int p2), .val (.int p3), .val (.int p4), .val (.int p5), .val (.int p6), .val (.ref a1), .val (.int (0 : Int32)), .unset, .unset, .unset, .unset]) (st := [(.int p2), (.int (0 : Int32))]) hown (hw _ (List.mem_of_getElem? (i := 48) rfl)) (hw _ (List.mem_of_getElem? (i := 49) rfl)) (hw _ (List.mem_of_getElem? (i := 13) rfl)) (hw _ (List.mem_of_getElem? (i := 50) rfl)) (by decide) (rm_turn l Z a0 hw (0 : Int32) p2 T27.heap n0 Z27 ) (rfl : T27.heap = T27.heap) pd_3 (hb hby at_39) (by rw [hml]; rfl) (argsL := [(.int (0 : Int32)), (.int p2)]) (rest := []) rfl rfl rfl (W := 0) (Nat.le_of_eq rfl) (by decide) (by decide) (by decide) (by decide)
        obtain ⟨rfl, M28, e28⟩ := q28
        have N28 := Fr.app N27 M28
        have r28 : (f_turn (0 : Int32) p2) = (-1 : Int32) := by rw [f_turn, if_neg ((by rw [q16]; decide) : ¬ ((0 : Int32) = (p2 &&& (3 : Int32))))]
        rw [r28] at st28
        refine Go.mp st28 ?_
        show Go p e below (T28.setTop (mkF m 42 #[.val (.int p1), .val (.int p2), .val (.int p3), .val (.int p4), .val (.int p5), .val (.int p6), .val (.ref a1), .val (.int (0 : Int32)), .unset, .unset, .unset, .unset] [(.int (-1 : Int32))])) _
        refine g_istore X28 hx #[.val (.int p1), .val (.int p2), .val (.int p3), .val (.int p4), .val (.int p5), .val (.int p6), .val (.ref a1), .val (.int (-1 : Int32)), .unset, .unset, .unset, .unset] (hb hby at_42) rfl ?_
        show Go p e below (T28.setTop (mkF m 44 #[.val (.int p1), .val (.int p2), .val (.int p3), .val (.int p4), .val (.int p5), .val (.int p6), .val (.ref a1), .val (.int (-1 : Int32)), .unset, .unset, .unset, .unset] [])) _
        exact seg_2 l Z a0 hw p1 p2 p3 p4 p5 p6 a1 (-1 : Int32) .null dz w_ROTATION_0 w_APPLICATION w_ROTATION_270 w_ROTATION_180 w_ROTATION_90 T27.heap n0 Z27 S_ROTATION_0_27 E_w_ROTATION_0_27 S_APPLICATION_27 E_w_APPLICATION_27 S_ROTATION_270_27 E_w_ROTATION_270_27 S_ROTATION_180_27 E_w_ROTATION_180_27 S_ROTATION_90_27 E_w_ROTATION_90_27 ne_ROTATION_0_ROTATION_270 ne_ROTATION_0_ROTATION_90 ne_ROTATION_0_ROTATION_180 ne_ROTATION_270_ROTATION_90 ne_ROTATION_270_ROTATION_180 ne_ROTATION_90_ROTATION_180 E_a1_27 Fk27_1 Fk27_0 g_a1 (Or.inl ⟨rfl, rfl⟩) hx hby hml hown hnm hret hlk hZ X28 e28 N28 hS B27
  · refine g_iload X0 hx (hb hby at_20) rfl ?_
    refine g_iconst X0 hx (1 : Int32) (hb hby at_22) (by decide) ?_
    refine g_iand X0 hx (hb hby at_23) ?_
    by_cases c24_29 : (p6 &&& (1 : Int32)) = (0 : Int32)
    · refine g_ifYes X0 hx 44 (hb hby at_24) ((if0 _ _).trans (teq c24_29).1) (by decide) (by decide) ?_
      show Go p e below (s₁.setTop (mkF m 44 #[.val (.int p1), .val (.int p2), .val (.int p3), .val (.int p4), .val (.int p5), .val (.int p6), .val (.ref a1), .val (.int (1 : Int32)), .unset, .unset, .unset, .unset] [])) _
      exact seg_2 l Z a0 hw p1 p2 p3 p4 p5 p6 a1 (1 : Int32) (.ref w_ROTATION_90) dz w_ROTATION_0 w_APPLICATION w_ROTATION_270 w_ROTATION_180 w_ROTATION_90 h0 n0 Z0 S_ROTATION_0 E_w_ROTATION_0 S_APPLICATION E_w_APPLICATION S_ROTATION_270 E_w_ROTATION_270 S_ROTATION_180 E_w_ROTATION_180 S_ROTATION_90 E_w_ROTATION_90 ne_ROTATION_0_ROTATION_270 ne_ROTATION_0_ROTATION_90 ne_ROTATION_0_ROTATION_180 ne_ROTATION_270_ROTATION_90 ne_ROTATION_270_ROTATION_180 ne_ROTATION_90_ROTATION_180 E_a1 F_a1_picture F_a1_drawn g_a1 (Or.inr (Or.inr (Or.inl ⟨rfl, rfl⟩))) hx hby hml hown hnm hret hlk hZ X0 e0 N0 hS hB
    · refine g_ifNo X0 hx (hb hby at_24) ((if0 _ _).trans (feq c24_29).1) ?_
      refine g_aload X0 hx (hb hby at_27) rfl rfl ?_
      refine g_iloadN X0 hx (hb hby at_29) rfl ?_
      show Go p e below (s₁.setTop (mkF m 30 #[.val (.int p1), .val (.int p2), .val (.int p3), .val (.int p4), .val (.int p5), .val (.int p6), .val (.ref a1), .val (.int (1 : Int32)), .unset, .unset, .unset, .unset] [(.int p2), (.ref a1)])) _
      rcases own_and3 p2 with q30 | q30 | q30 | q30
      · obtain ⟨v31, T31, L31, X31, q31, st31⟩ := own_callS X0 hx hZ (y := (⟨"com/example/reorient/reorient/service/WindowPictureOfPinLaw", "rot", "(I)Lcom/example/reorient/reorient/model/Rotation;"⟩ : MethodName)) (pc := 30) (Ls := #[.val (.int p1), .val (.int p2), .val (.int p3), .val (.int p4), .val (.int p5), .val (.int p6), .val (.ref a1), .val (.int (1 : Int32)), .unset, .unset, .unset, .unset]) (st := [(.int p2), (.ref a1)]) hown (hw _ (List.mem_of_getElem? (i := 11) rfl)) (hw _ (List.mem_of_getElem? (i := 12) rfl)) (hw _ (List.mem_of_getElem? (i := 13) rfl)) (hw _ (List.mem_of_getElem? (i := 14) rfl)) (by decide) (rm_rot l Z a0 hw p2 w_ROTATION_0 w_ROTATION_90 w_ROTATION_180 w_ROTATION_270 h0 n0 Z0 S_ROTATION_0 S_ROTATION_90 S_ROTATION_180 S_ROTATION_270) e0 pd_1 (hb hby at_30) (by rw [hml]; rfl) (argsL := [(.int p2)]) (rest := [(.ref a1)]) rfl rfl rfl (W := 1) (Nat.le_of_eq rfl) (by decide) (by decide) (by decide) (by decide)
        obtain ⟨rfl, M31, e31⟩ := q31
        have N31 := Fr.app N0 M31
        have r31 : (f_rot p2 w_ROTATION_0 w_ROTATION_90 w_ROTATION_180 w_ROTATION_270) = w_ROTATION_0 := by rw [f_rot, if_pos (q30 : (p2 &&& (3 : Int32)) = (0 : Int32))]
        rw [r31] at st31
        refine Go.mp st31 ?_
        show Go p e below (T31.setTop (mkF m 33 #[.val (.int p1), .val (.int p2), .val (.int p3), .val (.int p4), .val (.int p5), .val (.int p6), .val (.ref a1), .val (.int (1 : Int32)), .unset, .unset, .unset, .unset] [(.ref w_ROTATION_0), (.ref a1)])) _
        obtain ⟨v32, T32, L32, X32, q32, st32⟩ := own_callV X31 hx hZ (y := (⟨"com/example/reorient/reorient/service/Window", "turnTo", "(Lcom/example/reorient/reorient/model/Rotation;)V"⟩ : MethodName)) (pc := 33) (Ls := #[.val (.int p1), .val (.int p2), .val (.int p3), .val (.int p4), .val (.int p5), .val (.int p6), .val (.ref a1), .val (.int (1 : Int32)), .unset, .unset, .unset, .unset]) (st := [(.ref w_ROTATION_0), (.ref a1)]) hown (hw _ (List.mem_of_getElem? (i := 43) rfl)) (hw _ (List.mem_of_getElem? (i := 44) rfl)) (hw _ (List.mem_of_getElem? (i := 46) rfl)) (hw _ (List.mem_of_getElem? (i := 45) rfl)) (hw _ (List.mem_of_getElem? (i := 47) rfl)) (hw _ (List.mem_of_getElem? (i := 2) rfl)) (by decide) (rm_turnTo l Z a0 hw a1 w_ROTATION_0 (.ref w_ROTATION_90) dz h0 n0 Z0 rfl E_a1 F_a1_drawn F_a1_picture g_a1) e31 E_a1 pd_2 (hb hby at_33) (by rw [hml]; rfl) (argsL := [(.ref w_ROTATION_0)]) (rest := []) rfl rfl rfl (W := 0) (Nat.le_of_eq rfl) (by decide) (by decide) (by decide) (by decide)
        obtain ⟨rv32, M32, Kc32, Fk32_0, Fk32_1⟩ := q32
        have N32 := Fr.app N31 M32
        subst rv32
        have r32_1 : (f_turnTo_a1_picture a1 w_ROTATION_0 (.ref w_ROTATION_90) dz) = .null := by rw [f_turnTo_a1_picture, if_neg ((fun q => ne_ROTATION_0_ROTATION_90 (Value.ref.inj q).symm) : ¬ ((Value.ref w_ROTATION_90) = (Value.ref w_ROTATION_0)))]
        rw [r32_1] at Fk32_1
        have S_ROTATION_0_32 := own_sta_keep S_ROTATION_0 Kc32 (own_plain E_a1 (fun _ q => nomatch q))
        have E_w_ROTATION_0_32 := Exa.keep E_w_ROTATION_0 Kc32
        have S_APPLICATION_32 := own_sta_keep S_APPLICATION Kc32 (own_plain E_a1 (fun _ q => nomatch q))
        have E_w_APPLICATION_32 := Exa.keep E_w_APPLICATION Kc32
        have S_ROTATION_270_32 := own_sta_keep S_ROTATION_270 Kc32 (own_plain E_a1 (fun _ q => nomatch q))
        have E_w_ROTATION_270_32 := Exa.keep E_w_ROTATION_270 Kc32
        have S_ROTATION_180_32 := own_sta_keep S_ROTATION_180 Kc32 (own_plain E_a1 (fun _ q => nomatch q))
        have E_w_ROTATION_180_32 := Exa.keep E_w_ROTATION_180 Kc32
        have S_ROTATION_90_32 := own_sta_keep S_ROTATION_90 Kc32 (own_plain E_a1 (fun _ q => nomatch q))
        have E_w_ROTATION_90_32 := Exa.keep E_w_ROTATION_90 Kc32
        have E_a1_32 := Exa.keep E_a1 Kc32
        have Z32 : n0 ≤ T32.heap.size := Nat.le_trans Z0 Kc32.1
        have B32 : _ ≤ T32.heap.size := Nat.le_trans hB Kc32.1
        refine Go.mp st32 ?_
        show Go p e below (T32.setTop (mkF m 36 #[.val (.int p1), .val (.int p2), .val (.int p3), .val (.int p4), .val (.int p5), .val (.int p6), .val (.ref a1), .val (.int (1 : Int32)), .unset, .unset, .unset, .unset] [])) _
        refine g_iload X32 hx (hb hby at_36) rfl ?_
        refine g_iloadN X32 hx (hb hby at_38) rfl ?_
        obtain ⟨v33, T33, L33, X33, q33, st33⟩ := own_callS X32 hx hZ (y := (⟨"com/example/reorient/reorient/service/WindowPictureOfPinLaw", "turn", "(II)I"⟩ : MethodName)) (pc := 39) (Ls := #[.val (.int p1), .val (.int p2), .val (.int p3), .val (.int p4), .val (.int p5), .val (.int p6), .val (.ref a1), .val (.int (1 : Int32)), .unset, .unset, .unset, .unset]) (st := [(.int p2), (.int (1 : Int32))]) hown (hw _ (List.mem_of_getElem? (i := 48) rfl)) (hw _ (List.mem_of_getElem? (i := 49) rfl)) (hw _ (List.mem_of_getElem? (i := 13) rfl)) (hw _ (List.mem_of_getElem? (i := 50) rfl)) (by decide) (rm_turn l Z a0 hw (1 : Int32) p2 T32.heap n0 Z32 ) (rfl : T32.heap = T32.heap) pd_3 (hb hby at_39) (by rw [hml]; rfl) (argsL := [(.int (1 : Int32)), (.int p2)]) (rest := []) rfl rfl rfl (W := 0) (Nat.le_of_eq rfl) (by decide) (by decide) (by decide) (by decide)
        obtain ⟨rfl, M33, e33⟩ := q33
        have N33 := Fr.app N32 M33
        have r33 : (f_turn (1 : Int32) p2) = (-1 : Int32) := by rw [f_turn, if_neg ((by rw [q30]; decide) : ¬ ((1 : Int32) = (p2 &&& (3 : Int32))))]
        rw [r33] at st33
        refine Go.mp st33 ?_
        show Go p e below (T33.setTop (mkF m 42 #[.val (.int p1), .val (.int p2), .val (.int p3), .val (.int p4), .val (.int p5), .val (.int p6), .val (.ref a1), .val (.int (1 : Int32)), .unset, .unset, .unset, .unset] [(.int (-1 : Int32))])) _
        refine g_istore X33 hx #[.val (.int p1), .val (.int p2), .val (.int p3), .val (.int p4), .val (.int p5), .val (.int p6), .val (.ref a1), .val (.int (-1 : Int32)), .unset, .unset, .unset, .unset] (hb hby at_42) rfl ?_
        show Go p e below (T33.setTop (mkF m 44 #[.val (.int p1), .val (.int p2), .val (.int p3), .val (.int p4), .val (.int p5), .val (.int p6), .val (.ref a1), .val (.int (-1 : Int32)), .unset, .unset, .unset, .unset] [])) _
        exact seg_2 l Z a0 hw p1 p2 p3 p4 p5 p6 a1 (-1 : Int32) .null dz w_ROTATION_0 w_APPLICATION w_ROTATION_270 w_ROTATION_180 w_ROTATION_90 T32.heap n0 Z32 S_ROTATION_0_32 E_w_ROTATION_0_32 S_APPLICATION_32 E_w_APPLICATION_32 S_ROTATION_270_32 E_w_ROTATION_270_32 S_ROTATION_180_32 E_w_ROTATION_180_32 S_ROTATION_90_32 E_w_ROTATION_90_32 ne_ROTATION_0_ROTATION_270 ne_ROTATION_0_ROTATION_90 ne_ROTATION_0_ROTATION_180 ne_ROTATION_270_ROTATION_90 ne_ROTATION_270_ROTATION_180 ne_ROTATION_90_ROTATION_180 E_a1_32 Fk32_1 Fk32_0 g_a1 (Or.inl ⟨rfl, rfl⟩) hx hby hml hown hnm hret hlk hZ X33 e33 N33 hS B32
      · obtain ⟨v34, T34, L34, X34, q34, st34⟩ := own_callS X0 hx hZ (y := (⟨"com/example/reorient/reorient/service/WindowPictureOfPinLaw", "rot", "(I)Lcom/example/reorient/reorient/model/Rotation;"⟩ : MethodName)) (pc := 30) (Ls := #[.val (.int p1), .val (.int p2), .val (.int p3), .val (.int p4), .val (.int p5), .val (.int p6), .val (.ref a1), .val (.int (1 : Int32)), .unset, .unset, .unset, .unset]) (st := [(.int p2), (.ref a1)]) hown (hw _ (List.mem_of_getElem? (i := 11) rfl)) (hw _ (List.mem_of_getElem? (i := 12) rfl)) (hw _ (List.mem_of_getElem? (i := 13) rfl)) (hw _ (List.mem_of_getElem? (i := 14) rfl)) (by decide) (rm_rot l Z a0 hw p2 w_ROTATION_0 w_ROTATION_90 w_ROTATION_180 w_ROTATION_270 h0 n0 Z0 S_ROTATION_0 S_ROTATION_90 S_ROTATION_180 S_ROTATION_270) e0 pd_1 (hb hby at_30) (by rw [hml]; rfl) (argsL := [(.int p2)]) (rest := [(.ref a1)]) rfl rfl rfl (W := 1) (Nat.le_of_eq rfl) (by decide) (by decide) (by decide) (by decide)
        obtain ⟨rfl, M34, e34⟩ := q34
        have N34 := Fr.app N0 M34
        have r34 : (f_rot p2 w_ROTATION_0 w_ROTATION_90 w_ROTATION_180 w_ROTATION_270) = w_ROTATION_90 := by rw [f_rot, if_neg ((by rw [q30]; decide) : ¬ ((p2 &&& (3 : Int32)) = (0 : Int32))), if_pos (q30 : (p2 &&& (3 : Int32)) = (1 : Int32))]
        rw [r34] at st34
        refine Go.mp st34 ?_
        show Go p e below (T34.setTop (mkF m 33 #[.val (.int p1), .val (.int p2), .val (.int p3), .val (.int p4), .val (.int p5), .val (.int p6), .val (.ref a1), .val (.int (1 : Int32)), .unset, .unset, .unset, .unset] [(.ref w_ROTATION_90), (.ref a1)])) _
        obtain ⟨v35, T35, L35, X35, q35, st35⟩ := own_callV X34 hx hZ (y := (⟨"com/example/reorient/reorient/service/Window", "turnTo", "(Lcom/example/reorient/reorient/model/Rotation;)V"⟩ : MethodName)) (pc := 33) (Ls := #[.val (.int p1), .val (.int p2), .val (.int p3), .val (.int p4), .val (.int p5), .val (.int p6), .val (.ref a1), .val (.int (1 : Int32)), .unset, .unset, .unset, .unset]) (st := [(.ref w_ROTATION_90), (.ref a1)]) hown (hw _ (List.mem_of_getElem? (i := 43) rfl)) (hw _ (List.mem_of_getElem? (i := 44) rfl)) (hw _ (List.mem_of_getElem? (i := 46) rfl)) (hw _ (List.mem_of_getElem? (i := 45) rfl)) (hw _ (List.mem_of_getElem? (i := 47) rfl)) (hw _ (List.mem_of_getElem? (i := 2) rfl)) (by decide) (rm_turnTo l Z a0 hw a1 w_ROTATION_90 (.ref w_ROTATION_90) dz h0 n0 Z0 rfl E_a1 F_a1_drawn F_a1_picture g_a1) e34 E_a1 pd_2 (hb hby at_33) (by rw [hml]; rfl) (argsL := [(.ref w_ROTATION_90)]) (rest := []) rfl rfl rfl (W := 0) (Nat.le_of_eq rfl) (by decide) (by decide) (by decide) (by decide)
        obtain ⟨rv35, M35, Kc35, Fk35_0, Fk35_1⟩ := q35
        have N35 := Fr.app N34 M35
        subst rv35
        have r35_1 : (f_turnTo_a1_picture a1 w_ROTATION_90 (.ref w_ROTATION_90) dz) = (.ref w_ROTATION_90) := by rw [f_turnTo_a1_picture, if_pos (rfl : (Value.ref w_ROTATION_90) = (Value.ref w_ROTATION_90))]
        rw [r35_1] at Fk35_1
        have S_ROTATION_0_35 := own_sta_keep S_ROTATION_0 Kc35 (own_plain E_a1 (fun _ q => nomatch q))
        have E_w_ROTATION_0_35 := Exa.keep E_w_ROTATION_0 Kc35
        have S_APPLICATION_35 := own_sta_keep S_APPLICATION Kc35 (own_plain E_a1 (fun _ q => nomatch q))
        have E_w_APPLICATION_35 := Exa.keep E_w_APPLICATION Kc35
        have S_ROTATION_270_35 := own_sta_keep S_ROTATION_270 Kc35 (own_plain E_a1 (fun _ q => nomatch q))
        have E_w_ROTATION_270_35 := Exa.keep E_w_ROTATION_270 Kc35
        have S_ROTATION_180_35 := own_sta_keep S_ROTATION_180 Kc35 (own_plain E_a1 (fun _ q => nomatch q))
        have E_w_ROTATION_180_35 := Exa.keep E_w_ROTATION_180 Kc35
        have S_ROTATION_90_35 := own_sta_keep S_ROTATION_90 Kc35 (own_plain E_a1 (fun _ q => nomatch q))
        have E_w_ROTATION_90_35 := Exa.keep E_w_ROTATION_90 Kc35
        have E_a1_35 := Exa.keep E_a1 Kc35
        have Z35 : n0 ≤ T35.heap.size := Nat.le_trans Z0 Kc35.1
        have B35 : _ ≤ T35.heap.size := Nat.le_trans hB Kc35.1
        refine Go.mp st35 ?_
        show Go p e below (T35.setTop (mkF m 36 #[.val (.int p1), .val (.int p2), .val (.int p3), .val (.int p4), .val (.int p5), .val (.int p6), .val (.ref a1), .val (.int (1 : Int32)), .unset, .unset, .unset, .unset] [])) _
        refine g_iload X35 hx (hb hby at_36) rfl ?_
        refine g_iloadN X35 hx (hb hby at_38) rfl ?_
        obtain ⟨v36, T36, L36, X36, q36, st36⟩ := own_callS X35 hx hZ (y := (⟨"com/example/reorient/reorient/service/WindowPictureOfPinLaw", "turn", "(II)I"⟩ : MethodName)) (pc := 39) (Ls := #[.val (.int p1), .val (.int p2), .val (.int p3), .val (.int p4), .val (.int p5), .val (.int p6), .val (.ref a1), .val (.int (1 : Int32)), .unset, .unset, .unset, .unset]) (st := [(.int p2), (.int (1 : Int32))]) hown (hw _ (List.mem_of_getElem? (i := 48) rfl)) (hw _ (List.mem_of_getElem? (i := 49) rfl)) (hw _ (List.mem_of_getElem? (i := 13) rfl)) (hw _ (List.mem_of_getElem? (i := 50) rfl)) (by decide) (rm_turn l Z a0 hw (1 : Int32) p2 T35.heap n0 Z35 ) (rfl : T35.heap = T35.heap) pd_3 (hb hby at_39) (by rw [hml]; rfl) (argsL := [(.int (1 : Int32)), (.int p2)]) (rest := []) rfl rfl rfl (W := 0) (Nat.le_of_eq rfl) (by decide) (by decide) (by decide) (by decide)
        obtain ⟨rfl, M36, e36⟩ := q36
        have N36 := Fr.app N35 M36
        have r36 : (f_turn (1 : Int32) p2) = (1 : Int32) := by rw [f_turn, if_pos (q30.symm : (1 : Int32) = (p2 &&& (3 : Int32)))]
        rw [r36] at st36
        refine Go.mp st36 ?_
        show Go p e below (T36.setTop (mkF m 42 #[.val (.int p1), .val (.int p2), .val (.int p3), .val (.int p4), .val (.int p5), .val (.int p6), .val (.ref a1), .val (.int (1 : Int32)), .unset, .unset, .unset, .unset] [(.int (1 : Int32))])) _
        refine g_istore X36 hx #[.val (.int p1), .val (.int p2), .val (.int p3), .val (.int p4), .val (.int p5), .val (.int p6), .val (.ref a1), .val (.int (1 : Int32)), .unset, .unset, .unset, .unset] (hb hby at_42) rfl ?_
        show Go p e below (T36.setTop (mkF m 44 #[.val (.int p1), .val (.int p2), .val (.int p3), .val (.int p4), .val (.int p5), .val (.int p6), .val (.ref a1), .val (.int (1 : Int32)), .unset, .unset, .unset, .unset] [])) _
        exact seg_2 l Z a0 hw p1 p2 p3 p4 p5 p6 a1 (1 : Int32) (.ref w_ROTATION_90) dz w_ROTATION_0 w_APPLICATION w_ROTATION_270 w_ROTATION_180 w_ROTATION_90 T35.heap n0 Z35 S_ROTATION_0_35 E_w_ROTATION_0_35 S_APPLICATION_35 E_w_APPLICATION_35 S_ROTATION_270_35 E_w_ROTATION_270_35 S_ROTATION_180_35 E_w_ROTATION_180_35 S_ROTATION_90_35 E_w_ROTATION_90_35 ne_ROTATION_0_ROTATION_270 ne_ROTATION_0_ROTATION_90 ne_ROTATION_0_ROTATION_180 ne_ROTATION_270_ROTATION_90 ne_ROTATION_270_ROTATION_180 ne_ROTATION_90_ROTATION_180 E_a1_35 Fk35_1 Fk35_0 g_a1 (Or.inr (Or.inr (Or.inl ⟨rfl, rfl⟩))) hx hby hml hown hnm hret hlk hZ X36 e36 N36 hS B35
      · obtain ⟨v37, T37, L37, X37, q37, st37⟩ := own_callS X0 hx hZ (y := (⟨"com/example/reorient/reorient/service/WindowPictureOfPinLaw", "rot", "(I)Lcom/example/reorient/reorient/model/Rotation;"⟩ : MethodName)) (pc := 30) (Ls := #[.val (.int p1), .val (.int p2), .val (.int p3), .val (.int p4), .val (.int p5), .val (.int p6), .val (.ref a1), .val (.int (1 : Int32)), .unset, .unset, .unset, .unset]) (st := [(.int p2), (.ref a1)]) hown (hw _ (List.mem_of_getElem? (i := 11) rfl)) (hw _ (List.mem_of_getElem? (i := 12) rfl)) (hw _ (List.mem_of_getElem? (i := 13) rfl)) (hw _ (List.mem_of_getElem? (i := 14) rfl)) (by decide) (rm_rot l Z a0 hw p2 w_ROTATION_0 w_ROTATION_90 w_ROTATION_180 w_ROTATION_270 h0 n0 Z0 S_ROTATION_0 S_ROTATION_90 S_ROTATION_180 S_ROTATION_270) e0 pd_1 (hb hby at_30) (by rw [hml]; rfl) (argsL := [(.int p2)]) (rest := [(.ref a1)]) rfl rfl rfl (W := 1) (Nat.le_of_eq rfl) (by decide) (by decide) (by decide) (by decide)
        obtain ⟨rfl, M37, e37⟩ := q37
        have N37 := Fr.app N0 M37
        have r37 : (f_rot p2 w_ROTATION_0 w_ROTATION_90 w_ROTATION_180 w_ROTATION_270) = w_ROTATION_180 := by rw [f_rot, if_neg ((by rw [q30]; decide) : ¬ ((p2 &&& (3 : Int32)) = (0 : Int32))), if_neg ((by rw [q30]; decide) : ¬ ((p2 &&& (3 : Int32)) = (1 : Int32))), if_pos (q30 : (p2 &&& (3 : Int32)) = (2 : Int32))]
        rw [r37] at st37
        refine Go.mp st37 ?_
        show Go p e below (T37.setTop (mkF m 33 #[.val (.int p1), .val (.int p2), .val (.int p3), .val (.int p4), .val (.int p5), .val (.int p6), .val (.ref a1), .val (.int (1 : Int32)), .unset, .unset, .unset, .unset] [(.ref w_ROTATION_180), (.ref a1)])) _
        obtain ⟨v38, T38, L38, X38, q38, st38⟩ := own_callV X37 hx hZ (y := (⟨"com/example/reorient/reorient/service/Window", "turnTo", "(Lcom/example/reorient/reorient/model/Rotation;)V"⟩ : MethodName)) (pc := 33) (Ls := #[.val (.int p1), .val (.int p2), .val (.int p3), .val (.int p4), .val (.int p5), .val (.int p6), .val (.ref a1), .val (.int (1 : Int32)), .unset, .unset, .unset, .unset]) (st := [(.ref w_ROTATION_180), (.ref a1)]) hown (hw _ (List.mem_of_getElem? (i := 43) rfl)) (hw _ (List.mem_of_getElem? (i := 44) rfl)) (hw _ (List.mem_of_getElem? (i := 46) rfl)) (hw _ (List.mem_of_getElem? (i := 45) rfl)) (hw _ (List.mem_of_getElem? (i := 47) rfl)) (hw _ (List.mem_of_getElem? (i := 2) rfl)) (by decide) (rm_turnTo l Z a0 hw a1 w_ROTATION_180 (.ref w_ROTATION_90) dz h0 n0 Z0 rfl E_a1 F_a1_drawn F_a1_picture g_a1) e37 E_a1 pd_2 (hb hby at_33) (by rw [hml]; rfl) (argsL := [(.ref w_ROTATION_180)]) (rest := []) rfl rfl rfl (W := 0) (Nat.le_of_eq rfl) (by decide) (by decide) (by decide) (by decide)
        obtain ⟨rv38, M38, Kc38, Fk38_0, Fk38_1⟩ := q38
        have N38 := Fr.app N37 M38
        subst rv38
        have r38_1 : (f_turnTo_a1_picture a1 w_ROTATION_180 (.ref w_ROTATION_90) dz) = .null := by rw [f_turnTo_a1_picture, if_neg ((fun q => ne_ROTATION_90_ROTATION_180 (Value.ref.inj q)) : ¬ ((Value.ref w_ROTATION_90) = (Value.ref w_ROTATION_180)))]
        rw [r38_1] at Fk38_1
        have S_ROTATION_0_38 := own_sta_keep S_ROTATION_0 Kc38 (own_plain E_a1 (fun _ q => nomatch q))
        have E_w_ROTATION_0_38 := Exa.keep E_w_ROTATION_0 Kc38
        have S_APPLICATION_38 := own_sta_keep S_APPLICATION Kc38 (own_plain E_a1 (fun _ q => nomatch q))
        have E_w_APPLICATION_38 := Exa.keep E_w_APPLICATION Kc38
        have S_ROTATION_270_38 := own_sta_keep S_ROTATION_270 Kc38 (own_plain E_a1 (fun _ q => nomatch q))
        have E_w_ROTATION_270_38 := Exa.keep E_w_ROTATION_270 Kc38
        have S_ROTATION_180_38 := own_sta_keep S_ROTATION_180 Kc38 (own_plain E_a1 (fun _ q => nomatch q))
        have E_w_ROTATION_180_38 := Exa.keep E_w_ROTATION_180 Kc38
        have S_ROTATION_90_38 := own_sta_keep S_ROTATION_90 Kc38 (own_plain E_a1 (fun _ q => nomatch q))
        have E_w_ROTATION_90_38 := Exa.keep E_w_ROTATION_90 Kc38
        have E_a1_38 := Exa.keep E_a1 Kc38
        have Z38 : n0 ≤ T38.heap.size := Nat.le_trans Z0 Kc38.1
        have B38 : _ ≤ T38.heap.size := Nat.le_trans hB Kc38.1
        refine Go.mp st38 ?_
        show Go p e below (T38.setTop (mkF m 36 #[.val (.int p1), .val (.int p2), .val (.int p3), .val (.int p4), .val (.int p5), .val (.int p6), .val (.ref a1), .val (.int (1 : Int32)), .unset, .unset, .unset, .unset] [])) _
        refine g_iload X38 hx (hb hby at_36) rfl ?_
        refine g_iloadN X38 hx (hb hby at_38) rfl ?_
        obtain ⟨v39, T39, L39, X39, q39, st39⟩ := own_callS X38 hx hZ (y := (⟨"com/example/reorient/reorient/service/WindowPictureOfPinLaw", "turn", "(II)I"⟩ : MethodName)) (pc := 39) (Ls := #[.val (.int p1), .val (.int p2), .val (.int p3), .val (.int p4), .val (.int p5), .val (.int p6), .val (.ref a1), .val (.int (1 : Int32)), .unset, .unset, .unset, .unset]) (st := [(.int p2), (.int (1 : Int32))]) hown (hw _ (List.mem_of_getElem? (i := 48) rfl)) (hw _ (List.mem_of_getElem? (i := 49) rfl)) (hw _ (List.mem_of_getElem? (i := 13) rfl)) (hw _ (List.mem_of_getElem? (i := 50) rfl)) (by decide) (rm_turn l Z a0 hw (1 : Int32) p2 T38.heap n0 Z38 ) (rfl : T38.heap = T38.heap) pd_3 (hb hby at_39) (by rw [hml]; rfl) (argsL := [(.int (1 : Int32)), (.int p2)]) (rest := []) rfl rfl rfl (W := 0) (Nat.le_of_eq rfl) (by decide) (by decide) (by decide) (by decide)
        obtain ⟨rfl, M39, e39⟩ := q39
        have N39 := Fr.app N38 M39
        have r39 : (f_turn (1 : Int32) p2) = (-1 : Int32) := by rw [f_turn, if_neg ((by rw [q30]; decide) : ¬ ((1 : Int32) = (p2 &&& (3 : Int32))))]
        rw [r39] at st39
        refine Go.mp st39 ?_
        show Go p e below (T39.setTop (mkF m 42 #[.val (.int p1), .val (.int p2), .val (.int p3), .val (.int p4), .val (.int p5), .val (.int p6), .val (.ref a1), .val (.int (1 : Int32)), .unset, .unset, .unset, .unset] [(.int (-1 : Int32))])) _
        refine g_istore X39 hx #[.val (.int p1), .val (.int p2), .val (.int p3), .val (.int p4), .val (.int p5), .val (.int p6), .val (.ref a1), .val (.int (-1 : Int32)), .unset, .unset, .unset, .unset] (hb hby at_42) rfl ?_
        show Go p e below (T39.setTop (mkF m 44 #[.val (.int p1), .val (.int p2), .val (.int p3), .val (.int p4), .val (.int p5), .val (.int p6), .val (.ref a1), .val (.int (-1 : Int32)), .unset, .unset, .unset, .unset] [])) _
        exact seg_2 l Z a0 hw p1 p2 p3 p4 p5 p6 a1 (-1 : Int32) .null dz w_ROTATION_0 w_APPLICATION w_ROTATION_270 w_ROTATION_180 w_ROTATION_90 T38.heap n0 Z38 S_ROTATION_0_38 E_w_ROTATION_0_38 S_APPLICATION_38 E_w_APPLICATION_38 S_ROTATION_270_38 E_w_ROTATION_270_38 S_ROTATION_180_38 E_w_ROTATION_180_38 S_ROTATION_90_38 E_w_ROTATION_90_38 ne_ROTATION_0_ROTATION_270 ne_ROTATION_0_ROTATION_90 ne_ROTATION_0_ROTATION_180 ne_ROTATION_270_ROTATION_90 ne_ROTATION_270_ROTATION_180 ne_ROTATION_90_ROTATION_180 E_a1_38 Fk38_1 Fk38_0 g_a1 (Or.inl ⟨rfl, rfl⟩) hx hby hml hown hnm hret hlk hZ X39 e39 N39 hS B38
      · obtain ⟨v40, T40, L40, X40, q40, st40⟩ := own_callS X0 hx hZ (y := (⟨"com/example/reorient/reorient/service/WindowPictureOfPinLaw", "rot", "(I)Lcom/example/reorient/reorient/model/Rotation;"⟩ : MethodName)) (pc := 30) (Ls := #[.val (.int p1), .val (.int p2), .val (.int p3), .val (.int p4), .val (.int p5), .val (.int p6), .val (.ref a1), .val (.int (1 : Int32)), .unset, .unset, .unset, .unset]) (st := [(.int p2), (.ref a1)]) hown (hw _ (List.mem_of_getElem? (i := 11) rfl)) (hw _ (List.mem_of_getElem? (i := 12) rfl)) (hw _ (List.mem_of_getElem? (i := 13) rfl)) (hw _ (List.mem_of_getElem? (i := 14) rfl)) (by decide) (rm_rot l Z a0 hw p2 w_ROTATION_0 w_ROTATION_90 w_ROTATION_180 w_ROTATION_270 h0 n0 Z0 S_ROTATION_0 S_ROTATION_90 S_ROTATION_180 S_ROTATION_270) e0 pd_1 (hb hby at_30) (by rw [hml]; rfl) (argsL := [(.int p2)]) (rest := [(.ref a1)]) rfl rfl rfl (W := 1) (Nat.le_of_eq rfl) (by decide) (by decide) (by decide) (by decide)
        obtain ⟨rfl, M40, e40⟩ := q40
        have N40 := Fr.app N0 M40
        have r40 : (f_rot p2 w_ROTATION_0 w_ROTATION_90 w_ROTATION_180 w_ROTATION_270) = w_ROTATION_270 := by rw [f_rot, if_neg ((by rw [q30]; decide) : ¬ ((p2 &&& (3 : Int32)) = (0 : Int32))), if_neg ((by rw [q30]; decide) : ¬ ((p2 &&& (3 : Int32)) = (1 : Int32))), if_neg ((by rw [q30]; decide) : ¬ ((p2 &&& (3 : Int32)) = (2 : Int32)))]
        rw [r40] at st40
        refine Go.mp st40 ?_
        show Go p e below (T40.setTop (mkF m 33 #[.val (.int p1), .val (.int p2), .val (.int p3), .val (.int p4), .val (.int p5), .val (.int p6), .val (.ref a1), .val (.int (1 : Int32)), .unset, .unset, .unset, .unset] [(.ref w_ROTATION_270), (.ref a1)])) _
        obtain ⟨v41, T41, L41, X41, q41, st41⟩ := own_callV X40 hx hZ (y := (⟨"com/example/reorient/reorient/service/Window", "turnTo", "(Lcom/example/reorient/reorient/model/Rotation;)V"⟩ : MethodName)) (pc := 33) (Ls := #[.val (.int p1), .val (.int p2), .val (.int p3), .val (.int p4), .val (.int p5), .val (.int p6), .val (.ref a1), .val (.int (1 : Int32)), .unset, .unset, .unset, .unset]) (st := [(.ref w_ROTATION_270), (.ref a1)]) hown (hw _ (List.mem_of_getElem? (i := 43) rfl)) (hw _ (List.mem_of_getElem? (i := 44) rfl)) (hw _ (List.mem_of_getElem? (i := 46) rfl)) (hw _ (List.mem_of_getElem? (i := 45) rfl)) (hw _ (List.mem_of_getElem? (i := 47) rfl)) (hw _ (List.mem_of_getElem? (i := 2) rfl)) (by decide) (rm_turnTo l Z a0 hw a1 w_ROTATION_270 (.ref w_ROTATION_90) dz h0 n0 Z0 rfl E_a1 F_a1_drawn F_a1_picture g_a1) e40 E_a1 pd_2 (hb hby at_33) (by rw [hml]; rfl) (argsL := [(.ref w_ROTATION_270)]) (rest := []) rfl rfl rfl (W := 0) (Nat.le_of_eq rfl) (by decide) (by decide) (by decide) (by decide)
        obtain ⟨rv41, M41, Kc41, Fk41_0, Fk41_1⟩ := q41
        have N41 := Fr.app N40 M41
        subst rv41
        have r41_1 : (f_turnTo_a1_picture a1 w_ROTATION_270 (.ref w_ROTATION_90) dz) = .null := by rw [f_turnTo_a1_picture, if_neg ((fun q => ne_ROTATION_270_ROTATION_90 (Value.ref.inj q).symm) : ¬ ((Value.ref w_ROTATION_90) = (Value.ref w_ROTATION_270)))]
        rw [r41_1] at Fk41_1
        have S_ROTATION_0_41 := own_sta_keep S_ROTATION_0 Kc41 (own_plain E_a1 (fun _ q => nomatch q))
        have E_w_ROTATION_0_41 := Exa.keep E_w_ROTATION_0 Kc41
        have S_APPLICATION_41 := own_sta_keep S_APPLICATION Kc41 (own_plain E_a1 (fun _ q => nomatch q))
        have E_w_APPLICATION_41 := Exa.keep E_w_APPLICATION Kc41
        have S_ROTATION_270_41 := own_sta_keep S_ROTATION_270 Kc41 (own_plain E_a1 (fun _ q => nomatch q))
        have E_w_ROTATION_270_41 := Exa.keep E_w_ROTATION_270 Kc41
        have S_ROTATION_180_41 := own_sta_keep S_ROTATION_180 Kc41 (own_plain E_a1 (fun _ q => nomatch q))
        have E_w_ROTATION_180_41 := Exa.keep E_w_ROTATION_180 Kc41
        have S_ROTATION_90_41 := own_sta_keep S_ROTATION_90 Kc41 (own_plain E_a1 (fun _ q => nomatch q))
        have E_w_ROTATION_90_41 := Exa.keep E_w_ROTATION_90 Kc41
        have E_a1_41 := Exa.keep E_a1 Kc41
        have Z41 : n0 ≤ T41.heap.size := Nat.le_trans Z0 Kc41.1
        have B41 : _ ≤ T41.heap.size := Nat.le_trans hB Kc41.1
        refine Go.mp st41 ?_
        show Go p e below (T41.setTop (mkF m 36 #[.val (.int p1), .val (.int p2), .val (.int p3), .val (.int p4), .val (.int p5), .val (.int p6), .val (.ref a1), .val (.int (1 : Int32)), .unset, .unset, .unset, .unset] [])) _
        refine g_iload X41 hx (hb hby at_36) rfl ?_
        refine g_iloadN X41 hx (hb hby at_38) rfl ?_
        obtain ⟨v42, T42, L42, X42, q42, st42⟩ := own_callS X41 hx hZ (y := (⟨"com/example/reorient/reorient/service/WindowPictureOfPinLaw", "turn", "(II)I"⟩ : MethodName)) (pc := 39) (Ls := #[.val (.int p1), .val (.int p2), .val (.int p3), .val (.int p4), .val (.int p5), .val (.int p6), .val (.ref a1), .val (.int (1 : Int32)), .unset, .unset, .unset, .unset]) (st := [(.int p2), (.int (1 : Int32))]) hown (hw _ (List.mem_of_getElem? (i := 48) rfl)) (hw _ (List.mem_of_getElem? (i := 49) rfl)) (hw _ (List.mem_of_getElem? (i := 13) rfl)) (hw _ (List.mem_of_getElem? (i := 50) rfl)) (by decide) (rm_turn l Z a0 hw (1 : Int32) p2 T41.heap n0 Z41 ) (rfl : T41.heap = T41.heap) pd_3 (hb hby at_39) (by rw [hml]; rfl) (argsL := [(.int (1 : Int32)), (.int p2)]) (rest := []) rfl rfl rfl (W := 0) (Nat.le_of_eq rfl) (by decide) (by decide) (by decide) (by decide)
        obtain ⟨rfl, M42, e42⟩ := q42
        have N42 := Fr.app N41 M42
        have r42 : (f_turn (1 : Int32) p2) = (-1 : Int32) := by rw [f_turn, if_neg ((by rw [q30]; decide) : ¬ ((1 : Int32) = (p2 &&& (3 : Int32))))]
        rw [r42] at st42
        refine Go.mp st42 ?_
        show Go p e below (T42.setTop (mkF m 42 #[.val (.int p1), .val (.int p2), .val (.int p3), .val (.int p4), .val (.int p5), .val (.int p6), .val (.ref a1), .val (.int (1 : Int32)), .unset, .unset, .unset, .unset] [(.int (-1 : Int32))])) _
        refine g_istore X42 hx #[.val (.int p1), .val (.int p2), .val (.int p3), .val (.int p4), .val (.int p5), .val (.int p6), .val (.ref a1), .val (.int (-1 : Int32)), .unset, .unset, .unset, .unset] (hb hby at_42) rfl ?_
        show Go p e below (T42.setTop (mkF m 44 #[.val (.int p1), .val (.int p2), .val (.int p3), .val (.int p4), .val (.int p5), .val (.int p6), .val (.ref a1), .val (.int (-1 : Int32)), .unset, .unset, .unset, .unset] [])) _
        exact seg_2 l Z a0 hw p1 p2 p3 p4 p5 p6 a1 (-1 : Int32) .null dz w_ROTATION_0 w_APPLICATION w_ROTATION_270 w_ROTATION_180 w_ROTATION_90 T41.heap n0 Z41 S_ROTATION_0_41 E_w_ROTATION_0_41 S_APPLICATION_41 E_w_APPLICATION_41 S_ROTATION_270_41 E_w_ROTATION_270_41 S_ROTATION_180_41 E_w_ROTATION_180_41 S_ROTATION_90_41 E_w_ROTATION_90_41 ne_ROTATION_0_ROTATION_270 ne_ROTATION_0_ROTATION_90 ne_ROTATION_0_ROTATION_180 ne_ROTATION_270_ROTATION_90 ne_ROTATION_270_ROTATION_180 ne_ROTATION_90_ROTATION_180 E_a1_41 Fk41_1 Fk41_0 g_a1 (Or.inl ⟨rfl, rfl⟩) hx hby hml hown hnm hret hlk hZ X42 e42 N42 hS B41
  · refine g_iload X0 hx (hb hby at_20) rfl ?_
    refine g_iconst X0 hx (1 : Int32) (hb hby at_22) (by decide) ?_
    refine g_iand X0 hx (hb hby at_23) ?_
    by_cases c24_43 : (p6 &&& (1 : Int32)) = (0 : Int32)
    · refine g_ifYes X0 hx 44 (hb hby at_24) ((if0 _ _).trans (teq c24_43).1) (by decide) (by decide) ?_
      show Go p e below (s₁.setTop (mkF m 44 #[.val (.int p1), .val (.int p2), .val (.int p3), .val (.int p4), .val (.int p5), .val (.int p6), .val (.ref a1), .val (.int (2 : Int32)), .unset, .unset, .unset, .unset] [])) _
      exact seg_2 l Z a0 hw p1 p2 p3 p4 p5 p6 a1 (2 : Int32) (.ref w_ROTATION_180) dz w_ROTATION_0 w_APPLICATION w_ROTATION_270 w_ROTATION_180 w_ROTATION_90 h0 n0 Z0 S_ROTATION_0 E_w_ROTATION_0 S_APPLICATION E_w_APPLICATION S_ROTATION_270 E_w_ROTATION_270 S_ROTATION_180 E_w_ROTATION_180 S_ROTATION_90 E_w_ROTATION_90 ne_ROTATION_0_ROTATION_270 ne_ROTATION_0_ROTATION_90 ne_ROTATION_0_ROTATION_180 ne_ROTATION_270_ROTATION_90 ne_ROTATION_270_ROTATION_180 ne_ROTATION_90_ROTATION_180 E_a1 F_a1_picture F_a1_drawn g_a1 (Or.inr (Or.inr (Or.inr (Or.inl ⟨rfl, rfl⟩)))) hx hby hml hown hnm hret hlk hZ X0 e0 N0 hS hB
    · refine g_ifNo X0 hx (hb hby at_24) ((if0 _ _).trans (feq c24_43).1) ?_
      refine g_aload X0 hx (hb hby at_27) rfl rfl ?_
      refine g_iloadN X0 hx (hb hby at_29) rfl ?_
      show Go p e below (s₁.setTop (mkF m 30 #[.val (.int p1), .val (.int p2), .val (.int p3), .val (.int p4), .val (.int p5), .val (.int p6), .val (.ref a1), .val (.int (2 : Int32)), .unset, .unset, .unset, .unset] [(.int p2), (.ref a1)])) _
      rcases own_and3 p2 with q44 | q44 | q44 | q44
      · obtain ⟨v45, T45, L45, X45, q45, st45⟩ := own_callS X0 hx hZ (y := (⟨"com/example/reorient/reorient/service/WindowPictureOfPinLaw", "rot", "(I)Lcom/example/reorient/reorient/model/Rotation;"⟩ : MethodName)) (pc := 30) (Ls := #[.val (.int p1), .val (.int p2), .val (.int p3), .val (.int p4), .val (.int p5), .val (.int p6), .val (.ref a1), .val (.int (2 : Int32)), .unset, .unset, .unset, .unset]) (st := [(.int p2), (.ref a1)]) hown (hw _ (List.mem_of_getElem? (i := 11) rfl)) (hw _ (List.mem_of_getElem? (i := 12) rfl)) (hw _ (List.mem_of_getElem? (i := 13) rfl)) (hw _ (List.mem_of_getElem? (i := 14) rfl)) (by decide) (rm_rot l Z a0 hw p2 w_ROTATION_0 w_ROTATION_90 w_ROTATION_180 w_ROTATION_270 h0 n0 Z0 S_ROTATION_0 S_ROTATION_90 S_ROTATION_180 S_ROTATION_270) e0 pd_1 (hb hby at_30) (by rw [hml]; rfl) (argsL := [(.int p2)]) (rest := [(.ref a1)]) rfl rfl rfl (W := 1) (Nat.le_of_eq rfl) (by decide) (by decide) (by decide) (by decide)
        obtain ⟨rfl, M45, e45⟩ := q45
        have N45 := Fr.app N0 M45
        have r45 : (f_rot p2 w_ROTATION_0 w_ROTATION_90 w_ROTATION_180 w_ROTATION_270) = w_ROTATION_0 := by rw [f_rot, if_pos (q44 : (p2 &&& (3 : Int32)) = (0 : Int32))]
        rw [r45] at st45
        refine Go.mp st45 ?_
        show Go p e below (T45.setTop (mkF m 33 #[.val (.int p1), .val (.int p2), .val (.int p3), .val (.int p4), .val (.int p5), .val (.int p6), .val (.ref a1), .val (.int (2 : Int32)), .unset, .unset, .unset, .unset] [(.ref w_ROTATION_0), (.ref a1)])) _
        obtain ⟨v46, T46, L46, X46, q46, st46⟩ := own_callV X45 hx hZ (y := (⟨"com/example/reorient/reorient/service/Window", "turnTo", "(Lcom/example/reorient/reorient/model/Rotation;)V"⟩ : MethodName)) (pc := 33) (Ls := #[.val (.int p1), .val (.int p2), .val (.int p3), .val (.int p4), .val (.int p5), .val (.int p6), .val (.ref a1), .val (.int (2 : Int32)), .unset, .unset, .unset, .unset]) (st := [(.ref w_ROTATION_0), (.ref a1)]) hown (hw _ (List.mem_of_getElem? (i := 43) rfl)) (hw _ (List.mem_of_getElem? (i := 44) rfl)) (hw _ (List.mem_of_getElem? (i := 46) rfl)) (hw _ (List.mem_of_getElem? (i := 45) rfl)) (hw _ (List.mem_of_getElem? (i := 47) rfl)) (hw _ (List.mem_of_getElem? (i := 2) rfl)) (by decide) (rm_turnTo l Z a0 hw a1 w_ROTATION_0 (.ref w_ROTATION_180) dz h0 n0 Z0 rfl E_a1 F_a1_drawn F_a1_picture g_a1) e45 E_a1 pd_2 (hb hby at_33) (by rw [hml]; rfl) (argsL := [(.ref w_ROTATION_0)]) (rest := []) rfl rfl rfl (W := 0) (Nat.le_of_eq rfl) (by decide) (by decide) (by decide) (by decide)
        obtain ⟨rv46, M46, Kc46, Fk46_0, Fk46_1⟩ := q46
        have N46 := Fr.app N45 M46
        subst rv46
        have r46_1 : (f_turnTo_a1_picture a1 w_ROTATION_0 (.ref w_ROTATION_180) dz) = .null := by rw [f_turnTo_a1_picture, if_neg ((fun q => ne_ROTATION_0_ROTATION_180 (Value.ref.inj q).symm) : ¬ ((Value.ref w_ROTATION_180) = (Value.ref w_ROTATION_0)))]
        rw [r46_1] at Fk46_1
        have S_ROTATION_0_46 := own_sta_keep S_ROTATION_0 Kc46 (own_plain E_a1 (fun _ q => nomatch q))
        have E_w_ROTATION_0_46 := Exa.keep E_w_ROTATION_0 Kc46
        have S_APPLICATION_46 := own_sta_keep S_APPLICATION Kc46 (own_plain E_a1 (fun _ q => nomatch q))
        have E_w_APPLICATION_46 := Exa.keep E_w_APPLICATION Kc46
        have S_ROTATION_270_46 := own_sta_keep S_ROTATION_270 Kc46 (own_plain E_a1 (fun _ q => nomatch q))
        have E_w_ROTATION_270_46 := Exa.keep E_w_ROTATION_270 Kc46
        have S_ROTATION_180_46 := own_sta_keep S_ROTATION_180 Kc46 (own_plain E_a1 (fun _ q => nomatch q))
        have E_w_ROTATION_180_46 := Exa.keep E_w_ROTATION_180 Kc46
        have S_ROTATION_90_46 := own_sta_keep S_ROTATION_90 Kc46 (own_plain E_a1 (fun _ q => nomatch q))
        have E_w_ROTATION_90_46 := Exa.keep E_w_ROTATION_90 Kc46
        have E_a1_46 := Exa.keep E_a1 Kc46
        have Z46 : n0 ≤ T46.heap.size := Nat.le_trans Z0 Kc46.1
        have B46 : _ ≤ T46.heap.size := Nat.le_trans hB Kc46.1
        refine Go.mp st46 ?_
        show Go p e below (T46.setTop (mkF m 36 #[.val (.int p1), .val (.int p2), .val (.int p3), .val (.int p4), .val (.int p5), .val (.int p6), .val (.ref a1), .val (.int (2 : Int32)), .unset, .unset, .unset, .unset] [])) _
        refine g_iload X46 hx (hb hby at_36) rfl ?_
        refine g_iloadN X46 hx (hb hby at_38) rfl ?_
        obtain ⟨v47, T47, L47, X47, q47, st47⟩ := own_callS X46 hx hZ (y := (⟨"com/example/reorient/reorient/service/WindowPictureOfPinLaw", "turn", "(II)I"⟩ : MethodName)) (pc := 39) (Ls := #[.val (.int p1), .val (.int p2), .val (.int p3), .val (.int p4), .val (.int p5), .val (.int p6), .val (.ref a1), .val (.int (2 : Int32)), .unset, .unset, .unset, .unset]) (st := [(.int p2), (.int (2 : Int32))]) hown (hw _ (List.mem_of_getElem? (i := 48) rfl)) (hw _ (List.mem_of_getElem? (i := 49) rfl)) (hw _ (List.mem_of_getElem? (i := 13) rfl)) (hw _ (List.mem_of_getElem? (i := 50) rfl)) (by decide) (rm_turn l Z a0 hw (2 : Int32) p2 T46.heap n0 Z46 ) (rfl : T46.heap = T46.heap) pd_3 (hb hby at_39) (by rw [hml]; rfl) (argsL := [(.int (2 : Int32)), (.int p2)]) (rest := []) rfl rfl rfl (W := 0) (Nat.le_of_eq rfl) (by decide) (by decide) (by decide) (by decide)
        obtain ⟨rfl, M47, e47⟩ := q47
        have N47 := Fr.app N46 M47
        have r47 : (f_turn (2 : Int32) p2) = (-1 : Int32) := by rw [f_turn, if_neg ((by rw [q44]; decide) : ¬ ((2 : Int32) = (p2 &&& (3 : Int32))))]
        rw [r47] at st47
        refine Go.mp st47 ?_
        show Go p e below (T47.setTop (mkF m 42 #[.val (.int p1), .val (.int p2), .val (.int p3), .val (.int p4), .val (.int p5), .val (.int p6), .val (.ref a1), .val (.int (2 : Int32)), .unset, .unset, .unset, .unset] [(.int (-1 : Int32))])) _
        refine g_istore X47 hx #[.val (.int p1), .val (.int p2), .val (.int p3), .val (.int p4), .val (.int p5), .val (.int p6), .val (.ref a1), .val (.int (-1 : Int32)), .unset, .unset, .unset, .unset] (hb hby at_42) rfl ?_
        show Go p e below (T47.setTop (mkF m 44 #[.val (.int p1), .val (.int p2), .val (.int p3), .val (.int p4), .val (.int p5), .val (.int p6), .val (.ref a1), .val (.int (-1 : Int32)), .unset, .unset, .unset, .unset] [])) _
        exact seg_2 l Z a0 hw p1 p2 p3 p4 p5 p6 a1 (-1 : Int32) .null dz w_ROTATION_0 w_APPLICATION w_ROTATION_270 w_ROTATION_180 w_ROTATION_90 T46.heap n0 Z46 S_ROTATION_0_46 E_w_ROTATION_0_46 S_APPLICATION_46 E_w_APPLICATION_46 S_ROTATION_270_46 E_w_ROTATION_270_46 S_ROTATION_180_46 E_w_ROTATION_180_46 S_ROTATION_90_46 E_w_ROTATION_90_46 ne_ROTATION_0_ROTATION_270 ne_ROTATION_0_ROTATION_90 ne_ROTATION_0_ROTATION_180 ne_ROTATION_270_ROTATION_90 ne_ROTATION_270_ROTATION_180 ne_ROTATION_90_ROTATION_180 E_a1_46 Fk46_1 Fk46_0 g_a1 (Or.inl ⟨rfl, rfl⟩) hx hby hml hown hnm hret hlk hZ X47 e47 N47 hS B46
      · obtain ⟨v48, T48, L48, X48, q48, st48⟩ := own_callS X0 hx hZ (y := (⟨"com/example/reorient/reorient/service/WindowPictureOfPinLaw", "rot", "(I)Lcom/example/reorient/reorient/model/Rotation;"⟩ : MethodName)) (pc := 30) (Ls := #[.val (.int p1), .val (.int p2), .val (.int p3), .val (.int p4), .val (.int p5), .val (.int p6), .val (.ref a1), .val (.int (2 : Int32)), .unset, .unset, .unset, .unset]) (st := [(.int p2), (.ref a1)]) hown (hw _ (List.mem_of_getElem? (i := 11) rfl)) (hw _ (List.mem_of_getElem? (i := 12) rfl)) (hw _ (List.mem_of_getElem? (i := 13) rfl)) (hw _ (List.mem_of_getElem? (i := 14) rfl)) (by decide) (rm_rot l Z a0 hw p2 w_ROTATION_0 w_ROTATION_90 w_ROTATION_180 w_ROTATION_270 h0 n0 Z0 S_ROTATION_0 S_ROTATION_90 S_ROTATION_180 S_ROTATION_270) e0 pd_1 (hb hby at_30) (by rw [hml]; rfl) (argsL := [(.int p2)]) (rest := [(.ref a1)]) rfl rfl rfl (W := 1) (Nat.le_of_eq rfl) (by decide) (by decide) (by decide) (by decide)
        obtain ⟨rfl, M48, e48⟩ := q48
        have N48 := Fr.app N0 M48
        have r48 : (f_rot p2 w_ROTATION_0 w_ROTATION_90 w_ROTATION_180 w_ROTATION_270) = w_ROTATION_90 := by rw [f_rot, if_neg ((by rw [q44]; decide) : ¬ ((p2 &&& (3 : Int32)) = (0 : Int32))), if_pos (q44 : (p2 &&& (3 : Int32)) = (1 : Int32))]
        rw [r48] at st48
        refine Go.mp st48 ?_
        show Go p e below (T48.setTop (mkF m 33 #[.val (.int p1), .val (.int p2), .val (.int p3), .val (.int p4), .val (.int p5), .val (.int p6), .val (.ref a1), .val (.int (2 : Int32)), .unset, .unset, .unset, .unset] [(.ref w_ROTATION_90), (.ref a1)])) _
        obtain ⟨v49, T49, L49, X49, q49, st49⟩ := own_callV X48 hx hZ (y := (⟨"com/example/reorient/reorient/service/Window", "turnTo", "(Lcom/example/reorient/reorient/model/Rotation;)V"⟩ : MethodName)) (pc := 33) (Ls := #[.val (.int p1), .val (.int p2), .val (.int p3), .val (.int p4), .val (.int p5), .val (.int p6), .val (.ref a1), .val (.int (2 : Int32)), .unset, .unset, .unset, .unset]) (st := [(.ref w_ROTATION_90), (.ref a1)]) hown (hw _ (List.mem_of_getElem? (i := 43) rfl)) (hw _ (List.mem_of_getElem? (i := 44) rfl)) (hw _ (List.mem_of_getElem? (i := 46) rfl)) (hw _ (List.mem_of_getElem? (i := 45) rfl)) (hw _ (List.mem_of_getElem? (i := 47) rfl)) (hw _ (List.mem_of_getElem? (i := 2) rfl)) (by decide) (rm_turnTo l Z a0 hw a1 w_ROTATION_90 (.ref w_ROTATION_180) dz h0 n0 Z0 rfl E_a1 F_a1_drawn F_a1_picture g_a1) e48 E_a1 pd_2 (hb hby at_33) (by rw [hml]; rfl) (argsL := [(.ref w_ROTATION_90)]) (rest := []) rfl rfl rfl (W := 0) (Nat.le_of_eq rfl) (by decide) (by decide) (by decide) (by decide)
        obtain ⟨rv49, M49, Kc49, Fk49_0, Fk49_1⟩ := q49
        have N49 := Fr.app N48 M49
        subst rv49
        have r49_1 : (f_turnTo_a1_picture a1 w_ROTATION_90 (.ref w_ROTATION_180) dz) = .null := by rw [f_turnTo_a1_picture, if_neg ((fun q => ne_ROTATION_90_ROTATION_180 (Value.ref.inj q).symm) : ¬ ((Value.ref w_ROTATION_180) = (Value.ref w_ROTATION_90)))]
        rw [r49_1] at Fk49_1
        have S_ROTATION_0_49 := own_sta_keep S_ROTATION_0 Kc49 (own_plain E_a1 (fun _ q => nomatch q))
        have E_w_ROTATION_0_49 := Exa.keep E_w_ROTATION_0 Kc49
        have S_APPLICATION_49 := own_sta_keep S_APPLICATION Kc49 (own_plain E_a1 (fun _ q => nomatch q))
        have E_w_APPLICATION_49 := Exa.keep E_w_APPLICATION Kc49
        have S_ROTATION_270_49 := own_sta_keep S_ROTATION_270 Kc49 (own_plain E_a1 (fun _ q => nomatch q))
        have E_w_ROTATION_270_49 := Exa.keep E_w_ROTATION_270 Kc49
        have S_ROTATION_180_49 := own_sta_keep S_ROTATION_180 Kc49 (own_plain E_a1 (fun _ q => nomatch q))
        have E_w_ROTATION_180_49 := Exa.keep E_w_ROTATION_180 Kc49
        have S_ROTATION_90_49 := own_sta_keep S_ROTATION_90 Kc49 (own_plain E_a1 (fun _ q => nomatch q))
        have E_w_ROTATION_90_49 := Exa.keep E_w_ROTATION_90 Kc49
        have E_a1_49 := Exa.keep E_a1 Kc49
        have Z49 : n0 ≤ T49.heap.size := Nat.le_trans Z0 Kc49.1
        have B49 : _ ≤ T49.heap.size := Nat.le_trans hB Kc49.1
        refine Go.mp st49 ?_
        show Go p e below (T49.setTop (mkF m 36 #[.val (.int p1), .val (.int p2), .val (.int p3), .val (.int p4), .val (.int p5), .val (.int p6), .val (.ref a1), .val (.int (2 : Int32)), .unset, .unset, .unset, .unset] [])) _
        refine g_iload X49 hx (hb hby at_36) rfl ?_
        refine g_iloadN X49 hx (hb hby at_38) rfl ?_
        obtain ⟨v50, T50, L50, X50, q50, st50⟩ := own_callS X49 hx hZ (y := (⟨"com/example/reorient/reorient/service/WindowPictureOfPinLaw", "turn", "(II)I"⟩ : MethodName)) (pc := 39) (Ls := #[.val (.int p1), .val (.int p2), .val (.int p3), .val (.int p4), .val (.int p5), .val (.int p6), .val (.ref a1), .val (.int (2 : Int32)), .unset, .unset, .unset, .unset]) (st := [(.int p2), (.int (2 : Int32))]) hown (hw _ (List.mem_of_getElem? (i := 48) rfl)) (hw _ (List.mem_of_getElem? (i := 49) rfl)) (hw _ (List.mem_of_getElem? (i := 13) rfl)) (hw _ (List.mem_of_getElem? (i := 50) rfl)) (by decide) (rm_turn l Z a0 hw (2 : Int32) p2 T49.heap n0 Z49 ) (rfl : T49.heap = T49.heap) pd_3 (hb hby at_39) (by rw [hml]; rfl) (argsL := [(.int (2 : Int32)), (.int p2)]) (rest := []) rfl rfl rfl (W := 0) (Nat.le_of_eq rfl) (by decide) (by decide) (by decide) (by decide)
        obtain ⟨rfl, M50, e50⟩ := q50
        have N50 := Fr.app N49 M50
        have r50 : (f_turn (2 : Int32) p2) = (-1 : Int32) := by rw [f_turn, if_neg ((by rw [q44]; decide) : ¬ ((2 : Int32) = (p2 &&& (3 : Int32))))]
        rw [r50] at st50
        refine Go.mp st50 ?_
        show Go p e below (T50.setTop (mkF m 42 #[.val (.int p1), .val (.int p2), .val (.int p3), .val (.int p4), .val (.int p5), .val (.int p6), .val (.ref a1), .val (.int (2 : Int32)), .unset, .unset, .unset, .unset] [(.int (-1 : Int32))])) _
        refine g_istore X50 hx #[.val (.int p1), .val (.int p2), .val (.int p3), .val (.int p4), .val (.int p5), .val (.int p6), .val (.ref a1), .val (.int (-1 : Int32)), .unset, .unset, .unset, .unset] (hb hby at_42) rfl ?_
        show Go p e below (T50.setTop (mkF m 44 #[.val (.int p1), .val (.int p2), .val (.int p3), .val (.int p4), .val (.int p5), .val (.int p6), .val (.ref a1), .val (.int (-1 : Int32)), .unset, .unset, .unset, .unset] [])) _
        exact seg_2 l Z a0 hw p1 p2 p3 p4 p5 p6 a1 (-1 : Int32) .null dz w_ROTATION_0 w_APPLICATION w_ROTATION_270 w_ROTATION_180 w_ROTATION_90 T49.heap n0 Z49 S_ROTATION_0_49 E_w_ROTATION_0_49 S_APPLICATION_49 E_w_APPLICATION_49 S_ROTATION_270_49 E_w_ROTATION_270_49 S_ROTATION_180_49 E_w_ROTATION_180_49 S_ROTATION_90_49 E_w_ROTATION_90_49 ne_ROTATION_0_ROTATION_270 ne_ROTATION_0_ROTATION_90 ne_ROTATION_0_ROTATION_180 ne_ROTATION_270_ROTATION_90 ne_ROTATION_270_ROTATION_180 ne_ROTATION_90_ROTATION_180 E_a1_49 Fk49_1 Fk49_0 g_a1 (Or.inl ⟨rfl, rfl⟩) hx hby hml hown hnm hret hlk hZ X50 e50 N50 hS B49
      · obtain ⟨v51, T51, L51, X51, q51, st51⟩ := own_callS X0 hx hZ (y := (⟨"com/example/reorient/reorient/service/WindowPictureOfPinLaw", "rot", "(I)Lcom/example/reorient/reorient/model/Rotation;"⟩ : MethodName)) (pc := 30) (Ls := #[.val (.int p1), .val (.int p2), .val (.int p3), .val (.int p4), .val (.int p5), .val (.int p6), .val (.ref a1), .val (.int (2 : Int32)), .unset, .unset, .unset, .unset]) (st := [(.int p2), (.ref a1)]) hown (hw _ (List.mem_of_getElem? (i := 11) rfl)) (hw _ (List.mem_of_getElem? (i := 12) rfl)) (hw _ (List.mem_of_getElem? (i := 13) rfl)) (hw _ (List.mem_of_getElem? (i := 14) rfl)) (by decide) (rm_rot l Z a0 hw p2 w_ROTATION_0 w_ROTATION_90 w_ROTATION_180 w_ROTATION_270 h0 n0 Z0 S_ROTATION_0 S_ROTATION_90 S_ROTATION_180 S_ROTATION_270) e0 pd_1 (hb hby at_30) (by rw [hml]; rfl) (argsL := [(.int p2)]) (rest := [(.ref a1)]) rfl rfl rfl (W := 1) (Nat.le_of_eq rfl) (by decide) (by decide) (by decide) (by decide)
        obtain ⟨rfl, M51, e51⟩ := q51
        have N51 := Fr.app N0 M51
        have r51 : (f_rot p2 w_ROTATION_0 w_ROTATION_90 w_ROTATION_180 w_ROTATION_270) = w_ROTATION_180 := by rw [f_rot, if_neg ((by rw [q44]; decide) : ¬ ((p2 &&& (3 : Int32)) = (0 : Int32))), if_neg ((by rw [q44]; decide) : ¬ ((p2 &&& (3 : Int32)) = (1 : Int32))), if_pos (q44 : (p2 &&& (3 : Int32)) = (2 : Int32))]
        rw [r51] at st51
        refine Go.mp st51 ?_
        show Go p e below (T51.setTop (mkF m 33 #[.val (.int p1), .val (.int p2), .val (.int p3), .val (.int p4), .val (.int p5), .val (.int p6), .val (.ref a1), .val (.int (2 : Int32)), .unset, .unset, .unset, .unset] [(.ref w_ROTATION_180), (.ref a1)])) _
        obtain ⟨v52, T52, L52, X52, q52, st52⟩ := own_callV X51 hx hZ (y := (⟨"com/example/reorient/reorient/service/Window", "turnTo", "(Lcom/example/reorient/reorient/model/Rotation;)V"⟩ : MethodName)) (pc := 33) (Ls := #[.val (.int p1), .val (.int p2), .val (.int p3), .val (.int p4), .val (.int p5), .val (.int p6), .val (.ref a1), .val (.int (2 : Int32)), .unset, .unset, .unset, .unset]) (st := [(.ref w_ROTATION_180), (.ref a1)]) hown (hw _ (List.mem_of_getElem? (i := 43) rfl)) (hw _ (List.mem_of_getElem? (i := 44) rfl)) (hw _ (List.mem_of_getElem? (i := 46) rfl)) (hw _ (List.mem_of_getElem? (i := 45) rfl)) (hw _ (List.mem_of_getElem? (i := 47) rfl)) (hw _ (List.mem_of_getElem? (i := 2) rfl)) (by decide) (rm_turnTo l Z a0 hw a1 w_ROTATION_180 (.ref w_ROTATION_180) dz h0 n0 Z0 rfl E_a1 F_a1_drawn F_a1_picture g_a1) e51 E_a1 pd_2 (hb hby at_33) (by rw [hml]; rfl) (argsL := [(.ref w_ROTATION_180)]) (rest := []) rfl rfl rfl (W := 0) (Nat.le_of_eq rfl) (by decide) (by decide) (by decide) (by decide)
        obtain ⟨rv52, M52, Kc52, Fk52_0, Fk52_1⟩ := q52
        have N52 := Fr.app N51 M52
        subst rv52
        have r52_1 : (f_turnTo_a1_picture a1 w_ROTATION_180 (.ref w_ROTATION_180) dz) = (.ref w_ROTATION_180) := by rw [f_turnTo_a1_picture, if_pos (rfl : (Value.ref w_ROTATION_180) = (Value.ref w_ROTATION_180))]
        rw [r52_1] at Fk52_1
        have S_ROTATION_0_52 := own_sta_keep S_ROTATION_0 Kc52 (own_plain E_a1 (fun _ q => nomatch q))
        have E_w_ROTATION_0_52 := Exa.keep E_w_ROTATION_0 Kc52
        have S_APPLICATION_52 := own_sta_keep S_APPLICATION Kc52 (own_plain E_a1 (fun _ q => nomatch q))
        have E_w_APPLICATION_52 := Exa.keep E_w_APPLICATION Kc52
        have S_ROTATION_270_52 := own_sta_keep S_ROTATION_270 Kc52 (own_plain E_a1 (fun _ q => nomatch q))
        have E_w_ROTATION_270_52 := Exa.keep E_w_ROTATION_270 Kc52
        have S_ROTATION_180_52 := own_sta_keep S_ROTATION_180 Kc52 (own_plain E_a1 (fun _ q => nomatch q))
        have E_w_ROTATION_180_52 := Exa.keep E_w_ROTATION_180 Kc52
        have S_ROTATION_90_52 := own_sta_keep S_ROTATION_90 Kc52 (own_plain E_a1 (fun _ q => nomatch q))
        have E_w_ROTATION_90_52 := Exa.keep E_w_ROTATION_90 Kc52
        have E_a1_52 := Exa.keep E_a1 Kc52
        have Z52 : n0 ≤ T52.heap.size := Nat.le_trans Z0 Kc52.1
        have B52 : _ ≤ T52.heap.size := Nat.le_trans hB Kc52.1
        refine Go.mp st52 ?_
        show Go p e below (T52.setTop (mkF m 36 #[.val (.int p1), .val (.int p2), .val (.int p3), .val (.int p4), .val (.int p5), .val (.int p6), .val (.ref a1), .val (.int (2 : Int32)), .unset, .unset, .unset, .unset] [])) _
        refine g_iload X52 hx (hb hby at_36) rfl ?_
        refine g_iloadN X52 hx (hb hby at_38) rfl ?_
        obtain ⟨v53, T53, L53, X53, q53, st53⟩ := own_callS X52 hx hZ (y := (⟨"com/example/reorient/reorient/service/WindowPictureOfPinLaw", "turn", "(II)I"⟩ : MethodName)) (pc := 39) (Ls := #[.val (.int p1), .val (.int p2), .val (.int p3), .val (.int p4), .val (.int p5), .val (.int p6), .val (.ref a1), .val (.int (2 : Int32)), .unset, .unset, .unset, .unset]) (st := [(.int p2), (.int (2 : Int32))]) hown (hw _ (List.mem_of_getElem? (i := 48) rfl)) (hw _ (List.mem_of_getElem? (i := 49) rfl)) (hw _ (List.mem_of_getElem? (i := 13) rfl)) (hw _ (List.mem_of_getElem? (i := 50) rfl)) (by decide) (rm_turn l Z a0 hw (2 : Int32) p2 T52.heap n0 Z52 ) (rfl : T52.heap = T52.heap) pd_3 (hb hby at_39) (by rw [hml]; rfl) (argsL := [(.int (2 : Int32)), (.int p2)]) (rest := []) rfl rfl rfl (W := 0) (Nat.le_of_eq rfl) (by decide) (by decide) (by decide) (by decide)
        obtain ⟨rfl, M53, e53⟩ := q53
        have N53 := Fr.app N52 M53
        have r53 : (f_turn (2 : Int32) p2) = (2 : Int32) := by rw [f_turn, if_pos (q44.symm : (2 : Int32) = (p2 &&& (3 : Int32)))]
        rw [r53] at st53
        refine Go.mp st53 ?_
        show Go p e below (T53.setTop (mkF m 42 #[.val (.int p1), .val (.int p2), .val (.int p3), .val (.int p4), .val (.int p5), .val (.int p6), .val (.ref a1), .val (.int (2 : Int32)), .unset, .unset, .unset, .unset] [(.int (2 : Int32))])) _
        refine g_istore X53 hx #[.val (.int p1), .val (.int p2), .val (.int p3), .val (.int p4), .val (.int p5), .val (.int p6), .val (.ref a1), .val (.int (2 : Int32)), .unset, .unset, .unset, .unset] (hb hby at_42) rfl ?_
        show Go p e below (T53.setTop (mkF m 44 #[.val (.int p1), .val (.int p2), .val (.int p3), .val (.int p4), .val (.int p5), .val (.int p6), .val (.ref a1), .val (.int (2 : Int32)), .unset, .unset, .unset, .unset] [])) _
        exact seg_2 l Z a0 hw p1 p2 p3 p4 p5 p6 a1 (2 : Int32) (.ref w_ROTATION_180) dz w_ROTATION_0 w_APPLICATION w_ROTATION_270 w_ROTATION_180 w_ROTATION_90 T52.heap n0 Z52 S_ROTATION_0_52 E_w_ROTATION_0_52 S_APPLICATION_52 E_w_APPLICATION_52 S_ROTATION_270_52 E_w_ROTATION_270_52 S_ROTATION_180_52 E_w_ROTATION_180_52 S_ROTATION_90_52 E_w_ROTATION_90_52 ne_ROTATION_0_ROTATION_270 ne_ROTATION_0_ROTATION_90 ne_ROTATION_0_ROTATION_180 ne_ROTATION_270_ROTATION_90 ne_ROTATION_270_ROTATION_180 ne_ROTATION_90_ROTATION_180 E_a1_52 Fk52_1 Fk52_0 g_a1 (Or.inr (Or.inr (Or.inr (Or.inl ⟨rfl, rfl⟩)))) hx hby hml hown hnm hret hlk hZ X53 e53 N53 hS B52
      · obtain ⟨v54, T54, L54, X54, q54, st54⟩ := own_callS X0 hx hZ (y := (⟨"com/example/reorient/reorient/service/WindowPictureOfPinLaw", "rot", "(I)Lcom/example/reorient/reorient/model/Rotation;"⟩ : MethodName)) (pc := 30) (Ls := #[.val (.int p1), .val (.int p2), .val (.int p3), .val (.int p4), .val (.int p5), .val (.int p6), .val (.ref a1), .val (.int (2 : Int32)), .unset, .unset, .unset, .unset]) (st := [(.int p2), (.ref a1)]) hown (hw _ (List.mem_of_getElem? (i := 11) rfl)) (hw _ (List.mem_of_getElem? (i := 12) rfl)) (hw _ (List.mem_of_getElem? (i := 13) rfl)) (hw _ (List.mem_of_getElem? (i := 14) rfl)) (by decide) (rm_rot l Z a0 hw p2 w_ROTATION_0 w_ROTATION_90 w_ROTATION_180 w_ROTATION_270 h0 n0 Z0 S_ROTATION_0 S_ROTATION_90 S_ROTATION_180 S_ROTATION_270) e0 pd_1 (hb hby at_30) (by rw [hml]; rfl) (argsL := [(.int p2)]) (rest := [(.ref a1)]) rfl rfl rfl (W := 1) (Nat.le_of_eq rfl) (by decide) (by decide) (by decide) (by decide)
        obtain ⟨rfl, M54, e54⟩ := q54
        have N54 := Fr.app N0 M54
        have r54 : (f_rot p2 w_ROTATION_0 w_ROTATION_90 w_ROTATION_180 w_ROTATION_270) = w_ROTATION_270 := by rw [f_rot, if_neg ((by rw [q44]; decide) : ¬ ((p2 &&& (3 : Int32)) = (0 : Int32))), if_neg ((by rw [q44]; decide) : ¬ ((p2 &&& (3 : Int32)) = (1 : Int32))), if_neg ((by rw [q44]; decide) : ¬ ((p2 &&& (3 : Int32)) = (2 : Int32)))]
        rw [r54] at st54
        refine Go.mp st54 ?_
        show Go p e below (T54.setTop (mkF m 33 #[.val (.int p1), .val (.int p2), .val (.int p3), .val (.int p4), .val (.int p5), .val (.int p6), .val (.ref a1), .val (.int (2 : Int32)), .unset, .unset, .unset, .unset] [(.ref w_ROTATION_270), (.ref a1)])) _
        obtain ⟨v55, T55, L55, X55, q55, st55⟩ := own_callV X54 hx hZ (y := (⟨"com/example/reorient/reorient/service/Window", "turnTo", "(Lcom/example/reorient/reorient/model/Rotation;)V"⟩ : MethodName)) (pc := 33) (Ls := #[.val (.int p1), .val (.int p2), .val (.int p3), .val (.int p4), .val (.int p5), .val (.int p6), .val (.ref a1), .val (.int (2 : Int32)), .unset, .unset, .unset, .unset]) (st := [(.ref w_ROTATION_270), (.ref a1)]) hown (hw _ (List.mem_of_getElem? (i := 43) rfl)) (hw _ (List.mem_of_getElem? (i := 44) rfl)) (hw _ (List.mem_of_getElem? (i := 46) rfl)) (hw _ (List.mem_of_getElem? (i := 45) rfl)) (hw _ (List.mem_of_getElem? (i := 47) rfl)) (hw _ (List.mem_of_getElem? (i := 2) rfl)) (by decide) (rm_turnTo l Z a0 hw a1 w_ROTATION_270 (.ref w_ROTATION_180) dz h0 n0 Z0 rfl E_a1 F_a1_drawn F_a1_picture g_a1) e54 E_a1 pd_2 (hb hby at_33) (by rw [hml]; rfl) (argsL := [(.ref w_ROTATION_270)]) (rest := []) rfl rfl rfl (W := 0) (Nat.le_of_eq rfl) (by decide) (by decide) (by decide) (by decide)
        obtain ⟨rv55, M55, Kc55, Fk55_0, Fk55_1⟩ := q55
        have N55 := Fr.app N54 M55
        subst rv55
        have r55_1 : (f_turnTo_a1_picture a1 w_ROTATION_270 (.ref w_ROTATION_180) dz) = .null := by rw [f_turnTo_a1_picture, if_neg ((fun q => ne_ROTATION_270_ROTATION_180 (Value.ref.inj q).symm) : ¬ ((Value.ref w_ROTATION_180) = (Value.ref w_ROTATION_270)))]
        rw [r55_1] at Fk55_1
        have S_ROTATION_0_55 := own_sta_keep S_ROTATION_0 Kc55 (own_plain E_a1 (fun _ q => nomatch q))
        have E_w_ROTATION_0_55 := Exa.keep E_w_ROTATION_0 Kc55
        have S_APPLICATION_55 := own_sta_keep S_APPLICATION Kc55 (own_plain E_a1 (fun _ q => nomatch q))
        have E_w_APPLICATION_55 := Exa.keep E_w_APPLICATION Kc55
        have S_ROTATION_270_55 := own_sta_keep S_ROTATION_270 Kc55 (own_plain E_a1 (fun _ q => nomatch q))
        have E_w_ROTATION_270_55 := Exa.keep E_w_ROTATION_270 Kc55
        have S_ROTATION_180_55 := own_sta_keep S_ROTATION_180 Kc55 (own_plain E_a1 (fun _ q => nomatch q))
        have E_w_ROTATION_180_55 := Exa.keep E_w_ROTATION_180 Kc55
        have S_ROTATION_90_55 := own_sta_keep S_ROTATION_90 Kc55 (own_plain E_a1 (fun _ q => nomatch q))
        have E_w_ROTATION_90_55 := Exa.keep E_w_ROTATION_90 Kc55
        have E_a1_55 := Exa.keep E_a1 Kc55
        have Z55 : n0 ≤ T55.heap.size := Nat.le_trans Z0 Kc55.1
        have B55 : _ ≤ T55.heap.size := Nat.le_trans hB Kc55.1
        refine Go.mp st55 ?_
        show Go p e below (T55.setTop (mkF m 36 #[.val (.int p1), .val (.int p2), .val (.int p3), .val (.int p4), .val (.int p5), .val (.int p6), .val (.ref a1), .val (.int (2 : Int32)), .unset, .unset, .unset, .unset] [])) _
        refine g_iload X55 hx (hb hby at_36) rfl ?_
        refine g_iloadN X55 hx (hb hby at_38) rfl ?_
        obtain ⟨v56, T56, L56, X56, q56, st56⟩ := own_callS X55 hx hZ (y := (⟨"com/example/reorient/reorient/service/WindowPictureOfPinLaw", "turn", "(II)I"⟩ : MethodName)) (pc := 39) (Ls := #[.val (.int p1), .val (.int p2), .val (.int p3), .val (.int p4), .val (.int p5), .val (.int p6), .val (.ref a1), .val (.int (2 : Int32)), .unset, .unset, .unset, .unset]) (st := [(.int p2), (.int (2 : Int32))]) hown (hw _ (List.mem_of_getElem? (i := 48) rfl)) (hw _ (List.mem_of_getElem? (i := 49) rfl)) (hw _ (List.mem_of_getElem? (i := 13) rfl)) (hw _ (List.mem_of_getElem? (i := 50) rfl)) (by decide) (rm_turn l Z a0 hw (2 : Int32) p2 T55.heap n0 Z55 ) (rfl : T55.heap = T55.heap) pd_3 (hb hby at_39) (by rw [hml]; rfl) (argsL := [(.int (2 : Int32)), (.int p2)]) (rest := []) rfl rfl rfl (W := 0) (Nat.le_of_eq rfl) (by decide) (by decide) (by decide) (by decide)
        obtain ⟨rfl, M56, e56⟩ := q56
        have N56 := Fr.app N55 M56
        have r56 : (f_turn (2 : Int32) p2) = (-1 : Int32) := by rw [f_turn, if_neg ((by rw [q44]; decide) : ¬ ((2 : Int32) = (p2 &&& (3 : Int32))))]
        rw [r56] at st56
        refine Go.mp st56 ?_
        show Go p e below (T56.setTop (mkF m 42 #[.val (.int p1), .val (.int p2), .val (.int p3), .val (.int p4), .val (.int p5), .val (.int p6), .val (.ref a1), .val (.int (2 : Int32)), .unset, .unset, .unset, .unset] [(.int (-1 : Int32))])) _
        refine g_istore X56 hx #[.val (.int p1), .val (.int p2), .val (.int p3), .val (.int p4), .val (.int p5), .val (.int p6), .val (.ref a1), .val (.int (-1 : Int32)), .unset, .unset, .unset, .unset] (hb hby at_42) rfl ?_
        show Go p e below (T56.setTop (mkF m 44 #[.val (.int p1), .val (.int p2), .val (.int p3), .val (.int p4), .val (.int p5), .val (.int p6), .val (.ref a1), .val (.int (-1 : Int32)), .unset, .unset, .unset, .unset] [])) _
        exact seg_2 l Z a0 hw p1 p2 p3 p4 p5 p6 a1 (-1 : Int32) .null dz w_ROTATION_0 w_APPLICATION w_ROTATION_270 w_ROTATION_180 w_ROTATION_90 T55.heap n0 Z55 S_ROTATION_0_55 E_w_ROTATION_0_55 S_APPLICATION_55 E_w_APPLICATION_55 S_ROTATION_270_55 E_w_ROTATION_270_55 S_ROTATION_180_55 E_w_ROTATION_180_55 S_ROTATION_90_55 E_w_ROTATION_90_55 ne_ROTATION_0_ROTATION_270 ne_ROTATION_0_ROTATION_90 ne_ROTATION_0_ROTATION_180 ne_ROTATION_270_ROTATION_90 ne_ROTATION_270_ROTATION_180 ne_ROTATION_90_ROTATION_180 E_a1_55 Fk55_1 Fk55_0 g_a1 (Or.inl ⟨rfl, rfl⟩) hx hby hml hown hnm hret hlk hZ X56 e56 N56 hS B55
  · refine g_iload X0 hx (hb hby at_20) rfl ?_
    refine g_iconst X0 hx (1 : Int32) (hb hby at_22) (by decide) ?_
    refine g_iand X0 hx (hb hby at_23) ?_
    by_cases c24_57 : (p6 &&& (1 : Int32)) = (0 : Int32)
    · refine g_ifYes X0 hx 44 (hb hby at_24) ((if0 _ _).trans (teq c24_57).1) (by decide) (by decide) ?_
      show Go p e below (s₁.setTop (mkF m 44 #[.val (.int p1), .val (.int p2), .val (.int p3), .val (.int p4), .val (.int p5), .val (.int p6), .val (.ref a1), .val (.int (3 : Int32)), .unset, .unset, .unset, .unset] [])) _
      exact seg_2 l Z a0 hw p1 p2 p3 p4 p5 p6 a1 (3 : Int32) (.ref w_ROTATION_270) dz w_ROTATION_0 w_APPLICATION w_ROTATION_270 w_ROTATION_180 w_ROTATION_90 h0 n0 Z0 S_ROTATION_0 E_w_ROTATION_0 S_APPLICATION E_w_APPLICATION S_ROTATION_270 E_w_ROTATION_270 S_ROTATION_180 E_w_ROTATION_180 S_ROTATION_90 E_w_ROTATION_90 ne_ROTATION_0_ROTATION_270 ne_ROTATION_0_ROTATION_90 ne_ROTATION_0_ROTATION_180 ne_ROTATION_270_ROTATION_90 ne_ROTATION_270_ROTATION_180 ne_ROTATION_90_ROTATION_180 E_a1 F_a1_picture F_a1_drawn g_a1 (Or.inr (Or.inr (Or.inr (Or.inr (⟨rfl, rfl⟩))))) hx hby hml hown hnm hret hlk hZ X0 e0 N0 hS hB
    · refine g_ifNo X0 hx (hb hby at_24) ((if0 _ _).trans (feq c24_57).1) ?_
      refine g_aload X0 hx (hb hby at_27) rfl rfl ?_
      refine g_iloadN X0 hx (hb hby at_29) rfl ?_
      show Go p e below (s₁.setTop (mkF m 30 #[.val (.int p1), .val (.int p2), .val (.int p3), .val (.int p4), .val (.int p5), .val (.int p6), .val (.ref a1), .val (.int (3 : Int32)), .unset, .unset, .unset, .unset] [(.int p2), (.ref a1)])) _
      rcases own_and3 p2 with q58 | q58 | q58 | q58
      · obtain ⟨v59, T59, L59, X59, q59, st59⟩ := own_callS X0 hx hZ (y := (⟨"com/example/reorient/reorient/service/WindowPictureOfPinLaw", "rot", "(I)Lcom/example/reorient/reorient/model/Rotation;"⟩ : MethodName)) (pc := 30) (Ls := #[.val (.int p1), .val (.int p2), .val (.int p3), .val (.int p4), .val (.int p5), .val (.int p6), .val (.ref a1), .val (.int (3 : Int32)), .unset, .unset, .unset, .unset]) (st := [(.int p2), (.ref a1)]) hown (hw _ (List.mem_of_getElem? (i := 11) rfl)) (hw _ (List.mem_of_getElem? (i := 12) rfl)) (hw _ (List.mem_of_getElem? (i := 13) rfl)) (hw _ (List.mem_of_getElem? (i := 14) rfl)) (by decide) (rm_rot l Z a0 hw p2 w_ROTATION_0 w_ROTATION_90 w_ROTATION_180 w_ROTATION_270 h0 n0 Z0 S_ROTATION_0 S_ROTATION_90 S_ROTATION_180 S_ROTATION_270) e0 pd_1 (hb hby at_30) (by rw [hml]; rfl) (argsL := [(.int p2)]) (rest := [(.ref a1)]) rfl rfl rfl (W := 1) (Nat.le_of_eq rfl) (by decide) (by decide) (by decide) (by decide)
        obtain ⟨rfl, M59, e59⟩ := q59
        have N59 := Fr.app N0 M59
        have r59 : (f_rot p2 w_ROTATION_0 w_ROTATION_90 w_ROTATION_180 w_ROTATION_270) = w_ROTATION_0 := by rw [f_rot, if_pos (q58 : (p2 &&& (3 : Int32)) = (0 : Int32))]
        rw [r59] at st59
        refine Go.mp st59 ?_
        show Go p e below (T59.setTop (mkF m 33 #[.val (.int p1), .val (.int p2), .val (.int p3), .val (.int p4), .val (.int p5), .val (.int p6), .val (.ref a1), .val (.int (3 : Int32)), .unset, .unset, .unset, .unset] [(.ref w_ROTATION_0), (.ref a1)])) _
        obtain ⟨v60, T60, L60, X60, q60, st60⟩ := own_callV X59 hx hZ (y := (⟨"com/example/reorient/reorient/service/Window", "turnTo", "(Lcom/example/reorient/reorient/model/Rotation;)V"⟩ : MethodName)) (pc := 33) (Ls := #[.val (.int p1), .val (.int p2), .val (.int p3), .val (.int p4), .val (.int p5), .val (.int p6), .val (.ref a1), .val (.int (3 : Int32)), .unset, .unset, .unset, .unset]) (st := [(.ref w_ROTATION_0), (.ref a1)]) hown (hw _ (List.mem_of_getElem? (i := 43) rfl)) (hw _ (List.mem_of_getElem? (i := 44) rfl)) (hw _ (List.mem_of_getElem? (i := 46) rfl)) (hw _ (List.mem_of_getElem? (i := 45) rfl)) (hw _ (List.mem_of_getElem? (i := 47) rfl)) (hw _ (List.mem_of_getElem? (i := 2) rfl)) (by decide) (rm_turnTo l Z a0 hw a1 w_ROTATION_0 (.ref w_ROTATION_270) dz h0 n0 Z0 rfl E_a1 F_a1_drawn F_a1_picture g_a1) e59 E_a1 pd_2 (hb hby at_33) (by rw [hml]; rfl) (argsL := [(.ref w_ROTATION_0)]) (rest := []) rfl rfl rfl (W := 0) (Nat.le_of_eq rfl) (by decide) (by decide) (by decide) (by decide)
        obtain ⟨rv60, M60, Kc60, Fk60_0, Fk60_1⟩ := q60
        have N60 := Fr.app N59 M60
        subst rv60
        have r60_1 : (f_turnTo_a1_picture a1 w_ROTATION_0 (.ref w_ROTATION_270) dz) = .null := by rw [f_turnTo_a1_picture, if_neg ((fun q => ne_ROTATION_0_ROTATION_270 (Value.ref.inj q).symm) : ¬ ((Value.ref w_ROTATION_270) = (Value.ref w_ROTATION_0)))]
        rw [r60_1] at Fk60_1
        have S_ROTATION_0_60 := own_sta_keep S_ROTATION_0 Kc60 (own_plain E_a1 (fun _ q => nomatch q))
        have E_w_ROTATION_0_60 := Exa.keep E_w_ROTATION_0 Kc60
        have S_APPLICATION_60 := own_sta_keep S_APPLICATION Kc60 (own_plain E_a1 (fun _ q => nomatch q))
        have E_w_APPLICATION_60 := Exa.keep E_w_APPLICATION Kc60
        have S_ROTATION_270_60 := own_sta_keep S_ROTATION_270 Kc60 (own_plain E_a1 (fun _ q => nomatch q))
        have E_w_ROTATION_270_60 := Exa.keep E_w_ROTATION_270 Kc60
        have S_ROTATION_180_60 := own_sta_keep S_ROTATION_180 Kc60 (own_plain E_a1 (fun _ q => nomatch q))
        have E_w_ROTATION_180_60 := Exa.keep E_w_ROTATION_180 Kc60
        have S_ROTATION_90_60 := own_sta_keep S_ROTATION_90 Kc60 (own_plain E_a1 (fun _ q => nomatch q))
        have E_w_ROTATION_90_60 := Exa.keep E_w_ROTATION_90 Kc60
        have E_a1_60 := Exa.keep E_a1 Kc60
        have Z60 : n0 ≤ T60.heap.size := Nat.le_trans Z0 Kc60.1
        have B60 : _ ≤ T60.heap.size := Nat.le_trans hB Kc60.1
        refine Go.mp st60 ?_
        show Go p e below (T60.setTop (mkF m 36 #[.val (.int p1), .val (.int p2), .val (.int p3), .val (.int p4), .val (.int p5), .val (.int p6), .val (.ref a1), .val (.int (3 : Int32)), .unset, .unset, .unset, .unset] [])) _
        refine g_iload X60 hx (hb hby at_36) rfl ?_
        refine g_iloadN X60 hx (hb hby at_38) rfl ?_
        obtain ⟨v61, T61, L61, X61, q61, st61⟩ := own_callS X60 hx hZ (y := (⟨"com/example/reorient/reorient/service/WindowPictureOfPinLaw", "turn", "(II)I"⟩ : MethodName)) (pc := 39) (Ls := #[.val (.int p1), .val (.int p2), .val (.int p3), .val (.int p4), .val (.int p5), .val (.int p6), .val (.ref a1), .val (.int (3 : Int32)), .unset, .unset, .unset, .unset]) (st := [(.int p2), (.int (3 : Int32))]) hown (hw _ (List.mem_of_getElem? (i := 48) rfl)) (hw _ (List.mem_of_getElem? (i := 49) rfl)) (hw _ (List.mem_of_getElem? (i := 13) rfl)) (hw _ (List.mem_of_getElem? (i := 50) rfl)) (by decide) (rm_turn l Z a0 hw (3 : Int32) p2 T60.heap n0 Z60 ) (rfl : T60.heap = T60.heap) pd_3 (hb hby at_39) (by rw [hml]; rfl) (argsL := [(.int (3 : Int32)), (.int p2)]) (rest := []) rfl rfl rfl (W := 0) (Nat.le_of_eq rfl) (by decide) (by decide) (by decide) (by decide)
        obtain ⟨rfl, M61, e61⟩ := q61
        have N61 := Fr.app N60 M61
        have r61 : (f_turn (3 : Int32) p2) = (-1 : Int32) := by rw [f_turn, if_neg ((by rw [q58]; decide) : ¬ ((3 : Int32) = (p2 &&& (3 : Int32))))]
        rw [r61] at st61
        refine Go.mp st61 ?_
        show Go p e below (T61.setTop (mkF m 42 #[.val (.int p1), .val (.int p2), .val (.int p3), .val (.int p4), .val (.int p5), .val (.int p6), .val (.ref a1), .val (.int (3 : Int32)), .unset, .unset, .unset, .unset] [(.int (-1 : Int32))])) _
        refine g_istore X61 hx #[.val (.int p1), .val (.int p2), .val (.int p3), .val (.int p4), .val (.int p5), .val (.int p6), .val (.ref a1), .val (.int (-1 : Int32)), .unset, .unset, .unset, .unset] (hb hby at_42) rfl ?_
        show Go p e below (T61.setTop (mkF m 44 #[.val (.int p1), .val (.int p2), .val (.int p3), .val (.int p4), .val (.int p5), .val (.int p6), .val (.ref a1), .val (.int (-1 : Int32)), .unset, .unset, .unset, .unset] [])) _
        exact seg_2 l Z a0 hw p1 p2 p3 p4 p5 p6 a1 (-1 : Int32) .null dz w_ROTATION_0 w_APPLICATION w_ROTATION_270 w_ROTATION_180 w_ROTATION_90 T60.heap n0 Z60 S_ROTATION_0_60 E_w_ROTATION_0_60 S_APPLICATION_60 E_w_APPLICATION_60 S_ROTATION_270_60 E_w_ROTATION_270_60 S_ROTATION_180_60 E_w_ROTATION_180_60 S_ROTATION_90_60 E_w_ROTATION_90_60 ne_ROTATION_0_ROTATION_270 ne_ROTATION_0_ROTATION_90 ne_ROTATION_0_ROTATION_180 ne_ROTATION_270_ROTATION_90 ne_ROTATION_270_ROTATION_180 ne_ROTATION_90_ROTATION_180 E_a1_60 Fk60_1 Fk60_0 g_a1 (Or.inl ⟨rfl, rfl⟩) hx hby hml hown hnm hret hlk hZ X61 e61 N61 hS B60
      · obtain ⟨v62, T62, L62, X62, q62, st62⟩ := own_callS X0 hx hZ (y := (⟨"com/example/reorient/reorient/service/WindowPictureOfPinLaw", "rot", "(I)Lcom/example/reorient/reorient/model/Rotation;"⟩ : MethodName)) (pc := 30) (Ls := #[.val (.int p1), .val (.int p2), .val (.int p3), .val (.int p4), .val (.int p5), .val (.int p6), .val (.ref a1), .val (.int (3 : Int32)), .unset, .unset, .unset, .unset]) (st := [(.int p2), (.ref a1)]) hown (hw _ (List.mem_of_getElem? (i := 11) rfl)) (hw _ (List.mem_of_getElem? (i := 12) rfl)) (hw _ (List.mem_of_getElem? (i := 13) rfl)) (hw _ (List.mem_of_getElem? (i := 14) rfl)) (by decide) (rm_rot l Z a0 hw p2 w_ROTATION_0 w_ROTATION_90 w_ROTATION_180 w_ROTATION_270 h0 n0 Z0 S_ROTATION_0 S_ROTATION_90 S_ROTATION_180 S_ROTATION_270) e0 pd_1 (hb hby at_30) (by rw [hml]; rfl) (argsL := [(.int p2)]) (rest := [(.ref a1)]) rfl rfl rfl (W := 1) (Nat.le_of_eq rfl) (by decide) (by decide) (by decide) (by decide)
        obtain ⟨rfl, M62, e62⟩ := q62
        have N62 := Fr.app N0 M62
        have r62 : (f_rot p2 w_ROTATION_0 w_ROTATION_90 w_ROTATION_180 w_ROTATION_270) = w_ROTATION_90 := by rw [f_rot, if_neg ((by rw [q58]; decide) : ¬ ((p2 &&& (3 : Int32)) = (0 : Int32))), if_pos (q58 : (p2 &&& (3 : Int32)) = (1 : Int32))]
        rw [r62] at st62
        refine Go.mp st62 ?_
        show Go p e below (T62.setTop (mkF m 33 #[.val (.int p1), .val (.int p2), .val (.int p3), .val (.int p4), .val (.int p5), .val (.int p6), .val (.ref a1), .val (.int (3 : Int32)), .unset, .unset, .unset, .unset] [(.ref w_ROTATION_90), (.ref a1)])) _
        obtain ⟨v63, T63, L63, X63, q63, st63⟩ := own_callV X62 hx hZ (y := (⟨"com/example/reorient/reorient/service/Window", "turnTo", "(Lcom/example/reorient/reorient/model/Rotation;)V"⟩ : MethodName)) (pc := 33) (Ls := #[.val (.int p1), .val (.int p2), .val (.int p3), .val (.int p4), .val (.int p5), .val (.int p6), .val (.ref a1), .val (.int (3 : Int32)), .unset, .unset, .unset, .unset]) (st := [(.ref w_ROTATION_90), (.ref a1)]) hown (hw _ (List.mem_of_getElem? (i := 43) rfl)) (hw _ (List.mem_of_getElem? (i := 44) rfl)) (hw _ (List.mem_of_getElem? (i := 46) rfl)) (hw _ (List.mem_of_getElem? (i := 45) rfl)) (hw _ (List.mem_of_getElem? (i := 47) rfl)) (hw _ (List.mem_of_getElem? (i := 2) rfl)) (by decide) (rm_turnTo l Z a0 hw a1 w_ROTATION_90 (.ref w_ROTATION_270) dz h0 n0 Z0 rfl E_a1 F_a1_drawn F_a1_picture g_a1) e62 E_a1 pd_2 (hb hby at_33) (by rw [hml]; rfl) (argsL := [(.ref w_ROTATION_90)]) (rest := []) rfl rfl rfl (W := 0) (Nat.le_of_eq rfl) (by decide) (by decide) (by decide) (by decide)
        obtain ⟨rv63, M63, Kc63, Fk63_0, Fk63_1⟩ := q63
        have N63 := Fr.app N62 M63
        subst rv63
        have r63_1 : (f_turnTo_a1_picture a1 w_ROTATION_90 (.ref w_ROTATION_270) dz) = .null := by rw [f_turnTo_a1_picture, if_neg ((fun q => ne_ROTATION_270_ROTATION_90 (Value.ref.inj q)) : ¬ ((Value.ref w_ROTATION_270) = (Value.ref w_ROTATION_90)))]
        rw [r63_1] at Fk63_1
        have S_ROTATION_0_63 := own_sta_keep S_ROTATION_0 Kc63 (own_plain E_a1 (fun _ q => nomatch q))
        have E_w_ROTATION_0_63 := Exa.keep E_w_ROTATION_0 Kc63
        have S_APPLICATION_63 := own_sta_keep S_APPLICATION Kc63 (own_plain E_a1 (fun _ q => nomatch q))
        have E_w_APPLICATION_63 := Exa.keep E_w_APPLICATION Kc63
        have S_ROTATION_270_63 := own_sta_keep S_ROTATION_270 Kc63 (own_plain E_a1 (fun _ q => nomatch q))
        have E_w_ROTATION_270_63 := Exa.keep E_w_ROTATION_270 Kc63
        have S_ROTATION_180_63 := own_sta_keep S_ROTATION_180 Kc63 (own_plain E_a1 (fun _ q => nomatch q))
        have E_w_ROTATION_180_63 := Exa.keep E_w_ROTATION_180 Kc63
        have S_ROTATION_90_63 := own_sta_keep S_ROTATION_90 Kc63 (own_plain E_a1 (fun _ q => nomatch q))
        have E_w_ROTATION_90_63 := Exa.keep E_w_ROTATION_90 Kc63
        have E_a1_63 := Exa.keep E_a1 Kc63
        have Z63 : n0 ≤ T63.heap.size := Nat.le_trans Z0 Kc63.1
        have B63 : _ ≤ T63.heap.size := Nat.le_trans hB Kc63.1
        refine Go.mp st63 ?_
        show Go p e below (T63.setTop (mkF m 36 #[.val (.int p1), .val (.int p2), .val (.int p3), .val (.int p4), .val (.int p5), .val (.int p6), .val (.ref a1), .val (.int (3 : Int32)), .unset, .unset, .unset, .unset] [])) _
        refine g_iload X63 hx (hb hby at_36) rfl ?_
        refine g_iloadN X63 hx (hb hby at_38) rfl ?_
        obtain ⟨v64, T64, L64, X64, q64, st64⟩ := own_callS X63 hx hZ (y := (⟨"com/example/reorient/reorient/service/WindowPictureOfPinLaw", "turn", "(II)I"⟩ : MethodName)) (pc := 39) (Ls := #[.val (.int p1), .val (.int p2), .val (.int p3), .val (.int p4), .val (.int p5), .val (.int p6), .val (.ref a1), .val (.int (3 : Int32)), .unset, .unset, .unset, .unset]) (st := [(.int p2), (.int (3 : Int32))]) hown (hw _ (List.mem_of_getElem? (i := 48) rfl)) (hw _ (List.mem_of_getElem? (i := 49) rfl)) (hw _ (List.mem_of_getElem? (i := 13) rfl)) (hw _ (List.mem_of_getElem? (i := 50) rfl)) (by decide) (rm_turn l Z a0 hw (3 : Int32) p2 T63.heap n0 Z63 ) (rfl : T63.heap = T63.heap) pd_3 (hb hby at_39) (by rw [hml]; rfl) (argsL := [(.int (3 : Int32)), (.int p2)]) (rest := []) rfl rfl rfl (W := 0) (Nat.le_of_eq rfl) (by decide) (by decide) (by decide) (by decide)
        obtain ⟨rfl, M64, e64⟩ := q64
        have N64 := Fr.app N63 M64
        have r64 : (f_turn (3 : Int32) p2) = (-1 : Int32) := by rw [f_turn, if_neg ((by rw [q58]; decide) : ¬ ((3 : Int32) = (p2 &&& (3 : Int32))))]
        rw [r64] at st64
        refine Go.mp st64 ?_
        show Go p e below (T64.setTop (mkF m 42 #[.val (.int p1), .val (.int p2), .val (.int p3), .val (.int p4), .val (.int p5), .val (.int p6), .val (.ref a1), .val (.int (3 : Int32)), .unset, .unset, .unset, .unset] [(.int (-1 : Int32))])) _
        refine g_istore X64 hx #[.val (.int p1), .val (.int p2), .val (.int p3), .val (.int p4), .val (.int p5), .val (.int p6), .val (.ref a1), .val (.int (-1 : Int32)), .unset, .unset, .unset, .unset] (hb hby at_42) rfl ?_
        show Go p e below (T64.setTop (mkF m 44 #[.val (.int p1), .val (.int p2), .val (.int p3), .val (.int p4), .val (.int p5), .val (.int p6), .val (.ref a1), .val (.int (-1 : Int32)), .unset, .unset, .unset, .unset] [])) _
        exact seg_2 l Z a0 hw p1 p2 p3 p4 p5 p6 a1 (-1 : Int32) .null dz w_ROTATION_0 w_APPLICATION w_ROTATION_270 w_ROTATION_180 w_ROTATION_90 T63.heap n0 Z63 S_ROTATION_0_63 E_w_ROTATION_0_63 S_APPLICATION_63 E_w_APPLICATION_63 S_ROTATION_270_63 E_w_ROTATION_270_63 S_ROTATION_180_63 E_w_ROTATION_180_63 S_ROTATION_90_63 E_w_ROTATION_90_63 ne_ROTATION_0_ROTATION_270 ne_ROTATION_0_ROTATION_90 ne_ROTATION_0_ROTATION_180 ne_ROTATION_270_ROTATION_90 ne_ROTATION_270_ROTATION_180 ne_ROTATION_90_ROTATION_180 E_a1_63 Fk63_1 Fk63_0 g_a1 (Or.inl ⟨rfl, rfl⟩) hx hby hml hown hnm hret hlk hZ X64 e64 N64 hS B63
      · obtain ⟨v65, T65, L65, X65, q65, st65⟩ := own_callS X0 hx hZ (y := (⟨"com/example/reorient/reorient/service/WindowPictureOfPinLaw", "rot", "(I)Lcom/example/reorient/reorient/model/Rotation;"⟩ : MethodName)) (pc := 30) (Ls := #[.val (.int p1), .val (.int p2), .val (.int p3), .val (.int p4), .val (.int p5), .val (.int p6), .val (.ref a1), .val (.int (3 : Int32)), .unset, .unset, .unset, .unset]) (st := [(.int p2), (.ref a1)]) hown (hw _ (List.mem_of_getElem? (i := 11) rfl)) (hw _ (List.mem_of_getElem? (i := 12) rfl)) (hw _ (List.mem_of_getElem? (i := 13) rfl)) (hw _ (List.mem_of_getElem? (i := 14) rfl)) (by decide) (rm_rot l Z a0 hw p2 w_ROTATION_0 w_ROTATION_90 w_ROTATION_180 w_ROTATION_270 h0 n0 Z0 S_ROTATION_0 S_ROTATION_90 S_ROTATION_180 S_ROTATION_270) e0 pd_1 (hb hby at_30) (by rw [hml]; rfl) (argsL := [(.int p2)]) (rest := [(.ref a1)]) rfl rfl rfl (W := 1) (Nat.le_of_eq rfl) (by decide) (by decide) (by decide) (by decide)
        obtain ⟨rfl, M65, e65⟩ := q65
        have N65 := Fr.app N0 M65
        have r65 : (f_rot p2 w_ROTATION_0 w_ROTATION_90 w_ROTATION_180 w_ROTATION_270) = w_ROTATION_180 := by rw [f_rot, if_neg ((by rw [q58]; decide) : ¬ ((p2 &&& (3 : Int32)) = (0 : Int32))), if_neg ((by rw [q58]; decide) : ¬ ((p2 &&& (3 : Int32)) = (1 : Int32))), if_pos (q58 : (p2 &&& (3 : Int32)) = (2 : Int32))]
        rw [r65] at st65
        refine Go.mp st65 ?_
        show Go p e below (T65.setTop (mkF m 33 #[.val (.int p1), .val (.int p2), .val (.int p3), .val (.int p4), .val (.int p5), .val (.int p6), .val (.ref a1), .val (.int (3 : Int32)), .unset, .unset, .unset, .unset] [(.ref w_ROTATION_180), (.ref a1)])) _
        obtain ⟨v66, T66, L66, X66, q66, st66⟩ := own_callV X65 hx hZ (y := (⟨"com/example/reorient/reorient/service/Window", "turnTo", "(Lcom/example/reorient/reorient/model/Rotation;)V"⟩ : MethodName)) (pc := 33) (Ls := #[.val (.int p1), .val (.int p2), .val (.int p3), .val (.int p4), .val (.int p5), .val (.int p6), .val (.ref a1), .val (.int (3 : Int32)), .unset, .unset, .unset, .unset]) (st := [(.ref w_ROTATION_180), (.ref a1)]) hown (hw _ (List.mem_of_getElem? (i := 43) rfl)) (hw _ (List.mem_of_getElem? (i := 44) rfl)) (hw _ (List.mem_of_getElem? (i := 46) rfl)) (hw _ (List.mem_of_getElem? (i := 45) rfl)) (hw _ (List.mem_of_getElem? (i := 47) rfl)) (hw _ (List.mem_of_getElem? (i := 2) rfl)) (by decide) (rm_turnTo l Z a0 hw a1 w_ROTATION_180 (.ref w_ROTATION_270) dz h0 n0 Z0 rfl E_a1 F_a1_drawn F_a1_picture g_a1) e65 E_a1 pd_2 (hb hby at_33) (by rw [hml]; rfl) (argsL := [(.ref w_ROTATION_180)]) (rest := []) rfl rfl rfl (W := 0) (Nat.le_of_eq rfl) (by decide) (by decide) (by decide) (by decide)
        obtain ⟨rv66, M66, Kc66, Fk66_0, Fk66_1⟩ := q66
        have N66 := Fr.app N65 M66
        subst rv66
        have r66_1 : (f_turnTo_a1_picture a1 w_ROTATION_180 (.ref w_ROTATION_270) dz) = .null := by rw [f_turnTo_a1_picture, if_neg ((fun q => ne_ROTATION_270_ROTATION_180 (Value.ref.inj q)) : ¬ ((Value.ref w_ROTATION_270) = (Value.ref w_ROTATION_180)))]
        rw [r66_1] at Fk66_1
        have S_ROTATION_0_66 := own_sta_keep S_ROTATION_0 Kc66 (own_plain E_a1 (fun _ q => nomatch q))
        have E_w_ROTATION_0_66 := Exa.keep E_w_ROTATION_0 Kc66
        have S_APPLICATION_66 := own_sta_keep S_APPLICATION Kc66 (own_plain E_a1 (fun _ q => nomatch q))
        have E_w_APPLICATION_66 := Exa.keep E_w_APPLICATION Kc66
        have S_ROTATION_270_66 := own_sta_keep S_ROTATION_270 Kc66 (own_plain E_a1 (fun _ q => nomatch q))
        have E_w_ROTATION_270_66 := Exa.keep E_w_ROTATION_270 Kc66
        have S_ROTATION_180_66 := own_sta_keep S_ROTATION_180 Kc66 (own_plain E_a1 (fun _ q => nomatch q))
        have E_w_ROTATION_180_66 := Exa.keep E_w_ROTATION_180 Kc66
        have S_ROTATION_90_66 := own_sta_keep S_ROTATION_90 Kc66 (own_plain E_a1 (fun _ q => nomatch q))
        have E_w_ROTATION_90_66 := Exa.keep E_w_ROTATION_90 Kc66
        have E_a1_66 := Exa.keep E_a1 Kc66
        have Z66 : n0 ≤ T66.heap.size := Nat.le_trans Z0 Kc66.1
        have B66 : _ ≤ T66.heap.size := Nat.le_trans hB Kc66.1
        refine Go.mp st66 ?_
        show Go p e below (T66.setTop (mkF m 36 #[.val (.int p1), .val (.int p2), .val (.int p3), .val (.int p4), .val (.int p5), .val (.int p6), .val (.ref a1), .val (.int (3 : Int32)), .unset, .unset, .unset, .unset] [])) _
        refine g_iload X66 hx (hb hby at_36) rfl ?_
        refine g_iloadN X66 hx (hb hby at_38) rfl ?_
        obtain ⟨v67, T67, L67, X67, q67, st67⟩ := own_callS X66 hx hZ (y := (⟨"com/example/reorient/reorient/service/WindowPictureOfPinLaw", "turn", "(II)I"⟩ : MethodName)) (pc := 39) (Ls := #[.val (.int p1), .val (.int p2), .val (.int p3), .val (.int p4), .val (.int p5), .val (.int p6), .val (.ref a1), .val (.int (3 : Int32)), .unset, .unset, .unset, .unset]) (st := [(.int p2), (.int (3 : Int32))]) hown (hw _ (List.mem_of_getElem? (i := 48) rfl)) (hw _ (List.mem_of_getElem? (i := 49) rfl)) (hw _ (List.mem_of_getElem? (i := 13) rfl)) (hw _ (List.mem_of_getElem? (i := 50) rfl)) (by decide) (rm_turn l Z a0 hw (3 : Int32) p2 T66.heap n0 Z66 ) (rfl : T66.heap = T66.heap) pd_3 (hb hby at_39) (by rw [hml]; rfl) (argsL := [(.int (3 : Int32)), (.int p2)]) (rest := []) rfl rfl rfl (W := 0) (Nat.le_of_eq rfl) (by decide) (by decide) (by decide) (by decide)
        obtain ⟨rfl, M67, e67⟩ := q67
        have N67 := Fr.app N66 M67
        have r67 : (f_turn (3 : Int32) p2) = (-1 : Int32) := by rw [f_turn, if_neg ((by rw [q58]; decide) : ¬ ((3 : Int32) = (p2 &&& (3 : Int32))))]
        rw [r67] at st67
        refine Go.mp st67 ?_
        show Go p e below (T67.setTop (mkF m 42 #[.val (.int p1), .val (.int p2), .val (.int p3), .val (.int p4), .val (.int p5), .val (.int p6), .val (.ref a1), .val (.int (3 : Int32)), .unset, .unset, .unset, .unset] [(.int (-1 : Int32))])) _
        refine g_istore X67 hx #[.val (.int p1), .val (.int p2), .val (.int p3), .val (.int p4), .val (.int p5), .val (.int p6), .val (.ref a1), .val (.int (-1 : Int32)), .unset, .unset, .unset, .unset] (hb hby at_42) rfl ?_
        show Go p e below (T67.setTop (mkF m 44 #[.val (.int p1), .val (.int p2), .val (.int p3), .val (.int p4), .val (.int p5), .val (.int p6), .val (.ref a1), .val (.int (-1 : Int32)), .unset, .unset, .unset, .unset] [])) _
        exact seg_2 l Z a0 hw p1 p2 p3 p4 p5 p6 a1 (-1 : Int32) .null dz w_ROTATION_0 w_APPLICATION w_ROTATION_270 w_ROTATION_180 w_ROTATION_90 T66.heap n0 Z66 S_ROTATION_0_66 E_w_ROTATION_0_66 S_APPLICATION_66 E_w_APPLICATION_66 S_ROTATION_270_66 E_w_ROTATION_270_66 S_ROTATION_180_66 E_w_ROTATION_180_66 S_ROTATION_90_66 E_w_ROTATION_90_66 ne_ROTATION_0_ROTATION_270 ne_ROTATION_0_ROTATION_90 ne_ROTATION_0_ROTATION_180 ne_ROTATION_270_ROTATION_90 ne_ROTATION_270_ROTATION_180 ne_ROTATION_90_ROTATION_180 E_a1_66 Fk66_1 Fk66_0 g_a1 (Or.inl ⟨rfl, rfl⟩) hx hby hml hown hnm hret hlk hZ X67 e67 N67 hS B66
      · obtain ⟨v68, T68, L68, X68, q68, st68⟩ := own_callS X0 hx hZ (y := (⟨"com/example/reorient/reorient/service/WindowPictureOfPinLaw", "rot", "(I)Lcom/example/reorient/reorient/model/Rotation;"⟩ : MethodName)) (pc := 30) (Ls := #[.val (.int p1), .val (.int p2), .val (.int p3), .val (.int p4), .val (.int p5), .val (.int p6), .val (.ref a1), .val (.int (3 : Int32)), .unset, .unset, .unset, .unset]) (st := [(.int p2), (.ref a1)]) hown (hw _ (List.mem_of_getElem? (i := 11) rfl)) (hw _ (List.mem_of_getElem? (i := 12) rfl)) (hw _ (List.mem_of_getElem? (i := 13) rfl)) (hw _ (List.mem_of_getElem? (i := 14) rfl)) (by decide) (rm_rot l Z a0 hw p2 w_ROTATION_0 w_ROTATION_90 w_ROTATION_180 w_ROTATION_270 h0 n0 Z0 S_ROTATION_0 S_ROTATION_90 S_ROTATION_180 S_ROTATION_270) e0 pd_1 (hb hby at_30) (by rw [hml]; rfl) (argsL := [(.int p2)]) (rest := [(.ref a1)]) rfl rfl rfl (W := 1) (Nat.le_of_eq rfl) (by decide) (by decide) (by decide) (by decide)
        obtain ⟨rfl, M68, e68⟩ := q68
        have N68 := Fr.app N0 M68
        have r68 : (f_rot p2 w_ROTATION_0 w_ROTATION_90 w_ROTATION_180 w_ROTATION_270) = w_ROTATION_270 := by rw [f_rot, if_neg ((by rw [q58]; decide) : ¬ ((p2 &&& (3 : Int32)) = (0 : Int32))), if_neg ((by rw [q58]; decide) : ¬ ((p2 &&& (3 : Int32)) = (1 : Int32))), if_neg ((by rw [q58]; decide) : ¬ ((p2 &&& (3 : Int32)) = (2 : Int32)))]
        rw [r68] at st68
        refine Go.mp st68 ?_
        show Go p e below (T68.setTop (mkF m 33 #[.val (.int p1), .val (.int p2), .val (.int p3), .val (.int p4), .val (.int p5), .val (.int p6), .val (.ref a1), .val (.int (3 : Int32)), .unset, .unset, .unset, .unset] [(.ref w_ROTATION_270), (.ref a1)])) _
        obtain ⟨v69, T69, L69, X69, q69, st69⟩ := own_callV X68 hx hZ (y := (⟨"com/example/reorient/reorient/service/Window", "turnTo", "(Lcom/example/reorient/reorient/model/Rotation;)V"⟩ : MethodName)) (pc := 33) (Ls := #[.val (.int p1), .val (.int p2), .val (.int p3), .val (.int p4), .val (.int p5), .val (.int p6), .val (.ref a1), .val (.int (3 : Int32)), .unset, .unset, .unset, .unset]) (st := [(.ref w_ROTATION_270), (.ref a1)]) hown (hw _ (List.mem_of_getElem? (i := 43) rfl)) (hw _ (List.mem_of_getElem? (i := 44) rfl)) (hw _ (List.mem_of_getElem? (i := 46) rfl)) (hw _ (List.mem_of_getElem? (i := 45) rfl)) (hw _ (List.mem_of_getElem? (i := 47) rfl)) (hw _ (List.mem_of_getElem? (i := 2) rfl)) (by decide) (rm_turnTo l Z a0 hw a1 w_ROTATION_270 (.ref w_ROTATION_270) dz h0 n0 Z0 rfl E_a1 F_a1_drawn F_a1_picture g_a1) e68 E_a1 pd_2 (hb hby at_33) (by rw [hml]; rfl) (argsL := [(.ref w_ROTATION_270)]) (rest := []) rfl rfl rfl (W := 0) (Nat.le_of_eq rfl) (by decide) (by decide) (by decide) (by decide)
        obtain ⟨rv69, M69, Kc69, Fk69_0, Fk69_1⟩ := q69
        have N69 := Fr.app N68 M69
        subst rv69
        have r69_1 : (f_turnTo_a1_picture a1 w_ROTATION_270 (.ref w_ROTATION_270) dz) = (.ref w_ROTATION_270) := by rw [f_turnTo_a1_picture, if_pos (rfl : (Value.ref w_ROTATION_270) = (Value.ref w_ROTATION_270))]
        rw [r69_1] at Fk69_1
        have S_ROTATION_0_69 := own_sta_keep S_ROTATION_0 Kc69 (own_plain E_a1 (fun _ q => nomatch q))
        have E_w_ROTATION_0_69 := Exa.keep E_w_ROTATION_0 Kc69
        have S_APPLICATION_69 := own_sta_keep S_APPLICATION Kc69 (own_plain E_a1 (fun _ q => nomatch q))
        have E_w_APPLICATION_69 := Exa.keep E_w_APPLICATION Kc69
        have S_ROTATION_270_69 := own_sta_keep S_ROTATION_270 Kc69 (own_plain E_a1 (fun _ q => nomatch q))
        have E_w_ROTATION_270_69 := Exa.keep E_w_ROTATION_270 Kc69
        have S_ROTATION_180_69 := own_sta_keep S_ROTATION_180 Kc69 (own_plain E_a1 (fun _ q => nomatch q))
        have E_w_ROTATION_180_69 := Exa.keep E_w_ROTATION_180 Kc69
        have S_ROTATION_90_69 := own_sta_keep S_ROTATION_90 Kc69 (own_plain E_a1 (fun _ q => nomatch q))
        have E_w_ROTATION_90_69 := Exa.keep E_w_ROTATION_90 Kc69
        have E_a1_69 := Exa.keep E_a1 Kc69
        have Z69 : n0 ≤ T69.heap.size := Nat.le_trans Z0 Kc69.1
        have B69 : _ ≤ T69.heap.size := Nat.le_trans hB Kc69.1
        refine Go.mp st69 ?_
        show Go p e below (T69.setTop (mkF m 36 #[.val (.int p1), .val (.int p2), .val (.int p3), .val (.int p4), .val (.int p5), .val (.int p6), .val (.ref a1), .val (.int (3 : Int32)), .unset, .unset, .unset, .unset] [])) _
        refine g_iload X69 hx (hb hby at_36) rfl ?_
        refine g_iloadN X69 hx (hb hby at_38) rfl ?_
        obtain ⟨v70, T70, L70, X70, q70, st70⟩ := own_callS X69 hx hZ (y := (⟨"com/example/reorient/reorient/service/WindowPictureOfPinLaw", "turn", "(II)I"⟩ : MethodName)) (pc := 39) (Ls := #[.val (.int p1), .val (.int p2), .val (.int p3), .val (.int p4), .val (.int p5), .val (.int p6), .val (.ref a1), .val (.int (3 : Int32)), .unset, .unset, .unset, .unset]) (st := [(.int p2), (.int (3 : Int32))]) hown (hw _ (List.mem_of_getElem? (i := 48) rfl)) (hw _ (List.mem_of_getElem? (i := 49) rfl)) (hw _ (List.mem_of_getElem? (i := 13) rfl)) (hw _ (List.mem_of_getElem? (i := 50) rfl)) (by decide) (rm_turn l Z a0 hw (3 : Int32) p2 T69.heap n0 Z69 ) (rfl : T69.heap = T69.heap) pd_3 (hb hby at_39) (by rw [hml]; rfl) (argsL := [(.int (3 : Int32)), (.int p2)]) (rest := []) rfl rfl rfl (W := 0) (Nat.le_of_eq rfl) (by decide) (by decide) (by decide) (by decide)
        obtain ⟨rfl, M70, e70⟩ := q70
        have N70 := Fr.app N69 M70
        have r70 : (f_turn (3 : Int32) p2) = (3 : Int32) := by rw [f_turn, if_pos (q58.symm : (3 : Int32) = (p2 &&& (3 : Int32)))]
        rw [r70] at st70
        refine Go.mp st70 ?_
        show Go p e below (T70.setTop (mkF m 42 #[.val (.int p1), .val (.int p2), .val (.int p3), .val (.int p4), .val (.int p5), .val (.int p6), .val (.ref a1), .val (.int (3 : Int32)), .unset, .unset, .unset, .unset] [(.int (3 : Int32))])) _
        refine g_istore X70 hx #[.val (.int p1), .val (.int p2), .val (.int p3), .val (.int p4), .val (.int p5), .val (.int p6), .val (.ref a1), .val (.int (3 : Int32)), .unset, .unset, .unset, .unset] (hb hby at_42) rfl ?_
        show Go p e below (T70.setTop (mkF m 44 #[.val (.int p1), .val (.int p2), .val (.int p3), .val (.int p4), .val (.int p5), .val (.int p6), .val (.ref a1), .val (.int (3 : Int32)), .unset, .unset, .unset, .unset] [])) _
        exact seg_2 l Z a0 hw p1 p2 p3 p4 p5 p6 a1 (3 : Int32) (.ref w_ROTATION_270) dz w_ROTATION_0 w_APPLICATION w_ROTATION_270 w_ROTATION_180 w_ROTATION_90 T69.heap n0 Z69 S_ROTATION_0_69 E_w_ROTATION_0_69 S_APPLICATION_69 E_w_APPLICATION_69 S_ROTATION_270_69 E_w_ROTATION_270_69 S_ROTATION_180_69 E_w_ROTATION_180_69 S_ROTATION_90_69 E_w_ROTATION_90_69 ne_ROTATION_0_ROTATION_270 ne_ROTATION_0_ROTATION_90 ne_ROTATION_0_ROTATION_180 ne_ROTATION_270_ROTATION_90 ne_ROTATION_270_ROTATION_180 ne_ROTATION_90_ROTATION_180 E_a1_69 Fk69_1 Fk69_0 g_a1 (Or.inr (Or.inr (Or.inr (Or.inr (⟨rfl, rfl⟩))))) hx hby hml hown hnm hret hlk hZ X70 e70 N70 hS B69
theorem pd_4 : parseMethodDescriptor "(Ljava/lang/String;Lcom/example/reorient/reorient/model/Rotation;)V" = some ⟨[(FieldType.object "java/lang/String"), (FieldType.object "com/example/reorient/reorient/model/Rotation")], none⟩ := by decide +kernel
theorem ef_rm_law (m : MethodId) (x0 : Int32) (x1 : Int32) (x2 : Int32) (x3 : Int32) (x4 : Int32) (x5 : Int32) : entryFrame m #[(.int x0), (.int x1), (.int x2), (.int x3), (.int x4), (.int x5)] maxLocals = mkF m 0 #[.val (.int x0), .val (.int x1), .val (.int x2), .val (.int x3), .val (.int x4), .val (.int x5), .unset, .unset, .unset, .unset, .unset, .unset] [] := by first | (simp [entryFrame, mkF, argsToLocals, Value.category, maxLocals]; done) | rfl
set_option maxRecDepth 65536 in
set_option maxHeartbeats 40000000 in
theorem rm_law (l : Launch) (Z : State) (a0 : Array Value) (hw : ∀ d ∈ tables_1, d.before a0 Z = true) (p1 : Int32) (p2 : Int32) (p3 : Int32) (p4 : Int32) (p5 : Int32) (p6 : Int32) (w_ROTATION_0 : Addr) (w_APPLICATION : Addr) (w_ROTATION_270 : Addr) (w_ROTATION_180 : Addr) (w_ROTATION_90 : Addr) (h0 : Heap) (n0 : Nat) (Z0 : n0 ≤ h0.size) (S_ROTATION_0 : Sta Z h0 "com/example/reorient/reorient/model/Rotation" "ROTATION_0" "Lcom/example/reorient/reorient/model/Rotation;" (.ref w_ROTATION_0)) (E_w_ROTATION_0 : Exa Z h0 w_ROTATION_0 "com/example/reorient/reorient/model/Rotation") (S_APPLICATION : Sta Z h0 "com/example/reorient/reorient/model/WindowType" "APPLICATION" "Lcom/example/reorient/reorient/model/WindowType;" (.ref w_APPLICATION)) (E_w_APPLICATION : Exa Z h0 w_APPLICATION "com/example/reorient/reorient/model/WindowType") (S_ROTATION_270 : Sta Z h0 "com/example/reorient/reorient/model/Rotation" "ROTATION_270" "Lcom/example/reorient/reorient/model/Rotation;" (.ref w_ROTATION_270)) (E_w_ROTATION_270 : Exa Z h0 w_ROTATION_270 "com/example/reorient/reorient/model/Rotation") (S_ROTATION_180 : Sta Z h0 "com/example/reorient/reorient/model/Rotation" "ROTATION_180" "Lcom/example/reorient/reorient/model/Rotation;" (.ref w_ROTATION_180)) (E_w_ROTATION_180 : Exa Z h0 w_ROTATION_180 "com/example/reorient/reorient/model/Rotation") (S_ROTATION_90 : Sta Z h0 "com/example/reorient/reorient/model/Rotation" "ROTATION_90" "Lcom/example/reorient/reorient/model/Rotation;" (.ref w_ROTATION_90)) (E_w_ROTATION_90 : Exa Z h0 w_ROTATION_90 "com/example/reorient/reorient/model/Rotation") (ne_ROTATION_0_ROTATION_270 : ¬ (w_ROTATION_0 = w_ROTATION_270)) (ne_ROTATION_0_ROTATION_90 : ¬ (w_ROTATION_0 = w_ROTATION_90)) (ne_ROTATION_0_ROTATION_180 : ¬ (w_ROTATION_0 = w_ROTATION_180)) (ne_ROTATION_270_ROTATION_90 : ¬ (w_ROTATION_270 = w_ROTATION_90)) (ne_ROTATION_270_ROTATION_180 : ¬ (w_ROTATION_270 = w_ROTATION_180)) (ne_ROTATION_90_ROTATION_180 : ¬ (w_ROTATION_90 = w_ROTATION_180)) :
    CtrW l x code maxLocals ret tables_1 room_1 Z #[(.int p1), (.int p2), (.int p3), (.int p4), (.int p5), (.int p6)] h0 (fun v h L => v = some (.int 1) ∧ Fr n0 L) := by
  refine own_enterW pn_0 (fun p e s m below meth c s₁ hx hby hml hown hnm hret hlk hZ X0 e0 => ?_)
  have N0 := Fr.nil n0
  rw [ef_rm_law m _ _ _ _ _ _]
  show Go p e below (s₁.setTop (mkF m 0 #[.val (.int p1), .val (.int p2), .val (.int p3), .val (.int p4), .val (.int p5), .val (.int p6), .unset, .unset, .unset, .unset, .unset, .unset] [])) _
  obtain ⟨T1, h1, X1, e1, E1, A1, D1, -, st1⟩ := newO X0 hx hZ hown (hw _ (List.mem_of_getElem? (i := 0) rfl)) (hw _ (List.mem_of_getElem? (i := 1) rfl)) (hw _ (List.mem_of_getElem? (i := 2) rfl)) e0 (g := (mkF m 0 #[.val (.int p1), .val (.int p2), .val (.int p3), .val (.int p4), .val (.int p5), .val (.int p6), .unset, .unset, .unset, .unset, .unset, .unset] [])) rfl (hb hby at_0) (by decide) (by decide)
  obtain ⟨b1, g1⟩ : ∃ z, z = h0.size := ⟨_, rfl⟩
  rw [← g1] at A1 D1 st1
  have ne_w_ROTATION_0_b1 : w_ROTATION_0 ≠ b1 := Nat.ne_of_lt (Nat.lt_of_lt_of_le E_w_ROTATION_0.lt (Nat.le_of_eq g1.symm))
  have ne_w_APPLICATION_b1 : w_APPLICATION ≠ b1 := Nat.ne_of_lt (Nat.lt_of_lt_of_le E_w_APPLICATION.lt (Nat.le_of_eq g1.symm))
  have ne_w_ROTATION_270_b1 : w_ROTATION_270 ≠ b1 := Nat.ne_of_lt (Nat.lt_of_lt_of_le E_w_ROTATION_270.lt (Nat.le_of_eq g1.symm))
  have ne_w_ROTATION_180_b1 : w_ROTATION_180 ≠ b1 := Nat.ne_of_lt (Nat.lt_of_lt_of_le E_w_ROTATION_180.lt (Nat.le_of_eq g1.symm))
  have ne_w_ROTATION_90_b1 : w_ROTATION_90 ≠ b1 := Nat.ne_of_lt (Nat.lt_of_lt_of_le E_w_ROTATION_90.lt (Nat.le_of_eq g1.symm))
  have g_b1 : n0 ≤ b1 := Nat.le_trans Z0 (Nat.le_of_eq g1.symm)
  have Z1 : n0 ≤ h1.size := Nat.le_trans Z0 E1.1
  have S_ROTATION_0_1 := Sta.ext E1 S_ROTATION_0
  have E_w_ROTATION_0_1 := Exa.ext E1 E_w_ROTATION_0
  have S_APPLICATION_1 := Sta.ext E1 S_APPLICATION
  have E_w_APPLICATION_1 := Exa.ext E1 E_w_APPLICATION
  have S_ROTATION_270_1 := Sta.ext E1 S_ROTATION_270
  have E_w_ROTATION_270_1 := Exa.ext E1 E_w_ROTATION_270
  have S_ROTATION_180_1 := Sta.ext E1 S_ROTATION_180
  have E_w_ROTATION_180_1 := Exa.ext E1 E_w_ROTATION_180
  have S_ROTATION_90_1 := Sta.ext E1 S_ROTATION_90
  have E_w_ROTATION_90_1 := Exa.ext E1 E_w_ROTATION_90
  have F1_visible : Fld Z h1 b1 "com/example/reorient/reorient/service/Window" "visible" "Z" (.int (0 : Int32)) := D1 (Or.inl (hw _ (List.mem_of_getElem? (i := 25) rfl))) (ty := FieldType.boolean) (by decide)
  have F1_type : Fld Z h1 b1 "com/example/reorient/reorient/service/Window" "type" "Lcom/example/reorient/reorient/model/WindowType;" .null := D1 (Or.inl (hw _ (List.mem_of_getElem? (i := 30) rfl))) (ty := (FieldType.object "com/example/reorient/reorient/model/WindowType")) (by decide)
  have F1_drawn : Fld Z h1 b1 "com/example/reorient/reorient/service/Window" "drawn" "Z" (.int (0 : Int32)) := D1 (Or.inl (hw _ (List.mem_of_getElem? (i := 32) rfl))) (ty := FieldType.boolean) (by decide)
  have F1_hidden : Fld Z h1 b1 "com/example/reorient/reorient/service/Window" "hidden" "Z" (.int (0 : Int32)) := D1 (Or.inl (hw _ (List.mem_of_getElem? (i := 34) rfl))) (ty := FieldType.boolean) (by decide)
  have F1_fadeDone : Fld Z h1 b1 "com/example/reorient/reorient/service/Window" "fadeDone" "Lcom/example/reorient/reorient/service/Clock$Task;" .null := D1 (Or.inl (hw _ (List.mem_of_getElem? (i := 36) rfl))) (ty := (FieldType.object "com/example/reorient/reorient/service/Clock$Task")) (by decide)
  have F1_name : Fld Z h1 b1 "com/example/reorient/reorient/service/Window" "name" "Ljava/lang/String;" .null := D1 (Or.inr (hw _ (List.mem_of_getElem? (i := 38) rfl))) (ty := (FieldType.object "java/lang/String")) (by decide)
  have F1_picture : Fld Z h1 b1 "com/example/reorient/reorient/service/Window" "picture" "Lcom/example/reorient/reorient/model/Rotation;" .null := D1 (Or.inl (hw _ (List.mem_of_getElem? (i := 40) rfl))) (ty := (FieldType.object "com/example/reorient/reorient/model/Rotation")) (by decide)
  refine Go.mp st1 ?_
  show Go p e below (T1.setTop (mkF m 3 #[.val (.int p1), .val (.int p2), .val (.int p3), .val (.int p4), .val (.int p5), .val (.int p6), .unset, .unset, .unset, .unset, .unset, .unset] [(.ref b1)])) _
  refine g_dup X1 hx (hb hby at_3) rfl ?_
  show Go p e below (T1.setTop (mkF m 4 #[.val (.int p1), .val (.int p2), .val (.int p3), .val (.int p4), .val (.int p5), .val (.int p6), .unset, .unset, .unset, .unset, .unset, .unset] [(.ref b1), (.ref b1)])) _
  obtain ⟨b2, T2, h2, k1, X2, e2, E2, hS, hB, hZ, hown, st2⟩ := ldcS (s := s) (vm0 := s.vm) X1 hx hZ hown (hw _ (List.mem_of_getElem? (i := 3) rfl)) (fun d hd => by
        simp only [Bundle.stringAtoms, List.mem_cons, List.not_mem_nil, or_false] at hd
        rcases hd with rfl | rfl | rfl | rfl | rfl | rfl | rfl
        · exact hw _ (List.mem_of_getElem? (i := 4) rfl)
        · exact hw _ (List.mem_of_getElem? (i := 5) rfl)
        · exact hw _ (List.mem_of_getElem? (i := 6) rfl)
        · exact hw _ (List.mem_of_getElem? (i := 7) rfl)
        · exact hw _ (List.mem_of_getElem? (i := 8) rfl)
        · exact hw _ (List.mem_of_getElem? (i := 9) rfl)
        · exact hw _ (List.mem_of_getElem? (i := 10) rfl)) e1 (k0 := 0) ((State.WarmedH.refl s).since 0) (Nat.zero_le _) (g := (mkF m 4 #[.val (.int p1), .val (.int p2), .val (.int p3), .val (.int p4), .val (.int p5), .val (.int p6), .unset, .unset, .unset, .unset, .unset, .unset] [(.ref b1), (.ref b1)])) rfl (hb hby at_4) (n := 4) (by decide) (by decide) (by decide) (by decide)
  have S_ROTATION_0_2 := Sta.ext E2 S_ROTATION_0_1
  have E_w_ROTATION_0_2 := Exa.ext E2 E_w_ROTATION_0_1
  have S_APPLICATION_2 := Sta.ext E2 S_APPLICATION_1
  have E_w_APPLICATION_2 := Exa.ext E2 E_w_APPLICATION_1
  have S_ROTATION_270_2 := Sta.ext E2 S_ROTATION_270_1
  have E_w_ROTATION_270_2 := Exa.ext E2 E_w_ROTATION_270_1
  have S_ROTATION_180_2 := Sta.ext E2 S_ROTATION_180_1
  have E_w_ROTATION_180_2 := Exa.ext E2 E_w_ROTATION_180_1
  have S_ROTATION_90_2 := Sta.ext E2 S_ROTATION_90_1
  have E_w_ROTATION_90_2 := Exa.ext E2 E_w_ROTATION_90_1
  have E_b1_2 := Exa.ext E2 A1
  have F_b1_visible_2 := Fld.ext E2 F1_visible
  have F_b1_type_2 := Fld.ext E2 F1_type
  have F_b1_drawn_2 := Fld.ext E2 F1_drawn
  have F_b1_hidden_2 := Fld.ext E2 F1_hidden
  have F_b1_fadeDone_2 := Fld.ext E2 F1_fadeDone
  have F_b1_name_2 := Fld.ext E2 F1_name
  have F_b1_picture_2 := Fld.ext E2 F1_picture
  have Z2 : n0 ≤ h2.size := Nat.le_trans Z1 E2.1
  refine Go.mp st2 ?_
  refine g_iloadN X2 hx (hb hby at_6) rfl ?_
  show Go p e below (T2.setTop (mkF m 7 #[.val (.int p1), .val (.int p2), .val (.int p3), .val (.int p4), .val (.int p5), .val (.int p6), .unset, .unset, .unset, .unset, .unset, .unset] [(.int p1), (.ref b2), (.ref b1), (.ref b1)])) _
  rcases own_and3 p1 with q3 | q3 | q3 | q3
  · obtain ⟨v4, T4, L4, X4, q4, st4⟩ := own_callS X2 hx hZ (y := (⟨"com/example/reorient/reorient/service/WindowPictureOfPinLaw", "rot", "(I)Lcom/example/reorient/reorient/model/Rotation;"⟩ : MethodName)) (pc := 7) (Ls := #[.val (.int p1), .val (.int p2), .val (.int p3), .val (.int p4), .val (.int p5), .val (.int p6), .unset, .unset, .unset, .unset, .unset, .unset]) (st := [(.int p1), (.ref b2), (.ref b1), (.ref b1)]) hown (hw _ (List.mem_of_getElem? (i := 11) rfl)) (hw _ (List.mem_of_getElem? (i := 12) rfl)) (hw _ (List.mem_of_getElem? (i := 13) rfl)) (hw _ (List.mem_of_getElem? (i := 14) rfl)) (by decide) (rm_rot l Z a0 hw p1 w_ROTATION_0 w_ROTATION_90 w_ROTATION_180 w_ROTATION_270 h2 n0 Z2 S_ROTATION_0_2 S_ROTATION_90_2 S_ROTATION_180_2 S_ROTATION_270_2) e2 pd_1 (hb hby at_7) (by rw [hml]; rfl) (argsL := [(.int p1)]) (rest := [(.ref b2), (.ref b1), (.ref b1)]) rfl rfl rfl (W := 3) (Nat.le_of_eq rfl) (by decide) (by decide) (by decide) (by decide)
    obtain ⟨rfl, M4, e4⟩ := q4
    have N4 := Fr.app N0 M4
    have r4 : (f_rot p1 w_ROTATION_0 w_ROTATION_90 w_ROTATION_180 w_ROTATION_270) = w_ROTATION_0 := by rw [f_rot, if_pos (q3 : (p1 &&& (3 : Int32)) = (0 : Int32))]
    rw [r4] at st4
    refine Go.mp st4 ?_
    show Go p e below (T4.setTop (mkF m 10 #[.val (.int p1), .val (.int p2), .val (.int p3), .val (.int p4), .val (.int p5), .val (.int p6), .unset, .unset, .unset, .unset, .unset, .unset] [(.ref w_ROTATION_0), (.ref b2), (.ref b1), (.ref b1)])) _
    obtain ⟨v5, T5, L5, X5, q5, st5⟩ := own_callI X4 hx hZ (y := (⟨"com/example/reorient/reorient/service/Window", "<init>", "(Ljava/lang/String;Lcom/example/reorient/reorient/model/Rotation;)V"⟩ : MethodName)) (pc := 10) (Ls := #[.val (.int p1), .val (.int p2), .val (.int p3), .val (.int p4), .val (.int p5), .val (.int p6), .unset, .unset, .unset, .unset, .unset, .unset]) (st := [(.ref w_ROTATION_0), (.ref b2), (.ref b1), (.ref b1)]) hown (hw _ (List.mem_of_getElem? (i := 18) rfl)) (hw _ (List.mem_of_getElem? (i := 19) rfl)) (hw _ (List.mem_of_getElem? (i := 20) rfl)) (hw _ (List.mem_of_getElem? (i := 2) rfl)) rfl (by decide) (rm_winInit l Z a0 hw b1 b2 w_ROTATION_0 w_APPLICATION h2 n0 Z2 E_b1_2 F_b1_visible_2 F_b1_type_2 F_b1_drawn_2 F_b1_hidden_2 F_b1_fadeDone_2 F_b1_name_2 F_b1_picture_2 g_b1 S_APPLICATION_2) e4 pd_4 (hb hby at_10) (by rw [hml]; rfl) (argsL := [(.ref b2), (.ref w_ROTATION_0)]) (rest := [(.ref b1)]) rfl rfl rfl (W := 1) (Nat.le_of_eq rfl) (by decide) (by decide) (by decide) (by decide)
    obtain ⟨rv5, M5, Kc5, Fk5_0, Fk5_1⟩ := q5
    have N5 := Fr.app N4 M5
    subst rv5
    have S_ROTATION_0_5 := own_sta_keep S_ROTATION_0_2 Kc5 (own_plain E_b1_2 (fun _ q => nomatch q))
    have E_w_ROTATION_0_5 := Exa.keep E_w_ROTATION_0_2 Kc5
    have S_APPLICATION_5 := own_sta_keep S_APPLICATION_2 Kc5 (own_plain E_b1_2 (fun _ q => nomatch q))
    have E_w_APPLICATION_5 := Exa.keep E_w_APPLICATION_2 Kc5
    have S_ROTATION_270_5 := own_sta_keep S_ROTATION_270_2 Kc5 (own_plain E_b1_2 (fun _ q => nomatch q))
    have E_w_ROTATION_270_5 := Exa.keep E_w_ROTATION_270_2 Kc5
    have S_ROTATION_180_5 := own_sta_keep S_ROTATION_180_2 Kc5 (own_plain E_b1_2 (fun _ q => nomatch q))
    have E_w_ROTATION_180_5 := Exa.keep E_w_ROTATION_180_2 Kc5
    have S_ROTATION_90_5 := own_sta_keep S_ROTATION_90_2 Kc5 (own_plain E_b1_2 (fun _ q => nomatch q))
    have E_w_ROTATION_90_5 := Exa.keep E_w_ROTATION_90_2 Kc5
    have E_b1_5 := Exa.keep E_b1_2 Kc5
    have Z5 : n0 ≤ T5.heap.size := Nat.le_trans Z2 Kc5.1
    have B5 : _ ≤ T5.heap.size := Nat.le_trans hB Kc5.1
    refine Go.mp st5 ?_
    show Go p e below (T5.setTop (mkF m 13 #[.val (.int p1), .val (.int p2), .val (.int p3), .val (.int p4), .val (.int p5), .val (.int p6), .unset, .unset, .unset, .unset, .unset, .unset] [(.ref b1)])) _
    refine g_astore X5 hx #[.val (.int p1), .val (.int p2), .val (.int p3), .val (.int p4), .val (.int p5), .val (.int p6), .val (.ref b1), .unset, .unset, .unset, .unset, .unset] (hb hby at_13) rfl rfl ?_
    refine g_iloadN X5 hx (hb hby at_15) rfl ?_
    refine g_iconst X5 hx (3 : Int32) (hb hby at_16) (by decide) ?_
    refine g_iand X5 hx (hb hby at_17) ?_
    refine g_istore X5 hx #[.val (.int p1), .val (.int p2), .val (.int p3), .val (.int p4), .val (.int p5), .val (.int p6), .val (.ref b1), .val (.int (p1 &&& (3 : Int32))), .unset, .unset, .unset, .unset] (hb hby at_18) rfl ?_
    show Go p e below (T5.setTop (mkF m 20 #[.val (.int p1), .val (.int p2), .val (.int p3), .val (.int p4), .val (.int p5), .val (.int p6), .val (.ref b1), .val (.int (p1 &&& (3 : Int32))), .unset, .unset, .unset, .unset] [])) _
    exact seg_1 l Z a0 hw p1 p2 p3 p4 p5 p6 b1 (p1 &&& (3 : Int32)) (.ref w_ROTATION_0) (0 : Int32) w_ROTATION_0 w_APPLICATION w_ROTATION_270 w_ROTATION_180 w_ROTATION_90 T5.heap n0 Z5 S_ROTATION_0_5 E_w_ROTATION_0_5 S_APPLICATION_5 E_w_APPLICATION_5 S_ROTATION_270_5 E_w_ROTATION_270_5 S_ROTATION_180_5 E_w_ROTATION_180_5 S_ROTATION_90_5 E_w_ROTATION_90_5 ne_ROTATION_0_ROTATION_270 ne_ROTATION_0_ROTATION_90 ne_ROTATION_0_ROTATION_180 ne_ROTATION_270_ROTATION_90 ne_ROTATION_270_ROTATION_180 ne_ROTATION_90_ROTATION_180 E_b1_5 Fk5_1 Fk5_0 g_b1 (Or.inr (Or.inl ⟨q3, rfl⟩)) hx hby hml hown hnm hret hlk hZ X5 (rfl : T5.heap = T5.heap) N5 hS B5
  · obtain ⟨v6, T6, L6, X6, q6, st6⟩ := own_callS X2 hx hZ (y := (⟨"com/example/reorient/reorient/service/WindowPictureOfPinLaw", "rot", "(I)Lcom/example/reorient/reorient/model/Rotation;"⟩ : MethodName)) (pc := 7) (Ls := #[.val (.int p1), .val (.int p2), .val (.int p3), .val (.int p4), .val (.int p5), .val (.int p6), .unset, .unset, .unset, .unset, .unset, .unset]) (st := [(.int p1), (.ref b2), (.ref b1), (.ref b1)]) hown (hw _ (List.mem_of_getElem? (i := 11) rfl)) (hw _ (List.mem_of_getElem? (i := 12) rfl)) (hw _ (List.mem_of_getElem? (i := 13) rfl)) (hw _ (List.mem_of_getElem? (i := 14) rfl)) (by decide) (rm_rot l Z a0 hw p1 w_ROTATION_0 w_ROTATION_90 w_ROTATION_180 w_ROTATION_270 h2 n0 Z2 S_ROTATION_0_2 S_ROTATION_90_2 S_ROTATION_180_2 S_ROTATION_270_2) e2 pd_1 (hb hby at_7) (by rw [hml]; rfl) (argsL := [(.int p1)]) (rest := [(.ref b2), (.ref b1), (.ref b1)]) rfl rfl rfl (W := 3) (Nat.le_of_eq rfl) (by decide) (by decide) (by decide) (by decide)
    obtain ⟨rfl, M6, e6⟩ := q6
    have N6 := Fr.app N0 M6
    have r6 : (f_rot p1 w_ROTATION_0 w_ROTATION_90 w_ROTATION_180 w_ROTATION_270) = w_ROTATION_90 := by rw [f_rot, if_neg ((by rw [q3]; decide) : ¬ ((p1 &&& (3 : Int32)) = (0 : Int32))), if_pos (q3 : (p1 &&& (3 : Int32)) = (1 : Int32))]
    rw [r6] at st6
    refine Go.mp st6 ?_
    show Go p e below (T6.setTop (mkF m 10 #[.val (.int p1), .val (.int p2), .val (.int p3), .val (.int p4), .val (.int p5), .val (.int p6), .unset, .unset, .unset, .unset, .unset, .unset] [(.ref w_ROTATION_90), (.ref b2), (.ref b1), (.ref b1)])) _
    obtain ⟨v7, T7, L7, X7, q7, st7⟩ := own_callI X6 hx hZ (y := (⟨"com/example/reorient/reorient/service/Window", "<init>", "(Ljava/lang/String;Lcom/example/reorient/reorient/model/Rotation;)V"⟩ : MethodName)) (pc := 10) (Ls := #[.val (.int p1), .val (.int p2), .val (.int p3), .val (.int p4), .val (.int p5), .val (.int p6), .unset, .unset, .unset, .unset, .unset, .unset]) (st := [(.ref w_ROTATION_90), (.ref b2), (.ref b1), (.ref b1)]) hown (hw _ (List.mem_of_getElem? (i := 18) rfl)) (hw _ (List.mem_of_getElem? (i := 19) rfl)) (hw _ (List.mem_of_getElem? (i := 20) rfl)) (hw _ (List.mem_of_getElem? (i := 2) rfl)) rfl (by decide) (rm_winInit l Z a0 hw b1 b2 w_ROTATION_90 w_APPLICATION h2 n0 Z2 E_b1_2 F_b1_visible_2 F_b1_type_2 F_b1_drawn_2 F_b1_hidden_2 F_b1_fadeDone_2 F_b1_name_2 F_b1_picture_2 g_b1 S_APPLICATION_2) e6 pd_4 (hb hby at_10) (by rw [hml]; rfl) (argsL := [(.ref b2), (.ref w_ROTATION_90)]) (rest := [(.ref b1)]) rfl rfl rfl (W := 1) (Nat.le_of_eq rfl) (by decide) (by decide) (by decide) (by decide)
    obtain ⟨rv7, M7, Kc7, Fk7_0, Fk7_1⟩ := q7
    have N7 := Fr.app N6 M7
    subst rv7
    have S_ROTATION_0_7 := own_sta_keep S_ROTATION_0_2 Kc7 (own_plain E_b1_2 (fun _ q => nomatch q))
    have E_w_ROTATION_0_7 := Exa.keep E_w_ROTATION_0_2 Kc7
    have S_APPLICATION_7 := own_sta_keep S_APPLICATION_2 Kc7 (own_plain E_b1_2 (fun _ q => nomatch q))
    have E_w_APPLICATION_7 := Exa.keep E_w_APPLICATION_2 Kc7
    have S_ROTATION_270_7 := own_sta_keep S_ROTATION_270_2 Kc7 (own_plain E_b1_2 (fun _ q => nomatch q))
    have E_w_ROTATION_270_7 := Exa.keep E_w_ROTATION_270_2 Kc7
    have S_ROTATION_180_7 := own_sta_keep S_ROTATION_180_2 Kc7 (own_plain E_b1_2 (fun _ q => nomatch q))
    have E_w_ROTATION_180_7 := Exa.keep E_w_ROTATION_180_2 Kc7
    have S_ROTATION_90_7 := own_sta_keep S_ROTATION_90_2 Kc7 (own_plain E_b1_2 (fun _ q => nomatch q))
    have E_w_ROTATION_90_7 := Exa.keep E_w_ROTATION_90_2 Kc7
    have E_b1_7 := Exa.keep E_b1_2 Kc7
    have Z7 : n0 ≤ T7.heap.size := Nat.le_trans Z2 Kc7.1
    have B7 : _ ≤ T7.heap.size := Nat.le_trans hB Kc7.1
    refine Go.mp st7 ?_
    show Go p e below (T7.setTop (mkF m 13 #[.val (.int p1), .val (.int p2), .val (.int p3), .val (.int p4), .val (.int p5), .val (.int p6), .unset, .unset, .unset, .unset, .unset, .unset] [(.ref b1)])) _
    refine g_astore X7 hx #[.val (.int p1), .val (.int p2), .val (.int p3), .val (.int p4), .val (.int p5), .val (.int p6), .val (.ref b1), .unset, .unset, .unset, .unset, .unset] (hb hby at_13) rfl rfl ?_
    refine g_iloadN X7 hx (hb hby at_15) rfl ?_
    refine g_iconst X7 hx (3 : Int32) (hb hby at_16) (by decide) ?_
    refine g_iand X7 hx (hb hby at_17) ?_
    refine g_istore X7 hx #[.val (.int p1), .val (.int p2), .val (.int p3), .val (.int p4), .val (.int p5), .val (.int p6), .val (.ref b1), .val (.int (p1 &&& (3 : Int32))), .unset, .unset, .unset, .unset] (hb hby at_18) rfl ?_
    show Go p e below (T7.setTop (mkF m 20 #[.val (.int p1), .val (.int p2), .val (.int p3), .val (.int p4), .val (.int p5), .val (.int p6), .val (.ref b1), .val (.int (p1 &&& (3 : Int32))), .unset, .unset, .unset, .unset] [])) _
    exact seg_1 l Z a0 hw p1 p2 p3 p4 p5 p6 b1 (p1 &&& (3 : Int32)) (.ref w_ROTATION_90) (0 : Int32) w_ROTATION_0 w_APPLICATION w_ROTATION_270 w_ROTATION_180 w_ROTATION_90 T7.heap n0 Z7 S_ROTATION_0_7 E_w_ROTATION_0_7 S_APPLICATION_7 E_w_APPLICATION_7 S_ROTATION_270_7 E_w_ROTATION_270_7 S_ROTATION_180_7 E_w_ROTATION_180_7 S_ROTATION_90_7 E_w_ROTATION_90_7 ne_ROTATION_0_ROTATION_270 ne_ROTATION_0_ROTATION_90 ne_ROTATION_0_ROTATION_180 ne_ROTATION_270_ROTATION_90 ne_ROTATION_270_ROTATION_180 ne_ROTATION_90_ROTATION_180 E_b1_7 Fk7_1 Fk7_0 g_b1 (Or.inr (Or.inr (Or.inl ⟨q3, rfl⟩))) hx hby hml hown hnm hret hlk hZ X7 (rfl : T7.heap = T7.heap) N7 hS B7
  · obtain ⟨v8, T8, L8, X8, q8, st8⟩ := own_callS X2 hx hZ (y := (⟨"com/example/reorient/reorient/service/WindowPictureOfPinLaw", "rot", "(I)Lcom/example/reorient/reorient/model/Rotation;"⟩ : MethodName)) (pc := 7) (Ls := #[.val (.int p1), .val (.int p2), .val (.int p3), .val (.int p4), .val (.int p5), .val (.int p6), .unset, .unset, .unset, .unset, .unset, .unset]) (st := [(.int p1), (.ref b2), (.ref b1), (.ref b1)]) hown (hw _ (List.mem_of_getElem? (i := 11) rfl)) (hw _ (List.mem_of_getElem? (i := 12) rfl)) (hw _ (List.mem_of_getElem? (i := 13) rfl)) (hw _ (List.mem_of_getElem? (i := 14) rfl)) (by decide) (rm_rot l Z a0 hw p1 w_ROTATION_0 w_ROTATION_90 w_ROTATION_180 w_ROTATION_270 h2 n0 Z2 S_ROTATION_0_2 S_ROTATION_90_2 S_ROTATION_180_2 S_ROTATION_270_2) e2 pd_1 (hb hby at_7) (by rw [hml]; rfl) (argsL := [(.int p1)]) (rest := [(.ref b2), (.ref b1), (.ref b1)]) rfl rfl rfl (W := 3) (Nat.le_of_eq rfl) (by decide) (by decide) (by decide) (by decide)
    obtain ⟨rfl, M8, e8⟩ := q8
    have N8 := Fr.app N0 M8
    have r8 : (f_rot p1 w_ROTATION_0 w_ROTATION_90 w_ROTATION_180 w_ROTATION_270) = w_ROTATION_180 := by rw [f_rot, if_neg ((by rw [q3]; decide) : ¬ ((p1 &&& (3 : Int32)) = (0 : Int32))), if_neg ((by rw [q3]; decide) : ¬ ((p1 &&& (3 : Int32)) = (1 : Int32))), if_pos (q3 : (p1 &&& (3 : Int32)) = (2 : Int32))]
    rw [r8] at st8
    refine Go.mp st8 ?_
    show Go p e below (T8.setTop (mkF m 10 #[.val (.int p1), .val (.int p2), .val (.int p3), .val (.int p4), .val (.int p5), .val (.int p6), .unset, .unset, .unset, .unset, .unset, .unset] [(.ref w_ROTATION_180), (.ref b2), (.ref b1), (.ref b1)])) _
    obtain ⟨v9, T9, L9, X9, q9, st9⟩ := own_callI X8 hx hZ (y := (⟨"com/example/reorient/reorient/service/Window", "<init>", "(Ljava/lang/String;Lcom/example/reorient/reorient/model/Rotation;)V"⟩ : MethodName)) (pc := 10) (Ls := #[.val (.int p1), .val (.int p2), .val (.int p3), .val (.int p4), .val (.int p5), .val (.int p6), .unset, .unset, .unset, .unset, .unset, .unset]) (st := [(.ref w_ROTATION_180), (.ref b2), (.ref b1), (.ref b1)]) hown (hw _ (List.mem_of_getElem? (i := 18) rfl)) (hw _ (List.mem_of_getElem? (i := 19) rfl)) (hw _ (List.mem_of_getElem? (i := 20) rfl)) (hw _ (List.mem_of_getElem? (i := 2) rfl)) rfl (by decide) (rm_winInit l Z a0 hw b1 b2 w_ROTATION_180 w_APPLICATION h2 n0 Z2 E_b1_2 F_b1_visible_2 F_b1_type_2 F_b1_drawn_2 F_b1_hidden_2 F_b1_fadeDone_2 F_b1_name_2 F_b1_picture_2 g_b1 S_APPLICATION_2) e8 pd_4 (hb hby at_10) (by rw [hml]; rfl) (argsL := [(.ref b2), (.ref w_ROTATION_180)]) (rest := [(.ref b1)]) rfl rfl rfl (W := 1) (Nat.le_of_eq rfl) (by decide) (by decide) (by decide) (by decide)
    obtain ⟨rv9, M9, Kc9, Fk9_0, Fk9_1⟩ := q9
    have N9 := Fr.app N8 M9
    subst rv9
    have S_ROTATION_0_9 := own_sta_keep S_ROTATION_0_2 Kc9 (own_plain E_b1_2 (fun _ q => nomatch q))
    have E_w_ROTATION_0_9 := Exa.keep E_w_ROTATION_0_2 Kc9
    have S_APPLICATION_9 := own_sta_keep S_APPLICATION_2 Kc9 (own_plain E_b1_2 (fun _ q => nomatch q))
    have E_w_APPLICATION_9 := Exa.keep E_w_APPLICATION_2 Kc9
    have S_ROTATION_270_9 := own_sta_keep S_ROTATION_270_2 Kc9 (own_plain E_b1_2 (fun _ q => nomatch q))
    have E_w_ROTATION_270_9 := Exa.keep E_w_ROTATION_270_2 Kc9
    have S_ROTATION_180_9 := own_sta_keep S_ROTATION_180_2 Kc9 (own_plain E_b1_2 (fun _ q => nomatch q))
    have E_w_ROTATION_180_9 := Exa.keep E_w_ROTATION_180_2 Kc9
    have S_ROTATION_90_9 := own_sta_keep S_ROTATION_90_2 Kc9 (own_plain E_b1_2 (fun _ q => nomatch q))
    have E_w_ROTATION_90_9 := Exa.keep E_w_ROTATION_90_2 Kc9
    have E_b1_9 := Exa.keep E_b1_2 Kc9
    have Z9 : n0 ≤ T9.heap.size := Nat.le_trans Z2 Kc9.1
    have B9 : _ ≤ T9.heap.size := Nat.le_trans hB Kc9.1
    refine Go.mp st9 ?_
    show Go p e below (T9.setTop (mkF m 13 #[.val (.int p1), .val (.int p2), .val (.int p3), .val (.int p4), .val (.int p5), .val (.int p6), .unset, .unset, .unset, .unset, .unset, .unset] [(.ref b1)])) _
    refine g_astore X9 hx #[.val (.int p1), .val (.int p2), .val (.int p3), .val (.int p4), .val (.int p5), .val (.int p6), .val (.ref b1), .unset, .unset, .unset, .unset, .unset] (hb hby at_13) rfl rfl ?_
    refine g_iloadN X9 hx (hb hby at_15) rfl ?_
    refine g_iconst X9 hx (3 : Int32) (hb hby at_16) (by decide) ?_
    refine g_iand X9 hx (hb hby at_17) ?_
    refine g_istore X9 hx #[.val (.int p1), .val (.int p2), .val (.int p3), .val (.int p4), .val (.int p5), .val (.int p6), .val (.ref b1), .val (.int (p1 &&& (3 : Int32))), .unset, .unset, .unset, .unset] (hb hby at_18) rfl ?_
    show Go p e below (T9.setTop (mkF m 20 #[.val (.int p1), .val (.int p2), .val (.int p3), .val (.int p4), .val (.int p5), .val (.int p6), .val (.ref b1), .val (.int (p1 &&& (3 : Int32))), .unset, .unset, .unset, .unset] [])) _
    exact seg_1 l Z a0 hw p1 p2 p3 p4 p5 p6 b1 (p1 &&& (3 : Int32)) (.ref w_ROTATION_180) (0 : Int32) w_ROTATION_0 w_APPLICATION w_ROTATION_270 w_ROTATION_180 w_ROTATION_90 T9.heap n0 Z9 S_ROTATION_0_9 E_w_ROTATION_0_9 S_APPLICATION_9 E_w_APPLICATION_9 S_ROTATION_270_9 E_w_ROTATION_270_9 S_ROTATION_180_9 E_w_ROTATION_180_9 S_ROTATION_90_9 E_w_ROTATION_90_9 ne_ROTATION_0_ROTATION_270 ne_ROTATION_0_ROTATION_90 ne_ROTATION_0_ROTATION_180 ne_ROTATION_270_ROTATION_90 ne_ROTATION_270_ROTATION_180 ne_ROTATION_90_ROTATION_180 E_b1_9 Fk9_1 Fk9_0 g_b1 (Or.inr (Or.inr (Or.inr (Or.inl ⟨q3, rfl⟩)))) hx hby hml hown hnm hret hlk hZ X9 (rfl : T9.heap = T9.heap) N9 hS B9
  · obtain ⟨v10, T10, L10, X10, q10, st10⟩ := own_callS X2 hx hZ (y := (⟨"com/example/reorient/reorient/service/WindowPictureOfPinLaw", "rot", "(I)Lcom/example/reorient/reorient/model/Rotation;"⟩ : MethodName)) (pc := 7) (Ls := #[.val (.int p1), .val (.int p2), .val (.int p3), .val (.int p4), .val (.int p5), .val (.int p6), .unset, .unset, .unset, .unset, .unset, .unset]) (st := [(.int p1), (.ref b2), (.ref b1), (.ref b1)]) hown (hw _ (List.mem_of_getElem? (i := 11) rfl)) (hw _ (List.mem_of_getElem? (i := 12) rfl)) (hw _ (List.mem_of_getElem? (i := 13) rfl)) (hw _ (List.mem_of_getElem? (i := 14) rfl)) (by decide) (rm_rot l Z a0 hw p1 w_ROTATION_0 w_ROTATION_90 w_ROTATION_180 w_ROTATION_270 h2 n0 Z2 S_ROTATION_0_2 S_ROTATION_90_2 S_ROTATION_180_2 S_ROTATION_270_2) e2 pd_1 (hb hby at_7) (by rw [hml]; rfl) (argsL := [(.int p1)]) (rest := [(.ref b2), (.ref b1), (.ref b1)]) rfl rfl rfl (W := 3) (Nat.le_of_eq rfl) (by decide) (by decide) (by decide) (by decide)
    obtain ⟨rfl, M10, e10⟩ := q10
    have N10 := Fr.app N0 M10
    have r10 : (f_rot p1 w_ROTATION_0 w_ROTATION_90 w_ROTATION_180 w_ROTATION_270) = w_ROTATION_270 := by rw [f_rot, if_neg ((by rw [q3]; decide) : ¬ ((p1 &&& (3 : Int32)) = (0 : Int32))), if_neg ((by rw [q3]; decide) : ¬ ((p1 &&& (3 : Int32)) = (1 : Int32))), if_neg ((by rw [q3]; decide) : ¬ ((p1 &&& (3 : Int32)) = (2 : Int32)))]
    rw [r10] at st10
    refine Go.mp st10 ?_
    show Go p e below (T10.setTop (mkF m 10 #[.val (.int p1), .val (.int p2), .val (.int p3), .val (.int p4), .val (.int p5), .val (.int p6), .unset, .unset, .unset, .unset, .unset, .unset] [(.ref w_ROTATION_270), (.ref b2), (.ref b1), (.ref b1)])) _
    obtain ⟨v11, T11, L11, X11, q11, st11⟩ := own_callI X10 hx hZ (y := (⟨"com/example/reorient/reorient/service/Window", "<init>", "(Ljava/lang/String;Lcom/example/reorient/reorient/model/Rotation;)V"⟩ : MethodName)) (pc := 10) (Ls := #[.val (.int p1), .val (.int p2), .val (.int p3), .val (.int p4), .val (.int p5), .val (.int p6), .unset, .unset, .unset, .unset, .unset, .unset]) (st := [(.ref w_ROTATION_270), (.ref b2), (.ref b1), (.ref b1)]) hown (hw _ (List.mem_of_getElem? (i := 18) rfl)) (hw _ (List.mem_of_getElem? (i := 19) rfl)) (hw _ (List.mem_of_getElem? (i := 20) rfl)) (hw _ (List.mem_of_getElem? (i := 2) rfl)) rfl (by decide) (rm_winInit l Z a0 hw b1 b2 w_ROTATION_270 w_APPLICATION h2 n0 Z2 E_b1_2 F_b1_visible_2 F_b1_type_2 F_b1_drawn_2 F_b1_hidden_2 F_b1_fadeDone_2 F_b1_name_2 F_b1_picture_2 g_b1 S_APPLICATION_2) e10 pd_4 (hb hby at_10) (by rw [hml]; rfl) (argsL := [(.ref b2), (.ref w_ROTATION_270)]) (rest := [(.ref b1)]) rfl rfl rfl (W := 1) (Nat.le_of_eq rfl) (by decide) (by decide) (by decide) (by decide)
    obtain ⟨rv11, M11, Kc11, Fk11_0, Fk11_1⟩ := q11
    have N11 := Fr.app N10 M11
    subst rv11
    have S_ROTATION_0_11 := own_sta_keep S_ROTATION_0_2 Kc11 (own_plain E_b1_2 (fun _ q => nomatch q))
    have E_w_ROTATION_0_11 := Exa.keep E_w_ROTATION_0_2 Kc11
    have S_APPLICATION_11 := own_sta_keep S_APPLICATION_2 Kc11 (own_plain E_b1_2 (fun _ q => nomatch q))
    have E_w_APPLICATION_11 := Exa.keep E_w_APPLICATION_2 Kc11
    have S_ROTATION_270_11 := own_sta_keep S_ROTATION_270_2 Kc11 (own_plain E_b1_2 (fun _ q => nomatch q))
    have E_w_ROTATION_270_11 := Exa.keep E_w_ROTATION_270_2 Kc11
    have S_ROTATION_180_11 := own_sta_keep S_ROTATION_180_2 Kc11 (own_plain E_b1_2 (fun _ q => nomatch q))
    have E_w_ROTATION_180_11 := Exa.keep E_w_ROTATION_180_2 Kc11
    have S_ROTATION_90_11 := own_sta_keep S_ROTATION_90_2 Kc11 (own_plain E_b1_2 (fun _ q => nomatch q))
    have E_w_ROTATION_90_11 := Exa.keep E_w_ROTATION_90_2 Kc11
    have E_b1_11 := Exa.keep E_b1_2 Kc11
    have Z11 : n0 ≤ T11.heap.size := Nat.le_trans Z2 Kc11.1
    have B11 : _ ≤ T11.heap.size := Nat.le_trans hB Kc11.1
    refine Go.mp st11 ?_
    show Go p e below (T11.setTop (mkF m 13 #[.val (.int p1), .val (.int p2), .val (.int p3), .val (.int p4), .val (.int p5), .val (.int p6), .unset, .unset, .unset, .unset, .unset, .unset] [(.ref b1)])) _
    refine g_astore X11 hx #[.val (.int p1), .val (.int p2), .val (.int p3), .val (.int p4), .val (.int p5), .val (.int p6), .val (.ref b1), .unset, .unset, .unset, .unset, .unset] (hb hby at_13) rfl rfl ?_
    refine g_iloadN X11 hx (hb hby at_15) rfl ?_
    refine g_iconst X11 hx (3 : Int32) (hb hby at_16) (by decide) ?_
    refine g_iand X11 hx (hb hby at_17) ?_
    refine g_istore X11 hx #[.val (.int p1), .val (.int p2), .val (.int p3), .val (.int p4), .val (.int p5), .val (.int p6), .val (.ref b1), .val (.int (p1 &&& (3 : Int32))), .unset, .unset, .unset, .unset] (hb hby at_18) rfl ?_
    show Go p e below (T11.setTop (mkF m 20 #[.val (.int p1), .val (.int p2), .val (.int p3), .val (.int p4), .val (.int p5), .val (.int p6), .val (.ref b1), .val (.int (p1 &&& (3 : Int32))), .unset, .unset, .unset, .unset] [])) _
    exact seg_1 l Z a0 hw p1 p2 p3 p4 p5 p6 b1 (p1 &&& (3 : Int32)) (.ref w_ROTATION_270) (0 : Int32) w_ROTATION_0 w_APPLICATION w_ROTATION_270 w_ROTATION_180 w_ROTATION_90 T11.heap n0 Z11 S_ROTATION_0_11 E_w_ROTATION_0_11 S_APPLICATION_11 E_w_APPLICATION_11 S_ROTATION_270_11 E_w_ROTATION_270_11 S_ROTATION_180_11 E_w_ROTATION_180_11 S_ROTATION_90_11 E_w_ROTATION_90_11 ne_ROTATION_0_ROTATION_270 ne_ROTATION_0_ROTATION_90 ne_ROTATION_0_ROTATION_180 ne_ROTATION_270_ROTATION_90 ne_ROTATION_270_ROTATION_180 ne_ROTATION_90_ROTATION_180 E_b1_11 Fk11_1 Fk11_0 g_b1 (Or.inr (Or.inr (Or.inr (Or.inr (⟨q3, rfl⟩))))) hx hby hml hown hnm hret hlk hZ X11 (rfl : T11.heap = T11.heap) N11 hS B11
set_option maxRecDepth 65536 in
set_option maxHeartbeats 40000000 in
theorem comes_1 {Post : Tables → Env → Array Value → State → Outcome → State → Prop} (hpost : ∀ tb e args s v u, (limb_1_1.after args s (.returned v) u = true ∧ limb_1_2.after args s (.returned v) u = true ∧ True) → ReturnedEndW s (.returned v) u (Jvm.fieldLocs frame_1_writes args s ++ Jvm.arrayLocs frame_1_arrays args s ++ Jvm.staticLocs frame_1_statics s) 16 1152 → Post tb e args s (.returned v) u) :
    ArmFor flags0 classFile x code maxLocals ret World_1 tables_1 room_1 Calls_1 rest_1 Pre_1 Post := by
  intro l hfl _ _ p e ha hc hk s m args below hf hA hF happ hP
  obtain ⟨hcalls, hrest, hpre⟩ := hP
  obtain ⟨-, -, -, hnamed, -, -, -, hat⟩ := (Spec.applies_iff hf).mp happ
  obtain ⟨hg, hn⟩ := and_e (Cond.before_iff.mp (show (Jvm.Cond.and given_1 narrow_1).before args s = true from hpre))
  obtain ⟨hcnt, hg⟩ := and_e hg
  obtain ⟨w0, w1, w2, w3, w4, w5, rfl⟩ : ∃ w0 w1 w2 w3 w4 w5 : Value, args = #[w0, w1, w2, w3, w4, w5] := by
    have hs : args.size = 6 := by simpa [Cond.value, given_1] using hcnt
    obtain ⟨L⟩ := args
    match L, hs with
    | [w0, w1, w2, w3, w4, w5], _ => exact ⟨w0, w1, w2, w3, w4, w5, rfl⟩
  have hw := fun d (hd : d ∈ tables_1) => atoms_spec (ws := Jvm.Cond.code x code maxLocals ret :: tables_1) hat d (List.mem_cons_of_mem _ hd)
  obtain ⟨ha0, hg0⟩ := and_e hg
  obtain ⟨p1, ep1⟩ := is_v ha0
  obtain rfl : w0 = (.int p1) := Option.some.inj ep1
  obtain ⟨ha1, hg1⟩ := and_e hg0
  obtain ⟨p2, ep2⟩ := is_v ha1
  obtain rfl : w1 = (.int p2) := Option.some.inj ep2
  obtain ⟨ha2, hg2⟩ := and_e hg1
  obtain ⟨p3, ep3⟩ := is_v ha2
  obtain rfl : w2 = (.int p3) := Option.some.inj ep3
  obtain ⟨ha3, hg3⟩ := and_e hg2
  obtain ⟨p4, ep4⟩ := is_v ha3
  obtain rfl : w3 = (.int p4) := Option.some.inj ep4
  obtain ⟨ha4, hg4⟩ := and_e hg3
  obtain ⟨p5, ep5⟩ := is_v ha4
  obtain rfl : w4 = (.int p5) := Option.some.inj ep5
  obtain ⟨p6, ep6⟩ := is_v hg4
  obtain rfl : w5 = (.int p6) := Option.some.inj ep6
  obtain ⟨hn0, hm0⟩ := and_e hn
  obtain ⟨w_ROTATION_0, S_ROTATION_0, E_ROTATION_0, ev_ROTATION_0⟩ := own_sta hn0 (hw _ (List.mem_of_getElem? (i := 16) rfl)) (hw _ (List.mem_of_getElem? (i := 17) rfl))
  obtain ⟨hn1, hm1⟩ := and_e hm0
  obtain ⟨w_APPLICATION, S_APPLICATION, E_APPLICATION, ev_APPLICATION⟩ := own_sta hn1 (hw _ (List.mem_of_getElem? (i := 27) rfl)) (hw _ (List.mem_of_getElem? (i := 28) rfl))
  obtain ⟨hn2, hm2⟩ := and_e hm1
  obtain ⟨w_ROTATION_270, S_ROTATION_270, E_ROTATION_270, ev_ROTATION_270⟩ := own_sta hn2 (hw _ (List.mem_of_getElem? (i := 16) rfl)) (hw _ (List.mem_of_getElem? (i := 42) rfl))
  obtain ⟨hn3, hm3⟩ := and_e hm2
  have O_ROTATION_0_ordinal_h := hn3
  obtain ⟨hn4, hm4⟩ := and_e hm3
  have O_ROTATION_270_ordinal_h := hn4
  obtain ⟨hn5, hm5⟩ := and_e hm4
  obtain ⟨w_ROTATION_180, S_ROTATION_180, E_ROTATION_180, ev_ROTATION_180⟩ := own_sta hn5 (hw _ (List.mem_of_getElem? (i := 16) rfl)) (hw _ (List.mem_of_getElem? (i := 52) rfl))
  obtain ⟨hn6, hm6⟩ := and_e hm5
  obtain ⟨w_ROTATION_90, S_ROTATION_90, E_ROTATION_90, ev_ROTATION_90⟩ := own_sta hn6 (hw _ (List.mem_of_getElem? (i := 16) rfl)) (hw _ (List.mem_of_getElem? (i := 59) rfl))
  obtain ⟨hn7, hm7⟩ := and_e hm6
  have O_ROTATION_90_ordinal_h := hn7
  have O_ROTATION_180_ordinal_h := hm7
  have O_ROTATION_0_ordinal := own_ord O_ROTATION_0_ordinal_h ev_ROTATION_0
  have O_ROTATION_270_ordinal := own_ord O_ROTATION_270_ordinal_h ev_ROTATION_270
  have O_ROTATION_90_ordinal := own_ord O_ROTATION_90_ordinal_h ev_ROTATION_90
  have O_ROTATION_180_ordinal := own_ord O_ROTATION_180_ordinal_h ev_ROTATION_180
  obtain ⟨n, o, h1, h2, h3, _, L, rfl, ⟨rfl, N⟩, hq⟩ := rm_law l s _ hw p1 p2 p3 p4 p5 p6 w_ROTATION_0 w_APPLICATION w_ROTATION_270 w_ROTATION_180 w_ROTATION_90 s.heap s.heap.size (Nat.le_refl _) S_ROTATION_0 E_ROTATION_0 S_APPLICATION E_APPLICATION S_ROTATION_270 E_ROTATION_270 S_ROTATION_180 E_ROTATION_180 S_ROTATION_90 E_ROTATION_90 (own_ne O_ROTATION_0_ordinal O_ROTATION_270_ordinal (by decide)) (own_ne O_ROTATION_0_ordinal O_ROTATION_90_ordinal (by decide)) (own_ne O_ROTATION_0_ordinal O_ROTATION_180_ordinal (by decide)) (own_ne O_ROTATION_270_ordinal O_ROTATION_90_ordinal (by decide)) (own_ne O_ROTATION_270_ordinal O_ROTATION_180_ordinal (by decide)) (own_ne O_ROTATION_90_ordinal O_ROTATION_180_ordinal (by decide)) p e ha hc hk s m _ below hf ((Spec.applies_iff_loose hf).mp happ).1 ⟨rfl, State.Warmed39.refl s, rfl⟩ trivial
  refine ⟨n, _, h1, h2, h3, hpost _ _ _ _ _ _ ⟨Cond.after_iff.mpr rfl, Cond.after_iff.mpr (eq_i res_at (Term.int_eval (1)) rfl), trivial⟩ ⟨hq.1, hq.2.1, hq.2.2.1, (hq.2.2.2.sift fun y hy => Or.inr (N y hy)).mono (by decide) (by decide)⟩⟩
theorem main_1_1 : Claimed_1_1 := comes_1 fun _ _ _ _ _ _ h hF => ⟨h.1, hF⟩
theorem main_1_2 : Claimed_1_2 := comes_1 fun _ _ _ _ _ _ h hF => ⟨h.2.1, hF⟩
end Jvm.Pilot.@@N@@
namespace Jvm.Pilot.@@N@@
open Jvm Jvm.ClassFile Sem Op Lib Jvm.Free Jvm.Stand Jvm.Pilot.@@N@@.Jvm.D
/-! MADE BY PROGRAM (witnessworld.py) out of the Statement's table words and the real class files: 17 classes; the members and pool entries that the words name. The judged class is class 1, her method 3. -/
namespace start1
open Jvm.ClassFile
def u (s : String) : CpInfo := .utf8 (stringToUtf16 s)
/-- a pool by its gaps: so many unusable entries, then the entry; so many at the end -/
def gap : Nat → List CpInfo → List CpInfo
  | 0, r => r
  | n + 1, r => .unusable :: gap n r
def poolList (es : List (Nat × CpInfo)) (last : Nat) : List CpInfo := es.foldr (fun e r => gap e.1 (e.2 :: r)) (gap last [])
def pool (es : List (Nat × CpInfo)) (last : Nat) : Array CpInfo := ⟨poolList es last⟩
def fileOf (pool : Array CpInfo) (this : Nat) (attrs : Array Attribute := #[]) (ms : Array MethodInfo := #[]) (fl : Nat := 33) (sup : Nat := 0) (ifs : Array Nat := #[]) (fds : Array FieldInfo := #[]) : ClassFile where
  minorVersion := 0
  majorVersion := 65
  constantPool := pool
  accessFlags := fl
  thisClass := this
  superClass := sup
  interfaces := ifs
  fields := fds
  methods := ms
  attributes := attrs
def plain (name : String) (sup : Option ClassId) : Class where
  name := name
  kind := .ordinary
  loader := none
  accessFlags := 33
  super := sup
  interfaces := #[]
  cf := none
  fields := #[]
  methods := #[]
  instanceTypes := #[]
  staticTypes := #[]
  resolved := #[]
  callSites := []
  init := .initialized
  statics := none
  mirror := none

def pool0 : Array CpInfo := pool [(5, u "<init>"), (0, u "()V"), (1, .class_ 10), (1, u "java/lang/Object")] 113

def k0c0 : Code := { maxStack := 0, maxLocals := 1, code := object_method_1_code, exceptionTable := #[], attributes := #[] }
def k0m0 : Method := { name := "<init>", desc := "()V", sig := { parameters := [], returnType := none }, accessFlags := 1, code := some k0c0 }
/-- java/lang/Object -/
def k0 : Class := { plain "java/lang/Object" none with
  accessFlags := 33
  interfaces := #[]
  cf := some (fileOf pool0 8 #[] #[{ accessFlags := 1, nameIndex := 5, descriptorIndex := 6, attributes := #[] }] 33 0 #[] #[])
  fields := #[]
  methods := #[k0m0]
  instanceTypes := #[]
  staticTypes := #[]
  resolved := Array.replicate 124 none
  statics := none }

def pool1 : Array CpInfo := pool [(2, .class_ 4), (1, u "java/lang/Object"), (0, u "<init>"), (0, u "()V"), (0, .fieldref 8 9), (0, .class_ 10), (0, .nameAndType 11 12), (0, u "com/example/reorient/reorient/model/Rotation"), (0, u "ROTATION_0"), (0, u "Lcom/example/reorient/reorient/model/Rotation;"), (0, .fieldref 8 14), (0, .nameAndType 15 12), (0, u "ROTATION_90"), (0, .fieldref 8 17), (0, .nameAndType 18 12), (0, u "ROTATION_180"), (0, .fieldref 8 20), (0, .nameAndType 21 12), (0, u "ROTATION_270"), (0, .class_ 23), (0, u "com/example/reorient/reorient/service/Window"), (0, .string 25), (0, u "w"), (0, .methodref 27 28), (0, .class_ 29), (0, .nameAndType 30 31), (0, u "com/example/reorient/reorient/service/WindowPictureOfPinLaw"), (0, u "rot"), (0, u "(I)Lcom/example/reorient/reorient/model/Rotation;"), (0, .methodref 22 33), (0, .nameAndType 5 34), (0, u "(Ljava/lang/String;Lcom/example/reorient/reorient/model/Rotation;)V"), (0, .methodref 22 36), (0, .nameAndType 37 38), (0, u "turnTo"), (0, u "(Lcom/example/reorient/reorient/model/Rotation;)V"), (0, .methodref 27 40), (0, .nameAndType 41 42), (0, u "turn"), (0, u "(II)I"), (0, .methodref 22 44), (0, .nameAndType 45 38), (0, u "reportDrawn"), (0, .methodref 22 47), (0, .nameAndType 48 49), (0, u "pictureOf"), (0, u "(Lcom/example/reorient/reorient/model/Rotation;)Z"), (3, u "law"), (0, u "(IIIIII)Z")] 2

def k1m0 : Method := { name := "<init>", desc := "()V", sig := { parameters := [], returnType := none }, accessFlags := 1, code := none }
def k1c1 : Code := { maxStack := 2, maxLocals := 2, code := method_2_code, exceptionTable := #[], attributes := #[] }
def k1m1 : Method := { name := "rot", desc := "(I)Lcom/example/reorient/reorient/model/Rotation;", sig := { parameters := [.int], returnType := some (.object "com/example/reorient/reorient/model/Rotation") }, accessFlags := 10, code := some k1c1 }
def k1c2 : Code := { maxStack := 3, maxLocals := 2, code := method_3_code, exceptionTable := #[], attributes := #[] }
def k1m2 : Method := { name := "turn", desc := "(II)I", sig := { parameters := [.int, .int], returnType := some .int }, accessFlags := 10, code := some k1c2 }
def k1c3 : Code := { maxStack := 4, maxLocals := 12, code := code, exceptionTable := #[], attributes := #[] }
def k1m3 : Method := { name := "law", desc := "(IIIIII)Z", sig := { parameters := [.int, .int, .int, .int, .int, .int], returnType := some .boolean }, accessFlags := 9, code := some k1c3 }
/-- com/example/reorient/reorient/service/WindowPictureOfPinLaw -/
def k1 : Class := { plain "com/example/reorient/reorient/service/WindowPictureOfPinLaw" (some 0) with
  accessFlags := 49
  interfaces := #[]
  cf := some (fileOf pool1 27 #[] #[{ accessFlags := 1, nameIndex := 5, descriptorIndex := 6, attributes := #[] }, { accessFlags := 10, nameIndex := 30, descriptorIndex := 31, attributes := #[] }, { accessFlags := 10, nameIndex := 41, descriptorIndex := 42, attributes := #[] }, { accessFlags := 9, nameIndex := 53, descriptorIndex := 54, attributes := #[] }] 49 2 #[] #[])
  fields := #[]
  methods := #[k1m0, k1m1, k1m2, k1m3]
  instanceTypes := #[]
  staticTypes := #[]
  resolved := Array.replicate 57 none
  statics := none }

def pool2 : Array CpInfo := pool [(1, .methodref 2 3), (0, .class_ 4), (0, .nameAndType 5 6), (0, u "java/lang/Object"), (0, u "<init>"), (0, u "()V"), (0, .fieldref 8 9), (0, .class_ 10), (0, .nameAndType 11 12), (0, u "com/example/reorient/reorient/service/Window"), (0, u "visible"), (0, u "Z"), (0, .fieldref 14 15), (0, .class_ 16), (0, .nameAndType 17 18), (0, u "com/example/reorient/reorient/model/WindowType"), (0, u "APPLICATION"), (0, u "Lcom/example/reorient/reorient/model/WindowType;"), (0, .fieldref 8 20), (0, .nameAndType 21 18), (0, u "type"), (0, .fieldref 8 23), (0, .nameAndType 24 12), (0, u "drawn"), (0, .fieldref 8 26), (0, .nameAndType 27 12), (0, u "hidden"), (0, .fieldref 8 29), (0, .nameAndType 30 31), (0, u "fadeDone"), (0, u "Lcom/example/reorient/reorient/service/Clock$Task;"), (0, .fieldref 8 33), (0, .nameAndType 34 35), (0, u "name"), (0, u "Ljava/lang/String;"), (0, .fieldref 8 37), (0, .nameAndType 38 39), (0, u "picture"), (0, u "Lcom/example/reorient/reorient/model/Rotation;"), (15, u "(Ljava/lang/String;Lcom/example/reorient/reorient/model/Rotation;)V"), (9, u "pictureOf"), (0, u "(Lcom/example/reorient/reorient/model/Rotation;)Z"), (0, u "reportDrawn"), (0, u "(Lcom/example/reorient/reorient/model/Rotation;)V"), (1, u "turnTo")] 11

def k2c0 : Code := { maxStack := 2, maxLocals := 3, code := prog_79_method_1_code, exceptionTable := #[], attributes := #[] }
def k2m0 : Method := { name := "<init>", desc := "(Ljava/lang/String;Lcom/example/reorient/reorient/model/Rotation;)V", sig := { parameters := [(.object "java/lang/String"), (.object "com/example/reorient/reorient/model/Rotation")], returnType := none }, accessFlags := 0, code := some k2c0 }
def k2c1 : Code := { maxStack := 2, maxLocals := 2, code := prog_79_method_9_code, exceptionTable := #[], attributes := #[] }
def k2m1 : Method := { name := "pictureOf", desc := "(Lcom/example/reorient/reorient/model/Rotation;)Z", sig := { parameters := [(.object "com/example/reorient/reorient/model/Rotation")], returnType := some .boolean }, accessFlags := 0, code := some k2c1 }
def k2c2 : Code := { maxStack := 2, maxLocals := 2, code := prog_79_method_10_code, exceptionTable := #[], attributes := #[] }
def k2m2 : Method := { name := "reportDrawn", desc := "(Lcom/example/reorient/reorient/model/Rotation;)V", sig := { parameters := [(.object "com/example/reorient/reorient/model/Rotation")], returnType := none }, accessFlags := 0, code := some k2c2 }
def k2c3 : Code := { maxStack := 2, maxLocals := 2, code := prog_79_method_12_code, exceptionTable := #[], attributes := #[] }
def k2m3 : Method := { name := "turnTo", desc := "(Lcom/example/reorient/reorient/model/Rotation;)V", sig := { parameters := [(.object "com/example/reorient/reorient/model/Rotation")], returnType := none }, accessFlags := 0, code := some k2c3 }
/-- com/example/reorient/reorient/service/Window -/
def k2 : Class := { plain "com/example/reorient/reorient/service/Window" (some 0) with
  accessFlags := 48
  interfaces := #[]
  cf := some (fileOf pool2 8 #[] #[{ accessFlags := 0, nameIndex := 5, descriptorIndex := 55, attributes := #[] }, { accessFlags := 0, nameIndex := 65, descriptorIndex := 66, attributes := #[] }, { accessFlags := 0, nameIndex := 67, descriptorIndex := 68, attributes := #[] }, { accessFlags := 0, nameIndex := 70, descriptorIndex := 68, attributes := #[] }] 48 2 #[] #[{ accessFlags := 18, nameIndex := 34, descriptorIndex := 35, attributes := #[] }, { accessFlags := 2, nameIndex := 11, descriptorIndex := 12, attributes := #[] }, { accessFlags := 2, nameIndex := 21, descriptorIndex := 18, attributes := #[] }, { accessFlags := 2, nameIndex := 24, descriptorIndex := 12, attributes := #[] }, { accessFlags := 2, nameIndex := 38, descriptorIndex := 39, attributes := #[] }, { accessFlags := 2, nameIndex := 27, descriptorIndex := 12, attributes := #[] }, { accessFlags := 2, nameIndex := 30, descriptorIndex := 31, attributes := #[] }])
  fields := #[{ name := "name", type := (.object "java/lang/String"), accessFlags := 18, slot := 0, constantValue := 0 }, { name := "visible", type := .boolean, accessFlags := 2, slot := 1, constantValue := 0 }, { name := "type", type := (.object "com/example/reorient/reorient/model/WindowType"), accessFlags := 2, slot := 2, constantValue := 0 }, { name := "drawn", type := .boolean, accessFlags := 2, slot := 3, constantValue := 0 }, { name := "picture", type := (.object "com/example/reorient/reorient/model/Rotation"), accessFlags := 2, slot := 4, constantValue := 0 }, { name := "hidden", type := .boolean, accessFlags := 2, slot := 5, constantValue := 0 }, { name := "fadeDone", type := (.object "com/example/reorient/reorient/service/Clock$Task"), accessFlags := 2, slot := 6, constantValue := 0 }]
  methods := #[k2m0, k2m1, k2m2, k2m3]
  instanceTypes := #[(.object "java/lang/String"), .boolean, (.object "com/example/reorient/reorient/model/WindowType"), .boolean, (.object "com/example/reorient/reorient/model/Rotation"), .boolean, (.object "com/example/reorient/reorient/service/Clock$Task")]
  staticTypes := #[]
  resolved := Array.replicate 82 none
  statics := none }

def pool3 : Array CpInfo := pool [(1, .class_ 2), (0, u "java/io/Serializable"), (0, .class_ 4), (0, u "java/lang/Object")] 2

/-- java/io/Serializable -/
def k3 : Class := { plain "java/io/Serializable" (some 0) with
  accessFlags := 1537
  interfaces := #[]
  cf := some (fileOf pool3 1 #[] #[] 1537 3 #[] #[])
  fields := #[]
  methods := #[]
  instanceTypes := #[]
  staticTypes := #[]
  resolved := Array.replicate 7 none
  statics := none }

def pool4 : Array CpInfo := pool [(1, .class_ 2), (0, u "java/lang/Comparable"), (0, .class_ 4), (0, u "java/lang/Object")] 7

/-- java/lang/Comparable -/
def k4 : Class := { plain "java/lang/Comparable" (some 0) with
  accessFlags := 1537
  interfaces := #[]
  cf := some (fileOf pool4 1 #[] #[] 1537 3 #[] #[])
  fields := #[]
  methods := #[]
  instanceTypes := #[]
  staticTypes := #[]
  resolved := Array.replicate 12 none
  statics := none }

def pool5 : Array CpInfo := pool [(2, .class_ 4), (1, u "java/lang/CharSequence"), (42, .class_ 48), (0, u "java/lang/CharSequence$1CodePointIterator"), (10, .class_ 60), (0, u "java/lang/CharSequence$1CharIterator"), (5, .class_ 67), (0, u "java/lang/Object")] 63

/-- java/lang/CharSequence -/
def k5 : Class := { plain "java/lang/CharSequence" (some 0) with
  accessFlags := 1537
  interfaces := #[]
  cf := some (fileOf pool5 2 #[.nestMembers #[47, 59]] #[] 1537 66 #[] #[])
  fields := #[]
  methods := #[]
  instanceTypes := #[]
  staticTypes := #[]
  resolved := Array.replicate 131 none
  statics := none }

def pool6 : Array CpInfo := pool [(1, .class_ 2), (0, u "java/lang/constant/Constable"), (0, .class_ 4), (0, u "java/lang/Object")] 6

/-- java/lang/constant/Constable -/
def k6 : Class := { plain "java/lang/constant/Constable" (some 0) with
  accessFlags := 1537
  interfaces := #[]
  cf := some (fileOf pool6 1 #[] #[] 1537 3 #[] #[])
  fields := #[]
  methods := #[]
  instanceTypes := #[]
  staticTypes := #[]
  resolved := Array.replicate 11 none
  statics := none }

def pool7 : Array CpInfo := pool [(1, .class_ 2), (0, u "java/lang/constant/ConstantDesc"), (0, .class_ 4), (0, u "java/lang/Object")] 32

/-- java/lang/constant/ConstantDesc -/
def k7 : Class := { plain "java/lang/constant/ConstantDesc" (some 0) with
  accessFlags := 1537
  interfaces := #[]
  cf := some (fileOf pool7 1 #[] #[] 1537 3 #[] #[])
  fields := #[]
  methods := #[]
  instanceTypes := #[]
  staticTypes := #[]
  resolved := Array.replicate 37 none
  statics := none }

def pool8 : Array CpInfo := pool [(2, .class_ 4), (1, u "java/lang/Object"), (0, u "<init>"), (0, u "()V"), (3, .class_ 12), (1, u "java/lang/String"), (0, u "value"), (0, u "[B"), (2, u "coder"), (0, u "B"), (2, u "hash"), (0, u "I"), (2, u "hashIsZero"), (0, u "Z"), (13, u "COMPACT_STRINGS"), (534, .class_ 576), (0, u "java/lang/CharSequence"), (22, u "CASE_INSENSITIVE_ORDER"), (0, u "Ljava/util/Comparator;"), (500, u "serialPersistentFields"), (0, u "[Ljava/io/ObjectStreamField;"), (0, .class_ 1104), (0, u "java/lang/String$CaseInsensitiveComparator"), (1, .class_ 1107), (0, u "java/io/Serializable"), (0, .class_ 1109), (0, u "java/lang/Comparable"), (0, .class_ 1111), (0, u "java/lang/constant/Constable"), (0, .class_ 1113), (0, u "java/lang/constant/ConstantDesc"), (2, u "serialVersionUID"), (0, u "J"), (3, u "REPL"), (0, u "C"), (2, u "LATIN1"), (1, u "UTF16")] 323

def k8m0 : Method := { name := "<init>", desc := "()V", sig := { parameters := [], returnType := none }, accessFlags := 1, code := none }
/-- java/lang/String -/
def k8 : Class := { plain "java/lang/String" (some 0) with
  accessFlags := 49
  interfaces := #[3, 4, 5, 6, 7]
  cf := some (fileOf pool8 10 #[.nestMembers #[1103]] #[{ accessFlags := 1, nameIndex := 5, descriptorIndex := 6, attributes := #[] }] 49 2 #[1106, 1108, 575, 1110, 1112] #[{ accessFlags := 18, nameIndex := 13, descriptorIndex := 14, attributes := #[] }, { accessFlags := 18, nameIndex := 17, descriptorIndex := 18, attributes := #[] }, { accessFlags := 2, nameIndex := 21, descriptorIndex := 22, attributes := #[] }, { accessFlags := 2, nameIndex := 25, descriptorIndex := 26, attributes := #[] }, { accessFlags := 26, nameIndex := 1116, descriptorIndex := 1117, attributes := #[] }, { accessFlags := 24, nameIndex := 40, descriptorIndex := 26, attributes := #[] }, { accessFlags := 26, nameIndex := 1101, descriptorIndex := 1102, attributes := #[] }, { accessFlags := 26, nameIndex := 1121, descriptorIndex := 1122, attributes := #[] }, { accessFlags := 25, nameIndex := 599, descriptorIndex := 600, attributes := #[] }, { accessFlags := 24, nameIndex := 1125, descriptorIndex := 18, attributes := #[] }, { accessFlags := 24, nameIndex := 1127, descriptorIndex := 18, attributes := #[] }])
  fields := #[{ name := "value", type := (.array .byte), accessFlags := 18, slot := 0, constantValue := 0 }, { name := "coder", type := .byte, accessFlags := 18, slot := 1, constantValue := 0 }, { name := "hash", type := .int, accessFlags := 2, slot := 2, constantValue := 0 }, { name := "hashIsZero", type := .boolean, accessFlags := 2, slot := 3, constantValue := 0 }, { name := "serialVersionUID", type := .long, accessFlags := 26, slot := 0, constantValue := 0 }, { name := "COMPACT_STRINGS", type := .boolean, accessFlags := 24, slot := 1, constantValue := 0 }, { name := "serialPersistentFields", type := (.array (.object "java/io/ObjectStreamField")), accessFlags := 26, slot := 2, constantValue := 0 }, { name := "REPL", type := .char, accessFlags := 26, slot := 3, constantValue := 0 }, { name := "CASE_INSENSITIVE_ORDER", type := (.object "java/util/Comparator"), accessFlags := 25, slot := 4, constantValue := 0 }, { name := "LATIN1", type := .byte, accessFlags := 24, slot := 5, constantValue := 0 }, { name := "UTF16", type := .byte, accessFlags := 24, slot := 6, constantValue := 0 }]
  methods := #[k8m0]
  instanceTypes := #[(.array .byte), .byte, .int, .boolean]
  staticTypes := #[.long, .boolean, (.array (.object "java/io/ObjectStreamField")), .char, (.object "java/util/Comparator"), .byte, .byte]
  resolved := Array.replicate 1451 none
  statics := none }

def pool9 : Array CpInfo := pool [(2, .class_ 4), (1, u "java/lang/Enum"), (0, u "name"), (0, u "Ljava/lang/String;"), (2, u "ordinal"), (0, u "I"), (1, .class_ 14), (1, u "java/lang/Object"), (4, u "hash"), (86, .class_ 108), (1, u "java/lang/Enum$EnumDesc"), (2, .class_ 112), (0, u "java/lang/constant/Constable"), (0, .class_ 114), (0, u "java/lang/Comparable"), (0, .class_ 116), (0, u "java/io/Serializable")] 87

/-- java/lang/Enum -/
def k9 : Class := { plain "java/lang/Enum" (some 0) with
  accessFlags := 1057
  interfaces := #[6, 4, 3]
  cf := some (fileOf pool9 2 #[.nestMembers #[106]] #[] 1057 12 #[111, 113, 115] #[{ accessFlags := 18, nameIndex := 5, descriptorIndex := 6, attributes := #[] }, { accessFlags := 18, nameIndex := 9, descriptorIndex := 10, attributes := #[] }, { accessFlags := 2, nameIndex := 19, descriptorIndex := 10, attributes := #[] }])
  fields := #[{ name := "name", type := (.object "java/lang/String"), accessFlags := 18, slot := 0, constantValue := 0 }, { name := "ordinal", type := .int, accessFlags := 18, slot := 1, constantValue := 0 }, { name := "hash", type := .int, accessFlags := 2, slot := 2, constantValue := 0 }]
  methods := #[]
  instanceTypes := #[(.object "java/lang/String"), .int, .int]
  staticTypes := #[]
  resolved := Array.replicate 204 none
  statics := none }

def pool10 : Array CpInfo := pool [(1, .class_ 2), (0, u "com/example/reorient/reorient/model/Rotation"), (2, u "ROTATION_0"), (0, u "Lcom/example/reorient/reorient/model/Rotation;"), (2, u "ROTATION_90"), (2, u "ROTATION_180"), (2, u "ROTATION_270"), (2, u "$VALUES"), (0, u "[Lcom/example/reorient/reorient/model/Rotation;"), (6, .class_ 28), (1, u "java/lang/Enum"), (8, u "number"), (0, u "I")] 77

/-- com/example/reorient/reorient/model/Rotation -/
def k10 : Class := { plain "com/example/reorient/reorient/model/Rotation" (some 9) with
  accessFlags := 16433
  interfaces := #[]
  cf := some (fileOf pool10 1 #[] #[] 16433 26 #[] #[{ accessFlags := 16409, nameIndex := 5, descriptorIndex := 6, attributes := #[] }, { accessFlags := 16409, nameIndex := 9, descriptorIndex := 6, attributes := #[] }, { accessFlags := 16409, nameIndex := 12, descriptorIndex := 6, attributes := #[] }, { accessFlags := 16409, nameIndex := 15, descriptorIndex := 6, attributes := #[] }, { accessFlags := 18, nameIndex := 37, descriptorIndex := 38, attributes := #[] }, { accessFlags := 4122, nameIndex := 18, descriptorIndex := 19, attributes := #[] }])
  fields := #[{ name := "ROTATION_0", type := (.object "com/example/reorient/reorient/model/Rotation"), accessFlags := 16409, slot := 0, constantValue := 0 }, { name := "ROTATION_90", type := (.object "com/example/reorient/reorient/model/Rotation"), accessFlags := 16409, slot := 1, constantValue := 0 }, { name := "ROTATION_180", type := (.object "com/example/reorient/reorient/model/Rotation"), accessFlags := 16409, slot := 2, constantValue := 0 }, { name := "ROTATION_270", type := (.object "com/example/reorient/reorient/model/Rotation"), accessFlags := 16409, slot := 3, constantValue := 0 }, { name := "number", type := .int, accessFlags := 18, slot := 3, constantValue := 0 }, { name := "$VALUES", type := (.array (.object "com/example/reorient/reorient/model/Rotation")), accessFlags := 4122, slot := 4, constantValue := 0 }]
  methods := #[]
  instanceTypes := #[(.object "java/lang/String"), .int, .int, .int]
  staticTypes := #[(.object "com/example/reorient/reorient/model/Rotation"), (.object "com/example/reorient/reorient/model/Rotation"), (.object "com/example/reorient/reorient/model/Rotation"), (.object "com/example/reorient/reorient/model/Rotation"), (.array (.object "com/example/reorient/reorient/model/Rotation"))]
  resolved := Array.replicate 116 none
  statics := some 0 }

def pool11 : Array CpInfo := pool [(1, .class_ 2), (0, u "com/example/reorient/reorient/model/WindowType"), (2, u "APPLICATION"), (0, u "Lcom/example/reorient/reorient/model/WindowType;"), (2, u "STATUS_BAR"), (2, u "NAVIGATION_BAR"), (2, u "NOTIFICATION_SHADE"), (2, u "INPUT_METHOD"), (2, u "WALLPAPER"), (2, u "OVERLAY"), (2, u "$VALUES"), (0, u "[Lcom/example/reorient/reorient/model/WindowType;"), (6, .class_ 37), (1, u "java/lang/Enum"), (14, u "word"), (0, u "Ljava/lang/String;"), (2, u "fades"), (0, u "Z")] 36

/-- com/example/reorient/reorient/model/WindowType -/
def k11 : Class := { plain "com/example/reorient/reorient/model/WindowType" (some 9) with
  accessFlags := 16433
  interfaces := #[]
  cf := some (fileOf pool11 1 #[] #[] 16433 35 #[] #[{ accessFlags := 16409, nameIndex := 5, descriptorIndex := 6, attributes := #[] }, { accessFlags := 16409, nameIndex := 9, descriptorIndex := 6, attributes := #[] }, { accessFlags := 16409, nameIndex := 12, descriptorIndex := 6, attributes := #[] }, { accessFlags := 16409, nameIndex := 15, descriptorIndex := 6, attributes := #[] }, { accessFlags := 16409, nameIndex := 18, descriptorIndex := 6, attributes := #[] }, { accessFlags := 16409, nameIndex := 21, descriptorIndex := 6, attributes := #[] }, { accessFlags := 16409, nameIndex := 24, descriptorIndex := 6, attributes := #[] }, { accessFlags := 18, nameIndex := 56, descriptorIndex := 57, attributes := #[] }, { accessFlags := 18, nameIndex := 52, descriptorIndex := 53, attributes := #[] }, { accessFlags := 4122, nameIndex := 27, descriptorIndex := 28, attributes := #[] }])
  fields := #[{ name := "APPLICATION", type := (.object "com/example/reorient/reorient/model/WindowType"), accessFlags := 16409, slot := 0, constantValue := 0 }, { name := "STATUS_BAR", type := (.object "com/example/reorient/reorient/model/WindowType"), accessFlags := 16409, slot := 1, constantValue := 0 }, { name := "NAVIGATION_BAR", type := (.object "com/example/reorient/reorient/model/WindowType"), accessFlags := 16409, slot := 2, constantValue := 0 }, { name := "NOTIFICATION_SHADE", type := (.object "com/example/reorient/reorient/model/WindowType"), accessFlags := 16409, slot := 3, constantValue := 0 }, { name := "INPUT_METHOD", type := (.object "com/example/reorient/reorient/model/WindowType"), accessFlags := 16409, slot := 4, constantValue := 0 }, { name := "WALLPAPER", type := (.object "com/example/reorient/reorient/model/WindowType"), accessFlags := 16409, slot := 5, constantValue := 0 }, { name := "OVERLAY", type := (.object "com/example/reorient/reorient/model/WindowType"), accessFlags := 16409, slot := 6, constantValue := 0 }, { name := "fades", type := .boolean, accessFlags := 18, slot := 3, constantValue := 0 }, { name := "word", type := (.object "java/lang/String"), accessFlags := 18, slot := 4, constantValue := 0 }, { name := "$VALUES", type := (.array (.object "com/example/reorient/reorient/model/WindowType")), accessFlags := 4122, slot := 7, constantValue := 0 }]
  methods := #[]
  instanceTypes := #[(.object "java/lang/String"), .int, .int, .boolean, (.object "java/lang/String")]
  staticTypes := #[(.object "com/example/reorient/reorient/model/WindowType"), (.object "com/example/reorient/reorient/model/WindowType"), (.object "com/example/reorient/reorient/model/WindowType"), (.object "com/example/reorient/reorient/model/WindowType"), (.object "com/example/reorient/reorient/model/WindowType"), (.object "com/example/reorient/reorient/model/WindowType"), (.object "com/example/reorient/reorient/model/WindowType"), (.array (.object "com/example/reorient/reorient/model/WindowType"))]
  resolved := Array.replicate 94 none
  statics := some 1 }

def pool12 : Array CpInfo := pool [(1, u "java/lang/Cloneable"), (0, .class_ 1), (0, u "java/lang/Object"), (0, .class_ 3)] 3

/-- java/lang/Cloneable -/
def k12 : Class := { plain "java/lang/Cloneable" (some 0) with
  accessFlags := 1537
  interfaces := #[]
  cf := some (fileOf pool12 2 #[] #[] 1537 4 #[] #[])
  fields := #[]
  methods := #[]
  instanceTypes := #[]
  staticTypes := #[]
  resolved := Array.replicate 8 none
  statics := none }

/-- the primitive byte -/
def k13 : Class := { plain "byte" none with kind := .primitive 'B', accessFlags := 0x411 }
/-- [B -/
def k14 : Class := { plain "[B" (some 0) with kind := .array 13 .byte, interfaces := #[12, 3], accessFlags := 1041 }

/-- the primitive int -/
def k15 : Class := { plain "int" none with kind := .primitive 'I', accessFlags := 0x411 }
/-- [I -/
def k16 : Class := { plain "[I" (some 0) with kind := .array 15 .int, interfaces := #[12, 3], accessFlags := 1041 }

def heap : Heap := #[{ cls := 10, slots := #[.ref 2, .ref 6, .ref 5, .ref 4, .null], vm := .statics 10 },
  { cls := 11, slots := #[.ref 3, .null, .null, .null, .null, .null, .null, .null], vm := .statics 11 },
  { cls := 10, slots := #[.null, .int 0, .int 0, .int 0], vm := .none },
  { cls := 11, slots := #[.null, .int 0, .int 0, .int 0, .null], vm := .none },
  { cls := 10, slots := #[.null, .int 3, .int 0, .int 0], vm := .none },
  { cls := 10, slots := #[.null, .int 2, .int 0, .int 0], vm := .none },
  { cls := 10, slots := #[.null, .int 1, .int 0, .int 0], vm := .none }]
def classes : Array Class := #[k0, k1, k2, k3, k4, k5, k6, k7, k8, k9, k10, k11, k12, k13, k14, k15, k16]
def interned : List (Array UInt16 × Addr) := []
def slotsUsed : Nat := 34
def theMethod : MethodId := ⟨1, 3⟩
def args0 : Array Value := #[.int 5, .int 5, .int 5, .int 5, .int 5, .int 5]
def aboutOver (below : List Frame) : State where
  vm := { classes := classes, interned := interned.toArray }
  heap := heap
  slotsUsed := slotsUsed
  threads := #[{ frames := .invoking theMethod args0 :: below }]
def below0 : List Frame := [.native { method := ⟨0, 0⟩, args := #[] }]
def about1 : State := aboutOver below0
def p0 : Program := .bare "" "" ""
def e0 : Env := launch0.env 0 0 0
theorem w_frames : about1.frames = Frame.invoking theMethod args0 :: below0 := rfl
set_option maxRecDepth 65536 in
theorem w_args : argsFit about1.vm theMethod args0 = true := by decide +kernel
set_option maxRecDepth 65536 in
theorem w_heap : heapFits about1 = true := by decide +kernel
set_option maxRecDepth 65536 in
theorem w_runnable : about1.curStatus? = some .runnable := by decide +kernel
set_option maxRecDepth 65536 in
theorem w_alone : about1.alone = true := by decide +kernel
set_option maxRecDepth 65536 in
theorem w_named : about1.methodNamed? x = some theMethod := by decide +kernel
set_option maxRecDepth 65536 in
theorem w_hears : about1.hears theMethod below0 = true := by decide +kernel
set_option maxRecDepth 65536 in
theorem w_ripe : about1.ripe theMethod args0 below0 = true := by decide +kernel
theorem w_running : about1.status = .running := rfl
set_option maxRecDepth 65536 in
theorem w_room : about1.hasRoom e0.platform room_1 = true :=
  launch0.hasRoom_least _ room_1 (by decide +kernel) (by decide +kernel) (by decide +kernel) (by decide +kernel) (by decide +kernel) (by decide +kernel)
theorem allAtoms_all (ts : List Jvm.Cond) (a : Array Jvm.Value) (st : Jvm.State) : (allAtoms ts).before a st = ts.all (fun c => c.before a st) := by
  induction ts with
  | nil => rfl
  | cons c t ih =>
    show (Jvm.Cond.and c (allAtoms t)).before a st = _
    rw [Jvm.Cond.before_and, ih, List.all_cons]
def words1 : List Jvm.Cond := Jvm.Cond.code x code maxLocals ret :: tables_1
/-- a 'code' word, met by the world's own term for the bytes: nothing is compared byte by byte -/
theorem code_word {y : MethodName} {bytes : ByteArray} {mx : Nat} {rt : Option FieldType} {a : Array Value} {s : State} {m : MethodId} {meth : Method} {c : Code} (h1 : s.methodNamed? y = some m) (h2 : s.vm.method? m = some meth) (h3 : meth.code = some c) (h4 : c.code = bytes)
    (h5 : (c.maxLocals == mx && c.exceptionTable.isEmpty && decide (c.maxStack ≤ mostOperands) && decide (meth.sig.returnType = rt) && !meth.locks && decide (parseMethodDescriptor y.desc = some meth.sig)) = true) : (Jvm.Cond.code y bytes mx rt).before a s = true := by
  simp only [Bool.and_eq_true, beq_iff_eq, Bool.not_eq_true', decide_eq_true_eq] at h5
  obtain ⟨⟨⟨⟨⟨g1, g2⟩, g3⟩, g4⟩, g5⟩, g6⟩ := h5
  simp [Cond.before, Cond.holds, Cond.value, h1, h2, h3, h4, g1, g2, g3, g4, g5, g6]
def isCode : Jvm.Cond → Bool
  | .code _ _ _ _ => true
  | _ => false
theorem all_split {L : List Jvm.Cond} {P : Jvm.Cond → Bool} (h1 : L.all (fun c => isCode c || P c) = true) (h2 : ∀ c ∈ L.filter isCode, P c = true) : L.all P = true := by
  refine List.all_eq_true.mpr fun c hc => ?_
  have h := List.all_eq_true.mp h1 c hc
  rcases Bool.eq_false_or_eq_true (isCode c) with hi | hi
  · exact h2 c (List.mem_filter.mpr ⟨hc, hi⟩)
  · simpa [hi] using h
set_option maxRecDepth 65536 in
theorem w_c0 : (Jvm.Cond.code x code maxLocals ret).before args0 about1 = true := code_word (m := ⟨1, 3⟩) (meth := k1m3) (c := k1c3) (by decide +kernel) rfl rfl rfl (by decide +kernel)
set_option maxRecDepth 65536 in
theorem w_c1 : (Jvm.Cond.code ({ cls := "com/example/reorient/reorient/service/WindowPictureOfPinLaw", name := "rot", desc := "(I)Lcom/example/reorient/reorient/model/Rotation;" } : Jvm.MethodName) method_2_code (2 : Nat) (Option.some (Jvm.ClassFile.FieldType.object "com/example/reorient/reorient/model/Rotation"))).before args0 about1 = true := code_word (m := ⟨1, 1⟩) (meth := k1m1) (c := k1c1) (by decide +kernel) rfl rfl rfl (by decide +kernel)
set_option maxRecDepth 65536 in
theorem w_c2 : (Jvm.Cond.code ({ cls := "com/example/reorient/reorient/service/Window", name := "<init>", desc := "(Ljava/lang/String;Lcom/example/reorient/reorient/model/Rotation;)V" } : Jvm.MethodName) prog_79_method_1_code (3 : Nat) (Option.none : Option Jvm.ClassFile.FieldType)).before args0 about1 = true := code_word (m := ⟨2, 0⟩) (meth := k2m0) (c := k2c0) (by decide +kernel) rfl rfl rfl (by decide +kernel)
set_option maxRecDepth 65536 in
theorem w_c3 : (Jvm.Cond.code ({ cls := "java/lang/Object", name := "<init>", desc := "()V" } : Jvm.MethodName) object_method_1_code (1 : Nat) (Option.none : Option Jvm.ClassFile.FieldType)).before args0 about1 = true := code_word (m := ⟨0, 0⟩) (meth := k0m0) (c := k0c0) (by decide +kernel) rfl rfl rfl (by decide +kernel)
set_option maxRecDepth 65536 in
theorem w_c4 : (Jvm.Cond.code ({ cls := "com/example/reorient/reorient/service/Window", name := "turnTo", desc := "(Lcom/example/reorient/reorient/model/Rotation;)V" } : Jvm.MethodName) prog_79_method_12_code (2 : Nat) (Option.none : Option Jvm.ClassFile.FieldType)).before args0 about1 = true := code_word (m := ⟨2, 3⟩) (meth := k2m3) (c := k2c3) (by decide +kernel) rfl rfl rfl (by decide +kernel)
set_option maxRecDepth 65536 in
theorem w_c5 : (Jvm.Cond.code ({ cls := "com/example/reorient/reorient/service/WindowPictureOfPinLaw", name := "turn", desc := "(II)I" } : Jvm.MethodName) method_3_code (2 : Nat) (Option.some Jvm.ClassFile.FieldType.int)).before args0 about1 = true := code_word (m := ⟨1, 2⟩) (meth := k1m2) (c := k1c2) (by decide +kernel) rfl rfl rfl (by decide +kernel)
set_option maxRecDepth 65536 in
theorem w_c6 : (Jvm.Cond.code ({ cls := "com/example/reorient/reorient/service/Window", name := "pictureOf", desc := "(Lcom/example/reorient/reorient/model/Rotation;)Z" } : Jvm.MethodName) prog_79_method_9_code (2 : Nat) (Option.some Jvm.ClassFile.FieldType.boolean)).before args0 about1 = true := code_word (m := ⟨2, 1⟩) (meth := k2m1) (c := k2c1) (by decide +kernel) rfl rfl rfl (by decide +kernel)
set_option maxRecDepth 65536 in
theorem w_c7 : (Jvm.Cond.code ({ cls := "com/example/reorient/reorient/service/Window", name := "reportDrawn", desc := "(Lcom/example/reorient/reorient/model/Rotation;)V" } : Jvm.MethodName) prog_79_method_10_code (2 : Nat) (Option.none : Option Jvm.ClassFile.FieldType)).before args0 about1 = true := code_word (m := ⟨2, 2⟩) (meth := k2m2) (c := k2c2) (by decide +kernel) rfl rfl rfl (by decide +kernel)
def codes1 : List Jvm.Cond := [Jvm.Cond.code x code maxLocals ret, Jvm.Cond.code ({ cls := "com/example/reorient/reorient/service/WindowPictureOfPinLaw", name := "rot", desc := "(I)Lcom/example/reorient/reorient/model/Rotation;" } : Jvm.MethodName) method_2_code (2 : Nat) (Option.some (Jvm.ClassFile.FieldType.object "com/example/reorient/reorient/model/Rotation")), Jvm.Cond.code ({ cls := "com/example/reorient/reorient/service/Window", name := "<init>", desc := "(Ljava/lang/String;Lcom/example/reorient/reorient/model/Rotation;)V" } : Jvm.MethodName) prog_79_method_1_code (3 : Nat) (Option.none : Option Jvm.ClassFile.FieldType), Jvm.Cond.code ({ cls := "java/lang/Object", name := "<init>", desc := "()V" } : Jvm.MethodName) object_method_1_code (1 : Nat) (Option.none : Option Jvm.ClassFile.FieldType), Jvm.Cond.code ({ cls := "com/example/reorient/reorient/service/Window", name := "turnTo", desc := "(Lcom/example/reorient/reorient/model/Rotation;)V" } : Jvm.MethodName) prog_79_method_12_code (2 : Nat) (Option.none : Option Jvm.ClassFile.FieldType), Jvm.Cond.code ({ cls := "com/example/reorient/reorient/service/WindowPictureOfPinLaw", name := "turn", desc := "(II)I" } : Jvm.MethodName) method_3_code (2 : Nat) (Option.some Jvm.ClassFile.FieldType.int), Jvm.Cond.code ({ cls := "com/example/reorient/reorient/service/Window", name := "pictureOf", desc := "(Lcom/example/reorient/reorient/model/Rotation;)Z" } : Jvm.MethodName) prog_79_method_9_code (2 : Nat) (Option.some Jvm.ClassFile.FieldType.boolean), Jvm.Cond.code ({ cls := "com/example/reorient/reorient/service/Window", name := "reportDrawn", desc := "(Lcom/example/reorient/reorient/model/Rotation;)V" } : Jvm.MethodName) prog_79_method_10_code (2 : Nat) (Option.none : Option Jvm.ClassFile.FieldType)]
set_option maxRecDepth 65536 in
theorem codes_eq : words1.filter isCode = codes1 := rfl
theorem w_codes : ∀ c ∈ words1.filter isCode, c.before args0 about1 = true := by
  rw [codes_eq]
  intro c hc
  simp only [codes1, List.mem_cons, List.not_mem_nil, or_false] at hc
  rcases hc with rfl | rfl | rfl | rfl | rfl | rfl | rfl | rfl
  · exact w_c0
  · exact w_c1
  · exact w_c2
  · exact w_c3
  · exact w_c4
  · exact w_c5
  · exact w_c6
  · exact w_c7
set_option maxRecDepth 65536 in
theorem w_t1 : (words1.take 24).all (fun c => isCode c || c.before args0 about1) = true := by decide +kernel
set_option maxRecDepth 65536 in
theorem w_t2 : ((words1.drop 24).take 24).all (fun c => isCode c || c.before args0 about1) = true := by decide +kernel
set_option maxRecDepth 65536 in
theorem w_t3 : ((words1.drop 24).drop 24).all (fun c => isCode c || c.before args0 about1) = true := by decide +kernel
theorem w_tables : (allAtoms (Jvm.Cond.code x code maxLocals ret :: tables_1)).before args0 about1 = true := by
  rw [allAtoms_all]
  show words1.all (fun c => c.before args0 about1) = true
  refine all_split ?_ w_codes
  rw [← List.take_append_drop 24 words1, List.all_append, w_t1, ← List.take_append_drop 24 (words1.drop 24), List.all_append, w_t2, w_t3]
  rfl
set_option maxRecDepth 65536 in
theorem w_case : (Jvm.Cond.and given_1 narrow_1).before args0 about1 = true := by decide +kernel
theorem w_applies : (headSpec (Jvm.Cond.code x code maxLocals ret :: tables_1) room_1).applies x e0.platform about1 = true :=
  (Spec.applies_iff w_frames).mpr ⟨w_running, w_runnable, w_alone, w_named, w_hears, w_ripe, w_room, w_tables⟩
theorem atStart : AtStart classFile x code maxLocals ret World_1 tables_1 room_1 Calls_1 rest_1 Pre_1 launch0 p0 e0 about1 theMethod args0 below0 :=
  ⟨lists_1, trivial, launch0.admits_env _ _ _, launch0.least_env, fairChoices_fair.cas, fairChoices_fair.clock, w_frames, w_args, w_heap, w_applies, trivial, trivial, w_case⟩
end start1
theorem witness_1 : WitnessClaimed_1 := ⟨start1.p0, start1.e0, start1.about1, start1.theMethod, start1.args0, start1.below0, start1.atStart⟩
end Jvm.Pilot.@@N@@
