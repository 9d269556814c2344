import JvmDerived
import JvmDerived.Pilot.@@N@@Statement
import JvmDerived.Pilot.@@N@@Code
set_option linter.unusedVariables false
set_option linter.unusedSimpArgs false
namespace Jvm.Pilot.@@N@@
open Jvm Jvm.ClassFile Sem Op Lib Jvm.Free Jvm.Stand Jvm.LawKit Jvm.RoadKit Bundle Jvm.Pilot.@@N@@.Jvm.D
section Own
variable {p : Program} {l : Launch} {e : Env} {R : Room} {s : State} {m : MethodId} {args : Array Value} {below : List Frame} {meth : Method} {c : Code} {T : State} {locs : List Loc} {cells slots : Nat}
/-- from U the run comes back to 'below' and its end is as P says -/
def Go (p : Program) (e : Env) (below : List Frame) (U : State) (P : Outcome → State → Prop) : Prop := ∃ s₂ o, Steps p.tables e below U s₂ ∧ s₂.status = .running ∧ Ended s₂ below o ∧ P o s₂
theorem Go.mp {U U' : State} {P : Outcome → State → Prop} (h : ∀ t, Steps p.tables e below U' t → Steps p.tables e below U t) (k : Go p e below U' P) : Go p e below U P := by
  obtain ⟨a, b, c, d⟩ := k; exact ⟨a, b, h _ c, d⟩
/-- how a body ends -/
def FinE (s : State) (kc ks : Nat) (Q : Option Value → Heap → List Loc → Prop) (o : Outcome) (t : State) : Prop := ∃ v L, o = .returned v ∧ Q v t.heap L ∧ FrameEnd s o t L kc ks
/-- a body's contract -/
abbrev Ctr (l : Launch) (y : MethodName) (bytes : ByteArray) (maxL : Nat) (ret : Option FieldType) (ws : List Jvm.Cond) (rm : Room) (Z : State) (as' : Array Value) (h : Heap) (Q : Option Value → Heap → List Loc → Prop) : Prop :=
  MetFree l y (head1 (Jvm.Cond.code y bytes maxL ret :: ws) rm) (fun a U => a = as' ∧ Z.Warmed39 U.vm ∧ U.heap = h) (fun _ _ _ _ _ => True) (fun _ U o U' => ∃ v L, o = .returned v ∧ Q v U'.heap L ∧ FrameEnd U o U' L rm.cells rm.slots)
theorem own_enter {y : MethodName} {bytes : ByteArray} {maxL : Nat} {ret : Option FieldType} {ws : List Jvm.Cond} {rm : Room} {Z : State} {as' : Array Value} {h : Heap} {Q : Option Value → Heap → List Loc → Prop} (hpn : plainName y.cls = true)
    (body : ∀ (p : Program) (e : Env) (s : State) (m : MethodId) (below : List Frame) (meth : Method) (c : Code) (s₁ : State), p.tables.exec = Jvm.exec → c.code = bytes → c.maxLocals = maxL → s.vm.findClass y.cls = some m.cls → meth.name = y.name → meth.sig.returnType = ret → meth.locks = false → Z.Warmed39 s.vm → Stand p l e rm s m as' below meth c s₁ [] 0 0 → s₁.heap = h →
      Go p e below (s₁.setTop (entryFrame m as' maxL)) (FinE s rm.cells rm.slots Q)) : Ctr l y bytes maxL ret ws rm Z as' h Q := by
  refine MetFree.of_bodySF (plainFor_of_name hpn) hisR ?_
  intro p e s m args below meth c s₁ Bd hml0 hP hK
  obtain ⟨rfl, hZ, hh⟩ := hP
  exact body p e s m below meth c s₁ Bd.exec Bd.bytes hml0 (findClass_of_methodNamed Bd.named) (name_of_methodNamed Bd.named Bd.method).1 Bd.returns Bd.notSynchronized hZ (Stand.of_body Bd) (by rw [← hh, Bd.state]; rfl)
theorem own_retN (X : Stand p l e R s m args below meth c T locs cells slots) (hx : p.tables.exec = Jvm.exec) {t : FieldType} (hret : meth.sig.returnType = some t) (hlk : meth.locks = false) (ht : t = .boolean ∨ t = .byte ∨ t = .char ∨ t = .short) {kc ks : Nat} {Q : Option Value → Heap → List Loc → Prop} {pc : Nat} {Ls : Array Slot} {z : Int32} {rest : List Value}
    (hd : decode c.code pc = .ok (.ireturn, 1)) (hk : cells ≤ kc) (hn : slots ≤ ks) (hq : Q (some (.int (nar t z))) T.heap locs) : Go p e below (T.setTop (mkF m pc Ls (.int z :: rest))) (FinE s kc ks Q) := by
  obtain ⟨fs, hr, hrun, hended, hW, hsame⟩ := X.leave (v := some (.int (nar t z))) (fun h => by rw [hret] at h; cases h) hlk
  exact ⟨_, _, retN X hx hret ht hd hr, hrun, hended, _, _, rfl, hq, ⟨_, rfl⟩, hW, hsame.mono hk hn⟩
theorem own_retZ (X : Stand p l e R s m args below meth c T locs cells slots) (hx : p.tables.exec = Jvm.exec) (hret : meth.sig.returnType = some .boolean) (hlk : meth.locks = false) {kc ks : Nat} {Q : Option Value → Heap → List Loc → Prop} {pc : Nat} {Ls : Array Slot} {z : Int32} {rest : List Value}
    (hd : decode c.code pc = .ok (.ireturn, 1)) (hk : cells ≤ kc) (hn : slots ≤ ks) (hz : z &&& 1 = z) (hq : Q (some (.int z)) T.heap locs) : Go p e below (T.setTop (mkF m pc Ls (.int z :: rest))) (FinE s kc ks Q) :=
  own_retN X hx hret hlk (Or.inl rfl) hd hk hn (by show Q (some (.int (z &&& 1))) T.heap locs; rw [hz]; exact hq)
theorem own_retW (X : Stand p l e R s m args below meth c T locs cells slots) (hx : p.tables.exec = Jvm.exec) {t : FieldType} {w : Value} {i : Instr} (hret : meth.sig.returnType = some t) (hlk : meth.locks = false) (hw : narrow t w = w)
    (hi : (i = .ireturn ∧ (t = .int ∨ t = .boolean ∨ t = .byte ∨ t = .char ∨ t = .short) ∧ ∃ z, w = .int z) ∨ (i = .lreturn ∧ t = .long ∧ ∃ z, w = .long z) ∨ (i = .dreturn ∧ t = .double ∧ ∃ z, w = .double z) ∨ (i = .freturn ∧ t = .float ∧ ∃ z, w = .float z) ∨ (i = .areturn ∧ t.isReference = true ∧ w.isRef = true))
    {kc ks : Nat} {Q : Option Value → Heap → List Loc → Prop} {pc : Nat} {Ls : Array Slot} {rest : List Value}
    (hd : decode c.code pc = .ok (i, 1)) (hk : cells ≤ kc) (hn : slots ≤ ks) (hq : Q (some w) T.heap locs) : Go p e below (T.setTop (mkF m pc Ls (w :: rest))) (FinE s kc ks Q) := by
  obtain ⟨fs, hr, hrun, hended, hW, hsame⟩ := X.leave (v := some w) (fun h => by rw [hret] at h; cases h) hlk
  exact ⟨_, _, retOut X hx hret hw hi hd hr, hrun, hended, _, _, rfl, hq, ⟨_, rfl⟩, hW, hsame.mono hk hn⟩
theorem own_retI (X : Stand p l e R s m args below meth c T locs cells slots) (hx : p.tables.exec = Jvm.exec) (hret : meth.sig.returnType = some .int) (hlk : meth.locks = false) {kc ks : Nat} {Q : Option Value → Heap → List Loc → Prop} {pc : Nat} {Ls : Array Slot} {z : Int32} {rest : List Value}
    (hd : decode c.code pc = .ok (.ireturn, 1)) (hk : cells ≤ kc) (hn : slots ≤ ks) (hq : Q (some (.int z)) T.heap locs) : Go p e below (T.setTop (mkF m pc Ls (.int z :: rest))) (FinE s kc ks Q) :=
  own_retW X hx hret hlk rfl (Or.inl ⟨rfl, Or.inl rfl, _, rfl⟩) hd hk hn hq
theorem own_retA (X : Stand p l e R s m args below meth c T locs cells slots) (hx : p.tables.exec = Jvm.exec) {t : FieldType} (hret : meth.sig.returnType = some t) (hlk : meth.locks = false) (ht : t.isReference = true) {w : Value} (hw : w.isRef = true) {kc ks : Nat} {Q : Option Value → Heap → List Loc → Prop} {pc : Nat} {Ls : Array Slot} {rest : List Value}
    (hd : decode c.code pc = .ok (.areturn, 1)) (hk : cells ≤ kc) (hn : slots ≤ ks) (hq : Q (some w) T.heap locs) : Go p e below (T.setTop (mkF m pc Ls (w :: rest))) (FinE s kc ks Q) :=
  own_retW X hx hret hlk (by cases t <;> first | (cases ht; done) | (cases w <;> first | rfl | cases hw)) (Or.inr (Or.inr (Or.inr (Or.inr ⟨rfl, ht, hw⟩)))) hd hk hn hq
theorem own_retV (X : Stand p l e R s m args below meth c T locs cells slots) (hx : p.tables.exec = Jvm.exec) (hret : meth.sig.returnType = none) (hlk : meth.locks = false) {kc ks : Nat} {Q : Option Value → Heap → List Loc → Prop} {pc : Nat} {Ls : Array Slot}
    (hd : decode c.code pc = .ok (.return_, 1)) (hk : cells ≤ kc) (hn : slots ≤ ks) (hq : Q none T.heap locs) : Go p e below (T.setTop (mkF m pc Ls [])) (FinE s kc ks Q) := by
  obtain ⟨fs, hr, hrun, hended, hW, hsame⟩ := X.leave (v := none) (fun _ => rfl) hlk
  exact ⟨_, _, X.returnOut hx hret hd hr, hrun, hended, _, _, rfl, hq, ⟨_, rfl⟩, hW, hsame.mono hk hn⟩
/-- the wide end (behind a cold ldc of a String) -/
def FinW (s : State) (kc ks : Nat) (Q : Option Value → Heap → List Loc → Prop) (o : Outcome) (t : State) : Prop := ∃ v L, o = .returned v ∧ Q v t.heap L ∧ ReturnedEndW s o t L kc ks
abbrev CtrW (l : Launch) (y : MethodName) (bytes : ByteArray) (maxL : Nat) (ret : Option FieldType) (ws : List Jvm.Cond) (rm : Room) (Z : State) (as' : Array Value) (h : Heap) (Q : Option Value → Heap → List Loc → Prop) : Prop :=
  MetFree l y (head1 (Jvm.Cond.code y bytes maxL ret :: ws) rm) (fun a U => a = as' ∧ Z.Warmed39 U.vm ∧ U.heap = h) (fun _ _ _ _ _ => True) (fun _ U o U' => ∃ v L, o = .returned v ∧ Q v U'.heap L ∧ ReturnedEndW U o U' L rm.cells rm.slots)
theorem own_enterW {y : MethodName} {bytes : ByteArray} {maxL : Nat} {ret : Option FieldType} {ws : List Jvm.Cond} {rm : Room} {Z : State} {as' : Array Value} {h : Heap} {Q : Option Value → Heap → List Loc → Prop} (hpn : plainName y.cls = true)
    (body : ∀ (p : Program) (e : Env) (s : State) (m : MethodId) (below : List Frame) (meth : Method) (c : Code) (s₁ : State), p.tables.exec = Jvm.exec → c.code = bytes → c.maxLocals = maxL → s.vm.findClass y.cls = some m.cls → meth.name = y.name → meth.sig.returnType = ret → meth.locks = false → Z.Warmed39 s.vm → Stand p l e rm s m as' below meth c s₁ [] 0 0 → s₁.heap = h →
      Go p e below (s₁.setTop (entryFrame m as' maxL)) (FinW s rm.cells rm.slots Q)) : CtrW l y bytes maxL ret ws rm Z as' h Q := by
  refine MetFree.of_bodySF (plainFor_of_name hpn) hisR ?_
  intro p e s m args below meth c s₁ Bd hml0 hP hK
  obtain ⟨rfl, hZ, hh⟩ := hP
  exact body p e s m below meth c s₁ Bd.exec Bd.bytes hml0 (findClass_of_methodNamed Bd.named) (name_of_methodNamed Bd.named Bd.method).1 Bd.returns Bd.notSynchronized hZ (Stand.of_body Bd) (by rw [← hh, Bd.state]; rfl)
theorem own_retZW {vm1 : Vm} {k1 : Nat} (X : Stand p l e R (s.setVm vm1) m args below meth c T locs cells slots) (hx : p.tables.exec = Jvm.exec) (hret : meth.sig.returnType = some .boolean) (hlk : meth.locks = false) (hS : s.Since vm1 k1) (hB : k1 ≤ T.heap.size) {kc ks : Nat} {Q : Option Value → Heap → List Loc → Prop} {pc : Nat} {Ls : Array Slot} {z : Int32} {rest : List Value}
    (hd : decode c.code pc = .ok (.ireturn, 1)) (hk : cells ≤ kc) (hn : slots ≤ ks) (hz : z &&& 1 = z) (hq : Q (some (.int z)) T.heap locs) : Go p e below (T.setTop (mkF m pc Ls (.int z :: rest))) (FinW s kc ks Q) := by
  obtain ⟨fs, hr, hrun, hended, h1, h2, h3, h4⟩ := X.leaveW hS hB (v := some (.int (nar .boolean z))) (fun h => by rw [hret] at h; cases h) hlk
  have e1 : nar .boolean z = z := hz
  exact ⟨_, _, retN X hx hret (Or.inl rfl) hd hr, hrun, hended, _, _, rfl, by rw [e1]; exact hq, h1, h2, h3, h4.mono hk hn⟩
section Calls
variable {Z : State} {a0 : Array Value} {h : Heap} {y : MethodName} {bytes : ByteArray} {maxL : Nat} {ret : Option FieldType} {rm : Room} {as' : Array Value} {Q : Option Value → Heap → List Loc → Prop} {own : String} {index : Nat} {pc : Nat} {Ls : Array Slot} {st argsL rest : List Value} {ps : List FieldType} {r : Option FieldType}
theorem own_callS (X : Stand p l e R s m args below meth c T locs cells slots) (hx : p.tables.exec = Jvm.exec) (hZ : Z.Warmed39 s.vm) (hown : s.vm.findClass own = some m.cls) (w1 : (Jvm.Cond.methodLink own index y).before a0 Z = true) (w2 : (Jvm.Cond.static y).before a0 Z = true) (w3 : (Jvm.Cond.initialized y.cls).before a0 Z = true) (w4 : (Jvm.Cond.code y bytes maxL ret).before a0 Z = true)
    (hy : y.cls ≠ "java/lang/invoke/MethodHandle" ∧ y.cls ≠ "java/lang/invoke/VarHandle") (hM : Ctr l y bytes maxL ret [] rm Z as' h Q) (eT : T.heap = h) (hpd : parseMethodDescriptor y.desc = some ⟨ps, r⟩) (hd : decode c.code pc = .ok (.invokestatic index, 3)) (hsize : Ls.size = c.maxLocals)
    (hlen : argsL.length = ps.length) (hst : st = argsL.reverse ++ rest) (has : argsL.toArray = as') {W : Nat} (hW : (rest.map fun v => v.category).sum ≤ W) (hf : rm.frames + 1 ≤ R.frames) (hl : W + (maxL + 11) + rm.locals ≤ R.locals) (hc : cells + rm.cells ≤ R.cells) (hs : slots + rm.slots ≤ R.slots) :
    ∃ v T' L, Stand p l e R s m args below meth c T' (locs ++ L) (cells + rm.cells) (slots + rm.slots) ∧ Q v T'.heap L ∧ ∀ target, Steps p.tables e below (T'.setTop (mkF m (pc + 3) Ls (v.toList ++ rest))) target → Steps p.tables e below (T.setTop (mkF m pc Ls st)) target := by
  obtain ⟨v, _, ⟨T', L', k', n'⟩, -, X', ⟨Lc, hQ, l1, y1, z1⟩, st'⟩ := Jvm.LawKit.callS X hx (y := y) hown (mvT hZ w1) (mvT hZ w2) (mvT hZ w3) (mvT hZ w4) hy (backOf (W := W) hM hZ w4 w3 hf hl) (g := mkF m pc Ls st) rfl hsize (argsL := argsL) (rest := rest) (lenOf hpd hlen) hst (by show 2 * 0 + _ ≤ _; omega) hd (fun _ _ => ⟨has, eT, hc, hs⟩)
  dsimp only [Pt.U, Pt.locs, Pt.cells, Pt.slots] at X' l1 y1 z1 st' hQ
  subst l1 y1 z1
  exact ⟨v, T', Lc, X', hQ, st'⟩
theorem own_callV {C : String} {b : Addr} (X : Stand p l e R s m args below meth c T locs cells slots) (hx : p.tables.exec = Jvm.exec) (hZ : Z.Warmed39 s.vm) (hown : s.vm.findClass own = some m.cls) (w1 : (Jvm.Cond.methodLink own index y).before a0 Z = true) (w2 : (Jvm.Cond.declares y).before a0 Z = true) (w3 : (Jvm.Cond.selects C y y).before a0 Z = true) (w4 : (Jvm.Cond.instanceMethod y).before a0 Z = true)
    (w5 : (Jvm.Cond.code y bytes maxL ret).before a0 Z = true) (w6 : (Jvm.Cond.initialized y.cls).before a0 Z = true) (hy : y.cls ≠ "java/lang/invoke/MethodHandle" ∧ y.cls ≠ "java/lang/invoke/VarHandle") (hM : Ctr l y bytes maxL ret [] rm Z as' h Q) (eT : T.heap = h) (E : Exa Z h b C) (hpd : parseMethodDescriptor y.desc = some ⟨ps, r⟩) (hd : decode c.code pc = .ok (.invokevirtual index, 3)) (hsize : Ls.size = c.maxLocals)
    (hlen : argsL.length = ps.length) (hst : st = argsL.reverse ++ .ref b :: rest) (has : (.ref b :: argsL).toArray = as') {W : Nat} (hW : (rest.map fun v => v.category).sum ≤ W) (hf : rm.frames + 1 ≤ R.frames) (hl : W + (maxL + 11) + rm.locals ≤ R.locals) (hc : cells + rm.cells ≤ R.cells) (hs : slots + rm.slots ≤ R.slots) :
    ∃ v T' L, Stand p l e R s m args below meth c T' (locs ++ L) (cells + rm.cells) (slots + rm.slots) ∧ Q v T'.heap L ∧ ∀ target, Steps p.tables e below (T'.setTop (mkF m (pc + 3) Ls (v.toList ++ rest))) target → Steps p.tables e below (T.setTop (mkF m pc Ls st)) target := by
  obtain ⟨cq, kq, qa, qb, qc⟩ := isOf hZ eT E
  obtain ⟨v, _, ⟨T', L', k', n'⟩, -, X', ⟨Lc, hQ, l1, y1, z1⟩, st'⟩ := X.virtualBack hx (y := y) (z := y) hown (mvT hZ w1) (mvT hZ w2) (notFace_of_selects (args := #[]) (mvT hZ w3)) (mvT hZ w3) (mvT hZ w4) hy (backOf (W := W) hM hZ w5 w6 hf hl) qa qc (g := mkF m pc Ls st) rfl hsize (Steps.refl _) (argsL := argsL) (rest := rest) (lenOf hpd hlen) hst (by show 2 * 0 + _ ≤ _; omega) hd (fun _ _ => ⟨has, eT, hc, hs⟩)
  dsimp only [Pt.U, Pt.locs, Pt.cells, Pt.slots] at X' l1 y1 z1 st' hQ
  subst l1 y1 z1
  exact ⟨v, T', Lc, X', hQ, fun t k => st'.trans k⟩
theorem own_callI {b : Addr} (X : Stand p l e R s m args below meth c T locs cells slots) (hx : p.tables.exec = Jvm.exec) (hZ : Z.Warmed39 s.vm) (hown : s.vm.findClass own = some m.cls) (w1 : (Jvm.Cond.methodLink own index y).before a0 Z = true) (w4 : (Jvm.Cond.instanceMethod y).before a0 Z = true)
    (w5 : (Jvm.Cond.code y bytes maxL none).before a0 Z = true) (w6 : (Jvm.Cond.initialized y.cls).before a0 Z = true) (hn : y.name = "<init>") (hy : y.cls ≠ "java/lang/invoke/MethodHandle" ∧ y.cls ≠ "java/lang/invoke/VarHandle") (hM : Ctr l y bytes maxL none [] rm Z as' h Q) (eT : T.heap = h) (hpd : parseMethodDescriptor y.desc = some ⟨ps, r⟩) (hd : decode c.code pc = .ok (.invokespecial index, 3)) (hsize : Ls.size = c.maxLocals)
    (hlen : argsL.length = ps.length) (hst : st = argsL.reverse ++ .ref b :: rest) (has : (.ref b :: argsL).toArray = as') {W : Nat} (hW : (rest.map fun v => v.category).sum ≤ W) (hf : rm.frames + 1 ≤ R.frames) (hl : W + (maxL + 11) + rm.locals ≤ R.locals) (hc : cells + rm.cells ≤ R.cells) (hs : slots + rm.slots ≤ R.slots) :
    ∃ v T' L, Stand p l e R s m args below meth c T' (locs ++ L) (cells + rm.cells) (slots + rm.slots) ∧ Q v T'.heap L ∧ ∀ target, Steps p.tables e below (T'.setTop (mkF m (pc + 3) Ls (v.toList ++ rest))) target → Steps p.tables e below (T.setTop (mkF m pc Ls st)) target := by
  obtain ⟨v, _, ⟨T', L', k', n'⟩, -, X', ⟨Lc, hQ, l1, y1, z1⟩, st'⟩ := X.specialBack hx (y := y) hn hown (mvT hZ w1) (mvT hZ w4) (mvT hZ w5) hy (backOf (W := W) hM hZ w5 w6 hf hl) (g := mkF m pc Ls st) rfl hsize (Steps.refl _) (a := b) (argsL := argsL) (rest := rest) (lenOf hpd hlen) hst (by show 2 * 0 + _ ≤ _; omega) hd (fun _ _ => ⟨has, eT, hc, hs⟩)
  dsimp only [Pt.U, Pt.locs, Pt.cells, Pt.slots] at X' l1 y1 z1 st' hQ
  subst l1 y1 z1
  exact ⟨v, T', Lc, X', hQ, fun t k => st'.trans k⟩
end Calls
section Facts
variable {Z : State} {h : Heap} {a b : Addr} {C F D K O n d : String} {v w : Value}
theorem own_fld_fun (F1 : Fld Z h a C n d v) (F2 : Fld Z h a C n d w) : v = w := by
  obtain ⟨c1, cf1, k1, i1, f1, h1, h2, h3, h4, h5, h6, h7⟩ := F1
  obtain ⟨c2, cf2, k2, i2, f2, g1, g2, g3, g4, g5, g6, g7⟩ := F2
  cases h1.symm.trans g1
  cases h2.symm.trans g2
  exact Option.some.inj (h7.symm.trans g7)
theorem own_ne {i j : Int32} (F1 : Fld Z h a C n d (.int i)) (F2 : Fld Z h b C n d (.int j)) (hij : i ≠ j) : a ≠ b := fun e => by
  subst e; exact hij (Value.int.inj (own_fld_fun F1 F2))
theorem own_sta {args : Array Value} (hn : (Jvm.Cond.exactly (.static C F D) K).value args Z none Z [] = some true) (hi : (Jvm.Cond.initialized C).before args Z = true) (hl : (Jvm.Cond.laysStatic C F D).before args Z = true) :
    ∃ w : Addr, Sta Z Z.heap C F D (.ref w) ∧ Exa Z Z.heap w K ∧ (Term.static C F D).eval args Z none [] Z = some (.ref w) := by
  obtain ⟨a', c', cell, k, e1, -⟩ := Cond.exactly_spec (Cond.before_iff.mpr hn)
  exact ⟨a', Sta.start e1 (Or.inr ⟨hi, hl⟩), Exa.start e1 hn, e1⟩
theorem own_ord {args : Array Value} {k : Int32} {t : Term} (hn : (Jvm.Cond.eq (.field t O n d) (.int k)).value args Z none Z [] = some true) (ev : t.eval args Z none [] Z = some (.ref a)) : Fld Z Z.heap a O n d (.int k) := by
  refine Fld.start ?_
  simp only [Jvm.Cond.value, Term.eval, ev] at hn
  cases hq : Z.fieldOf? a O n d with
  | none => simp [hq] at hn
  | some v => cases v <;> simp_all
theorem own_fref {args : Array Value} {t u : Term} (hn : (Jvm.Cond.eq (.field t O n d) u).value args Z none Z [] = some true) (ev : t.eval args Z none [] Z = some (.ref a)) (eu : u.eval args Z none [] Z = some (.ref b)) : Fld Z Z.heap a O n d (.ref b) := by
  refine Fld.start ?_
  simp only [Jvm.Cond.value, Term.eval, ev, eu] at hn
  cases hq : Z.fieldOf? a O n d with
  | none => simp [hq] at hn
  | some v => cases v <;> simp_all
theorem own_arrOf {args : Array Value} {t : Term} {ty : FieldType} (hn : (Jvm.Cond.arrayOf t ty).value args Z none Z [] = some true) : ∃ a c, t.eval args Z none [] Z = some (.ref a) ∧ Arr Z Z.heap a c ty := by
  cases hq : t.eval args Z none [] Z with
  | none => simp [Jvm.Cond.value, hq] at hn
  | some v =>
    cases v with
    | ref a => obtain ⟨c, A⟩ := Arr.start hq hn; exact ⟨a, c, rfl, A⟩
    | _ => simp [Jvm.Cond.value, hq] at hn
theorem own_arrLen {args : Array Value} {t : Term} {ty : FieldType} {cl : Cell} {k : Int32} (A : Arr Z Z.heap a cl ty) (ev : t.eval args Z none [] Z = some (.ref a)) (hn : (Jvm.Cond.eq (.length t) (.int k)).value args Z none Z [] = some true) : cl.slots.size < 2 ^ 31 ∧ cl.slots.size.toInt32 = k := by
  have hA : Z.arrayAt? a = some cl := A.fin (Vm.Alike.refl _)
  by_cases q : cl.slots.size < 2 ^ 31
  · refine ⟨q, ?_⟩
    have e : (Term.length t).eval args Z none [] Z = some (.int cl.slots.size.toInt32) := by simp [Term.eval, ev, hA, q]
    have e2 : (Term.int k).eval args Z none [] Z = some (.int k) := rfl
    simp only [Jvm.Cond.value, e, e2] at hn
    simpa using hn
  · have e : (Term.length t).eval args Z none [] Z = none := by simp [Term.eval, ev, hA, q]
    simp [Jvm.Cond.value, e] at hn
theorem own_arrElem {args : Array Value} {t u : Term} {ty : FieldType} {cl : Cell} {j : Int32} (A : Arr Z Z.heap a cl ty) (ev : t.eval args Z none [] Z = some (.ref a)) (eu : u.eval args Z none [] Z = some (.ref b)) (hj : ¬ j < 0) (hn : (Jvm.Cond.eq (.elem t (.int j)) u).value args Z none Z [] = some true) : cl.slots[j.toNatClampNeg]? = some (.ref b) := by
  have hA : Z.arrayAt? a = some cl := A.fin (Vm.Alike.refl _)
  have e : (Term.elem t (.int j)).eval args Z none [] Z = cl.slots[j.toNatClampNeg]? := by simp [Term.eval, ev, hA, hj]
  cases hq : cl.slots[j.toNatClampNeg]? with
  | none => rw [hq] at e; simp [Jvm.Cond.value, e] at hn
  | some v => rw [hq] at e; simp only [Jvm.Cond.value, e, eu] at hn; cases v <;> simp_all
theorem own_zand (x : Int32) : (0 : Int32) &&& x = (0 : Int32) := Int32.zero_and
theorem own_nin {x a : Addr} {ws : List Addr} (h : x ≠ a) (k : x ∉ ws) : x ∉ a :: ws := fun q => (List.mem_cons.mp q).elim h k
theorem own_plain {K : String} {ws : List Addr} (E : Exa Z h a K) (k : ∀ x ∈ ws, ∃ K', Exa Z h x K') : ∀ x ∈ a :: ws, ∃ K', Exa Z h x K' := fun x q => (List.mem_cons.mp q).elim (fun e => ⟨K, e ▸ E⟩) (k x)
theorem own_sta_keep {h' : Heap} {ws : List Addr} (S : Sta Z h C n d v) (K : Keep h h' ws) (hp : ∀ x ∈ ws, ∃ K', Exa Z h x K') : Sta Z h' C n d v := by
  obtain ⟨cf, i, k, f, st, cell, h1, h2, h3, h4, h5, h6, h7⟩ := S
  refine ⟨cf, i, k, f, st, cell, h1, h2, h3, h4, K.2.1 _ _ h5 fun q => ?_, h6, h7⟩
  obtain ⟨K', cl, kk, e1, -, -, e4, -⟩ := hp _ q
  cases h5.symm.trans e1
  rw [e4] at h6; cases h6
theorem own_mem1 {h0 : Heap} {ws : List Addr} {a : Addr} (q : a ∈ ws ∨ h0.size ≤ a) : ∀ x ∈ [a], x ∈ ws ∨ h0.size ≤ x := fun x hx => by cases List.mem_singleton.mp hx; exact q
theorem own_mem2 {h0 : Heap} {ws : List Addr} {a b : Addr} (q : a ∈ ws ∨ h0.size ≤ a) (r : b ∈ ws ∨ h0.size ≤ b) : ∀ x ∈ [a, b], x ∈ ws ∨ h0.size ≤ x := fun x hx => by
  rcases List.mem_cons.mp hx with rfl | hx
  · exact q
  · cases List.mem_singleton.mp hx; exact r
theorem own_fitR {ty : FieldType} (ht : ty.isReference = true) (hv : v.isRef = true) : fits ty v = true := by cases ty <;> first | (cases ht; done) | (cases v <;> first | rfl | cases hv)
theorem own_narR {ty : FieldType} (ht : ty.isReference = true) (hv : v.isRef = true) : narrow ty v = v := by cases ty <;> first | (cases ht; done) | (cases v <;> first | rfl | cases hv)
theorem own_bit {z : Int32} (hz : z = 0 ∨ z = 1) : z &&& 1 = z := by rcases hz with rfl | rfl <;> decide
theorem own_narZ {z : Int32} (hz : z = 0 ∨ z = 1) : narrow .boolean (.int z) = .int z := by rcases hz with rfl | rfl <;> rfl
theorem own_fitZ {z : Int32} (hz : z = 0 ∨ z = 1) : fits .boolean (.int z) = true := by rcases hz with rfl | rfl <;> rfl
theorem own_pad {dv : Value} (k : Nat) (i : Nat) : (List.replicate k dv).getD i dv = ([] : List Value).getD i dv := by
  simp only [List.getD, List.getElem?_replicate]
  split <;> rfl
end Facts
end Own
section G
variable {p : Program} {l : Launch} {e : Env} {R : Room} {s : State} {m : MethodId} {args : Array Value} {below : List Frame} {meth : Method} {c : Code} {T : State} {locs : List Loc} {cells slots : Nat} {pc : Nat} {Ls : Array Slot} {st : List Value} {P : Outcome → State → Prop}
theorem g_iloadN (X : Stand p l e R s m args below meth c T locs cells slots) (hx : p.tables.exec = Jvm.exec) {k : Fin 4} {v : Int32} (hd : decode c.code pc = .ok (.iload_n k, 1)) (hl : Ls[k.val]? = some (.val (.int v))) (hr : Go p e below (T.setTop (mkF m (pc + 1) Ls (.int v :: st))) P) : Go p e below (T.setTop (mkF m pc Ls st)) P := Go.mp (fun _ k => XS.iloadN X.here hx rfl hd hl k) hr
theorem g_iload (X : Stand p l e R s m args below meth c T locs cells slots) (hx : p.tables.exec = Jvm.exec) {k : Nat} {v : Int32} (hd : decode c.code pc = .ok (.iload k, 2)) (hl : Ls[k]? = some (.val (.int v))) (hr : Go p e below (T.setTop (mkF m (pc + 2) Ls (.int v :: st))) P) : Go p e below (T.setTop (mkF m pc Ls st)) P := Go.mp (fun _ k => XS.iload X.here hx rfl hd hl k) hr
theorem g_lloadN (X : Stand p l e R s m args below meth c T locs cells slots) (hx : p.tables.exec = Jvm.exec) {k : Fin 4} {v : Int64} (hd : decode c.code pc = .ok (.lload_n k, 1)) (hl : Ls[k.val]? = some (.val (.long v))) (hr : Go p e below (T.setTop (mkF m (pc + 1) Ls (.long v :: st))) P) : Go p e below (T.setTop (mkF m pc Ls st)) P := Go.mp (fun _ k => XS.lloadN X.here hx rfl hd hl k) hr
theorem g_lload (X : Stand p l e R s m args below meth c T locs cells slots) (hx : p.tables.exec = Jvm.exec) {k : Nat} {v : Int64} (hd : decode c.code pc = .ok (.lload k, 2)) (hl : Ls[k]? = some (.val (.long v))) (hr : Go p e below (T.setTop (mkF m (pc + 2) Ls (.long v :: st))) P) : Go p e below (T.setTop (mkF m pc Ls st)) P := Go.mp (fun _ k => XS.lload X.here hx rfl hd hl k) hr
theorem g_aloadN (X : Stand p l e R s m args below meth c T locs cells slots) (hx : p.tables.exec = Jvm.exec) {k : Fin 4} {v : Value} (hd : decode c.code pc = .ok (.aload_n k, 1)) (hl : Ls[k.val]? = some (.val v)) (hv : v.isRef = true) (hr : Go p e below (T.setTop (mkF m (pc + 1) Ls (v :: st))) P) : Go p e below (T.setTop (mkF m pc Ls st)) P := Go.mp (fun _ k => XS.aloadN X.here hx rfl hd hl hv k) hr
theorem g_aload (X : Stand p l e R s m args below meth c T locs cells slots) (hx : p.tables.exec = Jvm.exec) {k : Nat} {v : Value} (hd : decode c.code pc = .ok (.aload k, 2)) (hl : Ls[k]? = some (.val v)) (hv : v.isRef = true) (hr : Go p e below (T.setTop (mkF m (pc + 2) Ls (v :: st))) P) : Go p e below (T.setTop (mkF m pc Ls st)) P := Go.mp (fun _ k => XS.aload X.here hx rfl hd hl hv k) hr
theorem g_istoreN (X : Stand p l e R s m args below meth c T locs cells slots) (hx : p.tables.exec = Jvm.exec) {k : Fin 4} {v : Int32} (l' : Array Slot) (hd : decode c.code pc = .ok (.istore_n k, 1)) (hl : storeLocals Ls k.val (.int v) = some l') (hr : Go p e below (T.setTop (mkF m (pc + 1) l' st)) P) : Go p e below (T.setTop (mkF m pc Ls (.int v :: st))) P := Go.mp (fun _ k => XS.istoreN X.here hx rfl hd rfl hl k) hr
theorem g_istore (X : Stand p l e R s m args below meth c T locs cells slots) (hx : p.tables.exec = Jvm.exec) {k : Nat} {v : Int32} (l' : Array Slot) (hd : decode c.code pc = .ok (.istore k, 2)) (hl : storeLocals Ls k (.int v) = some l') (hr : Go p e below (T.setTop (mkF m (pc + 2) l' st)) P) : Go p e below (T.setTop (mkF m pc Ls (.int v :: st))) P := Go.mp (fun _ k => XS.istore X.here hx rfl hd rfl hl k) hr
theorem g_astoreN (X : Stand p l e R s m args below meth c T locs cells slots) (hx : p.tables.exec = Jvm.exec) {k : Fin 4} {v : Value} (l' : Array Slot) (hd : decode c.code pc = .ok (.astore_n k, 1)) (hv : v.isRef = true) (hl : storeLocals Ls k.val v = some l') (hr : Go p e below (T.setTop (mkF m (pc + 1) l' st)) P) : Go p e below (T.setTop (mkF m pc Ls (v :: st))) P := Go.mp (fun _ k => XS.astoreN X.here hx rfl hd rfl hv hl k) hr
theorem g_astore (X : Stand p l e R s m args below meth c T locs cells slots) (hx : p.tables.exec = Jvm.exec) {k : Nat} {v : Value} (l' : Array Slot) (hd : decode c.code pc = .ok (.astore k, 2)) (hv : v.isRef = true) (hl : storeLocals Ls k v = some l') (hr : Go p e below (T.setTop (mkF m (pc + 2) l' st)) P) : Go p e below (T.setTop (mkF m pc Ls (v :: st))) P := Go.mp (fun _ k => XS.astore X.here hx rfl hd rfl hv hl k) hr
theorem g_iconst (X : Stand p l e R s m args below meth c T locs cells slots) (hx : p.tables.exec = Jvm.exec) {i : Int} (v : Int32) (hd : decode c.code pc = .ok (.iconst i, 1)) (hv : Int32.ofInt i = v) (hr : Go p e below (T.setTop (mkF m (pc + 1) Ls (.int v :: st))) P) : Go p e below (T.setTop (mkF m pc Ls st)) P := Go.mp (fun _ k => XT.iconstV X.here hx rfl v hd hv k) hr
theorem g_bipush (X : Stand p l e R s m args below meth c T locs cells slots) (hx : p.tables.exec = Jvm.exec) {i : Int} (v : Int32) (hd : decode c.code pc = .ok (.bipush i, 2)) (hv : (Int8.ofInt i).toInt32 = v) (hr : Go p e below (T.setTop (mkF m (pc + 2) Ls (.int v :: st))) P) : Go p e below (T.setTop (mkF m pc Ls st)) P := Go.mp (fun _ k => XT.bipushV X.here hx rfl v hd hv k) hr
theorem g_sipush (X : Stand p l e R s m args below meth c T locs cells slots) (hx : p.tables.exec = Jvm.exec) {i : Int} (v : Int32) (hd : decode c.code pc = .ok (.sipush i, 3)) (hv : (Int16.ofInt i).toInt32 = v) (hr : Go p e below (T.setTop (mkF m (pc + 3) Ls (.int v :: st))) P) : Go p e below (T.setTop (mkF m pc Ls st)) P := Go.mp (fun _ k => XT.sipushV X.here hx rfl v hd hv k) hr
theorem g_null (X : Stand p l e R s m args below meth c T locs cells slots) (hx : p.tables.exec = Jvm.exec) (hd : decode c.code pc = .ok (.aconst_null, 1)) (hr : Go p e below (T.setTop (mkF m (pc + 1) Ls (.null :: st))) P) : Go p e below (T.setTop (mkF m pc Ls st)) P := Go.mp (fun _ k => XS.aconstNull X.here hx rfl hd k) hr
theorem g_iadd (X : Stand p l e R s m args below meth c T locs cells slots) (hx : p.tables.exec = Jvm.exec) {x y : Int32} (hd : decode c.code pc = .ok (.iadd, 1)) (hr : Go p e below (T.setTop (mkF m (pc + 1) Ls (.int (x + y) :: st))) P) : Go p e below (T.setTop (mkF m pc Ls (.int y :: .int x :: st))) P := Go.mp (fun _ k => XS.iadd X.here hx rfl hd rfl k) hr
theorem g_isub (X : Stand p l e R s m args below meth c T locs cells slots) (hx : p.tables.exec = Jvm.exec) {x y : Int32} (hd : decode c.code pc = .ok (.isub, 1)) (hr : Go p e below (T.setTop (mkF m (pc + 1) Ls (.int (x - y) :: st))) P) : Go p e below (T.setTop (mkF m pc Ls (.int y :: .int x :: st))) P := Go.mp (fun _ k => XS.isub X.here hx rfl hd rfl k) hr
theorem g_iand (X : Stand p l e R s m args below meth c T locs cells slots) (hx : p.tables.exec = Jvm.exec) {x y : Int32} (hd : decode c.code pc = .ok (.iand, 1)) (hr : Go p e below (T.setTop (mkF m (pc + 1) Ls (.int (x &&& y) :: st))) P) : Go p e below (T.setTop (mkF m pc Ls (.int y :: .int x :: st))) P := Go.mp (fun _ k => XS.iand X.here hx rfl hd rfl k) hr
theorem g_ior (X : Stand p l e R s m args below meth c T locs cells slots) (hx : p.tables.exec = Jvm.exec) {x y : Int32} (hd : decode c.code pc = .ok (.ior, 1)) (hr : Go p e below (T.setTop (mkF m (pc + 1) Ls (.int (x ||| y) :: st))) P) : Go p e below (T.setTop (mkF m pc Ls (.int y :: .int x :: st))) P := Go.mp (fun _ k => XS.ior X.here hx rfl hd rfl k) hr
theorem g_ixor (X : Stand p l e R s m args below meth c T locs cells slots) (hx : p.tables.exec = Jvm.exec) {x y : Int32} (hd : decode c.code pc = .ok (.ixor, 1)) (hr : Go p e below (T.setTop (mkF m (pc + 1) Ls (.int (x ^^^ y) :: st))) P) : Go p e below (T.setTop (mkF m pc Ls (.int y :: .int x :: st))) P := Go.mp (fun _ k => XS.ixor X.here hx rfl hd rfl k) hr
theorem g_dup (X : Stand p l e R s m args below meth c T locs cells slots) (hx : p.tables.exec = Jvm.exec) {x : Value} (hd : decode c.code pc = .ok (.dup, 1)) (hc : x.category = 1) (hr : Go p e below (T.setTop (mkF m (pc + 1) Ls (x :: x :: st))) P) : Go p e below (T.setTop (mkF m pc Ls (x :: st))) P := Go.mp (fun _ k => XS.dup X.here hx rfl hd rfl hc k) hr
theorem g_pop (X : Stand p l e R s m args below meth c T locs cells slots) (hx : p.tables.exec = Jvm.exec) {x : Value} (hd : decode c.code pc = .ok (.pop, 1)) (hc : x.category = 1) (hr : Go p e below (T.setTop (mkF m (pc + 1) Ls st)) P) : Go p e below (T.setTop (mkF m pc Ls (x :: st))) P := Go.mp (fun _ k => XS.pop X.here hx rfl hd rfl hc k) hr
theorem g_goto (X : Stand p l e R s m args below meth c T locs cells slots) (hx : p.tables.exec = Jvm.exec) {o : Int} (pc' : Nat) (hd : decode c.code pc = .ok (.goto o, 3)) (ho : 0 ≤ (pc : Int) + o) (hp : ((pc : Int) + o).toNat = pc') (hr : Go p e below (T.setTop (mkF m pc' Ls st)) P) : Go p e below (T.setTop (mkF m pc Ls st)) P := Go.mp (fun _ k => XS.goto X.here hx rfl (pc0 := pc) (pc' := pc') rfl hd ho hp k) hr
theorem g_ifYes (X : Stand p l e R s m args below meth c T locs cells slots) (hx : p.tables.exec = Jvm.exec) {cd : ClassFile.Cond} {x : Int32} {o : Int} (pc' : Nat) (hd : decode c.code pc = .ok (.ifCond cd o, 3)) (hc : ifCond.holds cd x = true) (ho : 0 ≤ (pc : Int) + o) (hp : ((pc : Int) + o).toNat = pc') (hr : Go p e below (T.setTop (mkF m pc' Ls st)) P) : Go p e below (T.setTop (mkF m pc Ls (.int x :: st))) P := Go.mp (fun _ k => XS.ifYes X.here hx rfl (pc0 := pc) (pc' := pc') rfl hd rfl hc ho hp k) hr
theorem g_ifNo (X : Stand p l e R s m args below meth c T locs cells slots) (hx : p.tables.exec = Jvm.exec) {cd : ClassFile.Cond} {x : Int32} {o : Int} (hd : decode c.code pc = .ok (.ifCond cd o, 3)) (hc : ifCond.holds cd x = false) (hr : Go p e below (T.setTop (mkF m (pc + 3) Ls st)) P) : Go p e below (T.setTop (mkF m pc Ls (.int x :: st))) P := Go.mp (fun _ k => XS.ifNo X.here hx rfl hd rfl hc k) hr
theorem g_icmpYes (X : Stand p l e R s m args below meth c T locs cells slots) (hx : p.tables.exec = Jvm.exec) {cd : ClassFile.Cond} {x y : Int32} {o : Int} (pc' : Nat) (hd : decode c.code pc = .ok (.if_icmp cd o, 3)) (hc : if_icmp.holds cd x y = true) (ho : 0 ≤ (pc : Int) + o) (hp : ((pc : Int) + o).toNat = pc') (hr : Go p e below (T.setTop (mkF m pc' Ls st)) P) : Go p e below (T.setTop (mkF m pc Ls (.int y :: .int x :: st))) P := Go.mp (fun _ k => XS.icmpYes X.here hx rfl (pc0 := pc) (pc' := pc') rfl hd rfl hc ho hp k) hr
theorem g_icmpNo (X : Stand p l e R s m args below meth c T locs cells slots) (hx : p.tables.exec = Jvm.exec) {cd : ClassFile.Cond} {x y : Int32} {o : Int} (hd : decode c.code pc = .ok (.if_icmp cd o, 3)) (hc : if_icmp.holds cd x y = false) (hr : Go p e below (T.setTop (mkF m (pc + 3) Ls st)) P) : Go p e below (T.setTop (mkF m pc Ls (.int y :: .int x :: st))) P := Go.mp (fun _ k => XS.icmpNo X.here hx rfl hd rfl hc k) hr
theorem g_acmp (X : Stand p l e R s m args below meth c T locs cells slots) (hx : p.tables.exec = Jvm.exec) {cd : ACond} {x y : Value} {o : Int} (pc' : Nat) (same : Bool) (h1 : x.isRef = true) (h2 : y.isRef = true) (hd : decode c.code pc = .ok (.if_acmp cd o, 3)) (hq : decide (x = y) = same) (ho : 0 ≤ (pc : Int) + o) (hp : pc' = if acV cd same = true then ((pc : Int) + o).toNat else pc + 3) (hr : Go p e below (T.setTop (mkF m pc' Ls st)) P) : Go p e below (T.setTop (mkF m pc Ls (y :: x :: st))) P := Go.mp (fun _ k => Jvm.RoadKit.acmp (g := mkF m pc Ls (y :: x :: st)) X hx rfl h1 h2 (pc0 := pc) (pc' := pc') (same := same) rfl hd rfl hq ho hp k) hr
theorem g_irem (X : Stand p l e R s m args below meth c T locs cells slots) (hx : p.tables.exec = Jvm.exec) {x y : Int32} (hd : decode c.code pc = .ok (.irem, 1)) (hy : y ≠ 0) (hr : Go p e below (T.setTop (mkF m (pc + 1) Ls (.int (x % y) :: st))) P) : Go p e below (T.setTop (mkF m pc Ls (.int y :: .int x :: st))) P := Go.mp (fun _ k => iremM X hx rfl hd rfl hy k) hr
end G
section OwnB
variable {p : Program} {l : Launch} {e : Env} {R : Room} {s : State} {m : MethodId} {args : Array Value} {below : List Frame} {meth : Method} {c : Code} {T : State} {locs : List Loc} {cells slots : Nat} {Z : State} {a0 : Array Value} {h : Heap}
theorem own_b2 (x : Int32) : nar .byte (x.toInt8.toInt32) = x.toInt8.toInt32 := by
  show x.toInt8.toInt32.toInt8.toInt32 = _
  simp
/-- a new byte[], and that its class is [B -/
theorem own_newB (X : Stand p l e R s m args below meth c T locs cells slots) (hx : p.tables.exec = Jvm.exec) (hZ : Z.Warmed39 s.vm) (w : (Jvm.Cond.arrayClass .byte).before a0 Z = true) (eT : T.heap = h) {g : JFrame} (hg : g.method = m) (hd : decode c.code g.pc = .ok (.newarray .byte, 2)) {n : Int32} {rest : List Value} (hs : g.stack = .int n :: rest)
    (hn : ¬ n < 0) {cap : Nat} (hcap : n.toNatClampNeg ≤ cap) (hb : cap * 8 ≤ 536870912) (hc : cells + 1 ≤ R.cells) (hl : slots + cap ≤ R.slots) :
    ∃ T' h' cA, Stand p l e R s m args below meth c T' locs (cells + 1) (slots + cap) ∧ T'.heap = h' ∧ Ext h h' ∧ Arr Z h' h.size (newA cA .byte n) .byte ∧ Exa Z h' h.size "[B" ∧
      ∀ target, Steps p.tables e below (T'.setTop { g with pc := g.pc + 2, stack := .ref h.size :: rest }) target → Steps p.tables e below (T.setTop g) target := by
  obtain ⟨cA, kA, comp, f1, f2, f3, X', st⟩ := X.newarrayPrim hx (atype := .byte) (mvA hZ w) hg hd hs hn (by rw [show componentBytes (newarray.typeOf .byte) = 1 from rfl]; omega) hc (by omega)
  subst eT
  have g1 : Z.vm.findClass "[B" = some cA := by rw [← hZ.alike.findClass]; exact f1
  obtain ⟨kZ, z1, -⟩ := Vm.findClass_spec g1
  obtain ⟨k', z2, z3⟩ := hZ.alike.2.2 _ _ z1
  cases f2.symm.trans z2
  have hk : kZ.kind = .array comp .byte := by rw [z3] at f3; exact f3
  have hN : (T.heap.push (newA cA .byte n))[T.heap.size]? = some (newA cA .byte n) := by simp
  exact ⟨_, T.heap.push (newA cA .byte n), cA, X'.more (Nat.le_refl _) (by omega), rfl, ext_of fun a q => (Array.getElem?_push_lt q).trans (Array.getElem?_eq_getElem q).symm, ⟨hN, ⟨fun _ z => (by cases z), kZ, z1, comp, hk⟩, fun z => (by cases z)⟩, ⟨_, kZ, hN, g1, z1, rfl, fun q => by rw [hk] at q; cases q⟩, st⟩
theorem own_fitC {a : Addr} {cl : Cell} {ty : FieldType} {vs : List Value} {dv : Value} (A : Arr Z h a cl ty) (H : Has cl vs dv) (G : ∀ i, i < cl.slots.size → fits ty (vs.getD i dv) = true) : FitC Z cl := fun i v hv => by
  have hi : i < cl.slots.size := (Array.getElem?_eq_some_iff.mp hv).1
  have e1 : v = vs.getD i dv := Option.some.inj (hv.symm.trans (H i hi))
  obtain ⟨-, k, hk, comp, hkind⟩ := A.2.1
  have e2 : Z.slotType? cl.cls .none i = some ty := by simp [State.slotType?, hk, hkind]
  have := G i hi
  simpa [State.fitsSlot, e2, e1] using this
end OwnB
section OwnA
variable {Z : State} {h h' : Heap} {a b : Addr} {sl : Nat} {w : Value} {ws : List Addr} {ty : FieldType} {n : Nat} {C : String}
/-- an array of which the length alone is known -/
def ArU (Z : State) (h : Heap) (a : Addr) (ty : FieldType) (n : Nat) : Prop := ∃ c : Cell, Arr Z h a c ty ∧ c.slots.size = n
theorem ArU.ext (E : Ext h h') (F : ArU Z h a ty n) : ArU Z h' a ty n := by obtain ⟨c, A, q⟩ := F; exact ⟨c, A.ext E, q⟩
theorem ArU.other (W : Wr h h' b sl w) (F : ArU Z h a ty n) (q : a ≠ b) : ArU Z h' a ty n := by obtain ⟨c, A, r⟩ := F; exact ⟨c, A.other W q, r⟩
theorem ArU.same (W : Wr h h' a sl w) (F : ArU Z h a ty n) : ArU Z h' a ty n := by obtain ⟨c, A, r⟩ := F; exact ⟨_, A.same W, (sz_set _ _ _).trans r⟩
theorem ArU.keep (F : ArU Z h a ty n) (K : Keep h h' ws) (q : a ∉ ws) : ArU Z h' a ty n := by obtain ⟨c, A, r⟩ := F; exact ⟨c, ⟨K.2.1 a c A.1 q, A.2⟩, r⟩
theorem ArU.lt (F : ArU Z h a ty n) : a < h.size := by obtain ⟨c, A, -⟩ := F; exact A.lt
theorem ArU.of {k : ClassId} {z : Int32} {vs : List Value} {dv : Value} (V : Arv Z h a k ty z vs dv) (hz : z.toNatClampNeg = n) : ArU Z h a ty n := by obtain ⟨c, A, -, q, -⟩ := V; exact ⟨c, A, q.trans hz⟩
/-- the same, of objects of class C -/
def ArO (Z : State) (h : Heap) (a : Addr) (C : String) (n : Nat) : Prop := ∃ c : Cell, Arr Z h a c (.object C) ∧ c.slots.size = n ∧ Ovr Z c.cls C
theorem ArO.ext (E : Ext h h') (F : ArO Z h a C n) : ArO Z h' a C n := by obtain ⟨c, A, q⟩ := F; exact ⟨c, A.ext E, q⟩
theorem ArO.other (W : Wr h h' b sl w) (F : ArO Z h a C n) (q : a ≠ b) : ArO Z h' a C n := by obtain ⟨c, A, r⟩ := F; exact ⟨c, A.other W q, r⟩
theorem ArO.same (W : Wr h h' a sl w) (F : ArO Z h a C n) : ArO Z h' a C n := by obtain ⟨c, A, r, O⟩ := F; exact ⟨_, A.same W, (sz_set _ _ _).trans r, O⟩
theorem ArO.keep (F : ArO Z h a C n) (K : Keep h h' ws) (q : a ∉ ws) : ArO Z h' a C n := by obtain ⟨c, A, r⟩ := F; exact ⟨c, ⟨K.2.1 a c A.1 q, A.2⟩, r⟩
theorem ArO.lt (F : ArO Z h a C n) : a < h.size := by obtain ⟨c, A, -⟩ := F; exact A.lt
theorem ArO.of {k : ClassId} {z : Int32} {vs : List Value} {dv : Value} (V : Arv Z h a k (.object C) z vs dv) (O : Ovr Z k C) (hz : z.toNatClampNeg = n) : ArO Z h a C n := by obtain ⟨c, A, q0, q, -⟩ := V; exact ⟨c, A, q.trans hz, by rw [q0]; exact O⟩
end OwnA
def R_HB (Z : State) (h : Heap) (a : Addr) (v0 v1 v2 v3 v4 v5 v6 v7 v8 v9 v10 v11 : Value) : Prop := Exa Z h a "com/example/watermark/watermark/store/HeldBatches" ∧ Fld Z h a "com/example/watermark/watermark/store/HeldBatches" "index" "Ljava/lang/Object;" v0 ∧ Fld Z h a "com/example/watermark/watermark/store/HeldBatches" "locks" "[Ljava/lang/Object;" v1 ∧ Fld Z h a "com/example/watermark/watermark/store/HeldBatches" "counts" "[J" v2 ∧ Fld Z h a "com/example/watermark/watermark/store/HeldBatches" "chainHeads" "[I" v3 ∧ Fld Z h a "com/example/watermark/watermark/store/HeldBatches" "nextInChain" "[I" v4 ∧ Fld Z h a "com/example/watermark/watermark/store/HeldBatches" "hashes" "[I" v5 ∧ Fld Z h a "com/example/watermark/watermark/store/HeldBatches" "idStarts" "[I" v6 ∧ Fld Z h a "com/example/watermark/watermark/store/HeldBatches" "idLengths" "[B" v7 ∧ Fld Z h a "com/example/watermark/watermark/store/HeldBatches" "idBytes" "[B" v8 ∧ Fld Z h a "com/example/watermark/watermark/store/HeldBatches" "freeSlots" "[I" v9 ∧ Fld Z h a "com/example/watermark/watermark/store/HeldBatches" "fields" "Lcom/example/watermark/watermark/store/HeldBatches$Fields;" v10 ∧ Fld Z h a "com/example/watermark/watermark/store/HeldBatches" "heap" "Lcom/example/watermark/watermark/store/ItemHeap;" v11
theorem R_HB_ext {Z : State} {h h' : Heap} {a : Addr} {v0 v1 v2 v3 v4 v5 v6 v7 v8 v9 v10 v11 : Value} (E : Ext h h') (F : R_HB Z h a v0 v1 v2 v3 v4 v5 v6 v7 v8 v9 v10 v11) : R_HB Z h' a v0 v1 v2 v3 v4 v5 v6 v7 v8 v9 v10 v11 := ⟨Exa.ext E F.1, Fld.ext E F.2.1, Fld.ext E F.2.2.1, Fld.ext E F.2.2.2.1, Fld.ext E F.2.2.2.2.1, Fld.ext E F.2.2.2.2.2.1, Fld.ext E F.2.2.2.2.2.2.1, Fld.ext E F.2.2.2.2.2.2.2.1, Fld.ext E F.2.2.2.2.2.2.2.2.1, Fld.ext E F.2.2.2.2.2.2.2.2.2.1, Fld.ext E F.2.2.2.2.2.2.2.2.2.2.1, Fld.ext E F.2.2.2.2.2.2.2.2.2.2.2.1, Fld.ext E F.2.2.2.2.2.2.2.2.2.2.2.2⟩
theorem R_HB_other {Z : State} {h h' : Heap} {a : Addr} {v0 v1 v2 v3 v4 v5 v6 v7 v8 v9 v10 v11 : Value} {b : Addr} {sl : Nat} {w : Value} (W : Wr h h' b sl w) (F : R_HB Z h a v0 v1 v2 v3 v4 v5 v6 v7 v8 v9 v10 v11) (q : a ≠ b) : R_HB Z h' a v0 v1 v2 v3 v4 v5 v6 v7 v8 v9 v10 v11 := ⟨Exa.wr W F.1, Fld.other W F.2.1 (Or.inl q), Fld.other W F.2.2.1 (Or.inl q), Fld.other W F.2.2.2.1 (Or.inl q), Fld.other W F.2.2.2.2.1 (Or.inl q), Fld.other W F.2.2.2.2.2.1 (Or.inl q), Fld.other W F.2.2.2.2.2.2.1 (Or.inl q), Fld.other W F.2.2.2.2.2.2.2.1 (Or.inl q), Fld.other W F.2.2.2.2.2.2.2.2.1 (Or.inl q), Fld.other W F.2.2.2.2.2.2.2.2.2.1 (Or.inl q), Fld.other W F.2.2.2.2.2.2.2.2.2.2.1 (Or.inl q), Fld.other W F.2.2.2.2.2.2.2.2.2.2.2.1 (Or.inl q), Fld.other W F.2.2.2.2.2.2.2.2.2.2.2.2 (Or.inl q)⟩
theorem R_HB_keep {Z : State} {h h' : Heap} {a : Addr} {v0 v1 v2 v3 v4 v5 v6 v7 v8 v9 v10 v11 : Value} {ws : List Addr} (F : R_HB Z h a v0 v1 v2 v3 v4 v5 v6 v7 v8 v9 v10 v11) (K : Keep h h' ws) (q : a ∉ ws) : R_HB Z h' a v0 v1 v2 v3 v4 v5 v6 v7 v8 v9 v10 v11 := ⟨Exa.keep F.1 K, Fld.keep F.2.1 K q, Fld.keep F.2.2.1 K q, Fld.keep F.2.2.2.1 K q, Fld.keep F.2.2.2.2.1 K q, Fld.keep F.2.2.2.2.2.1 K q, Fld.keep F.2.2.2.2.2.2.1 K q, Fld.keep F.2.2.2.2.2.2.2.1 K q, Fld.keep F.2.2.2.2.2.2.2.2.1 K q, Fld.keep F.2.2.2.2.2.2.2.2.2.1 K q, Fld.keep F.2.2.2.2.2.2.2.2.2.2.1 K q, Fld.keep F.2.2.2.2.2.2.2.2.2.2.2.1 K q, Fld.keep F.2.2.2.2.2.2.2.2.2.2.2.2 K q⟩
theorem R_HB_set_index {Z : State} {h h' : Heap} {a : Addr} {v0 v1 v2 v3 v4 v5 v6 v7 v8 v9 v10 v11 : Value} {w : Value} {a0 : Array Value} (hw : ∀ d ∈ tables_1, d.before a0 Z = true) (W : Wr h h' a (Jvm.RoadKit.slotOf Z "com/example/watermark/watermark/store/HeldBatches" "index" "Ljava/lang/Object;") w) (F : R_HB Z h a v0 v1 v2 v3 v4 v5 v6 v7 v8 v9 v10 v11) : R_HB Z h' a w v1 v2 v3 v4 v5 v6 v7 v8 v9 v10 v11 := ⟨Exa.wr W F.1, Fld.same W F.2.1, Fld.other W F.2.2.1 (Or.inr (slot_ne (Or.inr (hw _ (List.mem_of_getElem? (i := 16) rfl))) (Or.inr (hw _ (List.mem_of_getElem? (i := 13) rfl))) (by decide) (t := (FieldType.array (FieldType.object "java/lang/Object"))) (t' := (FieldType.object "java/lang/Object")) (by decide) (by decide))), Fld.other W F.2.2.2.1 (Or.inr (slot_ne (Or.inr (hw _ (List.mem_of_getElem? (i := 41) rfl))) (Or.inr (hw _ (List.mem_of_getElem? (i := 13) rfl))) (by decide) (t := (FieldType.array FieldType.long)) (t' := (FieldType.object "java/lang/Object")) (by decide) (by decide))), Fld.other W F.2.2.2.2.1 (Or.inr (slot_ne (Or.inl (hw _ (List.mem_of_getElem? (i := 44) rfl))) (Or.inr (hw _ (List.mem_of_getElem? (i := 13) rfl))) (by decide) (t := (FieldType.array FieldType.int)) (t' := (FieldType.object "java/lang/Object")) (by decide) (by decide))), Fld.other W F.2.2.2.2.2.1 (Or.inr (slot_ne (Or.inl (hw _ (List.mem_of_getElem? (i := 46) rfl))) (Or.inr (hw _ (List.mem_of_getElem? (i := 13) rfl))) (by decide) (t := (FieldType.array FieldType.int)) (t' := (FieldType.object "java/lang/Object")) (by decide) (by decide))), Fld.other W F.2.2.2.2.2.2.1 (Or.inr (slot_ne (Or.inl (hw _ (List.mem_of_getElem? (i := 48) rfl))) (Or.inr (hw _ (List.mem_of_getElem? (i := 13) rfl))) (by decide) (t := (FieldType.array FieldType.int)) (t' := (FieldType.object "java/lang/Object")) (by decide) (by decide))), Fld.other W F.2.2.2.2.2.2.2.1 (Or.inr (slot_ne (Or.inl (hw _ (List.mem_of_getElem? (i := 50) rfl))) (Or.inr (hw _ (List.mem_of_getElem? (i := 13) rfl))) (by decide) (t := (FieldType.array FieldType.int)) (t' := (FieldType.object "java/lang/Object")) (by decide) (by decide))), Fld.other W F.2.2.2.2.2.2.2.2.1 (Or.inr (slot_ne (Or.inl (hw _ (List.mem_of_getElem? (i := 53) rfl))) (Or.inr (hw _ (List.mem_of_getElem? (i := 13) rfl))) (by decide) (t := (FieldType.array FieldType.byte)) (t' := (FieldType.object "java/lang/Object")) (by decide) (by decide))), Fld.other W F.2.2.2.2.2.2.2.2.2.1 (Or.inr (slot_ne (Or.inl (hw _ (List.mem_of_getElem? (i := 55) rfl))) (Or.inr (hw _ (List.mem_of_getElem? (i := 13) rfl))) (by decide) (t := (FieldType.array FieldType.byte)) (t' := (FieldType.object "java/lang/Object")) (by decide) (by decide))), Fld.other W F.2.2.2.2.2.2.2.2.2.2.1 (Or.inr (slot_ne (Or.inl (hw _ (List.mem_of_getElem? (i := 57) rfl))) (Or.inr (hw _ (List.mem_of_getElem? (i := 13) rfl))) (by decide) (t := (FieldType.array FieldType.int)) (t' := (FieldType.object "java/lang/Object")) (by decide) (by decide))), Fld.other W F.2.2.2.2.2.2.2.2.2.2.2.1 (Or.inr (slot_ne (Or.inl (hw _ (List.mem_of_getElem? (i := 89) rfl))) (Or.inr (hw _ (List.mem_of_getElem? (i := 13) rfl))) (by decide) (t := (FieldType.object "com/example/watermark/watermark/store/HeldBatches$Fields")) (t' := (FieldType.object "java/lang/Object")) (by decide) (by decide))), Fld.other W F.2.2.2.2.2.2.2.2.2.2.2.2 (Or.inr (slot_ne (Or.inr (hw _ (List.mem_of_getElem? (i := 91) rfl))) (Or.inr (hw _ (List.mem_of_getElem? (i := 13) rfl))) (by decide) (t := (FieldType.object "com/example/watermark/watermark/store/ItemHeap")) (t' := (FieldType.object "java/lang/Object")) (by decide) (by decide)))⟩
theorem R_HB_set_locks {Z : State} {h h' : Heap} {a : Addr} {v0 v1 v2 v3 v4 v5 v6 v7 v8 v9 v10 v11 : Value} {w : Value} {a0 : Array Value} (hw : ∀ d ∈ tables_1, d.before a0 Z = true) (W : Wr h h' a (Jvm.RoadKit.slotOf Z "com/example/watermark/watermark/store/HeldBatches" "locks" "[Ljava/lang/Object;") w) (F : R_HB Z h a v0 v1 v2 v3 v4 v5 v6 v7 v8 v9 v10 v11) : R_HB Z h' a v0 w v2 v3 v4 v5 v6 v7 v8 v9 v10 v11 := ⟨Exa.wr W F.1, Fld.other W F.2.1 (Or.inr (slot_ne (Or.inr (hw _ (List.mem_of_getElem? (i := 13) rfl))) (Or.inr (hw _ (List.mem_of_getElem? (i := 16) rfl))) (by decide) (t := (FieldType.object "java/lang/Object")) (t' := (FieldType.array (FieldType.object "java/lang/Object"))) (by decide) (by decide))), Fld.same W F.2.2.1, Fld.other W F.2.2.2.1 (Or.inr (slot_ne (Or.inr (hw _ (List.mem_of_getElem? (i := 41) rfl))) (Or.inr (hw _ (List.mem_of_getElem? (i := 16) rfl))) (by decide) (t := (FieldType.array FieldType.long)) (t' := (FieldType.array (FieldType.object "java/lang/Object"))) (by decide) (by decide))), Fld.other W F.2.2.2.2.1 (Or.inr (slot_ne (Or.inl (hw _ (List.mem_of_getElem? (i := 44) rfl))) (Or.inr (hw _ (List.mem_of_getElem? (i := 16) rfl))) (by decide) (t := (FieldType.array FieldType.int)) (t' := (FieldType.array (FieldType.object "java/lang/Object"))) (by decide) (by decide))), Fld.other W F.2.2.2.2.2.1 (Or.inr (slot_ne (Or.inl (hw _ (List.mem_of_getElem? (i := 46) rfl))) (Or.inr (hw _ (List.mem_of_getElem? (i := 16) rfl))) (by decide) (t := (FieldType.array FieldType.int)) (t' := (FieldType.array (FieldType.object "java/lang/Object"))) (by decide) (by decide))), Fld.other W F.2.2.2.2.2.2.1 (Or.inr (slot_ne (Or.inl (hw _ (List.mem_of_getElem? (i := 48) rfl))) (Or.inr (hw _ (List.mem_of_getElem? (i := 16) rfl))) (by decide) (t := (FieldType.array FieldType.int)) (t' := (FieldType.array (FieldType.object "java/lang/Object"))) (by decide) (by decide))), Fld.other W F.2.2.2.2.2.2.2.1 (Or.inr (slot_ne (Or.inl (hw _ (List.mem_of_getElem? (i := 50) rfl))) (Or.inr (hw _ (List.mem_of_getElem? (i := 16) rfl))) (by decide) (t := (FieldType.array FieldType.int)) (t' := (FieldType.array (FieldType.object "java/lang/Object"))) (by decide) (by decide))), Fld.other W F.2.2.2.2.2.2.2.2.1 (Or.inr (slot_ne (Or.inl (hw _ (List.mem_of_getElem? (i := 53) rfl))) (Or.inr (hw _ (List.mem_of_getElem? (i := 16) rfl))) (by decide) (t := (FieldType.array FieldType.byte)) (t' := (FieldType.array (FieldType.object "java/lang/Object"))) (by decide) (by decide))), Fld.other W F.2.2.2.2.2.2.2.2.2.1 (Or.inr (slot_ne (Or.inl (hw _ (List.mem_of_getElem? (i := 55) rfl))) (Or.inr (hw _ (List.mem_of_getElem? (i := 16) rfl))) (by decide) (t := (FieldType.array FieldType.byte)) (t' := (FieldType.array (FieldType.object "java/lang/Object"))) (by decide) (by decide))), Fld.other W F.2.2.2.2.2.2.2.2.2.2.1 (Or.inr (slot_ne (Or.inl (hw _ (List.mem_of_getElem? (i := 57) rfl))) (Or.inr (hw _ (List.mem_of_getElem? (i := 16) rfl))) (by decide) (t := (FieldType.array FieldType.int)) (t' := (FieldType.array (FieldType.object "java/lang/Object"))) (by decide) (by decide))), Fld.other W F.2.2.2.2.2.2.2.2.2.2.2.1 (Or.inr (slot_ne (Or.inl (hw _ (List.mem_of_getElem? (i := 89) rfl))) (Or.inr (hw _ (List.mem_of_getElem? (i := 16) rfl))) (by decide) (t := (FieldType.object "com/example/watermark/watermark/store/HeldBatches$Fields")) (t' := (FieldType.array (FieldType.object "java/lang/Object"))) (by decide) (by decide))), Fld.other W F.2.2.2.2.2.2.2.2.2.2.2.2 (Or.inr (slot_ne (Or.inr (hw _ (List.mem_of_getElem? (i := 91) rfl))) (Or.inr (hw _ (List.mem_of_getElem? (i := 16) rfl))) (by decide) (t := (FieldType.object "com/example/watermark/watermark/store/ItemHeap")) (t' := (FieldType.array (FieldType.object "java/lang/Object"))) (by decide) (by decide)))⟩
theorem R_HB_set_counts {Z : State} {h h' : Heap} {a : Addr} {v0 v1 v2 v3 v4 v5 v6 v7 v8 v9 v10 v11 : Value} {w : Value} {a0 : Array Value} (hw : ∀ d ∈ tables_1, d.before a0 Z = true) (W : Wr h h' a (Jvm.RoadKit.slotOf Z "com/example/watermark/watermark/store/HeldBatches" "counts" "[J") w) (F : R_HB Z h a v0 v1 v2 v3 v4 v5 v6 v7 v8 v9 v10 v11) : R_HB Z h' a v0 v1 w v3 v4 v5 v6 v7 v8 v9 v10 v11 := ⟨Exa.wr W F.1, Fld.other W F.2.1 (Or.inr (slot_ne (Or.inr (hw _ (List.mem_of_getElem? (i := 13) rfl))) (Or.inr (hw _ (List.mem_of_getElem? (i := 41) rfl))) (by decide) (t := (FieldType.object "java/lang/Object")) (t' := (FieldType.array FieldType.long)) (by decide) (by decide))), Fld.other W F.2.2.1 (Or.inr (slot_ne (Or.inr (hw _ (List.mem_of_getElem? (i := 16) rfl))) (Or.inr (hw _ (List.mem_of_getElem? (i := 41) rfl))) (by decide) (t := (FieldType.array (FieldType.object "java/lang/Object"))) (t' := (FieldType.array FieldType.long)) (by decide) (by decide))), Fld.same W F.2.2.2.1, Fld.other W F.2.2.2.2.1 (Or.inr (slot_ne (Or.inl (hw _ (List.mem_of_getElem? (i := 44) rfl))) (Or.inr (hw _ (List.mem_of_getElem? (i := 41) rfl))) (by decide) (t := (FieldType.array FieldType.int)) (t' := (FieldType.array FieldType.long)) (by decide) (by decide))), Fld.other W F.2.2.2.2.2.1 (Or.inr (slot_ne (Or.inl (hw _ (List.mem_of_getElem? (i := 46) rfl))) (Or.inr (hw _ (List.mem_of_getElem? (i := 41) rfl))) (by decide) (t := (FieldType.array FieldType.int)) (t' := (FieldType.array FieldType.long)) (by decide) (by decide))), Fld.other W F.2.2.2.2.2.2.1 (Or.inr (slot_ne (Or.inl (hw _ (List.mem_of_getElem? (i := 48) rfl))) (Or.inr (hw _ (List.mem_of_getElem? (i := 41) rfl))) (by decide) (t := (FieldType.array FieldType.int)) (t' := (FieldType.array FieldType.long)) (by decide) (by decide))), Fld.other W F.2.2.2.2.2.2.2.1 (Or.inr (slot_ne (Or.inl (hw _ (List.mem_of_getElem? (i := 50) rfl))) (Or.inr (hw _ (List.mem_of_getElem? (i := 41) rfl))) (by decide) (t := (FieldType.array FieldType.int)) (t' := (FieldType.array FieldType.long)) (by decide) (by decide))), Fld.other W F.2.2.2.2.2.2.2.2.1 (Or.inr (slot_ne (Or.inl (hw _ (List.mem_of_getElem? (i := 53) rfl))) (Or.inr (hw _ (List.mem_of_getElem? (i := 41) rfl))) (by decide) (t := (FieldType.array FieldType.byte)) (t' := (FieldType.array FieldType.long)) (by decide) (by decide))), Fld.other W F.2.2.2.2.2.2.2.2.2.1 (Or.inr (slot_ne (Or.inl (hw _ (List.mem_of_getElem? (i := 55) rfl))) (Or.inr (hw _ (List.mem_of_getElem? (i := 41) rfl))) (by decide) (t := (FieldType.array FieldType.byte)) (t' := (FieldType.array FieldType.long)) (by decide) (by decide))), Fld.other W F.2.2.2.2.2.2.2.2.2.2.1 (Or.inr (slot_ne (Or.inl (hw _ (List.mem_of_getElem? (i := 57) rfl))) (Or.inr (hw _ (List.mem_of_getElem? (i := 41) rfl))) (by decide) (t := (FieldType.array FieldType.int)) (t' := (FieldType.array FieldType.long)) (by decide) (by decide))), Fld.other W F.2.2.2.2.2.2.2.2.2.2.2.1 (Or.inr (slot_ne (Or.inl (hw _ (List.mem_of_getElem? (i := 89) rfl))) (Or.inr (hw _ (List.mem_of_getElem? (i := 41) rfl))) (by decide) (t := (FieldType.object "com/example/watermark/watermark/store/HeldBatches$Fields")) (t' := (FieldType.array FieldType.long)) (by decide) (by decide))), Fld.other W F.2.2.2.2.2.2.2.2.2.2.2.2 (Or.inr (slot_ne (Or.inr (hw _ (List.mem_of_getElem? (i := 91) rfl))) (Or.inr (hw _ (List.mem_of_getElem? (i := 41) rfl))) (by decide) (t := (FieldType.object "com/example/watermark/watermark/store/ItemHeap")) (t' := (FieldType.array FieldType.long)) (by decide) (by decide)))⟩
theorem R_HB_set_chainHeads {Z : State} {h h' : Heap} {a : Addr} {v0 v1 v2 v3 v4 v5 v6 v7 v8 v9 v10 v11 : Value} {w : Value} {a0 : Array Value} (hw : ∀ d ∈ tables_1, d.before a0 Z = true) (W : Wr h h' a (Jvm.RoadKit.slotOf Z "com/example/watermark/watermark/store/HeldBatches" "chainHeads" "[I") w) (F : R_HB Z h a v0 v1 v2 v3 v4 v5 v6 v7 v8 v9 v10 v11) : R_HB Z h' a v0 v1 v2 w v4 v5 v6 v7 v8 v9 v10 v11 := ⟨Exa.wr W F.1, Fld.other W F.2.1 (Or.inr (slot_ne (Or.inr (hw _ (List.mem_of_getElem? (i := 13) rfl))) (Or.inl (hw _ (List.mem_of_getElem? (i := 44) rfl))) (by decide) (t := (FieldType.object "java/lang/Object")) (t' := (FieldType.array FieldType.int)) (by decide) (by decide))), Fld.other W F.2.2.1 (Or.inr (slot_ne (Or.inr (hw _ (List.mem_of_getElem? (i := 16) rfl))) (Or.inl (hw _ (List.mem_of_getElem? (i := 44) rfl))) (by decide) (t := (FieldType.array (FieldType.object "java/lang/Object"))) (t' := (FieldType.array FieldType.int)) (by decide) (by decide))), Fld.other W F.2.2.2.1 (Or.inr (slot_ne (Or.inr (hw _ (List.mem_of_getElem? (i := 41) rfl))) (Or.inl (hw _ (List.mem_of_getElem? (i := 44) rfl))) (by decide) (t := (FieldType.array FieldType.long)) (t' := (FieldType.array FieldType.int)) (by decide) (by decide))), Fld.same W F.2.2.2.2.1, Fld.other W F.2.2.2.2.2.1 (Or.inr (slot_ne (Or.inl (hw _ (List.mem_of_getElem? (i := 46) rfl))) (Or.inl (hw _ (List.mem_of_getElem? (i := 44) rfl))) (by decide) (t := (FieldType.array FieldType.int)) (t' := (FieldType.array FieldType.int)) (by decide) (by decide))), Fld.other W F.2.2.2.2.2.2.1 (Or.inr (slot_ne (Or.inl (hw _ (List.mem_of_getElem? (i := 48) rfl))) (Or.inl (hw _ (List.mem_of_getElem? (i := 44) rfl))) (by decide) (t := (FieldType.array FieldType.int)) (t' := (FieldType.array FieldType.int)) (by decide) (by decide))), Fld.other W F.2.2.2.2.2.2.2.1 (Or.inr (slot_ne (Or.inl (hw _ (List.mem_of_getElem? (i := 50) rfl))) (Or.inl (hw _ (List.mem_of_getElem? (i := 44) rfl))) (by decide) (t := (FieldType.array FieldType.int)) (t' := (FieldType.array FieldType.int)) (by decide) (by decide))), Fld.other W F.2.2.2.2.2.2.2.2.1 (Or.inr (slot_ne (Or.inl (hw _ (List.mem_of_getElem? (i := 53) rfl))) (Or.inl (hw _ (List.mem_of_getElem? (i := 44) rfl))) (by decide) (t := (FieldType.array FieldType.byte)) (t' := (FieldType.array FieldType.int)) (by decide) (by decide))), Fld.other W F.2.2.2.2.2.2.2.2.2.1 (Or.inr (slot_ne (Or.inl (hw _ (List.mem_of_getElem? (i := 55) rfl))) (Or.inl (hw _ (List.mem_of_getElem? (i := 44) rfl))) (by decide) (t := (FieldType.array FieldType.byte)) (t' := (FieldType.array FieldType.int)) (by decide) (by decide))), Fld.other W F.2.2.2.2.2.2.2.2.2.2.1 (Or.inr (slot_ne (Or.inl (hw _ (List.mem_of_getElem? (i := 57) rfl))) (Or.inl (hw _ (List.mem_of_getElem? (i := 44) rfl))) (by decide) (t := (FieldType.array FieldType.int)) (t' := (FieldType.array FieldType.int)) (by decide) (by decide))), Fld.other W F.2.2.2.2.2.2.2.2.2.2.2.1 (Or.inr (slot_ne (Or.inl (hw _ (List.mem_of_getElem? (i := 89) rfl))) (Or.inl (hw _ (List.mem_of_getElem? (i := 44) rfl))) (by decide) (t := (FieldType.object "com/example/watermark/watermark/store/HeldBatches$Fields")) (t' := (FieldType.array FieldType.int)) (by decide) (by decide))), Fld.other W F.2.2.2.2.2.2.2.2.2.2.2.2 (Or.inr (slot_ne (Or.inr (hw _ (List.mem_of_getElem? (i := 91) rfl))) (Or.inl (hw _ (List.mem_of_getElem? (i := 44) rfl))) (by decide) (t := (FieldType.object "com/example/watermark/watermark/store/ItemHeap")) (t' := (FieldType.array FieldType.int)) (by decide) (by decide)))⟩
theorem R_HB_set_nextInChain {Z : State} {h h' : Heap} {a : Addr} {v0 v1 v2 v3 v4 v5 v6 v7 v8 v9 v10 v11 : Value} {w : Value} {a0 : Array Value} (hw : ∀ d ∈ tables_1, d.before a0 Z = true) (W : Wr h h' a (Jvm.RoadKit.slotOf Z "com/example/watermark/watermark/store/HeldBatches" "nextInChain" "[I") w) (F : R_HB Z h a v0 v1 v2 v3 v4 v5 v6 v7 v8 v9 v10 v11) : R_HB Z h' a v0 v1 v2 v3 w v5 v6 v7 v8 v9 v10 v11 := ⟨Exa.wr W F.1, Fld.other W F.2.1 (Or.inr (slot_ne (Or.inr (hw _ (List.mem_of_getElem? (i := 13) rfl))) (Or.inl (hw _ (List.mem_of_getElem? (i := 46) rfl))) (by decide) (t := (FieldType.object "java/lang/Object")) (t' := (FieldType.array FieldType.int)) (by decide) (by decide))), Fld.other W F.2.2.1 (Or.inr (slot_ne (Or.inr (hw _ (List.mem_of_getElem? (i := 16) rfl))) (Or.inl (hw _ (List.mem_of_getElem? (i := 46) rfl))) (by decide) (t := (FieldType.array (FieldType.object "java/lang/Object"))) (t' := (FieldType.array FieldType.int)) (by decide) (by decide))), Fld.other W F.2.2.2.1 (Or.inr (slot_ne (Or.inr (hw _ (List.mem_of_getElem? (i := 41) rfl))) (Or.inl (hw _ (List.mem_of_getElem? (i := 46) rfl))) (by decide) (t := (FieldType.array FieldType.long)) (t' := (FieldType.array FieldType.int)) (by decide) (by decide))), Fld.other W F.2.2.2.2.1 (Or.inr (slot_ne (Or.inl (hw _ (List.mem_of_getElem? (i := 44) rfl))) (Or.inl (hw _ (List.mem_of_getElem? (i := 46) rfl))) (by decide) (t := (FieldType.array FieldType.int)) (t' := (FieldType.array FieldType.int)) (by decide) (by decide))), Fld.same W F.2.2.2.2.2.1, Fld.other W F.2.2.2.2.2.2.1 (Or.inr (slot_ne (Or.inl (hw _ (List.mem_of_getElem? (i := 48) rfl))) (Or.inl (hw _ (List.mem_of_getElem? (i := 46) rfl))) (by decide) (t := (FieldType.array FieldType.int)) (t' := (FieldType.array FieldType.int)) (by decide) (by decide))), Fld.other W F.2.2.2.2.2.2.2.1 (Or.inr (slot_ne (Or.inl (hw _ (List.mem_of_getElem? (i := 50) rfl))) (Or.inl (hw _ (List.mem_of_getElem? (i := 46) rfl))) (by decide) (t := (FieldType.array FieldType.int)) (t' := (FieldType.array FieldType.int)) (by decide) (by decide))), Fld.other W F.2.2.2.2.2.2.2.2.1 (Or.inr (slot_ne (Or.inl (hw _ (List.mem_of_getElem? (i := 53) rfl))) (Or.inl (hw _ (List.mem_of_getElem? (i := 46) rfl))) (by decide) (t := (FieldType.array FieldType.byte)) (t' := (FieldType.array FieldType.int)) (by decide) (by decide))), Fld.other W F.2.2.2.2.2.2.2.2.2.1 (Or.inr (slot_ne (Or.inl (hw _ (List.mem_of_getElem? (i := 55) rfl))) (Or.inl (hw _ (List.mem_of_getElem? (i := 46) rfl))) (by decide) (t := (FieldType.array FieldType.byte)) (t' := (FieldType.array FieldType.int)) (by decide) (by decide))), Fld.other W F.2.2.2.2.2.2.2.2.2.2.1 (Or.inr (slot_ne (Or.inl (hw _ (List.mem_of_getElem? (i := 57) rfl))) (Or.inl (hw _ (List.mem_of_getElem? (i := 46) rfl))) (by decide) (t := (FieldType.array FieldType.int)) (t' := (FieldType.array FieldType.int)) (by decide) (by decide))), Fld.other W F.2.2.2.2.2.2.2.2.2.2.2.1 (Or.inr (slot_ne (Or.inl (hw _ (List.mem_of_getElem? (i := 89) rfl))) (Or.inl (hw _ (List.mem_of_getElem? (i := 46) rfl))) (by decide) (t := (FieldType.object "com/example/watermark/watermark/store/HeldBatches$Fields")) (t' := (FieldType.array FieldType.int)) (by decide) (by decide))), Fld.other W F.2.2.2.2.2.2.2.2.2.2.2.2 (Or.inr (slot_ne (Or.inr (hw _ (List.mem_of_getElem? (i := 91) rfl))) (Or.inl (hw _ (List.mem_of_getElem? (i := 46) rfl))) (by decide) (t := (FieldType.object "com/example/watermark/watermark/store/ItemHeap")) (t' := (FieldType.array FieldType.int)) (by decide) (by decide)))⟩
theorem R_HB_set_hashes {Z : State} {h h' : Heap} {a : Addr} {v0 v1 v2 v3 v4 v5 v6 v7 v8 v9 v10 v11 : Value} {w : Value} {a0 : Array Value} (hw : ∀ d ∈ tables_1, d.before a0 Z = true) (W : Wr h h' a (Jvm.RoadKit.slotOf Z "com/example/watermark/watermark/store/HeldBatches" "hashes" "[I") w) (F : R_HB Z h a v0 v1 v2 v3 v4 v5 v6 v7 v8 v9 v10 v11) : R_HB Z h' a v0 v1 v2 v3 v4 w v6 v7 v8 v9 v10 v11 := ⟨Exa.wr W F.1, Fld.other W F.2.1 (Or.inr (slot_ne (Or.inr (hw _ (List.mem_of_getElem? (i := 13) rfl))) (Or.inl (hw _ (List.mem_of_getElem? (i := 48) rfl))) (by decide) (t := (FieldType.object "java/lang/Object")) (t' := (FieldType.array FieldType.int)) (by decide) (by decide))), Fld.other W F.2.2.1 (Or.inr (slot_ne (Or.inr (hw _ (List.mem_of_getElem? (i := 16) rfl))) (Or.inl (hw _ (List.mem_of_getElem? (i := 48) rfl))) (by decide) (t := (FieldType.array (FieldType.object "java/lang/Object"))) (t' := (FieldType.array FieldType.int)) (by decide) (by decide))), Fld.other W F.2.2.2.1 (Or.inr (slot_ne (Or.inr (hw _ (List.mem_of_getElem? (i := 41) rfl))) (Or.inl (hw _ (List.mem_of_getElem? (i := 48) rfl))) (by decide) (t := (FieldType.array FieldType.long)) (t' := (FieldType.array FieldType.int)) (by decide) (by decide))), Fld.other W F.2.2.2.2.1 (Or.inr (slot_ne (Or.inl (hw _ (List.mem_of_getElem? (i := 44) rfl))) (Or.inl (hw _ (List.mem_of_getElem? (i := 48) rfl))) (by decide) (t := (FieldType.array FieldType.int)) (t' := (FieldType.array FieldType.int)) (by decide) (by decide))), Fld.other W F.2.2.2.2.2.1 (Or.inr (slot_ne (Or.inl (hw _ (List.mem_of_getElem? (i := 46) rfl))) (Or.inl (hw _ (List.mem_of_getElem? (i := 48) rfl))) (by decide) (t := (FieldType.array FieldType.int)) (t' := (FieldType.array FieldType.int)) (by decide) (by decide))), Fld.same W F.2.2.2.2.2.2.1, Fld.other W F.2.2.2.2.2.2.2.1 (Or.inr (slot_ne (Or.inl (hw _ (List.mem_of_getElem? (i := 50) rfl))) (Or.inl (hw _ (List.mem_of_getElem? (i := 48) rfl))) (by decide) (t := (FieldType.array FieldType.int)) (t' := (FieldType.array FieldType.int)) (by decide) (by decide))), Fld.other W F.2.2.2.2.2.2.2.2.1 (Or.inr (slot_ne (Or.inl (hw _ (List.mem_of_getElem? (i := 53) rfl))) (Or.inl (hw _ (List.mem_of_getElem? (i := 48) rfl))) (by decide) (t := (FieldType.array FieldType.byte)) (t' := (FieldType.array FieldType.int)) (by decide) (by decide))), Fld.other W F.2.2.2.2.2.2.2.2.2.1 (Or.inr (slot_ne (Or.inl (hw _ (List.mem_of_getElem? (i := 55) rfl))) (Or.inl (hw _ (List.mem_of_getElem? (i := 48) rfl))) (by decide) (t := (FieldType.array FieldType.byte)) (t' := (FieldType.array FieldType.int)) (by decide) (by decide))), Fld.other W F.2.2.2.2.2.2.2.2.2.2.1 (Or.inr (slot_ne (Or.inl (hw _ (List.mem_of_getElem? (i := 57) rfl))) (Or.inl (hw _ (List.mem_of_getElem? (i := 48) rfl))) (by decide) (t := (FieldType.array FieldType.int)) (t' := (FieldType.array FieldType.int)) (by decide) (by decide))), Fld.other W F.2.2.2.2.2.2.2.2.2.2.2.1 (Or.inr (slot_ne (Or.inl (hw _ (List.mem_of_getElem? (i := 89) rfl))) (Or.inl (hw _ (List.mem_of_getElem? (i := 48) rfl))) (by decide) (t := (FieldType.object "com/example/watermark/watermark/store/HeldBatches$Fields")) (t' := (FieldType.array FieldType.int)) (by decide) (by decide))), Fld.other W F.2.2.2.2.2.2.2.2.2.2.2.2 (Or.inr (slot_ne (Or.inr (hw _ (List.mem_of_getElem? (i := 91) rfl))) (Or.inl (hw _ (List.mem_of_getElem? (i := 48) rfl))) (by decide) (t := (FieldType.object "com/example/watermark/watermark/store/ItemHeap")) (t' := (FieldType.array FieldType.int)) (by decide) (by decide)))⟩
theorem R_HB_set_idStarts {Z : State} {h h' : Heap} {a : Addr} {v0 v1 v2 v3 v4 v5 v6 v7 v8 v9 v10 v11 : Value} {w : Value} {a0 : Array Value} (hw : ∀ d ∈ tables_1, d.before a0 Z = true) (W : Wr h h' a (Jvm.RoadKit.slotOf Z "com/example/watermark/watermark/store/HeldBatches" "idStarts" "[I") w) (F : R_HB Z h a v0 v1 v2 v3 v4 v5 v6 v7 v8 v9 v10 v11) : R_HB Z h' a v0 v1 v2 v3 v4 v5 w v7 v8 v9 v10 v11 := ⟨Exa.wr W F.1, Fld.other W F.2.1 (Or.inr (slot_ne (Or.inr (hw _ (List.mem_of_getElem? (i := 13) rfl))) (Or.inl (hw _ (List.mem_of_getElem? (i := 50) rfl))) (by decide) (t := (FieldType.object "java/lang/Object")) (t' := (FieldType.array FieldType.int)) (by decide) (by decide))), Fld.other W F.2.2.1 (Or.inr (slot_ne (Or.inr (hw _ (List.mem_of_getElem? (i := 16) rfl))) (Or.inl (hw _ (List.mem_of_getElem? (i := 50) rfl))) (by decide) (t := (FieldType.array (FieldType.object "java/lang/Object"))) (t' := (FieldType.array FieldType.int)) (by decide) (by decide))), Fld.other W F.2.2.2.1 (Or.inr (slot_ne (Or.inr (hw _ (List.mem_of_getElem? (i := 41) rfl))) (Or.inl (hw _ (List.mem_of_getElem? (i := 50) rfl))) (by decide) (t := (FieldType.array FieldType.long)) (t' := (FieldType.array FieldType.int)) (by decide) (by decide))), Fld.other W F.2.2.2.2.1 (Or.inr (slot_ne (Or.inl (hw _ (List.mem_of_getElem? (i := 44) rfl))) (Or.inl (hw _ (List.mem_of_getElem? (i := 50) rfl))) (by decide) (t := (FieldType.array FieldType.int)) (t' := (FieldType.array FieldType.int)) (by decide) (by decide))), Fld.other W F.2.2.2.2.2.1 (Or.inr (slot_ne (Or.inl (hw _ (List.mem_of_getElem? (i := 46) rfl))) (Or.inl (hw _ (List.mem_of_getElem? (i := 50) rfl))) (by decide) (t := (FieldType.array FieldType.int)) (t' := (FieldType.array FieldType.int)) (by decide) (by decide))), Fld.other W F.2.2.2.2.2.2.1 (Or.inr (slot_ne (Or.inl (hw _ (List.mem_of_getElem? (i := 48) rfl))) (Or.inl (hw _ (List.mem_of_getElem? (i := 50) rfl))) (by decide) (t := (FieldType.array FieldType.int)) (t' := (FieldType.array FieldType.int)) (by decide) (by decide))), Fld.same W F.2.2.2.2.2.2.2.1, Fld.other W F.2.2.2.2.2.2.2.2.1 (Or.inr (slot_ne (Or.inl (hw _ (List.mem_of_getElem? (i := 53) rfl))) (Or.inl (hw _ (List.mem_of_getElem? (i := 50) rfl))) (by decide) (t := (FieldType.array FieldType.byte)) (t' := (FieldType.array FieldType.int)) (by decide) (by decide))), Fld.other W F.2.2.2.2.2.2.2.2.2.1 (Or.inr (slot_ne (Or.inl (hw _ (List.mem_of_getElem? (i := 55) rfl))) (Or.inl (hw _ (List.mem_of_getElem? (i := 50) rfl))) (by decide) (t := (FieldType.array FieldType.byte)) (t' := (FieldType.array FieldType.int)) (by decide) (by decide))), Fld.other W F.2.2.2.2.2.2.2.2.2.2.1 (Or.inr (slot_ne (Or.inl (hw _ (List.mem_of_getElem? (i := 57) rfl))) (Or.inl (hw _ (List.mem_of_getElem? (i := 50) rfl))) (by decide) (t := (FieldType.array FieldType.int)) (t' := (FieldType.array FieldType.int)) (by decide) (by decide))), Fld.other W F.2.2.2.2.2.2.2.2.2.2.2.1 (Or.inr (slot_ne (Or.inl (hw _ (List.mem_of_getElem? (i := 89) rfl))) (Or.inl (hw _ (List.mem_of_getElem? (i := 50) rfl))) (by decide) (t := (FieldType.object "com/example/watermark/watermark/store/HeldBatches$Fields")) (t' := (FieldType.array FieldType.int)) (by decide) (by decide))), Fld.other W F.2.2.2.2.2.2.2.2.2.2.2.2 (Or.inr (slot_ne (Or.inr (hw _ (List.mem_of_getElem? (i := 91) rfl))) (Or.inl (hw _ (List.mem_of_getElem? (i := 50) rfl))) (by decide) (t := (FieldType.object "com/example/watermark/watermark/store/ItemHeap")) (t' := (FieldType.array FieldType.int)) (by decide) (by decide)))⟩
theorem R_HB_set_idLengths {Z : State} {h h' : Heap} {a : Addr} {v0 v1 v2 v3 v4 v5 v6 v7 v8 v9 v10 v11 : Value} {w : Value} {a0 : Array Value} (hw : ∀ d ∈ tables_1, d.before a0 Z = true) (W : Wr h h' a (Jvm.RoadKit.slotOf Z "com/example/watermark/watermark/store/HeldBatches" "idLengths" "[B") w) (F : R_HB Z h a v0 v1 v2 v3 v4 v5 v6 v7 v8 v9 v10 v11) : R_HB Z h' a v0 v1 v2 v3 v4 v5 v6 w v8 v9 v10 v11 := ⟨Exa.wr W F.1, Fld.other W F.2.1 (Or.inr (slot_ne (Or.inr (hw _ (List.mem_of_getElem? (i := 13) rfl))) (Or.inl (hw _ (List.mem_of_getElem? (i := 53) rfl))) (by decide) (t := (FieldType.object "java/lang/Object")) (t' := (FieldType.array FieldType.byte)) (by decide) (by decide))), Fld.other W F.2.2.1 (Or.inr (slot_ne (Or.inr (hw _ (List.mem_of_getElem? (i := 16) rfl))) (Or.inl (hw _ (List.mem_of_getElem? (i := 53) rfl))) (by decide) (t := (FieldType.array (FieldType.object "java/lang/Object"))) (t' := (FieldType.array FieldType.byte)) (by decide) (by decide))), Fld.other W F.2.2.2.1 (Or.inr (slot_ne (Or.inr (hw _ (List.mem_of_getElem? (i := 41) rfl))) (Or.inl (hw _ (List.mem_of_getElem? (i := 53) rfl))) (by decide) (t := (FieldType.array FieldType.long)) (t' := (FieldType.array FieldType.byte)) (by decide) (by decide))), Fld.other W F.2.2.2.2.1 (Or.inr (slot_ne (Or.inl (hw _ (List.mem_of_getElem? (i := 44) rfl))) (Or.inl (hw _ (List.mem_of_getElem? (i := 53) rfl))) (by decide) (t := (FieldType.array FieldType.int)) (t' := (FieldType.array FieldType.byte)) (by decide) (by decide))), Fld.other W F.2.2.2.2.2.1 (Or.inr (slot_ne (Or.inl (hw _ (List.mem_of_getElem? (i := 46) rfl))) (Or.inl (hw _ (List.mem_of_getElem? (i := 53) rfl))) (by decide) (t := (FieldType.array FieldType.int)) (t' := (FieldType.array FieldType.byte)) (by decide) (by decide))), Fld.other W F.2.2.2.2.2.2.1 (Or.inr (slot_ne (Or.inl (hw _ (List.mem_of_getElem? (i := 48) rfl))) (Or.inl (hw _ (List.mem_of_getElem? (i := 53) rfl))) (by decide) (t := (FieldType.array FieldType.int)) (t' := (FieldType.array FieldType.byte)) (by decide) (by decide))), Fld.other W F.2.2.2.2.2.2.2.1 (Or.inr (slot_ne (Or.inl (hw _ (List.mem_of_getElem? (i := 50) rfl))) (Or.inl (hw _ (List.mem_of_getElem? (i := 53) rfl))) (by decide) (t := (FieldType.array FieldType.int)) (t' := (FieldType.array FieldType.byte)) (by decide) (by decide))), Fld.same W F.2.2.2.2.2.2.2.2.1, Fld.other W F.2.2.2.2.2.2.2.2.2.1 (Or.inr (slot_ne (Or.inl (hw _ (List.mem_of_getElem? (i := 55) rfl))) (Or.inl (hw _ (List.mem_of_getElem? (i := 53) rfl))) (by decide) (t := (FieldType.array FieldType.byte)) (t' := (FieldType.array FieldType.byte)) (by decide) (by decide))), Fld.other W F.2.2.2.2.2.2.2.2.2.2.1 (Or.inr (slot_ne (Or.inl (hw _ (List.mem_of_getElem? (i := 57) rfl))) (Or.inl (hw _ (List.mem_of_getElem? (i := 53) rfl))) (by decide) (t := (FieldType.array FieldType.int)) (t' := (FieldType.array FieldType.byte)) (by decide) (by decide))), Fld.other W F.2.2.2.2.2.2.2.2.2.2.2.1 (Or.inr (slot_ne (Or.inl (hw _ (List.mem_of_getElem? (i := 89) rfl))) (Or.inl (hw _ (List.mem_of_getElem? (i := 53) rfl))) (by decide) (t := (FieldType.object "com/example/watermark/watermark/store/HeldBatches$Fields")) (t' := (FieldType.array FieldType.byte)) (by decide) (by decide))), Fld.other W F.2.2.2.2.2.2.2.2.2.2.2.2 (Or.inr (slot_ne (Or.inr (hw _ (List.mem_of_getElem? (i := 91) rfl))) (Or.inl (hw _ (List.mem_of_getElem? (i := 53) rfl))) (by decide) (t := (FieldType.object "com/example/watermark/watermark/store/ItemHeap")) (t' := (FieldType.array FieldType.byte)) (by decide) (by decide)))⟩
theorem R_HB_set_idBytes {Z : State} {h h' : Heap} {a : Addr} {v0 v1 v2 v3 v4 v5 v6 v7 v8 v9 v10 v11 : Value} {w : Value} {a0 : Array Value} (hw : ∀ d ∈ tables_1, d.before a0 Z = true) (W : Wr h h' a (Jvm.RoadKit.slotOf Z "com/example/watermark/watermark/store/HeldBatches" "idBytes" "[B") w) (F : R_HB Z h a v0 v1 v2 v3 v4 v5 v6 v7 v8 v9 v10 v11) : R_HB Z h' a v0 v1 v2 v3 v4 v5 v6 v7 w v9 v10 v11 := ⟨Exa.wr W F.1, Fld.other W F.2.1 (Or.inr (slot_ne (Or.inr (hw _ (List.mem_of_getElem? (i := 13) rfl))) (Or.inl (hw _ (List.mem_of_getElem? (i := 55) rfl))) (by decide) (t := (FieldType.object "java/lang/Object")) (t' := (FieldType.array FieldType.byte)) (by decide) (by decide))), Fld.other W F.2.2.1 (Or.inr (slot_ne (Or.inr (hw _ (List.mem_of_getElem? (i := 16) rfl))) (Or.inl (hw _ (List.mem_of_getElem? (i := 55) rfl))) (by decide) (t := (FieldType.array (FieldType.object "java/lang/Object"))) (t' := (FieldType.array FieldType.byte)) (by decide) (by decide))), Fld.other W F.2.2.2.1 (Or.inr (slot_ne (Or.inr (hw _ (List.mem_of_getElem? (i := 41) rfl))) (Or.inl (hw _ (List.mem_of_getElem? (i := 55) rfl))) (by decide) (t := (FieldType.array FieldType.long)) (t' := (FieldType.array FieldType.byte)) (by decide) (by decide))), Fld.other W F.2.2.2.2.1 (Or.inr (slot_ne (Or.inl (hw _ (List.mem_of_getElem? (i := 44) rfl))) (Or.inl (hw _ (List.mem_of_getElem? (i := 55) rfl))) (by decide) (t := (FieldType.array FieldType.int)) (t' := (FieldType.array FieldType.byte)) (by decide) (by decide))), Fld.other W F.2.2.2.2.2.1 (Or.inr (slot_ne (Or.inl (hw _ (List.mem_of_getElem? (i := 46) rfl))) (Or.inl (hw _ (List.mem_of_getElem? (i := 55) rfl))) (by decide) (t := (FieldType.array FieldType.int)) (t' := (FieldType.array FieldType.byte)) (by decide) (by decide))), Fld.other W F.2.2.2.2.2.2.1 (Or.inr (slot_ne (Or.inl (hw _ (List.mem_of_getElem? (i := 48) rfl))) (Or.inl (hw _ (List.mem_of_getElem? (i := 55) rfl))) (by decide) (t := (FieldType.array FieldType.int)) (t' := (FieldType.array FieldType.byte)) (by decide) (by decide))), Fld.other W F.2.2.2.2.2.2.2.1 (Or.inr (slot_ne (Or.inl (hw _ (List.mem_of_getElem? (i := 50) rfl))) (Or.inl (hw _ (List.mem_of_getElem? (i := 55) rfl))) (by decide) (t := (FieldType.array FieldType.int)) (t' := (FieldType.array FieldType.byte)) (by decide) (by decide))), Fld.other W F.2.2.2.2.2.2.2.2.1 (Or.inr (slot_ne (Or.inl (hw _ (List.mem_of_getElem? (i := 53) rfl))) (Or.inl (hw _ (List.mem_of_getElem? (i := 55) rfl))) (by decide) (t := (FieldType.array FieldType.byte)) (t' := (FieldType.array FieldType.byte)) (by decide) (by decide))), Fld.same W F.2.2.2.2.2.2.2.2.2.1, Fld.other W F.2.2.2.2.2.2.2.2.2.2.1 (Or.inr (slot_ne (Or.inl (hw _ (List.mem_of_getElem? (i := 57) rfl))) (Or.inl (hw _ (List.mem_of_getElem? (i := 55) rfl))) (by decide) (t := (FieldType.array FieldType.int)) (t' := (FieldType.array FieldType.byte)) (by decide) (by decide))), Fld.other W F.2.2.2.2.2.2.2.2.2.2.2.1 (Or.inr (slot_ne (Or.inl (hw _ (List.mem_of_getElem? (i := 89) rfl))) (Or.inl (hw _ (List.mem_of_getElem? (i := 55) rfl))) (by decide) (t := (FieldType.object "com/example/watermark/watermark/store/HeldBatches$Fields")) (t' := (FieldType.array FieldType.byte)) (by decide) (by decide))), Fld.other W F.2.2.2.2.2.2.2.2.2.2.2.2 (Or.inr (slot_ne (Or.inr (hw _ (List.mem_of_getElem? (i := 91) rfl))) (Or.inl (hw _ (List.mem_of_getElem? (i := 55) rfl))) (by decide) (t := (FieldType.object "com/example/watermark/watermark/store/ItemHeap")) (t' := (FieldType.array FieldType.byte)) (by decide) (by decide)))⟩
theorem R_HB_set_freeSlots {Z : State} {h h' : Heap} {a : Addr} {v0 v1 v2 v3 v4 v5 v6 v7 v8 v9 v10 v11 : Value} {w : Value} {a0 : Array Value} (hw : ∀ d ∈ tables_1, d.before a0 Z = true) (W : Wr h h' a (Jvm.RoadKit.slotOf Z "com/example/watermark/watermark/store/HeldBatches" "freeSlots" "[I") w) (F : R_HB Z h a v0 v1 v2 v3 v4 v5 v6 v7 v8 v9 v10 v11) : R_HB Z h' a v0 v1 v2 v3 v4 v5 v6 v7 v8 w v10 v11 := ⟨Exa.wr W F.1, Fld.other W F.2.1 (Or.inr (slot_ne (Or.inr (hw _ (List.mem_of_getElem? (i := 13) rfl))) (Or.inl (hw _ (List.mem_of_getElem? (i := 57) rfl))) (by decide) (t := (FieldType.object "java/lang/Object")) (t' := (FieldType.array FieldType.int)) (by decide) (by decide))), Fld.other W F.2.2.1 (Or.inr (slot_ne (Or.inr (hw _ (List.mem_of_getElem? (i := 16) rfl))) (Or.inl (hw _ (List.mem_of_getElem? (i := 57) rfl))) (by decide) (t := (FieldType.array (FieldType.object "java/lang/Object"))) (t' := (FieldType.array FieldType.int)) (by decide) (by decide))), Fld.other W F.2.2.2.1 (Or.inr (slot_ne (Or.inr (hw _ (List.mem_of_getElem? (i := 41) rfl))) (Or.inl (hw _ (List.mem_of_getElem? (i := 57) rfl))) (by decide) (t := (FieldType.array FieldType.long)) (t' := (FieldType.array FieldType.int)) (by decide) (by decide))), Fld.other W F.2.2.2.2.1 (Or.inr (slot_ne (Or.inl (hw _ (List.mem_of_getElem? (i := 44) rfl))) (Or.inl (hw _ (List.mem_of_getElem? (i := 57) rfl))) (by decide) (t := (FieldType.array FieldType.int)) (t' := (FieldType.array FieldType.int)) (by decide) (by decide))), Fld.other W F.2.2.2.2.2.1 (Or.inr (slot_ne (Or.inl (hw _ (List.mem_of_getElem? (i := 46) rfl))) (Or.inl (hw _ (List.mem_of_getElem? (i := 57) rfl))) (by decide) (t := (FieldType.array FieldType.int)) (t' := (FieldType.array FieldType.int)) (by decide) (by decide))), Fld.other W F.2.2.2.2.2.2.1 (Or.inr (slot_ne (Or.inl (hw _ (List.mem_of_getElem? (i := 48) rfl))) (Or.inl (hw _ (List.mem_of_getElem? (i := 57) rfl))) (by decide) (t := (FieldType.array FieldType.int)) (t' := (FieldType.array FieldType.int)) (by decide) (by decide))), Fld.other W F.2.2.2.2.2.2.2.1 (Or.inr (slot_ne (Or.inl (hw _ (List.mem_of_getElem? (i := 50) rfl))) (Or.inl (hw _ (List.mem_of_getElem? (i := 57) rfl))) (by decide) (t := (FieldType.array FieldType.int)) (t' := (FieldType.array FieldType.int)) (by decide) (by decide))), Fld.other W F.2.2.2.2.2.2.2.2.1 (Or.inr (slot_ne (Or.inl (hw _ (List.mem_of_getElem? (i := 53) rfl))) (Or.inl (hw _ (List.mem_of_getElem? (i := 57) rfl))) (by decide) (t := (FieldType.array FieldType.byte)) (t' := (FieldType.array FieldType.int)) (by decide) (by decide))), Fld.other W F.2.2.2.2.2.2.2.2.2.1 (Or.inr (slot_ne (Or.inl (hw _ (List.mem_of_getElem? (i := 55) rfl))) (Or.inl (hw _ (List.mem_of_getElem? (i := 57) rfl))) (by decide) (t := (FieldType.array FieldType.byte)) (t' := (FieldType.array FieldType.int)) (by decide) (by decide))), Fld.same W F.2.2.2.2.2.2.2.2.2.2.1, Fld.other W F.2.2.2.2.2.2.2.2.2.2.2.1 (Or.inr (slot_ne (Or.inl (hw _ (List.mem_of_getElem? (i := 89) rfl))) (Or.inl (hw _ (List.mem_of_getElem? (i := 57) rfl))) (by decide) (t := (FieldType.object "com/example/watermark/watermark/store/HeldBatches$Fields")) (t' := (FieldType.array FieldType.int)) (by decide) (by decide))), Fld.other W F.2.2.2.2.2.2.2.2.2.2.2.2 (Or.inr (slot_ne (Or.inr (hw _ (List.mem_of_getElem? (i := 91) rfl))) (Or.inl (hw _ (List.mem_of_getElem? (i := 57) rfl))) (by decide) (t := (FieldType.object "com/example/watermark/watermark/store/ItemHeap")) (t' := (FieldType.array FieldType.int)) (by decide) (by decide)))⟩
theorem R_HB_set_fields {Z : State} {h h' : Heap} {a : Addr} {v0 v1 v2 v3 v4 v5 v6 v7 v8 v9 v10 v11 : Value} {w : Value} {a0 : Array Value} (hw : ∀ d ∈ tables_1, d.before a0 Z = true) (W : Wr h h' a (Jvm.RoadKit.slotOf Z "com/example/watermark/watermark/store/HeldBatches" "fields" "Lcom/example/watermark/watermark/store/HeldBatches$Fields;") w) (F : R_HB Z h a v0 v1 v2 v3 v4 v5 v6 v7 v8 v9 v10 v11) : R_HB Z h' a v0 v1 v2 v3 v4 v5 v6 v7 v8 v9 w v11 := ⟨Exa.wr W F.1, Fld.other W F.2.1 (Or.inr (slot_ne (Or.inr (hw _ (List.mem_of_getElem? (i := 13) rfl))) (Or.inl (hw _ (List.mem_of_getElem? (i := 89) rfl))) (by decide) (t := (FieldType.object "java/lang/Object")) (t' := (FieldType.object "com/example/watermark/watermark/store/HeldBatches$Fields")) (by decide) (by decide))), Fld.other W F.2.2.1 (Or.inr (slot_ne (Or.inr (hw _ (List.mem_of_getElem? (i := 16) rfl))) (Or.inl (hw _ (List.mem_of_getElem? (i := 89) rfl))) (by decide) (t := (FieldType.array (FieldType.object "java/lang/Object"))) (t' := (FieldType.object "com/example/watermark/watermark/store/HeldBatches$Fields")) (by decide) (by decide))), Fld.other W F.2.2.2.1 (Or.inr (slot_ne (Or.inr (hw _ (List.mem_of_getElem? (i := 41) rfl))) (Or.inl (hw _ (List.mem_of_getElem? (i := 89) rfl))) (by decide) (t := (FieldType.array FieldType.long)) (t' := (FieldType.object "com/example/watermark/watermark/store/HeldBatches$Fields")) (by decide) (by decide))), Fld.other W F.2.2.2.2.1 (Or.inr (slot_ne (Or.inl (hw _ (List.mem_of_getElem? (i := 44) rfl))) (Or.inl (hw _ (List.mem_of_getElem? (i := 89) rfl))) (by decide) (t := (FieldType.array FieldType.int)) (t' := (FieldType.object "com/example/watermark/watermark/store/HeldBatches$Fields")) (by decide) (by decide))), Fld.other W F.2.2.2.2.2.1 (Or.inr (slot_ne (Or.inl (hw _ (List.mem_of_getElem? (i := 46) rfl))) (Or.inl (hw _ (List.mem_of_getElem? (i := 89) rfl))) (by decide) (t := (FieldType.array FieldType.int)) (t' := (FieldType.object "com/example/watermark/watermark/store/HeldBatches$Fields")) (by decide) (by decide))), Fld.other W F.2.2.2.2.2.2.1 (Or.inr (slot_ne (Or.inl (hw _ (List.mem_of_getElem? (i := 48) rfl))) (Or.inl (hw _ (List.mem_of_getElem? (i := 89) rfl))) (by decide) (t := (FieldType.array FieldType.int)) (t' := (FieldType.object "com/example/watermark/watermark/store/HeldBatches$Fields")) (by decide) (by decide))), Fld.other W F.2.2.2.2.2.2.2.1 (Or.inr (slot_ne (Or.inl (hw _ (List.mem_of_getElem? (i := 50) rfl))) (Or.inl (hw _ (List.mem_of_getElem? (i := 89) rfl))) (by decide) (t := (FieldType.array FieldType.int)) (t' := (FieldType.object "com/example/watermark/watermark/store/HeldBatches$Fields")) (by decide) (by decide))), Fld.other W F.2.2.2.2.2.2.2.2.1 (Or.inr (slot_ne (Or.inl (hw _ (List.mem_of_getElem? (i := 53) rfl))) (Or.inl (hw _ (List.mem_of_getElem? (i := 89) rfl))) (by decide) (t := (FieldType.array FieldType.byte)) (t' := (FieldType.object "com/example/watermark/watermark/store/HeldBatches$Fields")) (by decide) (by decide))), Fld.other W F.2.2.2.2.2.2.2.2.2.1 (Or.inr (slot_ne (Or.inl (hw _ (List.mem_of_getElem? (i := 55) rfl))) (Or.inl (hw _ (List.mem_of_getElem? (i := 89) rfl))) (by decide) (t := (FieldType.array FieldType.byte)) (t' := (FieldType.object "com/example/watermark/watermark/store/HeldBatches$Fields")) (by decide) (by decide))), Fld.other W F.2.2.2.2.2.2.2.2.2.2.1 (Or.inr (slot_ne (Or.inl (hw _ (List.mem_of_getElem? (i := 57) rfl))) (Or.inl (hw _ (List.mem_of_getElem? (i := 89) rfl))) (by decide) (t := (FieldType.array FieldType.int)) (t' := (FieldType.object "com/example/watermark/watermark/store/HeldBatches$Fields")) (by decide) (by decide))), Fld.same W F.2.2.2.2.2.2.2.2.2.2.2.1, Fld.other W F.2.2.2.2.2.2.2.2.2.2.2.2 (Or.inr (slot_ne (Or.inr (hw _ (List.mem_of_getElem? (i := 91) rfl))) (Or.inl (hw _ (List.mem_of_getElem? (i := 89) rfl))) (by decide) (t := (FieldType.object "com/example/watermark/watermark/store/ItemHeap")) (t' := (FieldType.object "com/example/watermark/watermark/store/HeldBatches$Fields")) (by decide) (by decide)))⟩
theorem R_HB_set_heap {Z : State} {h h' : Heap} {a : Addr} {v0 v1 v2 v3 v4 v5 v6 v7 v8 v9 v10 v11 : Value} {w : Value} {a0 : Array Value} (hw : ∀ d ∈ tables_1, d.before a0 Z = true) (W : Wr h h' a (Jvm.RoadKit.slotOf Z "com/example/watermark/watermark/store/HeldBatches" "heap" "Lcom/example/watermark/watermark/store/ItemHeap;") w) (F : R_HB Z h a v0 v1 v2 v3 v4 v5 v6 v7 v8 v9 v10 v11) : R_HB Z h' a v0 v1 v2 v3 v4 v5 v6 v7 v8 v9 v10 w := ⟨Exa.wr W F.1, Fld.other W F.2.1 (Or.inr (slot_ne (Or.inr (hw _ (List.mem_of_getElem? (i := 13) rfl))) (Or.inr (hw _ (List.mem_of_getElem? (i := 91) rfl))) (by decide) (t := (FieldType.object "java/lang/Object")) (t' := (FieldType.object "com/example/watermark/watermark/store/ItemHeap")) (by decide) (by decide))), Fld.other W F.2.2.1 (Or.inr (slot_ne (Or.inr (hw _ (List.mem_of_getElem? (i := 16) rfl))) (Or.inr (hw _ (List.mem_of_getElem? (i := 91) rfl))) (by decide) (t := (FieldType.array (FieldType.object "java/lang/Object"))) (t' := (FieldType.object "com/example/watermark/watermark/store/ItemHeap")) (by decide) (by decide))), Fld.other W F.2.2.2.1 (Or.inr (slot_ne (Or.inr (hw _ (List.mem_of_getElem? (i := 41) rfl))) (Or.inr (hw _ (List.mem_of_getElem? (i := 91) rfl))) (by decide) (t := (FieldType.array FieldType.long)) (t' := (FieldType.object "com/example/watermark/watermark/store/ItemHeap")) (by decide) (by decide))), Fld.other W F.2.2.2.2.1 (Or.inr (slot_ne (Or.inl (hw _ (List.mem_of_getElem? (i := 44) rfl))) (Or.inr (hw _ (List.mem_of_getElem? (i := 91) rfl))) (by decide) (t := (FieldType.array FieldType.int)) (t' := (FieldType.object "com/example/watermark/watermark/store/ItemHeap")) (by decide) (by decide))), Fld.other W F.2.2.2.2.2.1 (Or.inr (slot_ne (Or.inl (hw _ (List.mem_of_getElem? (i := 46) rfl))) (Or.inr (hw _ (List.mem_of_getElem? (i := 91) rfl))) (by decide) (t := (FieldType.array FieldType.int)) (t' := (FieldType.object "com/example/watermark/watermark/store/ItemHeap")) (by decide) (by decide))), Fld.other W F.2.2.2.2.2.2.1 (Or.inr (slot_ne (Or.inl (hw _ (List.mem_of_getElem? (i := 48) rfl))) (Or.inr (hw _ (List.mem_of_getElem? (i := 91) rfl))) (by decide) (t := (FieldType.array FieldType.int)) (t' := (FieldType.object "com/example/watermark/watermark/store/ItemHeap")) (by decide) (by decide))), Fld.other W F.2.2.2.2.2.2.2.1 (Or.inr (slot_ne (Or.inl (hw _ (List.mem_of_getElem? (i := 50) rfl))) (Or.inr (hw _ (List.mem_of_getElem? (i := 91) rfl))) (by decide) (t := (FieldType.array FieldType.int)) (t' := (FieldType.object "com/example/watermark/watermark/store/ItemHeap")) (by decide) (by decide))), Fld.other W F.2.2.2.2.2.2.2.2.1 (Or.inr (slot_ne (Or.inl (hw _ (List.mem_of_getElem? (i := 53) rfl))) (Or.inr (hw _ (List.mem_of_getElem? (i := 91) rfl))) (by decide) (t := (FieldType.array FieldType.byte)) (t' := (FieldType.object "com/example/watermark/watermark/store/ItemHeap")) (by decide) (by decide))), Fld.other W F.2.2.2.2.2.2.2.2.2.1 (Or.inr (slot_ne (Or.inl (hw _ (List.mem_of_getElem? (i := 55) rfl))) (Or.inr (hw _ (List.mem_of_getElem? (i := 91) rfl))) (by decide) (t := (FieldType.array FieldType.byte)) (t' := (FieldType.object "com/example/watermark/watermark/store/ItemHeap")) (by decide) (by decide))), Fld.other W F.2.2.2.2.2.2.2.2.2.2.1 (Or.inr (slot_ne (Or.inl (hw _ (List.mem_of_getElem? (i := 57) rfl))) (Or.inr (hw _ (List.mem_of_getElem? (i := 91) rfl))) (by decide) (t := (FieldType.array FieldType.int)) (t' := (FieldType.object "com/example/watermark/watermark/store/ItemHeap")) (by decide) (by decide))), Fld.other W F.2.2.2.2.2.2.2.2.2.2.2.1 (Or.inr (slot_ne (Or.inl (hw _ (List.mem_of_getElem? (i := 89) rfl))) (Or.inr (hw _ (List.mem_of_getElem? (i := 91) rfl))) (by decide) (t := (FieldType.object "com/example/watermark/watermark/store/HeldBatches$Fields")) (t' := (FieldType.object "com/example/watermark/watermark/store/ItemHeap")) (by decide) (by decide))), Fld.same W F.2.2.2.2.2.2.2.2.2.2.2.2⟩
def R_HF (Z : State) (h : Heap) (a : Addr) (v0 v1 v2 v3 v4 v5 v6 v7 v8 : Value) : Prop := Exa Z h a "com/example/watermark/watermark/store/HeldBatches$Fields" ∧ Fld Z h a "com/example/watermark/watermark/store/HeldBatches$Fields" "generations" "[I" v0 ∧ Fld Z h a "com/example/watermark/watermark/store/HeldBatches$Fields" "states" "[B" v1 ∧ Fld Z h a "com/example/watermark/watermark/store/HeldBatches$Fields" "changedAts" "[J" v2 ∧ Fld Z h a "com/example/watermark/watermark/store/HeldBatches$Fields" "hasDeadlines" "[Z" v3 ∧ Fld Z h a "com/example/watermark/watermark/store/HeldBatches$Fields" "deadlineSeconds" "[I" v4 ∧ Fld Z h a "com/example/watermark/watermark/store/HeldBatches$Fields" "deadlineAts" "[J" v5 ∧ Fld Z h a "com/example/watermark/watermark/store/HeldBatches$Fields" "endsOnFailure" "[Z" v6 ∧ Fld Z h a "com/example/watermark/watermark/store/HeldBatches$Fields" "userKeys" "[Ljava/lang/String;" v7 ∧ Fld Z h a "com/example/watermark/watermark/store/HeldBatches$Fields" "items" "[Lcom/example/watermark/watermark/store/BatchItems;" v8
theorem R_HF_ext {Z : State} {h h' : Heap} {a : Addr} {v0 v1 v2 v3 v4 v5 v6 v7 v8 : Value} (E : Ext h h') (F : R_HF Z h a v0 v1 v2 v3 v4 v5 v6 v7 v8) : R_HF Z h' a v0 v1 v2 v3 v4 v5 v6 v7 v8 := ⟨Exa.ext E F.1, Fld.ext E F.2.1, Fld.ext E F.2.2.1, Fld.ext E F.2.2.2.1, Fld.ext E F.2.2.2.2.1, Fld.ext E F.2.2.2.2.2.1, Fld.ext E F.2.2.2.2.2.2.1, Fld.ext E F.2.2.2.2.2.2.2.1, Fld.ext E F.2.2.2.2.2.2.2.2.1, Fld.ext E F.2.2.2.2.2.2.2.2.2⟩
theorem R_HF_other {Z : State} {h h' : Heap} {a : Addr} {v0 v1 v2 v3 v4 v5 v6 v7 v8 : Value} {b : Addr} {sl : Nat} {w : Value} (W : Wr h h' b sl w) (F : R_HF Z h a v0 v1 v2 v3 v4 v5 v6 v7 v8) (q : a ≠ b) : R_HF Z h' a v0 v1 v2 v3 v4 v5 v6 v7 v8 := ⟨Exa.wr W F.1, Fld.other W F.2.1 (Or.inl q), Fld.other W F.2.2.1 (Or.inl q), Fld.other W F.2.2.2.1 (Or.inl q), Fld.other W F.2.2.2.2.1 (Or.inl q), Fld.other W F.2.2.2.2.2.1 (Or.inl q), Fld.other W F.2.2.2.2.2.2.1 (Or.inl q), Fld.other W F.2.2.2.2.2.2.2.1 (Or.inl q), Fld.other W F.2.2.2.2.2.2.2.2.1 (Or.inl q), Fld.other W F.2.2.2.2.2.2.2.2.2 (Or.inl q)⟩
theorem R_HF_keep {Z : State} {h h' : Heap} {a : Addr} {v0 v1 v2 v3 v4 v5 v6 v7 v8 : Value} {ws : List Addr} (F : R_HF Z h a v0 v1 v2 v3 v4 v5 v6 v7 v8) (K : Keep h h' ws) (q : a ∉ ws) : R_HF Z h' a v0 v1 v2 v3 v4 v5 v6 v7 v8 := ⟨Exa.keep F.1 K, Fld.keep F.2.1 K q, Fld.keep F.2.2.1 K q, Fld.keep F.2.2.2.1 K q, Fld.keep F.2.2.2.2.1 K q, Fld.keep F.2.2.2.2.2.1 K q, Fld.keep F.2.2.2.2.2.2.1 K q, Fld.keep F.2.2.2.2.2.2.2.1 K q, Fld.keep F.2.2.2.2.2.2.2.2.1 K q, Fld.keep F.2.2.2.2.2.2.2.2.2 K q⟩
theorem R_HF_set_generations {Z : State} {h h' : Heap} {a : Addr} {v0 v1 v2 v3 v4 v5 v6 v7 v8 : Value} {w : Value} {a0 : Array Value} (hw : ∀ d ∈ tables_1, d.before a0 Z = true) (W : Wr h h' a (Jvm.RoadKit.slotOf Z "com/example/watermark/watermark/store/HeldBatches$Fields" "generations" "[I") w) (F : R_HF Z h a v0 v1 v2 v3 v4 v5 v6 v7 v8) : R_HF Z h' a w v1 v2 v3 v4 v5 v6 v7 v8 := ⟨Exa.wr W F.1, Fld.same W F.2.1, Fld.other W F.2.2.1 (Or.inr (slot_ne (Or.inr (hw _ (List.mem_of_getElem? (i := 68) rfl))) (Or.inr (hw _ (List.mem_of_getElem? (i := 66) rfl))) (by decide) (t := (FieldType.array FieldType.byte)) (t' := (FieldType.array FieldType.int)) (by decide) (by decide))), Fld.other W F.2.2.2.1 (Or.inr (slot_ne (Or.inr (hw _ (List.mem_of_getElem? (i := 70) rfl))) (Or.inr (hw _ (List.mem_of_getElem? (i := 66) rfl))) (by decide) (t := (FieldType.array FieldType.long)) (t' := (FieldType.array FieldType.int)) (by decide) (by decide))), Fld.other W F.2.2.2.2.1 (Or.inr (slot_ne (Or.inr (hw _ (List.mem_of_getElem? (i := 73) rfl))) (Or.inr (hw _ (List.mem_of_getElem? (i := 66) rfl))) (by decide) (t := (FieldType.array FieldType.boolean)) (t' := (FieldType.array FieldType.int)) (by decide) (by decide))), Fld.other W F.2.2.2.2.2.1 (Or.inr (slot_ne (Or.inr (hw _ (List.mem_of_getElem? (i := 75) rfl))) (Or.inr (hw _ (List.mem_of_getElem? (i := 66) rfl))) (by decide) (t := (FieldType.array FieldType.int)) (t' := (FieldType.array FieldType.int)) (by decide) (by decide))), Fld.other W F.2.2.2.2.2.2.1 (Or.inr (slot_ne (Or.inr (hw _ (List.mem_of_getElem? (i := 77) rfl))) (Or.inr (hw _ (List.mem_of_getElem? (i := 66) rfl))) (by decide) (t := (FieldType.array FieldType.long)) (t' := (FieldType.array FieldType.int)) (by decide) (by decide))), Fld.other W F.2.2.2.2.2.2.2.1 (Or.inr (slot_ne (Or.inr (hw _ (List.mem_of_getElem? (i := 79) rfl))) (Or.inr (hw _ (List.mem_of_getElem? (i := 66) rfl))) (by decide) (t := (FieldType.array FieldType.boolean)) (t' := (FieldType.array FieldType.int)) (by decide) (by decide))), Fld.other W F.2.2.2.2.2.2.2.2.1 (Or.inr (slot_ne (Or.inr (hw _ (List.mem_of_getElem? (i := 83) rfl))) (Or.inr (hw _ (List.mem_of_getElem? (i := 66) rfl))) (by decide) (t := (FieldType.array (FieldType.object "java/lang/String"))) (t' := (FieldType.array FieldType.int)) (by decide) (by decide))), Fld.other W F.2.2.2.2.2.2.2.2.2 (Or.inr (slot_ne (Or.inr (hw _ (List.mem_of_getElem? (i := 87) rfl))) (Or.inr (hw _ (List.mem_of_getElem? (i := 66) rfl))) (by decide) (t := (FieldType.array (FieldType.object "com/example/watermark/watermark/store/BatchItems"))) (t' := (FieldType.array FieldType.int)) (by decide) (by decide)))⟩
theorem R_HF_set_states {Z : State} {h h' : Heap} {a : Addr} {v0 v1 v2 v3 v4 v5 v6 v7 v8 : Value} {w : Value} {a0 : Array Value} (hw : ∀ d ∈ tables_1, d.before a0 Z = true) (W : Wr h h' a (Jvm.RoadKit.slotOf Z "com/example/watermark/watermark/store/HeldBatches$Fields" "states" "[B") w) (F : R_HF Z h a v0 v1 v2 v3 v4 v5 v6 v7 v8) : R_HF Z h' a v0 w v2 v3 v4 v5 v6 v7 v8 := ⟨Exa.wr W F.1, Fld.other W F.2.1 (Or.inr (slot_ne (Or.inr (hw _ (List.mem_of_getElem? (i := 66) rfl))) (Or.inr (hw _ (List.mem_of_getElem? (i := 68) rfl))) (by decide) (t := (FieldType.array FieldType.int)) (t' := (FieldType.array FieldType.byte)) (by decide) (by decide))), Fld.same W F.2.2.1, Fld.other W F.2.2.2.1 (Or.inr (slot_ne (Or.inr (hw _ (List.mem_of_getElem? (i := 70) rfl))) (Or.inr (hw _ (List.mem_of_getElem? (i := 68) rfl))) (by decide) (t := (FieldType.array FieldType.long)) (t' := (FieldType.array FieldType.byte)) (by decide) (by decide))), Fld.other W F.2.2.2.2.1 (Or.inr (slot_ne (Or.inr (hw _ (List.mem_of_getElem? (i := 73) rfl))) (Or.inr (hw _ (List.mem_of_getElem? (i := 68) rfl))) (by decide) (t := (FieldType.array FieldType.boolean)) (t' := (FieldType.array FieldType.byte)) (by decide) (by decide))), Fld.other W F.2.2.2.2.2.1 (Or.inr (slot_ne (Or.inr (hw _ (List.mem_of_getElem? (i := 75) rfl))) (Or.inr (hw _ (List.mem_of_getElem? (i := 68) rfl))) (by decide) (t := (FieldType.array FieldType.int)) (t' := (FieldType.array FieldType.byte)) (by decide) (by decide))), Fld.other W F.2.2.2.2.2.2.1 (Or.inr (slot_ne (Or.inr (hw _ (List.mem_of_getElem? (i := 77) rfl))) (Or.inr (hw _ (List.mem_of_getElem? (i := 68) rfl))) (by decide) (t := (FieldType.array FieldType.long)) (t' := (FieldType.array FieldType.byte)) (by decide) (by decide))), Fld.other W F.2.2.2.2.2.2.2.1 (Or.inr (slot_ne (Or.inr (hw _ (List.mem_of_getElem? (i := 79) rfl))) (Or.inr (hw _ (List.mem_of_getElem? (i := 68) rfl))) (by decide) (t := (FieldType.array FieldType.boolean)) (t' := (FieldType.array FieldType.byte)) (by decide) (by decide))), Fld.other W F.2.2.2.2.2.2.2.2.1 (Or.inr (slot_ne (Or.inr (hw _ (List.mem_of_getElem? (i := 83) rfl))) (Or.inr (hw _ (List.mem_of_getElem? (i := 68) rfl))) (by decide) (t := (FieldType.array (FieldType.object "java/lang/String"))) (t' := (FieldType.array FieldType.byte)) (by decide) (by decide))), Fld.other W F.2.2.2.2.2.2.2.2.2 (Or.inr (slot_ne (Or.inr (hw _ (List.mem_of_getElem? (i := 87) rfl))) (Or.inr (hw _ (List.mem_of_getElem? (i := 68) rfl))) (by decide) (t := (FieldType.array (FieldType.object "com/example/watermark/watermark/store/BatchItems"))) (t' := (FieldType.array FieldType.byte)) (by decide) (by decide)))⟩
theorem R_HF_set_changedAts {Z : State} {h h' : Heap} {a : Addr} {v0 v1 v2 v3 v4 v5 v6 v7 v8 : Value} {w : Value} {a0 : Array Value} (hw : ∀ d ∈ tables_1, d.before a0 Z = true) (W : Wr h h' a (Jvm.RoadKit.slotOf Z "com/example/watermark/watermark/store/HeldBatches$Fields" "changedAts" "[J") w) (F : R_HF Z h a v0 v1 v2 v3 v4 v5 v6 v7 v8) : R_HF Z h' a v0 v1 w v3 v4 v5 v6 v7 v8 := ⟨Exa.wr W F.1, Fld.other W F.2.1 (Or.inr (slot_ne (Or.inr (hw _ (List.mem_of_getElem? (i := 66) rfl))) (Or.inr (hw _ (List.mem_of_getElem? (i := 70) rfl))) (by decide) (t := (FieldType.array FieldType.int)) (t' := (FieldType.array FieldType.long)) (by decide) (by decide))), Fld.other W F.2.2.1 (Or.inr (slot_ne (Or.inr (hw _ (List.mem_of_getElem? (i := 68) rfl))) (Or.inr (hw _ (List.mem_of_getElem? (i := 70) rfl))) (by decide) (t := (FieldType.array FieldType.byte)) (t' := (FieldType.array FieldType.long)) (by decide) (by decide))), Fld.same W F.2.2.2.1, Fld.other W F.2.2.2.2.1 (Or.inr (slot_ne (Or.inr (hw _ (List.mem_of_getElem? (i := 73) rfl))) (Or.inr (hw _ (List.mem_of_getElem? (i := 70) rfl))) (by decide) (t := (FieldType.array FieldType.boolean)) (t' := (FieldType.array FieldType.long)) (by decide) (by decide))), Fld.other W F.2.2.2.2.2.1 (Or.inr (slot_ne (Or.inr (hw _ (List.mem_of_getElem? (i := 75) rfl))) (Or.inr (hw _ (List.mem_of_getElem? (i := 70) rfl))) (by decide) (t := (FieldType.array FieldType.int)) (t' := (FieldType.array FieldType.long)) (by decide) (by decide))), Fld.other W F.2.2.2.2.2.2.1 (Or.inr (slot_ne (Or.inr (hw _ (List.mem_of_getElem? (i := 77) rfl))) (Or.inr (hw _ (List.mem_of_getElem? (i := 70) rfl))) (by decide) (t := (FieldType.array FieldType.long)) (t' := (FieldType.array FieldType.long)) (by decide) (by decide))), Fld.other W F.2.2.2.2.2.2.2.1 (Or.inr (slot_ne (Or.inr (hw _ (List.mem_of_getElem? (i := 79) rfl))) (Or.inr (hw _ (List.mem_of_getElem? (i := 70) rfl))) (by decide) (t := (FieldType.array FieldType.boolean)) (t' := (FieldType.array FieldType.long)) (by decide) (by decide))), Fld.other W F.2.2.2.2.2.2.2.2.1 (Or.inr (slot_ne (Or.inr (hw _ (List.mem_of_getElem? (i := 83) rfl))) (Or.inr (hw _ (List.mem_of_getElem? (i := 70) rfl))) (by decide) (t := (FieldType.array (FieldType.object "java/lang/String"))) (t' := (FieldType.array FieldType.long)) (by decide) (by decide))), Fld.other W F.2.2.2.2.2.2.2.2.2 (Or.inr (slot_ne (Or.inr (hw _ (List.mem_of_getElem? (i := 87) rfl))) (Or.inr (hw _ (List.mem_of_getElem? (i := 70) rfl))) (by decide) (t := (FieldType.array (FieldType.object "com/example/watermark/watermark/store/BatchItems"))) (t' := (FieldType.array FieldType.long)) (by decide) (by decide)))⟩
theorem R_HF_set_hasDeadlines {Z : State} {h h' : Heap} {a : Addr} {v0 v1 v2 v3 v4 v5 v6 v7 v8 : Value} {w : Value} {a0 : Array Value} (hw : ∀ d ∈ tables_1, d.before a0 Z = true) (W : Wr h h' a (Jvm.RoadKit.slotOf Z "com/example/watermark/watermark/store/HeldBatches$Fields" "hasDeadlines" "[Z") w) (F : R_HF Z h a v0 v1 v2 v3 v4 v5 v6 v7 v8) : R_HF Z h' a v0 v1 v2 w v4 v5 v6 v7 v8 := ⟨Exa.wr W F.1, Fld.other W F.2.1 (Or.inr (slot_ne (Or.inr (hw _ (List.mem_of_getElem? (i := 66) rfl))) (Or.inr (hw _ (List.mem_of_getElem? (i := 73) rfl))) (by decide) (t := (FieldType.array FieldType.int)) (t' := (FieldType.array FieldType.boolean)) (by decide) (by decide))), Fld.other W F.2.2.1 (Or.inr (slot_ne (Or.inr (hw _ (List.mem_of_getElem? (i := 68) rfl))) (Or.inr (hw _ (List.mem_of_getElem? (i := 73) rfl))) (by decide) (t := (FieldType.array FieldType.byte)) (t' := (FieldType.array FieldType.boolean)) (by decide) (by decide))), Fld.other W F.2.2.2.1 (Or.inr (slot_ne (Or.inr (hw _ (List.mem_of_getElem? (i := 70) rfl))) (Or.inr (hw _ (List.mem_of_getElem? (i := 73) rfl))) (by decide) (t := (FieldType.array FieldType.long)) (t' := (FieldType.array FieldType.boolean)) (by decide) (by decide))), Fld.same W F.2.2.2.2.1, Fld.other W F.2.2.2.2.2.1 (Or.inr (slot_ne (Or.inr (hw _ (List.mem_of_getElem? (i := 75) rfl))) (Or.inr (hw _ (List.mem_of_getElem? (i := 73) rfl))) (by decide) (t := (FieldType.array FieldType.int)) (t' := (FieldType.array FieldType.boolean)) (by decide) (by decide))), Fld.other W F.2.2.2.2.2.2.1 (Or.inr (slot_ne (Or.inr (hw _ (List.mem_of_getElem? (i := 77) rfl))) (Or.inr (hw _ (List.mem_of_getElem? (i := 73) rfl))) (by decide) (t := (FieldType.array FieldType.long)) (t' := (FieldType.array FieldType.boolean)) (by decide) (by decide))), Fld.other W F.2.2.2.2.2.2.2.1 (Or.inr (slot_ne (Or.inr (hw _ (List.mem_of_getElem? (i := 79) rfl))) (Or.inr (hw _ (List.mem_of_getElem? (i := 73) rfl))) (by decide) (t := (FieldType.array FieldType.boolean)) (t' := (FieldType.array FieldType.boolean)) (by decide) (by decide))), Fld.other W F.2.2.2.2.2.2.2.2.1 (Or.inr (slot_ne (Or.inr (hw _ (List.mem_of_getElem? (i := 83) rfl))) (Or.inr (hw _ (List.mem_of_getElem? (i := 73) rfl))) (by decide) (t := (FieldType.array (FieldType.object "java/lang/String"))) (t' := (FieldType.array FieldType.boolean)) (by decide) (by decide))), Fld.other W F.2.2.2.2.2.2.2.2.2 (Or.inr (slot_ne (Or.inr (hw _ (List.mem_of_getElem? (i := 87) rfl))) (Or.inr (hw _ (List.mem_of_getElem? (i := 73) rfl))) (by decide) (t := (FieldType.array (FieldType.object "com/example/watermark/watermark/store/BatchItems"))) (t' := (FieldType.array FieldType.boolean)) (by decide) (by decide)))⟩
theorem R_HF_set_deadlineSeconds {Z : State} {h h' : Heap} {a : Addr} {v0 v1 v2 v3 v4 v5 v6 v7 v8 : Value} {w : Value} {a0 : Array Value} (hw : ∀ d ∈ tables_1, d.before a0 Z = true) (W : Wr h h' a (Jvm.RoadKit.slotOf Z "com/example/watermark/watermark/store/HeldBatches$Fields" "deadlineSeconds" "[I") w) (F : R_HF Z h a v0 v1 v2 v3 v4 v5 v6 v7 v8) : R_HF Z h' a v0 v1 v2 v3 w v5 v6 v7 v8 := ⟨Exa.wr W F.1, Fld.other W F.2.1 (Or.inr (slot_ne (Or.inr (hw _ (List.mem_of_getElem? (i := 66) rfl))) (Or.inr (hw _ (List.mem_of_getElem? (i := 75) rfl))) (by decide) (t := (FieldType.array FieldType.int)) (t' := (FieldType.array FieldType.int)) (by decide) (by decide))), Fld.other W F.2.2.1 (Or.inr (slot_ne (Or.inr (hw _ (List.mem_of_getElem? (i := 68) rfl))) (Or.inr (hw _ (List.mem_of_getElem? (i := 75) rfl))) (by decide) (t := (FieldType.array FieldType.byte)) (t' := (FieldType.array FieldType.int)) (by decide) (by decide))), Fld.other W F.2.2.2.1 (Or.inr (slot_ne (Or.inr (hw _ (List.mem_of_getElem? (i := 70) rfl))) (Or.inr (hw _ (List.mem_of_getElem? (i := 75) rfl))) (by decide) (t := (FieldType.array FieldType.long)) (t' := (FieldType.array FieldType.int)) (by decide) (by decide))), Fld.other W F.2.2.2.2.1 (Or.inr (slot_ne (Or.inr (hw _ (List.mem_of_getElem? (i := 73) rfl))) (Or.inr (hw _ (List.mem_of_getElem? (i := 75) rfl))) (by decide) (t := (FieldType.array FieldType.boolean)) (t' := (FieldType.array FieldType.int)) (by decide) (by decide))), Fld.same W F.2.2.2.2.2.1, Fld.other W F.2.2.2.2.2.2.1 (Or.inr (slot_ne (Or.inr (hw _ (List.mem_of_getElem? (i := 77) rfl))) (Or.inr (hw _ (List.mem_of_getElem? (i := 75) rfl))) (by decide) (t := (FieldType.array FieldType.long)) (t' := (FieldType.array FieldType.int)) (by decide) (by decide))), Fld.other W F.2.2.2.2.2.2.2.1 (Or.inr (slot_ne (Or.inr (hw _ (List.mem_of_getElem? (i := 79) rfl))) (Or.inr (hw _ (List.mem_of_getElem? (i := 75) rfl))) (by decide) (t := (FieldType.array FieldType.boolean)) (t' := (FieldType.array FieldType.int)) (by decide) (by decide))), Fld.other W F.2.2.2.2.2.2.2.2.1 (Or.inr (slot_ne (Or.inr (hw _ (List.mem_of_getElem? (i := 83) rfl))) (Or.inr (hw _ (List.mem_of_getElem? (i := 75) rfl))) (by decide) (t := (FieldType.array (FieldType.object "java/lang/String"))) (t' := (FieldType.array FieldType.int)) (by decide) (by decide))), Fld.other W F.2.2.2.2.2.2.2.2.2 (Or.inr (slot_ne (Or.inr (hw _ (List.mem_of_getElem? (i := 87) rfl))) (Or.inr (hw _ (List.mem_of_getElem? (i := 75) rfl))) (by decide) (t := (FieldType.array (FieldType.object "com/example/watermark/watermark/store/BatchItems"))) (t' := (FieldType.array FieldType.int)) (by decide) (by decide)))⟩
theorem R_HF_set_deadlineAts {Z : State} {h h' : Heap} {a : Addr} {v0 v1 v2 v3 v4 v5 v6 v7 v8 : Value} {w : Value} {a0 : Array Value} (hw : ∀ d ∈ tables_1, d.before a0 Z = true) (W : Wr h h' a (Jvm.RoadKit.slotOf Z "com/example/watermark/watermark/store/HeldBatches$Fields" "deadlineAts" "[J") w) (F : R_HF Z h a v0 v1 v2 v3 v4 v5 v6 v7 v8) : R_HF Z h' a v0 v1 v2 v3 v4 w v6 v7 v8 := ⟨Exa.wr W F.1, Fld.other W F.2.1 (Or.inr (slot_ne (Or.inr (hw _ (List.mem_of_getElem? (i := 66) rfl))) (Or.inr (hw _ (List.mem_of_getElem? (i := 77) rfl))) (by decide) (t := (FieldType.array FieldType.int)) (t' := (FieldType.array FieldType.long)) (by decide) (by decide))), Fld.other W F.2.2.1 (Or.inr (slot_ne (Or.inr (hw _ (List.mem_of_getElem? (i := 68) rfl))) (Or.inr (hw _ (List.mem_of_getElem? (i := 77) rfl))) (by decide) (t := (FieldType.array FieldType.byte)) (t' := (FieldType.array FieldType.long)) (by decide) (by decide))), Fld.other W F.2.2.2.1 (Or.inr (slot_ne (Or.inr (hw _ (List.mem_of_getElem? (i := 70) rfl))) (Or.inr (hw _ (List.mem_of_getElem? (i := 77) rfl))) (by decide) (t := (FieldType.array FieldType.long)) (t' := (FieldType.array FieldType.long)) (by decide) (by decide))), Fld.other W F.2.2.2.2.1 (Or.inr (slot_ne (Or.inr (hw _ (List.mem_of_getElem? (i := 73) rfl))) (Or.inr (hw _ (List.mem_of_getElem? (i := 77) rfl))) (by decide) (t := (FieldType.array FieldType.boolean)) (t' := (FieldType.array FieldType.long)) (by decide) (by decide))), Fld.other W F.2.2.2.2.2.1 (Or.inr (slot_ne (Or.inr (hw _ (List.mem_of_getElem? (i := 75) rfl))) (Or.inr (hw _ (List.mem_of_getElem? (i := 77) rfl))) (by decide) (t := (FieldType.array FieldType.int)) (t' := (FieldType.array FieldType.long)) (by decide) (by decide))), Fld.same W F.2.2.2.2.2.2.1, Fld.other W F.2.2.2.2.2.2.2.1 (Or.inr (slot_ne (Or.inr (hw _ (List.mem_of_getElem? (i := 79) rfl))) (Or.inr (hw _ (List.mem_of_getElem? (i := 77) rfl))) (by decide) (t := (FieldType.array FieldType.boolean)) (t' := (FieldType.array FieldType.long)) (by decide) (by decide))), Fld.other W F.2.2.2.2.2.2.2.2.1 (Or.inr (slot_ne (Or.inr (hw _ (List.mem_of_getElem? (i := 83) rfl))) (Or.inr (hw _ (List.mem_of_getElem? (i := 77) rfl))) (by decide) (t := (FieldType.array (FieldType.object "java/lang/String"))) (t' := (FieldType.array FieldType.long)) (by decide) (by decide))), Fld.other W F.2.2.2.2.2.2.2.2.2 (Or.inr (slot_ne (Or.inr (hw _ (List.mem_of_getElem? (i := 87) rfl))) (Or.inr (hw _ (List.mem_of_getElem? (i := 77) rfl))) (by decide) (t := (FieldType.array (FieldType.object "com/example/watermark/watermark/store/BatchItems"))) (t' := (FieldType.array FieldType.long)) (by decide) (by decide)))⟩
theorem R_HF_set_endsOnFailure {Z : State} {h h' : Heap} {a : Addr} {v0 v1 v2 v3 v4 v5 v6 v7 v8 : Value} {w : Value} {a0 : Array Value} (hw : ∀ d ∈ tables_1, d.before a0 Z = true) (W : Wr h h' a (Jvm.RoadKit.slotOf Z "com/example/watermark/watermark/store/HeldBatches$Fields" "endsOnFailure" "[Z") w) (F : R_HF Z h a v0 v1 v2 v3 v4 v5 v6 v7 v8) : R_HF Z h' a v0 v1 v2 v3 v4 v5 w v7 v8 := ⟨Exa.wr W F.1, Fld.other W F.2.1 (Or.inr (slot_ne (Or.inr (hw _ (List.mem_of_getElem? (i := 66) rfl))) (Or.inr (hw _ (List.mem_of_getElem? (i := 79) rfl))) (by decide) (t := (FieldType.array FieldType.int)) (t' := (FieldType.array FieldType.boolean)) (by decide) (by decide))), Fld.other W F.2.2.1 (Or.inr (slot_ne (Or.inr (hw _ (List.mem_of_getElem? (i := 68) rfl))) (Or.inr (hw _ (List.mem_of_getElem? (i := 79) rfl))) (by decide) (t := (FieldType.array FieldType.byte)) (t' := (FieldType.array FieldType.boolean)) (by decide) (by decide))), Fld.other W F.2.2.2.1 (Or.inr (slot_ne (Or.inr (hw _ (List.mem_of_getElem? (i := 70) rfl))) (Or.inr (hw _ (List.mem_of_getElem? (i := 79) rfl))) (by decide) (t := (FieldType.array FieldType.long)) (t' := (FieldType.array FieldType.boolean)) (by decide) (by decide))), Fld.other W F.2.2.2.2.1 (Or.inr (slot_ne (Or.inr (hw _ (List.mem_of_getElem? (i := 73) rfl))) (Or.inr (hw _ (List.mem_of_getElem? (i := 79) rfl))) (by decide) (t := (FieldType.array FieldType.boolean)) (t' := (FieldType.array FieldType.boolean)) (by decide) (by decide))), Fld.other W F.2.2.2.2.2.1 (Or.inr (slot_ne (Or.inr (hw _ (List.mem_of_getElem? (i := 75) rfl))) (Or.inr (hw _ (List.mem_of_getElem? (i := 79) rfl))) (by decide) (t := (FieldType.array FieldType.int)) (t' := (FieldType.array FieldType.boolean)) (by decide) (by decide))), Fld.other W F.2.2.2.2.2.2.1 (Or.inr (slot_ne (Or.inr (hw _ (List.mem_of_getElem? (i := 77) rfl))) (Or.inr (hw _ (List.mem_of_getElem? (i := 79) rfl))) (by decide) (t := (FieldType.array FieldType.long)) (t' := (FieldType.array FieldType.boolean)) (by decide) (by decide))), Fld.same W F.2.2.2.2.2.2.2.1, Fld.other W F.2.2.2.2.2.2.2.2.1 (Or.inr (slot_ne (Or.inr (hw _ (List.mem_of_getElem? (i := 83) rfl))) (Or.inr (hw _ (List.mem_of_getElem? (i := 79) rfl))) (by decide) (t := (FieldType.array (FieldType.object "java/lang/String"))) (t' := (FieldType.array FieldType.boolean)) (by decide) (by decide))), Fld.other W F.2.2.2.2.2.2.2.2.2 (Or.inr (slot_ne (Or.inr (hw _ (List.mem_of_getElem? (i := 87) rfl))) (Or.inr (hw _ (List.mem_of_getElem? (i := 79) rfl))) (by decide) (t := (FieldType.array (FieldType.object "com/example/watermark/watermark/store/BatchItems"))) (t' := (FieldType.array FieldType.boolean)) (by decide) (by decide)))⟩
theorem R_HF_set_userKeys {Z : State} {h h' : Heap} {a : Addr} {v0 v1 v2 v3 v4 v5 v6 v7 v8 : Value} {w : Value} {a0 : Array Value} (hw : ∀ d ∈ tables_1, d.before a0 Z = true) (W : Wr h h' a (Jvm.RoadKit.slotOf Z "com/example/watermark/watermark/store/HeldBatches$Fields" "userKeys" "[Ljava/lang/String;") w) (F : R_HF Z h a v0 v1 v2 v3 v4 v5 v6 v7 v8) : R_HF Z h' a v0 v1 v2 v3 v4 v5 v6 w v8 := ⟨Exa.wr W F.1, Fld.other W F.2.1 (Or.inr (slot_ne (Or.inr (hw _ (List.mem_of_getElem? (i := 66) rfl))) (Or.inr (hw _ (List.mem_of_getElem? (i := 83) rfl))) (by decide) (t := (FieldType.array FieldType.int)) (t' := (FieldType.array (FieldType.object "java/lang/String"))) (by decide) (by decide))), Fld.other W F.2.2.1 (Or.inr (slot_ne (Or.inr (hw _ (List.mem_of_getElem? (i := 68) rfl))) (Or.inr (hw _ (List.mem_of_getElem? (i := 83) rfl))) (by decide) (t := (FieldType.array FieldType.byte)) (t' := (FieldType.array (FieldType.object "java/lang/String"))) (by decide) (by decide))), Fld.other W F.2.2.2.1 (Or.inr (slot_ne (Or.inr (hw _ (List.mem_of_getElem? (i := 70) rfl))) (Or.inr (hw _ (List.mem_of_getElem? (i := 83) rfl))) (by decide) (t := (FieldType.array FieldType.long)) (t' := (FieldType.array (FieldType.object "java/lang/String"))) (by decide) (by decide))), Fld.other W F.2.2.2.2.1 (Or.inr (slot_ne (Or.inr (hw _ (List.mem_of_getElem? (i := 73) rfl))) (Or.inr (hw _ (List.mem_of_getElem? (i := 83) rfl))) (by decide) (t := (FieldType.array FieldType.boolean)) (t' := (FieldType.array (FieldType.object "java/lang/String"))) (by decide) (by decide))), Fld.other W F.2.2.2.2.2.1 (Or.inr (slot_ne (Or.inr (hw _ (List.mem_of_getElem? (i := 75) rfl))) (Or.inr (hw _ (List.mem_of_getElem? (i := 83) rfl))) (by decide) (t := (FieldType.array FieldType.int)) (t' := (FieldType.array (FieldType.object "java/lang/String"))) (by decide) (by decide))), Fld.other W F.2.2.2.2.2.2.1 (Or.inr (slot_ne (Or.inr (hw _ (List.mem_of_getElem? (i := 77) rfl))) (Or.inr (hw _ (List.mem_of_getElem? (i := 83) rfl))) (by decide) (t := (FieldType.array FieldType.long)) (t' := (FieldType.array (FieldType.object "java/lang/String"))) (by decide) (by decide))), Fld.other W F.2.2.2.2.2.2.2.1 (Or.inr (slot_ne (Or.inr (hw _ (List.mem_of_getElem? (i := 79) rfl))) (Or.inr (hw _ (List.mem_of_getElem? (i := 83) rfl))) (by decide) (t := (FieldType.array FieldType.boolean)) (t' := (FieldType.array (FieldType.object "java/lang/String"))) (by decide) (by decide))), Fld.same W F.2.2.2.2.2.2.2.2.1, Fld.other W F.2.2.2.2.2.2.2.2.2 (Or.inr (slot_ne (Or.inr (hw _ (List.mem_of_getElem? (i := 87) rfl))) (Or.inr (hw _ (List.mem_of_getElem? (i := 83) rfl))) (by decide) (t := (FieldType.array (FieldType.object "com/example/watermark/watermark/store/BatchItems"))) (t' := (FieldType.array (FieldType.object "java/lang/String"))) (by decide) (by decide)))⟩
theorem R_HF_set_items {Z : State} {h h' : Heap} {a : Addr} {v0 v1 v2 v3 v4 v5 v6 v7 v8 : Value} {w : Value} {a0 : Array Value} (hw : ∀ d ∈ tables_1, d.before a0 Z = true) (W : Wr h h' a (Jvm.RoadKit.slotOf Z "com/example/watermark/watermark/store/HeldBatches$Fields" "items" "[Lcom/example/watermark/watermark/store/BatchItems;") w) (F : R_HF Z h a v0 v1 v2 v3 v4 v5 v6 v7 v8) : R_HF Z h' a v0 v1 v2 v3 v4 v5 v6 v7 w := ⟨Exa.wr W F.1, Fld.other W F.2.1 (Or.inr (slot_ne (Or.inr (hw _ (List.mem_of_getElem? (i := 66) rfl))) (Or.inr (hw _ (List.mem_of_getElem? (i := 87) rfl))) (by decide) (t := (FieldType.array FieldType.int)) (t' := (FieldType.array (FieldType.object "com/example/watermark/watermark/store/BatchItems"))) (by decide) (by decide))), Fld.other W F.2.2.1 (Or.inr (slot_ne (Or.inr (hw _ (List.mem_of_getElem? (i := 68) rfl))) (Or.inr (hw _ (List.mem_of_getElem? (i := 87) rfl))) (by decide) (t := (FieldType.array FieldType.byte)) (t' := (FieldType.array (FieldType.object "com/example/watermark/watermark/store/BatchItems"))) (by decide) (by decide))), Fld.other W F.2.2.2.1 (Or.inr (slot_ne (Or.inr (hw _ (List.mem_of_getElem? (i := 70) rfl))) (Or.inr (hw _ (List.mem_of_getElem? (i := 87) rfl))) (by decide) (t := (FieldType.array FieldType.long)) (t' := (FieldType.array (FieldType.object "com/example/watermark/watermark/store/BatchItems"))) (by decide) (by decide))), Fld.other W F.2.2.2.2.1 (Or.inr (slot_ne (Or.inr (hw _ (List.mem_of_getElem? (i := 73) rfl))) (Or.inr (hw _ (List.mem_of_getElem? (i := 87) rfl))) (by decide) (t := (FieldType.array FieldType.boolean)) (t' := (FieldType.array (FieldType.object "com/example/watermark/watermark/store/BatchItems"))) (by decide) (by decide))), Fld.other W F.2.2.2.2.2.1 (Or.inr (slot_ne (Or.inr (hw _ (List.mem_of_getElem? (i := 75) rfl))) (Or.inr (hw _ (List.mem_of_getElem? (i := 87) rfl))) (by decide) (t := (FieldType.array FieldType.int)) (t' := (FieldType.array (FieldType.object "com/example/watermark/watermark/store/BatchItems"))) (by decide) (by decide))), Fld.other W F.2.2.2.2.2.2.1 (Or.inr (slot_ne (Or.inr (hw _ (List.mem_of_getElem? (i := 77) rfl))) (Or.inr (hw _ (List.mem_of_getElem? (i := 87) rfl))) (by decide) (t := (FieldType.array FieldType.long)) (t' := (FieldType.array (FieldType.object "com/example/watermark/watermark/store/BatchItems"))) (by decide) (by decide))), Fld.other W F.2.2.2.2.2.2.2.1 (Or.inr (slot_ne (Or.inr (hw _ (List.mem_of_getElem? (i := 79) rfl))) (Or.inr (hw _ (List.mem_of_getElem? (i := 87) rfl))) (by decide) (t := (FieldType.array FieldType.boolean)) (t' := (FieldType.array (FieldType.object "com/example/watermark/watermark/store/BatchItems"))) (by decide) (by decide))), Fld.other W F.2.2.2.2.2.2.2.2.1 (Or.inr (slot_ne (Or.inr (hw _ (List.mem_of_getElem? (i := 83) rfl))) (Or.inr (hw _ (List.mem_of_getElem? (i := 87) rfl))) (by decide) (t := (FieldType.array (FieldType.object "java/lang/String"))) (t' := (FieldType.array (FieldType.object "com/example/watermark/watermark/store/BatchItems"))) (by decide) (by decide))), Fld.same W F.2.2.2.2.2.2.2.2.2⟩
def R_BA (Z : State) (h : Heap) (a : Addr) (v0 v1 v2 v3 : Value) : Prop := Exa Z h a "com/example/watermark/watermark/store/Batch" ∧ Fld Z h a "com/example/watermark/watermark/store/Batch" "held" "Lcom/example/watermark/watermark/store/HeldBatches;" v0 ∧ Fld Z h a "com/example/watermark/watermark/store/Batch" "slot" "I" v1 ∧ Fld Z h a "com/example/watermark/watermark/store/Batch" "generation" "I" v2 ∧ Fld Z h a "com/example/watermark/watermark/store/Batch" "id" "Ljava/lang/String;" v3
theorem R_BA_ext {Z : State} {h h' : Heap} {a : Addr} {v0 v1 v2 v3 : Value} (E : Ext h h') (F : R_BA Z h a v0 v1 v2 v3) : R_BA Z h' a v0 v1 v2 v3 := ⟨Exa.ext E F.1, Fld.ext E F.2.1, Fld.ext E F.2.2.1, Fld.ext E F.2.2.2.1, Fld.ext E F.2.2.2.2⟩
theorem R_BA_other {Z : State} {h h' : Heap} {a : Addr} {v0 v1 v2 v3 : Value} {b : Addr} {sl : Nat} {w : Value} (W : Wr h h' b sl w) (F : R_BA Z h a v0 v1 v2 v3) (q : a ≠ b) : R_BA Z h' a v0 v1 v2 v3 := ⟨Exa.wr W F.1, Fld.other W F.2.1 (Or.inl q), Fld.other W F.2.2.1 (Or.inl q), Fld.other W F.2.2.2.1 (Or.inl q), Fld.other W F.2.2.2.2 (Or.inl q)⟩
theorem R_BA_keep {Z : State} {h h' : Heap} {a : Addr} {v0 v1 v2 v3 : Value} {ws : List Addr} (F : R_BA Z h a v0 v1 v2 v3) (K : Keep h h' ws) (q : a ∉ ws) : R_BA Z h' a v0 v1 v2 v3 := ⟨Exa.keep F.1 K, Fld.keep F.2.1 K q, Fld.keep F.2.2.1 K q, Fld.keep F.2.2.2.1 K q, Fld.keep F.2.2.2.2 K q⟩
theorem R_BA_set_held {Z : State} {h h' : Heap} {a : Addr} {v0 v1 v2 v3 : Value} {w : Value} {a0 : Array Value} (hw : ∀ d ∈ tables_1, d.before a0 Z = true) (W : Wr h h' a (Jvm.RoadKit.slotOf Z "com/example/watermark/watermark/store/Batch" "held" "Lcom/example/watermark/watermark/store/HeldBatches;") w) (F : R_BA Z h a v0 v1 v2 v3) : R_BA Z h' a w v1 v2 v3 := ⟨Exa.wr W F.1, Fld.same W F.2.1, Fld.other W F.2.2.1 (Or.inr (slot_ne (Or.inr (hw _ (List.mem_of_getElem? (i := 130) rfl))) (Or.inr (hw _ (List.mem_of_getElem? (i := 128) rfl))) (by decide) (t := FieldType.int) (t' := (FieldType.object "com/example/watermark/watermark/store/HeldBatches")) (by decide) (by decide))), Fld.other W F.2.2.2.1 (Or.inr (slot_ne (Or.inr (hw _ (List.mem_of_getElem? (i := 132) rfl))) (Or.inr (hw _ (List.mem_of_getElem? (i := 128) rfl))) (by decide) (t := FieldType.int) (t' := (FieldType.object "com/example/watermark/watermark/store/HeldBatches")) (by decide) (by decide))), Fld.other W F.2.2.2.2 (Or.inr (slot_ne (Or.inr (hw _ (List.mem_of_getElem? (i := 134) rfl))) (Or.inr (hw _ (List.mem_of_getElem? (i := 128) rfl))) (by decide) (t := (FieldType.object "java/lang/String")) (t' := (FieldType.object "com/example/watermark/watermark/store/HeldBatches")) (by decide) (by decide)))⟩
theorem R_BA_set_slot {Z : State} {h h' : Heap} {a : Addr} {v0 v1 v2 v3 : Value} {w : Value} {a0 : Array Value} (hw : ∀ d ∈ tables_1, d.before a0 Z = true) (W : Wr h h' a (Jvm.RoadKit.slotOf Z "com/example/watermark/watermark/store/Batch" "slot" "I") w) (F : R_BA Z h a v0 v1 v2 v3) : R_BA Z h' a v0 w v2 v3 := ⟨Exa.wr W F.1, Fld.other W F.2.1 (Or.inr (slot_ne (Or.inr (hw _ (List.mem_of_getElem? (i := 128) rfl))) (Or.inr (hw _ (List.mem_of_getElem? (i := 130) rfl))) (by decide) (t := (FieldType.object "com/example/watermark/watermark/store/HeldBatches")) (t' := FieldType.int) (by decide) (by decide))), Fld.same W F.2.2.1, Fld.other W F.2.2.2.1 (Or.inr (slot_ne (Or.inr (hw _ (List.mem_of_getElem? (i := 132) rfl))) (Or.inr (hw _ (List.mem_of_getElem? (i := 130) rfl))) (by decide) (t := FieldType.int) (t' := FieldType.int) (by decide) (by decide))), Fld.other W F.2.2.2.2 (Or.inr (slot_ne (Or.inr (hw _ (List.mem_of_getElem? (i := 134) rfl))) (Or.inr (hw _ (List.mem_of_getElem? (i := 130) rfl))) (by decide) (t := (FieldType.object "java/lang/String")) (t' := FieldType.int) (by decide) (by decide)))⟩
theorem R_BA_set_generation {Z : State} {h h' : Heap} {a : Addr} {v0 v1 v2 v3 : Value} {w : Value} {a0 : Array Value} (hw : ∀ d ∈ tables_1, d.before a0 Z = true) (W : Wr h h' a (Jvm.RoadKit.slotOf Z "com/example/watermark/watermark/store/Batch" "generation" "I") w) (F : R_BA Z h a v0 v1 v2 v3) : R_BA Z h' a v0 v1 w v3 := ⟨Exa.wr W F.1, Fld.other W F.2.1 (Or.inr (slot_ne (Or.inr (hw _ (List.mem_of_getElem? (i := 128) rfl))) (Or.inr (hw _ (List.mem_of_getElem? (i := 132) rfl))) (by decide) (t := (FieldType.object "com/example/watermark/watermark/store/HeldBatches")) (t' := FieldType.int) (by decide) (by decide))), Fld.other W F.2.2.1 (Or.inr (slot_ne (Or.inr (hw _ (List.mem_of_getElem? (i := 130) rfl))) (Or.inr (hw _ (List.mem_of_getElem? (i := 132) rfl))) (by decide) (t := FieldType.int) (t' := FieldType.int) (by decide) (by decide))), Fld.same W F.2.2.2.1, Fld.other W F.2.2.2.2 (Or.inr (slot_ne (Or.inr (hw _ (List.mem_of_getElem? (i := 134) rfl))) (Or.inr (hw _ (List.mem_of_getElem? (i := 132) rfl))) (by decide) (t := (FieldType.object "java/lang/String")) (t' := FieldType.int) (by decide) (by decide)))⟩
theorem R_BA_set_id {Z : State} {h h' : Heap} {a : Addr} {v0 v1 v2 v3 : Value} {w : Value} {a0 : Array Value} (hw : ∀ d ∈ tables_1, d.before a0 Z = true) (W : Wr h h' a (Jvm.RoadKit.slotOf Z "com/example/watermark/watermark/store/Batch" "id" "Ljava/lang/String;") w) (F : R_BA Z h a v0 v1 v2 v3) : R_BA Z h' a v0 v1 v2 w := ⟨Exa.wr W F.1, Fld.other W F.2.1 (Or.inr (slot_ne (Or.inr (hw _ (List.mem_of_getElem? (i := 128) rfl))) (Or.inr (hw _ (List.mem_of_getElem? (i := 134) rfl))) (by decide) (t := (FieldType.object "com/example/watermark/watermark/store/HeldBatches")) (t' := (FieldType.object "java/lang/String")) (by decide) (by decide))), Fld.other W F.2.2.1 (Or.inr (slot_ne (Or.inr (hw _ (List.mem_of_getElem? (i := 130) rfl))) (Or.inr (hw _ (List.mem_of_getElem? (i := 134) rfl))) (by decide) (t := FieldType.int) (t' := (FieldType.object "java/lang/String")) (by decide) (by decide))), Fld.other W F.2.2.2.1 (Or.inr (slot_ne (Or.inr (hw _ (List.mem_of_getElem? (i := 132) rfl))) (Or.inr (hw _ (List.mem_of_getElem? (i := 134) rfl))) (by decide) (t := FieldType.int) (t' := (FieldType.object "java/lang/String")) (by decide) (by decide))), Fld.same W F.2.2.2.2⟩
def R_ST (Z : State) (h : Heap) (a : Addr) (v0 v1 : Value) : Prop := Exa Z h a "java/lang/String" ∧ Fld Z h a "java/lang/String" "value" "[B" v0 ∧ Fld Z h a "java/lang/String" "coder" "B" v1
theorem R_ST_ext {Z : State} {h h' : Heap} {a : Addr} {v0 v1 : Value} (E : Ext h h') (F : R_ST Z h a v0 v1) : R_ST Z h' a v0 v1 := ⟨Exa.ext E F.1, Fld.ext E F.2.1, Fld.ext E F.2.2⟩
theorem R_ST_other {Z : State} {h h' : Heap} {a : Addr} {v0 v1 : Value} {b : Addr} {sl : Nat} {w : Value} (W : Wr h h' b sl w) (F : R_ST Z h a v0 v1) (q : a ≠ b) : R_ST Z h' a v0 v1 := ⟨Exa.wr W F.1, Fld.other W F.2.1 (Or.inl q), Fld.other W F.2.2 (Or.inl q)⟩
theorem R_ST_keep {Z : State} {h h' : Heap} {a : Addr} {v0 v1 : Value} {ws : List Addr} (F : R_ST Z h a v0 v1) (K : Keep h h' ws) (q : a ∉ ws) : R_ST Z h' a v0 v1 := ⟨Exa.keep F.1 K, Fld.keep F.2.1 K q, Fld.keep F.2.2 K q⟩
theorem R_ST_set_value {Z : State} {h h' : Heap} {a : Addr} {v0 v1 : Value} {w : Value} {a0 : Array Value} (hw : ∀ d ∈ tables_1, d.before a0 Z = true) (W : Wr h h' a (Jvm.RoadKit.slotOf Z "java/lang/String" "value" "[B") w) (F : R_ST Z h a v0 v1) : R_ST Z h' a w v1 := ⟨Exa.wr W F.1, Fld.same W F.2.1, Fld.other W F.2.2 (Or.inr (slot_ne (Or.inr (hw _ (List.mem_of_getElem? (i := 119) rfl))) (Or.inr (hw _ (List.mem_of_getElem? (i := 117) rfl))) (by decide) (t := FieldType.byte) (t' := (FieldType.array FieldType.byte)) (by decide) (by decide)))⟩
theorem R_ST_set_coder {Z : State} {h h' : Heap} {a : Addr} {v0 v1 : Value} {w : Value} {a0 : Array Value} (hw : ∀ d ∈ tables_1, d.before a0 Z = true) (W : Wr h h' a (Jvm.RoadKit.slotOf Z "java/lang/String" "coder" "B") w) (F : R_ST Z h a v0 v1) : R_ST Z h' a v0 w := ⟨Exa.wr W F.1, Fld.other W F.2.1 (Or.inr (slot_ne (Or.inr (hw _ (List.mem_of_getElem? (i := 117) rfl))) (Or.inr (hw _ (List.mem_of_getElem? (i := 119) rfl))) (by decide) (t := (FieldType.array FieldType.byte)) (t' := FieldType.byte) (by decide) (by decide))), Fld.same W F.2.2⟩
theorem pn_0 : plainName "com/example/watermark/watermark/store/BatchState" = true := by first | (simp [plainName, overriddenIn]; done) | decide +kernel
theorem d3_0 : decode prog_16_method_1_code 0 = .ok (.getstatic 22, 3) := by decide +kernel
theorem d3_3 : decode prog_16_method_1_code 3 = .ok (.invokevirtual 26, 3) := by decide +kernel
theorem d3_6 : decode prog_16_method_1_code 6 = .ok (.checkcast 27, 3) := by decide +kernel
theorem d3_9 : decode prog_16_method_1_code 9 = .ok (.areturn, 1) := by decide +kernel
theorem ef_rm_values (m : MethodId)  : entryFrame m #[] 0 = mkF m 0 #[] [] := by first | (simp [entryFrame, mkF, argsToLocals, Value.category]; done) | rfl
set_option maxRecDepth 65536 in
set_option maxHeartbeats 40000000 in
theorem rm_values (l : Launch) (Z : State) (a0 : Array Value) (hw : ∀ d ∈ tables_1, d.before a0 Z = true) (w_VAL : Addr) (kk : ClassId) (vs : List Value) (h0 : Heap) (n0 : Nat) (Z0 : n0 ≤ h0.size) (S__VALUES : Sta Z h0 "com/example/watermark/watermark/store/BatchState" "$VALUES" "[Lcom/example/watermark/watermark/store/BatchState;" (.ref w_VAL)) (V_w_VAL : Arv Z h0 w_VAL kk (FieldType.object "com/example/watermark/watermark/store/BatchState") (6 : Int32) vs .null) (E_w_VAL : Exa Z h0 w_VAL "[Lcom/example/watermark/watermark/store/BatchState;") :
    Ctr l (⟨"com/example/watermark/watermark/store/BatchState", "values", "()[Lcom/example/watermark/watermark/store/BatchState;"⟩ : MethodName) prog_16_method_1_code 0 (some (FieldType.array (FieldType.object "com/example/watermark/watermark/store/BatchState"))) [] ({ frames := 1, cells := 1, slots := 6, locals := 14 } : Room) Z #[] h0 (fun v h L => ∃ b, v = some (.ref b) ∧ Fr n0 L ∧ Keep h0 h [] ∧ h0.size ≤ b ∧ Arv Z h b kk (FieldType.object "com/example/watermark/watermark/store/BatchState") (6 : Int32) vs .null) := by
  refine own_enter pn_0 (fun p e s m below meth c s₁ hx hby hml hown hnm hret hlk hZ X0 e0 => ?_)
  have N0 := Fr.nil n0
  have K0 := Keep.refl h0 []
  rw [ef_rm_values m ]
  show Go p e below (s₁.setTop (mkF m 0 #[] [])) _
  obtain ⟨T1, X1, e1, st1⟩ := getS2 X0 hx hZ hown (host := "") (Or.inl (hw _ (List.mem_of_getElem? (i := 21) rfl))) Via.refl e0 S__VALUES (g := (mkF m 0 #[] [])) rfl (hb hby d3_0)
  refine Go.mp st1 ?_
  show Go p e below (T1.setTop (mkF m 3 #[] [(.ref w_VAL)])) _
  obtain ⟨cl2, Ar2, cq2, sz2, nn2, Ha2, Gf2⟩ := id V_w_VAL
  obtain ⟨T2, h2, X2, e2, E2, A2, C2, st2⟩ := cloneA X1 hx hZ hown (hw _ (List.mem_of_getElem? (i := 23) rfl)) (hw _ (List.mem_of_getElem? (i := 24) rfl)) (hw _ (List.mem_of_getElem? (i := 28) rfl)) (hw _ (List.mem_of_getElem? (i := 26) rfl)) (hw _ (List.mem_of_getElem? (i := 27) rfl)) (hw _ (List.mem_of_getElem? (i := 29) rfl)) e1 Ar2 E_w_VAL (own_fitC Ar2 Ha2 Gf2) (g := (mkF m 3 #[] [(.ref w_VAL)])) rfl (by rw [hml]; rfl) rfl (hb hby d3_3) (by decide) (W := 0) (cap := 6) (by show 2 * 0 + _ ≤ _; exact Nat.le_of_eq rfl) (by decide) (by rw [sz2]; decide) (by decide) (by decide)
  obtain ⟨b2, g2⟩ : ∃ z, z = h0.size := ⟨_, rfl⟩
  rw [← g2] at A2 C2 st2
  have ne_w_VAL_b2 : w_VAL ≠ b2 := Nat.ne_of_lt (Nat.lt_of_lt_of_le V_w_VAL.lt (Nat.le_of_eq g2.symm))
  have g_b2 : n0 ≤ b2 := Nat.le_trans Z0 (Nat.le_of_eq g2.symm)
  have Z2 : n0 ≤ h2.size := Nat.le_trans Z0 E2.1
  have S__VALUES_2 := Sta.ext E2 S__VALUES
  have V_w_VAL_2 := Arv.ext V_w_VAL E2
  have E_w_VAL_2 := Exa.ext E2 E_w_VAL
  have sz_b2 : h0.size ≤ b2 := Nat.le_trans K0.1 (Nat.le_of_eq g2.symm)
  have K2 := Keep.ext K0 E2
  have V2 : Arv Z h2 b2 _ _ _ _ _ := ⟨_, A2, cq2, sz2, nn2, Ha2, Gf2⟩
  refine Go.mp st2 ?_
  show Go p e below (T2.setTop (mkF m 6 #[] [(.ref b2)])) _
  obtain ⟨T3, X3, e3, st3⟩ := castY X2 hx hZ hown (hw _ (List.mem_of_getElem? (i := 37) rfl)) e2 (Ins.self C2) (g := (mkF m 6 #[] [(.ref b2)])) rfl rfl (hb hby d3_6)
  refine Go.mp st3 ?_
  show Go p e below (T3.setTop (mkF m 9 #[] [(.ref b2)])) _
  exact own_retA X3 hx hret hlk rfl rfl (hb hby d3_9) (by decide) (by decide) (by rw [e3]; exact ⟨b2, rfl, N0, K2, sz_b2, V2⟩)
theorem pn_1 : plainName "com/example/watermark/watermark/store/HeldBatches$Fields" = true := by first | (simp [plainName, overriddenIn]; done) | decide +kernel
theorem d4_0 : decode prog_32_method_1_code 0 = .ok (.aload_n 0, 1) := by decide +kernel
theorem d4_1 : decode prog_32_method_1_code 1 = .ok (.invokespecial 1, 3) := by decide +kernel
theorem d4_4 : decode prog_32_method_1_code 4 = .ok (.aload_n 0, 1) := by decide +kernel
theorem d4_5 : decode prog_32_method_1_code 5 = .ok (.iload_n 1, 1) := by decide +kernel
theorem d4_6 : decode prog_32_method_1_code 6 = .ok (.newarray .int, 2) := by decide +kernel
theorem d4_8 : decode prog_32_method_1_code 8 = .ok (.putfield 7, 3) := by decide +kernel
theorem d4_11 : decode prog_32_method_1_code 11 = .ok (.aload_n 0, 1) := by decide +kernel
theorem d4_12 : decode prog_32_method_1_code 12 = .ok (.iload_n 1, 1) := by decide +kernel
theorem d4_13 : decode prog_32_method_1_code 13 = .ok (.newarray .byte, 2) := by decide +kernel
theorem d4_15 : decode prog_32_method_1_code 15 = .ok (.putfield 13, 3) := by decide +kernel
theorem d4_18 : decode prog_32_method_1_code 18 = .ok (.aload_n 0, 1) := by decide +kernel
theorem d4_19 : decode prog_32_method_1_code 19 = .ok (.iload_n 1, 1) := by decide +kernel
theorem d4_20 : decode prog_32_method_1_code 20 = .ok (.newarray .long, 2) := by decide +kernel
theorem d4_22 : decode prog_32_method_1_code 22 = .ok (.putfield 17, 3) := by decide +kernel
theorem d4_25 : decode prog_32_method_1_code 25 = .ok (.aload_n 0, 1) := by decide +kernel
theorem d4_26 : decode prog_32_method_1_code 26 = .ok (.iload_n 1, 1) := by decide +kernel
theorem d4_27 : decode prog_32_method_1_code 27 = .ok (.newarray .boolean, 2) := by decide +kernel
theorem d4_29 : decode prog_32_method_1_code 29 = .ok (.putfield 21, 3) := by decide +kernel
theorem d4_32 : decode prog_32_method_1_code 32 = .ok (.aload_n 0, 1) := by decide +kernel
theorem d4_33 : decode prog_32_method_1_code 33 = .ok (.iload_n 1, 1) := by decide +kernel
theorem d4_34 : decode prog_32_method_1_code 34 = .ok (.newarray .int, 2) := by decide +kernel
theorem d4_36 : decode prog_32_method_1_code 36 = .ok (.putfield 25, 3) := by decide +kernel
theorem d4_39 : decode prog_32_method_1_code 39 = .ok (.aload_n 0, 1) := by decide +kernel
theorem d4_40 : decode prog_32_method_1_code 40 = .ok (.iload_n 1, 1) := by decide +kernel
theorem d4_41 : decode prog_32_method_1_code 41 = .ok (.newarray .long, 2) := by decide +kernel
theorem d4_43 : decode prog_32_method_1_code 43 = .ok (.putfield 28, 3) := by decide +kernel
theorem d4_46 : decode prog_32_method_1_code 46 = .ok (.aload_n 0, 1) := by decide +kernel
theorem d4_47 : decode prog_32_method_1_code 47 = .ok (.iload_n 1, 1) := by decide +kernel
theorem d4_48 : decode prog_32_method_1_code 48 = .ok (.newarray .boolean, 2) := by decide +kernel
theorem d4_50 : decode prog_32_method_1_code 50 = .ok (.putfield 31, 3) := by decide +kernel
theorem d4_53 : decode prog_32_method_1_code 53 = .ok (.aload_n 0, 1) := by decide +kernel
theorem d4_54 : decode prog_32_method_1_code 54 = .ok (.iload_n 1, 1) := by decide +kernel
theorem d4_55 : decode prog_32_method_1_code 55 = .ok (.anewarray 34, 3) := by decide +kernel
theorem d4_58 : decode prog_32_method_1_code 58 = .ok (.putfield 36, 3) := by decide +kernel
theorem d4_61 : decode prog_32_method_1_code 61 = .ok (.aload_n 0, 1) := by decide +kernel
theorem d4_62 : decode prog_32_method_1_code 62 = .ok (.iload_n 1, 1) := by decide +kernel
theorem d4_63 : decode prog_32_method_1_code 63 = .ok (.anewarray 40, 3) := by decide +kernel
theorem d4_66 : decode prog_32_method_1_code 66 = .ok (.putfield 42, 3) := by decide +kernel
theorem d4_69 : decode prog_32_method_1_code 69 = .ok (.return_, 1) := by decide +kernel
theorem ef_rm_fieldsInit (m : MethodId) (x0 : Addr) (x1 : Int32) : entryFrame m #[(.ref x0), (.int x1)] 2 = mkF m 0 #[.val (.ref x0), .val (.int x1)] [] := by first | (simp [entryFrame, mkF, argsToLocals, Value.category]; done) | rfl
set_option maxRecDepth 65536 in
set_option maxHeartbeats 40000000 in
theorem rm_fieldsInit (l : Launch) (Z : State) (a0 : Array Value) (hw : ∀ d ∈ tables_1, d.before a0 Z = true) (a1 : Addr) (h0 : Heap) (n0 : Nat) (Z0 : n0 ≤ h0.size) (O_a1 : R_HF Z h0 a1 .null .null .null .null .null .null .null .null .null) (g_a1 : n0 ≤ a1) :
    Ctr l (⟨"com/example/watermark/watermark/store/HeldBatches$Fields", "<init>", "(I)V"⟩ : MethodName) prog_32_method_1_code 2 none [] ({ frames := 1, cells := 9, slots := 288, locals := 12 } : Room) Z #[(.ref a1), (.int (32 : Int32))] h0 (fun v h L => v = none ∧ Fr n0 L ∧ Keep h0 h [a1]) := by
  refine own_enter pn_1 (fun p e s m below meth c s₁ hx hby hml hown hnm hret hlk hZ X0 e0 => ?_)
  have N0 := Fr.nil n0
  have K0 := Keep.refl h0 [a1]
  rw [ef_rm_fieldsInit m _ _]
  show Go p e below (s₁.setTop (mkF m 0 #[.val (.ref a1), .val (.int (32 : Int32))] [])) _
  refine g_aloadN X0 hx (hb hby d4_0) rfl rfl ?_
  obtain ⟨T1, X1, e1, st1⟩ := initO X0 hx hZ hown (hw _ (List.mem_of_getElem? (i := 64) rfl)) (hw _ (List.mem_of_getElem? (i := 7) rfl)) (hw _ (List.mem_of_getElem? (i := 8) rfl)) e0 (g := (mkF m 1 #[.val (.ref a1), .val (.int (32 : Int32))] [(.ref a1)])) rfl (by rw [hml]; rfl) rfl (hb hby d4_1) (by decide) (W := 0) (by show 2 * 0 + _ ≤ _; exact Nat.le_of_eq rfl) (by decide)
  refine Go.mp st1 ?_
  show Go p e below (T1.setTop (mkF m 4 #[.val (.ref a1), .val (.int (32 : Int32))] [])) _
  refine g_aloadN X1 hx (hb hby d4_4) rfl rfl ?_
  refine g_iloadN X1 hx (hb hby d4_5) rfl ?_
  obtain ⟨T2, h2, k2, X2, e2, E2, A2, st2⟩ := newP X1 hx hZ (hw _ (List.mem_of_getElem? (i := 42) rfl)) e1 (g := (mkF m 6 #[.val (.ref a1), .val (.int (32 : Int32))] [(.int (32 : Int32)), (.ref a1)])) rfl (hb hby d4_6) rfl (by decide) (cap := 32) (by decide) (by decide) (by decide) (by decide)
  obtain ⟨b2, g2⟩ : ∃ z, z = h0.size := ⟨_, rfl⟩
  rw [← g2] at A2 st2
  have ne_a1_b2 : a1 ≠ b2 := Nat.ne_of_lt (Nat.lt_of_lt_of_le O_a1.1.lt (Nat.le_of_eq g2.symm))
  have g_b2 : n0 ≤ b2 := Nat.le_trans Z0 (Nat.le_of_eq g2.symm)
  have Z2 : n0 ≤ h2.size := Nat.le_trans Z0 E2.1
  have O_a1_2 := R_HF_ext E2 O_a1
  have sz_b2 : h0.size ≤ b2 := Nat.le_trans K0.1 (Nat.le_of_eq g2.symm)
  have K2 := Keep.ext K0 E2
  have V2 := Arv.new A2 (by decide)
  refine Go.mp st2 ?_
  have V_b20 := Arv.pad (vs' := List.replicate 32 (.int 0)) V2 (own_pad 32)
  show Go p e below (T2.setTop (mkF m 8 #[.val (.ref a1), .val (.int (32 : Int32))] [(.ref b2), (.ref a1)])) _
  obtain ⟨T3, h3, X3, e3, W3, st3⟩ := putF X2 hx hZ hown (host := "") (Or.inl (hw _ (List.mem_of_getElem? (i := 65) rfl))) Via.refl e2 O_a1_2.2.1 O_a1_2.1 (Or.inr ⟨(hw _ (List.mem_of_getElem? (i := 66) rfl)), rfl, hnm⟩) (hw _ (List.mem_of_getElem? (i := 59) rfl)) (ty := (FieldType.array FieldType.int)) (by decide) rfl rfl (g := (mkF m 8 #[.val (.ref a1), .val (.int (32 : Int32))] [(.ref b2), (.ref a1)])) rfl rfl (hb hby d4_8)
  have N3 := Fr.snoc X3 N0 g_a1
  have O_a1_3 := R_HF_set_generations hw W3 O_a1_2
  have V_b2_3 := Arv.other V_b20 W3 (Ne.symm ne_a1_b2)
  have Z3 : n0 ≤ h3.size := Nat.le_trans Z2 (Nat.le_of_eq W3.size.symm)
  have K3 := Keep.wr K2 W3 (Or.inl (List.mem_of_getElem? (i := 0) rfl))
  refine Go.mp st3 ?_
  show Go p e below (T3.setTop (mkF m 11 #[.val (.ref a1), .val (.int (32 : Int32))] [])) _
  refine g_aloadN X3 hx (hb hby d4_11) rfl rfl ?_
  refine g_iloadN X3 hx (hb hby d4_12) rfl ?_
  obtain ⟨T4, h4, k4, X4, e4, E4, A4, st4⟩ := newP X3 hx hZ (hw _ (List.mem_of_getElem? (i := 51) rfl)) e3 (g := (mkF m 13 #[.val (.ref a1), .val (.int (32 : Int32))] [(.int (32 : Int32)), (.ref a1)])) rfl (hb hby d4_13) rfl (by decide) (cap := 32) (by decide) (by decide) (by decide) (by decide)
  obtain ⟨b4, g4⟩ : ∃ z, z = h3.size := ⟨_, rfl⟩
  rw [← g4] at A4 st4
  have ne_a1_b4 : a1 ≠ b4 := Nat.ne_of_lt (Nat.lt_of_lt_of_le O_a1_3.1.lt (Nat.le_of_eq g4.symm))
  have g_b4 : n0 ≤ b4 := Nat.le_trans Z3 (Nat.le_of_eq g4.symm)
  have Z4 : n0 ≤ h4.size := Nat.le_trans Z3 E4.1
  have O_a1_4 := R_HF_ext E4 O_a1_3
  have sz_b4 : h0.size ≤ b4 := Nat.le_trans K3.1 (Nat.le_of_eq g4.symm)
  have K4 := Keep.ext K3 E4
  have V4 := Arv.new A4 (by decide)
  refine Go.mp st4 ?_
  have V_b40 := Arv.pad (vs' := List.replicate 32 (.int 0)) V4 (own_pad 32)
  show Go p e below (T4.setTop (mkF m 15 #[.val (.ref a1), .val (.int (32 : Int32))] [(.ref b4), (.ref a1)])) _
  obtain ⟨T5, h5, X5, e5, W5, st5⟩ := putF X4 hx hZ hown (host := "") (Or.inl (hw _ (List.mem_of_getElem? (i := 67) rfl))) Via.refl e4 O_a1_4.2.2.1 O_a1_4.1 (Or.inr ⟨(hw _ (List.mem_of_getElem? (i := 68) rfl)), rfl, hnm⟩) (hw _ (List.mem_of_getElem? (i := 59) rfl)) (ty := (FieldType.array FieldType.byte)) (by decide) rfl rfl (g := (mkF m 15 #[.val (.ref a1), .val (.int (32 : Int32))] [(.ref b4), (.ref a1)])) rfl rfl (hb hby d4_15)
  have N5 := Fr.snoc X5 N3 g_a1
  have O_a1_5 := R_HF_set_states hw W5 O_a1_4
  have V_b4_5 := Arv.other V_b40 W5 (Ne.symm ne_a1_b4)
  have Z5 : n0 ≤ h5.size := Nat.le_trans Z4 (Nat.le_of_eq W5.size.symm)
  have K5 := Keep.wr K4 W5 (Or.inl (List.mem_of_getElem? (i := 0) rfl))
  refine Go.mp st5 ?_
  show Go p e below (T5.setTop (mkF m 18 #[.val (.ref a1), .val (.int (32 : Int32))] [])) _
  refine g_aloadN X5 hx (hb hby d4_18) rfl rfl ?_
  refine g_iloadN X5 hx (hb hby d4_19) rfl ?_
  obtain ⟨T6, h6, k6, X6, e6, E6, A6, st6⟩ := newP X5 hx hZ (hw _ (List.mem_of_getElem? (i := 39) rfl)) e5 (g := (mkF m 20 #[.val (.ref a1), .val (.int (32 : Int32))] [(.int (32 : Int32)), (.ref a1)])) rfl (hb hby d4_20) rfl (by decide) (cap := 32) (by decide) (by decide) (by decide) (by decide)
  obtain ⟨b6, g6⟩ : ∃ z, z = h5.size := ⟨_, rfl⟩
  rw [← g6] at A6 st6
  have ne_a1_b6 : a1 ≠ b6 := Nat.ne_of_lt (Nat.lt_of_lt_of_le O_a1_5.1.lt (Nat.le_of_eq g6.symm))
  have g_b6 : n0 ≤ b6 := Nat.le_trans Z5 (Nat.le_of_eq g6.symm)
  have Z6 : n0 ≤ h6.size := Nat.le_trans Z5 E6.1
  have O_a1_6 := R_HF_ext E6 O_a1_5
  have sz_b6 : h0.size ≤ b6 := Nat.le_trans K5.1 (Nat.le_of_eq g6.symm)
  have K6 := Keep.ext K5 E6
  have V6 := Arv.new A6 (by decide)
  refine Go.mp st6 ?_
  have V_b60 := Arv.pad (vs' := List.replicate 32 (.long 0)) V6 (own_pad 32)
  show Go p e below (T6.setTop (mkF m 22 #[.val (.ref a1), .val (.int (32 : Int32))] [(.ref b6), (.ref a1)])) _
  obtain ⟨T7, h7, X7, e7, W7, st7⟩ := putF X6 hx hZ hown (host := "") (Or.inl (hw _ (List.mem_of_getElem? (i := 69) rfl))) Via.refl e6 O_a1_6.2.2.2.1 O_a1_6.1 (Or.inr ⟨(hw _ (List.mem_of_getElem? (i := 70) rfl)), rfl, hnm⟩) (hw _ (List.mem_of_getElem? (i := 59) rfl)) (ty := (FieldType.array FieldType.long)) (by decide) rfl rfl (g := (mkF m 22 #[.val (.ref a1), .val (.int (32 : Int32))] [(.ref b6), (.ref a1)])) rfl rfl (hb hby d4_22)
  have N7 := Fr.snoc X7 N5 g_a1
  have O_a1_7 := R_HF_set_changedAts hw W7 O_a1_6
  have V_b6_7 := Arv.other V_b60 W7 (Ne.symm ne_a1_b6)
  have Z7 : n0 ≤ h7.size := Nat.le_trans Z6 (Nat.le_of_eq W7.size.symm)
  have K7 := Keep.wr K6 W7 (Or.inl (List.mem_of_getElem? (i := 0) rfl))
  refine Go.mp st7 ?_
  show Go p e below (T7.setTop (mkF m 25 #[.val (.ref a1), .val (.int (32 : Int32))] [])) _
  refine g_aloadN X7 hx (hb hby d4_25) rfl rfl ?_
  refine g_iloadN X7 hx (hb hby d4_26) rfl ?_
  obtain ⟨T8, h8, k8, X8, e8, E8, A8, st8⟩ := newP X7 hx hZ (hw _ (List.mem_of_getElem? (i := 71) rfl)) e7 (g := (mkF m 27 #[.val (.ref a1), .val (.int (32 : Int32))] [(.int (32 : Int32)), (.ref a1)])) rfl (hb hby d4_27) rfl (by decide) (cap := 32) (by decide) (by decide) (by decide) (by decide)
  obtain ⟨b8, g8⟩ : ∃ z, z = h7.size := ⟨_, rfl⟩
  rw [← g8] at A8 st8
  have ne_a1_b8 : a1 ≠ b8 := Nat.ne_of_lt (Nat.lt_of_lt_of_le O_a1_7.1.lt (Nat.le_of_eq g8.symm))
  have g_b8 : n0 ≤ b8 := Nat.le_trans Z7 (Nat.le_of_eq g8.symm)
  have Z8 : n0 ≤ h8.size := Nat.le_trans Z7 E8.1
  have O_a1_8 := R_HF_ext E8 O_a1_7
  have sz_b8 : h0.size ≤ b8 := Nat.le_trans K7.1 (Nat.le_of_eq g8.symm)
  have K8 := Keep.ext K7 E8
  have V8 := Arv.new A8 (by decide)
  refine Go.mp st8 ?_
  have V_b80 := Arv.pad (vs' := List.replicate 32 (.int 0)) V8 (own_pad 32)
  show Go p e below (T8.setTop (mkF m 29 #[.val (.ref a1), .val (.int (32 : Int32))] [(.ref b8), (.ref a1)])) _
  obtain ⟨T9, h9, X9, e9, W9, st9⟩ := putF X8 hx hZ hown (host := "") (Or.inl (hw _ (List.mem_of_getElem? (i := 72) rfl))) Via.refl e8 O_a1_8.2.2.2.2.1 O_a1_8.1 (Or.inr ⟨(hw _ (List.mem_of_getElem? (i := 73) rfl)), rfl, hnm⟩) (hw _ (List.mem_of_getElem? (i := 59) rfl)) (ty := (FieldType.array FieldType.boolean)) (by decide) rfl rfl (g := (mkF m 29 #[.val (.ref a1), .val (.int (32 : Int32))] [(.ref b8), (.ref a1)])) rfl rfl (hb hby d4_29)
  have N9 := Fr.snoc X9 N7 g_a1
  have O_a1_9 := R_HF_set_hasDeadlines hw W9 O_a1_8
  have V_b8_9 := Arv.other V_b80 W9 (Ne.symm ne_a1_b8)
  have Z9 : n0 ≤ h9.size := Nat.le_trans Z8 (Nat.le_of_eq W9.size.symm)
  have K9 := Keep.wr K8 W9 (Or.inl (List.mem_of_getElem? (i := 0) rfl))
  refine Go.mp st9 ?_
  show Go p e below (T9.setTop (mkF m 32 #[.val (.ref a1), .val (.int (32 : Int32))] [])) _
  refine g_aloadN X9 hx (hb hby d4_32) rfl rfl ?_
  refine g_iloadN X9 hx (hb hby d4_33) rfl ?_
  obtain ⟨T10, h10, k10, X10, e10, E10, A10, st10⟩ := newP X9 hx hZ (hw _ (List.mem_of_getElem? (i := 42) rfl)) e9 (g := (mkF m 34 #[.val (.ref a1), .val (.int (32 : Int32))] [(.int (32 : Int32)), (.ref a1)])) rfl (hb hby d4_34) rfl (by decide) (cap := 32) (by decide) (by decide) (by decide) (by decide)
  obtain ⟨b10, g10⟩ : ∃ z, z = h9.size := ⟨_, rfl⟩
  rw [← g10] at A10 st10
  have ne_a1_b10 : a1 ≠ b10 := Nat.ne_of_lt (Nat.lt_of_lt_of_le O_a1_9.1.lt (Nat.le_of_eq g10.symm))
  have g_b10 : n0 ≤ b10 := Nat.le_trans Z9 (Nat.le_of_eq g10.symm)
  have Z10 : n0 ≤ h10.size := Nat.le_trans Z9 E10.1
  have O_a1_10 := R_HF_ext E10 O_a1_9
  have sz_b10 : h0.size ≤ b10 := Nat.le_trans K9.1 (Nat.le_of_eq g10.symm)
  have K10 := Keep.ext K9 E10
  have V10 := Arv.new A10 (by decide)
  refine Go.mp st10 ?_
  have V_b100 := Arv.pad (vs' := List.replicate 32 (.int 0)) V10 (own_pad 32)
  show Go p e below (T10.setTop (mkF m 36 #[.val (.ref a1), .val (.int (32 : Int32))] [(.ref b10), (.ref a1)])) _
  obtain ⟨T11, h11, X11, e11, W11, st11⟩ := putF X10 hx hZ hown (host := "") (Or.inl (hw _ (List.mem_of_getElem? (i := 74) rfl))) Via.refl e10 O_a1_10.2.2.2.2.2.1 O_a1_10.1 (Or.inr ⟨(hw _ (List.mem_of_getElem? (i := 75) rfl)), rfl, hnm⟩) (hw _ (List.mem_of_getElem? (i := 59) rfl)) (ty := (FieldType.array FieldType.int)) (by decide) rfl rfl (g := (mkF m 36 #[.val (.ref a1), .val (.int (32 : Int32))] [(.ref b10), (.ref a1)])) rfl rfl (hb hby d4_36)
  have N11 := Fr.snoc X11 N9 g_a1
  have O_a1_11 := R_HF_set_deadlineSeconds hw W11 O_a1_10
  have V_b10_11 := Arv.other V_b100 W11 (Ne.symm ne_a1_b10)
  have Z11 : n0 ≤ h11.size := Nat.le_trans Z10 (Nat.le_of_eq W11.size.symm)
  have K11 := Keep.wr K10 W11 (Or.inl (List.mem_of_getElem? (i := 0) rfl))
  refine Go.mp st11 ?_
  show Go p e below (T11.setTop (mkF m 39 #[.val (.ref a1), .val (.int (32 : Int32))] [])) _
  refine g_aloadN X11 hx (hb hby d4_39) rfl rfl ?_
  refine g_iloadN X11 hx (hb hby d4_40) rfl ?_
  obtain ⟨T12, h12, k12, X12, e12, E12, A12, st12⟩ := newP X11 hx hZ (hw _ (List.mem_of_getElem? (i := 39) rfl)) e11 (g := (mkF m 41 #[.val (.ref a1), .val (.int (32 : Int32))] [(.int (32 : Int32)), (.ref a1)])) rfl (hb hby d4_41) rfl (by decide) (cap := 32) (by decide) (by decide) (by decide) (by decide)
  obtain ⟨b12, g12⟩ : ∃ z, z = h11.size := ⟨_, rfl⟩
  rw [← g12] at A12 st12
  have ne_a1_b12 : a1 ≠ b12 := Nat.ne_of_lt (Nat.lt_of_lt_of_le O_a1_11.1.lt (Nat.le_of_eq g12.symm))
  have g_b12 : n0 ≤ b12 := Nat.le_trans Z11 (Nat.le_of_eq g12.symm)
  have Z12 : n0 ≤ h12.size := Nat.le_trans Z11 E12.1
  have O_a1_12 := R_HF_ext E12 O_a1_11
  have sz_b12 : h0.size ≤ b12 := Nat.le_trans K11.1 (Nat.le_of_eq g12.symm)
  have K12 := Keep.ext K11 E12
  have V12 := Arv.new A12 (by decide)
  refine Go.mp st12 ?_
  have V_b120 := Arv.pad (vs' := List.replicate 32 (.long 0)) V12 (own_pad 32)
  show Go p e below (T12.setTop (mkF m 43 #[.val (.ref a1), .val (.int (32 : Int32))] [(.ref b12), (.ref a1)])) _
  obtain ⟨T13, h13, X13, e13, W13, st13⟩ := putF X12 hx hZ hown (host := "") (Or.inl (hw _ (List.mem_of_getElem? (i := 76) rfl))) Via.refl e12 O_a1_12.2.2.2.2.2.2.1 O_a1_12.1 (Or.inr ⟨(hw _ (List.mem_of_getElem? (i := 77) rfl)), rfl, hnm⟩) (hw _ (List.mem_of_getElem? (i := 59) rfl)) (ty := (FieldType.array FieldType.long)) (by decide) rfl rfl (g := (mkF m 43 #[.val (.ref a1), .val (.int (32 : Int32))] [(.ref b12), (.ref a1)])) rfl rfl (hb hby d4_43)
  have N13 := Fr.snoc X13 N11 g_a1
  have O_a1_13 := R_HF_set_deadlineAts hw W13 O_a1_12
  have V_b12_13 := Arv.other V_b120 W13 (Ne.symm ne_a1_b12)
  have Z13 : n0 ≤ h13.size := Nat.le_trans Z12 (Nat.le_of_eq W13.size.symm)
  have K13 := Keep.wr K12 W13 (Or.inl (List.mem_of_getElem? (i := 0) rfl))
  refine Go.mp st13 ?_
  show Go p e below (T13.setTop (mkF m 46 #[.val (.ref a1), .val (.int (32 : Int32))] [])) _
  refine g_aloadN X13 hx (hb hby d4_46) rfl rfl ?_
  refine g_iloadN X13 hx (hb hby d4_47) rfl ?_
  obtain ⟨T14, h14, k14, X14, e14, E14, A14, st14⟩ := newP X13 hx hZ (hw _ (List.mem_of_getElem? (i := 71) rfl)) e13 (g := (mkF m 48 #[.val (.ref a1), .val (.int (32 : Int32))] [(.int (32 : Int32)), (.ref a1)])) rfl (hb hby d4_48) rfl (by decide) (cap := 32) (by decide) (by decide) (by decide) (by decide)
  obtain ⟨b14, g14⟩ : ∃ z, z = h13.size := ⟨_, rfl⟩
  rw [← g14] at A14 st14
  have ne_a1_b14 : a1 ≠ b14 := Nat.ne_of_lt (Nat.lt_of_lt_of_le O_a1_13.1.lt (Nat.le_of_eq g14.symm))
  have g_b14 : n0 ≤ b14 := Nat.le_trans Z13 (Nat.le_of_eq g14.symm)
  have Z14 : n0 ≤ h14.size := Nat.le_trans Z13 E14.1
  have O_a1_14 := R_HF_ext E14 O_a1_13
  have sz_b14 : h0.size ≤ b14 := Nat.le_trans K13.1 (Nat.le_of_eq g14.symm)
  have K14 := Keep.ext K13 E14
  have V14 := Arv.new A14 (by decide)
  refine Go.mp st14 ?_
  have V_b140 := Arv.pad (vs' := List.replicate 32 (.int 0)) V14 (own_pad 32)
  show Go p e below (T14.setTop (mkF m 50 #[.val (.ref a1), .val (.int (32 : Int32))] [(.ref b14), (.ref a1)])) _
  obtain ⟨T15, h15, X15, e15, W15, st15⟩ := putF X14 hx hZ hown (host := "") (Or.inl (hw _ (List.mem_of_getElem? (i := 78) rfl))) Via.refl e14 O_a1_14.2.2.2.2.2.2.2.1 O_a1_14.1 (Or.inr ⟨(hw _ (List.mem_of_getElem? (i := 79) rfl)), rfl, hnm⟩) (hw _ (List.mem_of_getElem? (i := 59) rfl)) (ty := (FieldType.array FieldType.boolean)) (by decide) rfl rfl (g := (mkF m 50 #[.val (.ref a1), .val (.int (32 : Int32))] [(.ref b14), (.ref a1)])) rfl rfl (hb hby d4_50)
  have N15 := Fr.snoc X15 N13 g_a1
  have O_a1_15 := R_HF_set_endsOnFailure hw W15 O_a1_14
  have V_b14_15 := Arv.other V_b140 W15 (Ne.symm ne_a1_b14)
  have Z15 : n0 ≤ h15.size := Nat.le_trans Z14 (Nat.le_of_eq W15.size.symm)
  have K15 := Keep.wr K14 W15 (Or.inl (List.mem_of_getElem? (i := 0) rfl))
  refine Go.mp st15 ?_
  show Go p e below (T15.setTop (mkF m 53 #[.val (.ref a1), .val (.int (32 : Int32))] [])) _
  refine g_aloadN X15 hx (hb hby d4_53) rfl rfl ?_
  refine g_iloadN X15 hx (hb hby d4_54) rfl ?_
  obtain ⟨T16, h16, k16, X16, e16, E16, A16, O16, st16⟩ := newR X15 hx hZ hown (hw _ (List.mem_of_getElem? (i := 80) rfl)) (hw _ (List.mem_of_getElem? (i := 81) rfl)) e15 (g := (mkF m 55 #[.val (.ref a1), .val (.int (32 : Int32))] [(.int (32 : Int32)), (.ref a1)])) rfl (hb hby d4_55) rfl (by decide) (cap := 32) (by decide) (by decide) (by decide) (by decide)
  obtain ⟨b16, g16⟩ : ∃ z, z = h15.size := ⟨_, rfl⟩
  rw [← g16] at A16 st16
  have ne_a1_b16 : a1 ≠ b16 := Nat.ne_of_lt (Nat.lt_of_lt_of_le O_a1_15.1.lt (Nat.le_of_eq g16.symm))
  have g_b16 : n0 ≤ b16 := Nat.le_trans Z15 (Nat.le_of_eq g16.symm)
  have Z16 : n0 ≤ h16.size := Nat.le_trans Z15 E16.1
  have O_a1_16 := R_HF_ext E16 O_a1_15
  have sz_b16 : h0.size ≤ b16 := Nat.le_trans K15.1 (Nat.le_of_eq g16.symm)
  have K16 := Keep.ext K15 E16
  have V16 := Arv.new A16 (by decide)
  refine Go.mp st16 ?_
  have V_b160 := Arv.pad (vs' := List.replicate 32 .null) V16 (own_pad 32)
  show Go p e below (T16.setTop (mkF m 58 #[.val (.ref a1), .val (.int (32 : Int32))] [(.ref b16), (.ref a1)])) _
  obtain ⟨T17, h17, X17, e17, W17, st17⟩ := putF X16 hx hZ hown (host := "") (Or.inl (hw _ (List.mem_of_getElem? (i := 82) rfl))) Via.refl e16 O_a1_16.2.2.2.2.2.2.2.2.1 O_a1_16.1 (Or.inr ⟨(hw _ (List.mem_of_getElem? (i := 83) rfl)), rfl, hnm⟩) (hw _ (List.mem_of_getElem? (i := 59) rfl)) (ty := (FieldType.array (FieldType.object "java/lang/String"))) (by decide) rfl rfl (g := (mkF m 58 #[.val (.ref a1), .val (.int (32 : Int32))] [(.ref b16), (.ref a1)])) rfl rfl (hb hby d4_58)
  have N17 := Fr.snoc X17 N15 g_a1
  have O_a1_17 := R_HF_set_userKeys hw W17 O_a1_16
  have V_b16_17 := Arv.other V_b160 W17 (Ne.symm ne_a1_b16)
  have Z17 : n0 ≤ h17.size := Nat.le_trans Z16 (Nat.le_of_eq W17.size.symm)
  have K17 := Keep.wr K16 W17 (Or.inl (List.mem_of_getElem? (i := 0) rfl))
  refine Go.mp st17 ?_
  show Go p e below (T17.setTop (mkF m 61 #[.val (.ref a1), .val (.int (32 : Int32))] [])) _
  refine g_aloadN X17 hx (hb hby d4_61) rfl rfl ?_
  refine g_iloadN X17 hx (hb hby d4_62) rfl ?_
  obtain ⟨T18, h18, k18, X18, e18, E18, A18, O18, st18⟩ := newR X17 hx hZ hown (hw _ (List.mem_of_getElem? (i := 84) rfl)) (hw _ (List.mem_of_getElem? (i := 85) rfl)) e17 (g := (mkF m 63 #[.val (.ref a1), .val (.int (32 : Int32))] [(.int (32 : Int32)), (.ref a1)])) rfl (hb hby d4_63) rfl (by decide) (cap := 32) (by decide) (by decide) (by decide) (by decide)
  obtain ⟨b18, g18⟩ : ∃ z, z = h17.size := ⟨_, rfl⟩
  rw [← g18] at A18 st18
  have ne_a1_b18 : a1 ≠ b18 := Nat.ne_of_lt (Nat.lt_of_lt_of_le O_a1_17.1.lt (Nat.le_of_eq g18.symm))
  have g_b18 : n0 ≤ b18 := Nat.le_trans Z17 (Nat.le_of_eq g18.symm)
  have Z18 : n0 ≤ h18.size := Nat.le_trans Z17 E18.1
  have O_a1_18 := R_HF_ext E18 O_a1_17
  have sz_b18 : h0.size ≤ b18 := Nat.le_trans K17.1 (Nat.le_of_eq g18.symm)
  have K18 := Keep.ext K17 E18
  have V18 := Arv.new A18 (by decide)
  refine Go.mp st18 ?_
  have V_b180 := Arv.pad (vs' := List.replicate 32 .null) V18 (own_pad 32)
  show Go p e below (T18.setTop (mkF m 66 #[.val (.ref a1), .val (.int (32 : Int32))] [(.ref b18), (.ref a1)])) _
  obtain ⟨T19, h19, X19, e19, W19, st19⟩ := putF X18 hx hZ hown (host := "") (Or.inl (hw _ (List.mem_of_getElem? (i := 86) rfl))) Via.refl e18 O_a1_18.2.2.2.2.2.2.2.2.2 O_a1_18.1 (Or.inr ⟨(hw _ (List.mem_of_getElem? (i := 87) rfl)), rfl, hnm⟩) (hw _ (List.mem_of_getElem? (i := 59) rfl)) (ty := (FieldType.array (FieldType.object "com/example/watermark/watermark/store/BatchItems"))) (by decide) rfl rfl (g := (mkF m 66 #[.val (.ref a1), .val (.int (32 : Int32))] [(.ref b18), (.ref a1)])) rfl rfl (hb hby d4_66)
  have N19 := Fr.snoc X19 N17 g_a1
  have O_a1_19 := R_HF_set_items hw W19 O_a1_18
  have V_b18_19 := Arv.other V_b180 W19 (Ne.symm ne_a1_b18)
  have Z19 : n0 ≤ h19.size := Nat.le_trans Z18 (Nat.le_of_eq W19.size.symm)
  have K19 := Keep.wr K18 W19 (Or.inl (List.mem_of_getElem? (i := 0) rfl))
  refine Go.mp st19 ?_
  show Go p e below (T19.setTop (mkF m 69 #[.val (.ref a1), .val (.int (32 : Int32))] [])) _
  exact own_retV X19 hx hret hlk (hb hby d4_69) (by decide) (by decide) (by rw [e19]; exact ⟨rfl, N19, K19⟩)
theorem pn_2 : plainName "java/util/Arrays" = true := by first | (simp [plainName, overriddenIn]; done) | decide +kernel
theorem d5_0 : decode jdk_65_method_103_code 0 = .ok (.iconst 0, 1) := by decide +kernel
theorem d5_1 : decode jdk_65_method_103_code 1 = .ok (.istore_n 2, 1) := by decide +kernel
theorem d5_2 : decode jdk_65_method_103_code 2 = .ok (.aload_n 0, 1) := by decide +kernel
theorem d5_3 : decode jdk_65_method_103_code 3 = .ok (.arraylength, 1) := by decide +kernel
theorem d5_4 : decode jdk_65_method_103_code 4 = .ok (.istore_n 3, 1) := by decide +kernel
theorem d5_5 : decode jdk_65_method_103_code 5 = .ok (.iload_n 2, 1) := by decide +kernel
theorem d5_6 : decode jdk_65_method_103_code 6 = .ok (.iload_n 3, 1) := by decide +kernel
theorem d5_7 : decode jdk_65_method_103_code 7 = .ok (.if_icmp .ge 13, 3) := by decide +kernel
theorem d5_10 : decode jdk_65_method_103_code 10 = .ok (.aload_n 0, 1) := by decide +kernel
theorem d5_11 : decode jdk_65_method_103_code 11 = .ok (.iload_n 2, 1) := by decide +kernel
theorem d5_12 : decode jdk_65_method_103_code 12 = .ok (.iload_n 1, 1) := by decide +kernel
theorem d5_13 : decode jdk_65_method_103_code 13 = .ok (.iastore, 1) := by decide +kernel
theorem d5_14 : decode jdk_65_method_103_code 14 = .ok (.iinc 2 1, 3) := by decide +kernel
theorem d5_17 : decode jdk_65_method_103_code 17 = .ok (.goto (-12), 3) := by decide +kernel
theorem d5_20 : decode jdk_65_method_103_code 20 = .ok (.return_, 1) := by decide +kernel
theorem ef_rm_fill (m : MethodId) (x0 : Addr) (x1 : Int32) : entryFrame m #[(.ref x0), (.int x1)] 4 = mkF m 0 #[.val (.ref x0), .val (.int x1), .unset, .unset] [] := by first | (simp [entryFrame, mkF, argsToLocals, Value.category]; done) | rfl
set_option maxRecDepth 65536 in
set_option maxHeartbeats 40000000 in
theorem rm_fill (l : Launch) (Z : State) (a0 : Array Value) (hw : ∀ d ∈ tables_1, d.before a0 Z = true) (a1 : Addr) (i1 : Int32) (h0 : Heap) (n0 : Nat) (Z0 : n0 ≤ h0.size) (U_a1 : ArU Z h0 a1 .int 32) (g_a1 : n0 ≤ a1) :
    Ctr l (⟨"java/util/Arrays", "fill", "([II)V"⟩ : MethodName) jdk_65_method_103_code 4 none [] ({ frames := 0, cells := 0, slots := 0, locals := 0 } : Room) Z #[(.ref a1), (.int i1)] h0 (fun v h L => v = none ∧ Fr n0 L ∧ Keep h0 h [a1]) := by
  refine own_enter pn_2 (fun p e s m below meth c s₁ hx hby hml hown hnm hret hlk hZ X0 e0 => ?_)
  have N0 := Fr.nil n0
  have K0 := Keep.refl h0 [a1]
  rw [ef_rm_fill m _ _]
  show Go p e below (s₁.setTop (mkF m 0 #[.val (.ref a1), .val (.int i1), .unset, .unset] [])) _
  refine g_iconst X0 hx (0 : Int32) (hb hby d5_0) (by decide) ?_
  refine g_istoreN X0 hx #[.val (.ref a1), .val (.int i1), .val (.int (0 : Int32)), .unset] (hb hby d5_1) rfl ?_
  refine g_aloadN X0 hx (hb hby d5_2) rfl rfl ?_
  obtain ⟨cl1, Ar1, sz1⟩ := id U_a1
  refine Go.mp (fun _ k => X0.arraylength hx (by rw [e0]; exact Ar1.1) (State.isArrayOf_alike hZ.alike Ar1.2.1) (g := (mkF m 3 #[.val (.ref a1), .val (.int i1), .val (.int (0 : Int32)), .unset] [(.ref a1)])) rfl rfl (hb hby d5_3) _ k) ?_
  rw [show cl1.slots.size.toInt32 = (32 : Int32) from by rw [sz1]; rfl]
  show Go p e below (s₁.setTop (mkF m 4 #[.val (.ref a1), .val (.int i1), .val (.int (0 : Int32)), .unset] [(.int (32 : Int32))])) _
  refine g_istoreN X0 hx #[.val (.ref a1), .val (.int i1), .val (.int (0 : Int32)), .val (.int (32 : Int32))] (hb hby d5_4) rfl ?_
  refine g_iloadN X0 hx (hb hby d5_5) rfl ?_
  refine g_iloadN X0 hx (hb hby d5_6) rfl ?_
  refine g_icmpNo X0 hx (hb hby d5_7) (tlt ((by decide) : (0 : Int32) < (32 : Int32))).2.1 ?_
  refine g_aloadN X0 hx (hb hby d5_10) rfl rfl ?_
  refine g_iloadN X0 hx (hb hby d5_11) rfl ?_
  refine g_iloadN X0 hx (hb hby d5_12) rfl ?_
  obtain ⟨cl2, Ar2, sz2⟩ := id U_a1
  have hin2 : ¬ ((0 : Int32) < 0 ∨ cl2.slots.size ≤ (0 : Int32).toNatClampNeg) := by rw [sz2]; decide
  obtain ⟨T2, h2, X2, e2, W2, st2⟩ := stI X0 hx hZ e0 Ar2 (j := 0) hin2 (g := (mkF m 13 #[.val (.ref a1), .val (.int i1), .val (.int (0 : Int32)), .val (.int (32 : Int32))] [(.int i1), (.int (0 : Int32)), (.ref a1)])) rfl rfl (hb hby d5_13)
  have N2 := Fr.snoc X2 N0 g_a1
  have U_a1_2 := ArU.same W2 U_a1
  have K2 := Keep.wr K0 W2 (Or.inl (List.mem_of_getElem? (i := 0) rfl))
  have Z2 : n0 ≤ h2.size := Nat.le_trans Z0 (Nat.le_of_eq W2.size.symm)
  refine Go.mp st2 ?_
  show Go p e below (T2.setTop (mkF m 14 #[.val (.ref a1), .val (.int i1), .val (.int (0 : Int32)), .val (.int (32 : Int32))] [])) _
  refine Go.mp (fun _ k => XS.iinc X2.here hx rfl (hb hby d5_14) rfl (l' := #[.val (.ref a1), .val (.int i1), .val (.int ((0 : Int32) + (1 : Int32))), .val (.int (32 : Int32))]) rfl k) ?_
  show Go p e below (T2.setTop (mkF m 17 #[.val (.ref a1), .val (.int i1), .val (.int ((0 : Int32) + (1 : Int32))), .val (.int (32 : Int32))] [])) _
  rw [show ((0 : Int32) + (1 : Int32)) = (1 : Int32) from by decide]
  show Go p e below (T2.setTop (mkF m 17 #[.val (.ref a1), .val (.int i1), .val (.int (1 : Int32)), .val (.int (32 : Int32))] [])) _
  refine g_goto X2 hx 5 (hb hby d5_17) (by decide) (by decide) ?_
  refine g_iloadN X2 hx (hb hby d5_5) rfl ?_
  refine g_iloadN X2 hx (hb hby d5_6) rfl ?_
  refine g_icmpNo X2 hx (hb hby d5_7) (tlt ((by decide) : (1 : Int32) < (32 : Int32))).2.1 ?_
  refine g_aloadN X2 hx (hb hby d5_10) rfl rfl ?_
  refine g_iloadN X2 hx (hb hby d5_11) rfl ?_
  refine g_iloadN X2 hx (hb hby d5_12) rfl ?_
  obtain ⟨cl3, Ar3, sz3⟩ := id U_a1_2
  have hin3 : ¬ ((1 : Int32) < 0 ∨ cl3.slots.size ≤ (1 : Int32).toNatClampNeg) := by rw [sz3]; decide
  obtain ⟨T3, h3, X3, e3, W3, st3⟩ := stI X2 hx hZ e2 Ar3 (j := 1) hin3 (g := (mkF m 13 #[.val (.ref a1), .val (.int i1), .val (.int (1 : Int32)), .val (.int (32 : Int32))] [(.int i1), (.int (1 : Int32)), (.ref a1)])) rfl rfl (hb hby d5_13)
  have N3 := Fr.snoc X3 N2 g_a1
  have U_a1_3 := ArU.same W3 U_a1_2
  have K3 := Keep.wr K2 W3 (Or.inl (List.mem_of_getElem? (i := 0) rfl))
  have Z3 : n0 ≤ h3.size := Nat.le_trans Z2 (Nat.le_of_eq W3.size.symm)
  refine Go.mp st3 ?_
  show Go p e below (T3.setTop (mkF m 14 #[.val (.ref a1), .val (.int i1), .val (.int (1 : Int32)), .val (.int (32 : Int32))] [])) _
  refine Go.mp (fun _ k => XS.iinc X3.here hx rfl (hb hby d5_14) rfl (l' := #[.val (.ref a1), .val (.int i1), .val (.int ((1 : Int32) + (1 : Int32))), .val (.int (32 : Int32))]) rfl k) ?_
  show Go p e below (T3.setTop (mkF m 17 #[.val (.ref a1), .val (.int i1), .val (.int ((1 : Int32) + (1 : Int32))), .val (.int (32 : Int32))] [])) _
  rw [show ((1 : Int32) + (1 : Int32)) = (2 : Int32) from by decide]
  show Go p e below (T3.setTop (mkF m 17 #[.val (.ref a1), .val (.int i1), .val (.int (2 : Int32)), .val (.int (32 : Int32))] [])) _
  refine g_goto X3 hx 5 (hb hby d5_17) (by decide) (by decide) ?_
  refine g_iloadN X3 hx (hb hby d5_5) rfl ?_
  refine g_iloadN X3 hx (hb hby d5_6) rfl ?_
  refine g_icmpNo X3 hx (hb hby d5_7) (tlt ((by decide) : (2 : Int32) < (32 : Int32))).2.1 ?_
  refine g_aloadN X3 hx (hb hby d5_10) rfl rfl ?_
  refine g_iloadN X3 hx (hb hby d5_11) rfl ?_
  refine g_iloadN X3 hx (hb hby d5_12) rfl ?_
  obtain ⟨cl4, Ar4, sz4⟩ := id U_a1_3
  have hin4 : ¬ ((2 : Int32) < 0 ∨ cl4.slots.size ≤ (2 : Int32).toNatClampNeg) := by rw [sz4]; decide
  obtain ⟨T4, h4, X4, e4, W4, st4⟩ := stI X3 hx hZ e3 Ar4 (j := 2) hin4 (g := (mkF m 13 #[.val (.ref a1), .val (.int i1), .val (.int (2 : Int32)), .val (.int (32 : Int32))] [(.int i1), (.int (2 : Int32)), (.ref a1)])) rfl rfl (hb hby d5_13)
  have N4 := Fr.snoc X4 N3 g_a1
  have U_a1_4 := ArU.same W4 U_a1_3
  have K4 := Keep.wr K3 W4 (Or.inl (List.mem_of_getElem? (i := 0) rfl))
  have Z4 : n0 ≤ h4.size := Nat.le_trans Z3 (Nat.le_of_eq W4.size.symm)
  refine Go.mp st4 ?_
  show Go p e below (T4.setTop (mkF m 14 #[.val (.ref a1), .val (.int i1), .val (.int (2 : Int32)), .val (.int (32 : Int32))] [])) _
  refine Go.mp (fun _ k => XS.iinc X4.here hx rfl (hb hby d5_14) rfl (l' := #[.val (.ref a1), .val (.int i1), .val (.int ((2 : Int32) + (1 : Int32))), .val (.int (32 : Int32))]) rfl k) ?_
  show Go p e below (T4.setTop (mkF m 17 #[.val (.ref a1), .val (.int i1), .val (.int ((2 : Int32) + (1 : Int32))), .val (.int (32 : Int32))] [])) _
  rw [show ((2 : Int32) + (1 : Int32)) = (3 : Int32) from by decide]
  show Go p e below (T4.setTop (mkF m 17 #[.val (.ref a1), .val (.int i1), .val (.int (3 : Int32)), .val (.int (32 : Int32))] [])) _
  refine g_goto X4 hx 5 (hb hby d5_17) (by decide) (by decide) ?_
  refine g_iloadN X4 hx (hb hby d5_5) rfl ?_
  refine g_iloadN X4 hx (hb hby d5_6) rfl ?_
  refine g_icmpNo X4 hx (hb hby d5_7) (tlt ((by decide) : (3 : Int32) < (32 : Int32))).2.1 ?_
  refine g_aloadN X4 hx (hb hby d5_10) rfl rfl ?_
  refine g_iloadN X4 hx (hb hby d5_11) rfl ?_
  refine g_iloadN X4 hx (hb hby d5_12) rfl ?_
  obtain ⟨cl5, Ar5, sz5⟩ := id U_a1_4
  have hin5 : ¬ ((3 : Int32) < 0 ∨ cl5.slots.size ≤ (3 : Int32).toNatClampNeg) := by rw [sz5]; decide
  obtain ⟨T5, h5, X5, e5, W5, st5⟩ := stI X4 hx hZ e4 Ar5 (j := 3) hin5 (g := (mkF m 13 #[.val (.ref a1), .val (.int i1), .val (.int (3 : Int32)), .val (.int (32 : Int32))] [(.int i1), (.int (3 : Int32)), (.ref a1)])) rfl rfl (hb hby d5_13)
  have N5 := Fr.snoc X5 N4 g_a1
  have U_a1_5 := ArU.same W5 U_a1_4
  have K5 := Keep.wr K4 W5 (Or.inl (List.mem_of_getElem? (i := 0) rfl))
  have Z5 : n0 ≤ h5.size := Nat.le_trans Z4 (Nat.le_of_eq W5.size.symm)
  refine Go.mp st5 ?_
  show Go p e below (T5.setTop (mkF m 14 #[.val (.ref a1), .val (.int i1), .val (.int (3 : Int32)), .val (.int (32 : Int32))] [])) _
  refine Go.mp (fun _ k => XS.iinc X5.here hx rfl (hb hby d5_14) rfl (l' := #[.val (.ref a1), .val (.int i1), .val (.int ((3 : Int32) + (1 : Int32))), .val (.int (32 : Int32))]) rfl k) ?_
  show Go p e below (T5.setTop (mkF m 17 #[.val (.ref a1), .val (.int i1), .val (.int ((3 : Int32) + (1 : Int32))), .val (.int (32 : Int32))] [])) _
  rw [show ((3 : Int32) + (1 : Int32)) = (4 : Int32) from by decide]
  show Go p e below (T5.setTop (mkF m 17 #[.val (.ref a1), .val (.int i1), .val (.int (4 : Int32)), .val (.int (32 : Int32))] [])) _
  refine g_goto X5 hx 5 (hb hby d5_17) (by decide) (by decide) ?_
  refine g_iloadN X5 hx (hb hby d5_5) rfl ?_
  refine g_iloadN X5 hx (hb hby d5_6) rfl ?_
  refine g_icmpNo X5 hx (hb hby d5_7) (tlt ((by decide) : (4 : Int32) < (32 : Int32))).2.1 ?_
  refine g_aloadN X5 hx (hb hby d5_10) rfl rfl ?_
  refine g_iloadN X5 hx (hb hby d5_11) rfl ?_
  refine g_iloadN X5 hx (hb hby d5_12) rfl ?_
  obtain ⟨cl6, Ar6, sz6⟩ := id U_a1_5
  have hin6 : ¬ ((4 : Int32) < 0 ∨ cl6.slots.size ≤ (4 : Int32).toNatClampNeg) := by rw [sz6]; decide
  obtain ⟨T6, h6, X6, e6, W6, st6⟩ := stI X5 hx hZ e5 Ar6 (j := 4) hin6 (g := (mkF m 13 #[.val (.ref a1), .val (.int i1), .val (.int (4 : Int32)), .val (.int (32 : Int32))] [(.int i1), (.int (4 : Int32)), (.ref a1)])) rfl rfl (hb hby d5_13)
  have N6 := Fr.snoc X6 N5 g_a1
  have U_a1_6 := ArU.same W6 U_a1_5
  have K6 := Keep.wr K5 W6 (Or.inl (List.mem_of_getElem? (i := 0) rfl))
  have Z6 : n0 ≤ h6.size := Nat.le_trans Z5 (Nat.le_of_eq W6.size.symm)
  refine Go.mp st6 ?_
  show Go p e below (T6.setTop (mkF m 14 #[.val (.ref a1), .val (.int i1), .val (.int (4 : Int32)), .val (.int (32 : Int32))] [])) _
  refine Go.mp (fun _ k => XS.iinc X6.here hx rfl (hb hby d5_14) rfl (l' := #[.val (.ref a1), .val (.int i1), .val (.int ((4 : Int32) + (1 : Int32))), .val (.int (32 : Int32))]) rfl k) ?_
  show Go p e below (T6.setTop (mkF m 17 #[.val (.ref a1), .val (.int i1), .val (.int ((4 : Int32) + (1 : Int32))), .val (.int (32 : Int32))] [])) _
  rw [show ((4 : Int32) + (1 : Int32)) = (5 : Int32) from by decide]
  show Go p e below (T6.setTop (mkF m 17 #[.val (.ref a1), .val (.int i1), .val (.int (5 : Int32)), .val (.int (32 : Int32))] [])) _
  refine g_goto X6 hx 5 (hb hby d5_17) (by decide) (by decide) ?_
  refine g_iloadN X6 hx (hb hby d5_5) rfl ?_
  refine g_iloadN X6 hx (hb hby d5_6) rfl ?_
  refine g_icmpNo X6 hx (hb hby d5_7) (tlt ((by decide) : (5 : Int32) < (32 : Int32))).2.1 ?_
  refine g_aloadN X6 hx (hb hby d5_10) rfl rfl ?_
  refine g_iloadN X6 hx (hb hby d5_11) rfl ?_
  refine g_iloadN X6 hx (hb hby d5_12) rfl ?_
  obtain ⟨cl7, Ar7, sz7⟩ := id U_a1_6
  have hin7 : ¬ ((5 : Int32) < 0 ∨ cl7.slots.size ≤ (5 : Int32).toNatClampNeg) := by rw [sz7]; decide
  obtain ⟨T7, h7, X7, e7, W7, st7⟩ := stI X6 hx hZ e6 Ar7 (j := 5) hin7 (g := (mkF m 13 #[.val (.ref a1), .val (.int i1), .val (.int (5 : Int32)), .val (.int (32 : Int32))] [(.int i1), (.int (5 : Int32)), (.ref a1)])) rfl rfl (hb hby d5_13)
  have N7 := Fr.snoc X7 N6 g_a1
  have U_a1_7 := ArU.same W7 U_a1_6
  have K7 := Keep.wr K6 W7 (Or.inl (List.mem_of_getElem? (i := 0) rfl))
  have Z7 : n0 ≤ h7.size := Nat.le_trans Z6 (Nat.le_of_eq W7.size.symm)
  refine Go.mp st7 ?_
  show Go p e below (T7.setTop (mkF m 14 #[.val (.ref a1), .val (.int i1), .val (.int (5 : Int32)), .val (.int (32 : Int32))] [])) _
  refine Go.mp (fun _ k => XS.iinc X7.here hx rfl (hb hby d5_14) rfl (l' := #[.val (.ref a1), .val (.int i1), .val (.int ((5 : Int32) + (1 : Int32))), .val (.int (32 : Int32))]) rfl k) ?_
  show Go p e below (T7.setTop (mkF m 17 #[.val (.ref a1), .val (.int i1), .val (.int ((5 : Int32) + (1 : Int32))), .val (.int (32 : Int32))] [])) _
  rw [show ((5 : Int32) + (1 : Int32)) = (6 : Int32) from by decide]
  show Go p e below (T7.setTop (mkF m 17 #[.val (.ref a1), .val (.int i1), .val (.int (6 : Int32)), .val (.int (32 : Int32))] [])) _
  refine g_goto X7 hx 5 (hb hby d5_17) (by decide) (by decide) ?_
  refine g_iloadN X7 hx (hb hby d5_5) rfl ?_
  refine g_iloadN X7 hx (hb hby d5_6) rfl ?_
  refine g_icmpNo X7 hx (hb hby d5_7) (tlt ((by decide) : (6 : Int32) < (32 : Int32))).2.1 ?_
  refine g_aloadN X7 hx (hb hby d5_10) rfl rfl ?_
  refine g_iloadN X7 hx (hb hby d5_11) rfl ?_
  refine g_iloadN X7 hx (hb hby d5_12) rfl ?_
  obtain ⟨cl8, Ar8, sz8⟩ := id U_a1_7
  have hin8 : ¬ ((6 : Int32) < 0 ∨ cl8.slots.size ≤ (6 : Int32).toNatClampNeg) := by rw [sz8]; decide
  obtain ⟨T8, h8, X8, e8, W8, st8⟩ := stI X7 hx hZ e7 Ar8 (j := 6) hin8 (g := (mkF m 13 #[.val (.ref a1), .val (.int i1), .val (.int (6 : Int32)), .val (.int (32 : Int32))] [(.int i1), (.int (6 : Int32)), (.ref a1)])) rfl rfl (hb hby d5_13)
  have N8 := Fr.snoc X8 N7 g_a1
  have U_a1_8 := ArU.same W8 U_a1_7
  have K8 := Keep.wr K7 W8 (Or.inl (List.mem_of_getElem? (i := 0) rfl))
  have Z8 : n0 ≤ h8.size := Nat.le_trans Z7 (Nat.le_of_eq W8.size.symm)
  refine Go.mp st8 ?_
  show Go p e below (T8.setTop (mkF m 14 #[.val (.ref a1), .val (.int i1), .val (.int (6 : Int32)), .val (.int (32 : Int32))] [])) _
  refine Go.mp (fun _ k => XS.iinc X8.here hx rfl (hb hby d5_14) rfl (l' := #[.val (.ref a1), .val (.int i1), .val (.int ((6 : Int32) + (1 : Int32))), .val (.int (32 : Int32))]) rfl k) ?_
  show Go p e below (T8.setTop (mkF m 17 #[.val (.ref a1), .val (.int i1), .val (.int ((6 : Int32) + (1 : Int32))), .val (.int (32 : Int32))] [])) _
  rw [show ((6 : Int32) + (1 : Int32)) = (7 : Int32) from by decide]
  show Go p e below (T8.setTop (mkF m 17 #[.val (.ref a1), .val (.int i1), .val (.int (7 : Int32)), .val (.int (32 : Int32))] [])) _
  refine g_goto X8 hx 5 (hb hby d5_17) (by decide) (by decide) ?_
  refine g_iloadN X8 hx (hb hby d5_5) rfl ?_
  refine g_iloadN X8 hx (hb hby d5_6) rfl ?_
  refine g_icmpNo X8 hx (hb hby d5_7) (tlt ((by decide) : (7 : Int32) < (32 : Int32))).2.1 ?_
  refine g_aloadN X8 hx (hb hby d5_10) rfl rfl ?_
  refine g_iloadN X8 hx (hb hby d5_11) rfl ?_
  refine g_iloadN X8 hx (hb hby d5_12) rfl ?_
  obtain ⟨cl9, Ar9, sz9⟩ := id U_a1_8
  have hin9 : ¬ ((7 : Int32) < 0 ∨ cl9.slots.size ≤ (7 : Int32).toNatClampNeg) := by rw [sz9]; decide
  obtain ⟨T9, h9, X9, e9, W9, st9⟩ := stI X8 hx hZ e8 Ar9 (j := 7) hin9 (g := (mkF m 13 #[.val (.ref a1), .val (.int i1), .val (.int (7 : Int32)), .val (.int (32 : Int32))] [(.int i1), (.int (7 : Int32)), (.ref a1)])) rfl rfl (hb hby d5_13)
  have N9 := Fr.snoc X9 N8 g_a1
  have U_a1_9 := ArU.same W9 U_a1_8
  have K9 := Keep.wr K8 W9 (Or.inl (List.mem_of_getElem? (i := 0) rfl))
  have Z9 : n0 ≤ h9.size := Nat.le_trans Z8 (Nat.le_of_eq W9.size.symm)
  refine Go.mp st9 ?_
  show Go p e below (T9.setTop (mkF m 14 #[.val (.ref a1), .val (.int i1), .val (.int (7 : Int32)), .val (.int (32 : Int32))] [])) _
  refine Go.mp (fun _ k => XS.iinc X9.here hx rfl (hb hby d5_14) rfl (l' := #[.val (.ref a1), .val (.int i1), .val (.int ((7 : Int32) + (1 : Int32))), .val (.int (32 : Int32))]) rfl k) ?_
  show Go p e below (T9.setTop (mkF m 17 #[.val (.ref a1), .val (.int i1), .val (.int ((7 : Int32) + (1 : Int32))), .val (.int (32 : Int32))] [])) _
  rw [show ((7 : Int32) + (1 : Int32)) = (8 : Int32) from by decide]
  show Go p e below (T9.setTop (mkF m 17 #[.val (.ref a1), .val (.int i1), .val (.int (8 : Int32)), .val (.int (32 : Int32))] [])) _
  refine g_goto X9 hx 5 (hb hby d5_17) (by decide) (by decide) ?_
  refine g_iloadN X9 hx (hb hby d5_5) rfl ?_
  refine g_iloadN X9 hx (hb hby d5_6) rfl ?_
  refine g_icmpNo X9 hx (hb hby d5_7) (tlt ((by decide) : (8 : Int32) < (32 : Int32))).2.1 ?_
  refine g_aloadN X9 hx (hb hby d5_10) rfl rfl ?_
  refine g_iloadN X9 hx (hb hby d5_11) rfl ?_
  refine g_iloadN X9 hx (hb hby d5_12) rfl ?_
  obtain ⟨cl10, Ar10, sz10⟩ := id U_a1_9
  have hin10 : ¬ ((8 : Int32) < 0 ∨ cl10.slots.size ≤ (8 : Int32).toNatClampNeg) := by rw [sz10]; decide
  obtain ⟨T10, h10, X10, e10, W10, st10⟩ := stI X9 hx hZ e9 Ar10 (j := 8) hin10 (g := (mkF m 13 #[.val (.ref a1), .val (.int i1), .val (.int (8 : Int32)), .val (.int (32 : Int32))] [(.int i1), (.int (8 : Int32)), (.ref a1)])) rfl rfl (hb hby d5_13)
  have N10 := Fr.snoc X10 N9 g_a1
  have U_a1_10 := ArU.same W10 U_a1_9
  have K10 := Keep.wr K9 W10 (Or.inl (List.mem_of_getElem? (i := 0) rfl))
  have Z10 : n0 ≤ h10.size := Nat.le_trans Z9 (Nat.le_of_eq W10.size.symm)
  refine Go.mp st10 ?_
  show Go p e below (T10.setTop (mkF m 14 #[.val (.ref a1), .val (.int i1), .val (.int (8 : Int32)), .val (.int (32 : Int32))] [])) _
  refine Go.mp (fun _ k => XS.iinc X10.here hx rfl (hb hby d5_14) rfl (l' := #[.val (.ref a1), .val (.int i1), .val (.int ((8 : Int32) + (1 : Int32))), .val (.int (32 : Int32))]) rfl k) ?_
  show Go p e below (T10.setTop (mkF m 17 #[.val (.ref a1), .val (.int i1), .val (.int ((8 : Int32) + (1 : Int32))), .val (.int (32 : Int32))] [])) _
  rw [show ((8 : Int32) + (1 : Int32)) = (9 : Int32) from by decide]
  show Go p e below (T10.setTop (mkF m 17 #[.val (.ref a1), .val (.int i1), .val (.int (9 : Int32)), .val (.int (32 : Int32))] [])) _
  refine g_goto X10 hx 5 (hb hby d5_17) (by decide) (by decide) ?_
  refine g_iloadN X10 hx (hb hby d5_5) rfl ?_
  refine g_iloadN X10 hx (hb hby d5_6) rfl ?_
  refine g_icmpNo X10 hx (hb hby d5_7) (tlt ((by decide) : (9 : Int32) < (32 : Int32))).2.1 ?_
  refine g_aloadN X10 hx (hb hby d5_10) rfl rfl ?_
  refine g_iloadN X10 hx (hb hby d5_11) rfl ?_
  refine g_iloadN X10 hx (hb hby d5_12) rfl ?_
  obtain ⟨cl11, Ar11, sz11⟩ := id U_a1_10
  have hin11 : ¬ ((9 : Int32) < 0 ∨ cl11.slots.size ≤ (9 : Int32).toNatClampNeg) := by rw [sz11]; decide
  obtain ⟨T11, h11, X11, e11, W11, st11⟩ := stI X10 hx hZ e10 Ar11 (j := 9) hin11 (g := (mkF m 13 #[.val (.ref a1), .val (.int i1), .val (.int (9 : Int32)), .val (.int (32 : Int32))] [(.int i1), (.int (9 : Int32)), (.ref a1)])) rfl rfl (hb hby d5_13)
  have N11 := Fr.snoc X11 N10 g_a1
  have U_a1_11 := ArU.same W11 U_a1_10
  have K11 := Keep.wr K10 W11 (Or.inl (List.mem_of_getElem? (i := 0) rfl))
  have Z11 : n0 ≤ h11.size := Nat.le_trans Z10 (Nat.le_of_eq W11.size.symm)
  refine Go.mp st11 ?_
  show Go p e below (T11.setTop (mkF m 14 #[.val (.ref a1), .val (.int i1), .val (.int (9 : Int32)), .val (.int (32 : Int32))] [])) _
  refine Go.mp (fun _ k => XS.iinc X11.here hx rfl (hb hby d5_14) rfl (l' := #[.val (.ref a1), .val (.int i1), .val (.int ((9 : Int32) + (1 : Int32))), .val (.int (32 : Int32))]) rfl k) ?_
  show Go p e below (T11.setTop (mkF m 17 #[.val (.ref a1), .val (.int i1), .val (.int ((9 : Int32) + (1 : Int32))), .val (.int (32 : Int32))] [])) _
  rw [show ((9 : Int32) + (1 : Int32)) = (10 : Int32) from by decide]
  show Go p e below (T11.setTop (mkF m 17 #[.val (.ref a1), .val (.int i1), .val (.int (10 : Int32)), .val (.int (32 : Int32))] [])) _
  refine g_goto X11 hx 5 (hb hby d5_17) (by decide) (by decide) ?_
  refine g_iloadN X11 hx (hb hby d5_5) rfl ?_
  refine g_iloadN X11 hx (hb hby d5_6) rfl ?_
  refine g_icmpNo X11 hx (hb hby d5_7) (tlt ((by decide) : (10 : Int32) < (32 : Int32))).2.1 ?_
  refine g_aloadN X11 hx (hb hby d5_10) rfl rfl ?_
  refine g_iloadN X11 hx (hb hby d5_11) rfl ?_
  refine g_iloadN X11 hx (hb hby d5_12) rfl ?_
  obtain ⟨cl12, Ar12, sz12⟩ := id U_a1_11
  have hin12 : ¬ ((10 : Int32) < 0 ∨ cl12.slots.size ≤ (10 : Int32).toNatClampNeg) := by rw [sz12]; decide
  obtain ⟨T12, h12, X12, e12, W12, st12⟩ := stI X11 hx hZ e11 Ar12 (j := 10) hin12 (g := (mkF m 13 #[.val (.ref a1), .val (.int i1), .val (.int (10 : Int32)), .val (.int (32 : Int32))] [(.int i1), (.int (10 : Int32)), (.ref a1)])) rfl rfl (hb hby d5_13)
  have N12 := Fr.snoc X12 N11 g_a1
  have U_a1_12 := ArU.same W12 U_a1_11
  have K12 := Keep.wr K11 W12 (Or.inl (List.mem_of_getElem? (i := 0) rfl))
  have Z12 : n0 ≤ h12.size := Nat.le_trans Z11 (Nat.le_of_eq W12.size.symm)
  refine Go.mp st12 ?_
  show Go p e below (T12.setTop (mkF m 14 #[.val (.ref a1), .val (.int i1), .val (.int (10 : Int32)), .val (.int (32 : Int32))] [])) _
  refine Go.mp (fun _ k => XS.iinc X12.here hx rfl (hb hby d5_14) rfl (l' := #[.val (.ref a1), .val (.int i1), .val (.int ((10 : Int32) + (1 : Int32))), .val (.int (32 : Int32))]) rfl k) ?_
  show Go p e below (T12.setTop (mkF m 17 #[.val (.ref a1), .val (.int i1), .val (.int ((10 : Int32) + (1 : Int32))), .val (.int (32 : Int32))] [])) _
  rw [show ((10 : Int32) + (1 : Int32)) = (11 : Int32) from by decide]
  show Go p e below (T12.setTop (mkF m 17 #[.val (.ref a1), .val (.int i1), .val (.int (11 : Int32)), .val (.int (32 : Int32))] [])) _
  refine g_goto X12 hx 5 (hb hby d5_17) (by decide) (by decide) ?_
  refine g_iloadN X12 hx (hb hby d5_5) rfl ?_
  refine g_iloadN X12 hx (hb hby d5_6) rfl ?_
  refine g_icmpNo X12 hx (hb hby d5_7) (tlt ((by decide) : (11 : Int32) < (32 : Int32))).2.1 ?_
  refine g_aloadN X12 hx (hb hby d5_10) rfl rfl ?_
  refine g_iloadN X12 hx (hb hby d5_11) rfl ?_
  refine g_iloadN X12 hx (hb hby d5_12) rfl ?_
  obtain ⟨cl13, Ar13, sz13⟩ := id U_a1_12
  have hin13 : ¬ ((11 : Int32) < 0 ∨ cl13.slots.size ≤ (11 : Int32).toNatClampNeg) := by rw [sz13]; decide
  obtain ⟨T13, h13, X13, e13, W13, st13⟩ := stI X12 hx hZ e12 Ar13 (j := 11) hin13 (g := (mkF m 13 #[.val (.ref a1), .val (.int i1), .val (.int (11 : Int32)), .val (.int (32 : Int32))] [(.int i1), (.int (11 : Int32)), (.ref a1)])) rfl rfl (hb hby d5_13)
  have N13 := Fr.snoc X13 N12 g_a1
  have U_a1_13 := ArU.same W13 U_a1_12
  have K13 := Keep.wr K12 W13 (Or.inl (List.mem_of_getElem? (i := 0) rfl))
  have Z13 : n0 ≤ h13.size := Nat.le_trans Z12 (Nat.le_of_eq W13.size.symm)
  refine Go.mp st13 ?_
  show Go p e below (T13.setTop (mkF m 14 #[.val (.ref a1), .val (.int i1), .val (.int (11 : Int32)), .val (.int (32 : Int32))] [])) _
  refine Go.mp (fun _ k => XS.iinc X13.here hx rfl (hb hby d5_14) rfl (l' := #[.val (.ref a1), .val (.int i1), .val (.int ((11 : Int32) + (1 : Int32))), .val (.int (32 : Int32))]) rfl k) ?_
  show Go p e below (T13.setTop (mkF m 17 #[.val (.ref a1), .val (.int i1), .val (.int ((11 : Int32) + (1 : Int32))), .val (.int (32 : Int32))] [])) _
  rw [show ((11 : Int32) + (1 : Int32)) = (12 : Int32) from by decide]
  show Go p e below (T13.setTop (mkF m 17 #[.val (.ref a1), .val (.int i1), .val (.int (12 : Int32)), .val (.int (32 : Int32))] [])) _
  refine g_goto X13 hx 5 (hb hby d5_17) (by decide) (by decide) ?_
  refine g_iloadN X13 hx (hb hby d5_5) rfl ?_
  refine g_iloadN X13 hx (hb hby d5_6) rfl ?_
  refine g_icmpNo X13 hx (hb hby d5_7) (tlt ((by decide) : (12 : Int32) < (32 : Int32))).2.1 ?_
  refine g_aloadN X13 hx (hb hby d5_10) rfl rfl ?_
  refine g_iloadN X13 hx (hb hby d5_11) rfl ?_
  refine g_iloadN X13 hx (hb hby d5_12) rfl ?_
  obtain ⟨cl14, Ar14, sz14⟩ := id U_a1_13
  have hin14 : ¬ ((12 : Int32) < 0 ∨ cl14.slots.size ≤ (12 : Int32).toNatClampNeg) := by rw [sz14]; decide
  obtain ⟨T14, h14, X14, e14, W14, st14⟩ := stI X13 hx hZ e13 Ar14 (j := 12) hin14 (g := (mkF m 13 #[.val (.ref a1), .val (.int i1), .val (.int (12 : Int32)), .val (.int (32 : Int32))] [(.int i1), (.int (12 : Int32)), (.ref a1)])) rfl rfl (hb hby d5_13)
  have N14 := Fr.snoc X14 N13 g_a1
  have U_a1_14 := ArU.same W14 U_a1_13
  have K14 := Keep.wr K13 W14 (Or.inl (List.mem_of_getElem? (i := 0) rfl))
  have Z14 : n0 ≤ h14.size := Nat.le_trans Z13 (Nat.le_of_eq W14.size.symm)
  refine Go.mp st14 ?_
  show Go p e below (T14.setTop (mkF m 14 #[.val (.ref a1), .val (.int i1), .val (.int (12 : Int32)), .val (.int (32 : Int32))] [])) _
  refine Go.mp (fun _ k => XS.iinc X14.here hx rfl (hb hby d5_14) rfl (l' := #[.val (.ref a1), .val (.int i1), .val (.int ((12 : Int32) + (1 : Int32))), .val (.int (32 : Int32))]) rfl k) ?_
  show Go p e below (T14.setTop (mkF m 17 #[.val (.ref a1), .val (.int i1), .val (.int ((12 : Int32) + (1 : Int32))), .val (.int (32 : Int32))] [])) _
  rw [show ((12 : Int32) + (1 : Int32)) = (13 : Int32) from by decide]
  show Go p e below (T14.setTop (mkF m 17 #[.val (.ref a1), .val (.int i1), .val (.int (13 : Int32)), .val (.int (32 : Int32))] [])) _
  refine g_goto X14 hx 5 (hb hby d5_17) (by decide) (by decide) ?_
  refine g_iloadN X14 hx (hb hby d5_5) rfl ?_
  refine g_iloadN X14 hx (hb hby d5_6) rfl ?_
  refine g_icmpNo X14 hx (hb hby d5_7) (tlt ((by decide) : (13 : Int32) < (32 : Int32))).2.1 ?_
  refine g_aloadN X14 hx (hb hby d5_10) rfl rfl ?_
  refine g_iloadN X14 hx (hb hby d5_11) rfl ?_
  refine g_iloadN X14 hx (hb hby d5_12) rfl ?_
  obtain ⟨cl15, Ar15, sz15⟩ := id U_a1_14
  have hin15 : ¬ ((13 : Int32) < 0 ∨ cl15.slots.size ≤ (13 : Int32).toNatClampNeg) := by rw [sz15]; decide
  obtain ⟨T15, h15, X15, e15, W15, st15⟩ := stI X14 hx hZ e14 Ar15 (j := 13) hin15 (g := (mkF m 13 #[.val (.ref a1), .val (.int i1), .val (.int (13 : Int32)), .val (.int (32 : Int32))] [(.int i1), (.int (13 : Int32)), (.ref a1)])) rfl rfl (hb hby d5_13)
  have N15 := Fr.snoc X15 N14 g_a1
  have U_a1_15 := ArU.same W15 U_a1_14
  have K15 := Keep.wr K14 W15 (Or.inl (List.mem_of_getElem? (i := 0) rfl))
  have Z15 : n0 ≤ h15.size := Nat.le_trans Z14 (Nat.le_of_eq W15.size.symm)
  refine Go.mp st15 ?_
  show Go p e below (T15.setTop (mkF m 14 #[.val (.ref a1), .val (.int i1), .val (.int (13 : Int32)), .val (.int (32 : Int32))] [])) _
  refine Go.mp (fun _ k => XS.iinc X15.here hx rfl (hb hby d5_14) rfl (l' := #[.val (.ref a1), .val (.int i1), .val (.int ((13 : Int32) + (1 : Int32))), .val (.int (32 : Int32))]) rfl k) ?_
  show Go p e below (T15.setTop (mkF m 17 #[.val (.ref a1), .val (.int i1), .val (.int ((13 : Int32) + (1 : Int32))), .val (.int (32 : Int32))] [])) _
  rw [show ((13 : Int32) + (1 : Int32)) = (14 : Int32) from by decide]
  show Go p e below (T15.setTop (mkF m 17 #[.val (.ref a1), .val (.int i1), .val (.int (14 : Int32)), .val (.int (32 : Int32))] [])) _
  refine g_goto X15 hx 5 (hb hby d5_17) (by decide) (by decide) ?_
  refine g_iloadN X15 hx (hb hby d5_5) rfl ?_
  refine g_iloadN X15 hx (hb hby d5_6) rfl ?_
  refine g_icmpNo X15 hx (hb hby d5_7) (tlt ((by decide) : (14 : Int32) < (32 : Int32))).2.1 ?_
  refine g_aloadN X15 hx (hb hby d5_10) rfl rfl ?_
  refine g_iloadN X15 hx (hb hby d5_11) rfl ?_
  refine g_iloadN X15 hx (hb hby d5_12) rfl ?_
  obtain ⟨cl16, Ar16, sz16⟩ := id U_a1_15
  have hin16 : ¬ ((14 : Int32) < 0 ∨ cl16.slots.size ≤ (14 : Int32).toNatClampNeg) := by rw [sz16]; decide
  obtain ⟨T16, h16, X16, e16, W16, st16⟩ := stI X15 hx hZ e15 Ar16 (j := 14) hin16 (g := (mkF m 13 #[.val (.ref a1), .val (.int i1), .val (.int (14 : Int32)), .val (.int (32 : Int32))] [(.int i1), (.int (14 : Int32)), (.ref a1)])) rfl rfl (hb hby d5_13)
  have N16 := Fr.snoc X16 N15 g_a1
  have U_a1_16 := ArU.same W16 U_a1_15
  have K16 := Keep.wr K15 W16 (Or.inl (List.mem_of_getElem? (i := 0) rfl))
  have Z16 : n0 ≤ h16.size := Nat.le_trans Z15 (Nat.le_of_eq W16.size.symm)
  refine Go.mp st16 ?_
  show Go p e below (T16.setTop (mkF m 14 #[.val (.ref a1), .val (.int i1), .val (.int (14 : Int32)), .val (.int (32 : Int32))] [])) _
  refine Go.mp (fun _ k => XS.iinc X16.here hx rfl (hb hby d5_14) rfl (l' := #[.val (.ref a1), .val (.int i1), .val (.int ((14 : Int32) + (1 : Int32))), .val (.int (32 : Int32))]) rfl k) ?_
  show Go p e below (T16.setTop (mkF m 17 #[.val (.ref a1), .val (.int i1), .val (.int ((14 : Int32) + (1 : Int32))), .val (.int (32 : Int32))] [])) _
  rw [show ((14 : Int32) + (1 : Int32)) = (15 : Int32) from by decide]
  show Go p e below (T16.setTop (mkF m 17 #[.val (.ref a1), .val (.int i1), .val (.int (15 : Int32)), .val (.int (32 : Int32))] [])) _
  refine g_goto X16 hx 5 (hb hby d5_17) (by decide) (by decide) ?_
  refine g_iloadN X16 hx (hb hby d5_5) rfl ?_
  refine g_iloadN X16 hx (hb hby d5_6) rfl ?_
  refine g_icmpNo X16 hx (hb hby d5_7) (tlt ((by decide) : (15 : Int32) < (32 : Int32))).2.1 ?_
  refine g_aloadN X16 hx (hb hby d5_10) rfl rfl ?_
  refine g_iloadN X16 hx (hb hby d5_11) rfl ?_
  refine g_iloadN X16 hx (hb hby d5_12) rfl ?_
  obtain ⟨cl17, Ar17, sz17⟩ := id U_a1_16
  have hin17 : ¬ ((15 : Int32) < 0 ∨ cl17.slots.size ≤ (15 : Int32).toNatClampNeg) := by rw [sz17]; decide
  obtain ⟨T17, h17, X17, e17, W17, st17⟩ := stI X16 hx hZ e16 Ar17 (j := 15) hin17 (g := (mkF m 13 #[.val (.ref a1), .val (.int i1), .val (.int (15 : Int32)), .val (.int (32 : Int32))] [(.int i1), (.int (15 : Int32)), (.ref a1)])) rfl rfl (hb hby d5_13)
  have N17 := Fr.snoc X17 N16 g_a1
  have U_a1_17 := ArU.same W17 U_a1_16
  have K17 := Keep.wr K16 W17 (Or.inl (List.mem_of_getElem? (i := 0) rfl))
  have Z17 : n0 ≤ h17.size := Nat.le_trans Z16 (Nat.le_of_eq W17.size.symm)
  refine Go.mp st17 ?_
  show Go p e below (T17.setTop (mkF m 14 #[.val (.ref a1), .val (.int i1), .val (.int (15 : Int32)), .val (.int (32 : Int32))] [])) _
  refine Go.mp (fun _ k => XS.iinc X17.here hx rfl (hb hby d5_14) rfl (l' := #[.val (.ref a1), .val (.int i1), .val (.int ((15 : Int32) + (1 : Int32))), .val (.int (32 : Int32))]) rfl k) ?_
  show Go p e below (T17.setTop (mkF m 17 #[.val (.ref a1), .val (.int i1), .val (.int ((15 : Int32) + (1 : Int32))), .val (.int (32 : Int32))] [])) _
  rw [show ((15 : Int32) + (1 : Int32)) = (16 : Int32) from by decide]
  show Go p e below (T17.setTop (mkF m 17 #[.val (.ref a1), .val (.int i1), .val (.int (16 : Int32)), .val (.int (32 : Int32))] [])) _
  refine g_goto X17 hx 5 (hb hby d5_17) (by decide) (by decide) ?_
  refine g_iloadN X17 hx (hb hby d5_5) rfl ?_
  refine g_iloadN X17 hx (hb hby d5_6) rfl ?_
  refine g_icmpNo X17 hx (hb hby d5_7) (tlt ((by decide) : (16 : Int32) < (32 : Int32))).2.1 ?_
  refine g_aloadN X17 hx (hb hby d5_10) rfl rfl ?_
  refine g_iloadN X17 hx (hb hby d5_11) rfl ?_
  refine g_iloadN X17 hx (hb hby d5_12) rfl ?_
  obtain ⟨cl18, Ar18, sz18⟩ := id U_a1_17
  have hin18 : ¬ ((16 : Int32) < 0 ∨ cl18.slots.size ≤ (16 : Int32).toNatClampNeg) := by rw [sz18]; decide
  obtain ⟨T18, h18, X18, e18, W18, st18⟩ := stI X17 hx hZ e17 Ar18 (j := 16) hin18 (g := (mkF m 13 #[.val (.ref a1), .val (.int i1), .val (.int (16 : Int32)), .val (.int (32 : Int32))] [(.int i1), (.int (16 : Int32)), (.ref a1)])) rfl rfl (hb hby d5_13)
  have N18 := Fr.snoc X18 N17 g_a1
  have U_a1_18 := ArU.same W18 U_a1_17
  have K18 := Keep.wr K17 W18 (Or.inl (List.mem_of_getElem? (i := 0) rfl))
  have Z18 : n0 ≤ h18.size := Nat.le_trans Z17 (Nat.le_of_eq W18.size.symm)
  refine Go.mp st18 ?_
  show Go p e below (T18.setTop (mkF m 14 #[.val (.ref a1), .val (.int i1), .val (.int (16 : Int32)), .val (.int (32 : Int32))] [])) _
  refine Go.mp (fun _ k => XS.iinc X18.here hx rfl (hb hby d5_14) rfl (l' := #[.val (.ref a1), .val (.int i1), .val (.int ((16 : Int32) + (1 : Int32))), .val (.int (32 : Int32))]) rfl k) ?_
  show Go p e below (T18.setTop (mkF m 17 #[.val (.ref a1), .val (.int i1), .val (.int ((16 : Int32) + (1 : Int32))), .val (.int (32 : Int32))] [])) _
  rw [show ((16 : Int32) + (1 : Int32)) = (17 : Int32) from by decide]
  show Go p e below (T18.setTop (mkF m 17 #[.val (.ref a1), .val (.int i1), .val (.int (17 : Int32)), .val (.int (32 : Int32))] [])) _
  refine g_goto X18 hx 5 (hb hby d5_17) (by decide) (by decide) ?_
  refine g_iloadN X18 hx (hb hby d5_5) rfl ?_
  refine g_iloadN X18 hx (hb hby d5_6) rfl ?_
  refine g_icmpNo X18 hx (hb hby d5_7) (tlt ((by decide) : (17 : Int32) < (32 : Int32))).2.1 ?_
  refine g_aloadN X18 hx (hb hby d5_10) rfl rfl ?_
  refine g_iloadN X18 hx (hb hby d5_11) rfl ?_
  refine g_iloadN X18 hx (hb hby d5_12) rfl ?_
  obtain ⟨cl19, Ar19, sz19⟩ := id U_a1_18
  have hin19 : ¬ ((17 : Int32) < 0 ∨ cl19.slots.size ≤ (17 : Int32).toNatClampNeg) := by rw [sz19]; decide
  obtain ⟨T19, h19, X19, e19, W19, st19⟩ := stI X18 hx hZ e18 Ar19 (j := 17) hin19 (g := (mkF m 13 #[.val (.ref a1), .val (.int i1), .val (.int (17 : Int32)), .val (.int (32 : Int32))] [(.int i1), (.int (17 : Int32)), (.ref a1)])) rfl rfl (hb hby d5_13)
  have N19 := Fr.snoc X19 N18 g_a1
  have U_a1_19 := ArU.same W19 U_a1_18
  have K19 := Keep.wr K18 W19 (Or.inl (List.mem_of_getElem? (i := 0) rfl))
  have Z19 : n0 ≤ h19.size := Nat.le_trans Z18 (Nat.le_of_eq W19.size.symm)
  refine Go.mp st19 ?_
  show Go p e below (T19.setTop (mkF m 14 #[.val (.ref a1), .val (.int i1), .val (.int (17 : Int32)), .val (.int (32 : Int32))] [])) _
  refine Go.mp (fun _ k => XS.iinc X19.here hx rfl (hb hby d5_14) rfl (l' := #[.val (.ref a1), .val (.int i1), .val (.int ((17 : Int32) + (1 : Int32))), .val (.int (32 : Int32))]) rfl k) ?_
  show Go p e below (T19.setTop (mkF m 17 #[.val (.ref a1), .val (.int i1), .val (.int ((17 : Int32) + (1 : Int32))), .val (.int (32 : Int32))] [])) _
  rw [show ((17 : Int32) + (1 : Int32)) = (18 : Int32) from by decide]
  show Go p e below (T19.setTop (mkF m 17 #[.val (.ref a1), .val (.int i1), .val (.int (18 : Int32)), .val (.int (32 : Int32))] [])) _
  refine g_goto X19 hx 5 (hb hby d5_17) (by decide) (by decide) ?_
  refine g_iloadN X19 hx (hb hby d5_5) rfl ?_
  refine g_iloadN X19 hx (hb hby d5_6) rfl ?_
  refine g_icmpNo X19 hx (hb hby d5_7) (tlt ((by decide) : (18 : Int32) < (32 : Int32))).2.1 ?_
  refine g_aloadN X19 hx (hb hby d5_10) rfl rfl ?_
  refine g_iloadN X19 hx (hb hby d5_11) rfl ?_
  refine g_iloadN X19 hx (hb hby d5_12) rfl ?_
  obtain ⟨cl20, Ar20, sz20⟩ := id U_a1_19
  have hin20 : ¬ ((18 : Int32) < 0 ∨ cl20.slots.size ≤ (18 : Int32).toNatClampNeg) := by rw [sz20]; decide
  obtain ⟨T20, h20, X20, e20, W20, st20⟩ := stI X19 hx hZ e19 Ar20 (j := 18) hin20 (g := (mkF m 13 #[.val (.ref a1), .val (.int i1), .val (.int (18 : Int32)), .val (.int (32 : Int32))] [(.int i1), (.int (18 : Int32)), (.ref a1)])) rfl rfl (hb hby d5_13)
  have N20 := Fr.snoc X20 N19 g_a1
  have U_a1_20 := ArU.same W20 U_a1_19
  have K20 := Keep.wr K19 W20 (Or.inl (List.mem_of_getElem? (i := 0) rfl))
  have Z20 : n0 ≤ h20.size := Nat.le_trans Z19 (Nat.le_of_eq W20.size.symm)
  refine Go.mp st20 ?_
  show Go p e below (T20.setTop (mkF m 14 #[.val (.ref a1), .val (.int i1), .val (.int (18 : Int32)), .val (.int (32 : Int32))] [])) _
  refine Go.mp (fun _ k => XS.iinc X20.here hx rfl (hb hby d5_14) rfl (l' := #[.val (.ref a1), .val (.int i1), .val (.int ((18 : Int32) + (1 : Int32))), .val (.int (32 : Int32))]) rfl k) ?_
  show Go p e below (T20.setTop (mkF m 17 #[.val (.ref a1), .val (.int i1), .val (.int ((18 : Int32) + (1 : Int32))), .val (.int (32 : Int32))] [])) _
  rw [show ((18 : Int32) + (1 : Int32)) = (19 : Int32) from by decide]
  show Go p e below (T20.setTop (mkF m 17 #[.val (.ref a1), .val (.int i1), .val (.int (19 : Int32)), .val (.int (32 : Int32))] [])) _
  refine g_goto X20 hx 5 (hb hby d5_17) (by decide) (by decide) ?_
  refine g_iloadN X20 hx (hb hby d5_5) rfl ?_
  refine g_iloadN X20 hx (hb hby d5_6) rfl ?_
  refine g_icmpNo X20 hx (hb hby d5_7) (tlt ((by decide) : (19 : Int32) < (32 : Int32))).2.1 ?_
  refine g_aloadN X20 hx (hb hby d5_10) rfl rfl ?_
  refine g_iloadN X20 hx (hb hby d5_11) rfl ?_
  refine g_iloadN X20 hx (hb hby d5_12) rfl ?_
  obtain ⟨cl21, Ar21, sz21⟩ := id U_a1_20
  have hin21 : ¬ ((19 : Int32) < 0 ∨ cl21.slots.size ≤ (19 : Int32).toNatClampNeg) := by rw [sz21]; decide
  obtain ⟨T21, h21, X21, e21, W21, st21⟩ := stI X20 hx hZ e20 Ar21 (j := 19) hin21 (g := (mkF m 13 #[.val (.ref a1), .val (.int i1), .val (.int (19 : Int32)), .val (.int (32 : Int32))] [(.int i1), (.int (19 : Int32)), (.ref a1)])) rfl rfl (hb hby d5_13)
  have N21 := Fr.snoc X21 N20 g_a1
  have U_a1_21 := ArU.same W21 U_a1_20
  have K21 := Keep.wr K20 W21 (Or.inl (List.mem_of_getElem? (i := 0) rfl))
  have Z21 : n0 ≤ h21.size := Nat.le_trans Z20 (Nat.le_of_eq W21.size.symm)
  refine Go.mp st21 ?_
  show Go p e below (T21.setTop (mkF m 14 #[.val (.ref a1), .val (.int i1), .val (.int (19 : Int32)), .val (.int (32 : Int32))] [])) _
  refine Go.mp (fun _ k => XS.iinc X21.here hx rfl (hb hby d5_14) rfl (l' := #[.val (.ref a1), .val (.int i1), .val (.int ((19 : Int32) + (1 : Int32))), .val (.int (32 : Int32))]) rfl k) ?_
  show Go p e below (T21.setTop (mkF m 17 #[.val (.ref a1), .val (.int i1), .val (.int ((19 : Int32) + (1 : Int32))), .val (.int (32 : Int32))] [])) _
  rw [show ((19 : Int32) + (1 : Int32)) = (20 : Int32) from by decide]
  show Go p e below (T21.setTop (mkF m 17 #[.val (.ref a1), .val (.int i1), .val (.int (20 : Int32)), .val (.int (32 : Int32))] [])) _
  refine g_goto X21 hx 5 (hb hby d5_17) (by decide) (by decide) ?_
  refine g_iloadN X21 hx (hb hby d5_5) rfl ?_
  refine g_iloadN X21 hx (hb hby d5_6) rfl ?_
  refine g_icmpNo X21 hx (hb hby d5_7) (tlt ((by decide) : (20 : Int32) < (32 : Int32))).2.1 ?_
  refine g_aloadN X21 hx (hb hby d5_10) rfl rfl ?_
  refine g_iloadN X21 hx (hb hby d5_11) rfl ?_
  refine g_iloadN X21 hx (hb hby d5_12) rfl ?_
  obtain ⟨cl22, Ar22, sz22⟩ := id U_a1_21
  have hin22 : ¬ ((20 : Int32) < 0 ∨ cl22.slots.size ≤ (20 : Int32).toNatClampNeg) := by rw [sz22]; decide
  obtain ⟨T22, h22, X22, e22, W22, st22⟩ := stI X21 hx hZ e21 Ar22 (j := 20) hin22 (g := (mkF m 13 #[.val (.ref a1), .val (.int i1), .val (.int (20 : Int32)), .val (.int (32 : Int32))] [(.int i1), (.int (20 : Int32)), (.ref a1)])) rfl rfl (hb hby d5_13)
  have N22 := Fr.snoc X22 N21 g_a1
  have U_a1_22 := ArU.same W22 U_a1_21
  have K22 := Keep.wr K21 W22 (Or.inl (List.mem_of_getElem? (i := 0) rfl))
  have Z22 : n0 ≤ h22.size := Nat.le_trans Z21 (Nat.le_of_eq W22.size.symm)
  refine Go.mp st22 ?_
  show Go p e below (T22.setTop (mkF m 14 #[.val (.ref a1), .val (.int i1), .val (.int (20 : Int32)), .val (.int (32 : Int32))] [])) _
  refine Go.mp (fun _ k => XS.iinc X22.here hx rfl (hb hby d5_14) rfl (l' := #[.val (.ref a1), .val (.int i1), .val (.int ((20 : Int32) + (1 : Int32))), .val (.int (32 : Int32))]) rfl k) ?_
  show Go p e below (T22.setTop (mkF m 17 #[.val (.ref a1), .val (.int i1), .val (.int ((20 : Int32) + (1 : Int32))), .val (.int (32 : Int32))] [])) _
  rw [show ((20 : Int32) + (1 : Int32)) = (21 : Int32) from by decide]
  show Go p e below (T22.setTop (mkF m 17 #[.val (.ref a1), .val (.int i1), .val (.int (21 : Int32)), .val (.int (32 : Int32))] [])) _
  refine g_goto X22 hx 5 (hb hby d5_17) (by decide) (by decide) ?_
  refine g_iloadN X22 hx (hb hby d5_5) rfl ?_
  refine g_iloadN X22 hx (hb hby d5_6) rfl ?_
  refine g_icmpNo X22 hx (hb hby d5_7) (tlt ((by decide) : (21 : Int32) < (32 : Int32))).2.1 ?_
  refine g_aloadN X22 hx (hb hby d5_10) rfl rfl ?_
  refine g_iloadN X22 hx (hb hby d5_11) rfl ?_
  refine g_iloadN X22 hx (hb hby d5_12) rfl ?_
  obtain ⟨cl23, Ar23, sz23⟩ := id U_a1_22
  have hin23 : ¬ ((21 : Int32) < 0 ∨ cl23.slots.size ≤ (21 : Int32).toNatClampNeg) := by rw [sz23]; decide
  obtain ⟨T23, h23, X23, e23, W23, st23⟩ := stI X22 hx hZ e22 Ar23 (j := 21) hin23 (g := (mkF m 13 #[.val (.ref a1), .val (.int i1), .val (.int (21 : Int32)), .val (.int (32 : Int32))] [(.int i1), (.int (21 : Int32)), (.ref a1)])) rfl rfl (hb hby d5_13)
  have N23 := Fr.snoc X23 N22 g_a1
  have U_a1_23 := ArU.same W23 U_a1_22
  have K23 := Keep.wr K22 W23 (Or.inl (List.mem_of_getElem? (i := 0) rfl))
  have Z23 : n0 ≤ h23.size := Nat.le_trans Z22 (Nat.le_of_eq W23.size.symm)
  refine Go.mp st23 ?_
  show Go p e below (T23.setTop (mkF m 14 #[.val (.ref a1), .val (.int i1), .val (.int (21 : Int32)), .val (.int (32 : Int32))] [])) _
  refine Go.mp (fun _ k => XS.iinc X23.here hx rfl (hb hby d5_14) rfl (l' := #[.val (.ref a1), .val (.int i1), .val (.int ((21 : Int32) + (1 : Int32))), .val (.int (32 : Int32))]) rfl k) ?_
  show Go p e below (T23.setTop (mkF m 17 #[.val (.ref a1), .val (.int i1), .val (.int ((21 : Int32) + (1 : Int32))), .val (.int (32 : Int32))] [])) _
  rw [show ((21 : Int32) + (1 : Int32)) = (22 : Int32) from by decide]
  show Go p e below (T23.setTop (mkF m 17 #[.val (.ref a1), .val (.int i1), .val (.int (22 : Int32)), .val (.int (32 : Int32))] [])) _
  refine g_goto X23 hx 5 (hb hby d5_17) (by decide) (by decide) ?_
  refine g_iloadN X23 hx (hb hby d5_5) rfl ?_
  refine g_iloadN X23 hx (hb hby d5_6) rfl ?_
  refine g_icmpNo X23 hx (hb hby d5_7) (tlt ((by decide) : (22 : Int32) < (32 : Int32))).2.1 ?_
  refine g_aloadN X23 hx (hb hby d5_10) rfl rfl ?_
  refine g_iloadN X23 hx (hb hby d5_11) rfl ?_
  refine g_iloadN X23 hx (hb hby d5_12) rfl ?_
  obtain ⟨cl24, Ar24, sz24⟩ := id U_a1_23
  have hin24 : ¬ ((22 : Int32) < 0 ∨ cl24.slots.size ≤ (22 : Int32).toNatClampNeg) := by rw [sz24]; decide
  obtain ⟨T24, h24, X24, e24, W24, st24⟩ := stI X23 hx hZ e23 Ar24 (j := 22) hin24 (g := (mkF m 13 #[.val (.ref a1), .val (.int i1), .val (.int (22 : Int32)), .val (.int (32 : Int32))] [(.int i1), (.int (22 : Int32)), (.ref a1)])) rfl rfl (hb hby d5_13)
  have N24 := Fr.snoc X24 N23 g_a1
  have U_a1_24 := ArU.same W24 U_a1_23
  have K24 := Keep.wr K23 W24 (Or.inl (List.mem_of_getElem? (i := 0) rfl))
  have Z24 : n0 ≤ h24.size := Nat.le_trans Z23 (Nat.le_of_eq W24.size.symm)
  refine Go.mp st24 ?_
  show Go p e below (T24.setTop (mkF m 14 #[.val (.ref a1), .val (.int i1), .val (.int (22 : Int32)), .val (.int (32 : Int32))] [])) _
  refine Go.mp (fun _ k => XS.iinc X24.here hx rfl (hb hby d5_14) rfl (l' := #[.val (.ref a1), .val (.int i1), .val (.int ((22 : Int32) + (1 : Int32))), .val (.int (32 : Int32))]) rfl k) ?_
  show Go p e below (T24.setTop (mkF m 17 #[.val (.ref a1), .val (.int i1), .val (.int ((22 : Int32) + (1 : Int32))), .val (.int (32 : Int32))] [])) _
  rw [show ((22 : Int32) + (1 : Int32)) = (23 : Int32) from by decide]
  show Go p e below (T24.setTop (mkF m 17 #[.val (.ref a1), .val (.int i1), .val (.int (23 : Int32)), .val (.int (32 : Int32))] [])) _
  refine g_goto X24 hx 5 (hb hby d5_17) (by decide) (by decide) ?_
  refine g_iloadN X24 hx (hb hby d5_5) rfl ?_
  refine g_iloadN X24 hx (hb hby d5_6) rfl ?_
  refine g_icmpNo X24 hx (hb hby d5_7) (tlt ((by decide) : (23 : Int32) < (32 : Int32))).2.1 ?_
  refine g_aloadN X24 hx (hb hby d5_10) rfl rfl ?_
  refine g_iloadN X24 hx (hb hby d5_11) rfl ?_
  refine g_iloadN X24 hx (hb hby d5_12) rfl ?_
  obtain ⟨cl25, Ar25, sz25⟩ := id U_a1_24
  have hin25 : ¬ ((23 : Int32) < 0 ∨ cl25.slots.size ≤ (23 : Int32).toNatClampNeg) := by rw [sz25]; decide
  obtain ⟨T25, h25, X25, e25, W25, st25⟩ := stI X24 hx hZ e24 Ar25 (j := 23) hin25 (g := (mkF m 13 #[.val (.ref a1), .val (.int i1), .val (.int (23 : Int32)), .val (.int (32 : Int32))] [(.int i1), (.int (23 : Int32)), (.ref a1)])) rfl rfl (hb hby d5_13)
  have N25 := Fr.snoc X25 N24 g_a1
  have U_a1_25 := ArU.same W25 U_a1_24
  have K25 := Keep.wr K24 W25 (Or.inl (List.mem_of_getElem? (i := 0) rfl))
  have Z25 : n0 ≤ h25.size := Nat.le_trans Z24 (Nat.le_of_eq W25.size.symm)
  refine Go.mp st25 ?_
  show Go p e below (T25.setTop (mkF m 14 #[.val (.ref a1), .val (.int i1), .val (.int (23 : Int32)), .val (.int (32 : Int32))] [])) _
  refine Go.mp (fun _ k => XS.iinc X25.here hx rfl (hb hby d5_14) rfl (l' := #[.val (.ref a1), .val (.int i1), .val (.int ((23 : Int32) + (1 : Int32))), .val (.int (32 : Int32))]) rfl k) ?_
  show Go p e below (T25.setTop (mkF m 17 #[.val (.ref a1), .val (.int i1), .val (.int ((23 : Int32) + (1 : Int32))), .val (.int (32 : Int32))] [])) _
  rw [show ((23 : Int32) + (1 : Int32)) = (24 : Int32) from by decide]
  show Go p e below (T25.setTop (mkF m 17 #[.val (.ref a1), .val (.int i1), .val (.int (24 : Int32)), .val (.int (32 : Int32))] [])) _
  refine g_goto X25 hx 5 (hb hby d5_17) (by decide) (by decide) ?_
  refine g_iloadN X25 hx (hb hby d5_5) rfl ?_
  refine g_iloadN X25 hx (hb hby d5_6) rfl ?_
  refine g_icmpNo X25 hx (hb hby d5_7) (tlt ((by decide) : (24 : Int32) < (32 : Int32))).2.1 ?_
  refine g_aloadN X25 hx (hb hby d5_10) rfl rfl ?_
  refine g_iloadN X25 hx (hb hby d5_11) rfl ?_
  refine g_iloadN X25 hx (hb hby d5_12) rfl ?_
  obtain ⟨cl26, Ar26, sz26⟩ := id U_a1_25
  have hin26 : ¬ ((24 : Int32) < 0 ∨ cl26.slots.size ≤ (24 : Int32).toNatClampNeg) := by rw [sz26]; decide
  obtain ⟨T26, h26, X26, e26, W26, st26⟩ := stI X25 hx hZ e25 Ar26 (j := 24) hin26 (g := (mkF m 13 #[.val (.ref a1), .val (.int i1), .val (.int (24 : Int32)), .val (.int (32 : Int32))] [(.int i1), (.int (24 : Int32)), (.ref a1)])) rfl rfl (hb hby d5_13)
  have N26 := Fr.snoc X26 N25 g_a1
  have U_a1_26 := ArU.same W26 U_a1_25
  have K26 := Keep.wr K25 W26 (Or.inl (List.mem_of_getElem? (i := 0) rfl))
  have Z26 : n0 ≤ h26.size := Nat.le_trans Z25 (Nat.le_of_eq W26.size.symm)
  refine Go.mp st26 ?_
  show Go p e below (T26.setTop (mkF m 14 #[.val (.ref a1), .val (.int i1), .val (.int (24 : Int32)), .val (.int (32 : Int32))] [])) _
  refine Go.mp (fun _ k => XS.iinc X26.here hx rfl (hb hby d5_14) rfl (l' := #[.val (.ref a1), .val (.int i1), .val (.int ((24 : Int32) + (1 : Int32))), .val (.int (32 : Int32))]) rfl k) ?_
  show Go p e below (T26.setTop (mkF m 17 #[.val (.ref a1), .val (.int i1), .val (.int ((24 : Int32) + (1 : Int32))), .val (.int (32 : Int32))] [])) _
  rw [show ((24 : Int32) + (1 : Int32)) = (25 : Int32) from by decide]
  show Go p e below (T26.setTop (mkF m 17 #[.val (.ref a1), .val (.int i1), .val (.int (25 : Int32)), .val (.int (32 : Int32))] [])) _
  refine g_goto X26 hx 5 (hb hby d5_17) (by decide) (by decide) ?_
  refine g_iloadN X26 hx (hb hby d5_5) rfl ?_
  refine g_iloadN X26 hx (hb hby d5_6) rfl ?_
  refine g_icmpNo X26 hx (hb hby d5_7) (tlt ((by decide) : (25 : Int32) < (32 : Int32))).2.1 ?_
  refine g_aloadN X26 hx (hb hby d5_10) rfl rfl ?_
  refine g_iloadN X26 hx (hb hby d5_11) rfl ?_
  refine g_iloadN X26 hx (hb hby d5_12) rfl ?_
  obtain ⟨cl27, Ar27, sz27⟩ := id U_a1_26
  have hin27 : ¬ ((25 : Int32) < 0 ∨ cl27.slots.size ≤ (25 : Int32).toNatClampNeg) := by rw [sz27]; decide
  obtain ⟨T27, h27, X27, e27, W27, st27⟩ := stI X26 hx hZ e26 Ar27 (j := 25) hin27 (g := (mkF m 13 #[.val (.ref a1), .val (.int i1), .val (.int (25 : Int32)), .val (.int (32 : Int32))] [(.int i1), (.int (25 : Int32)), (.ref a1)])) rfl rfl (hb hby d5_13)
  have N27 := Fr.snoc X27 N26 g_a1
  have U_a1_27 := ArU.same W27 U_a1_26
  have K27 := Keep.wr K26 W27 (Or.inl (List.mem_of_getElem? (i := 0) rfl))
  have Z27 : n0 ≤ h27.size := Nat.le_trans Z26 (Nat.le_of_eq W27.size.symm)
  refine Go.mp st27 ?_
  show Go p e below (T27.setTop (mkF m 14 #[.val (.ref a1), .val (.int i1), .val (.int (25 : Int32)), .val (.int (32 : Int32))] [])) _
  refine Go.mp (fun _ k => XS.iinc X27.here hx rfl (hb hby d5_14) rfl (l' := #[.val (.ref a1), .val (.int i1), .val (.int ((25 : Int32) + (1 : Int32))), .val (.int (32 : Int32))]) rfl k) ?_
  show Go p e below (T27.setTop (mkF m 17 #[.val (.ref a1), .val (.int i1), .val (.int ((25 : Int32) + (1 : Int32))), .val (.int (32 : Int32))] [])) _
  rw [show ((25 : Int32) + (1 : Int32)) = (26 : Int32) from by decide]
  show Go p e below (T27.setTop (mkF m 17 #[.val (.ref a1), .val (.int i1), .val (.int (26 : Int32)), .val (.int (32 : Int32))] [])) _
  refine g_goto X27 hx 5 (hb hby d5_17) (by decide) (by decide) ?_
  refine g_iloadN X27 hx (hb hby d5_5) rfl ?_
  refine g_iloadN X27 hx (hb hby d5_6) rfl ?_
  refine g_icmpNo X27 hx (hb hby d5_7) (tlt ((by decide) : (26 : Int32) < (32 : Int32))).2.1 ?_
  refine g_aloadN X27 hx (hb hby d5_10) rfl rfl ?_
  refine g_iloadN X27 hx (hb hby d5_11) rfl ?_
  refine g_iloadN X27 hx (hb hby d5_12) rfl ?_
  obtain ⟨cl28, Ar28, sz28⟩ := id U_a1_27
  have hin28 : ¬ ((26 : Int32) < 0 ∨ cl28.slots.size ≤ (26 : Int32).toNatClampNeg) := by rw [sz28]; decide
  obtain ⟨T28, h28, X28, e28, W28, st28⟩ := stI X27 hx hZ e27 Ar28 (j := 26) hin28 (g := (mkF m 13 #[.val (.ref a1), .val (.int i1), .val (.int (26 : Int32)), .val (.int (32 : Int32))] [(.int i1), (.int (26 : Int32)), (.ref a1)])) rfl rfl (hb hby d5_13)
  have N28 := Fr.snoc X28 N27 g_a1
  have U_a1_28 := ArU.same W28 U_a1_27
  have K28 := Keep.wr K27 W28 (Or.inl (List.mem_of_getElem? (i := 0) rfl))
  have Z28 : n0 ≤ h28.size := Nat.le_trans Z27 (Nat.le_of_eq W28.size.symm)
  refine Go.mp st28 ?_
  show Go p e below (T28.setTop (mkF m 14 #[.val (.ref a1), .val (.int i1), .val (.int (26 : Int32)), .val (.int (32 : Int32))] [])) _
  refine Go.mp (fun _ k => XS.iinc X28.here hx rfl (hb hby d5_14) rfl (l' := #[.val (.ref a1), .val (.int i1), .val (.int ((26 : Int32) + (1 : Int32))), .val (.int (32 : Int32))]) rfl k) ?_
  show Go p e below (T28.setTop (mkF m 17 #[.val (.ref a1), .val (.int i1), .val (.int ((26 : Int32) + (1 : Int32))), .val (.int (32 : Int32))] [])) _
  rw [show ((26 : Int32) + (1 : Int32)) = (27 : Int32) from by decide]
  show Go p e below (T28.setTop (mkF m 17 #[.val (.ref a1), .val (.int i1), .val (.int (27 : Int32)), .val (.int (32 : Int32))] [])) _
  refine g_goto X28 hx 5 (hb hby d5_17) (by decide) (by decide) ?_
  refine g_iloadN X28 hx (hb hby d5_5) rfl ?_
  refine g_iloadN X28 hx (hb hby d5_6) rfl ?_
  refine g_icmpNo X28 hx (hb hby d5_7) (tlt ((by decide) : (27 : Int32) < (32 : Int32))).2.1 ?_
  refine g_aloadN X28 hx (hb hby d5_10) rfl rfl ?_
  refine g_iloadN X28 hx (hb hby d5_11) rfl ?_
  refine g_iloadN X28 hx (hb hby d5_12) rfl ?_
  obtain ⟨cl29, Ar29, sz29⟩ := id U_a1_28
  have hin29 : ¬ ((27 : Int32) < 0 ∨ cl29.slots.size ≤ (27 : Int32).toNatClampNeg) := by rw [sz29]; decide
  obtain ⟨T29, h29, X29, e29, W29, st29⟩ := stI X28 hx hZ e28 Ar29 (j := 27) hin29 (g := (mkF m 13 #[.val (.ref a1), .val (.int i1), .val (.int (27 : Int32)), .val (.int (32 : Int32))] [(.int i1), (.int (27 : Int32)), (.ref a1)])) rfl rfl (hb hby d5_13)
  have N29 := Fr.snoc X29 N28 g_a1
  have U_a1_29 := ArU.same W29 U_a1_28
  have K29 := Keep.wr K28 W29 (Or.inl (List.mem_of_getElem? (i := 0) rfl))
  have Z29 : n0 ≤ h29.size := Nat.le_trans Z28 (Nat.le_of_eq W29.size.symm)
  refine Go.mp st29 ?_
  show Go p e below (T29.setTop (mkF m 14 #[.val (.ref a1), .val (.int i1), .val (.int (27 : Int32)), .val (.int (32 : Int32))] [])) _
  refine Go.mp (fun _ k => XS.iinc X29.here hx rfl (hb hby d5_14) rfl (l' := #[.val (.ref a1), .val (.int i1), .val (.int ((27 : Int32) + (1 : Int32))), .val (.int (32 : Int32))]) rfl k) ?_
  show Go p e below (T29.setTop (mkF m 17 #[.val (.ref a1), .val (.int i1), .val (.int ((27 : Int32) + (1 : Int32))), .val (.int (32 : Int32))] [])) _
  rw [show ((27 : Int32) + (1 : Int32)) = (28 : Int32) from by decide]
  show Go p e below (T29.setTop (mkF m 17 #[.val (.ref a1), .val (.int i1), .val (.int (28 : Int32)), .val (.int (32 : Int32))] [])) _
  refine g_goto X29 hx 5 (hb hby d5_17) (by decide) (by decide) ?_
  refine g_iloadN X29 hx (hb hby d5_5) rfl ?_
  refine g_iloadN X29 hx (hb hby d5_6) rfl ?_
  refine g_icmpNo X29 hx (hb hby d5_7) (tlt ((by decide) : (28 : Int32) < (32 : Int32))).2.1 ?_
  refine g_aloadN X29 hx (hb hby d5_10) rfl rfl ?_
  refine g_iloadN X29 hx (hb hby d5_11) rfl ?_
  refine g_iloadN X29 hx (hb hby d5_12) rfl ?_
  obtain ⟨cl30, Ar30, sz30⟩ := id U_a1_29
  have hin30 : ¬ ((28 : Int32) < 0 ∨ cl30.slots.size ≤ (28 : Int32).toNatClampNeg) := by rw [sz30]; decide
  obtain ⟨T30, h30, X30, e30, W30, st30⟩ := stI X29 hx hZ e29 Ar30 (j := 28) hin30 (g := (mkF m 13 #[.val (.ref a1), .val (.int i1), .val (.int (28 : Int32)), .val (.int (32 : Int32))] [(.int i1), (.int (28 : Int32)), (.ref a1)])) rfl rfl (hb hby d5_13)
  have N30 := Fr.snoc X30 N29 g_a1
  have U_a1_30 := ArU.same W30 U_a1_29
  have K30 := Keep.wr K29 W30 (Or.inl (List.mem_of_getElem? (i := 0) rfl))
  have Z30 : n0 ≤ h30.size := Nat.le_trans Z29 (Nat.le_of_eq W30.size.symm)
  refine Go.mp st30 ?_
  show Go p e below (T30.setTop (mkF m 14 #[.val (.ref a1), .val (.int i1), .val (.int (28 : Int32)), .val (.int (32 : Int32))] [])) _
  refine Go.mp (fun _ k => XS.iinc X30.here hx rfl (hb hby d5_14) rfl (l' := #[.val (.ref a1), .val (.int i1), .val (.int ((28 : Int32) + (1 : Int32))), .val (.int (32 : Int32))]) rfl k) ?_
  show Go p e below (T30.setTop (mkF m 17 #[.val (.ref a1), .val (.int i1), .val (.int ((28 : Int32) + (1 : Int32))), .val (.int (32 : Int32))] [])) _
  rw [show ((28 : Int32) + (1 : Int32)) = (29 : Int32) from by decide]
  show Go p e below (T30.setTop (mkF m 17 #[.val (.ref a1), .val (.int i1), .val (.int (29 : Int32)), .val (.int (32 : Int32))] [])) _
  refine g_goto X30 hx 5 (hb hby d5_17) (by decide) (by decide) ?_
  refine g_iloadN X30 hx (hb hby d5_5) rfl ?_
  refine g_iloadN X30 hx (hb hby d5_6) rfl ?_
  refine g_icmpNo X30 hx (hb hby d5_7) (tlt ((by decide) : (29 : Int32) < (32 : Int32))).2.1 ?_
  refine g_aloadN X30 hx (hb hby d5_10) rfl rfl ?_
  refine g_iloadN X30 hx (hb hby d5_11) rfl ?_
  refine g_iloadN X30 hx (hb hby d5_12) rfl ?_
  obtain ⟨cl31, Ar31, sz31⟩ := id U_a1_30
  have hin31 : ¬ ((29 : Int32) < 0 ∨ cl31.slots.size ≤ (29 : Int32).toNatClampNeg) := by rw [sz31]; decide
  obtain ⟨T31, h31, X31, e31, W31, st31⟩ := stI X30 hx hZ e30 Ar31 (j := 29) hin31 (g := (mkF m 13 #[.val (.ref a1), .val (.int i1), .val (.int (29 : Int32)), .val (.int (32 : Int32))] [(.int i1), (.int (29 : Int32)), (.ref a1)])) rfl rfl (hb hby d5_13)
  have N31 := Fr.snoc X31 N30 g_a1
  have U_a1_31 := ArU.same W31 U_a1_30
  have K31 := Keep.wr K30 W31 (Or.inl (List.mem_of_getElem? (i := 0) rfl))
  have Z31 : n0 ≤ h31.size := Nat.le_trans Z30 (Nat.le_of_eq W31.size.symm)
  refine Go.mp st31 ?_
  show Go p e below (T31.setTop (mkF m 14 #[.val (.ref a1), .val (.int i1), .val (.int (29 : Int32)), .val (.int (32 : Int32))] [])) _
  refine Go.mp (fun _ k => XS.iinc X31.here hx rfl (hb hby d5_14) rfl (l' := #[.val (.ref a1), .val (.int i1), .val (.int ((29 : Int32) + (1 : Int32))), .val (.int (32 : Int32))]) rfl k) ?_
  show Go p e below (T31.setTop (mkF m 17 #[.val (.ref a1), .val (.int i1), .val (.int ((29 : Int32) + (1 : Int32))), .val (.int (32 : Int32))] [])) _
  rw [show ((29 : Int32) + (1 : Int32)) = (30 : Int32) from by decide]
  show Go p e below (T31.setTop (mkF m 17 #[.val (.ref a1), .val (.int i1), .val (.int (30 : Int32)), .val (.int (32 : Int32))] [])) _
  refine g_goto X31 hx 5 (hb hby d5_17) (by decide) (by decide) ?_
  refine g_iloadN X31 hx (hb hby d5_5) rfl ?_
  refine g_iloadN X31 hx (hb hby d5_6) rfl ?_
  refine g_icmpNo X31 hx (hb hby d5_7) (tlt ((by decide) : (30 : Int32) < (32 : Int32))).2.1 ?_
  refine g_aloadN X31 hx (hb hby d5_10) rfl rfl ?_
  refine g_iloadN X31 hx (hb hby d5_11) rfl ?_
  refine g_iloadN X31 hx (hb hby d5_12) rfl ?_
  obtain ⟨cl32, Ar32, sz32⟩ := id U_a1_31
  have hin32 : ¬ ((30 : Int32) < 0 ∨ cl32.slots.size ≤ (30 : Int32).toNatClampNeg) := by rw [sz32]; decide
  obtain ⟨T32, h32, X32, e32, W32, st32⟩ := stI X31 hx hZ e31 Ar32 (j := 30) hin32 (g := (mkF m 13 #[.val (.ref a1), .val (.int i1), .val (.int (30 : Int32)), .val (.int (32 : Int32))] [(.int i1), (.int (30 : Int32)), (.ref a1)])) rfl rfl (hb hby d5_13)
  have N32 := Fr.snoc X32 N31 g_a1
  have U_a1_32 := ArU.same W32 U_a1_31
  have K32 := Keep.wr K31 W32 (Or.inl (List.mem_of_getElem? (i := 0) rfl))
  have Z32 : n0 ≤ h32.size := Nat.le_trans Z31 (Nat.le_of_eq W32.size.symm)
  refine Go.mp st32 ?_
  show Go p e below (T32.setTop (mkF m 14 #[.val (.ref a1), .val (.int i1), .val (.int (30 : Int32)), .val (.int (32 : Int32))] [])) _
  refine Go.mp (fun _ k => XS.iinc X32.here hx rfl (hb hby d5_14) rfl (l' := #[.val (.ref a1), .val (.int i1), .val (.int ((30 : Int32) + (1 : Int32))), .val (.int (32 : Int32))]) rfl k) ?_
  show Go p e below (T32.setTop (mkF m 17 #[.val (.ref a1), .val (.int i1), .val (.int ((30 : Int32) + (1 : Int32))), .val (.int (32 : Int32))] [])) _
  rw [show ((30 : Int32) + (1 : Int32)) = (31 : Int32) from by decide]
  show Go p e below (T32.setTop (mkF m 17 #[.val (.ref a1), .val (.int i1), .val (.int (31 : Int32)), .val (.int (32 : Int32))] [])) _
  refine g_goto X32 hx 5 (hb hby d5_17) (by decide) (by decide) ?_
  refine g_iloadN X32 hx (hb hby d5_5) rfl ?_
  refine g_iloadN X32 hx (hb hby d5_6) rfl ?_
  refine g_icmpNo X32 hx (hb hby d5_7) (tlt ((by decide) : (31 : Int32) < (32 : Int32))).2.1 ?_
  refine g_aloadN X32 hx (hb hby d5_10) rfl rfl ?_
  refine g_iloadN X32 hx (hb hby d5_11) rfl ?_
  refine g_iloadN X32 hx (hb hby d5_12) rfl ?_
  obtain ⟨cl33, Ar33, sz33⟩ := id U_a1_32
  have hin33 : ¬ ((31 : Int32) < 0 ∨ cl33.slots.size ≤ (31 : Int32).toNatClampNeg) := by rw [sz33]; decide
  obtain ⟨T33, h33, X33, e33, W33, st33⟩ := stI X32 hx hZ e32 Ar33 (j := 31) hin33 (g := (mkF m 13 #[.val (.ref a1), .val (.int i1), .val (.int (31 : Int32)), .val (.int (32 : Int32))] [(.int i1), (.int (31 : Int32)), (.ref a1)])) rfl rfl (hb hby d5_13)
  have N33 := Fr.snoc X33 N32 g_a1
  have U_a1_33 := ArU.same W33 U_a1_32
  have K33 := Keep.wr K32 W33 (Or.inl (List.mem_of_getElem? (i := 0) rfl))
  have Z33 : n0 ≤ h33.size := Nat.le_trans Z32 (Nat.le_of_eq W33.size.symm)
  refine Go.mp st33 ?_
  show Go p e below (T33.setTop (mkF m 14 #[.val (.ref a1), .val (.int i1), .val (.int (31 : Int32)), .val (.int (32 : Int32))] [])) _
  refine Go.mp (fun _ k => XS.iinc X33.here hx rfl (hb hby d5_14) rfl (l' := #[.val (.ref a1), .val (.int i1), .val (.int ((31 : Int32) + (1 : Int32))), .val (.int (32 : Int32))]) rfl k) ?_
  show Go p e below (T33.setTop (mkF m 17 #[.val (.ref a1), .val (.int i1), .val (.int ((31 : Int32) + (1 : Int32))), .val (.int (32 : Int32))] [])) _
  rw [show ((31 : Int32) + (1 : Int32)) = (32 : Int32) from by decide]
  show Go p e below (T33.setTop (mkF m 17 #[.val (.ref a1), .val (.int i1), .val (.int (32 : Int32)), .val (.int (32 : Int32))] [])) _
  refine g_goto X33 hx 5 (hb hby d5_17) (by decide) (by decide) ?_
  refine g_iloadN X33 hx (hb hby d5_5) rfl ?_
  refine g_iloadN X33 hx (hb hby d5_6) rfl ?_
  refine g_icmpYes X33 hx 20 (hb hby d5_7) (flt ((by decide) : ¬ ((32 : Int32) < (32 : Int32)))).2.1 (by decide) (by decide) ?_
  exact own_retV X33 hx hret hlk (hb hby d5_20) (by decide) (by decide) (by rw [e33]; exact ⟨rfl, N33, K33⟩)
theorem own_idx {iv : Int32} {n : Nat} (h0 : 0 ≤ iv.toInt) (h1 : iv.toInt < n) : ¬ (iv < 0 ∨ n ≤ iv.toNatClampNeg) := by
  rw [Int32.lt_iff_toInt_lt]
  have e : (0 : Int32).toInt = 0 := rfl
  simp only [Int32.toNatClampNeg]; omega
theorem own_lt256 {iv : Int32} (h : iv.toInt < 256) : iv < (256 : Int32) := by rw [Int32.lt_iff_toInt_lt]; exact h
theorem own_nlt256 {iv : Int32} (h : ¬ iv.toInt < 256) : ¬ iv < (256 : Int32) := by rw [Int32.lt_iff_toInt_lt]; exact h
theorem own_inc256 {iv : Int32} (h0 : 0 ≤ iv.toInt) (h : iv.toInt < 256) : (iv + (1 : Int32)).toInt = iv.toInt + 1 := by
  have := c_iadd iv 1; have := rng32 (iv + 1); have e : (1 : Int32).toInt = 1 := rfl
  omega
theorem d1_111 : decode prog_31_method_1_code 111 = .ok (.iload_n 2, 1) := by decide +kernel
theorem d1_112 : decode prog_31_method_1_code 112 = .ok (.sipush 256, 3) := by decide +kernel
theorem d1_115 : decode prog_31_method_1_code 115 = .ok (.if_icmp .ge 22, 3) := by decide +kernel
theorem d1_118 : decode prog_31_method_1_code 118 = .ok (.aload_n 0, 1) := by decide +kernel
theorem d1_119 : decode prog_31_method_1_code 119 = .ok (.getfield 13, 3) := by decide +kernel
theorem d1_122 : decode prog_31_method_1_code 122 = .ok (.iload_n 2, 1) := by decide +kernel
theorem d1_123 : decode prog_31_method_1_code 123 = .ok (.new 2, 3) := by decide +kernel
theorem d1_126 : decode prog_31_method_1_code 126 = .ok (.dup, 1) := by decide +kernel
theorem d1_127 : decode prog_31_method_1_code 127 = .ok (.invokespecial 1, 3) := by decide +kernel
theorem d1_130 : decode prog_31_method_1_code 130 = .ok (.aastore, 1) := by decide +kernel
theorem d1_131 : decode prog_31_method_1_code 131 = .ok (.iinc 2 1, 3) := by decide +kernel
theorem d1_134 : decode prog_31_method_1_code 134 = .ok (.goto (-23), 3) := by decide +kernel
set_option maxRecDepth 65536 in
set_option maxHeartbeats 40000000 in
theorem hb_turn (l : Launch) (Z : State) (a0 : Array Value) (hw : ∀ d ∈ tables_1, d.before a0 Z = true) (a1 : Addr) (lk : Addr) (ch : Addr) (hA : Heap) (iv : Int32) (kc : Nat) (h0 : Heap) (n0 : Nat) (Z0 : n0 ≤ h0.size) (E_a1 : Exa Z h0 a1 "com/example/watermark/watermark/store/HeldBatches") (F_a1_locks : Fld Z h0 a1 "com/example/watermark/watermark/store/HeldBatches" "locks" "[Ljava/lang/Object;" (.ref lk)) (F_a1_chainHeads : Fld Z h0 a1 "com/example/watermark/watermark/store/HeldBatches" "chainHeads" "[I" (.ref ch)) (U_lk : ArO Z h0 lk "java/lang/Object" 256) (U_ch : ArU Z h0 ch .int 32) (K0 : Keep hA h0 [a1]) (g_lk : n0 ≤ lk) (g_ch : n0 ≤ ch) (sz_lk : hA.size ≤ lk) (sz_ch : hA.size ≤ ch) (ne_a1_lk : a1 ≠ lk) (ne_ch_lk : ch ≠ lk) (ne_a1_ch : a1 ≠ ch) (h0i : 0 ≤ iv.toInt) (h1i : iv.toInt < 256) (hcell : kc + 1 ≤ 277) {p : Program} {e : Env} {s : State} {m : MethodId} {below : List Frame} {meth : Method} {c : Code} {args : Array Value} {s₁ : State} {lo : List Loc} (hx : p.tables.exec = Jvm.exec) (hby : c.code = prog_31_method_1_code) (hml : c.maxLocals = 3) (hown : s.vm.findClass "com/example/watermark/watermark/store/HeldBatches" = some m.cls) (hnm : meth.name = "<init>") (hret : meth.sig.returnType = none) (hlk : meth.locks = false) (hZ : Z.Warmed39 s.vm) (X0 : Stand p l e ({ frames := 3, cells := 277, slots := 789, locals := 60 } : Room) s m args below meth c s₁ lo kc 789) (e0 : s₁.heap = h0) (N0 : Fr n0 lo) (ih : ∀ (s' : State) (lo' : List Loc) (h' : Heap), n0 ≤ h'.size → Exa Z h' a1 "com/example/watermark/watermark/store/HeldBatches" → Fld Z h' a1 "com/example/watermark/watermark/store/HeldBatches" "locks" "[Ljava/lang/Object;" (.ref lk) → Fld Z h' a1 "com/example/watermark/watermark/store/HeldBatches" "chainHeads" "[I" (.ref ch) → ArO Z h' lk "java/lang/Object" 256 → ArU Z h' ch .int 32 → Keep hA h' [a1] → Stand p l e ({ frames := 3, cells := 277, slots := 789, locals := 60 } : Room) s m args below meth c s' lo' (kc + 1) 789 → s'.heap = h' → Fr n0 lo' → Go p e below (s'.setTop (mkF m 111 #[.val (.ref a1), .val .null, .val (.int (iv + (1 : Int32)))] [])) (FinE s ({ frames := 3, cells := 277, slots := 789, locals := 60 } : Room).cells ({ frames := 3, cells := 277, slots := 789, locals := 60 } : Room).slots (fun v h L => v = none ∧ Fr n0 L ∧ Keep hA h [a1]))) :
    Go p e below (s₁.setTop (mkF m 111 #[.val (.ref a1), .val .null, .val (.int iv)] [])) (FinE s ({ frames := 3, cells := 277, slots := 789, locals := 60 } : Room).cells ({ frames := 3, cells := 277, slots := 789, locals := 60 } : Room).slots (fun v h L => v = none ∧ Fr n0 L ∧ Keep hA h [a1])) := by
  show Go p e below (s₁.setTop (mkF m 111 #[.val (.ref a1), .val .null, .val (.int iv)] [])) _
  refine g_iloadN X0 hx (hb hby d1_111) rfl ?_
  refine g_sipush X0 hx (256 : Int32) (hb hby d1_112) (by decide) ?_
  have c115_1 : iv < (256 : Int32) := (own_lt256 h1i)
  refine g_icmpNo X0 hx (hb hby d1_115) (tlt c115_1).2.1 ?_
  refine g_aloadN X0 hx (hb hby d1_118) rfl rfl ?_
  obtain ⟨T2, X2, e2, st2⟩ := getF X0 hx hZ hown (host := "") (Or.inl (hw _ (List.mem_of_getElem? (i := 15) rfl))) Via.refl e0 F_a1_locks (g := (mkF m 119 #[.val (.ref a1), .val .null, .val (.int iv)] [(.ref a1)])) rfl rfl (hb hby d1_119)
  refine Go.mp st2 ?_
  show Go p e below (T2.setTop (mkF m 122 #[.val (.ref a1), .val .null, .val (.int iv)] [(.ref lk)])) _
  refine g_iloadN X2 hx (hb hby d1_122) rfl ?_
  obtain ⟨T3, h3, X3, e3, E3, A3, D3, -, st3⟩ := newO X2 hx hZ hown (hw _ (List.mem_of_getElem? (i := 9) rfl)) (hw _ (List.mem_of_getElem? (i := 10) rfl)) (hw _ (List.mem_of_getElem? (i := 11) rfl)) e2 (g := (mkF m 123 #[.val (.ref a1), .val .null, .val (.int iv)] [(.int iv), (.ref lk)])) rfl (hb hby d1_123) hcell (by decide)
  obtain ⟨b3, g3⟩ : ∃ z, z = h0.size := ⟨_, rfl⟩
  rw [← g3] at A3 D3 st3
  have ne_a1_b3 : a1 ≠ b3 := Nat.ne_of_lt (Nat.lt_of_lt_of_le E_a1.lt (Nat.le_of_eq g3.symm))
  have ne_lk_b3 : lk ≠ b3 := Nat.ne_of_lt (Nat.lt_of_lt_of_le U_lk.lt (Nat.le_of_eq g3.symm))
  have ne_ch_b3 : ch ≠ b3 := Nat.ne_of_lt (Nat.lt_of_lt_of_le U_ch.lt (Nat.le_of_eq g3.symm))
  have g_b3 : n0 ≤ b3 := Nat.le_trans Z0 (Nat.le_of_eq g3.symm)
  have Z3 : n0 ≤ h3.size := Nat.le_trans Z0 E3.1
  have E_a1_3 := Exa.ext E3 E_a1
  have F_a1_locks_3 := Fld.ext E3 F_a1_locks
  have F_a1_chainHeads_3 := Fld.ext E3 F_a1_chainHeads
  have U_lk_3 := ArO.ext E3 U_lk
  have U_ch_3 := ArU.ext E3 U_ch
  have sz_b3 : hA.size ≤ b3 := Nat.le_trans K0.1 (Nat.le_of_eq g3.symm)
  have K3 := Keep.ext K0 E3
  refine Go.mp st3 ?_
  show Go p e below (T3.setTop (mkF m 126 #[.val (.ref a1), .val .null, .val (.int iv)] [(.ref b3), (.int iv), (.ref lk)])) _
  refine g_dup X3 hx (hb hby d1_126) rfl ?_
  obtain ⟨T4, X4, e4, st4⟩ := initO X3 hx hZ hown (hw _ (List.mem_of_getElem? (i := 6) rfl)) (hw _ (List.mem_of_getElem? (i := 7) rfl)) (hw _ (List.mem_of_getElem? (i := 8) rfl)) e3 (g := (mkF m 127 #[.val (.ref a1), .val .null, .val (.int iv)] [(.ref b3), (.ref b3), (.int iv), (.ref lk)])) rfl (by rw [hml]; rfl) rfl (hb hby d1_127) (by decide) (W := 3) (by show 2 * 0 + _ ≤ _; exact Nat.le_of_eq rfl) (by decide)
  refine Go.mp st4 ?_
  show Go p e below (T4.setTop (mkF m 130 #[.val (.ref a1), .val .null, .val (.int iv)] [(.ref b3), (.int iv), (.ref lk)])) _
  obtain ⟨cl5, Ar5, sz5, Ov5⟩ := id U_lk_3
  have hin5 : ¬ (iv < 0 ∨ cl5.slots.size ≤ iv.toNatClampNeg) := by rw [sz5]; exact own_idx h0i h1i
  have Sto5 := Sto.of Ar5 Ov5 (Ins.self A3)
  obtain ⟨T5, h5, X5, e5, W5, st5⟩ := stR X4 hx hZ e4 Ar5 (j := iv) hin5 rfl Sto5 (g := (mkF m 130 #[.val (.ref a1), .val .null, .val (.int iv)] [(.ref b3), (.int iv), (.ref lk)])) rfl rfl (hb hby d1_130)
  have N5 := Fr.snoc X5 N0 g_lk
  have E_a1_5 := Exa.wr W5 E_a1_3
  have F_a1_locks_5 := Fld.other W5 F_a1_locks_3 (Or.inl ne_a1_lk)
  have F_a1_chainHeads_5 := Fld.other W5 F_a1_chainHeads_3 (Or.inl ne_a1_lk)
  have U_lk_5 := ArO.same W5 U_lk_3
  have U_ch_5 := ArU.other W5 U_ch_3 ne_ch_lk
  have E_b3_5 := Exa.wr W5 A3
  have K5 := Keep.wr K3 W5 (Or.inr sz_lk)
  have Z5 : n0 ≤ h5.size := Nat.le_trans Z3 (Nat.le_of_eq W5.size.symm)
  refine Go.mp st5 ?_
  show Go p e below (T5.setTop (mkF m 131 #[.val (.ref a1), .val .null, .val (.int iv)] [])) _
  refine Go.mp (fun _ k => XS.iinc X5.here hx rfl (hb hby d1_131) rfl (l' := #[.val (.ref a1), .val .null, .val (.int (iv + (1 : Int32)))]) rfl k) ?_
  show Go p e below (T5.setTop (mkF m 134 #[.val (.ref a1), .val .null, .val (.int (iv + (1 : Int32)))] [])) _
  refine g_goto X5 hx 111 (hb hby d1_134) (by decide) (by decide) ?_
  show Go p e below (T5.setTop (mkF m 111 #[.val (.ref a1), .val .null, .val (.int (iv + (1 : Int32)))] [])) _
  exact ih _ _ _ Z5 E_a1_5 F_a1_locks_5 F_a1_chainHeads_5 U_lk_5 U_ch_5 K5 X5 e5 N5
theorem pd_0 : parseMethodDescriptor "([II)V" = some ⟨[(FieldType.array FieldType.int), FieldType.int], none⟩ := by decide +kernel
theorem d1_137 : decode prog_31_method_1_code 137 = .ok (.aload_n 0, 1) := by decide +kernel
theorem d1_138 : decode prog_31_method_1_code 138 = .ok (.getfield 29, 3) := by decide +kernel
theorem d1_141 : decode prog_31_method_1_code 141 = .ok (.iconst (-1), 1) := by decide +kernel
theorem d1_142 : decode prog_31_method_1_code 142 = .ok (.invokestatic 65, 3) := by decide +kernel
theorem d1_145 : decode prog_31_method_1_code 145 = .ok (.return_, 1) := by decide +kernel
set_option maxRecDepth 65536 in
set_option maxHeartbeats 40000000 in
theorem hb_exit (l : Launch) (Z : State) (a0 : Array Value) (hw : ∀ d ∈ tables_1, d.before a0 Z = true) (a1 : Addr) (lk : Addr) (ch : Addr) (hA : Heap) (iv : Int32) (h0 : Heap) (n0 : Nat) (Z0 : n0 ≤ h0.size) (E_a1 : Exa Z h0 a1 "com/example/watermark/watermark/store/HeldBatches") (F_a1_locks : Fld Z h0 a1 "com/example/watermark/watermark/store/HeldBatches" "locks" "[Ljava/lang/Object;" (.ref lk)) (F_a1_chainHeads : Fld Z h0 a1 "com/example/watermark/watermark/store/HeldBatches" "chainHeads" "[I" (.ref ch)) (U_lk : ArO Z h0 lk "java/lang/Object" 256) (U_ch : ArU Z h0 ch .int 32) (K0 : Keep hA h0 [a1]) (g_lk : n0 ≤ lk) (g_ch : n0 ≤ ch) (sz_lk : hA.size ≤ lk) (sz_ch : hA.size ≤ ch) (ne_a1_lk : a1 ≠ lk) (ne_ch_lk : ch ≠ lk) (ne_a1_ch : a1 ≠ ch) (h1i : ¬ iv.toInt < 256) {p : Program} {e : Env} {s : State} {m : MethodId} {below : List Frame} {meth : Method} {c : Code} {args : Array Value} {s₁ : State} {lo : List Loc} (hx : p.tables.exec = Jvm.exec) (hby : c.code = prog_31_method_1_code) (hml : c.maxLocals = 3) (hown : s.vm.findClass "com/example/watermark/watermark/store/HeldBatches" = some m.cls) (hnm : meth.name = "<init>") (hret : meth.sig.returnType = none) (hlk : meth.locks = false) (hZ : Z.Warmed39 s.vm) (X0 : Stand p l e ({ frames := 3, cells := 277, slots := 789, locals := 60 } : Room) s m args below meth c s₁ lo 277 789) (e0 : s₁.heap = h0) (N0 : Fr n0 lo) :
    Go p e below (s₁.setTop (mkF m 111 #[.val (.ref a1), .val .null, .val (.int iv)] [])) (FinE s ({ frames := 3, cells := 277, slots := 789, locals := 60 } : Room).cells ({ frames := 3, cells := 277, slots := 789, locals := 60 } : Room).slots (fun v h L => v = none ∧ Fr n0 L ∧ Keep hA h [a1])) := by
  show Go p e below (s₁.setTop (mkF m 111 #[.val (.ref a1), .val .null, .val (.int iv)] [])) _
  refine g_iloadN X0 hx (hb hby d1_111) rfl ?_
  refine g_sipush X0 hx (256 : Int32) (hb hby d1_112) (by decide) ?_
  have c115_1 : ¬ (iv < (256 : Int32)) := (own_nlt256 h1i)
  refine g_icmpYes X0 hx 137 (hb hby d1_115) (flt c115_1).2.1 (by decide) (by decide) ?_
  refine g_aloadN X0 hx (hb hby d1_137) rfl rfl ?_
  obtain ⟨T2, X2, e2, st2⟩ := getF X0 hx hZ hown (host := "") (Or.inl (hw _ (List.mem_of_getElem? (i := 43) rfl))) Via.refl e0 F_a1_chainHeads (g := (mkF m 138 #[.val (.ref a1), .val .null, .val (.int iv)] [(.ref a1)])) rfl rfl (hb hby d1_138)
  refine Go.mp st2 ?_
  show Go p e below (T2.setTop (mkF m 141 #[.val (.ref a1), .val .null, .val (.int iv)] [(.ref ch)])) _
  refine g_iconst X2 hx (-1 : Int32) (hb hby d1_141) (by decide) ?_
  obtain ⟨v3, T3, L3, X3, q3, st3⟩ := own_callS X2 hx hZ (y := (⟨"java/util/Arrays", "fill", "([II)V"⟩ : MethodName)) (pc := 142) (Ls := #[.val (.ref a1), .val .null, .val (.int iv)]) (st := [(.int (-1 : Int32)), (.ref ch)]) hown (hw _ (List.mem_of_getElem? (i := 93) rfl)) (hw _ (List.mem_of_getElem? (i := 94) rfl)) (hw _ (List.mem_of_getElem? (i := 95) rfl)) (hw _ (List.mem_of_getElem? (i := 96) rfl)) (by decide) (rm_fill l Z a0 hw ch (-1 : Int32) h0 n0 Z0 U_ch g_ch) e2 pd_0 (hb hby d1_142) (by rw [hml]; rfl) (argsL := [(.ref ch), (.int (-1 : Int32))]) (rest := []) rfl rfl rfl (W := 0) (Nat.le_of_eq rfl) (by decide) (by decide) (by decide) (by decide)
  obtain ⟨rfl, M3, Kc3⟩ := q3
  have N3 := Fr.app N0 M3
  have E_a1_3 := Exa.keep E_a1 Kc3
  have F_a1_locks_3 := Fld.keep F_a1_locks Kc3 (own_nin ne_a1_ch List.not_mem_nil)
  have F_a1_chainHeads_3 := Fld.keep F_a1_chainHeads Kc3 (own_nin ne_a1_ch List.not_mem_nil)
  have U_lk_3 := ArO.keep U_lk Kc3 (own_nin (Ne.symm ne_ch_lk) List.not_mem_nil)
  have K3 := Keep.trans K0 Kc3 (own_mem1 (Or.inr sz_ch))
  have Z3 : n0 ≤ T3.heap.size := Nat.le_trans Z0 Kc3.1
  refine Go.mp st3 ?_
  show Go p e below (T3.setTop (mkF m 145 #[.val (.ref a1), .val .null, .val (.int iv)] [])) _
  exact own_retV X3 hx hret hlk (hb hby d1_145) (by decide) (by decide) (by rw [(rfl : T3.heap = T3.heap)]; exact ⟨rfl, N3, K3⟩)
set_option maxHeartbeats 4000000 in
theorem hb_loop (l : Launch) (Z : State) (a0 : Array Value) (hw : ∀ d ∈ tables_1, d.before a0 Z = true) (a1 : Addr) (lk : Addr) (ch : Addr) (hA : Heap) (n0 : Nat) (g_lk : n0 ≤ lk) (g_ch : n0 ≤ ch) (sz_lk : hA.size ≤ lk) (sz_ch : hA.size ≤ ch) (ne_a1_lk : a1 ≠ lk) (ne_ch_lk : ch ≠ lk) (ne_a1_ch : a1 ≠ ch) {p : Program} {e : Env} {s : State} {m : MethodId} {below : List Frame} {meth : Method} {c : Code} {args : Array Value} (hx : p.tables.exec = Jvm.exec) (hby : c.code = prog_31_method_1_code) (hml : c.maxLocals = 3) (hown : s.vm.findClass "com/example/watermark/watermark/store/HeldBatches" = some m.cls) (hnm : meth.name = "<init>") (hret : meth.sig.returnType = none) (hlk : meth.locks = false) (hZ : Z.Warmed39 s.vm) :
    ∀ (n : Nat) (iv : Int32) (kc : Nat) (s₁ : State) (lo : List Loc) (h0 : Heap) (Z0 : n0 ≤ h0.size) (E_a1 : Exa Z h0 a1 "com/example/watermark/watermark/store/HeldBatches") (F_a1_locks : Fld Z h0 a1 "com/example/watermark/watermark/store/HeldBatches" "locks" "[Ljava/lang/Object;" (.ref lk)) (F_a1_chainHeads : Fld Z h0 a1 "com/example/watermark/watermark/store/HeldBatches" "chainHeads" "[I" (.ref ch)) (U_lk : ArO Z h0 lk "java/lang/Object" 256) (U_ch : ArU Z h0 ch .int 32) (K0 : Keep hA h0 [a1]) (X0 : Stand p l e ({ frames := 3, cells := 277, slots := 789, locals := 60 } : Room) s m args below meth c s₁ lo kc 789) (e0 : s₁.heap = h0) (N0 : Fr n0 lo), iv.toInt + n = 256 → n ≤ 256 → kc + n ≤ 277 →
      Go p e below (s₁.setTop (mkF m 111 #[.val (.ref a1), .val .null, .val (.int iv)] [])) (FinE s ({ frames := 3, cells := 277, slots := 789, locals := 60 } : Room).cells ({ frames := 3, cells := 277, slots := 789, locals := 60 } : Room).slots (fun v h L => v = none ∧ Fr n0 L ∧ Keep hA h [a1])) := by
  intro n
  induction n with
  | zero =>
    intro iv kc s₁ lo h0 Z0 E_a1 F_a1_locks F_a1_chainHeads U_lk U_ch K0 X0 e0 N0 hi hn hk
    exact hb_exit l Z a0 hw a1 lk ch hA iv h0 n0 Z0 E_a1 F_a1_locks F_a1_chainHeads U_lk U_ch K0 g_lk g_ch sz_lk sz_ch ne_a1_lk ne_ch_lk ne_a1_ch (by omega) hx hby hml hown hnm hret hlk hZ (Stand.more X0 (by omega) (Nat.le_refl _)) e0 N0
  | succ n ih =>
    intro iv kc s₁ lo h0 Z0 E_a1 F_a1_locks F_a1_chainHeads U_lk U_ch K0 X0 e0 N0 hi hn hk
    have q := own_inc256 (iv := iv) (by omega) (by omega)
    exact hb_turn l Z a0 hw a1 lk ch hA iv kc h0 n0 Z0 E_a1 F_a1_locks F_a1_chainHeads U_lk U_ch K0 g_lk g_ch sz_lk sz_ch ne_a1_lk ne_ch_lk ne_a1_ch (by omega) (by omega) (by omega) hx hby hml hown hnm hret hlk hZ X0 e0 N0 (fun s' lo' h' z E_a1 F_a1_locks F_a1_chainHeads U_lk U_ch K0 x1 x2 x3 => ih (iv + (1 : Int32)) (kc + 1) s' lo' h' z E_a1 F_a1_locks F_a1_chainHeads U_lk U_ch K0 x1 x2 x3 (by omega) (by omega) (by omega))
theorem own_exane {Z : State} {h : Heap} {a b : Addr} {C D : String} (E : Exa Z h a C) (F : Exa Z h b D) (q : C ≠ D) : a ≠ b := Exa.ne E F q
theorem pd_1 : parseMethodDescriptor "()[Lcom/example/watermark/watermark/store/BatchState;" = some ⟨[], some (FieldType.array (FieldType.object "com/example/watermark/watermark/store/BatchState"))⟩ := by decide +kernel
theorem pd_2 : parseMethodDescriptor "(I)V" = some ⟨[FieldType.int], none⟩ := by decide +kernel
theorem pn_3 : plainName "com/example/watermark/watermark/store/HeldBatches" = true := by first | (simp [plainName, overriddenIn]; done) | decide +kernel
theorem d1_0 : decode prog_31_method_1_code 0 = .ok (.aload_n 0, 1) := by decide +kernel
theorem d1_1 : decode prog_31_method_1_code 1 = .ok (.invokespecial 1, 3) := by decide +kernel
theorem d1_4 : decode prog_31_method_1_code 4 = .ok (.aload_n 0, 1) := by decide +kernel
theorem d1_5 : decode prog_31_method_1_code 5 = .ok (.new 2, 3) := by decide +kernel
theorem d1_8 : decode prog_31_method_1_code 8 = .ok (.dup, 1) := by decide +kernel
theorem d1_9 : decode prog_31_method_1_code 9 = .ok (.invokespecial 1, 3) := by decide +kernel
theorem d1_12 : decode prog_31_method_1_code 12 = .ok (.putfield 7, 3) := by decide +kernel
theorem d1_15 : decode prog_31_method_1_code 15 = .ok (.aload_n 0, 1) := by decide +kernel
theorem d1_16 : decode prog_31_method_1_code 16 = .ok (.sipush 256, 3) := by decide +kernel
theorem d1_19 : decode prog_31_method_1_code 19 = .ok (.anewarray 2, 3) := by decide +kernel
theorem d1_22 : decode prog_31_method_1_code 22 = .ok (.putfield 13, 3) := by decide +kernel
theorem d1_25 : decode prog_31_method_1_code 25 = .ok (.aload_n 0, 1) := by decide +kernel
theorem d1_26 : decode prog_31_method_1_code 26 = .ok (.invokestatic 17, 3) := by decide +kernel
theorem d1_29 : decode prog_31_method_1_code 29 = .ok (.arraylength, 1) := by decide +kernel
theorem d1_30 : decode prog_31_method_1_code 30 = .ok (.newarray .long, 2) := by decide +kernel
theorem d1_32 : decode prog_31_method_1_code 32 = .ok (.putfield 23, 3) := by decide +kernel
theorem d1_35 : decode prog_31_method_1_code 35 = .ok (.aload_n 0, 1) := by decide +kernel
theorem d1_36 : decode prog_31_method_1_code 36 = .ok (.bipush 32, 2) := by decide +kernel
theorem d1_38 : decode prog_31_method_1_code 38 = .ok (.newarray .int, 2) := by decide +kernel
theorem d1_40 : decode prog_31_method_1_code 40 = .ok (.putfield 29, 3) := by decide +kernel
theorem d1_43 : decode prog_31_method_1_code 43 = .ok (.aload_n 0, 1) := by decide +kernel
theorem d1_44 : decode prog_31_method_1_code 44 = .ok (.bipush 32, 2) := by decide +kernel
theorem d1_46 : decode prog_31_method_1_code 46 = .ok (.newarray .int, 2) := by decide +kernel
theorem d1_48 : decode prog_31_method_1_code 48 = .ok (.putfield 33, 3) := by decide +kernel
theorem d1_51 : decode prog_31_method_1_code 51 = .ok (.aload_n 0, 1) := by decide +kernel
theorem d1_52 : decode prog_31_method_1_code 52 = .ok (.bipush 32, 2) := by decide +kernel
theorem d1_54 : decode prog_31_method_1_code 54 = .ok (.newarray .int, 2) := by decide +kernel
theorem d1_56 : decode prog_31_method_1_code 56 = .ok (.putfield 36, 3) := by decide +kernel
theorem d1_59 : decode prog_31_method_1_code 59 = .ok (.aload_n 0, 1) := by decide +kernel
theorem d1_60 : decode prog_31_method_1_code 60 = .ok (.bipush 32, 2) := by decide +kernel
theorem d1_62 : decode prog_31_method_1_code 62 = .ok (.newarray .int, 2) := by decide +kernel
theorem d1_64 : decode prog_31_method_1_code 64 = .ok (.putfield 39, 3) := by decide +kernel
theorem d1_67 : decode prog_31_method_1_code 67 = .ok (.aload_n 0, 1) := by decide +kernel
theorem d1_68 : decode prog_31_method_1_code 68 = .ok (.bipush 32, 2) := by decide +kernel
theorem d1_70 : decode prog_31_method_1_code 70 = .ok (.newarray .byte, 2) := by decide +kernel
theorem d1_72 : decode prog_31_method_1_code 72 = .ok (.putfield 42, 3) := by decide +kernel
theorem d1_75 : decode prog_31_method_1_code 75 = .ok (.aload_n 0, 1) := by decide +kernel
theorem d1_76 : decode prog_31_method_1_code 76 = .ok (.bipush 32, 2) := by decide +kernel
theorem d1_78 : decode prog_31_method_1_code 78 = .ok (.newarray .byte, 2) := by decide +kernel
theorem d1_80 : decode prog_31_method_1_code 80 = .ok (.putfield 46, 3) := by decide +kernel
theorem d1_83 : decode prog_31_method_1_code 83 = .ok (.aload_n 0, 1) := by decide +kernel
theorem d1_84 : decode prog_31_method_1_code 84 = .ok (.bipush 32, 2) := by decide +kernel
theorem d1_86 : decode prog_31_method_1_code 86 = .ok (.newarray .int, 2) := by decide +kernel
theorem d1_88 : decode prog_31_method_1_code 88 = .ok (.putfield 49, 3) := by decide +kernel
theorem d1_91 : decode prog_31_method_1_code 91 = .ok (.aload_n 0, 1) := by decide +kernel
theorem d1_92 : decode prog_31_method_1_code 92 = .ok (.new 52, 3) := by decide +kernel
theorem d1_95 : decode prog_31_method_1_code 95 = .ok (.dup, 1) := by decide +kernel
theorem d1_96 : decode prog_31_method_1_code 96 = .ok (.bipush 32, 2) := by decide +kernel
theorem d1_98 : decode prog_31_method_1_code 98 = .ok (.invokespecial 54, 3) := by decide +kernel
theorem d1_101 : decode prog_31_method_1_code 101 = .ok (.putfield 57, 3) := by decide +kernel
theorem d1_104 : decode prog_31_method_1_code 104 = .ok (.aload_n 0, 1) := by decide +kernel
theorem d1_105 : decode prog_31_method_1_code 105 = .ok (.aload_n 1, 1) := by decide +kernel
theorem d1_106 : decode prog_31_method_1_code 106 = .ok (.putfield 61, 3) := by decide +kernel
theorem d1_109 : decode prog_31_method_1_code 109 = .ok (.iconst 0, 1) := by decide +kernel
theorem d1_110 : decode prog_31_method_1_code 110 = .ok (.istore_n 2, 1) := by decide +kernel
theorem ef_rm_hbInit (m : MethodId) (x0 : Addr) : entryFrame m #[(.ref x0), .null] 3 = mkF m 0 #[.val (.ref x0), .val .null, .unset] [] := by first | (simp [entryFrame, mkF, argsToLocals, Value.category]; done) | rfl
set_option maxRecDepth 65536 in
set_option maxHeartbeats 40000000 in
theorem rm_hbInit (l : Launch) (Z : State) (a0 : Array Value) (hw : ∀ d ∈ tables_1, d.before a0 Z = true) (a1 : Addr) (w_VAL : Addr) (kk : ClassId) (vs : List Value) (h0 : Heap) (n0 : Nat) (Z0 : n0 ≤ h0.size) (S__VALUES : Sta Z h0 "com/example/watermark/watermark/store/BatchState" "$VALUES" "[Lcom/example/watermark/watermark/store/BatchState;" (.ref w_VAL)) (V_w_VAL : Arv Z h0 w_VAL kk (FieldType.object "com/example/watermark/watermark/store/BatchState") (6 : Int32) vs .null) (E_w_VAL : Exa Z h0 w_VAL "[Lcom/example/watermark/watermark/store/BatchState;") (O_a1 : R_HB Z h0 a1 .null .null .null .null .null .null .null .null .null .null .null .null) (g_a1 : n0 ≤ a1) :
    Ctr l (⟨"com/example/watermark/watermark/store/HeldBatches", "<init>", "(Lcom/example/watermark/watermark/store/ItemHeap;)V"⟩ : MethodName) prog_31_method_1_code 3 none [] ({ frames := 3, cells := 277, slots := 789, locals := 60 } : Room) Z #[(.ref a1), .null] h0 (fun v h L => v = none ∧ Fr n0 L ∧ Keep h0 h [a1]) := by
  refine own_enter pn_3 (fun p e s m below meth c s₁ hx hby hml hown hnm hret hlk hZ X0 e0 => ?_)
  have N0 := Fr.nil n0
  have K0 := Keep.refl h0 [a1]
  have ne_a1_VAL : a1 ≠ w_VAL := fun q => own_exane (C := "com/example/watermark/watermark/store/HeldBatches") (D := "[Lcom/example/watermark/watermark/store/BatchState;") O_a1.1 E_w_VAL (by decide) q
  rw [ef_rm_hbInit m _ ]
  show Go p e below (s₁.setTop (mkF m 0 #[.val (.ref a1), .val .null, .unset] [])) _
  refine g_aloadN X0 hx (hb hby d1_0) rfl rfl ?_
  obtain ⟨T1, X1, e1, st1⟩ := initO X0 hx hZ hown (hw _ (List.mem_of_getElem? (i := 6) rfl)) (hw _ (List.mem_of_getElem? (i := 7) rfl)) (hw _ (List.mem_of_getElem? (i := 8) rfl)) e0 (g := (mkF m 1 #[.val (.ref a1), .val .null, .unset] [(.ref a1)])) rfl (by rw [hml]; rfl) rfl (hb hby d1_1) (by decide) (W := 0) (by show 2 * 0 + _ ≤ _; exact Nat.le_of_eq rfl) (by decide)
  refine Go.mp st1 ?_
  show Go p e below (T1.setTop (mkF m 4 #[.val (.ref a1), .val .null, .unset] [])) _
  refine g_aloadN X1 hx (hb hby d1_4) rfl rfl ?_
  obtain ⟨T2, h2, X2, e2, E2, A2, D2, -, st2⟩ := newO X1 hx hZ hown (hw _ (List.mem_of_getElem? (i := 9) rfl)) (hw _ (List.mem_of_getElem? (i := 10) rfl)) (hw _ (List.mem_of_getElem? (i := 11) rfl)) e1 (g := (mkF m 5 #[.val (.ref a1), .val .null, .unset] [(.ref a1)])) rfl (hb hby d1_5) (by decide) (by decide)
  obtain ⟨b2, g2⟩ : ∃ z, z = h0.size := ⟨_, rfl⟩
  rw [← g2] at A2 D2 st2
  have ne_w_VAL_b2 : w_VAL ≠ b2 := Nat.ne_of_lt (Nat.lt_of_lt_of_le V_w_VAL.lt (Nat.le_of_eq g2.symm))
  have ne_a1_b2 : a1 ≠ b2 := Nat.ne_of_lt (Nat.lt_of_lt_of_le O_a1.1.lt (Nat.le_of_eq g2.symm))
  have g_b2 : n0 ≤ b2 := Nat.le_trans Z0 (Nat.le_of_eq g2.symm)
  have Z2 : n0 ≤ h2.size := Nat.le_trans Z0 E2.1
  have S__VALUES_2 := Sta.ext E2 S__VALUES
  have V_w_VAL_2 := Arv.ext V_w_VAL E2
  have E_w_VAL_2 := Exa.ext E2 E_w_VAL
  have O_a1_2 := R_HB_ext E2 O_a1
  have sz_b2 : h0.size ≤ b2 := Nat.le_trans K0.1 (Nat.le_of_eq g2.symm)
  have K2 := Keep.ext K0 E2
  refine Go.mp st2 ?_
  show Go p e below (T2.setTop (mkF m 8 #[.val (.ref a1), .val .null, .unset] [(.ref b2), (.ref a1)])) _
  refine g_dup X2 hx (hb hby d1_8) rfl ?_
  obtain ⟨T3, X3, e3, st3⟩ := initO X2 hx hZ hown (hw _ (List.mem_of_getElem? (i := 6) rfl)) (hw _ (List.mem_of_getElem? (i := 7) rfl)) (hw _ (List.mem_of_getElem? (i := 8) rfl)) e2 (g := (mkF m 9 #[.val (.ref a1), .val .null, .unset] [(.ref b2), (.ref b2), (.ref a1)])) rfl (by rw [hml]; rfl) rfl (hb hby d1_9) (by decide) (W := 2) (by show 2 * 0 + _ ≤ _; exact Nat.le_of_eq rfl) (by decide)
  refine Go.mp st3 ?_
  show Go p e below (T3.setTop (mkF m 12 #[.val (.ref a1), .val .null, .unset] [(.ref b2), (.ref a1)])) _
  obtain ⟨T4, h4, X4, e4, W4, st4⟩ := putF X3 hx hZ hown (host := "") (Or.inl (hw _ (List.mem_of_getElem? (i := 12) rfl))) Via.refl e3 O_a1_2.2.1 O_a1_2.1 (Or.inr ⟨(hw _ (List.mem_of_getElem? (i := 13) rfl)), rfl, hnm⟩) (hw _ (List.mem_of_getElem? (i := 1) rfl)) (ty := (FieldType.object "java/lang/Object")) (by decide) rfl rfl (g := (mkF m 12 #[.val (.ref a1), .val .null, .unset] [(.ref b2), (.ref a1)])) rfl rfl (hb hby d1_12)
  have N4 := Fr.snoc X4 N0 g_a1
  have S__VALUES_4 := Sta.wr W4 S__VALUES_2
  have V_w_VAL_4 := Arv.other V_w_VAL_2 W4 (Ne.symm ne_a1_VAL)
  have E_w_VAL_4 := Exa.wr W4 E_w_VAL_2
  have O_a1_4 := R_HB_set_index hw W4 O_a1_2
  have E_b2_4 := Exa.wr W4 A2
  have Z4 : n0 ≤ h4.size := Nat.le_trans Z2 (Nat.le_of_eq W4.size.symm)
  have K4 := Keep.wr K2 W4 (Or.inl (List.mem_of_getElem? (i := 0) rfl))
  refine Go.mp st4 ?_
  show Go p e below (T4.setTop (mkF m 15 #[.val (.ref a1), .val .null, .unset] [])) _
  refine g_aloadN X4 hx (hb hby d1_15) rfl rfl ?_
  refine g_sipush X4 hx (256 : Int32) (hb hby d1_16) (by decide) ?_
  obtain ⟨T5, h5, k5, X5, e5, E5, A5, O5, st5⟩ := newR X4 hx hZ hown (hw _ (List.mem_of_getElem? (i := 9) rfl)) (hw _ (List.mem_of_getElem? (i := 14) rfl)) e4 (g := (mkF m 19 #[.val (.ref a1), .val .null, .unset] [(.int (256 : Int32)), (.ref a1)])) rfl (hb hby d1_19) rfl (by decide) (cap := 256) (by decide) (by decide) (by decide) (by decide)
  obtain ⟨b5, g5⟩ : ∃ z, z = h4.size := ⟨_, rfl⟩
  rw [← g5] at A5 st5
  have ne_w_VAL_b5 : w_VAL ≠ b5 := Nat.ne_of_lt (Nat.lt_of_lt_of_le V_w_VAL_4.lt (Nat.le_of_eq g5.symm))
  have ne_a1_b5 : a1 ≠ b5 := Nat.ne_of_lt (Nat.lt_of_lt_of_le O_a1_4.1.lt (Nat.le_of_eq g5.symm))
  have g_b5 : n0 ≤ b5 := Nat.le_trans Z4 (Nat.le_of_eq g5.symm)
  have Z5 : n0 ≤ h5.size := Nat.le_trans Z4 E5.1
  have S__VALUES_5 := Sta.ext E5 S__VALUES_4
  have V_w_VAL_5 := Arv.ext V_w_VAL_4 E5
  have E_w_VAL_5 := Exa.ext E5 E_w_VAL_4
  have O_a1_5 := R_HB_ext E5 O_a1_4
  have sz_b5 : h0.size ≤ b5 := Nat.le_trans K4.1 (Nat.le_of_eq g5.symm)
  have K5 := Keep.ext K4 E5
  have V5 := Arv.new A5 (by decide)
  refine Go.mp st5 ?_
  have V_b50 := Arv.pad (vs' := List.replicate 256 .null) V5 (own_pad 256)
  show Go p e below (T5.setTop (mkF m 22 #[.val (.ref a1), .val .null, .unset] [(.ref b5), (.ref a1)])) _
  have U_b5 := ArO.of V_b50 O5 (n := 256) (by decide)
  obtain ⟨T6, h6, X6, e6, W6, st6⟩ := putF X5 hx hZ hown (host := "") (Or.inl (hw _ (List.mem_of_getElem? (i := 15) rfl))) Via.refl e5 O_a1_5.2.2.1 O_a1_5.1 (Or.inr ⟨(hw _ (List.mem_of_getElem? (i := 16) rfl)), rfl, hnm⟩) (hw _ (List.mem_of_getElem? (i := 1) rfl)) (ty := (FieldType.array (FieldType.object "java/lang/Object"))) (by decide) rfl rfl (g := (mkF m 22 #[.val (.ref a1), .val .null, .unset] [(.ref b5), (.ref a1)])) rfl rfl (hb hby d1_22)
  have N6 := Fr.snoc X6 N4 g_a1
  have S__VALUES_6 := Sta.wr W6 S__VALUES_5
  have V_w_VAL_6 := Arv.other V_w_VAL_5 W6 (Ne.symm ne_a1_VAL)
  have E_w_VAL_6 := Exa.wr W6 E_w_VAL_5
  have O_a1_6 := R_HB_set_locks hw W6 O_a1_5
  have U_b5_6 := ArO.other W6 U_b5 (Ne.symm ne_a1_b5)
  have Z6 : n0 ≤ h6.size := Nat.le_trans Z5 (Nat.le_of_eq W6.size.symm)
  have K6 := Keep.wr K5 W6 (Or.inl (List.mem_of_getElem? (i := 0) rfl))
  refine Go.mp st6 ?_
  show Go p e below (T6.setTop (mkF m 25 #[.val (.ref a1), .val .null, .unset] [])) _
  refine g_aloadN X6 hx (hb hby d1_25) rfl rfl ?_
  obtain ⟨v7, T7, L7, X7, q7, st7⟩ := own_callS X6 hx hZ (y := (⟨"com/example/watermark/watermark/store/BatchState", "values", "()[Lcom/example/watermark/watermark/store/BatchState;"⟩ : MethodName)) (pc := 26) (Ls := #[.val (.ref a1), .val .null, .unset]) (st := [(.ref a1)]) hown (hw _ (List.mem_of_getElem? (i := 17) rfl)) (hw _ (List.mem_of_getElem? (i := 18) rfl)) (hw _ (List.mem_of_getElem? (i := 19) rfl)) (hw _ (List.mem_of_getElem? (i := 20) rfl)) (by decide) (rm_values l Z a0 hw w_VAL kk vs h6 n0 Z6 S__VALUES_6 V_w_VAL_6 E_w_VAL_6) e6 pd_1 (hb hby d1_26) (by rw [hml]; rfl) (argsL := []) (rest := [(.ref a1)]) rfl rfl rfl (W := 1) (Nat.le_of_eq rfl) (by decide) (by decide) (by decide) (by decide)
  obtain ⟨b7, rfl, M7, Kc7, sz7, Ff7_0⟩ := q7
  have N7 := Fr.app N6 M7
  have ne_w_VAL_b7 : w_VAL ≠ b7 := Nat.ne_of_lt (Nat.lt_of_lt_of_le V_w_VAL_6.lt sz7)
  have ne_a1_b7 : a1 ≠ b7 := Nat.ne_of_lt (Nat.lt_of_lt_of_le O_a1_6.1.lt sz7)
  have ne_b5_b7 : b5 ≠ b7 := Nat.ne_of_lt (Nat.lt_of_lt_of_le U_b5_6.lt sz7)
  have g_b7 : n0 ≤ b7 := Nat.le_trans Z6 sz7
  have S__VALUES_7 := own_sta_keep S__VALUES_6 Kc7 (fun _ q => nomatch q)
  have V_w_VAL_7 := Arv.keep V_w_VAL_6 Kc7 List.not_mem_nil
  have E_w_VAL_7 := Exa.keep E_w_VAL_6 Kc7
  have O_a1_7 := R_HB_keep O_a1_6 Kc7 List.not_mem_nil
  have U_b5_7 := ArO.keep U_b5_6 Kc7 List.not_mem_nil
  have sz_b7 : h0.size ≤ b7 := Nat.le_trans K6.1 sz7
  have K7 := Keep.trans K6 Kc7 (fun x q => nomatch q)
  have Z7 : n0 ≤ T7.heap.size := Nat.le_trans Z6 Kc7.1
  refine Go.mp st7 ?_
  show Go p e below (T7.setTop (mkF m 29 #[.val (.ref a1), .val .null, .unset] [(.ref b7), (.ref a1)])) _
  obtain ⟨cl8, Ar8, -, sz8, nn8, -, -⟩ := id Ff7_0
  refine Go.mp (fun _ k => X7.arraylength hx (by rw [(rfl : T7.heap = T7.heap)]; exact Ar8.1) (State.isArrayOf_alike hZ.alike Ar8.2.1) (g := (mkF m 29 #[.val (.ref a1), .val .null, .unset] [(.ref b7), (.ref a1)])) rfl rfl (hb hby d1_29) _ k) ?_
  rw [len_of sz8 nn8]
  show Go p e below (T7.setTop (mkF m 30 #[.val (.ref a1), .val .null, .unset] [(.int (6 : Int32)), (.ref a1)])) _
  obtain ⟨T9, h9, k9, X9, e9, E9, A9, st9⟩ := newP X7 hx hZ (hw _ (List.mem_of_getElem? (i := 39) rfl)) (rfl : T7.heap = T7.heap) (g := (mkF m 30 #[.val (.ref a1), .val .null, .unset] [(.int (6 : Int32)), (.ref a1)])) rfl (hb hby d1_30) rfl (by decide) (cap := 6) (by decide) (by decide) (by decide) (by decide)
  obtain ⟨b9, g9⟩ : ∃ z, z = T7.heap.size := ⟨_, rfl⟩
  rw [← g9] at A9 st9
  have ne_w_VAL_b9 : w_VAL ≠ b9 := Nat.ne_of_lt (Nat.lt_of_lt_of_le V_w_VAL_7.lt (Nat.le_of_eq g9.symm))
  have ne_a1_b9 : a1 ≠ b9 := Nat.ne_of_lt (Nat.lt_of_lt_of_le O_a1_7.1.lt (Nat.le_of_eq g9.symm))
  have ne_b5_b9 : b5 ≠ b9 := Nat.ne_of_lt (Nat.lt_of_lt_of_le U_b5_7.lt (Nat.le_of_eq g9.symm))
  have ne_b7_b9 : b7 ≠ b9 := Nat.ne_of_lt (Nat.lt_of_lt_of_le Ff7_0.lt (Nat.le_of_eq g9.symm))
  have g_b9 : n0 ≤ b9 := Nat.le_trans Z7 (Nat.le_of_eq g9.symm)
  have Z9 : n0 ≤ h9.size := Nat.le_trans Z7 E9.1
  have S__VALUES_9 := Sta.ext E9 S__VALUES_7
  have V_w_VAL_9 := Arv.ext V_w_VAL_7 E9
  have E_w_VAL_9 := Exa.ext E9 E_w_VAL_7
  have O_a1_9 := R_HB_ext E9 O_a1_7
  have U_b5_9 := ArO.ext E9 U_b5_7
  have V_b7_9 := Arv.ext Ff7_0 E9
  have sz_b9 : h0.size ≤ b9 := Nat.le_trans K7.1 (Nat.le_of_eq g9.symm)
  have K9 := Keep.ext K7 E9
  have V9 := Arv.new A9 (by decide)
  refine Go.mp st9 ?_
  have V_b90 := Arv.pad (vs' := List.replicate 6 (.long 0)) V9 (own_pad 6)
  show Go p e below (T9.setTop (mkF m 32 #[.val (.ref a1), .val .null, .unset] [(.ref b9), (.ref a1)])) _
  obtain ⟨T10, h10, X10, e10, W10, st10⟩ := putF X9 hx hZ hown (host := "") (Or.inl (hw _ (List.mem_of_getElem? (i := 40) rfl))) Via.refl e9 O_a1_9.2.2.2.1 O_a1_9.1 (Or.inr ⟨(hw _ (List.mem_of_getElem? (i := 41) rfl)), rfl, hnm⟩) (hw _ (List.mem_of_getElem? (i := 1) rfl)) (ty := (FieldType.array FieldType.long)) (by decide) rfl rfl (g := (mkF m 32 #[.val (.ref a1), .val .null, .unset] [(.ref b9), (.ref a1)])) rfl rfl (hb hby d1_32)
  have N10 := Fr.snoc X10 N7 g_a1
  have S__VALUES_10 := Sta.wr W10 S__VALUES_9
  have V_w_VAL_10 := Arv.other V_w_VAL_9 W10 (Ne.symm ne_a1_VAL)
  have E_w_VAL_10 := Exa.wr W10 E_w_VAL_9
  have O_a1_10 := R_HB_set_counts hw W10 O_a1_9
  have U_b5_10 := ArO.other W10 U_b5_9 (Ne.symm ne_a1_b5)
  have V_b7_10 := Arv.other V_b7_9 W10 (Ne.symm ne_a1_b7)
  have V_b9_10 := Arv.other V_b90 W10 (Ne.symm ne_a1_b9)
  have Z10 : n0 ≤ h10.size := Nat.le_trans Z9 (Nat.le_of_eq W10.size.symm)
  have K10 := Keep.wr K9 W10 (Or.inl (List.mem_of_getElem? (i := 0) rfl))
  refine Go.mp st10 ?_
  show Go p e below (T10.setTop (mkF m 35 #[.val (.ref a1), .val .null, .unset] [])) _
  refine g_aloadN X10 hx (hb hby d1_35) rfl rfl ?_
  refine g_bipush X10 hx (32 : Int32) (hb hby d1_36) (by decide) ?_
  obtain ⟨T11, h11, k11, X11, e11, E11, A11, st11⟩ := newP X10 hx hZ (hw _ (List.mem_of_getElem? (i := 42) rfl)) e10 (g := (mkF m 38 #[.val (.ref a1), .val .null, .unset] [(.int (32 : Int32)), (.ref a1)])) rfl (hb hby d1_38) rfl (by decide) (cap := 32) (by decide) (by decide) (by decide) (by decide)
  obtain ⟨b11, g11⟩ : ∃ z, z = h10.size := ⟨_, rfl⟩
  rw [← g11] at A11 st11
  have ne_w_VAL_b11 : w_VAL ≠ b11 := Nat.ne_of_lt (Nat.lt_of_lt_of_le V_w_VAL_10.lt (Nat.le_of_eq g11.symm))
  have ne_a1_b11 : a1 ≠ b11 := Nat.ne_of_lt (Nat.lt_of_lt_of_le O_a1_10.1.lt (Nat.le_of_eq g11.symm))
  have ne_b5_b11 : b5 ≠ b11 := Nat.ne_of_lt (Nat.lt_of_lt_of_le U_b5_10.lt (Nat.le_of_eq g11.symm))
  have g_b11 : n0 ≤ b11 := Nat.le_trans Z10 (Nat.le_of_eq g11.symm)
  have Z11 : n0 ≤ h11.size := Nat.le_trans Z10 E11.1
  have S__VALUES_11 := Sta.ext E11 S__VALUES_10
  have V_w_VAL_11 := Arv.ext V_w_VAL_10 E11
  have E_w_VAL_11 := Exa.ext E11 E_w_VAL_10
  have O_a1_11 := R_HB_ext E11 O_a1_10
  have U_b5_11 := ArO.ext E11 U_b5_10
  have sz_b11 : h0.size ≤ b11 := Nat.le_trans K10.1 (Nat.le_of_eq g11.symm)
  have K11 := Keep.ext K10 E11
  have V11 := Arv.new A11 (by decide)
  refine Go.mp st11 ?_
  have V_b110 := Arv.pad (vs' := List.replicate 32 (.int 0)) V11 (own_pad 32)
  show Go p e below (T11.setTop (mkF m 40 #[.val (.ref a1), .val .null, .unset] [(.ref b11), (.ref a1)])) _
  have U_b11 := ArU.of V_b110 (n := 32) (by decide)
  obtain ⟨T12, h12, X12, e12, W12, st12⟩ := putF X11 hx hZ hown (host := "") (Or.inl (hw _ (List.mem_of_getElem? (i := 43) rfl))) Via.refl e11 O_a1_11.2.2.2.2.1 O_a1_11.1 (Or.inl (hw _ (List.mem_of_getElem? (i := 44) rfl))) (hw _ (List.mem_of_getElem? (i := 1) rfl)) (ty := (FieldType.array FieldType.int)) (by decide) rfl rfl (g := (mkF m 40 #[.val (.ref a1), .val .null, .unset] [(.ref b11), (.ref a1)])) rfl rfl (hb hby d1_40)
  have N12 := Fr.snoc X12 N10 g_a1
  have S__VALUES_12 := Sta.wr W12 S__VALUES_11
  have V_w_VAL_12 := Arv.other V_w_VAL_11 W12 (Ne.symm ne_a1_VAL)
  have E_w_VAL_12 := Exa.wr W12 E_w_VAL_11
  have O_a1_12 := R_HB_set_chainHeads hw W12 O_a1_11
  have U_b5_12 := ArO.other W12 U_b5_11 (Ne.symm ne_a1_b5)
  have U_b11_12 := ArU.other W12 U_b11 (Ne.symm ne_a1_b11)
  have Z12 : n0 ≤ h12.size := Nat.le_trans Z11 (Nat.le_of_eq W12.size.symm)
  have K12 := Keep.wr K11 W12 (Or.inl (List.mem_of_getElem? (i := 0) rfl))
  refine Go.mp st12 ?_
  show Go p e below (T12.setTop (mkF m 43 #[.val (.ref a1), .val .null, .unset] [])) _
  refine g_aloadN X12 hx (hb hby d1_43) rfl rfl ?_
  refine g_bipush X12 hx (32 : Int32) (hb hby d1_44) (by decide) ?_
  obtain ⟨T13, h13, k13, X13, e13, E13, A13, st13⟩ := newP X12 hx hZ (hw _ (List.mem_of_getElem? (i := 42) rfl)) e12 (g := (mkF m 46 #[.val (.ref a1), .val .null, .unset] [(.int (32 : Int32)), (.ref a1)])) rfl (hb hby d1_46) rfl (by decide) (cap := 32) (by decide) (by decide) (by decide) (by decide)
  obtain ⟨b13, g13⟩ : ∃ z, z = h12.size := ⟨_, rfl⟩
  rw [← g13] at A13 st13
  have ne_w_VAL_b13 : w_VAL ≠ b13 := Nat.ne_of_lt (Nat.lt_of_lt_of_le V_w_VAL_12.lt (Nat.le_of_eq g13.symm))
  have ne_a1_b13 : a1 ≠ b13 := Nat.ne_of_lt (Nat.lt_of_lt_of_le O_a1_12.1.lt (Nat.le_of_eq g13.symm))
  have ne_b5_b13 : b5 ≠ b13 := Nat.ne_of_lt (Nat.lt_of_lt_of_le U_b5_12.lt (Nat.le_of_eq g13.symm))
  have ne_b11_b13 : b11 ≠ b13 := Nat.ne_of_lt (Nat.lt_of_lt_of_le U_b11_12.lt (Nat.le_of_eq g13.symm))
  have g_b13 : n0 ≤ b13 := Nat.le_trans Z12 (Nat.le_of_eq g13.symm)
  have Z13 : n0 ≤ h13.size := Nat.le_trans Z12 E13.1
  have S__VALUES_13 := Sta.ext E13 S__VALUES_12
  have V_w_VAL_13 := Arv.ext V_w_VAL_12 E13
  have E_w_VAL_13 := Exa.ext E13 E_w_VAL_12
  have O_a1_13 := R_HB_ext E13 O_a1_12
  have U_b5_13 := ArO.ext E13 U_b5_12
  have U_b11_13 := ArU.ext E13 U_b11_12
  have sz_b13 : h0.size ≤ b13 := Nat.le_trans K12.1 (Nat.le_of_eq g13.symm)
  have K13 := Keep.ext K12 E13
  have V13 := Arv.new A13 (by decide)
  refine Go.mp st13 ?_
  have V_b130 := Arv.pad (vs' := List.replicate 32 (.int 0)) V13 (own_pad 32)
  show Go p e below (T13.setTop (mkF m 48 #[.val (.ref a1), .val .null, .unset] [(.ref b13), (.ref a1)])) _
  obtain ⟨T14, h14, X14, e14, W14, st14⟩ := putF X13 hx hZ hown (host := "") (Or.inl (hw _ (List.mem_of_getElem? (i := 45) rfl))) Via.refl e13 O_a1_13.2.2.2.2.2.1 O_a1_13.1 (Or.inl (hw _ (List.mem_of_getElem? (i := 46) rfl))) (hw _ (List.mem_of_getElem? (i := 1) rfl)) (ty := (FieldType.array FieldType.int)) (by decide) rfl rfl (g := (mkF m 48 #[.val (.ref a1), .val .null, .unset] [(.ref b13), (.ref a1)])) rfl rfl (hb hby d1_48)
  have N14 := Fr.snoc X14 N12 g_a1
  have S__VALUES_14 := Sta.wr W14 S__VALUES_13
  have V_w_VAL_14 := Arv.other V_w_VAL_13 W14 (Ne.symm ne_a1_VAL)
  have E_w_VAL_14 := Exa.wr W14 E_w_VAL_13
  have O_a1_14 := R_HB_set_nextInChain hw W14 O_a1_13
  have U_b5_14 := ArO.other W14 U_b5_13 (Ne.symm ne_a1_b5)
  have U_b11_14 := ArU.other W14 U_b11_13 (Ne.symm ne_a1_b11)
  have V_b13_14 := Arv.other V_b130 W14 (Ne.symm ne_a1_b13)
  have Z14 : n0 ≤ h14.size := Nat.le_trans Z13 (Nat.le_of_eq W14.size.symm)
  have K14 := Keep.wr K13 W14 (Or.inl (List.mem_of_getElem? (i := 0) rfl))
  refine Go.mp st14 ?_
  show Go p e below (T14.setTop (mkF m 51 #[.val (.ref a1), .val .null, .unset] [])) _
  refine g_aloadN X14 hx (hb hby d1_51) rfl rfl ?_
  refine g_bipush X14 hx (32 : Int32) (hb hby d1_52) (by decide) ?_
  obtain ⟨T15, h15, k15, X15, e15, E15, A15, st15⟩ := newP X14 hx hZ (hw _ (List.mem_of_getElem? (i := 42) rfl)) e14 (g := (mkF m 54 #[.val (.ref a1), .val .null, .unset] [(.int (32 : Int32)), (.ref a1)])) rfl (hb hby d1_54) rfl (by decide) (cap := 32) (by decide) (by decide) (by decide) (by decide)
  obtain ⟨b15, g15⟩ : ∃ z, z = h14.size := ⟨_, rfl⟩
  rw [← g15] at A15 st15
  have ne_w_VAL_b15 : w_VAL ≠ b15 := Nat.ne_of_lt (Nat.lt_of_lt_of_le V_w_VAL_14.lt (Nat.le_of_eq g15.symm))
  have ne_a1_b15 : a1 ≠ b15 := Nat.ne_of_lt (Nat.lt_of_lt_of_le O_a1_14.1.lt (Nat.le_of_eq g15.symm))
  have ne_b5_b15 : b5 ≠ b15 := Nat.ne_of_lt (Nat.lt_of_lt_of_le U_b5_14.lt (Nat.le_of_eq g15.symm))
  have ne_b11_b15 : b11 ≠ b15 := Nat.ne_of_lt (Nat.lt_of_lt_of_le U_b11_14.lt (Nat.le_of_eq g15.symm))
  have g_b15 : n0 ≤ b15 := Nat.le_trans Z14 (Nat.le_of_eq g15.symm)
  have Z15 : n0 ≤ h15.size := Nat.le_trans Z14 E15.1
  have S__VALUES_15 := Sta.ext E15 S__VALUES_14
  have V_w_VAL_15 := Arv.ext V_w_VAL_14 E15
  have E_w_VAL_15 := Exa.ext E15 E_w_VAL_14
  have O_a1_15 := R_HB_ext E15 O_a1_14
  have U_b5_15 := ArO.ext E15 U_b5_14
  have U_b11_15 := ArU.ext E15 U_b11_14
  have sz_b15 : h0.size ≤ b15 := Nat.le_trans K14.1 (Nat.le_of_eq g15.symm)
  have K15 := Keep.ext K14 E15
  have V15 := Arv.new A15 (by decide)
  refine Go.mp st15 ?_
  have V_b150 := Arv.pad (vs' := List.replicate 32 (.int 0)) V15 (own_pad 32)
  show Go p e below (T15.setTop (mkF m 56 #[.val (.ref a1), .val .null, .unset] [(.ref b15), (.ref a1)])) _
  obtain ⟨T16, h16, X16, e16, W16, st16⟩ := putF X15 hx hZ hown (host := "") (Or.inl (hw _ (List.mem_of_getElem? (i := 47) rfl))) Via.refl e15 O_a1_15.2.2.2.2.2.2.1 O_a1_15.1 (Or.inl (hw _ (List.mem_of_getElem? (i := 48) rfl))) (hw _ (List.mem_of_getElem? (i := 1) rfl)) (ty := (FieldType.array FieldType.int)) (by decide) rfl rfl (g := (mkF m 56 #[.val (.ref a1), .val .null, .unset] [(.ref b15), (.ref a1)])) rfl rfl (hb hby d1_56)
  have N16 := Fr.snoc X16 N14 g_a1
  have S__VALUES_16 := Sta.wr W16 S__VALUES_15
  have V_w_VAL_16 := Arv.other V_w_VAL_15 W16 (Ne.symm ne_a1_VAL)
  have E_w_VAL_16 := Exa.wr W16 E_w_VAL_15
  have O_a1_16 := R_HB_set_hashes hw W16 O_a1_15
  have U_b5_16 := ArO.other W16 U_b5_15 (Ne.symm ne_a1_b5)
  have U_b11_16 := ArU.other W16 U_b11_15 (Ne.symm ne_a1_b11)
  have V_b15_16 := Arv.other V_b150 W16 (Ne.symm ne_a1_b15)
  have Z16 : n0 ≤ h16.size := Nat.le_trans Z15 (Nat.le_of_eq W16.size.symm)
  have K16 := Keep.wr K15 W16 (Or.inl (List.mem_of_getElem? (i := 0) rfl))
  refine Go.mp st16 ?_
  show Go p e below (T16.setTop (mkF m 59 #[.val (.ref a1), .val .null, .unset] [])) _
  refine g_aloadN X16 hx (hb hby d1_59) rfl rfl ?_
  refine g_bipush X16 hx (32 : Int32) (hb hby d1_60) (by decide) ?_
  obtain ⟨T17, h17, k17, X17, e17, E17, A17, st17⟩ := newP X16 hx hZ (hw _ (List.mem_of_getElem? (i := 42) rfl)) e16 (g := (mkF m 62 #[.val (.ref a1), .val .null, .unset] [(.int (32 : Int32)), (.ref a1)])) rfl (hb hby d1_62) rfl (by decide) (cap := 32) (by decide) (by decide) (by decide) (by decide)
  obtain ⟨b17, g17⟩ : ∃ z, z = h16.size := ⟨_, rfl⟩
  rw [← g17] at A17 st17
  have ne_w_VAL_b17 : w_VAL ≠ b17 := Nat.ne_of_lt (Nat.lt_of_lt_of_le V_w_VAL_16.lt (Nat.le_of_eq g17.symm))
  have ne_a1_b17 : a1 ≠ b17 := Nat.ne_of_lt (Nat.lt_of_lt_of_le O_a1_16.1.lt (Nat.le_of_eq g17.symm))
  have ne_b5_b17 : b5 ≠ b17 := Nat.ne_of_lt (Nat.lt_of_lt_of_le U_b5_16.lt (Nat.le_of_eq g17.symm))
  have ne_b11_b17 : b11 ≠ b17 := Nat.ne_of_lt (Nat.lt_of_lt_of_le U_b11_16.lt (Nat.le_of_eq g17.symm))
  have g_b17 : n0 ≤ b17 := Nat.le_trans Z16 (Nat.le_of_eq g17.symm)
  have Z17 : n0 ≤ h17.size := Nat.le_trans Z16 E17.1
  have S__VALUES_17 := Sta.ext E17 S__VALUES_16
  have V_w_VAL_17 := Arv.ext V_w_VAL_16 E17
  have E_w_VAL_17 := Exa.ext E17 E_w_VAL_16
  have O_a1_17 := R_HB_ext E17 O_a1_16
  have U_b5_17 := ArO.ext E17 U_b5_16
  have U_b11_17 := ArU.ext E17 U_b11_16
  have sz_b17 : h0.size ≤ b17 := Nat.le_trans K16.1 (Nat.le_of_eq g17.symm)
  have K17 := Keep.ext K16 E17
  have V17 := Arv.new A17 (by decide)
  refine Go.mp st17 ?_
  have V_b170 := Arv.pad (vs' := List.replicate 32 (.int 0)) V17 (own_pad 32)
  show Go p e below (T17.setTop (mkF m 64 #[.val (.ref a1), .val .null, .unset] [(.ref b17), (.ref a1)])) _
  obtain ⟨T18, h18, X18, e18, W18, st18⟩ := putF X17 hx hZ hown (host := "") (Or.inl (hw _ (List.mem_of_getElem? (i := 49) rfl))) Via.refl e17 O_a1_17.2.2.2.2.2.2.2.1 O_a1_17.1 (Or.inl (hw _ (List.mem_of_getElem? (i := 50) rfl))) (hw _ (List.mem_of_getElem? (i := 1) rfl)) (ty := (FieldType.array FieldType.int)) (by decide) rfl rfl (g := (mkF m 64 #[.val (.ref a1), .val .null, .unset] [(.ref b17), (.ref a1)])) rfl rfl (hb hby d1_64)
  have N18 := Fr.snoc X18 N16 g_a1
  have S__VALUES_18 := Sta.wr W18 S__VALUES_17
  have V_w_VAL_18 := Arv.other V_w_VAL_17 W18 (Ne.symm ne_a1_VAL)
  have E_w_VAL_18 := Exa.wr W18 E_w_VAL_17
  have O_a1_18 := R_HB_set_idStarts hw W18 O_a1_17
  have U_b5_18 := ArO.other W18 U_b5_17 (Ne.symm ne_a1_b5)
  have U_b11_18 := ArU.other W18 U_b11_17 (Ne.symm ne_a1_b11)
  have V_b17_18 := Arv.other V_b170 W18 (Ne.symm ne_a1_b17)
  have Z18 : n0 ≤ h18.size := Nat.le_trans Z17 (Nat.le_of_eq W18.size.symm)
  have K18 := Keep.wr K17 W18 (Or.inl (List.mem_of_getElem? (i := 0) rfl))
  refine Go.mp st18 ?_
  show Go p e below (T18.setTop (mkF m 67 #[.val (.ref a1), .val .null, .unset] [])) _
  refine g_aloadN X18 hx (hb hby d1_67) rfl rfl ?_
  refine g_bipush X18 hx (32 : Int32) (hb hby d1_68) (by decide) ?_
  obtain ⟨T19, h19, k19, X19, e19, E19, A19, st19⟩ := newP X18 hx hZ (hw _ (List.mem_of_getElem? (i := 51) rfl)) e18 (g := (mkF m 70 #[.val (.ref a1), .val .null, .unset] [(.int (32 : Int32)), (.ref a1)])) rfl (hb hby d1_70) rfl (by decide) (cap := 32) (by decide) (by decide) (by decide) (by decide)
  obtain ⟨b19, g19⟩ : ∃ z, z = h18.size := ⟨_, rfl⟩
  rw [← g19] at A19 st19
  have ne_w_VAL_b19 : w_VAL ≠ b19 := Nat.ne_of_lt (Nat.lt_of_lt_of_le V_w_VAL_18.lt (Nat.le_of_eq g19.symm))
  have ne_a1_b19 : a1 ≠ b19 := Nat.ne_of_lt (Nat.lt_of_lt_of_le O_a1_18.1.lt (Nat.le_of_eq g19.symm))
  have ne_b5_b19 : b5 ≠ b19 := Nat.ne_of_lt (Nat.lt_of_lt_of_le U_b5_18.lt (Nat.le_of_eq g19.symm))
  have ne_b11_b19 : b11 ≠ b19 := Nat.ne_of_lt (Nat.lt_of_lt_of_le U_b11_18.lt (Nat.le_of_eq g19.symm))
  have g_b19 : n0 ≤ b19 := Nat.le_trans Z18 (Nat.le_of_eq g19.symm)
  have Z19 : n0 ≤ h19.size := Nat.le_trans Z18 E19.1
  have S__VALUES_19 := Sta.ext E19 S__VALUES_18
  have V_w_VAL_19 := Arv.ext V_w_VAL_18 E19
  have E_w_VAL_19 := Exa.ext E19 E_w_VAL_18
  have O_a1_19 := R_HB_ext E19 O_a1_18
  have U_b5_19 := ArO.ext E19 U_b5_18
  have U_b11_19 := ArU.ext E19 U_b11_18
  have sz_b19 : h0.size ≤ b19 := Nat.le_trans K18.1 (Nat.le_of_eq g19.symm)
  have K19 := Keep.ext K18 E19
  have V19 := Arv.new A19 (by decide)
  refine Go.mp st19 ?_
  have V_b190 := Arv.pad (vs' := List.replicate 32 (.int 0)) V19 (own_pad 32)
  show Go p e below (T19.setTop (mkF m 72 #[.val (.ref a1), .val .null, .unset] [(.ref b19), (.ref a1)])) _
  obtain ⟨T20, h20, X20, e20, W20, st20⟩ := putF X19 hx hZ hown (host := "") (Or.inl (hw _ (List.mem_of_getElem? (i := 52) rfl))) Via.refl e19 O_a1_19.2.2.2.2.2.2.2.2.1 O_a1_19.1 (Or.inl (hw _ (List.mem_of_getElem? (i := 53) rfl))) (hw _ (List.mem_of_getElem? (i := 1) rfl)) (ty := (FieldType.array FieldType.byte)) (by decide) rfl rfl (g := (mkF m 72 #[.val (.ref a1), .val .null, .unset] [(.ref b19), (.ref a1)])) rfl rfl (hb hby d1_72)
  have N20 := Fr.snoc X20 N18 g_a1
  have S__VALUES_20 := Sta.wr W20 S__VALUES_19
  have V_w_VAL_20 := Arv.other V_w_VAL_19 W20 (Ne.symm ne_a1_VAL)
  have E_w_VAL_20 := Exa.wr W20 E_w_VAL_19
  have O_a1_20 := R_HB_set_idLengths hw W20 O_a1_19
  have U_b5_20 := ArO.other W20 U_b5_19 (Ne.symm ne_a1_b5)
  have U_b11_20 := ArU.other W20 U_b11_19 (Ne.symm ne_a1_b11)
  have V_b19_20 := Arv.other V_b190 W20 (Ne.symm ne_a1_b19)
  have Z20 : n0 ≤ h20.size := Nat.le_trans Z19 (Nat.le_of_eq W20.size.symm)
  have K20 := Keep.wr K19 W20 (Or.inl (List.mem_of_getElem? (i := 0) rfl))
  refine Go.mp st20 ?_
  show Go p e below (T20.setTop (mkF m 75 #[.val (.ref a1), .val .null, .unset] [])) _
  refine g_aloadN X20 hx (hb hby d1_75) rfl rfl ?_
  refine g_bipush X20 hx (32 : Int32) (hb hby d1_76) (by decide) ?_
  obtain ⟨T21, h21, k21, X21, e21, E21, A21, st21⟩ := newP X20 hx hZ (hw _ (List.mem_of_getElem? (i := 51) rfl)) e20 (g := (mkF m 78 #[.val (.ref a1), .val .null, .unset] [(.int (32 : Int32)), (.ref a1)])) rfl (hb hby d1_78) rfl (by decide) (cap := 32) (by decide) (by decide) (by decide) (by decide)
  obtain ⟨b21, g21⟩ : ∃ z, z = h20.size := ⟨_, rfl⟩
  rw [← g21] at A21 st21
  have ne_w_VAL_b21 : w_VAL ≠ b21 := Nat.ne_of_lt (Nat.lt_of_lt_of_le V_w_VAL_20.lt (Nat.le_of_eq g21.symm))
  have ne_a1_b21 : a1 ≠ b21 := Nat.ne_of_lt (Nat.lt_of_lt_of_le O_a1_20.1.lt (Nat.le_of_eq g21.symm))
  have ne_b5_b21 : b5 ≠ b21 := Nat.ne_of_lt (Nat.lt_of_lt_of_le U_b5_20.lt (Nat.le_of_eq g21.symm))
  have ne_b11_b21 : b11 ≠ b21 := Nat.ne_of_lt (Nat.lt_of_lt_of_le U_b11_20.lt (Nat.le_of_eq g21.symm))
  have g_b21 : n0 ≤ b21 := Nat.le_trans Z20 (Nat.le_of_eq g21.symm)
  have Z21 : n0 ≤ h21.size := Nat.le_trans Z20 E21.1
  have S__VALUES_21 := Sta.ext E21 S__VALUES_20
  have V_w_VAL_21 := Arv.ext V_w_VAL_20 E21
  have E_w_VAL_21 := Exa.ext E21 E_w_VAL_20
  have O_a1_21 := R_HB_ext E21 O_a1_20
  have U_b5_21 := ArO.ext E21 U_b5_20
  have U_b11_21 := ArU.ext E21 U_b11_20
  have sz_b21 : h0.size ≤ b21 := Nat.le_trans K20.1 (Nat.le_of_eq g21.symm)
  have K21 := Keep.ext K20 E21
  have V21 := Arv.new A21 (by decide)
  refine Go.mp st21 ?_
  have V_b210 := Arv.pad (vs' := List.replicate 32 (.int 0)) V21 (own_pad 32)
  show Go p e below (T21.setTop (mkF m 80 #[.val (.ref a1), .val .null, .unset] [(.ref b21), (.ref a1)])) _
  obtain ⟨T22, h22, X22, e22, W22, st22⟩ := putF X21 hx hZ hown (host := "") (Or.inl (hw _ (List.mem_of_getElem? (i := 54) rfl))) Via.refl e21 O_a1_21.2.2.2.2.2.2.2.2.2.1 O_a1_21.1 (Or.inl (hw _ (List.mem_of_getElem? (i := 55) rfl))) (hw _ (List.mem_of_getElem? (i := 1) rfl)) (ty := (FieldType.array FieldType.byte)) (by decide) rfl rfl (g := (mkF m 80 #[.val (.ref a1), .val .null, .unset] [(.ref b21), (.ref a1)])) rfl rfl (hb hby d1_80)
  have N22 := Fr.snoc X22 N20 g_a1
  have S__VALUES_22 := Sta.wr W22 S__VALUES_21
  have V_w_VAL_22 := Arv.other V_w_VAL_21 W22 (Ne.symm ne_a1_VAL)
  have E_w_VAL_22 := Exa.wr W22 E_w_VAL_21
  have O_a1_22 := R_HB_set_idBytes hw W22 O_a1_21
  have U_b5_22 := ArO.other W22 U_b5_21 (Ne.symm ne_a1_b5)
  have U_b11_22 := ArU.other W22 U_b11_21 (Ne.symm ne_a1_b11)
  have V_b21_22 := Arv.other V_b210 W22 (Ne.symm ne_a1_b21)
  have Z22 : n0 ≤ h22.size := Nat.le_trans Z21 (Nat.le_of_eq W22.size.symm)
  have K22 := Keep.wr K21 W22 (Or.inl (List.mem_of_getElem? (i := 0) rfl))
  refine Go.mp st22 ?_
  show Go p e below (T22.setTop (mkF m 83 #[.val (.ref a1), .val .null, .unset] [])) _
  refine g_aloadN X22 hx (hb hby d1_83) rfl rfl ?_
  refine g_bipush X22 hx (32 : Int32) (hb hby d1_84) (by decide) ?_
  obtain ⟨T23, h23, k23, X23, e23, E23, A23, st23⟩ := newP X22 hx hZ (hw _ (List.mem_of_getElem? (i := 42) rfl)) e22 (g := (mkF m 86 #[.val (.ref a1), .val .null, .unset] [(.int (32 : Int32)), (.ref a1)])) rfl (hb hby d1_86) rfl (by decide) (cap := 32) (by decide) (by decide) (by decide) (by decide)
  obtain ⟨b23, g23⟩ : ∃ z, z = h22.size := ⟨_, rfl⟩
  rw [← g23] at A23 st23
  have ne_w_VAL_b23 : w_VAL ≠ b23 := Nat.ne_of_lt (Nat.lt_of_lt_of_le V_w_VAL_22.lt (Nat.le_of_eq g23.symm))
  have ne_a1_b23 : a1 ≠ b23 := Nat.ne_of_lt (Nat.lt_of_lt_of_le O_a1_22.1.lt (Nat.le_of_eq g23.symm))
  have ne_b5_b23 : b5 ≠ b23 := Nat.ne_of_lt (Nat.lt_of_lt_of_le U_b5_22.lt (Nat.le_of_eq g23.symm))
  have ne_b11_b23 : b11 ≠ b23 := Nat.ne_of_lt (Nat.lt_of_lt_of_le U_b11_22.lt (Nat.le_of_eq g23.symm))
  have g_b23 : n0 ≤ b23 := Nat.le_trans Z22 (Nat.le_of_eq g23.symm)
  have Z23 : n0 ≤ h23.size := Nat.le_trans Z22 E23.1
  have S__VALUES_23 := Sta.ext E23 S__VALUES_22
  have V_w_VAL_23 := Arv.ext V_w_VAL_22 E23
  have E_w_VAL_23 := Exa.ext E23 E_w_VAL_22
  have O_a1_23 := R_HB_ext E23 O_a1_22
  have U_b5_23 := ArO.ext E23 U_b5_22
  have U_b11_23 := ArU.ext E23 U_b11_22
  have sz_b23 : h0.size ≤ b23 := Nat.le_trans K22.1 (Nat.le_of_eq g23.symm)
  have K23 := Keep.ext K22 E23
  have V23 := Arv.new A23 (by decide)
  refine Go.mp st23 ?_
  have V_b230 := Arv.pad (vs' := List.replicate 32 (.int 0)) V23 (own_pad 32)
  show Go p e below (T23.setTop (mkF m 88 #[.val (.ref a1), .val .null, .unset] [(.ref b23), (.ref a1)])) _
  obtain ⟨T24, h24, X24, e24, W24, st24⟩ := putF X23 hx hZ hown (host := "") (Or.inl (hw _ (List.mem_of_getElem? (i := 56) rfl))) Via.refl e23 O_a1_23.2.2.2.2.2.2.2.2.2.2.1 O_a1_23.1 (Or.inl (hw _ (List.mem_of_getElem? (i := 57) rfl))) (hw _ (List.mem_of_getElem? (i := 1) rfl)) (ty := (FieldType.array FieldType.int)) (by decide) rfl rfl (g := (mkF m 88 #[.val (.ref a1), .val .null, .unset] [(.ref b23), (.ref a1)])) rfl rfl (hb hby d1_88)
  have N24 := Fr.snoc X24 N22 g_a1
  have S__VALUES_24 := Sta.wr W24 S__VALUES_23
  have V_w_VAL_24 := Arv.other V_w_VAL_23 W24 (Ne.symm ne_a1_VAL)
  have E_w_VAL_24 := Exa.wr W24 E_w_VAL_23
  have O_a1_24 := R_HB_set_freeSlots hw W24 O_a1_23
  have U_b5_24 := ArO.other W24 U_b5_23 (Ne.symm ne_a1_b5)
  have U_b11_24 := ArU.other W24 U_b11_23 (Ne.symm ne_a1_b11)
  have V_b23_24 := Arv.other V_b230 W24 (Ne.symm ne_a1_b23)
  have Z24 : n0 ≤ h24.size := Nat.le_trans Z23 (Nat.le_of_eq W24.size.symm)
  have K24 := Keep.wr K23 W24 (Or.inl (List.mem_of_getElem? (i := 0) rfl))
  refine Go.mp st24 ?_
  show Go p e below (T24.setTop (mkF m 91 #[.val (.ref a1), .val .null, .unset] [])) _
  refine g_aloadN X24 hx (hb hby d1_91) rfl rfl ?_
  obtain ⟨T25, h25, X25, e25, E25, A25, D25, -, st25⟩ := newO X24 hx hZ hown (hw _ (List.mem_of_getElem? (i := 58) rfl)) (hw _ (List.mem_of_getElem? (i := 59) rfl)) (hw _ (List.mem_of_getElem? (i := 60) rfl)) e24 (g := (mkF m 92 #[.val (.ref a1), .val .null, .unset] [(.ref a1)])) rfl (hb hby d1_92) (by decide) (by decide)
  obtain ⟨b25, g25⟩ : ∃ z, z = h24.size := ⟨_, rfl⟩
  rw [← g25] at A25 D25 st25
  have ne_w_VAL_b25 : w_VAL ≠ b25 := Nat.ne_of_lt (Nat.lt_of_lt_of_le V_w_VAL_24.lt (Nat.le_of_eq g25.symm))
  have ne_a1_b25 : a1 ≠ b25 := Nat.ne_of_lt (Nat.lt_of_lt_of_le O_a1_24.1.lt (Nat.le_of_eq g25.symm))
  have ne_b5_b25 : b5 ≠ b25 := Nat.ne_of_lt (Nat.lt_of_lt_of_le U_b5_24.lt (Nat.le_of_eq g25.symm))
  have ne_b11_b25 : b11 ≠ b25 := Nat.ne_of_lt (Nat.lt_of_lt_of_le U_b11_24.lt (Nat.le_of_eq g25.symm))
  have g_b25 : n0 ≤ b25 := Nat.le_trans Z24 (Nat.le_of_eq g25.symm)
  have Z25 : n0 ≤ h25.size := Nat.le_trans Z24 E25.1
  have S__VALUES_25 := Sta.ext E25 S__VALUES_24
  have V_w_VAL_25 := Arv.ext V_w_VAL_24 E25
  have E_w_VAL_25 := Exa.ext E25 E_w_VAL_24
  have O_a1_25 := R_HB_ext E25 O_a1_24
  have U_b5_25 := ArO.ext E25 U_b5_24
  have U_b11_25 := ArU.ext E25 U_b11_24
  have sz_b25 : h0.size ≤ b25 := Nat.le_trans K24.1 (Nat.le_of_eq g25.symm)
  have K25 := Keep.ext K24 E25
  have O25 : R_HF Z h25 b25 .null .null .null .null .null .null .null .null .null := ⟨A25, D25 (Or.inr (hw _ (List.mem_of_getElem? (i := 66) rfl))) (ty := (FieldType.array FieldType.int)) (by decide), D25 (Or.inr (hw _ (List.mem_of_getElem? (i := 68) rfl))) (ty := (FieldType.array FieldType.byte)) (by decide), D25 (Or.inr (hw _ (List.mem_of_getElem? (i := 70) rfl))) (ty := (FieldType.array FieldType.long)) (by decide), D25 (Or.inr (hw _ (List.mem_of_getElem? (i := 73) rfl))) (ty := (FieldType.array FieldType.boolean)) (by decide), D25 (Or.inr (hw _ (List.mem_of_getElem? (i := 75) rfl))) (ty := (FieldType.array FieldType.int)) (by decide), D25 (Or.inr (hw _ (List.mem_of_getElem? (i := 77) rfl))) (ty := (FieldType.array FieldType.long)) (by decide), D25 (Or.inr (hw _ (List.mem_of_getElem? (i := 79) rfl))) (ty := (FieldType.array FieldType.boolean)) (by decide), D25 (Or.inr (hw _ (List.mem_of_getElem? (i := 83) rfl))) (ty := (FieldType.array (FieldType.object "java/lang/String"))) (by decide), D25 (Or.inr (hw _ (List.mem_of_getElem? (i := 87) rfl))) (ty := (FieldType.array (FieldType.object "com/example/watermark/watermark/store/BatchItems"))) (by decide)⟩
  refine Go.mp st25 ?_
  show Go p e below (T25.setTop (mkF m 95 #[.val (.ref a1), .val .null, .unset] [(.ref b25), (.ref a1)])) _
  refine g_dup X25 hx (hb hby d1_95) rfl ?_
  refine g_bipush X25 hx (32 : Int32) (hb hby d1_96) (by decide) ?_
  obtain ⟨v26, T26, L26, X26, q26, st26⟩ := own_callI X25 hx hZ (y := (⟨"com/example/watermark/watermark/store/HeldBatches$Fields", "<init>", "(I)V"⟩ : MethodName)) (pc := 98) (Ls := #[.val (.ref a1), .val .null, .unset]) (st := [(.int (32 : Int32)), (.ref b25), (.ref b25), (.ref a1)]) hown (hw _ (List.mem_of_getElem? (i := 61) rfl)) (hw _ (List.mem_of_getElem? (i := 62) rfl)) (hw _ (List.mem_of_getElem? (i := 63) rfl)) (hw _ (List.mem_of_getElem? (i := 60) rfl)) rfl (by decide) (rm_fieldsInit l Z a0 hw b25 h25 n0 Z25 O25 g_b25) e25 pd_2 (hb hby d1_98) (by rw [hml]; rfl) (argsL := [(.int (32 : Int32))]) (rest := [(.ref b25), (.ref a1)]) rfl rfl rfl (W := 2) (Nat.le_of_eq rfl) (by decide) (by decide) (by decide) (by decide)
  obtain ⟨rfl, M26, Kc26⟩ := q26
  have N26 := Fr.app N24 M26
  have S__VALUES_26 := own_sta_keep S__VALUES_25 Kc26 (own_plain O25.1 (fun _ q => nomatch q))
  have V_w_VAL_26 := Arv.keep V_w_VAL_25 Kc26 (own_nin ne_w_VAL_b25 List.not_mem_nil)
  have E_w_VAL_26 := Exa.keep E_w_VAL_25 Kc26
  have O_a1_26 := R_HB_keep O_a1_25 Kc26 (own_nin ne_a1_b25 List.not_mem_nil)
  have U_b5_26 := ArO.keep U_b5_25 Kc26 (own_nin ne_b5_b25 List.not_mem_nil)
  have U_b11_26 := ArU.keep U_b11_25 Kc26 (own_nin ne_b11_b25 List.not_mem_nil)
  have E_b25_26 := Exa.keep O25.1 Kc26
  have K26 := Keep.trans K25 Kc26 (own_mem1 (Or.inr sz_b25))
  have Z26 : n0 ≤ T26.heap.size := Nat.le_trans Z25 Kc26.1
  refine Go.mp st26 ?_
  show Go p e below (T26.setTop (mkF m 101 #[.val (.ref a1), .val .null, .unset] [(.ref b25), (.ref a1)])) _
  obtain ⟨T27, h27, X27, e27, W27, st27⟩ := putF X26 hx hZ hown (host := "") (Or.inl (hw _ (List.mem_of_getElem? (i := 88) rfl))) Via.refl (rfl : T26.heap = T26.heap) O_a1_26.2.2.2.2.2.2.2.2.2.2.2.1 O_a1_26.1 (Or.inl (hw _ (List.mem_of_getElem? (i := 89) rfl))) (hw _ (List.mem_of_getElem? (i := 1) rfl)) (ty := (FieldType.object "com/example/watermark/watermark/store/HeldBatches$Fields")) (by decide) rfl rfl (g := (mkF m 101 #[.val (.ref a1), .val .null, .unset] [(.ref b25), (.ref a1)])) rfl rfl (hb hby d1_101)
  have N27 := Fr.snoc X27 N26 g_a1
  have S__VALUES_27 := Sta.wr W27 S__VALUES_26
  have V_w_VAL_27 := Arv.other V_w_VAL_26 W27 (Ne.symm ne_a1_VAL)
  have E_w_VAL_27 := Exa.wr W27 E_w_VAL_26
  have O_a1_27 := R_HB_set_fields hw W27 O_a1_26
  have U_b5_27 := ArO.other W27 U_b5_26 (Ne.symm ne_a1_b5)
  have U_b11_27 := ArU.other W27 U_b11_26 (Ne.symm ne_a1_b11)
  have E_b25_27 := Exa.wr W27 E_b25_26
  have Z27 : n0 ≤ h27.size := Nat.le_trans Z26 (Nat.le_of_eq W27.size.symm)
  have K27 := Keep.wr K26 W27 (Or.inl (List.mem_of_getElem? (i := 0) rfl))
  refine Go.mp st27 ?_
  show Go p e below (T27.setTop (mkF m 104 #[.val (.ref a1), .val .null, .unset] [])) _
  refine g_aloadN X27 hx (hb hby d1_104) rfl rfl ?_
  refine g_aloadN X27 hx (hb hby d1_105) rfl rfl ?_
  obtain ⟨T28, h28, X28, e28, W28, st28⟩ := putF X27 hx hZ hown (host := "") (Or.inl (hw _ (List.mem_of_getElem? (i := 90) rfl))) Via.refl e27 O_a1_27.2.2.2.2.2.2.2.2.2.2.2.2 O_a1_27.1 (Or.inr ⟨(hw _ (List.mem_of_getElem? (i := 91) rfl)), rfl, hnm⟩) (hw _ (List.mem_of_getElem? (i := 1) rfl)) (ty := (FieldType.object "com/example/watermark/watermark/store/ItemHeap")) (by decide) rfl rfl (g := (mkF m 106 #[.val (.ref a1), .val .null, .unset] [.null, (.ref a1)])) rfl rfl (hb hby d1_106)
  have N28 := Fr.snoc X28 N27 g_a1
  have S__VALUES_28 := Sta.wr W28 S__VALUES_27
  have V_w_VAL_28 := Arv.other V_w_VAL_27 W28 (Ne.symm ne_a1_VAL)
  have E_w_VAL_28 := Exa.wr W28 E_w_VAL_27
  have O_a1_28 := R_HB_set_heap hw W28 O_a1_27
  have U_b5_28 := ArO.other W28 U_b5_27 (Ne.symm ne_a1_b5)
  have U_b11_28 := ArU.other W28 U_b11_27 (Ne.symm ne_a1_b11)
  have Z28 : n0 ≤ h28.size := Nat.le_trans Z27 (Nat.le_of_eq W28.size.symm)
  have K28 := Keep.wr K27 W28 (Or.inl (List.mem_of_getElem? (i := 0) rfl))
  refine Go.mp st28 ?_
  show Go p e below (T28.setTop (mkF m 109 #[.val (.ref a1), .val .null, .unset] [])) _
  refine g_iconst X28 hx (0 : Int32) (hb hby d1_109) (by decide) ?_
  refine g_istoreN X28 hx #[.val (.ref a1), .val .null, .val (.int (0 : Int32))] (hb hby d1_110) rfl ?_
  show Go p e below (T28.setTop (mkF m 111 #[.val (.ref a1), .val .null, .val (.int (0 : Int32))] [])) _
  exact hb_loop l Z a0 hw a1 b5 b11 h0 n0 g_b5 g_b11 sz_b5 sz_b11 ne_a1_b5 (Ne.symm ne_b5_b11) ne_a1_b11 hx hby hml hown hnm hret hlk hZ 256 (0 : Int32) _ _ _ _ Z28 O_a1_28.1 O_a1_28.2.2.1 O_a1_28.2.2.2.2.1 U_b5_28 U_b11_28 K28 X28 e28 N28 (by decide) (by decide) (by decide)
theorem pn_4 : plainName "java/lang/StringLatin1" = true := by first | (simp [plainName, overriddenIn]; done) | decide +kernel
def f_canEncode (i1 : Int32) : Int32 := (if (255 : Int32) < i1 then (0 : Int32) else (1 : Int32))
theorem d7_0 : decode jdk_43_method_3_code 0 = .ok (.iload_n 0, 1) := by decide +kernel
theorem d7_1 : decode jdk_43_method_3_code 1 = .ok (.sipush 255, 3) := by decide +kernel
theorem d7_4 : decode jdk_43_method_3_code 4 = .ok (.if_icmp .gt 7, 3) := by decide +kernel
theorem d7_7 : decode jdk_43_method_3_code 7 = .ok (.iconst 1, 1) := by decide +kernel
theorem d7_8 : decode jdk_43_method_3_code 8 = .ok (.goto 4, 3) := by decide +kernel
theorem d7_11 : decode jdk_43_method_3_code 11 = .ok (.iconst 0, 1) := by decide +kernel
theorem d7_12 : decode jdk_43_method_3_code 12 = .ok (.ireturn, 1) := by decide +kernel
theorem ef_rm_canEncode (m : MethodId) (x0 : Int32) : entryFrame m #[(.int x0)] 1 = mkF m 0 #[.val (.int x0)] [] := by first | (simp [entryFrame, mkF, argsToLocals, Value.category]; done) | rfl
set_option maxRecDepth 65536 in
set_option maxHeartbeats 40000000 in
theorem rm_canEncode (l : Launch) (Z : State) (a0 : Array Value) (hw : ∀ d ∈ tables_1, d.before a0 Z = true) (i1 : Int32) (h0 : Heap) (n0 : Nat) (Z0 : n0 ≤ h0.size)  :
    Ctr l (⟨"java/lang/StringLatin1", "canEncode", "(C)Z"⟩ : MethodName) jdk_43_method_3_code 1 (some FieldType.boolean) [] ({ frames := 0, cells := 0, slots := 0, locals := 0 } : Room) Z #[(.int i1)] h0 (fun v h L => v = some (.int (f_canEncode i1)) ∧ Fr n0 L ∧ h = h0) := by
  refine own_enter pn_4 (fun p e s m below meth c s₁ hx hby hml hown hnm hret hlk hZ X0 e0 => ?_)
  have N0 := Fr.nil n0
  rw [ef_rm_canEncode m _]
  show Go p e below (s₁.setTop (mkF m 0 #[.val (.int i1)] [])) _
  refine g_iloadN X0 hx (hb hby d7_0) rfl ?_
  refine g_sipush X0 hx (255 : Int32) (hb hby d7_1) (by decide) ?_
  by_cases c4_1 : (255 : Int32) < i1
  · refine g_icmpYes X0 hx 11 (hb hby d7_4) (tlt c4_1).2.2.1 (by decide) (by decide) ?_
    refine g_iconst X0 hx (0 : Int32) (hb hby d7_11) (by decide) ?_
    exact own_retZ X0 hx hret hlk (hb hby d7_12) (by decide) (by decide) (by decide) ⟨by rw [f_canEncode, if_pos c4_1], N0, e0⟩
  · refine g_icmpNo X0 hx (hb hby d7_4) (flt c4_1).2.2.1 ?_
    refine g_iconst X0 hx (1 : Int32) (hb hby d7_7) (by decide) ?_
    refine g_goto X0 hx 12 (hb hby d7_8) (by decide) (by decide) ?_
    exact own_retZ X0 hx hret hlk (hb hby d7_12) (by decide) (by decide) (by decide) ⟨by rw [f_canEncode, if_neg c4_1], N0, e0⟩
theorem d8_0 : decode jdk_43_method_46_code 0 = .ok (.iconst 1, 1) := by decide +kernel
theorem d8_1 : decode jdk_43_method_46_code 1 = .ok (.newarray .byte, 2) := by decide +kernel
theorem d8_3 : decode jdk_43_method_46_code 3 = .ok (.dup, 1) := by decide +kernel
theorem d8_4 : decode jdk_43_method_46_code 4 = .ok (.iconst 0, 1) := by decide +kernel
theorem d8_5 : decode jdk_43_method_46_code 5 = .ok (.iload_n 0, 1) := by decide +kernel
theorem d8_6 : decode jdk_43_method_46_code 6 = .ok (.i2b, 1) := by decide +kernel
theorem d8_7 : decode jdk_43_method_46_code 7 = .ok (.bastore, 1) := by decide +kernel
theorem d8_8 : decode jdk_43_method_46_code 8 = .ok (.areturn, 1) := by decide +kernel
theorem ef_rm_toBytes (m : MethodId) (x0 : Int32) : entryFrame m #[(.int x0)] 1 = mkF m 0 #[.val (.int x0)] [] := by first | (simp [entryFrame, mkF, argsToLocals, Value.category]; done) | rfl
set_option maxRecDepth 65536 in
set_option maxHeartbeats 40000000 in
theorem rm_toBytes (l : Launch) (Z : State) (a0 : Array Value) (hw : ∀ d ∈ tables_1, d.before a0 Z = true) (i1 : Int32) (h0 : Heap) (n0 : Nat) (Z0 : n0 ≤ h0.size)  :
    Ctr l (⟨"java/lang/StringLatin1", "toBytes", "(C)[B"⟩ : MethodName) jdk_43_method_46_code 1 (some (FieldType.array FieldType.byte)) [] ({ frames := 0, cells := 1, slots := 1, locals := 0 } : Room) Z #[(.int i1)] h0 (fun v h L => ∃ b, v = some (.ref b) ∧ Fr n0 L ∧ Keep h0 h [] ∧ h0.size ≤ b) := by
  refine own_enter pn_4 (fun p e s m below meth c s₁ hx hby hml hown hnm hret hlk hZ X0 e0 => ?_)
  have N0 := Fr.nil n0
  have K0 := Keep.refl h0 []
  rw [ef_rm_toBytes m _]
  show Go p e below (s₁.setTop (mkF m 0 #[.val (.int i1)] [])) _
  refine g_iconst X0 hx (1 : Int32) (hb hby d8_0) (by decide) ?_
  obtain ⟨T1, h1, k1, X1, e1, E1, A1, st1⟩ := newP X0 hx hZ (hw _ (List.mem_of_getElem? (i := 51) rfl)) e0 (g := (mkF m 1 #[.val (.int i1)] [(.int (1 : Int32))])) rfl (hb hby d8_1) rfl (by decide) (cap := 1) (by decide) (by decide) (by decide) (by decide)
  obtain ⟨b1, g1⟩ : ∃ z, z = h0.size := ⟨_, rfl⟩
  rw [← g1] at A1 st1
  have g_b1 : n0 ≤ b1 := Nat.le_trans Z0 (Nat.le_of_eq g1.symm)
  have Z1 : n0 ≤ h1.size := Nat.le_trans Z0 E1.1
  have sz_b1 : h0.size ≤ b1 := Nat.le_trans K0.1 (Nat.le_of_eq g1.symm)
  have K1 := Keep.ext K0 E1
  have V1 := Arv.new A1 (by decide)
  refine Go.mp st1 ?_
  have V_b10 := Arv.pad (vs' := List.replicate 1 (.int 0)) V1 (own_pad 1)
  show Go p e below (T1.setTop (mkF m 3 #[.val (.int i1)] [(.ref b1)])) _
  refine g_dup X1 hx (hb hby d8_3) rfl ?_
  refine g_iconst X1 hx (0 : Int32) (hb hby d8_4) (by decide) ?_
  refine g_iloadN X1 hx (hb hby d8_5) rfl ?_
  refine Go.mp (fun _ k => XS.i2b X1.here hx rfl (hb hby d8_6) rfl k) ?_
  show Go p e below (T1.setTop (mkF m 7 #[.val (.int i1)] [(.int (i1.toInt8.toInt32)), (.int (0 : Int32)), (.ref b1), (.ref b1)])) _
  obtain ⟨cl2, Ar2, cq2, sz2, nn2, Ha2, Gf2⟩ := id V_b10
  have hin2 : ¬ ((0 : Int32) < 0 ∨ cl2.slots.size ≤ (0 : Int32).toNatClampNeg) := by rw [sz2]; decide
  obtain ⟨T2, h2, X2, e2, W2, st2⟩ := stB X1 hx hZ e1 Ar2 (j := 0) hin2 (g := (mkF m 7 #[.val (.int i1)] [(.int (i1.toInt8.toInt32)), (.int (0 : Int32)), (.ref b1), (.ref b1)])) rfl rfl (hb hby d8_7)
  rw [show nar .byte (i1.toInt8.toInt32) = (i1.toInt8.toInt32) from own_b2 _] at W2
  have N2 := Fr.snoc X2 N0 g_b1
  have V_b1_2 := Arv.set Ar2 cq2 sz2 nn2 Ha2 Gf2 (v := (.int (i1.toInt8.toInt32))) (fits_nar_byte _) W2 0 (by decide) (by simp)
  have K2 := Keep.wr K1 W2 (Or.inr sz_b1)
  have Z2 : n0 ≤ h2.size := Nat.le_trans Z1 (Nat.le_of_eq W2.size.symm)
  refine Go.mp st2 ?_
  show Go p e below (T2.setTop (mkF m 8 #[.val (.int i1)] [(.ref b1)])) _
  exact own_retA X2 hx hret hlk rfl rfl (hb hby d8_8) (by decide) (by decide) (by rw [e2]; exact ⟨b1, rfl, N2, K2, sz_b1⟩)
theorem pn_5 : plainName "java/lang/String" = true := by first | (simp [plainName, overriddenIn]; done) | decide +kernel
theorem d9_0 : decode jdk_42_method_151_code 0 = .ok (.aload_n 0, 1) := by decide +kernel
theorem d9_1 : decode jdk_42_method_151_code 1 = .ok (.invokespecial 1, 3) := by decide +kernel
theorem d9_4 : decode jdk_42_method_151_code 4 = .ok (.aload_n 0, 1) := by decide +kernel
theorem d9_5 : decode jdk_42_method_151_code 5 = .ok (.aload_n 1, 1) := by decide +kernel
theorem d9_6 : decode jdk_42_method_151_code 6 = .ok (.putfield 9, 3) := by decide +kernel
theorem d9_9 : decode jdk_42_method_151_code 9 = .ok (.aload_n 0, 1) := by decide +kernel
theorem d9_10 : decode jdk_42_method_151_code 10 = .ok (.iload_n 2, 1) := by decide +kernel
theorem d9_11 : decode jdk_42_method_151_code 11 = .ok (.putfield 15, 3) := by decide +kernel
theorem d9_14 : decode jdk_42_method_151_code 14 = .ok (.return_, 1) := by decide +kernel
theorem ef_rm_strInit (m : MethodId) (x0 : Addr) (x1 : Addr) (x2 : Int32) : entryFrame m #[(.ref x0), (.ref x1), (.int x2)] 3 = mkF m 0 #[.val (.ref x0), .val (.ref x1), .val (.int x2)] [] := by first | (simp [entryFrame, mkF, argsToLocals, Value.category]; done) | rfl
set_option maxRecDepth 65536 in
set_option maxHeartbeats 40000000 in
theorem rm_strInit (l : Launch) (Z : State) (a0 : Array Value) (hw : ∀ d ∈ tables_1, d.before a0 Z = true) (a1 : Addr) (a2 : Addr) (h0 : Heap) (n0 : Nat) (Z0 : n0 ≤ h0.size) (O_a1 : R_ST Z h0 a1 .null (.int (0 : Int32))) (g_a1 : n0 ≤ a1) :
    Ctr l (⟨"java/lang/String", "<init>", "([BB)V"⟩ : MethodName) jdk_42_method_151_code 3 none [] ({ frames := 1, cells := 0, slots := 0, locals := 12 } : Room) Z #[(.ref a1), (.ref a2), (.int (0 : Int32))] h0 (fun v h L => v = none ∧ Fr n0 L ∧ Keep h0 h [a1]) := by
  refine own_enter pn_5 (fun p e s m below meth c s₁ hx hby hml hown hnm hret hlk hZ X0 e0 => ?_)
  have N0 := Fr.nil n0
  have K0 := Keep.refl h0 [a1]
  rw [ef_rm_strInit m _ _ _]
  show Go p e below (s₁.setTop (mkF m 0 #[.val (.ref a1), .val (.ref a2), .val (.int (0 : Int32))] [])) _
  refine g_aloadN X0 hx (hb hby d9_0) rfl rfl ?_
  obtain ⟨T1, X1, e1, st1⟩ := initO X0 hx hZ hown (hw _ (List.mem_of_getElem? (i := 115) rfl)) (hw _ (List.mem_of_getElem? (i := 7) rfl)) (hw _ (List.mem_of_getElem? (i := 8) rfl)) e0 (g := (mkF m 1 #[.val (.ref a1), .val (.ref a2), .val (.int (0 : Int32))] [(.ref a1)])) rfl (by rw [hml]; rfl) rfl (hb hby d9_1) (by decide) (W := 0) (by show 2 * 0 + _ ≤ _; exact Nat.le_of_eq rfl) (by decide)
  refine Go.mp st1 ?_
  show Go p e below (T1.setTop (mkF m 4 #[.val (.ref a1), .val (.ref a2), .val (.int (0 : Int32))] [])) _
  refine g_aloadN X1 hx (hb hby d9_4) rfl rfl ?_
  refine g_aloadN X1 hx (hb hby d9_5) rfl rfl ?_
  obtain ⟨T2, h2, X2, e2, W2, st2⟩ := putF X1 hx hZ hown (host := "") (Or.inl (hw _ (List.mem_of_getElem? (i := 116) rfl))) Via.refl e1 O_a1.2.1 O_a1.1 (Or.inr ⟨(hw _ (List.mem_of_getElem? (i := 117) rfl)), rfl, hnm⟩) (hw _ (List.mem_of_getElem? (i := 107) rfl)) (ty := (FieldType.array FieldType.byte)) (by decide) rfl rfl (g := (mkF m 6 #[.val (.ref a1), .val (.ref a2), .val (.int (0 : Int32))] [(.ref a2), (.ref a1)])) rfl rfl (hb hby d9_6)
  have N2 := Fr.snoc X2 N0 g_a1
  have O_a1_2 := R_ST_set_value hw W2 O_a1
  have Z2 : n0 ≤ h2.size := Nat.le_trans Z0 (Nat.le_of_eq W2.size.symm)
  have K2 := Keep.wr K0 W2 (Or.inl (List.mem_of_getElem? (i := 0) rfl))
  refine Go.mp st2 ?_
  show Go p e below (T2.setTop (mkF m 9 #[.val (.ref a1), .val (.ref a2), .val (.int (0 : Int32))] [])) _
  refine g_aloadN X2 hx (hb hby d9_9) rfl rfl ?_
  refine g_iloadN X2 hx (hb hby d9_10) rfl ?_
  obtain ⟨T3, h3, X3, e3, W3, st3⟩ := putF X2 hx hZ hown (host := "") (Or.inl (hw _ (List.mem_of_getElem? (i := 118) rfl))) Via.refl e2 O_a1_2.2.2 O_a1_2.1 (Or.inr ⟨(hw _ (List.mem_of_getElem? (i := 119) rfl)), rfl, hnm⟩) (hw _ (List.mem_of_getElem? (i := 107) rfl)) (ty := FieldType.byte) (by decide) rfl rfl (g := (mkF m 11 #[.val (.ref a1), .val (.ref a2), .val (.int (0 : Int32))] [(.int (0 : Int32)), (.ref a1)])) rfl rfl (hb hby d9_11)
  have N3 := Fr.snoc X3 N2 g_a1
  have O_a1_3 := R_ST_set_coder hw W3 O_a1_2
  have Z3 : n0 ≤ h3.size := Nat.le_trans Z2 (Nat.le_of_eq W3.size.symm)
  have K3 := Keep.wr K2 W3 (Or.inl (List.mem_of_getElem? (i := 0) rfl))
  refine Go.mp st3 ?_
  show Go p e below (T3.setTop (mkF m 14 #[.val (.ref a1), .val (.ref a2), .val (.int (0 : Int32))] [])) _
  exact own_retV X3 hx hret hlk (hb hby d9_14) (by decide) (by decide) (by rw [e3]; exact ⟨rfl, N3, K3⟩)
theorem pd_3 : parseMethodDescriptor "(C)Z" = some ⟨[FieldType.char], some FieldType.boolean⟩ := by decide +kernel
theorem pd_4 : parseMethodDescriptor "(C)[B" = some ⟨[FieldType.char], some (FieldType.array FieldType.byte)⟩ := by decide +kernel
theorem pd_5 : parseMethodDescriptor "([BB)V" = some ⟨[(FieldType.array FieldType.byte), FieldType.byte], none⟩ := by decide +kernel
theorem d6_0 : decode jdk_42_method_139_code 0 = .ok (.getstatic 38, 3) := by decide +kernel
theorem d6_3 : decode jdk_42_method_139_code 3 = .ok (.ifCond .eq 23, 3) := by decide +kernel
theorem d6_6 : decode jdk_42_method_139_code 6 = .ok (.iload_n 0, 1) := by decide +kernel
theorem d6_7 : decode jdk_42_method_139_code 7 = .ok (.invokestatic 1015, 3) := by decide +kernel
theorem d6_10 : decode jdk_42_method_139_code 10 = .ok (.ifCond .eq 16, 3) := by decide +kernel
theorem d6_13 : decode jdk_42_method_139_code 13 = .ok (.new 10, 3) := by decide +kernel
theorem d6_16 : decode jdk_42_method_139_code 16 = .ok (.dup, 1) := by decide +kernel
theorem d6_17 : decode jdk_42_method_139_code 17 = .ok (.iload_n 0, 1) := by decide +kernel
theorem d6_18 : decode jdk_42_method_139_code 18 = .ok (.invokestatic 1018, 3) := by decide +kernel
theorem d6_21 : decode jdk_42_method_139_code 21 = .ok (.iconst 0, 1) := by decide +kernel
theorem d6_22 : decode jdk_42_method_139_code 22 = .ok (.invokespecial 209, 3) := by decide +kernel
theorem d6_25 : decode jdk_42_method_139_code 25 = .ok (.areturn, 1) := by decide +kernel
theorem ef_rm_valueOf (m : MethodId) (x0 : Int32) : entryFrame m #[(.int x0)] 1 = mkF m 0 #[.val (.int x0)] [] := by first | (simp [entryFrame, mkF, argsToLocals, Value.category]; done) | rfl
set_option maxRecDepth 65536 in
set_option maxHeartbeats 40000000 in
theorem rm_valueOf (l : Launch) (Z : State) (a0 : Array Value) (hw : ∀ d ∈ tables_1, d.before a0 Z = true) (i1 : Int32) (zc : Int32) (h0 : Heap) (n0 : Nat) (Z0 : n0 ≤ h0.size) (S_COMPACT_STRINGS : Sta Z h0 "java/lang/String" "COMPACT_STRINGS" "Z" (.int zc)) (hzc : ¬ (zc = (0 : Int32))) (hi : ¬ ((255 : Int32) < i1)) :
    Ctr l (⟨"java/lang/String", "valueOf", "(C)Ljava/lang/String;"⟩ : MethodName) jdk_42_method_139_code 1 (some (FieldType.object "java/lang/String")) [] ({ frames := 2, cells := 2, slots := 5, locals := 40 } : Room) Z #[(.int i1)] h0 (fun v h L => ∃ b, v = some (.ref b) ∧ Fr n0 L ∧ Keep h0 h [] ∧ h0.size ≤ b ∧ Exa Z h b "java/lang/String") := by
  refine own_enter pn_5 (fun p e s m below meth c s₁ hx hby hml hown hnm hret hlk hZ X0 e0 => ?_)
  have N0 := Fr.nil n0
  have K0 := Keep.refl h0 []
  rw [ef_rm_valueOf m _]
  show Go p e below (s₁.setTop (mkF m 0 #[.val (.int i1)] [])) _
  obtain ⟨T1, X1, e1, st1⟩ := getS2 X0 hx hZ hown (host := "") (Or.inl (hw _ (List.mem_of_getElem? (i := 101) rfl))) Via.refl e0 S_COMPACT_STRINGS (g := (mkF m 0 #[.val (.int i1)] [])) rfl (hb hby d6_0)
  refine Go.mp st1 ?_
  show Go p e below (T1.setTop (mkF m 3 #[.val (.int i1)] [(.int zc)])) _
  have c3_2 : ¬ (zc = (0 : Int32)) := hzc
  refine g_ifNo X1 hx (hb hby d6_3) ((if0 _ _).trans (feq c3_2).1) ?_
  refine g_iloadN X1 hx (hb hby d6_6) rfl ?_
  obtain ⟨v3, T3, L3, X3, q3, st3⟩ := own_callS X1 hx hZ (y := (⟨"java/lang/StringLatin1", "canEncode", "(C)Z"⟩ : MethodName)) (pc := 7) (Ls := #[.val (.int i1)]) (st := [(.int i1)]) hown (hw _ (List.mem_of_getElem? (i := 102) rfl)) (hw _ (List.mem_of_getElem? (i := 103) rfl)) (hw _ (List.mem_of_getElem? (i := 104) rfl)) (hw _ (List.mem_of_getElem? (i := 105) rfl)) (by decide) (rm_canEncode l Z a0 hw i1 h0 n0 Z0 ) e1 pd_3 (hb hby d6_7) (by rw [hml]; rfl) (argsL := [(.int i1)]) (rest := []) rfl rfl rfl (W := 0) (Nat.le_of_eq rfl) (by decide) (by decide) (by decide) (by decide)
  obtain ⟨rfl, M3, e3⟩ := q3
  have N3 := Fr.app N0 M3
  have r3 : (f_canEncode i1) = (1 : Int32) := by rw [f_canEncode, if_neg (hi : ¬ ((255 : Int32) < i1))]
  rw [r3] at st3
  refine Go.mp st3 ?_
  show Go p e below (T3.setTop (mkF m 10 #[.val (.int i1)] [(.int (1 : Int32))])) _
  refine g_ifNo X3 hx (hb hby d6_10) ((if0 _ _).trans (feq ((by decide) : ¬ ((1 : Int32) = (0 : Int32)))).1) ?_
  obtain ⟨T4, h4, X4, e4, E4, A4, D4, -, st4⟩ := newO X3 hx hZ hown (hw _ (List.mem_of_getElem? (i := 106) rfl)) (hw _ (List.mem_of_getElem? (i := 107) rfl)) (hw _ (List.mem_of_getElem? (i := 99) rfl)) e3 (g := (mkF m 13 #[.val (.int i1)] [])) rfl (hb hby d6_13) (by decide) (by decide)
  obtain ⟨b4, g4⟩ : ∃ z, z = h0.size := ⟨_, rfl⟩
  rw [← g4] at A4 D4 st4
  have g_b4 : n0 ≤ b4 := Nat.le_trans Z0 (Nat.le_of_eq g4.symm)
  have Z4 : n0 ≤ h4.size := Nat.le_trans Z0 E4.1
  have S_COMPACT_STRINGS_4 := Sta.ext E4 S_COMPACT_STRINGS
  have sz_b4 : h0.size ≤ b4 := Nat.le_trans K0.1 (Nat.le_of_eq g4.symm)
  have K4 := Keep.ext K0 E4
  have O4 : R_ST Z h4 b4 .null (.int (0 : Int32)) := ⟨A4, D4 (Or.inr (hw _ (List.mem_of_getElem? (i := 117) rfl))) (ty := (FieldType.array FieldType.byte)) (by decide), D4 (Or.inr (hw _ (List.mem_of_getElem? (i := 119) rfl))) (ty := FieldType.byte) (by decide)⟩
  refine Go.mp st4 ?_
  show Go p e below (T4.setTop (mkF m 16 #[.val (.int i1)] [(.ref b4)])) _
  refine g_dup X4 hx (hb hby d6_16) rfl ?_
  refine g_iloadN X4 hx (hb hby d6_17) rfl ?_
  obtain ⟨v5, T5, L5, X5, q5, st5⟩ := own_callS X4 hx hZ (y := (⟨"java/lang/StringLatin1", "toBytes", "(C)[B"⟩ : MethodName)) (pc := 18) (Ls := #[.val (.int i1)]) (st := [(.int i1), (.ref b4), (.ref b4)]) hown (hw _ (List.mem_of_getElem? (i := 108) rfl)) (hw _ (List.mem_of_getElem? (i := 109) rfl)) (hw _ (List.mem_of_getElem? (i := 104) rfl)) (hw _ (List.mem_of_getElem? (i := 110) rfl)) (by decide) (rm_toBytes l Z a0 hw i1 h4 n0 Z4 ) e4 pd_4 (hb hby d6_18) (by rw [hml]; rfl) (argsL := [(.int i1)]) (rest := [(.ref b4), (.ref b4)]) rfl rfl rfl (W := 2) (Nat.le_of_eq rfl) (by decide) (by decide) (by decide) (by decide)
  obtain ⟨b5, rfl, M5, Kc5, sz5⟩ := q5
  have N5 := Fr.app N3 M5
  have ne_b4_b5 : b4 ≠ b5 := Nat.ne_of_lt (Nat.lt_of_lt_of_le O4.1.lt sz5)
  have g_b5 : n0 ≤ b5 := Nat.le_trans Z4 sz5
  have S_COMPACT_STRINGS_5 := own_sta_keep S_COMPACT_STRINGS_4 Kc5 (fun _ q => nomatch q)
  have O_b4_5 := R_ST_keep O4 Kc5 List.not_mem_nil
  have sz_b5 : h0.size ≤ b5 := Nat.le_trans K4.1 sz5
  have K5 := Keep.trans K4 Kc5 (fun x q => nomatch q)
  have Z5 : n0 ≤ T5.heap.size := Nat.le_trans Z4 Kc5.1
  refine Go.mp st5 ?_
  show Go p e below (T5.setTop (mkF m 21 #[.val (.int i1)] [(.ref b5), (.ref b4), (.ref b4)])) _
  refine g_iconst X5 hx (0 : Int32) (hb hby d6_21) (by decide) ?_
  obtain ⟨v6, T6, L6, X6, q6, st6⟩ := own_callI X5 hx hZ (y := (⟨"java/lang/String", "<init>", "([BB)V"⟩ : MethodName)) (pc := 22) (Ls := #[.val (.int i1)]) (st := [(.int (0 : Int32)), (.ref b5), (.ref b4), (.ref b4)]) hown (hw _ (List.mem_of_getElem? (i := 111) rfl)) (hw _ (List.mem_of_getElem? (i := 112) rfl)) (hw _ (List.mem_of_getElem? (i := 114) rfl)) (hw _ (List.mem_of_getElem? (i := 99) rfl)) rfl (by decide) (rm_strInit l Z a0 hw b4 b5 T5.heap n0 Z5 O_b4_5 g_b4) (rfl : T5.heap = T5.heap) pd_5 (hb hby d6_22) (by rw [hml]; rfl) (argsL := [(.ref b5), (.int (0 : Int32))]) (rest := [(.ref b4)]) rfl rfl rfl (W := 1) (Nat.le_of_eq rfl) (by decide) (by decide) (by decide) (by decide)
  obtain ⟨rfl, M6, Kc6⟩ := q6
  have N6 := Fr.app N5 M6
  have S_COMPACT_STRINGS_6 := own_sta_keep S_COMPACT_STRINGS_5 Kc6 (own_plain O_b4_5.1 (fun _ q => nomatch q))
  have E_b4_6 := Exa.keep O_b4_5.1 Kc6
  have K6 := Keep.trans K5 Kc6 (own_mem1 (Or.inr sz_b4))
  have Z6 : n0 ≤ T6.heap.size := Nat.le_trans Z5 Kc6.1
  refine Go.mp st6 ?_
  show Go p e below (T6.setTop (mkF m 25 #[.val (.int i1)] [(.ref b4)])) _
  exact own_retA X6 hx hret hlk rfl rfl (hb hby d6_25) (by decide) (by decide) (by rw [(rfl : T6.heap = T6.heap)]; exact ⟨b4, rfl, N6, K6, sz_b4, E_b4_6⟩)
theorem pn_6 : plainName "com/example/watermark/watermark/store/Batch" = true := by first | (simp [plainName, overriddenIn]; done) | decide +kernel
theorem d10_0 : decode prog_10_method_1_code 0 = .ok (.aload_n 0, 1) := by decide +kernel
theorem d10_1 : decode prog_10_method_1_code 1 = .ok (.invokespecial 1, 3) := by decide +kernel
theorem d10_4 : decode prog_10_method_1_code 4 = .ok (.aload_n 0, 1) := by decide +kernel
theorem d10_5 : decode prog_10_method_1_code 5 = .ok (.aload_n 1, 1) := by decide +kernel
theorem d10_6 : decode prog_10_method_1_code 6 = .ok (.putfield 7, 3) := by decide +kernel
theorem d10_9 : decode prog_10_method_1_code 9 = .ok (.aload_n 0, 1) := by decide +kernel
theorem d10_10 : decode prog_10_method_1_code 10 = .ok (.iload_n 2, 1) := by decide +kernel
theorem d10_11 : decode prog_10_method_1_code 11 = .ok (.putfield 13, 3) := by decide +kernel
theorem d10_14 : decode prog_10_method_1_code 14 = .ok (.aload_n 0, 1) := by decide +kernel
theorem d10_15 : decode prog_10_method_1_code 15 = .ok (.iload_n 3, 1) := by decide +kernel
theorem d10_16 : decode prog_10_method_1_code 16 = .ok (.putfield 17, 3) := by decide +kernel
theorem d10_19 : decode prog_10_method_1_code 19 = .ok (.aload_n 0, 1) := by decide +kernel
theorem d10_20 : decode prog_10_method_1_code 20 = .ok (.aload 4, 2) := by decide +kernel
theorem d10_22 : decode prog_10_method_1_code 22 = .ok (.putfield 20, 3) := by decide +kernel
theorem d10_25 : decode prog_10_method_1_code 25 = .ok (.return_, 1) := by decide +kernel
theorem ef_rm_batchInit (m : MethodId) (x0 : Addr) (x1 : Value) (x2 : Int32) (x3 : Int32) (x4 : Addr) (hx1 : x1.isRef = true) : entryFrame m #[(.ref x0), x1, (.int x2), (.int x3), (.ref x4)] 5 = mkF m 0 #[.val (.ref x0), .val x1, .val (.int x2), .val (.int x3), .val (.ref x4)] [] := by rcases ref_cases hx1 with rfl | ⟨r1, rfl⟩ <;> first | (simp [entryFrame, mkF, argsToLocals, Value.category]; done) | rfl
set_option maxRecDepth 65536 in
set_option maxHeartbeats 40000000 in
theorem rm_batchInit (l : Launch) (Z : State) (a0 : Array Value) (hw : ∀ d ∈ tables_1, d.before a0 Z = true) (a1 : Addr) (hv : Value) (i1 : Int32) (i2 : Int32) (a2 : Addr) (h0 : Heap) (n0 : Nat) (Z0 : n0 ≤ h0.size) (hh : hv.isRef = true) (O_a1 : R_BA Z h0 a1 .null (.int (0 : Int32)) (.int (0 : Int32)) .null) (g_a1 : n0 ≤ a1) :
    Ctr l (⟨"com/example/watermark/watermark/store/Batch", "<init>", "(Lcom/example/watermark/watermark/store/HeldBatches;IILjava/lang/String;)V"⟩ : MethodName) prog_10_method_1_code 5 none [] ({ frames := 1, cells := 0, slots := 0, locals := 12 } : Room) Z #[(.ref a1), hv, (.int i1), (.int i2), (.ref a2)] h0 (fun v h L => v = none ∧ Fr n0 L ∧ Keep h0 h [a1] ∧ R_BA Z h a1 hv (.int i1) (.int i2) (.ref a2)) := by
  refine own_enter pn_6 (fun p e s m below meth c s₁ hx hby hml hown hnm hret hlk hZ X0 e0 => ?_)
  have N0 := Fr.nil n0
  have K0 := Keep.refl h0 [a1]
  rw [ef_rm_batchInit m _ _ _ _ _ (by first | assumption | rfl)]
  show Go p e below (s₁.setTop (mkF m 0 #[.val (.ref a1), .val hv, .val (.int i1), .val (.int i2), .val (.ref a2)] [])) _
  refine g_aloadN X0 hx (hb hby d10_0) rfl rfl ?_
  obtain ⟨T1, X1, e1, st1⟩ := initO X0 hx hZ hown (hw _ (List.mem_of_getElem? (i := 126) rfl)) (hw _ (List.mem_of_getElem? (i := 7) rfl)) (hw _ (List.mem_of_getElem? (i := 8) rfl)) e0 (g := (mkF m 1 #[.val (.ref a1), .val hv, .val (.int i1), .val (.int i2), .val (.ref a2)] [(.ref a1)])) rfl (by rw [hml]; rfl) rfl (hb hby d10_1) (by decide) (W := 0) (by show 2 * 0 + _ ≤ _; exact Nat.le_of_eq rfl) (by decide)
  refine Go.mp st1 ?_
  show Go p e below (T1.setTop (mkF m 4 #[.val (.ref a1), .val hv, .val (.int i1), .val (.int i2), .val (.ref a2)] [])) _
  refine g_aloadN X1 hx (hb hby d10_4) rfl rfl ?_
  refine g_aloadN X1 hx (hb hby d10_5) rfl hh ?_
  obtain ⟨T2, h2, X2, e2, W2, st2⟩ := putF X1 hx hZ hown (host := "") (Or.inl (hw _ (List.mem_of_getElem? (i := 127) rfl))) Via.refl e1 O_a1.2.1 O_a1.1 (Or.inr ⟨(hw _ (List.mem_of_getElem? (i := 128) rfl)), rfl, hnm⟩) (hw _ (List.mem_of_getElem? (i := 121) rfl)) (ty := (FieldType.object "com/example/watermark/watermark/store/HeldBatches")) (by decide) (own_narR rfl hh) (own_fitR rfl hh) (g := (mkF m 6 #[.val (.ref a1), .val hv, .val (.int i1), .val (.int i2), .val (.ref a2)] [hv, (.ref a1)])) rfl rfl (hb hby d10_6)
  have N2 := Fr.snoc X2 N0 g_a1
  have O_a1_2 := R_BA_set_held hw W2 O_a1
  have Z2 : n0 ≤ h2.size := Nat.le_trans Z0 (Nat.le_of_eq W2.size.symm)
  have K2 := Keep.wr K0 W2 (Or.inl (List.mem_of_getElem? (i := 0) rfl))
  refine Go.mp st2 ?_
  show Go p e below (T2.setTop (mkF m 9 #[.val (.ref a1), .val hv, .val (.int i1), .val (.int i2), .val (.ref a2)] [])) _
  refine g_aloadN X2 hx (hb hby d10_9) rfl rfl ?_
  refine g_iloadN X2 hx (hb hby d10_10) rfl ?_
  obtain ⟨T3, h3, X3, e3, W3, st3⟩ := putF X2 hx hZ hown (host := "") (Or.inl (hw _ (List.mem_of_getElem? (i := 129) rfl))) Via.refl e2 O_a1_2.2.2.1 O_a1_2.1 (Or.inr ⟨(hw _ (List.mem_of_getElem? (i := 130) rfl)), rfl, hnm⟩) (hw _ (List.mem_of_getElem? (i := 121) rfl)) (ty := FieldType.int) (by decide) rfl rfl (g := (mkF m 11 #[.val (.ref a1), .val hv, .val (.int i1), .val (.int i2), .val (.ref a2)] [(.int i1), (.ref a1)])) rfl rfl (hb hby d10_11)
  have N3 := Fr.snoc X3 N2 g_a1
  have O_a1_3 := R_BA_set_slot hw W3 O_a1_2
  have Z3 : n0 ≤ h3.size := Nat.le_trans Z2 (Nat.le_of_eq W3.size.symm)
  have K3 := Keep.wr K2 W3 (Or.inl (List.mem_of_getElem? (i := 0) rfl))
  refine Go.mp st3 ?_
  show Go p e below (T3.setTop (mkF m 14 #[.val (.ref a1), .val hv, .val (.int i1), .val (.int i2), .val (.ref a2)] [])) _
  refine g_aloadN X3 hx (hb hby d10_14) rfl rfl ?_
  refine g_iloadN X3 hx (hb hby d10_15) rfl ?_
  obtain ⟨T4, h4, X4, e4, W4, st4⟩ := putF X3 hx hZ hown (host := "") (Or.inl (hw _ (List.mem_of_getElem? (i := 131) rfl))) Via.refl e3 O_a1_3.2.2.2.1 O_a1_3.1 (Or.inr ⟨(hw _ (List.mem_of_getElem? (i := 132) rfl)), rfl, hnm⟩) (hw _ (List.mem_of_getElem? (i := 121) rfl)) (ty := FieldType.int) (by decide) rfl rfl (g := (mkF m 16 #[.val (.ref a1), .val hv, .val (.int i1), .val (.int i2), .val (.ref a2)] [(.int i2), (.ref a1)])) rfl rfl (hb hby d10_16)
  have N4 := Fr.snoc X4 N3 g_a1
  have O_a1_4 := R_BA_set_generation hw W4 O_a1_3
  have Z4 : n0 ≤ h4.size := Nat.le_trans Z3 (Nat.le_of_eq W4.size.symm)
  have K4 := Keep.wr K3 W4 (Or.inl (List.mem_of_getElem? (i := 0) rfl))
  refine Go.mp st4 ?_
  show Go p e below (T4.setTop (mkF m 19 #[.val (.ref a1), .val hv, .val (.int i1), .val (.int i2), .val (.ref a2)] [])) _
  refine g_aloadN X4 hx (hb hby d10_19) rfl rfl ?_
  refine g_aload X4 hx (hb hby d10_20) rfl rfl ?_
  obtain ⟨T5, h5, X5, e5, W5, st5⟩ := putF X4 hx hZ hown (host := "") (Or.inl (hw _ (List.mem_of_getElem? (i := 133) rfl))) Via.refl e4 O_a1_4.2.2.2.2 O_a1_4.1 (Or.inr ⟨(hw _ (List.mem_of_getElem? (i := 134) rfl)), rfl, hnm⟩) (hw _ (List.mem_of_getElem? (i := 121) rfl)) (ty := (FieldType.object "java/lang/String")) (by decide) rfl rfl (g := (mkF m 22 #[.val (.ref a1), .val hv, .val (.int i1), .val (.int i2), .val (.ref a2)] [(.ref a2), (.ref a1)])) rfl rfl (hb hby d10_22)
  have N5 := Fr.snoc X5 N4 g_a1
  have O_a1_5 := R_BA_set_id hw W5 O_a1_4
  have Z5 : n0 ≤ h5.size := Nat.le_trans Z4 (Nat.le_of_eq W5.size.symm)
  have K5 := Keep.wr K4 W5 (Or.inl (List.mem_of_getElem? (i := 0) rfl))
  refine Go.mp st5 ?_
  show Go p e below (T5.setTop (mkF m 25 #[.val (.ref a1), .val hv, .val (.int i1), .val (.int i2), .val (.ref a2)] [])) _
  exact own_retV X5 hx hret hlk (hb hby d10_25) (by decide) (by decide) (by rw [e5]; exact ⟨rfl, N5, K5, O_a1_5⟩)
theorem own_no {Z : State} {a0 : Array Value} {S O K : String} {n : Nat} (w1 : (Jvm.Cond.superclass S O).before a0 Z = true) (w2 : (Jvm.Cond.noSuperclass O).before a0 Z = true) (wi : (Jvm.Cond.instantiable K n).before a0 Z = true) (hS : S ≠ K) (hO : O ≠ K) : ∃ c t, Z.vm.findClass S = some c ∧ Z.vm.findClass K = some t ∧ Z.vm.assignable c t = false := by
  obtain ⟨t, kt, t1, t2, t3, t4, -⟩ := Cond.instantiable_spec wi
  obtain ⟨o, ko, o1, o2, o3, -, -⟩ := Cond.noSuperclass_spec w2
  obtain ⟨c, c1⟩ := found_sup w1
  obtain ⟨p, k, kp, p1, p2, p3, p4, p5, -, p7⟩ := Cond.superclass_spec c1 w1
  cases o1.symm.trans p1
  have ne1 := ids_ne c1 t1 hS
  have ne2 := ids_ne o1 t1 hO
  have n2 : ∀ fuel, Z.vm.isSubclassAux fuel o t = false := fun fuel => by
    cases fuel with
    | zero => rfl
    | succ f => simp [Vm.isSubclassAux, ne2, o2, o3]
  have n3 : ∀ fuel, Z.vm.isSubclassAux fuel c t = false := fun fuel => by
    cases fuel with
    | zero => rfl
    | succ f => simp [Vm.isSubclassAux, ne1, p2, p4, n2]
  have it : kt.isInterface = false := (Bool.or_eq_false_iff.mp t4).1
  refine ⟨c, t, c1, t1, ?_⟩
  show Z.vm.assignableAux (255 + 1) c t = false
  simp [Vm.assignableAux, ne1, p2, t2, p5, t3, it, Vm.isSubclass, n3]
def f_eqB (a1 : Addr) (a2 : Addr) (hv1 : Value) (hv2 : Value) (i1 : Int32) (i2 : Int32) (j1 : Int32) (j2 : Int32) (d1 : Value) (d2 : Value) : Int32 := (if hv1 = hv2 then (if i1 = j1 then (if i2 = j2 then (1 : Int32) else (0 : Int32)) else (0 : Int32)) else (0 : Int32))
theorem d11_0 : decode prog_10_method_35_code 0 = .ok (.aload_n 1, 1) := by decide +kernel
theorem d11_1 : decode prog_10_method_35_code 1 = .ok (.instanceof 8, 3) := by decide +kernel
theorem d11_4 : decode prog_10_method_35_code 4 = .ok (.ifCond .eq 45, 3) := by decide +kernel
theorem d11_7 : decode prog_10_method_35_code 7 = .ok (.aload_n 1, 1) := by decide +kernel
theorem d11_8 : decode prog_10_method_35_code 8 = .ok (.checkcast 8, 3) := by decide +kernel
theorem d11_11 : decode prog_10_method_35_code 11 = .ok (.astore_n 2, 1) := by decide +kernel
theorem d11_12 : decode prog_10_method_35_code 12 = .ok (.aload_n 0, 1) := by decide +kernel
theorem d11_13 : decode prog_10_method_35_code 13 = .ok (.getfield 7, 3) := by decide +kernel
theorem d11_16 : decode prog_10_method_35_code 16 = .ok (.aload_n 2, 1) := by decide +kernel
theorem d11_17 : decode prog_10_method_35_code 17 = .ok (.getfield 7, 3) := by decide +kernel
theorem d11_20 : decode prog_10_method_35_code 20 = .ok (.if_acmp .ne 29, 3) := by decide +kernel
theorem d11_23 : decode prog_10_method_35_code 23 = .ok (.aload_n 0, 1) := by decide +kernel
theorem d11_24 : decode prog_10_method_35_code 24 = .ok (.getfield 13, 3) := by decide +kernel
theorem d11_27 : decode prog_10_method_35_code 27 = .ok (.aload_n 2, 1) := by decide +kernel
theorem d11_28 : decode prog_10_method_35_code 28 = .ok (.getfield 13, 3) := by decide +kernel
theorem d11_31 : decode prog_10_method_35_code 31 = .ok (.if_icmp .ne 18, 3) := by decide +kernel
theorem d11_34 : decode prog_10_method_35_code 34 = .ok (.aload_n 0, 1) := by decide +kernel
theorem d11_35 : decode prog_10_method_35_code 35 = .ok (.getfield 17, 3) := by decide +kernel
theorem d11_38 : decode prog_10_method_35_code 38 = .ok (.aload_n 2, 1) := by decide +kernel
theorem d11_39 : decode prog_10_method_35_code 39 = .ok (.getfield 17, 3) := by decide +kernel
theorem d11_42 : decode prog_10_method_35_code 42 = .ok (.if_icmp .ne 7, 3) := by decide +kernel
theorem d11_45 : decode prog_10_method_35_code 45 = .ok (.iconst 1, 1) := by decide +kernel
theorem d11_46 : decode prog_10_method_35_code 46 = .ok (.goto 4, 3) := by decide +kernel
theorem d11_49 : decode prog_10_method_35_code 49 = .ok (.iconst 0, 1) := by decide +kernel
theorem d11_50 : decode prog_10_method_35_code 50 = .ok (.ireturn, 1) := by decide +kernel
theorem ef_rm_eqB (m : MethodId) (x0 : Addr) (x1 : Addr) : entryFrame m #[(.ref x0), (.ref x1)] 3 = mkF m 0 #[.val (.ref x0), .val (.ref x1), .unset] [] := by first | (simp [entryFrame, mkF, argsToLocals, Value.category]; done) | rfl
set_option maxRecDepth 65536 in
set_option maxHeartbeats 40000000 in
theorem rm_eqB (l : Launch) (Z : State) (a0 : Array Value) (hw : ∀ d ∈ tables_1, d.before a0 Z = true) (a1 : Addr) (a2 : Addr) (hv1 : Value) (hv2 : Value) (i1 : Int32) (i2 : Int32) (j1 : Int32) (j2 : Int32) (d1 : Value) (d2 : Value) (h0 : Heap) (n0 : Nat) (Z0 : n0 ≤ h0.size) (hh1 : hv1.isRef = true) (hh2 : hv2.isRef = true) (O_a1 : R_BA Z h0 a1 hv1 (.int i1) (.int i2) d1) (O_a2 : R_BA Z h0 a2 hv2 (.int j1) (.int j2) d2) :
    Ctr l (⟨"com/example/watermark/watermark/store/Batch", "equals", "(Ljava/lang/Object;)Z"⟩ : MethodName) prog_10_method_35_code 3 (some FieldType.boolean) [] ({ frames := 0, cells := 0, slots := 0, locals := 0 } : Room) Z #[(.ref a1), (.ref a2)] h0 (fun v h L => v = some (.int (f_eqB a1 a2 hv1 hv2 i1 i2 j1 j2 d1 d2)) ∧ Fr n0 L ∧ h = h0) := by
  refine own_enter pn_6 (fun p e s m below meth c s₁ hx hby hml hown hnm hret hlk hZ X0 e0 => ?_)
  have N0 := Fr.nil n0
  rw [ef_rm_eqB m _ _]
  show Go p e below (s₁.setTop (mkF m 0 #[.val (.ref a1), .val (.ref a2), .unset] [])) _
  refine g_aloadN X0 hx (hb hby d11_0) rfl rfl ?_
  obtain ⟨T1, X1, e1, st1⟩ := instY X0 hx hZ hown (hw _ (List.mem_of_getElem? (i := 140) rfl)) e0 (Ins.self O_a2.1) (g := (mkF m 1 #[.val (.ref a1), .val (.ref a2), .unset] [(.ref a2)])) rfl rfl (hb hby d11_1)
  refine Go.mp st1 ?_
  show Go p e below (T1.setTop (mkF m 4 #[.val (.ref a1), .val (.ref a2), .unset] [(.int (1 : Int32))])) _
  refine g_ifNo X1 hx (hb hby d11_4) ((if0 _ _).trans (feq ((by decide) : ¬ ((1 : Int32) = (0 : Int32)))).1) ?_
  refine g_aloadN X1 hx (hb hby d11_7) rfl rfl ?_
  obtain ⟨T2, X2, e2, st2⟩ := castY X1 hx hZ hown (hw _ (List.mem_of_getElem? (i := 140) rfl)) e1 (Ins.self O_a2.1) (g := (mkF m 8 #[.val (.ref a1), .val (.ref a2), .unset] [(.ref a2)])) rfl rfl (hb hby d11_8)
  refine Go.mp st2 ?_
  show Go p e below (T2.setTop (mkF m 11 #[.val (.ref a1), .val (.ref a2), .unset] [(.ref a2)])) _
  refine g_astoreN X2 hx #[.val (.ref a1), .val (.ref a2), .val (.ref a2)] (hb hby d11_11) rfl rfl ?_
  refine g_aloadN X2 hx (hb hby d11_12) rfl rfl ?_
  obtain ⟨T3, X3, e3, st3⟩ := getF X2 hx hZ hown (host := "") (Or.inl (hw _ (List.mem_of_getElem? (i := 127) rfl))) Via.refl e2 O_a1.2.1 (g := (mkF m 13 #[.val (.ref a1), .val (.ref a2), .val (.ref a2)] [(.ref a1)])) rfl rfl (hb hby d11_13)
  refine Go.mp st3 ?_
  show Go p e below (T3.setTop (mkF m 16 #[.val (.ref a1), .val (.ref a2), .val (.ref a2)] [hv1])) _
  refine g_aloadN X3 hx (hb hby d11_16) rfl rfl ?_
  obtain ⟨T4, X4, e4, st4⟩ := getF X3 hx hZ hown (host := "") (Or.inl (hw _ (List.mem_of_getElem? (i := 127) rfl))) Via.refl e3 O_a2.2.1 (g := (mkF m 17 #[.val (.ref a1), .val (.ref a2), .val (.ref a2)] [(.ref a2), hv1])) rfl rfl (hb hby d11_17)
  refine Go.mp st4 ?_
  show Go p e below (T4.setTop (mkF m 20 #[.val (.ref a1), .val (.ref a2), .val (.ref a2)] [hv2, hv1])) _
  by_cases c20_5 : hv1 = hv2
  · refine g_acmp X4 hx 23 true hh1 hh2 (hb hby d11_20) (decide_eq_true c20_5) (by decide) (by decide) ?_
    refine g_aloadN X4 hx (hb hby d11_23) rfl rfl ?_
    obtain ⟨T6, X6, e6, st6⟩ := getF X4 hx hZ hown (host := "") (Or.inl (hw _ (List.mem_of_getElem? (i := 129) rfl))) Via.refl e4 O_a1.2.2.1 (g := (mkF m 24 #[.val (.ref a1), .val (.ref a2), .val (.ref a2)] [(.ref a1)])) rfl rfl (hb hby d11_24)
    refine Go.mp st6 ?_
    show Go p e below (T6.setTop (mkF m 27 #[.val (.ref a1), .val (.ref a2), .val (.ref a2)] [(.int i1)])) _
    refine g_aloadN X6 hx (hb hby d11_27) rfl rfl ?_
    obtain ⟨T7, X7, e7, st7⟩ := getF X6 hx hZ hown (host := "") (Or.inl (hw _ (List.mem_of_getElem? (i := 129) rfl))) Via.refl e6 O_a2.2.2.1 (g := (mkF m 28 #[.val (.ref a1), .val (.ref a2), .val (.ref a2)] [(.ref a2), (.int i1)])) rfl rfl (hb hby d11_28)
    refine Go.mp st7 ?_
    show Go p e below (T7.setTop (mkF m 31 #[.val (.ref a1), .val (.ref a2), .val (.ref a2)] [(.int j1), (.int i1)])) _
    by_cases c31_8 : i1 = j1
    · refine g_icmpNo X7 hx (hb hby d11_31) (teq c31_8).2 ?_
      refine g_aloadN X7 hx (hb hby d11_34) rfl rfl ?_
      obtain ⟨T9, X9, e9, st9⟩ := getF X7 hx hZ hown (host := "") (Or.inl (hw _ (List.mem_of_getElem? (i := 131) rfl))) Via.refl e7 O_a1.2.2.2.1 (g := (mkF m 35 #[.val (.ref a1), .val (.ref a2), .val (.ref a2)] [(.ref a1)])) rfl rfl (hb hby d11_35)
      refine Go.mp st9 ?_
      show Go p e below (T9.setTop (mkF m 38 #[.val (.ref a1), .val (.ref a2), .val (.ref a2)] [(.int i2)])) _
      refine g_aloadN X9 hx (hb hby d11_38) rfl rfl ?_
      obtain ⟨T10, X10, e10, st10⟩ := getF X9 hx hZ hown (host := "") (Or.inl (hw _ (List.mem_of_getElem? (i := 131) rfl))) Via.refl e9 O_a2.2.2.2.1 (g := (mkF m 39 #[.val (.ref a1), .val (.ref a2), .val (.ref a2)] [(.ref a2), (.int i2)])) rfl rfl (hb hby d11_39)
      refine Go.mp st10 ?_
      show Go p e below (T10.setTop (mkF m 42 #[.val (.ref a1), .val (.ref a2), .val (.ref a2)] [(.int j2), (.int i2)])) _
      by_cases c42_11 : i2 = j2
      · refine g_icmpNo X10 hx (hb hby d11_42) (teq c42_11).2 ?_
        refine g_iconst X10 hx (1 : Int32) (hb hby d11_45) (by decide) ?_
        refine g_goto X10 hx 50 (hb hby d11_46) (by decide) (by decide) ?_
        exact own_retZ X10 hx hret hlk (hb hby d11_50) (by decide) (by decide) (by decide) ⟨by rw [f_eqB, if_pos c20_5, if_pos c31_8, if_pos c42_11], N0, e10⟩
      · refine g_icmpYes X10 hx 49 (hb hby d11_42) (feq c42_11).2 (by decide) (by decide) ?_
        refine g_iconst X10 hx (0 : Int32) (hb hby d11_49) (by decide) ?_
        exact own_retZ X10 hx hret hlk (hb hby d11_50) (by decide) (by decide) (by decide) ⟨by rw [f_eqB, if_pos c20_5, if_pos c31_8, if_neg c42_11], N0, e10⟩
    · refine g_icmpYes X7 hx 49 (hb hby d11_31) (feq c31_8).2 (by decide) (by decide) ?_
      refine g_iconst X7 hx (0 : Int32) (hb hby d11_49) (by decide) ?_
      exact own_retZ X7 hx hret hlk (hb hby d11_50) (by decide) (by decide) (by decide) ⟨by rw [f_eqB, if_pos c20_5, if_neg c31_8], N0, e7⟩
  · refine g_acmp X4 hx 49 false hh1 hh2 (hb hby d11_20) (decide_eq_false c20_5) (by decide) (by decide) ?_
    refine g_iconst X4 hx (0 : Int32) (hb hby d11_49) (by decide) ?_
    exact own_retZ X4 hx hret hlk (hb hby d11_50) (by decide) (by decide) (by decide) ⟨by rw [f_eqB, if_neg c20_5], N0, e4⟩
def f_eqA (a1 : Addr) (hv1 : Value) (i1 : Int32) (i2 : Int32) (d1 : Value) : Int32 := (1 : Int32)
theorem ef_rm_eqA (m : MethodId) (x0 : Addr) (x1 : Addr) : entryFrame m #[(.ref x0), (.ref x1)] 3 = mkF m 0 #[.val (.ref x0), .val (.ref x1), .unset] [] := by first | (simp [entryFrame, mkF, argsToLocals, Value.category]; done) | rfl
set_option maxRecDepth 65536 in
set_option maxHeartbeats 40000000 in
theorem rm_eqA (l : Launch) (Z : State) (a0 : Array Value) (hw : ∀ d ∈ tables_1, d.before a0 Z = true) (a1 : Addr) (hv1 : Value) (i1 : Int32) (i2 : Int32) (d1 : Value) (h0 : Heap) (n0 : Nat) (Z0 : n0 ≤ h0.size) (hh1 : hv1.isRef = true) (O_a1 : R_BA Z h0 a1 hv1 (.int i1) (.int i2) d1) :
    Ctr l (⟨"com/example/watermark/watermark/store/Batch", "equals", "(Ljava/lang/Object;)Z"⟩ : MethodName) prog_10_method_35_code 3 (some FieldType.boolean) [] ({ frames := 0, cells := 0, slots := 0, locals := 0 } : Room) Z #[(.ref a1), (.ref a1)] h0 (fun v h L => v = some (.int (f_eqA a1 hv1 i1 i2 d1)) ∧ Fr n0 L ∧ h = h0) := by
  refine own_enter pn_6 (fun p e s m below meth c s₁ hx hby hml hown hnm hret hlk hZ X0 e0 => ?_)
  have N0 := Fr.nil n0
  rw [ef_rm_eqA m _ _]
  show Go p e below (s₁.setTop (mkF m 0 #[.val (.ref a1), .val (.ref a1), .unset] [])) _
  refine g_aloadN X0 hx (hb hby d11_0) rfl rfl ?_
  obtain ⟨T1, X1, e1, st1⟩ := instY X0 hx hZ hown (hw _ (List.mem_of_getElem? (i := 140) rfl)) e0 (Ins.self O_a1.1) (g := (mkF m 1 #[.val (.ref a1), .val (.ref a1), .unset] [(.ref a1)])) rfl rfl (hb hby d11_1)
  refine Go.mp st1 ?_
  show Go p e below (T1.setTop (mkF m 4 #[.val (.ref a1), .val (.ref a1), .unset] [(.int (1 : Int32))])) _
  refine g_ifNo X1 hx (hb hby d11_4) ((if0 _ _).trans (feq ((by decide) : ¬ ((1 : Int32) = (0 : Int32)))).1) ?_
  refine g_aloadN X1 hx (hb hby d11_7) rfl rfl ?_
  obtain ⟨T2, X2, e2, st2⟩ := castY X1 hx hZ hown (hw _ (List.mem_of_getElem? (i := 140) rfl)) e1 (Ins.self O_a1.1) (g := (mkF m 8 #[.val (.ref a1), .val (.ref a1), .unset] [(.ref a1)])) rfl rfl (hb hby d11_8)
  refine Go.mp st2 ?_
  show Go p e below (T2.setTop (mkF m 11 #[.val (.ref a1), .val (.ref a1), .unset] [(.ref a1)])) _
  refine g_astoreN X2 hx #[.val (.ref a1), .val (.ref a1), .val (.ref a1)] (hb hby d11_11) rfl rfl ?_
  refine g_aloadN X2 hx (hb hby d11_12) rfl rfl ?_
  obtain ⟨T3, X3, e3, st3⟩ := getF X2 hx hZ hown (host := "") (Or.inl (hw _ (List.mem_of_getElem? (i := 127) rfl))) Via.refl e2 O_a1.2.1 (g := (mkF m 13 #[.val (.ref a1), .val (.ref a1), .val (.ref a1)] [(.ref a1)])) rfl rfl (hb hby d11_13)
  refine Go.mp st3 ?_
  show Go p e below (T3.setTop (mkF m 16 #[.val (.ref a1), .val (.ref a1), .val (.ref a1)] [hv1])) _
  refine g_aloadN X3 hx (hb hby d11_16) rfl rfl ?_
  obtain ⟨T4, X4, e4, st4⟩ := getF X3 hx hZ hown (host := "") (Or.inl (hw _ (List.mem_of_getElem? (i := 127) rfl))) Via.refl e3 O_a1.2.1 (g := (mkF m 17 #[.val (.ref a1), .val (.ref a1), .val (.ref a1)] [(.ref a1), hv1])) rfl rfl (hb hby d11_17)
  refine Go.mp st4 ?_
  show Go p e below (T4.setTop (mkF m 20 #[.val (.ref a1), .val (.ref a1), .val (.ref a1)] [hv1, hv1])) _
  refine g_acmp X4 hx 23 true hh1 hh1 (hb hby d11_20) (decide_eq_true (rfl : hv1 = hv1)) (by decide) (by decide) ?_
  refine g_aloadN X4 hx (hb hby d11_23) rfl rfl ?_
  obtain ⟨T5, X5, e5, st5⟩ := getF X4 hx hZ hown (host := "") (Or.inl (hw _ (List.mem_of_getElem? (i := 129) rfl))) Via.refl e4 O_a1.2.2.1 (g := (mkF m 24 #[.val (.ref a1), .val (.ref a1), .val (.ref a1)] [(.ref a1)])) rfl rfl (hb hby d11_24)
  refine Go.mp st5 ?_
  show Go p e below (T5.setTop (mkF m 27 #[.val (.ref a1), .val (.ref a1), .val (.ref a1)] [(.int i1)])) _
  refine g_aloadN X5 hx (hb hby d11_27) rfl rfl ?_
  obtain ⟨T6, X6, e6, st6⟩ := getF X5 hx hZ hown (host := "") (Or.inl (hw _ (List.mem_of_getElem? (i := 129) rfl))) Via.refl e5 O_a1.2.2.1 (g := (mkF m 28 #[.val (.ref a1), .val (.ref a1), .val (.ref a1)] [(.ref a1), (.int i1)])) rfl rfl (hb hby d11_28)
  refine Go.mp st6 ?_
  show Go p e below (T6.setTop (mkF m 31 #[.val (.ref a1), .val (.ref a1), .val (.ref a1)] [(.int i1), (.int i1)])) _
  refine g_icmpNo X6 hx (hb hby d11_31) (teq (rfl : i1 = i1)).2 ?_
  refine g_aloadN X6 hx (hb hby d11_34) rfl rfl ?_
  obtain ⟨T7, X7, e7, st7⟩ := getF X6 hx hZ hown (host := "") (Or.inl (hw _ (List.mem_of_getElem? (i := 131) rfl))) Via.refl e6 O_a1.2.2.2.1 (g := (mkF m 35 #[.val (.ref a1), .val (.ref a1), .val (.ref a1)] [(.ref a1)])) rfl rfl (hb hby d11_35)
  refine Go.mp st7 ?_
  show Go p e below (T7.setTop (mkF m 38 #[.val (.ref a1), .val (.ref a1), .val (.ref a1)] [(.int i2)])) _
  refine g_aloadN X7 hx (hb hby d11_38) rfl rfl ?_
  obtain ⟨T8, X8, e8, st8⟩ := getF X7 hx hZ hown (host := "") (Or.inl (hw _ (List.mem_of_getElem? (i := 131) rfl))) Via.refl e7 O_a1.2.2.2.1 (g := (mkF m 39 #[.val (.ref a1), .val (.ref a1), .val (.ref a1)] [(.ref a1), (.int i2)])) rfl rfl (hb hby d11_39)
  refine Go.mp st8 ?_
  show Go p e below (T8.setTop (mkF m 42 #[.val (.ref a1), .val (.ref a1), .val (.ref a1)] [(.int i2), (.int i2)])) _
  refine g_icmpNo X8 hx (hb hby d11_42) (teq (rfl : i2 = i2)).2 ?_
  refine g_iconst X8 hx (1 : Int32) (hb hby d11_45) (by decide) ?_
  refine g_goto X8 hx 50 (hb hby d11_46) (by decide) (by decide) ?_
  exact own_retZ X8 hx hret hlk (hb hby d11_50) (by decide) (by decide) (by decide) ⟨by rw [f_eqA], N0, e8⟩
def f_eqS (a1 : Addr) (a2 : Addr) : Int32 := (0 : Int32)
theorem ef_rm_eqS (m : MethodId) (x0 : Addr) (x1 : Addr) : entryFrame m #[(.ref x0), (.ref x1)] 3 = mkF m 0 #[.val (.ref x0), .val (.ref x1), .unset] [] := by first | (simp [entryFrame, mkF, argsToLocals, Value.category]; done) | rfl
set_option maxRecDepth 65536 in
set_option maxHeartbeats 40000000 in
theorem rm_eqS (l : Launch) (Z : State) (a0 : Array Value) (hw : ∀ d ∈ tables_1, d.before a0 Z = true) (a1 : Addr) (a2 : Addr) (h0 : Heap) (n0 : Nat) (Z0 : n0 ≤ h0.size) (E_a2 : Exa Z h0 a2 "java/lang/String") :
    Ctr l (⟨"com/example/watermark/watermark/store/Batch", "equals", "(Ljava/lang/Object;)Z"⟩ : MethodName) prog_10_method_35_code 3 (some FieldType.boolean) [] ({ frames := 0, cells := 0, slots := 0, locals := 0 } : Room) Z #[(.ref a1), (.ref a2)] h0 (fun v h L => v = some (.int (f_eqS a1 a2)) ∧ Fr n0 L ∧ h = h0) := by
  refine own_enter pn_6 (fun p e s m below meth c s₁ hx hby hml hown hnm hret hlk hZ X0 e0 => ?_)
  have N0 := Fr.nil n0
  rw [ef_rm_eqS m _ _]
  show Go p e below (s₁.setTop (mkF m 0 #[.val (.ref a1), .val (.ref a2), .unset] [])) _
  refine g_aloadN X0 hx (hb hby d11_0) rfl rfl ?_
  obtain ⟨T1, X1, e1, st1⟩ := instNo X0 hx hZ hown (hw _ (List.mem_of_getElem? (i := 140) rfl)) e0 E_a2 (own_no (hw _ (List.mem_of_getElem? (i := 142) rfl)) (hw _ (List.mem_of_getElem? (i := 143) rfl)) (hw _ (List.mem_of_getElem? (i := 121) rfl)) (by decide) (by decide)) (g := (mkF m 1 #[.val (.ref a1), .val (.ref a2), .unset] [(.ref a2)])) rfl rfl (hb hby d11_1)
  refine Go.mp st1 ?_
  show Go p e below (T1.setTop (mkF m 4 #[.val (.ref a1), .val (.ref a2), .unset] [(.int (0 : Int32))])) _
  refine g_ifYes X1 hx 49 (hb hby d11_4) ((if0 _ _).trans (teq ((by decide) : (0 : Int32) = (0 : Int32))).1) (by decide) (by decide) ?_
  refine g_iconst X1 hx (0 : Int32) (hb hby d11_49) (by decide) ?_
  exact own_retZ X1 hx hret hlk (hb hby d11_50) (by decide) (by decide) (by decide) ⟨by rw [f_eqS], N0, e1⟩
def f_eqN (a1 : Addr) : Int32 := (0 : Int32)
theorem ef_rm_eqN (m : MethodId) (x0 : Addr) : entryFrame m #[(.ref x0), .null] 3 = mkF m 0 #[.val (.ref x0), .val .null, .unset] [] := by first | (simp [entryFrame, mkF, argsToLocals, Value.category]; done) | rfl
set_option maxRecDepth 65536 in
set_option maxHeartbeats 40000000 in
theorem rm_eqN (l : Launch) (Z : State) (a0 : Array Value) (hw : ∀ d ∈ tables_1, d.before a0 Z = true) (a1 : Addr) (h0 : Heap) (n0 : Nat) (Z0 : n0 ≤ h0.size)  :
    Ctr l (⟨"com/example/watermark/watermark/store/Batch", "equals", "(Ljava/lang/Object;)Z"⟩ : MethodName) prog_10_method_35_code 3 (some FieldType.boolean) [] ({ frames := 0, cells := 0, slots := 0, locals := 0 } : Room) Z #[(.ref a1), .null] h0 (fun v h L => v = some (.int (f_eqN a1)) ∧ Fr n0 L ∧ h = h0) := by
  refine own_enter pn_6 (fun p e s m below meth c s₁ hx hby hml hown hnm hret hlk hZ X0 e0 => ?_)
  have N0 := Fr.nil n0
  rw [ef_rm_eqN m _ ]
  show Go p e below (s₁.setTop (mkF m 0 #[.val (.ref a1), .val .null, .unset] [])) _
  refine g_aloadN X0 hx (hb hby d11_0) rfl rfl ?_
  refine Go.mp (fun _ k => X0.instanceofNull hx (g := (mkF m 1 #[.val (.ref a1), .val .null, .unset] [.null])) rfl rfl (hb hby d11_1) _ k) ?_
  show Go p e below (s₁.setTop (mkF m 4 #[.val (.ref a1), .val .null, .unset] [(.int (0 : Int32))])) _
  refine g_ifYes X0 hx 49 (hb hby d11_4) ((if0 _ _).trans (teq ((by decide) : (0 : Int32) = (0 : Int32))).1) (by decide) (by decide) ?_
  refine g_iconst X0 hx (0 : Int32) (hb hby d11_49) (by decide) ?_
  exact own_retZ X0 hx hret hlk (hb hby d11_50) (by decide) (by decide) (by decide) ⟨by rw [f_eqN], N0, e0⟩
def own_H (b : Addr) (x : Int32) (v : Value) : Prop := (v = .ref b ∧ ¬ x = (0 : Int32)) ∨ (v = .null ∧ x = (0 : Int32))
theorem own_Hr {b : Addr} {x : Int32} {v : Value} (h : own_H b x v) : v.isRef = true := by rcases h with ⟨rfl, -⟩ | ⟨rfl, -⟩ <;> rfl
theorem own_c255 (x : Int32) : ¬ ((255 : Int32) < (x &&& (255 : Int32)).toUInt32.toUInt16.toUInt32.toInt32) := by
  rw [i2c_mask, Int32.lt_iff_toInt_lt]
  have := (c_and x 255 (by decide)).2
  omega
theorem own_bit2 (x : Int32) : ((x.toUInt32 >>> ((1 : Int32) &&& 31).toUInt32).toInt32) &&& (1 : Int32) = (0 : Int32) ↔ x &&& (2 : Int32) = (0 : Int32) := by
  have a := c_iushr x 1 1 (by decide) (by decide)
  have b := c_mask ((x.toUInt32 >>> ((1 : Int32) &&& 31).toUInt32).toInt32) 1 1 (by decide) (by decide)
  have d := c_mask x 3 2 (by decide) (by decide)
  have f := c_mask x 1 1 (by decide) (by decide)
  have g : (x &&& (3 : Int32)) = (x &&& (1 : Int32)) ||| (x &&& (2 : Int32)) := by
    apply Int32.toBitVec_inj.mp
    simp only [Int32.toBitVec_and, Int32.toBitVec_or]
    apply BitVec.eq_of_getLsbD_eq; intro i hi
    simp only [BitVec.getLsbD_and, BitVec.getLsbD_or, ← Bool.and_or_distrib_left]
    congr 1
    revert i; decide
  rw [← Int32.toInt_inj, ← Int32.toInt_inj, b, a]
  have e0 : (0 : Int32).toInt = 0 := rfl
  rw [e0]
  constructor
  · intro q
    have x2 : (x &&& (3 : Int32)).toInt = (x &&& (1 : Int32)).toInt := by rw [d, f]; omega
    have x3 := Int32.toInt_inj.mp x2
    rw [x3] at g
    have k : (x &&& (2 : Int32)) = ((x &&& (1 : Int32)) ||| (x &&& (2 : Int32))) &&& (2 : Int32) := by
      apply Int32.toBitVec_inj.mp
      simp only [Int32.toBitVec_and, Int32.toBitVec_or]
      apply BitVec.eq_of_getLsbD_eq; intro i hi
      simp only [BitVec.getLsbD_and, BitVec.getLsbD_or]
      cases x.toBitVec.getLsbD i <;> cases (2 : Int32).toBitVec.getLsbD i <;> simp
    rw [k, ← g]
    have : x &&& (1 : Int32) &&& (2 : Int32) = (0 : Int32) := by
      rw [Int32.and_assoc]; show x &&& (0 : Int32) = 0; exact Int32.and_zero
    rw [this]; rfl
  · intro q
    have x2 : (x &&& (2 : Int32)) = 0 := Int32.toInt_inj.mp q
    rw [x2] at g
    have x3 : (x &&& (3 : Int32)) = (x &&& (1 : Int32)) := by rw [g]; exact Int32.or_zero
    have x4 : (x &&& (3 : Int32)).toInt = (x &&& (1 : Int32)).toInt := by rw [x3]
    rw [d, f] at x4
    omega
theorem own_01 (x : Int32) : x &&& (1 : Int32) = (0 : Int32) ∨ x &&& (1 : Int32) = (1 : Int32) := and_one x
theorem own_sh {b : Addr} {x : Int32} {v1 v2 : Value} (h1 : own_H b (x &&& (1 : Int32)) v1) (h2 : own_H b (x &&& (2 : Int32)) v2) : (x &&& (1 : Int32)) = (((x.toUInt32 >>> ((1 : Int32) &&& 31).toUInt32).toInt32) &&& (1 : Int32)) ↔ v1 = v2 := by
  have q := own_bit2 x
  rcases own_01 x with a | a <;> rcases own_01 ((x.toUInt32 >>> ((1 : Int32) &&& 31).toUInt32).toInt32) with d | d <;> rcases h1 with ⟨rfl, r1⟩ | ⟨rfl, r1⟩ <;> rcases h2 with ⟨rfl, r2⟩ | ⟨rfl, r2⟩ <;> simp_all
def own_K (kd : Int32) (o : Value) (b d : Addr) : Prop := (kd < (2 : Int32) ∧ o = .ref b) ∨ (¬ kd < (2 : Int32) ∧ o = .ref d) ∨ (¬ kd < (2 : Int32) ∧ o = .null)
theorem own_Kr {kd : Int32} {o : Value} {b d : Addr} (h : own_K kd o b d) : o.isRef = true := by rcases h with ⟨-, rfl⟩ | ⟨-, rfl⟩ | ⟨-, rfl⟩ <;> rfl
def own_S (s : Int32) (P : Prop) : Prop := (s = (1 : Int32) ∧ P) ∨ (s = (0 : Int32) ∧ ¬ P)
def own_X (kd ex : Int32) (P : Prop) : Prop := (kd < (2 : Int32) ∧ own_S ex P) ∨ (¬ kd < (2 : Int32) ∧ ex = (0 : Int32))
theorem own_six {kd ex : Int32} {o : Value} {b d : Addr} {v1 v2 : Value} {p1 z2 p2 y2 : Int32} (hk : own_K kd o b d) (hx : own_X kd ex (v1 = v2 ∧ p1 = z2 ∧ p2 = y2)) :
    (kd < (2 : Int32) ∧ o = .ref b ∧ ex = (1 : Int32) ∧ v1 = v2 ∧ p1 = z2 ∧ p2 = y2) ∨ (kd < (2 : Int32) ∧ o = .ref b ∧ ex = (0 : Int32) ∧ v1 = v2 ∧ p1 = z2 ∧ ¬ p2 = y2) ∨ (kd < (2 : Int32) ∧ o = .ref b ∧ ex = (0 : Int32) ∧ v1 = v2 ∧ ¬ p1 = z2) ∨ (kd < (2 : Int32) ∧ o = .ref b ∧ ex = (0 : Int32) ∧ ¬ v1 = v2) ∨ (¬ kd < (2 : Int32) ∧ o = .ref d ∧ ex = (0 : Int32)) ∨ (¬ kd < (2 : Int32) ∧ o = .null ∧ ex = (0 : Int32)) := by
  rcases hx with ⟨k1, ⟨e1, q1, q2, q3⟩ | ⟨e1, q⟩⟩ | ⟨k1, e1⟩
  · rcases hk with ⟨-, r⟩ | ⟨k, -⟩ | ⟨k, -⟩
    · exact Or.inl ⟨k1, r, e1, q1, q2, q3⟩
    · exact absurd k1 k
    · exact absurd k1 k
  · rcases hk with ⟨-, r⟩ | ⟨k, -⟩ | ⟨k, -⟩
    · by_cases q1 : v1 = v2
      · by_cases q2 : p1 = z2
        · exact Or.inr (Or.inl ⟨k1, r, e1, q1, q2, fun q3 => q ⟨q1, q2, q3⟩⟩)
        · exact Or.inr (Or.inr (Or.inl ⟨k1, r, e1, q1, q2⟩))
      · exact Or.inr (Or.inr (Or.inr (Or.inl ⟨k1, r, e1, q1⟩)))
    · exact absurd k1 k
    · exact absurd k1 k
  · rcases hk with ⟨k, -⟩ | ⟨-, r⟩ | ⟨-, r⟩
    · exact absurd k k1
    · exact Or.inr (Or.inr (Or.inr (Or.inr (Or.inl ⟨k1, r, e1⟩))))
    · exact Or.inr (Or.inr (Or.inr (Or.inr (Or.inr ⟨k1, r, e1⟩))))
theorem pd_6 : parseMethodDescriptor "(Ljava/lang/Object;)Z" = some ⟨[(FieldType.object "java/lang/Object")], some FieldType.boolean⟩ := by decide +kernel
set_option maxRecDepth 65536 in
set_option maxHeartbeats 40000000 in
theorem seg_11 (l : Launch) (Z : State) (a0 : Array Value) (hw : ∀ d ∈ tables_1, d.before a0 Z = true) (p1 : Int32) (p2 : Int32) (p3 : Int32) (p4 : Int32) (p5 : Int32) (p6 : Int32) (ahb : Addr) (zc : Int32) (v1 : Value) (v2 : Value) (cs : Int32) (cg : Int32) (kd : Int32) (z2 : Int32) (y2 : Int32) (id1 : Addr) (id2 : Addr) (bA : Addr) (bB : Addr) (o : Value) (sh : Int32) (ss : Int32) (sg : Int32) (ex : Int32) (h0 : Heap) (n0 : Nat) (Z0 : n0 ≤ h0.size) (h1 : own_H ahb (p5 &&& (1 : Int32)) v1) (h2 : own_H ahb (p5 &&& (2 : Int32)) v2) (hs2 : (¬ cs = (0 : Int32) ∧ p1 = z2) ∨ (cs = (0 : Int32) ∧ p3 = z2)) (hg2 : (¬ cg = (0 : Int32) ∧ p2 = y2) ∨ (cg = (0 : Int32) ∧ p4 = y2)) (hk : own_K kd o bB id2) (O_bA : R_BA Z h0 bA v1 (.int p1) (.int p2) (.ref id1)) (O_bB : R_BA Z h0 bB v2 (.int z2) (.int y2) (.ref id2)) (E_id2 : Exa Z h0 id2 "java/lang/String") (hsh : own_S sh (v1 = v2)) (hss : own_S ss (p1 = z2)) (hsg : own_S sg (p2 = y2)) (hex : own_X kd ex (v1 = v2 ∧ p1 = z2 ∧ p2 = y2)) {p : Program} {e : Env} {s : State} {m : MethodId} {below : List Frame} {meth : Method} {c : Code} {args : Array Value} {s₁ : State} {lo : List Loc} (hx : p.tables.exec = Jvm.exec) (hby : c.code = code) (hml : c.maxLocals = maxLocals) (hown : s.vm.findClass "com/example/watermark/watermark/store/BatchEqualsPinLaw" = some m.cls) (hnm : meth.name = "law") (hret : meth.sig.returnType = ret) (hlk : meth.locks = false) (hZ : Z.Warmed39 s.vm) (X0 : Stand p l e room_1 s m args below meth c s₁ lo 284 824) (e0 : s₁.heap = h0) (N0 : Fr n0 lo) :
    Go p e below (s₁.setTop (mkF m 264 #[.val (.int p1), .val (.int p2), .val (.int p3), .val (.int p4), .val (.int p5), .val (.int p6), .val (.ref ahb), .val v1, .val v2, .val (.int cs), .val (.int cg), .val (.int kd), .val (.int z2), .val (.int y2), .val (.ref id1), .val (.ref id2), .val (.ref bA), .val (.ref bB), .val o, .val (.int sh), .val (.int ss), .val (.int sg), .val (.int ex), .unset] [])) (FinE s room_1.cells room_1.slots (fun v h L => v = some (.int 1) ∧ Fr n0 L)) := by
  show Go p e below (s₁.setTop (mkF m 264 #[.val (.int p1), .val (.int p2), .val (.int p3), .val (.int p4), .val (.int p5), .val (.int p6), .val (.ref ahb), .val v1, .val v2, .val (.int cs), .val (.int cg), .val (.int kd), .val (.int z2), .val (.int y2), .val (.ref id1), .val (.ref id2), .val (.ref bA), .val (.ref bB), .val o, .val (.int sh), .val (.int ss), .val (.int sg), .val (.int ex), .unset] [])) _
  rcases own_six hk hex with ⟨k1, rfl, rfl, q1, q2, q3⟩ | ⟨k1, rfl, rfl, q1, q2, q3⟩ | ⟨k1, rfl, rfl, q1, q2⟩ | ⟨k1, rfl, rfl, q1⟩ | ⟨k1, rfl, rfl⟩ | ⟨k1, rfl, rfl⟩
  · refine g_aload X0 hx (hb hby at_264) rfl rfl ?_
    refine g_aload X0 hx (hb hby at_266) rfl rfl ?_
    obtain ⟨v1, T1, L1, X1, q1, st1⟩ := own_callV X0 hx hZ (y := (⟨"com/example/watermark/watermark/store/Batch", "equals", "(Ljava/lang/Object;)Z"⟩ : MethodName)) (pc := 268) (Ls := #[.val (.int p1), .val (.int p2), .val (.int p3), .val (.int p4), .val (.int p5), .val (.int p6), .val (.ref ahb), .val v1, .val v2, .val (.int cs), .val (.int cg), .val (.int kd), .val (.int z2), .val (.int y2), .val (.ref id1), .val (.ref id2), .val (.ref bA), .val (.ref bB), .val (.ref bB), .val (.int sh), .val (.int ss), .val (.int sg), .val (.int (1 : Int32)), .unset]) (st := [(.ref bB), (.ref bA)]) hown (hw _ (List.mem_of_getElem? (i := 135) rfl)) (hw _ (List.mem_of_getElem? (i := 136) rfl)) (hw _ (List.mem_of_getElem? (i := 138) rfl)) (hw _ (List.mem_of_getElem? (i := 137) rfl)) (hw _ (List.mem_of_getElem? (i := 139) rfl)) (hw _ (List.mem_of_getElem? (i := 122) rfl)) (by decide) (rm_eqB l Z a0 hw bA bB v1 v2 p1 p2 z2 y2 (.ref id1) (.ref id2) h0 n0 Z0 (own_Hr h1) (own_Hr h2) O_bA O_bB) e0 O_bA.1 pd_6 (hb hby at_268) (by rw [hml]; rfl) (argsL := [(.ref bB)]) (rest := []) rfl rfl rfl (W := 0) (Nat.le_of_eq rfl) (by decide) (by decide) (by decide) (by decide)
    obtain ⟨rfl, M1, e1⟩ := q1
    have N1 := Fr.app N0 M1
    have r1 : (f_eqB bA bB v1 v2 p1 p2 z2 y2 (.ref id1) (.ref id2)) = (1 : Int32) := by rw [f_eqB, if_pos (q1 : v1 = v2), if_pos (q2 : p1 = z2), if_pos (q3 : p2 = y2)]
    rw [r1] at st1
    refine Go.mp st1 ?_
    show Go p e below (T1.setTop (mkF m 271 #[.val (.int p1), .val (.int p2), .val (.int p3), .val (.int p4), .val (.int p5), .val (.int p6), .val (.ref ahb), .val v1, .val v2, .val (.int cs), .val (.int cg), .val (.int kd), .val (.int z2), .val (.int y2), .val (.ref id1), .val (.ref id2), .val (.ref bA), .val (.ref bB), .val (.ref bB), .val (.int sh), .val (.int ss), .val (.int sg), .val (.int (1 : Int32)), .unset] [(.int (1 : Int32))])) _
    refine g_iload X1 hx (hb hby at_271) rfl ?_
    refine g_icmpNo X1 hx (hb hby at_273) (teq ((by decide) : (1 : Int32) = (1 : Int32))).2 ?_
    refine g_aload X1 hx (hb hby at_276) rfl rfl ?_
    refine g_aload X1 hx (hb hby at_278) rfl rfl ?_
    obtain ⟨v2, T2, L2, X2, q2, st2⟩ := own_callV X1 hx hZ (y := (⟨"com/example/watermark/watermark/store/Batch", "equals", "(Ljava/lang/Object;)Z"⟩ : MethodName)) (pc := 280) (Ls := #[.val (.int p1), .val (.int p2), .val (.int p3), .val (.int p4), .val (.int p5), .val (.int p6), .val (.ref ahb), .val v1, .val v2, .val (.int cs), .val (.int cg), .val (.int kd), .val (.int z2), .val (.int y2), .val (.ref id1), .val (.ref id2), .val (.ref bA), .val (.ref bB), .val (.ref bB), .val (.int sh), .val (.int ss), .val (.int sg), .val (.int (1 : Int32)), .unset]) (st := [(.ref bA), (.ref bA)]) hown (hw _ (List.mem_of_getElem? (i := 135) rfl)) (hw _ (List.mem_of_getElem? (i := 136) rfl)) (hw _ (List.mem_of_getElem? (i := 138) rfl)) (hw _ (List.mem_of_getElem? (i := 137) rfl)) (hw _ (List.mem_of_getElem? (i := 139) rfl)) (hw _ (List.mem_of_getElem? (i := 122) rfl)) (by decide) (rm_eqA l Z a0 hw bA v1 p1 p2 (.ref id1) h0 n0 Z0 (own_Hr h1) O_bA) e1 O_bA.1 pd_6 (hb hby at_280) (by rw [hml]; rfl) (argsL := [(.ref bA)]) (rest := []) rfl rfl rfl (W := 0) (Nat.le_of_eq rfl) (by decide) (by decide) (by decide) (by decide)
    obtain ⟨rfl, M2, e2⟩ := q2
    have N2 := Fr.app N1 M2
    have r2 : (f_eqA bA v1 p1 p2 (.ref id1)) = (1 : Int32) := by rw [f_eqA]
    rw [r2] at st2
    refine Go.mp st2 ?_
    show Go p e below (T2.setTop (mkF m 283 #[.val (.int p1), .val (.int p2), .val (.int p3), .val (.int p4), .val (.int p5), .val (.int p6), .val (.ref ahb), .val v1, .val v2, .val (.int cs), .val (.int cg), .val (.int kd), .val (.int z2), .val (.int y2), .val (.ref id1), .val (.ref id2), .val (.ref bA), .val (.ref bB), .val (.ref bB), .val (.int sh), .val (.int ss), .val (.int sg), .val (.int (1 : Int32)), .unset] [(.int (1 : Int32))])) _
    refine g_ifNo X2 hx (hb hby at_283) ((if0 _ _).trans (feq ((by decide) : ¬ ((1 : Int32) = (0 : Int32)))).1) ?_
    refine g_iconst X2 hx (1 : Int32) (hb hby at_286) (by decide) ?_
    refine g_goto X2 hx 291 (hb hby at_287) (by decide) (by decide) ?_
    refine g_istore X2 hx #[.val (.int p1), .val (.int p2), .val (.int p3), .val (.int p4), .val (.int p5), .val (.int p6), .val (.ref ahb), .val v1, .val v2, .val (.int cs), .val (.int cg), .val (.int kd), .val (.int z2), .val (.int y2), .val (.ref id1), .val (.ref id2), .val (.ref bA), .val (.ref bB), .val (.ref bB), .val (.int sh), .val (.int ss), .val (.int sg), .val (.int (1 : Int32)), .val (.int (1 : Int32))] (hb hby at_291) rfl ?_
    refine g_iload X2 hx (hb hby at_293) rfl ?_
    refine g_iconst X2 hx (2 : Int32) (hb hby at_295) (by decide) ?_
    have c296_3 : kd < (2 : Int32) := k1
    refine g_icmpNo X2 hx (hb hby at_296) (tlt c296_3).2.1 ?_
    refine g_iload X2 hx (hb hby at_299) rfl ?_
    refine g_ifNo X2 hx (hb hby at_301) ((if0 _ _).trans (feq ((by decide) : ¬ ((1 : Int32) = (0 : Int32)))).1) ?_
    refine g_aload X2 hx (hb hby at_304) rfl rfl ?_
    refine g_aload X2 hx (hb hby at_306) rfl rfl ?_
    obtain ⟨v4, T4, L4, X4, q4, st4⟩ := own_callV X2 hx hZ (y := (⟨"com/example/watermark/watermark/store/Batch", "equals", "(Ljava/lang/Object;)Z"⟩ : MethodName)) (pc := 308) (Ls := #[.val (.int p1), .val (.int p2), .val (.int p3), .val (.int p4), .val (.int p5), .val (.int p6), .val (.ref ahb), .val v1, .val v2, .val (.int cs), .val (.int cg), .val (.int kd), .val (.int z2), .val (.int y2), .val (.ref id1), .val (.ref id2), .val (.ref bA), .val (.ref bB), .val (.ref bB), .val (.int sh), .val (.int ss), .val (.int sg), .val (.int (1 : Int32)), .val (.int (1 : Int32))]) (st := [(.ref bA), (.ref bB)]) hown (hw _ (List.mem_of_getElem? (i := 135) rfl)) (hw _ (List.mem_of_getElem? (i := 136) rfl)) (hw _ (List.mem_of_getElem? (i := 138) rfl)) (hw _ (List.mem_of_getElem? (i := 137) rfl)) (hw _ (List.mem_of_getElem? (i := 139) rfl)) (hw _ (List.mem_of_getElem? (i := 122) rfl)) (by decide) (rm_eqB l Z a0 hw bB bA v2 v1 z2 y2 p1 p2 (.ref id2) (.ref id1) h0 n0 Z0 (own_Hr h2) (own_Hr h1) O_bB O_bA) e2 O_bB.1 pd_6 (hb hby at_308) (by rw [hml]; rfl) (argsL := [(.ref bA)]) (rest := []) rfl rfl rfl (W := 0) (Nat.le_of_eq rfl) (by decide) (by decide) (by decide) (by decide)
    obtain ⟨rfl, M4, e4⟩ := q4
    have N4 := Fr.app N2 M4
    have r4 : (f_eqB bB bA v2 v1 z2 y2 p1 p2 (.ref id2) (.ref id1)) = (1 : Int32) := by rw [f_eqB, if_pos (q1.symm : v2 = v1), if_pos (q2.symm : z2 = p1), if_pos (q3.symm : y2 = p2)]
    rw [r4] at st4
    refine Go.mp st4 ?_
    show Go p e below (T4.setTop (mkF m 311 #[.val (.int p1), .val (.int p2), .val (.int p3), .val (.int p4), .val (.int p5), .val (.int p6), .val (.ref ahb), .val v1, .val v2, .val (.int cs), .val (.int cg), .val (.int kd), .val (.int z2), .val (.int y2), .val (.ref id1), .val (.ref id2), .val (.ref bA), .val (.ref bB), .val (.ref bB), .val (.int sh), .val (.int ss), .val (.int sg), .val (.int (1 : Int32)), .val (.int (1 : Int32))] [(.int (1 : Int32))])) _
    refine g_iload X4 hx (hb hby at_311) rfl ?_
    refine g_icmpNo X4 hx (hb hby at_313) (teq ((by decide) : (1 : Int32) = (1 : Int32))).2 ?_
    refine g_iconst X4 hx (1 : Int32) (hb hby at_316) (by decide) ?_
    refine g_goto X4 hx 321 (hb hby at_317) (by decide) (by decide) ?_
    refine g_istore X4 hx #[.val (.int p1), .val (.int p2), .val (.int p3), .val (.int p4), .val (.int p5), .val (.int p6), .val (.ref ahb), .val v1, .val v2, .val (.int cs), .val (.int cg), .val (.int kd), .val (.int z2), .val (.int y2), .val (.ref id1), .val (.ref id2), .val (.ref bA), .val (.ref bB), .val (.ref bB), .val (.int sh), .val (.int ss), .val (.int sg), .val (.int (1 : Int32)), .val (.int (1 : Int32))] (hb hby at_321) rfl ?_
    refine g_iload X4 hx (hb hby at_323) rfl ?_
    exact own_retZ X4 hx hret hlk (hb hby at_325) (by decide) (by decide) (by decide) ⟨rfl, N4⟩
  · refine g_aload X0 hx (hb hby at_264) rfl rfl ?_
    refine g_aload X0 hx (hb hby at_266) rfl rfl ?_
    obtain ⟨v5, T5, L5, X5, q5, st5⟩ := own_callV X0 hx hZ (y := (⟨"com/example/watermark/watermark/store/Batch", "equals", "(Ljava/lang/Object;)Z"⟩ : MethodName)) (pc := 268) (Ls := #[.val (.int p1), .val (.int p2), .val (.int p3), .val (.int p4), .val (.int p5), .val (.int p6), .val (.ref ahb), .val v1, .val v2, .val (.int cs), .val (.int cg), .val (.int kd), .val (.int z2), .val (.int y2), .val (.ref id1), .val (.ref id2), .val (.ref bA), .val (.ref bB), .val (.ref bB), .val (.int sh), .val (.int ss), .val (.int sg), .val (.int (0 : Int32)), .unset]) (st := [(.ref bB), (.ref bA)]) hown (hw _ (List.mem_of_getElem? (i := 135) rfl)) (hw _ (List.mem_of_getElem? (i := 136) rfl)) (hw _ (List.mem_of_getElem? (i := 138) rfl)) (hw _ (List.mem_of_getElem? (i := 137) rfl)) (hw _ (List.mem_of_getElem? (i := 139) rfl)) (hw _ (List.mem_of_getElem? (i := 122) rfl)) (by decide) (rm_eqB l Z a0 hw bA bB v1 v2 p1 p2 z2 y2 (.ref id1) (.ref id2) h0 n0 Z0 (own_Hr h1) (own_Hr h2) O_bA O_bB) e0 O_bA.1 pd_6 (hb hby at_268) (by rw [hml]; rfl) (argsL := [(.ref bB)]) (rest := []) rfl rfl rfl (W := 0) (Nat.le_of_eq rfl) (by decide) (by decide) (by decide) (by decide)
    obtain ⟨rfl, M5, e5⟩ := q5
    have N5 := Fr.app N0 M5
    have r5 : (f_eqB bA bB v1 v2 p1 p2 z2 y2 (.ref id1) (.ref id2)) = (0 : Int32) := by rw [f_eqB, if_pos (q1 : v1 = v2), if_pos (q2 : p1 = z2), if_neg (q3 : ¬ (p2 = y2))]
    rw [r5] at st5
    refine Go.mp st5 ?_
    show Go p e below (T5.setTop (mkF m 271 #[.val (.int p1), .val (.int p2), .val (.int p3), .val (.int p4), .val (.int p5), .val (.int p6), .val (.ref ahb), .val v1, .val v2, .val (.int cs), .val (.int cg), .val (.int kd), .val (.int z2), .val (.int y2), .val (.ref id1), .val (.ref id2), .val (.ref bA), .val (.ref bB), .val (.ref bB), .val (.int sh), .val (.int ss), .val (.int sg), .val (.int (0 : Int32)), .unset] [(.int (0 : Int32))])) _
    refine g_iload X5 hx (hb hby at_271) rfl ?_
    refine g_icmpNo X5 hx (hb hby at_273) (teq ((by decide) : (0 : Int32) = (0 : Int32))).2 ?_
    refine g_aload X5 hx (hb hby at_276) rfl rfl ?_
    refine g_aload X5 hx (hb hby at_278) rfl rfl ?_
    obtain ⟨v6, T6, L6, X6, q6, st6⟩ := own_callV X5 hx hZ (y := (⟨"com/example/watermark/watermark/store/Batch", "equals", "(Ljava/lang/Object;)Z"⟩ : MethodName)) (pc := 280) (Ls := #[.val (.int p1), .val (.int p2), .val (.int p3), .val (.int p4), .val (.int p5), .val (.int p6), .val (.ref ahb), .val v1, .val v2, .val (.int cs), .val (.int cg), .val (.int kd), .val (.int z2), .val (.int y2), .val (.ref id1), .val (.ref id2), .val (.ref bA), .val (.ref bB), .val (.ref bB), .val (.int sh), .val (.int ss), .val (.int sg), .val (.int (0 : Int32)), .unset]) (st := [(.ref bA), (.ref bA)]) hown (hw _ (List.mem_of_getElem? (i := 135) rfl)) (hw _ (List.mem_of_getElem? (i := 136) rfl)) (hw _ (List.mem_of_getElem? (i := 138) rfl)) (hw _ (List.mem_of_getElem? (i := 137) rfl)) (hw _ (List.mem_of_getElem? (i := 139) rfl)) (hw _ (List.mem_of_getElem? (i := 122) rfl)) (by decide) (rm_eqA l Z a0 hw bA v1 p1 p2 (.ref id1) h0 n0 Z0 (own_Hr h1) O_bA) e5 O_bA.1 pd_6 (hb hby at_280) (by rw [hml]; rfl) (argsL := [(.ref bA)]) (rest := []) rfl rfl rfl (W := 0) (Nat.le_of_eq rfl) (by decide) (by decide) (by decide) (by decide)
    obtain ⟨rfl, M6, e6⟩ := q6
    have N6 := Fr.app N5 M6
    have r6 : (f_eqA bA v1 p1 p2 (.ref id1)) = (1 : Int32) := by rw [f_eqA]
    rw [r6] at st6
    refine Go.mp st6 ?_
    show Go p e below (T6.setTop (mkF m 283 #[.val (.int p1), .val (.int p2), .val (.int p3), .val (.int p4), .val (.int p5), .val (.int p6), .val (.ref ahb), .val v1, .val v2, .val (.int cs), .val (.int cg), .val (.int kd), .val (.int z2), .val (.int y2), .val (.ref id1), .val (.ref id2), .val (.ref bA), .val (.ref bB), .val (.ref bB), .val (.int sh), .val (.int ss), .val (.int sg), .val (.int (0 : Int32)), .unset] [(.int (1 : Int32))])) _
    refine g_ifNo X6 hx (hb hby at_283) ((if0 _ _).trans (feq ((by decide) : ¬ ((1 : Int32) = (0 : Int32)))).1) ?_
    refine g_iconst X6 hx (1 : Int32) (hb hby at_286) (by decide) ?_
    refine g_goto X6 hx 291 (hb hby at_287) (by decide) (by decide) ?_
    refine g_istore X6 hx #[.val (.int p1), .val (.int p2), .val (.int p3), .val (.int p4), .val (.int p5), .val (.int p6), .val (.ref ahb), .val v1, .val v2, .val (.int cs), .val (.int cg), .val (.int kd), .val (.int z2), .val (.int y2), .val (.ref id1), .val (.ref id2), .val (.ref bA), .val (.ref bB), .val (.ref bB), .val (.int sh), .val (.int ss), .val (.int sg), .val (.int (0 : Int32)), .val (.int (1 : Int32))] (hb hby at_291) rfl ?_
    refine g_iload X6 hx (hb hby at_293) rfl ?_
    refine g_iconst X6 hx (2 : Int32) (hb hby at_295) (by decide) ?_
    have c296_7 : kd < (2 : Int32) := k1
    refine g_icmpNo X6 hx (hb hby at_296) (tlt c296_7).2.1 ?_
    refine g_iload X6 hx (hb hby at_299) rfl ?_
    refine g_ifNo X6 hx (hb hby at_301) ((if0 _ _).trans (feq ((by decide) : ¬ ((1 : Int32) = (0 : Int32)))).1) ?_
    refine g_aload X6 hx (hb hby at_304) rfl rfl ?_
    refine g_aload X6 hx (hb hby at_306) rfl rfl ?_
    obtain ⟨v8, T8, L8, X8, q8, st8⟩ := own_callV X6 hx hZ (y := (⟨"com/example/watermark/watermark/store/Batch", "equals", "(Ljava/lang/Object;)Z"⟩ : MethodName)) (pc := 308) (Ls := #[.val (.int p1), .val (.int p2), .val (.int p3), .val (.int p4), .val (.int p5), .val (.int p6), .val (.ref ahb), .val v1, .val v2, .val (.int cs), .val (.int cg), .val (.int kd), .val (.int z2), .val (.int y2), .val (.ref id1), .val (.ref id2), .val (.ref bA), .val (.ref bB), .val (.ref bB), .val (.int sh), .val (.int ss), .val (.int sg), .val (.int (0 : Int32)), .val (.int (1 : Int32))]) (st := [(.ref bA), (.ref bB)]) hown (hw _ (List.mem_of_getElem? (i := 135) rfl)) (hw _ (List.mem_of_getElem? (i := 136) rfl)) (hw _ (List.mem_of_getElem? (i := 138) rfl)) (hw _ (List.mem_of_getElem? (i := 137) rfl)) (hw _ (List.mem_of_getElem? (i := 139) rfl)) (hw _ (List.mem_of_getElem? (i := 122) rfl)) (by decide) (rm_eqB l Z a0 hw bB bA v2 v1 z2 y2 p1 p2 (.ref id2) (.ref id1) h0 n0 Z0 (own_Hr h2) (own_Hr h1) O_bB O_bA) e6 O_bB.1 pd_6 (hb hby at_308) (by rw [hml]; rfl) (argsL := [(.ref bA)]) (rest := []) rfl rfl rfl (W := 0) (Nat.le_of_eq rfl) (by decide) (by decide) (by decide) (by decide)
    obtain ⟨rfl, M8, e8⟩ := q8
    have N8 := Fr.app N6 M8
    have r8 : (f_eqB bB bA v2 v1 z2 y2 p1 p2 (.ref id2) (.ref id1)) = (0 : Int32) := by rw [f_eqB, if_pos (q1.symm : v2 = v1), if_pos (q2.symm : z2 = p1), if_neg ((fun q => q3 q.symm) : ¬ (y2 = p2))]
    rw [r8] at st8
    refine Go.mp st8 ?_
    show Go p e below (T8.setTop (mkF m 311 #[.val (.int p1), .val (.int p2), .val (.int p3), .val (.int p4), .val (.int p5), .val (.int p6), .val (.ref ahb), .val v1, .val v2, .val (.int cs), .val (.int cg), .val (.int kd), .val (.int z2), .val (.int y2), .val (.ref id1), .val (.ref id2), .val (.ref bA), .val (.ref bB), .val (.ref bB), .val (.int sh), .val (.int ss), .val (.int sg), .val (.int (0 : Int32)), .val (.int (1 : Int32))] [(.int (0 : Int32))])) _
    refine g_iload X8 hx (hb hby at_311) rfl ?_
    refine g_icmpNo X8 hx (hb hby at_313) (teq ((by decide) : (0 : Int32) = (0 : Int32))).2 ?_
    refine g_iconst X8 hx (1 : Int32) (hb hby at_316) (by decide) ?_
    refine g_goto X8 hx 321 (hb hby at_317) (by decide) (by decide) ?_
    refine g_istore X8 hx #[.val (.int p1), .val (.int p2), .val (.int p3), .val (.int p4), .val (.int p5), .val (.int p6), .val (.ref ahb), .val v1, .val v2, .val (.int cs), .val (.int cg), .val (.int kd), .val (.int z2), .val (.int y2), .val (.ref id1), .val (.ref id2), .val (.ref bA), .val (.ref bB), .val (.ref bB), .val (.int sh), .val (.int ss), .val (.int sg), .val (.int (0 : Int32)), .val (.int (1 : Int32))] (hb hby at_321) rfl ?_
    refine g_iload X8 hx (hb hby at_323) rfl ?_
    exact own_retZ X8 hx hret hlk (hb hby at_325) (by decide) (by decide) (by decide) ⟨rfl, N8⟩
  · refine g_aload X0 hx (hb hby at_264) rfl rfl ?_
    refine g_aload X0 hx (hb hby at_266) rfl rfl ?_
    obtain ⟨v9, T9, L9, X9, q9, st9⟩ := own_callV X0 hx hZ (y := (⟨"com/example/watermark/watermark/store/Batch", "equals", "(Ljava/lang/Object;)Z"⟩ : MethodName)) (pc := 268) (Ls := #[.val (.int p1), .val (.int p2), .val (.int p3), .val (.int p4), .val (.int p5), .val (.int p6), .val (.ref ahb), .val v1, .val v2, .val (.int cs), .val (.int cg), .val (.int kd), .val (.int z2), .val (.int y2), .val (.ref id1), .val (.ref id2), .val (.ref bA), .val (.ref bB), .val (.ref bB), .val (.int sh), .val (.int ss), .val (.int sg), .val (.int (0 : Int32)), .unset]) (st := [(.ref bB), (.ref bA)]) hown (hw _ (List.mem_of_getElem? (i := 135) rfl)) (hw _ (List.mem_of_getElem? (i := 136) rfl)) (hw _ (List.mem_of_getElem? (i := 138) rfl)) (hw _ (List.mem_of_getElem? (i := 137) rfl)) (hw _ (List.mem_of_getElem? (i := 139) rfl)) (hw _ (List.mem_of_getElem? (i := 122) rfl)) (by decide) (rm_eqB l Z a0 hw bA bB v1 v2 p1 p2 z2 y2 (.ref id1) (.ref id2) h0 n0 Z0 (own_Hr h1) (own_Hr h2) O_bA O_bB) e0 O_bA.1 pd_6 (hb hby at_268) (by rw [hml]; rfl) (argsL := [(.ref bB)]) (rest := []) rfl rfl rfl (W := 0) (Nat.le_of_eq rfl) (by decide) (by decide) (by decide) (by decide)
    obtain ⟨rfl, M9, e9⟩ := q9
    have N9 := Fr.app N0 M9
    have r9 : (f_eqB bA bB v1 v2 p1 p2 z2 y2 (.ref id1) (.ref id2)) = (0 : Int32) := by rw [f_eqB, if_pos (q1 : v1 = v2), if_neg (q2 : ¬ (p1 = z2))]
    rw [r9] at st9
    refine Go.mp st9 ?_
    show Go p e below (T9.setTop (mkF m 271 #[.val (.int p1), .val (.int p2), .val (.int p3), .val (.int p4), .val (.int p5), .val (.int p6), .val (.ref ahb), .val v1, .val v2, .val (.int cs), .val (.int cg), .val (.int kd), .val (.int z2), .val (.int y2), .val (.ref id1), .val (.ref id2), .val (.ref bA), .val (.ref bB), .val (.ref bB), .val (.int sh), .val (.int ss), .val (.int sg), .val (.int (0 : Int32)), .unset] [(.int (0 : Int32))])) _
    refine g_iload X9 hx (hb hby at_271) rfl ?_
    refine g_icmpNo X9 hx (hb hby at_273) (teq ((by decide) : (0 : Int32) = (0 : Int32))).2 ?_
    refine g_aload X9 hx (hb hby at_276) rfl rfl ?_
    refine g_aload X9 hx (hb hby at_278) rfl rfl ?_
    obtain ⟨v10, T10, L10, X10, q10, st10⟩ := own_callV X9 hx hZ (y := (⟨"com/example/watermark/watermark/store/Batch", "equals", "(Ljava/lang/Object;)Z"⟩ : MethodName)) (pc := 280) (Ls := #[.val (.int p1), .val (.int p2), .val (.int p3), .val (.int p4), .val (.int p5), .val (.int p6), .val (.ref ahb), .val v1, .val v2, .val (.int cs), .val (.int cg), .val (.int kd), .val (.int z2), .val (.int y2), .val (.ref id1), .val (.ref id2), .val (.ref bA), .val (.ref bB), .val (.ref bB), .val (.int sh), .val (.int ss), .val (.int sg), .val (.int (0 : Int32)), .unset]) (st := [(.ref bA), (.ref bA)]) hown (hw _ (List.mem_of_getElem? (i := 135) rfl)) (hw _ (List.mem_of_getElem? (i := 136) rfl)) (hw _ (List.mem_of_getElem? (i := 138) rfl)) (hw _ (List.mem_of_getElem? (i := 137) rfl)) (hw _ (List.mem_of_getElem? (i := 139) rfl)) (hw _ (List.mem_of_getElem? (i := 122) rfl)) (by decide) (rm_eqA l Z a0 hw bA v1 p1 p2 (.ref id1) h0 n0 Z0 (own_Hr h1) O_bA) e9 O_bA.1 pd_6 (hb hby at_280) (by rw [hml]; rfl) (argsL := [(.ref bA)]) (rest := []) rfl rfl rfl (W := 0) (Nat.le_of_eq rfl) (by decide) (by decide) (by decide) (by decide)
    obtain ⟨rfl, M10, e10⟩ := q10
    have N10 := Fr.app N9 M10
    have r10 : (f_eqA bA v1 p1 p2 (.ref id1)) = (1 : Int32) := by rw [f_eqA]
    rw [r10] at st10
    refine Go.mp st10 ?_
    show Go p e below (T10.setTop (mkF m 283 #[.val (.int p1), .val (.int p2), .val (.int p3), .val (.int p4), .val (.int p5), .val (.int p6), .val (.ref ahb), .val v1, .val v2, .val (.int cs), .val (.int cg), .val (.int kd), .val (.int z2), .val (.int y2), .val (.ref id1), .val (.ref id2), .val (.ref bA), .val (.ref bB), .val (.ref bB), .val (.int sh), .val (.int ss), .val (.int sg), .val (.int (0 : Int32)), .unset] [(.int (1 : Int32))])) _
    refine g_ifNo X10 hx (hb hby at_283) ((if0 _ _).trans (feq ((by decide) : ¬ ((1 : Int32) = (0 : Int32)))).1) ?_
    refine g_iconst X10 hx (1 : Int32) (hb hby at_286) (by decide) ?_
    refine g_goto X10 hx 291 (hb hby at_287) (by decide) (by decide) ?_
    refine g_istore X10 hx #[.val (.int p1), .val (.int p2), .val (.int p3), .val (.int p4), .val (.int p5), .val (.int p6), .val (.ref ahb), .val v1, .val v2, .val (.int cs), .val (.int cg), .val (.int kd), .val (.int z2), .val (.int y2), .val (.ref id1), .val (.ref id2), .val (.ref bA), .val (.ref bB), .val (.ref bB), .val (.int sh), .val (.int ss), .val (.int sg), .val (.int (0 : Int32)), .val (.int (1 : Int32))] (hb hby at_291) rfl ?_
    refine g_iload X10 hx (hb hby at_293) rfl ?_
    refine g_iconst X10 hx (2 : Int32) (hb hby at_295) (by decide) ?_
    have c296_11 : kd < (2 : Int32) := k1
    refine g_icmpNo X10 hx (hb hby at_296) (tlt c296_11).2.1 ?_
    refine g_iload X10 hx (hb hby at_299) rfl ?_
    refine g_ifNo X10 hx (hb hby at_301) ((if0 _ _).trans (feq ((by decide) : ¬ ((1 : Int32) = (0 : Int32)))).1) ?_
    refine g_aload X10 hx (hb hby at_304) rfl rfl ?_
    refine g_aload X10 hx (hb hby at_306) rfl rfl ?_
    obtain ⟨v12, T12, L12, X12, q12, st12⟩ := own_callV X10 hx hZ (y := (⟨"com/example/watermark/watermark/store/Batch", "equals", "(Ljava/lang/Object;)Z"⟩ : MethodName)) (pc := 308) (Ls := #[.val (.int p1), .val (.int p2), .val (.int p3), .val (.int p4), .val (.int p5), .val (.int p6), .val (.ref ahb), .val v1, .val v2, .val (.int cs), .val (.int cg), .val (.int kd), .val (.int z2), .val (.int y2), .val (.ref id1), .val (.ref id2), .val (.ref bA), .val (.ref bB), .val (.ref bB), .val (.int sh), .val (.int ss), .val (.int sg), .val (.int (0 : Int32)), .val (.int (1 : Int32))]) (st := [(.ref bA), (.ref bB)]) hown (hw _ (List.mem_of_getElem? (i := 135) rfl)) (hw _ (List.mem_of_getElem? (i := 136) rfl)) (hw _ (List.mem_of_getElem? (i := 138) rfl)) (hw _ (List.mem_of_getElem? (i := 137) rfl)) (hw _ (List.mem_of_getElem? (i := 139) rfl)) (hw _ (List.mem_of_getElem? (i := 122) rfl)) (by decide) (rm_eqB l Z a0 hw bB bA v2 v1 z2 y2 p1 p2 (.ref id2) (.ref id1) h0 n0 Z0 (own_Hr h2) (own_Hr h1) O_bB O_bA) e10 O_bB.1 pd_6 (hb hby at_308) (by rw [hml]; rfl) (argsL := [(.ref bA)]) (rest := []) rfl rfl rfl (W := 0) (Nat.le_of_eq rfl) (by decide) (by decide) (by decide) (by decide)
    obtain ⟨rfl, M12, e12⟩ := q12
    have N12 := Fr.app N10 M12
    have r12 : (f_eqB bB bA v2 v1 z2 y2 p1 p2 (.ref id2) (.ref id1)) = (0 : Int32) := by rw [f_eqB, if_pos (q1.symm : v2 = v1), if_neg ((fun q => q2 q.symm) : ¬ (z2 = p1))]
    rw [r12] at st12
    refine Go.mp st12 ?_
    show Go p e below (T12.setTop (mkF m 311 #[.val (.int p1), .val (.int p2), .val (.int p3), .val (.int p4), .val (.int p5), .val (.int p6), .val (.ref ahb), .val v1, .val v2, .val (.int cs), .val (.int cg), .val (.int kd), .val (.int z2), .val (.int y2), .val (.ref id1), .val (.ref id2), .val (.ref bA), .val (.ref bB), .val (.ref bB), .val (.int sh), .val (.int ss), .val (.int sg), .val (.int (0 : Int32)), .val (.int (1 : Int32))] [(.int (0 : Int32))])) _
    refine g_iload X12 hx (hb hby at_311) rfl ?_
    refine g_icmpNo X12 hx (hb hby at_313) (teq ((by decide) : (0 : Int32) = (0 : Int32))).2 ?_
    refine g_iconst X12 hx (1 : Int32) (hb hby at_316) (by decide) ?_
    refine g_goto X12 hx 321 (hb hby at_317) (by decide) (by decide) ?_
    refine g_istore X12 hx #[.val (.int p1), .val (.int p2), .val (.int p3), .val (.int p4), .val (.int p5), .val (.int p6), .val (.ref ahb), .val v1, .val v2, .val (.int cs), .val (.int cg), .val (.int kd), .val (.int z2), .val (.int y2), .val (.ref id1), .val (.ref id2), .val (.ref bA), .val (.ref bB), .val (.ref bB), .val (.int sh), .val (.int ss), .val (.int sg), .val (.int (0 : Int32)), .val (.int (1 : Int32))] (hb hby at_321) rfl ?_
    refine g_iload X12 hx (hb hby at_323) rfl ?_
    exact own_retZ X12 hx hret hlk (hb hby at_325) (by decide) (by decide) (by decide) ⟨rfl, N12⟩
  · refine g_aload X0 hx (hb hby at_264) rfl rfl ?_
    refine g_aload X0 hx (hb hby at_266) rfl rfl ?_
    obtain ⟨v13, T13, L13, X13, q13, st13⟩ := own_callV X0 hx hZ (y := (⟨"com/example/watermark/watermark/store/Batch", "equals", "(Ljava/lang/Object;)Z"⟩ : MethodName)) (pc := 268) (Ls := #[.val (.int p1), .val (.int p2), .val (.int p3), .val (.int p4), .val (.int p5), .val (.int p6), .val (.ref ahb), .val v1, .val v2, .val (.int cs), .val (.int cg), .val (.int kd), .val (.int z2), .val (.int y2), .val (.ref id1), .val (.ref id2), .val (.ref bA), .val (.ref bB), .val (.ref bB), .val (.int sh), .val (.int ss), .val (.int sg), .val (.int (0 : Int32)), .unset]) (st := [(.ref bB), (.ref bA)]) hown (hw _ (List.mem_of_getElem? (i := 135) rfl)) (hw _ (List.mem_of_getElem? (i := 136) rfl)) (hw _ (List.mem_of_getElem? (i := 138) rfl)) (hw _ (List.mem_of_getElem? (i := 137) rfl)) (hw _ (List.mem_of_getElem? (i := 139) rfl)) (hw _ (List.mem_of_getElem? (i := 122) rfl)) (by decide) (rm_eqB l Z a0 hw bA bB v1 v2 p1 p2 z2 y2 (.ref id1) (.ref id2) h0 n0 Z0 (own_Hr h1) (own_Hr h2) O_bA O_bB) e0 O_bA.1 pd_6 (hb hby at_268) (by rw [hml]; rfl) (argsL := [(.ref bB)]) (rest := []) rfl rfl rfl (W := 0) (Nat.le_of_eq rfl) (by decide) (by decide) (by decide) (by decide)
    obtain ⟨rfl, M13, e13⟩ := q13
    have N13 := Fr.app N0 M13
    have r13 : (f_eqB bA bB v1 v2 p1 p2 z2 y2 (.ref id1) (.ref id2)) = (0 : Int32) := by rw [f_eqB, if_neg (q1 : ¬ (v1 = v2))]
    rw [r13] at st13
    refine Go.mp st13 ?_
    show Go p e below (T13.setTop (mkF m 271 #[.val (.int p1), .val (.int p2), .val (.int p3), .val (.int p4), .val (.int p5), .val (.int p6), .val (.ref ahb), .val v1, .val v2, .val (.int cs), .val (.int cg), .val (.int kd), .val (.int z2), .val (.int y2), .val (.ref id1), .val (.ref id2), .val (.ref bA), .val (.ref bB), .val (.ref bB), .val (.int sh), .val (.int ss), .val (.int sg), .val (.int (0 : Int32)), .unset] [(.int (0 : Int32))])) _
    refine g_iload X13 hx (hb hby at_271) rfl ?_
    refine g_icmpNo X13 hx (hb hby at_273) (teq ((by decide) : (0 : Int32) = (0 : Int32))).2 ?_
    refine g_aload X13 hx (hb hby at_276) rfl rfl ?_
    refine g_aload X13 hx (hb hby at_278) rfl rfl ?_
    obtain ⟨v14, T14, L14, X14, q14, st14⟩ := own_callV X13 hx hZ (y := (⟨"com/example/watermark/watermark/store/Batch", "equals", "(Ljava/lang/Object;)Z"⟩ : MethodName)) (pc := 280) (Ls := #[.val (.int p1), .val (.int p2), .val (.int p3), .val (.int p4), .val (.int p5), .val (.int p6), .val (.ref ahb), .val v1, .val v2, .val (.int cs), .val (.int cg), .val (.int kd), .val (.int z2), .val (.int y2), .val (.ref id1), .val (.ref id2), .val (.ref bA), .val (.ref bB), .val (.ref bB), .val (.int sh), .val (.int ss), .val (.int sg), .val (.int (0 : Int32)), .unset]) (st := [(.ref bA), (.ref bA)]) hown (hw _ (List.mem_of_getElem? (i := 135) rfl)) (hw _ (List.mem_of_getElem? (i := 136) rfl)) (hw _ (List.mem_of_getElem? (i := 138) rfl)) (hw _ (List.mem_of_getElem? (i := 137) rfl)) (hw _ (List.mem_of_getElem? (i := 139) rfl)) (hw _ (List.mem_of_getElem? (i := 122) rfl)) (by decide) (rm_eqA l Z a0 hw bA v1 p1 p2 (.ref id1) h0 n0 Z0 (own_Hr h1) O_bA) e13 O_bA.1 pd_6 (hb hby at_280) (by rw [hml]; rfl) (argsL := [(.ref bA)]) (rest := []) rfl rfl rfl (W := 0) (Nat.le_of_eq rfl) (by decide) (by decide) (by decide) (by decide)
    obtain ⟨rfl, M14, e14⟩ := q14
    have N14 := Fr.app N13 M14
    have r14 : (f_eqA bA v1 p1 p2 (.ref id1)) = (1 : Int32) := by rw [f_eqA]
    rw [r14] at st14
    refine Go.mp st14 ?_
    show Go p e below (T14.setTop (mkF m 283 #[.val (.int p1), .val (.int p2), .val (.int p3), .val (.int p4), .val (.int p5), .val (.int p6), .val (.ref ahb), .val v1, .val v2, .val (.int cs), .val (.int cg), .val (.int kd), .val (.int z2), .val (.int y2), .val (.ref id1), .val (.ref id2), .val (.ref bA), .val (.ref bB), .val (.ref bB), .val (.int sh), .val (.int ss), .val (.int sg), .val (.int (0 : Int32)), .unset] [(.int (1 : Int32))])) _
    refine g_ifNo X14 hx (hb hby at_283) ((if0 _ _).trans (feq ((by decide) : ¬ ((1 : Int32) = (0 : Int32)))).1) ?_
    refine g_iconst X14 hx (1 : Int32) (hb hby at_286) (by decide) ?_
    refine g_goto X14 hx 291 (hb hby at_287) (by decide) (by decide) ?_
    refine g_istore X14 hx #[.val (.int p1), .val (.int p2), .val (.int p3), .val (.int p4), .val (.int p5), .val (.int p6), .val (.ref ahb), .val v1, .val v2, .val (.int cs), .val (.int cg), .val (.int kd), .val (.int z2), .val (.int y2), .val (.ref id1), .val (.ref id2), .val (.ref bA), .val (.ref bB), .val (.ref bB), .val (.int sh), .val (.int ss), .val (.int sg), .val (.int (0 : Int32)), .val (.int (1 : Int32))] (hb hby at_291) rfl ?_
    refine g_iload X14 hx (hb hby at_293) rfl ?_
    refine g_iconst X14 hx (2 : Int32) (hb hby at_295) (by decide) ?_
    have c296_15 : kd < (2 : Int32) := k1
    refine g_icmpNo X14 hx (hb hby at_296) (tlt c296_15).2.1 ?_
    refine g_iload X14 hx (hb hby at_299) rfl ?_
    refine g_ifNo X14 hx (hb hby at_301) ((if0 _ _).trans (feq ((by decide) : ¬ ((1 : Int32) = (0 : Int32)))).1) ?_
    refine g_aload X14 hx (hb hby at_304) rfl rfl ?_
    refine g_aload X14 hx (hb hby at_306) rfl rfl ?_
    obtain ⟨v16, T16, L16, X16, q16, st16⟩ := own_callV X14 hx hZ (y := (⟨"com/example/watermark/watermark/store/Batch", "equals", "(Ljava/lang/Object;)Z"⟩ : MethodName)) (pc := 308) (Ls := #[.val (.int p1), .val (.int p2), .val (.int p3), .val (.int p4), .val (.int p5), .val (.int p6), .val (.ref ahb), .val v1, .val v2, .val (.int cs), .val (.int cg), .val (.int kd), .val (.int z2), .val (.int y2), .val (.ref id1), .val (.ref id2), .val (.ref bA), .val (.ref bB), .val (.ref bB), .val (.int sh), .val (.int ss), .val (.int sg), .val (.int (0 : Int32)), .val (.int (1 : Int32))]) (st := [(.ref bA), (.ref bB)]) hown (hw _ (List.mem_of_getElem? (i := 135) rfl)) (hw _ (List.mem_of_getElem? (i := 136) rfl)) (hw _ (List.mem_of_getElem? (i := 138) rfl)) (hw _ (List.mem_of_getElem? (i := 137) rfl)) (hw _ (List.mem_of_getElem? (i := 139) rfl)) (hw _ (List.mem_of_getElem? (i := 122) rfl)) (by decide) (rm_eqB l Z a0 hw bB bA v2 v1 z2 y2 p1 p2 (.ref id2) (.ref id1) h0 n0 Z0 (own_Hr h2) (own_Hr h1) O_bB O_bA) e14 O_bB.1 pd_6 (hb hby at_308) (by rw [hml]; rfl) (argsL := [(.ref bA)]) (rest := []) rfl rfl rfl (W := 0) (Nat.le_of_eq rfl) (by decide) (by decide) (by decide) (by decide)
    obtain ⟨rfl, M16, e16⟩ := q16
    have N16 := Fr.app N14 M16
    have r16 : (f_eqB bB bA v2 v1 z2 y2 p1 p2 (.ref id2) (.ref id1)) = (0 : Int32) := by rw [f_eqB, if_neg ((fun q => q1 q.symm) : ¬ (v2 = v1))]
    rw [r16] at st16
    refine Go.mp st16 ?_
    show Go p e below (T16.setTop (mkF m 311 #[.val (.int p1), .val (.int p2), .val (.int p3), .val (.int p4), .val (.int p5), .val (.int p6), .val (.ref ahb), .val v1, .val v2, .val (.int cs), .val (.int cg), .val (.int kd), .val (.int z2), .val (.int y2), .val (.ref id1), .val (.ref id2), .val (.ref bA), .val (.ref bB), .val (.ref bB), .val (.int sh), .val (.int ss), .val (.int sg), .val (.int (0 : Int32)), .val (.int (1 : Int32))] [(.int (0 : Int32))])) _
    refine g_iload X16 hx (hb hby at_311) rfl ?_
    refine g_icmpNo X16 hx (hb hby at_313) (teq ((by decide) : (0 : Int32) = (0 : Int32))).2 ?_
    refine g_iconst X16 hx (1 : Int32) (hb hby at_316) (by decide) ?_
    refine g_goto X16 hx 321 (hb hby at_317) (by decide) (by decide) ?_
    refine g_istore X16 hx #[.val (.int p1), .val (.int p2), .val (.int p3), .val (.int p4), .val (.int p5), .val (.int p6), .val (.ref ahb), .val v1, .val v2, .val (.int cs), .val (.int cg), .val (.int kd), .val (.int z2), .val (.int y2), .val (.ref id1), .val (.ref id2), .val (.ref bA), .val (.ref bB), .val (.ref bB), .val (.int sh), .val (.int ss), .val (.int sg), .val (.int (0 : Int32)), .val (.int (1 : Int32))] (hb hby at_321) rfl ?_
    refine g_iload X16 hx (hb hby at_323) rfl ?_
    exact own_retZ X16 hx hret hlk (hb hby at_325) (by decide) (by decide) (by decide) ⟨rfl, N16⟩
  · refine g_aload X0 hx (hb hby at_264) rfl rfl ?_
    refine g_aload X0 hx (hb hby at_266) rfl rfl ?_
    obtain ⟨v17, T17, L17, X17, q17, st17⟩ := own_callV X0 hx hZ (y := (⟨"com/example/watermark/watermark/store/Batch", "equals", "(Ljava/lang/Object;)Z"⟩ : MethodName)) (pc := 268) (Ls := #[.val (.int p1), .val (.int p2), .val (.int p3), .val (.int p4), .val (.int p5), .val (.int p6), .val (.ref ahb), .val v1, .val v2, .val (.int cs), .val (.int cg), .val (.int kd), .val (.int z2), .val (.int y2), .val (.ref id1), .val (.ref id2), .val (.ref bA), .val (.ref bB), .val (.ref id2), .val (.int sh), .val (.int ss), .val (.int sg), .val (.int (0 : Int32)), .unset]) (st := [(.ref id2), (.ref bA)]) hown (hw _ (List.mem_of_getElem? (i := 135) rfl)) (hw _ (List.mem_of_getElem? (i := 136) rfl)) (hw _ (List.mem_of_getElem? (i := 138) rfl)) (hw _ (List.mem_of_getElem? (i := 137) rfl)) (hw _ (List.mem_of_getElem? (i := 139) rfl)) (hw _ (List.mem_of_getElem? (i := 122) rfl)) (by decide) (rm_eqS l Z a0 hw bA id2 h0 n0 Z0 E_id2) e0 O_bA.1 pd_6 (hb hby at_268) (by rw [hml]; rfl) (argsL := [(.ref id2)]) (rest := []) rfl rfl rfl (W := 0) (Nat.le_of_eq rfl) (by decide) (by decide) (by decide) (by decide)
    obtain ⟨rfl, M17, e17⟩ := q17
    have N17 := Fr.app N0 M17
    have r17 : (f_eqS bA id2) = (0 : Int32) := by rw [f_eqS]
    rw [r17] at st17
    refine Go.mp st17 ?_
    show Go p e below (T17.setTop (mkF m 271 #[.val (.int p1), .val (.int p2), .val (.int p3), .val (.int p4), .val (.int p5), .val (.int p6), .val (.ref ahb), .val v1, .val v2, .val (.int cs), .val (.int cg), .val (.int kd), .val (.int z2), .val (.int y2), .val (.ref id1), .val (.ref id2), .val (.ref bA), .val (.ref bB), .val (.ref id2), .val (.int sh), .val (.int ss), .val (.int sg), .val (.int (0 : Int32)), .unset] [(.int (0 : Int32))])) _
    refine g_iload X17 hx (hb hby at_271) rfl ?_
    refine g_icmpNo X17 hx (hb hby at_273) (teq ((by decide) : (0 : Int32) = (0 : Int32))).2 ?_
    refine g_aload X17 hx (hb hby at_276) rfl rfl ?_
    refine g_aload X17 hx (hb hby at_278) rfl rfl ?_
    obtain ⟨v18, T18, L18, X18, q18, st18⟩ := own_callV X17 hx hZ (y := (⟨"com/example/watermark/watermark/store/Batch", "equals", "(Ljava/lang/Object;)Z"⟩ : MethodName)) (pc := 280) (Ls := #[.val (.int p1), .val (.int p2), .val (.int p3), .val (.int p4), .val (.int p5), .val (.int p6), .val (.ref ahb), .val v1, .val v2, .val (.int cs), .val (.int cg), .val (.int kd), .val (.int z2), .val (.int y2), .val (.ref id1), .val (.ref id2), .val (.ref bA), .val (.ref bB), .val (.ref id2), .val (.int sh), .val (.int ss), .val (.int sg), .val (.int (0 : Int32)), .unset]) (st := [(.ref bA), (.ref bA)]) hown (hw _ (List.mem_of_getElem? (i := 135) rfl)) (hw _ (List.mem_of_getElem? (i := 136) rfl)) (hw _ (List.mem_of_getElem? (i := 138) rfl)) (hw _ (List.mem_of_getElem? (i := 137) rfl)) (hw _ (List.mem_of_getElem? (i := 139) rfl)) (hw _ (List.mem_of_getElem? (i := 122) rfl)) (by decide) (rm_eqA l Z a0 hw bA v1 p1 p2 (.ref id1) h0 n0 Z0 (own_Hr h1) O_bA) e17 O_bA.1 pd_6 (hb hby at_280) (by rw [hml]; rfl) (argsL := [(.ref bA)]) (rest := []) rfl rfl rfl (W := 0) (Nat.le_of_eq rfl) (by decide) (by decide) (by decide) (by decide)
    obtain ⟨rfl, M18, e18⟩ := q18
    have N18 := Fr.app N17 M18
    have r18 : (f_eqA bA v1 p1 p2 (.ref id1)) = (1 : Int32) := by rw [f_eqA]
    rw [r18] at st18
    refine Go.mp st18 ?_
    show Go p e below (T18.setTop (mkF m 283 #[.val (.int p1), .val (.int p2), .val (.int p3), .val (.int p4), .val (.int p5), .val (.int p6), .val (.ref ahb), .val v1, .val v2, .val (.int cs), .val (.int cg), .val (.int kd), .val (.int z2), .val (.int y2), .val (.ref id1), .val (.ref id2), .val (.ref bA), .val (.ref bB), .val (.ref id2), .val (.int sh), .val (.int ss), .val (.int sg), .val (.int (0 : Int32)), .unset] [(.int (1 : Int32))])) _
    refine g_ifNo X18 hx (hb hby at_283) ((if0 _ _).trans (feq ((by decide) : ¬ ((1 : Int32) = (0 : Int32)))).1) ?_
    refine g_iconst X18 hx (1 : Int32) (hb hby at_286) (by decide) ?_
    refine g_goto X18 hx 291 (hb hby at_287) (by decide) (by decide) ?_
    refine g_istore X18 hx #[.val (.int p1), .val (.int p2), .val (.int p3), .val (.int p4), .val (.int p5), .val (.int p6), .val (.ref ahb), .val v1, .val v2, .val (.int cs), .val (.int cg), .val (.int kd), .val (.int z2), .val (.int y2), .val (.ref id1), .val (.ref id2), .val (.ref bA), .val (.ref bB), .val (.ref id2), .val (.int sh), .val (.int ss), .val (.int sg), .val (.int (0 : Int32)), .val (.int (1 : Int32))] (hb hby at_291) rfl ?_
    refine g_iload X18 hx (hb hby at_293) rfl ?_
    refine g_iconst X18 hx (2 : Int32) (hb hby at_295) (by decide) ?_
    have c296_19 : ¬ (kd < (2 : Int32)) := k1
    refine g_icmpYes X18 hx 323 (hb hby at_296) (flt c296_19).2.1 (by decide) (by decide) ?_
    refine g_iload X18 hx (hb hby at_323) rfl ?_
    exact own_retZ X18 hx hret hlk (hb hby at_325) (by decide) (by decide) (by decide) ⟨rfl, N18⟩
  · refine g_aload X0 hx (hb hby at_264) rfl rfl ?_
    refine g_aload X0 hx (hb hby at_266) rfl rfl ?_
    obtain ⟨v20, T20, L20, X20, q20, st20⟩ := own_callV X0 hx hZ (y := (⟨"com/example/watermark/watermark/store/Batch", "equals", "(Ljava/lang/Object;)Z"⟩ : MethodName)) (pc := 268) (Ls := #[.val (.int p1), .val (.int p2), .val (.int p3), .val (.int p4), .val (.int p5), .val (.int p6), .val (.ref ahb), .val v1, .val v2, .val (.int cs), .val (.int cg), .val (.int kd), .val (.int z2), .val (.int y2), .val (.ref id1), .val (.ref id2), .val (.ref bA), .val (.ref bB), .val .null, .val (.int sh), .val (.int ss), .val (.int sg), .val (.int (0 : Int32)), .unset]) (st := [.null, (.ref bA)]) hown (hw _ (List.mem_of_getElem? (i := 135) rfl)) (hw _ (List.mem_of_getElem? (i := 136) rfl)) (hw _ (List.mem_of_getElem? (i := 138) rfl)) (hw _ (List.mem_of_getElem? (i := 137) rfl)) (hw _ (List.mem_of_getElem? (i := 139) rfl)) (hw _ (List.mem_of_getElem? (i := 122) rfl)) (by decide) (rm_eqN l Z a0 hw bA h0 n0 Z0 ) e0 O_bA.1 pd_6 (hb hby at_268) (by rw [hml]; rfl) (argsL := [.null]) (rest := []) rfl rfl rfl (W := 0) (Nat.le_of_eq rfl) (by decide) (by decide) (by decide) (by decide)
    obtain ⟨rfl, M20, e20⟩ := q20
    have N20 := Fr.app N0 M20
    have r20 : (f_eqN bA) = (0 : Int32) := by rw [f_eqN]
    rw [r20] at st20
    refine Go.mp st20 ?_
    show Go p e below (T20.setTop (mkF m 271 #[.val (.int p1), .val (.int p2), .val (.int p3), .val (.int p4), .val (.int p5), .val (.int p6), .val (.ref ahb), .val v1, .val v2, .val (.int cs), .val (.int cg), .val (.int kd), .val (.int z2), .val (.int y2), .val (.ref id1), .val (.ref id2), .val (.ref bA), .val (.ref bB), .val .null, .val (.int sh), .val (.int ss), .val (.int sg), .val (.int (0 : Int32)), .unset] [(.int (0 : Int32))])) _
    refine g_iload X20 hx (hb hby at_271) rfl ?_
    refine g_icmpNo X20 hx (hb hby at_273) (teq ((by decide) : (0 : Int32) = (0 : Int32))).2 ?_
    refine g_aload X20 hx (hb hby at_276) rfl rfl ?_
    refine g_aload X20 hx (hb hby at_278) rfl rfl ?_
    obtain ⟨v21, T21, L21, X21, q21, st21⟩ := own_callV X20 hx hZ (y := (⟨"com/example/watermark/watermark/store/Batch", "equals", "(Ljava/lang/Object;)Z"⟩ : MethodName)) (pc := 280) (Ls := #[.val (.int p1), .val (.int p2), .val (.int p3), .val (.int p4), .val (.int p5), .val (.int p6), .val (.ref ahb), .val v1, .val v2, .val (.int cs), .val (.int cg), .val (.int kd), .val (.int z2), .val (.int y2), .val (.ref id1), .val (.ref id2), .val (.ref bA), .val (.ref bB), .val .null, .val (.int sh), .val (.int ss), .val (.int sg), .val (.int (0 : Int32)), .unset]) (st := [(.ref bA), (.ref bA)]) hown (hw _ (List.mem_of_getElem? (i := 135) rfl)) (hw _ (List.mem_of_getElem? (i := 136) rfl)) (hw _ (List.mem_of_getElem? (i := 138) rfl)) (hw _ (List.mem_of_getElem? (i := 137) rfl)) (hw _ (List.mem_of_getElem? (i := 139) rfl)) (hw _ (List.mem_of_getElem? (i := 122) rfl)) (by decide) (rm_eqA l Z a0 hw bA v1 p1 p2 (.ref id1) h0 n0 Z0 (own_Hr h1) O_bA) e20 O_bA.1 pd_6 (hb hby at_280) (by rw [hml]; rfl) (argsL := [(.ref bA)]) (rest := []) rfl rfl rfl (W := 0) (Nat.le_of_eq rfl) (by decide) (by decide) (by decide) (by decide)
    obtain ⟨rfl, M21, e21⟩ := q21
    have N21 := Fr.app N20 M21
    have r21 : (f_eqA bA v1 p1 p2 (.ref id1)) = (1 : Int32) := by rw [f_eqA]
    rw [r21] at st21
    refine Go.mp st21 ?_
    show Go p e below (T21.setTop (mkF m 283 #[.val (.int p1), .val (.int p2), .val (.int p3), .val (.int p4), .val (.int p5), .val (.int p6), .val (.ref ahb), .val v1, .val v2, .val (.int cs), .val (.int cg), .val (.int kd), .val (.int z2), .val (.int y2), .val (.ref id1), .val (.ref id2), .val (.ref bA), .val (.ref bB), .val .null, .val (.int sh), .val (.int ss), .val (.int sg), .val (.int (0 : Int32)), .unset] [(.int (1 : Int32))])) _
    refine g_ifNo X21 hx (hb hby at_283) ((if0 _ _).trans (feq ((by decide) : ¬ ((1 : Int32) = (0 : Int32)))).1) ?_
    refine g_iconst X21 hx (1 : Int32) (hb hby at_286) (by decide) ?_
    refine g_goto X21 hx 291 (hb hby at_287) (by decide) (by decide) ?_
    refine g_istore X21 hx #[.val (.int p1), .val (.int p2), .val (.int p3), .val (.int p4), .val (.int p5), .val (.int p6), .val (.ref ahb), .val v1, .val v2, .val (.int cs), .val (.int cg), .val (.int kd), .val (.int z2), .val (.int y2), .val (.ref id1), .val (.ref id2), .val (.ref bA), .val (.ref bB), .val .null, .val (.int sh), .val (.int ss), .val (.int sg), .val (.int (0 : Int32)), .val (.int (1 : Int32))] (hb hby at_291) rfl ?_
    refine g_iload X21 hx (hb hby at_293) rfl ?_
    refine g_iconst X21 hx (2 : Int32) (hb hby at_295) (by decide) ?_
    have c296_22 : ¬ (kd < (2 : Int32)) := k1
    refine g_icmpYes X21 hx 323 (hb hby at_296) (flt c296_22).2.1 (by decide) (by decide) ?_
    refine g_iload X21 hx (hb hby at_323) rfl ?_
    exact own_retZ X21 hx hret hlk (hb hby at_325) (by decide) (by decide) (by decide) ⟨rfl, N21⟩
set_option maxRecDepth 65536 in
set_option maxHeartbeats 40000000 in
theorem seg_10 (l : Launch) (Z : State) (a0 : Array Value) (hw : ∀ d ∈ tables_1, d.before a0 Z = true) (p1 : Int32) (p2 : Int32) (p3 : Int32) (p4 : Int32) (p5 : Int32) (p6 : Int32) (ahb : Addr) (zc : Int32) (v1 : Value) (v2 : Value) (cs : Int32) (cg : Int32) (kd : Int32) (z2 : Int32) (y2 : Int32) (id1 : Addr) (id2 : Addr) (bA : Addr) (bB : Addr) (o : Value) (sh : Int32) (ss : Int32) (sg : Int32) (h0 : Heap) (n0 : Nat) (Z0 : n0 ≤ h0.size) (h1 : own_H ahb (p5 &&& (1 : Int32)) v1) (h2 : own_H ahb (p5 &&& (2 : Int32)) v2) (hs2 : (¬ cs = (0 : Int32) ∧ p1 = z2) ∨ (cs = (0 : Int32) ∧ p3 = z2)) (hg2 : (¬ cg = (0 : Int32) ∧ p2 = y2) ∨ (cg = (0 : Int32) ∧ p4 = y2)) (hk : own_K kd o bB id2) (O_bA : R_BA Z h0 bA v1 (.int p1) (.int p2) (.ref id1)) (O_bB : R_BA Z h0 bB v2 (.int z2) (.int y2) (.ref id2)) (E_id2 : Exa Z h0 id2 "java/lang/String") (hsh : own_S sh (v1 = v2)) (hss : own_S ss (p1 = z2)) (hsg : own_S sg (p2 = y2)) {p : Program} {e : Env} {s : State} {m : MethodId} {below : List Frame} {meth : Method} {c : Code} {args : Array Value} {s₁ : State} {lo : List Loc} (hx : p.tables.exec = Jvm.exec) (hby : c.code = code) (hml : c.maxLocals = maxLocals) (hown : s.vm.findClass "com/example/watermark/watermark/store/BatchEqualsPinLaw" = some m.cls) (hnm : meth.name = "law") (hret : meth.sig.returnType = ret) (hlk : meth.locks = false) (hZ : Z.Warmed39 s.vm) (X0 : Stand p l e room_1 s m args below meth c s₁ lo 284 824) (e0 : s₁.heap = h0) (N0 : Fr n0 lo) :
    Go p e below (s₁.setTop (mkF m 236 #[.val (.int p1), .val (.int p2), .val (.int p3), .val (.int p4), .val (.int p5), .val (.int p6), .val (.ref ahb), .val v1, .val v2, .val (.int cs), .val (.int cg), .val (.int kd), .val (.int z2), .val (.int y2), .val (.ref id1), .val (.ref id2), .val (.ref bA), .val (.ref bB), .val o, .val (.int sh), .val (.int ss), .val (.int sg), .unset, .unset] [])) (FinE s room_1.cells room_1.slots (fun v h L => v = some (.int 1) ∧ Fr n0 L)) := by
  show Go p e below (s₁.setTop (mkF m 236 #[.val (.int p1), .val (.int p2), .val (.int p3), .val (.int p4), .val (.int p5), .val (.int p6), .val (.ref ahb), .val v1, .val v2, .val (.int cs), .val (.int cg), .val (.int kd), .val (.int z2), .val (.int y2), .val (.ref id1), .val (.ref id2), .val (.ref bA), .val (.ref bB), .val o, .val (.int sh), .val (.int ss), .val (.int sg), .unset, .unset] [])) _
  refine g_iload X0 hx (hb hby at_236) rfl ?_
  refine g_iconst X0 hx (2 : Int32) (hb hby at_238) (by decide) ?_
  by_cases c239_1 : kd < (2 : Int32)
  · refine g_icmpNo X0 hx (hb hby at_239) (tlt c239_1).2.1 ?_
    refine g_iload X0 hx (hb hby at_242) rfl ?_
    by_cases c244_2 : sh = (0 : Int32)
    · refine g_ifYes X0 hx 261 (hb hby at_244) ((if0 _ _).trans (teq c244_2).1) (by decide) (by decide) ?_
      refine g_iconst X0 hx (0 : Int32) (hb hby at_261) (by decide) ?_
      refine g_istore X0 hx #[.val (.int p1), .val (.int p2), .val (.int p3), .val (.int p4), .val (.int p5), .val (.int p6), .val (.ref ahb), .val v1, .val v2, .val (.int cs), .val (.int cg), .val (.int kd), .val (.int z2), .val (.int y2), .val (.ref id1), .val (.ref id2), .val (.ref bA), .val (.ref bB), .val o, .val (.int sh), .val (.int ss), .val (.int sg), .val (.int (0 : Int32)), .unset] (hb hby at_262) rfl ?_
      show Go p e below (s₁.setTop (mkF m 264 #[.val (.int p1), .val (.int p2), .val (.int p3), .val (.int p4), .val (.int p5), .val (.int p6), .val (.ref ahb), .val v1, .val v2, .val (.int cs), .val (.int cg), .val (.int kd), .val (.int z2), .val (.int y2), .val (.ref id1), .val (.ref id2), .val (.ref bA), .val (.ref bB), .val o, .val (.int sh), .val (.int ss), .val (.int sg), .val (.int (0 : Int32)), .unset] [])) _
      exact seg_11 l Z a0 hw p1 p2 p3 p4 p5 p6 ahb zc v1 v2 cs cg kd z2 y2 id1 id2 bA bB o sh ss sg (0 : Int32) h0 n0 Z0 h1 h2 hs2 hg2 hk O_bA O_bB E_id2 hsh hss hsg (Or.inl ⟨c239_1, Or.inr ⟨rfl, fun q => ((hsh.resolve_left (fun q => (by decide : ¬ (1 : Int32) = 0) (q.1.symm.trans c244_2))).2) q.1⟩⟩) hx hby hml hown hnm hret hlk hZ X0 e0 N0
    · refine g_ifNo X0 hx (hb hby at_244) ((if0 _ _).trans (feq c244_2).1) ?_
      refine g_iload X0 hx (hb hby at_247) rfl ?_
      by_cases c249_3 : ss = (0 : Int32)
      · refine g_ifYes X0 hx 261 (hb hby at_249) ((if0 _ _).trans (teq c249_3).1) (by decide) (by decide) ?_
        refine g_iconst X0 hx (0 : Int32) (hb hby at_261) (by decide) ?_
        refine g_istore X0 hx #[.val (.int p1), .val (.int p2), .val (.int p3), .val (.int p4), .val (.int p5), .val (.int p6), .val (.ref ahb), .val v1, .val v2, .val (.int cs), .val (.int cg), .val (.int kd), .val (.int z2), .val (.int y2), .val (.ref id1), .val (.ref id2), .val (.ref bA), .val (.ref bB), .val o, .val (.int sh), .val (.int ss), .val (.int sg), .val (.int (0 : Int32)), .unset] (hb hby at_262) rfl ?_
        show Go p e below (s₁.setTop (mkF m 264 #[.val (.int p1), .val (.int p2), .val (.int p3), .val (.int p4), .val (.int p5), .val (.int p6), .val (.ref ahb), .val v1, .val v2, .val (.int cs), .val (.int cg), .val (.int kd), .val (.int z2), .val (.int y2), .val (.ref id1), .val (.ref id2), .val (.ref bA), .val (.ref bB), .val o, .val (.int sh), .val (.int ss), .val (.int sg), .val (.int (0 : Int32)), .unset] [])) _
        exact seg_11 l Z a0 hw p1 p2 p3 p4 p5 p6 ahb zc v1 v2 cs cg kd z2 y2 id1 id2 bA bB o sh ss sg (0 : Int32) h0 n0 Z0 h1 h2 hs2 hg2 hk O_bA O_bB E_id2 hsh hss hsg (Or.inl ⟨c239_1, Or.inr ⟨rfl, fun q => ((hss.resolve_left (fun q => (by decide : ¬ (1 : Int32) = 0) (q.1.symm.trans c249_3))).2) q.2.1⟩⟩) hx hby hml hown hnm hret hlk hZ X0 e0 N0
      · refine g_ifNo X0 hx (hb hby at_249) ((if0 _ _).trans (feq c249_3).1) ?_
        refine g_iload X0 hx (hb hby at_252) rfl ?_
        by_cases c254_4 : sg = (0 : Int32)
        · refine g_ifYes X0 hx 261 (hb hby at_254) ((if0 _ _).trans (teq c254_4).1) (by decide) (by decide) ?_
          refine g_iconst X0 hx (0 : Int32) (hb hby at_261) (by decide) ?_
          refine g_istore X0 hx #[.val (.int p1), .val (.int p2), .val (.int p3), .val (.int p4), .val (.int p5), .val (.int p6), .val (.ref ahb), .val v1, .val v2, .val (.int cs), .val (.int cg), .val (.int kd), .val (.int z2), .val (.int y2), .val (.ref id1), .val (.ref id2), .val (.ref bA), .val (.ref bB), .val o, .val (.int sh), .val (.int ss), .val (.int sg), .val (.int (0 : Int32)), .unset] (hb hby at_262) rfl ?_
          show Go p e below (s₁.setTop (mkF m 264 #[.val (.int p1), .val (.int p2), .val (.int p3), .val (.int p4), .val (.int p5), .val (.int p6), .val (.ref ahb), .val v1, .val v2, .val (.int cs), .val (.int cg), .val (.int kd), .val (.int z2), .val (.int y2), .val (.ref id1), .val (.ref id2), .val (.ref bA), .val (.ref bB), .val o, .val (.int sh), .val (.int ss), .val (.int sg), .val (.int (0 : Int32)), .unset] [])) _
          exact seg_11 l Z a0 hw p1 p2 p3 p4 p5 p6 ahb zc v1 v2 cs cg kd z2 y2 id1 id2 bA bB o sh ss sg (0 : Int32) h0 n0 Z0 h1 h2 hs2 hg2 hk O_bA O_bB E_id2 hsh hss hsg (Or.inl ⟨c239_1, Or.inr ⟨rfl, fun q => ((hsg.resolve_left (fun q => (by decide : ¬ (1 : Int32) = 0) (q.1.symm.trans c254_4))).2) q.2.2⟩⟩) hx hby hml hown hnm hret hlk hZ X0 e0 N0
        · refine g_ifNo X0 hx (hb hby at_254) ((if0 _ _).trans (feq c254_4).1) ?_
          refine g_iconst X0 hx (1 : Int32) (hb hby at_257) (by decide) ?_
          refine g_goto X0 hx 262 (hb hby at_258) (by decide) (by decide) ?_
          refine g_istore X0 hx #[.val (.int p1), .val (.int p2), .val (.int p3), .val (.int p4), .val (.int p5), .val (.int p6), .val (.ref ahb), .val v1, .val v2, .val (.int cs), .val (.int cg), .val (.int kd), .val (.int z2), .val (.int y2), .val (.ref id1), .val (.ref id2), .val (.ref bA), .val (.ref bB), .val o, .val (.int sh), .val (.int ss), .val (.int sg), .val (.int (1 : Int32)), .unset] (hb hby at_262) rfl ?_
          show Go p e below (s₁.setTop (mkF m 264 #[.val (.int p1), .val (.int p2), .val (.int p3), .val (.int p4), .val (.int p5), .val (.int p6), .val (.ref ahb), .val v1, .val v2, .val (.int cs), .val (.int cg), .val (.int kd), .val (.int z2), .val (.int y2), .val (.ref id1), .val (.ref id2), .val (.ref bA), .val (.ref bB), .val o, .val (.int sh), .val (.int ss), .val (.int sg), .val (.int (1 : Int32)), .unset] [])) _
          exact seg_11 l Z a0 hw p1 p2 p3 p4 p5 p6 ahb zc v1 v2 cs cg kd z2 y2 id1 id2 bA bB o sh ss sg (1 : Int32) h0 n0 Z0 h1 h2 hs2 hg2 hk O_bA O_bB E_id2 hsh hss hsg (Or.inl ⟨c239_1, Or.inl ⟨rfl, ((hsh.resolve_right (fun q => c244_2 q.1)).2), ((hss.resolve_right (fun q => c249_3 q.1)).2), ((hsg.resolve_right (fun q => c254_4 q.1)).2)⟩⟩) hx hby hml hown hnm hret hlk hZ X0 e0 N0
  · refine g_icmpYes X0 hx 261 (hb hby at_239) (flt c239_1).2.1 (by decide) (by decide) ?_
    refine g_iconst X0 hx (0 : Int32) (hb hby at_261) (by decide) ?_
    refine g_istore X0 hx #[.val (.int p1), .val (.int p2), .val (.int p3), .val (.int p4), .val (.int p5), .val (.int p6), .val (.ref ahb), .val v1, .val v2, .val (.int cs), .val (.int cg), .val (.int kd), .val (.int z2), .val (.int y2), .val (.ref id1), .val (.ref id2), .val (.ref bA), .val (.ref bB), .val o, .val (.int sh), .val (.int ss), .val (.int sg), .val (.int (0 : Int32)), .unset] (hb hby at_262) rfl ?_
    show Go p e below (s₁.setTop (mkF m 264 #[.val (.int p1), .val (.int p2), .val (.int p3), .val (.int p4), .val (.int p5), .val (.int p6), .val (.ref ahb), .val v1, .val v2, .val (.int cs), .val (.int cg), .val (.int kd), .val (.int z2), .val (.int y2), .val (.ref id1), .val (.ref id2), .val (.ref bA), .val (.ref bB), .val o, .val (.int sh), .val (.int ss), .val (.int sg), .val (.int (0 : Int32)), .unset] [])) _
    exact seg_11 l Z a0 hw p1 p2 p3 p4 p5 p6 ahb zc v1 v2 cs cg kd z2 y2 id1 id2 bA bB o sh ss sg (0 : Int32) h0 n0 Z0 h1 h2 hs2 hg2 hk O_bA O_bB E_id2 hsh hss hsg (Or.inr ⟨c239_1, rfl⟩) hx hby hml hown hnm hret hlk hZ X0 e0 N0
set_option maxRecDepth 65536 in
set_option maxHeartbeats 40000000 in
theorem seg_9 (l : Launch) (Z : State) (a0 : Array Value) (hw : ∀ d ∈ tables_1, d.before a0 Z = true) (p1 : Int32) (p2 : Int32) (p3 : Int32) (p4 : Int32) (p5 : Int32) (p6 : Int32) (ahb : Addr) (zc : Int32) (v1 : Value) (v2 : Value) (cs : Int32) (cg : Int32) (kd : Int32) (z2 : Int32) (y2 : Int32) (id1 : Addr) (id2 : Addr) (bA : Addr) (bB : Addr) (o : Value) (sh : Int32) (ss : Int32) (h0 : Heap) (n0 : Nat) (Z0 : n0 ≤ h0.size) (h1 : own_H ahb (p5 &&& (1 : Int32)) v1) (h2 : own_H ahb (p5 &&& (2 : Int32)) v2) (hs2 : (¬ cs = (0 : Int32) ∧ p1 = z2) ∨ (cs = (0 : Int32) ∧ p3 = z2)) (hg2 : (¬ cg = (0 : Int32) ∧ p2 = y2) ∨ (cg = (0 : Int32) ∧ p4 = y2)) (hk : own_K kd o bB id2) (O_bA : R_BA Z h0 bA v1 (.int p1) (.int p2) (.ref id1)) (O_bB : R_BA Z h0 bB v2 (.int z2) (.int y2) (.ref id2)) (E_id2 : Exa Z h0 id2 "java/lang/String") (hsh : own_S sh (v1 = v2)) (hss : own_S ss (p1 = z2)) {p : Program} {e : Env} {s : State} {m : MethodId} {below : List Frame} {meth : Method} {c : Code} {args : Array Value} {s₁ : State} {lo : List Loc} (hx : p.tables.exec = Jvm.exec) (hby : c.code = code) (hml : c.maxLocals = maxLocals) (hown : s.vm.findClass "com/example/watermark/watermark/store/BatchEqualsPinLaw" = some m.cls) (hnm : meth.name = "law") (hret : meth.sig.returnType = ret) (hlk : meth.locks = false) (hZ : Z.Warmed39 s.vm) (X0 : Stand p l e room_1 s m args below meth c s₁ lo 284 824) (e0 : s₁.heap = h0) (N0 : Fr n0 lo) :
    Go p e below (s₁.setTop (mkF m 219 #[.val (.int p1), .val (.int p2), .val (.int p3), .val (.int p4), .val (.int p5), .val (.int p6), .val (.ref ahb), .val v1, .val v2, .val (.int cs), .val (.int cg), .val (.int kd), .val (.int z2), .val (.int y2), .val (.ref id1), .val (.ref id2), .val (.ref bA), .val (.ref bB), .val o, .val (.int sh), .val (.int ss), .unset, .unset, .unset] [])) (FinE s room_1.cells room_1.slots (fun v h L => v = some (.int 1) ∧ Fr n0 L)) := by
  show Go p e below (s₁.setTop (mkF m 219 #[.val (.int p1), .val (.int p2), .val (.int p3), .val (.int p4), .val (.int p5), .val (.int p6), .val (.ref ahb), .val v1, .val v2, .val (.int cs), .val (.int cg), .val (.int kd), .val (.int z2), .val (.int y2), .val (.ref id1), .val (.ref id2), .val (.ref bA), .val (.ref bB), .val o, .val (.int sh), .val (.int ss), .unset, .unset, .unset] [])) _
  refine g_iload X0 hx (hb hby at_219) rfl ?_
  by_cases c221_1 : cg = (0 : Int32)
  · refine g_ifNo X0 hx (hb hby at_221) ((if0 _ _).trans (teq c221_1).2) ?_
    refine g_iloadN X0 hx (hb hby at_224) rfl ?_
    refine g_iloadN X0 hx (hb hby at_225) rfl ?_
    by_cases c226_2 : p2 = p4
    · refine g_icmpNo X0 hx (hb hby at_226) (teq c226_2).2 ?_
      refine g_iconst X0 hx (1 : Int32) (hb hby at_229) (by decide) ?_
      refine g_goto X0 hx 234 (hb hby at_230) (by decide) (by decide) ?_
      refine g_istore X0 hx #[.val (.int p1), .val (.int p2), .val (.int p3), .val (.int p4), .val (.int p5), .val (.int p6), .val (.ref ahb), .val v1, .val v2, .val (.int cs), .val (.int cg), .val (.int kd), .val (.int z2), .val (.int y2), .val (.ref id1), .val (.ref id2), .val (.ref bA), .val (.ref bB), .val o, .val (.int sh), .val (.int ss), .val (.int (1 : Int32)), .unset, .unset] (hb hby at_234) rfl ?_
      show Go p e below (s₁.setTop (mkF m 236 #[.val (.int p1), .val (.int p2), .val (.int p3), .val (.int p4), .val (.int p5), .val (.int p6), .val (.ref ahb), .val v1, .val v2, .val (.int cs), .val (.int cg), .val (.int kd), .val (.int z2), .val (.int y2), .val (.ref id1), .val (.ref id2), .val (.ref bA), .val (.ref bB), .val o, .val (.int sh), .val (.int ss), .val (.int (1 : Int32)), .unset, .unset] [])) _
      exact seg_10 l Z a0 hw p1 p2 p3 p4 p5 p6 ahb zc v1 v2 cs cg kd z2 y2 id1 id2 bA bB o sh ss (1 : Int32) h0 n0 Z0 h1 h2 hs2 hg2 hk O_bA O_bB E_id2 hsh hss (Or.inl ⟨rfl, c226_2.trans (hg2.resolve_left (fun q => q.1 c221_1)).2⟩) hx hby hml hown hnm hret hlk hZ X0 e0 N0
    · refine g_icmpYes X0 hx 233 (hb hby at_226) (feq c226_2).2 (by decide) (by decide) ?_
      refine g_iconst X0 hx (0 : Int32) (hb hby at_233) (by decide) ?_
      refine g_istore X0 hx #[.val (.int p1), .val (.int p2), .val (.int p3), .val (.int p4), .val (.int p5), .val (.int p6), .val (.ref ahb), .val v1, .val v2, .val (.int cs), .val (.int cg), .val (.int kd), .val (.int z2), .val (.int y2), .val (.ref id1), .val (.ref id2), .val (.ref bA), .val (.ref bB), .val o, .val (.int sh), .val (.int ss), .val (.int (0 : Int32)), .unset, .unset] (hb hby at_234) rfl ?_
      show Go p e below (s₁.setTop (mkF m 236 #[.val (.int p1), .val (.int p2), .val (.int p3), .val (.int p4), .val (.int p5), .val (.int p6), .val (.ref ahb), .val v1, .val v2, .val (.int cs), .val (.int cg), .val (.int kd), .val (.int z2), .val (.int y2), .val (.ref id1), .val (.ref id2), .val (.ref bA), .val (.ref bB), .val o, .val (.int sh), .val (.int ss), .val (.int (0 : Int32)), .unset, .unset] [])) _
      exact seg_10 l Z a0 hw p1 p2 p3 p4 p5 p6 ahb zc v1 v2 cs cg kd z2 y2 id1 id2 bA bB o sh ss (0 : Int32) h0 n0 Z0 h1 h2 hs2 hg2 hk O_bA O_bB E_id2 hsh hss (Or.inr ⟨rfl, fun q => c226_2 (q.trans (hg2.resolve_left (fun q => q.1 c221_1)).2.symm)⟩) hx hby hml hown hnm hret hlk hZ X0 e0 N0
  · refine g_ifYes X0 hx 229 (hb hby at_221) ((if0 _ _).trans (feq c221_1).2) (by decide) (by decide) ?_
    refine g_iconst X0 hx (1 : Int32) (hb hby at_229) (by decide) ?_
    refine g_goto X0 hx 234 (hb hby at_230) (by decide) (by decide) ?_
    refine g_istore X0 hx #[.val (.int p1), .val (.int p2), .val (.int p3), .val (.int p4), .val (.int p5), .val (.int p6), .val (.ref ahb), .val v1, .val v2, .val (.int cs), .val (.int cg), .val (.int kd), .val (.int z2), .val (.int y2), .val (.ref id1), .val (.ref id2), .val (.ref bA), .val (.ref bB), .val o, .val (.int sh), .val (.int ss), .val (.int (1 : Int32)), .unset, .unset] (hb hby at_234) rfl ?_
    show Go p e below (s₁.setTop (mkF m 236 #[.val (.int p1), .val (.int p2), .val (.int p3), .val (.int p4), .val (.int p5), .val (.int p6), .val (.ref ahb), .val v1, .val v2, .val (.int cs), .val (.int cg), .val (.int kd), .val (.int z2), .val (.int y2), .val (.ref id1), .val (.ref id2), .val (.ref bA), .val (.ref bB), .val o, .val (.int sh), .val (.int ss), .val (.int (1 : Int32)), .unset, .unset] [])) _
    exact seg_10 l Z a0 hw p1 p2 p3 p4 p5 p6 ahb zc v1 v2 cs cg kd z2 y2 id1 id2 bA bB o sh ss (1 : Int32) h0 n0 Z0 h1 h2 hs2 hg2 hk O_bA O_bB E_id2 hsh hss (Or.inl ⟨rfl, (hg2.resolve_right (fun q => c221_1 q.1)).2⟩) hx hby hml hown hnm hret hlk hZ X0 e0 N0
set_option maxRecDepth 65536 in
set_option maxHeartbeats 40000000 in
theorem seg_8 (l : Launch) (Z : State) (a0 : Array Value) (hw : ∀ d ∈ tables_1, d.before a0 Z = true) (p1 : Int32) (p2 : Int32) (p3 : Int32) (p4 : Int32) (p5 : Int32) (p6 : Int32) (ahb : Addr) (zc : Int32) (v1 : Value) (v2 : Value) (cs : Int32) (cg : Int32) (kd : Int32) (z2 : Int32) (y2 : Int32) (id1 : Addr) (id2 : Addr) (bA : Addr) (bB : Addr) (o : Value) (sh : Int32) (h0 : Heap) (n0 : Nat) (Z0 : n0 ≤ h0.size) (h1 : own_H ahb (p5 &&& (1 : Int32)) v1) (h2 : own_H ahb (p5 &&& (2 : Int32)) v2) (hs2 : (¬ cs = (0 : Int32) ∧ p1 = z2) ∨ (cs = (0 : Int32) ∧ p3 = z2)) (hg2 : (¬ cg = (0 : Int32) ∧ p2 = y2) ∨ (cg = (0 : Int32) ∧ p4 = y2)) (hk : own_K kd o bB id2) (O_bA : R_BA Z h0 bA v1 (.int p1) (.int p2) (.ref id1)) (O_bB : R_BA Z h0 bB v2 (.int z2) (.int y2) (.ref id2)) (E_id2 : Exa Z h0 id2 "java/lang/String") (hsh : own_S sh (v1 = v2)) {p : Program} {e : Env} {s : State} {m : MethodId} {below : List Frame} {meth : Method} {c : Code} {args : Array Value} {s₁ : State} {lo : List Loc} (hx : p.tables.exec = Jvm.exec) (hby : c.code = code) (hml : c.maxLocals = maxLocals) (hown : s.vm.findClass "com/example/watermark/watermark/store/BatchEqualsPinLaw" = some m.cls) (hnm : meth.name = "law") (hret : meth.sig.returnType = ret) (hlk : meth.locks = false) (hZ : Z.Warmed39 s.vm) (X0 : Stand p l e room_1 s m args below meth c s₁ lo 284 824) (e0 : s₁.heap = h0) (N0 : Fr n0 lo) :
    Go p e below (s₁.setTop (mkF m 202 #[.val (.int p1), .val (.int p2), .val (.int p3), .val (.int p4), .val (.int p5), .val (.int p6), .val (.ref ahb), .val v1, .val v2, .val (.int cs), .val (.int cg), .val (.int kd), .val (.int z2), .val (.int y2), .val (.ref id1), .val (.ref id2), .val (.ref bA), .val (.ref bB), .val o, .val (.int sh), .unset, .unset, .unset, .unset] [])) (FinE s room_1.cells room_1.slots (fun v h L => v = some (.int 1) ∧ Fr n0 L)) := by
  show Go p e below (s₁.setTop (mkF m 202 #[.val (.int p1), .val (.int p2), .val (.int p3), .val (.int p4), .val (.int p5), .val (.int p6), .val (.ref ahb), .val v1, .val v2, .val (.int cs), .val (.int cg), .val (.int kd), .val (.int z2), .val (.int y2), .val (.ref id1), .val (.ref id2), .val (.ref bA), .val (.ref bB), .val o, .val (.int sh), .unset, .unset, .unset, .unset] [])) _
  refine g_iload X0 hx (hb hby at_202) rfl ?_
  by_cases c204_1 : cs = (0 : Int32)
  · refine g_ifNo X0 hx (hb hby at_204) ((if0 _ _).trans (teq c204_1).2) ?_
    refine g_iloadN X0 hx (hb hby at_207) rfl ?_
    refine g_iloadN X0 hx (hb hby at_208) rfl ?_
    by_cases c209_2 : p1 = p3
    · refine g_icmpNo X0 hx (hb hby at_209) (teq c209_2).2 ?_
      refine g_iconst X0 hx (1 : Int32) (hb hby at_212) (by decide) ?_
      refine g_goto X0 hx 217 (hb hby at_213) (by decide) (by decide) ?_
      refine g_istore X0 hx #[.val (.int p1), .val (.int p2), .val (.int p3), .val (.int p4), .val (.int p5), .val (.int p6), .val (.ref ahb), .val v1, .val v2, .val (.int cs), .val (.int cg), .val (.int kd), .val (.int z2), .val (.int y2), .val (.ref id1), .val (.ref id2), .val (.ref bA), .val (.ref bB), .val o, .val (.int sh), .val (.int (1 : Int32)), .unset, .unset, .unset] (hb hby at_217) rfl ?_
      show Go p e below (s₁.setTop (mkF m 219 #[.val (.int p1), .val (.int p2), .val (.int p3), .val (.int p4), .val (.int p5), .val (.int p6), .val (.ref ahb), .val v1, .val v2, .val (.int cs), .val (.int cg), .val (.int kd), .val (.int z2), .val (.int y2), .val (.ref id1), .val (.ref id2), .val (.ref bA), .val (.ref bB), .val o, .val (.int sh), .val (.int (1 : Int32)), .unset, .unset, .unset] [])) _
      exact seg_9 l Z a0 hw p1 p2 p3 p4 p5 p6 ahb zc v1 v2 cs cg kd z2 y2 id1 id2 bA bB o sh (1 : Int32) h0 n0 Z0 h1 h2 hs2 hg2 hk O_bA O_bB E_id2 hsh (Or.inl ⟨rfl, c209_2.trans (hs2.resolve_left (fun q => q.1 c204_1)).2⟩) hx hby hml hown hnm hret hlk hZ X0 e0 N0
    · refine g_icmpYes X0 hx 216 (hb hby at_209) (feq c209_2).2 (by decide) (by decide) ?_
      refine g_iconst X0 hx (0 : Int32) (hb hby at_216) (by decide) ?_
      refine g_istore X0 hx #[.val (.int p1), .val (.int p2), .val (.int p3), .val (.int p4), .val (.int p5), .val (.int p6), .val (.ref ahb), .val v1, .val v2, .val (.int cs), .val (.int cg), .val (.int kd), .val (.int z2), .val (.int y2), .val (.ref id1), .val (.ref id2), .val (.ref bA), .val (.ref bB), .val o, .val (.int sh), .val (.int (0 : Int32)), .unset, .unset, .unset] (hb hby at_217) rfl ?_
      show Go p e below (s₁.setTop (mkF m 219 #[.val (.int p1), .val (.int p2), .val (.int p3), .val (.int p4), .val (.int p5), .val (.int p6), .val (.ref ahb), .val v1, .val v2, .val (.int cs), .val (.int cg), .val (.int kd), .val (.int z2), .val (.int y2), .val (.ref id1), .val (.ref id2), .val (.ref bA), .val (.ref bB), .val o, .val (.int sh), .val (.int (0 : Int32)), .unset, .unset, .unset] [])) _
      exact seg_9 l Z a0 hw p1 p2 p3 p4 p5 p6 ahb zc v1 v2 cs cg kd z2 y2 id1 id2 bA bB o sh (0 : Int32) h0 n0 Z0 h1 h2 hs2 hg2 hk O_bA O_bB E_id2 hsh (Or.inr ⟨rfl, fun q => c209_2 (q.trans (hs2.resolve_left (fun q => q.1 c204_1)).2.symm)⟩) hx hby hml hown hnm hret hlk hZ X0 e0 N0
  · refine g_ifYes X0 hx 212 (hb hby at_204) ((if0 _ _).trans (feq c204_1).2) (by decide) (by decide) ?_
    refine g_iconst X0 hx (1 : Int32) (hb hby at_212) (by decide) ?_
    refine g_goto X0 hx 217 (hb hby at_213) (by decide) (by decide) ?_
    refine g_istore X0 hx #[.val (.int p1), .val (.int p2), .val (.int p3), .val (.int p4), .val (.int p5), .val (.int p6), .val (.ref ahb), .val v1, .val v2, .val (.int cs), .val (.int cg), .val (.int kd), .val (.int z2), .val (.int y2), .val (.ref id1), .val (.ref id2), .val (.ref bA), .val (.ref bB), .val o, .val (.int sh), .val (.int (1 : Int32)), .unset, .unset, .unset] (hb hby at_217) rfl ?_
    show Go p e below (s₁.setTop (mkF m 219 #[.val (.int p1), .val (.int p2), .val (.int p3), .val (.int p4), .val (.int p5), .val (.int p6), .val (.ref ahb), .val v1, .val v2, .val (.int cs), .val (.int cg), .val (.int kd), .val (.int z2), .val (.int y2), .val (.ref id1), .val (.ref id2), .val (.ref bA), .val (.ref bB), .val o, .val (.int sh), .val (.int (1 : Int32)), .unset, .unset, .unset] [])) _
    exact seg_9 l Z a0 hw p1 p2 p3 p4 p5 p6 ahb zc v1 v2 cs cg kd z2 y2 id1 id2 bA bB o sh (1 : Int32) h0 n0 Z0 h1 h2 hs2 hg2 hk O_bA O_bB E_id2 hsh (Or.inl ⟨rfl, (hs2.resolve_right (fun q => c204_1 q.1)).2⟩) hx hby hml hown hnm hret hlk hZ X0 e0 N0
set_option maxRecDepth 65536 in
set_option maxHeartbeats 40000000 in
theorem seg_7 (l : Launch) (Z : State) (a0 : Array Value) (hw : ∀ d ∈ tables_1, d.before a0 Z = true) (p1 : Int32) (p2 : Int32) (p3 : Int32) (p4 : Int32) (p5 : Int32) (p6 : Int32) (ahb : Addr) (zc : Int32) (v1 : Value) (v2 : Value) (cs : Int32) (cg : Int32) (kd : Int32) (z2 : Int32) (y2 : Int32) (id1 : Addr) (id2 : Addr) (bA : Addr) (bB : Addr) (o : Value) (h0 : Heap) (n0 : Nat) (Z0 : n0 ≤ h0.size) (h1 : own_H ahb (p5 &&& (1 : Int32)) v1) (h2 : own_H ahb (p5 &&& (2 : Int32)) v2) (hs2 : (¬ cs = (0 : Int32) ∧ p1 = z2) ∨ (cs = (0 : Int32) ∧ p3 = z2)) (hg2 : (¬ cg = (0 : Int32) ∧ p2 = y2) ∨ (cg = (0 : Int32) ∧ p4 = y2)) (hk : own_K kd o bB id2) (O_bA : R_BA Z h0 bA v1 (.int p1) (.int p2) (.ref id1)) (O_bB : R_BA Z h0 bB v2 (.int z2) (.int y2) (.ref id2)) (E_id2 : Exa Z h0 id2 "java/lang/String") {p : Program} {e : Env} {s : State} {m : MethodId} {below : List Frame} {meth : Method} {c : Code} {args : Array Value} {s₁ : State} {lo : List Loc} (hx : p.tables.exec = Jvm.exec) (hby : c.code = code) (hml : c.maxLocals = maxLocals) (hown : s.vm.findClass "com/example/watermark/watermark/store/BatchEqualsPinLaw" = some m.cls) (hnm : meth.name = "law") (hret : meth.sig.returnType = ret) (hlk : meth.locks = false) (hZ : Z.Warmed39 s.vm) (X0 : Stand p l e room_1 s m args below meth c s₁ lo 284 824) (e0 : s₁.heap = h0) (N0 : Fr n0 lo) :
    Go p e below (s₁.setTop (mkF m 182 #[.val (.int p1), .val (.int p2), .val (.int p3), .val (.int p4), .val (.int p5), .val (.int p6), .val (.ref ahb), .val v1, .val v2, .val (.int cs), .val (.int cg), .val (.int kd), .val (.int z2), .val (.int y2), .val (.ref id1), .val (.ref id2), .val (.ref bA), .val (.ref bB), .val o, .unset, .unset, .unset, .unset, .unset] [])) (FinE s room_1.cells room_1.slots (fun v h L => v = some (.int 1) ∧ Fr n0 L)) := by
  show Go p e below (s₁.setTop (mkF m 182 #[.val (.int p1), .val (.int p2), .val (.int p3), .val (.int p4), .val (.int p5), .val (.int p6), .val (.ref ahb), .val v1, .val v2, .val (.int cs), .val (.int cg), .val (.int kd), .val (.int z2), .val (.int y2), .val (.ref id1), .val (.ref id2), .val (.ref bA), .val (.ref bB), .val o, .unset, .unset, .unset, .unset, .unset] [])) _
  refine g_iload X0 hx (hb hby at_182) rfl ?_
  refine g_iconst X0 hx (1 : Int32) (hb hby at_184) (by decide) ?_
  refine g_iand X0 hx (hb hby at_185) ?_
  refine g_iload X0 hx (hb hby at_186) rfl ?_
  refine g_iconst X0 hx (1 : Int32) (hb hby at_188) (by decide) ?_
  refine Go.mp (fun _ k => XS.iushr X0.here hx rfl (hb hby at_189) rfl k) ?_
  show Go p e below (s₁.setTop (mkF m 190 #[.val (.int p1), .val (.int p2), .val (.int p3), .val (.int p4), .val (.int p5), .val (.int p6), .val (.ref ahb), .val v1, .val v2, .val (.int cs), .val (.int cg), .val (.int kd), .val (.int z2), .val (.int y2), .val (.ref id1), .val (.ref id2), .val (.ref bA), .val (.ref bB), .val o, .unset, .unset, .unset, .unset, .unset] [(.int ((p5.toUInt32 >>> ((1 : Int32) &&& 31).toUInt32).toInt32)), (.int (p5 &&& (1 : Int32)))])) _
  refine g_iconst X0 hx (1 : Int32) (hb hby at_190) (by decide) ?_
  refine g_iand X0 hx (hb hby at_191) ?_
  by_cases c192_1 : (p5 &&& (1 : Int32)) = (((p5.toUInt32 >>> ((1 : Int32) &&& 31).toUInt32).toInt32) &&& (1 : Int32))
  · refine g_icmpNo X0 hx (hb hby at_192) (teq c192_1).2 ?_
    refine g_iconst X0 hx (1 : Int32) (hb hby at_195) (by decide) ?_
    refine g_goto X0 hx 200 (hb hby at_196) (by decide) (by decide) ?_
    refine g_istore X0 hx #[.val (.int p1), .val (.int p2), .val (.int p3), .val (.int p4), .val (.int p5), .val (.int p6), .val (.ref ahb), .val v1, .val v2, .val (.int cs), .val (.int cg), .val (.int kd), .val (.int z2), .val (.int y2), .val (.ref id1), .val (.ref id2), .val (.ref bA), .val (.ref bB), .val o, .val (.int (1 : Int32)), .unset, .unset, .unset, .unset] (hb hby at_200) rfl ?_
    show Go p e below (s₁.setTop (mkF m 202 #[.val (.int p1), .val (.int p2), .val (.int p3), .val (.int p4), .val (.int p5), .val (.int p6), .val (.ref ahb), .val v1, .val v2, .val (.int cs), .val (.int cg), .val (.int kd), .val (.int z2), .val (.int y2), .val (.ref id1), .val (.ref id2), .val (.ref bA), .val (.ref bB), .val o, .val (.int (1 : Int32)), .unset, .unset, .unset, .unset] [])) _
    exact seg_8 l Z a0 hw p1 p2 p3 p4 p5 p6 ahb zc v1 v2 cs cg kd z2 y2 id1 id2 bA bB o (1 : Int32) h0 n0 Z0 h1 h2 hs2 hg2 hk O_bA O_bB E_id2 (Or.inl ⟨rfl, (own_sh h1 h2).mp c192_1⟩) hx hby hml hown hnm hret hlk hZ X0 e0 N0
  · refine g_icmpYes X0 hx 199 (hb hby at_192) (feq c192_1).2 (by decide) (by decide) ?_
    refine g_iconst X0 hx (0 : Int32) (hb hby at_199) (by decide) ?_
    refine g_istore X0 hx #[.val (.int p1), .val (.int p2), .val (.int p3), .val (.int p4), .val (.int p5), .val (.int p6), .val (.ref ahb), .val v1, .val v2, .val (.int cs), .val (.int cg), .val (.int kd), .val (.int z2), .val (.int y2), .val (.ref id1), .val (.ref id2), .val (.ref bA), .val (.ref bB), .val o, .val (.int (0 : Int32)), .unset, .unset, .unset, .unset] (hb hby at_200) rfl ?_
    show Go p e below (s₁.setTop (mkF m 202 #[.val (.int p1), .val (.int p2), .val (.int p3), .val (.int p4), .val (.int p5), .val (.int p6), .val (.ref ahb), .val v1, .val v2, .val (.int cs), .val (.int cg), .val (.int kd), .val (.int z2), .val (.int y2), .val (.ref id1), .val (.ref id2), .val (.ref bA), .val (.ref bB), .val o, .val (.int (0 : Int32)), .unset, .unset, .unset, .unset] [])) _
    exact seg_8 l Z a0 hw p1 p2 p3 p4 p5 p6 ahb zc v1 v2 cs cg kd z2 y2 id1 id2 bA bB o (0 : Int32) h0 n0 Z0 h1 h2 hs2 hg2 hk O_bA O_bB E_id2 (Or.inr ⟨rfl, fun q => c192_1 ((own_sh h1 h2).mpr q)⟩) hx hby hml hown hnm hret hlk hZ X0 e0 N0
theorem pd_7 : parseMethodDescriptor "(C)Ljava/lang/String;" = some ⟨[FieldType.char], some (FieldType.object "java/lang/String")⟩ := by decide +kernel
theorem pd_8 : parseMethodDescriptor "(Lcom/example/watermark/watermark/store/HeldBatches;IILjava/lang/String;)V" = some ⟨[(FieldType.object "com/example/watermark/watermark/store/HeldBatches"), FieldType.int, FieldType.int, (FieldType.object "java/lang/String")], none⟩ := by decide +kernel
set_option maxRecDepth 65536 in
set_option maxHeartbeats 40000000 in
theorem seg_6 (l : Launch) (Z : State) (a0 : Array Value) (hw : ∀ d ∈ tables_1, d.before a0 Z = true) (p1 : Int32) (p2 : Int32) (p3 : Int32) (p4 : Int32) (p5 : Int32) (p6 : Int32) (ahb : Addr) (zc : Int32) (v1 : Value) (v2 : Value) (cs : Int32) (cg : Int32) (kd : Int32) (z2 : Int32) (y2 : Int32) (h0 : Heap) (n0 : Nat) (Z0 : n0 ≤ h0.size) (h1 : own_H ahb (p5 &&& (1 : Int32)) v1) (h2 : own_H ahb (p5 &&& (2 : Int32)) v2) (hs2 : (¬ cs = (0 : Int32) ∧ p1 = z2) ∨ (cs = (0 : Int32) ∧ p3 = z2)) (hg2 : (¬ cg = (0 : Int32) ∧ p2 = y2) ∨ (cg = (0 : Int32) ∧ p4 = y2)) (S_COMPACT_STRINGS : Sta Z h0 "java/lang/String" "COMPACT_STRINGS" "Z" (.int zc)) (hzc : ¬ (zc = (0 : Int32))) {p : Program} {e : Env} {s : State} {m : MethodId} {below : List Frame} {meth : Method} {c : Code} {args : Array Value} {s₁ : State} {lo : List Loc} (hx : p.tables.exec = Jvm.exec) (hby : c.code = code) (hml : c.maxLocals = maxLocals) (hown : s.vm.findClass "com/example/watermark/watermark/store/BatchEqualsPinLaw" = some m.cls) (hnm : meth.name = "law") (hret : meth.sig.returnType = ret) (hlk : meth.locks = false) (hZ : Z.Warmed39 s.vm) (X0 : Stand p l e room_1 s m args below meth c s₁ lo 278 806) (e0 : s₁.heap = h0) (N0 : Fr n0 lo) :
    Go p e below (s₁.setTop (mkF m 97 #[.val (.int p1), .val (.int p2), .val (.int p3), .val (.int p4), .val (.int p5), .val (.int p6), .val (.ref ahb), .val v1, .val v2, .val (.int cs), .val (.int cg), .val (.int kd), .val (.int z2), .val (.int y2), .unset, .unset, .unset, .unset, .unset, .unset, .unset, .unset, .unset, .unset] [])) (FinE s room_1.cells room_1.slots (fun v h L => v = some (.int 1) ∧ Fr n0 L)) := by
  show Go p e below (s₁.setTop (mkF m 97 #[.val (.int p1), .val (.int p2), .val (.int p3), .val (.int p4), .val (.int p5), .val (.int p6), .val (.ref ahb), .val v1, .val v2, .val (.int cs), .val (.int cg), .val (.int kd), .val (.int z2), .val (.int y2), .unset, .unset, .unset, .unset, .unset, .unset, .unset, .unset, .unset, .unset] [])) _
  refine g_iload X0 hx (hb hby at_97) rfl ?_
  refine g_sipush X0 hx (255 : Int32) (hb hby at_99) (by decide) ?_
  refine g_iand X0 hx (hb hby at_102) ?_
  refine Go.mp (fun _ k => XS.i2c X0.here hx rfl (hb hby at_103) rfl k) ?_
  show Go p e below (s₁.setTop (mkF m 104 #[.val (.int p1), .val (.int p2), .val (.int p3), .val (.int p4), .val (.int p5), .val (.int p6), .val (.ref ahb), .val v1, .val v2, .val (.int cs), .val (.int cg), .val (.int kd), .val (.int z2), .val (.int y2), .unset, .unset, .unset, .unset, .unset, .unset, .unset, .unset, .unset, .unset] [(.int ((p6 &&& (255 : Int32)).toUInt32.toUInt16.toUInt32.toInt32))])) _
  obtain ⟨v1, T1, L1, X1, q1, st1⟩ := own_callS X0 hx hZ (y := (⟨"java/lang/String", "valueOf", "(C)Ljava/lang/String;"⟩ : MethodName)) (pc := 104) (Ls := #[.val (.int p1), .val (.int p2), .val (.int p3), .val (.int p4), .val (.int p5), .val (.int p6), .val (.ref ahb), .val v1, .val v2, .val (.int cs), .val (.int cg), .val (.int kd), .val (.int z2), .val (.int y2), .unset, .unset, .unset, .unset, .unset, .unset, .unset, .unset, .unset, .unset]) (st := [(.int ((p6 &&& (255 : Int32)).toUInt32.toUInt16.toUInt32.toInt32))]) hown (hw _ (List.mem_of_getElem? (i := 97) rfl)) (hw _ (List.mem_of_getElem? (i := 98) rfl)) (hw _ (List.mem_of_getElem? (i := 99) rfl)) (hw _ (List.mem_of_getElem? (i := 100) rfl)) (by decide) (rm_valueOf l Z a0 hw ((p6 &&& (255 : Int32)).toUInt32.toUInt16.toUInt32.toInt32) zc h0 n0 Z0 S_COMPACT_STRINGS hzc (own_c255 _)) e0 pd_7 (hb hby at_104) (by rw [hml]; rfl) (argsL := [(.int ((p6 &&& (255 : Int32)).toUInt32.toUInt16.toUInt32.toInt32))]) (rest := []) rfl rfl rfl (W := 0) (Nat.le_of_eq rfl) (by decide) (by decide) (by decide) (by decide)
  obtain ⟨b1, rfl, M1, Kc1, sz1, Ff1_0⟩ := q1
  have N1 := Fr.app N0 M1
  have g_b1 : n0 ≤ b1 := Nat.le_trans Z0 sz1
  have S_COMPACT_STRINGS_1 := own_sta_keep S_COMPACT_STRINGS Kc1 (fun _ q => nomatch q)
  have Z1 : n0 ≤ T1.heap.size := Nat.le_trans Z0 Kc1.1
  refine Go.mp st1 ?_
  show Go p e below (T1.setTop (mkF m 107 #[.val (.int p1), .val (.int p2), .val (.int p3), .val (.int p4), .val (.int p5), .val (.int p6), .val (.ref ahb), .val v1, .val v2, .val (.int cs), .val (.int cg), .val (.int kd), .val (.int z2), .val (.int y2), .unset, .unset, .unset, .unset, .unset, .unset, .unset, .unset, .unset, .unset] [(.ref b1)])) _
  refine g_astore X1 hx #[.val (.int p1), .val (.int p2), .val (.int p3), .val (.int p4), .val (.int p5), .val (.int p6), .val (.ref ahb), .val v1, .val v2, .val (.int cs), .val (.int cg), .val (.int kd), .val (.int z2), .val (.int y2), .val (.ref b1), .unset, .unset, .unset, .unset, .unset, .unset, .unset, .unset, .unset] (hb hby at_107) rfl rfl ?_
  refine g_iload X1 hx (hb hby at_109) rfl ?_
  refine g_bipush X1 hx (8 : Int32) (hb hby at_111) (by decide) ?_
  refine Go.mp (fun _ k => XS.iushr X1.here hx rfl (hb hby at_113) rfl k) ?_
  show Go p e below (T1.setTop (mkF m 114 #[.val (.int p1), .val (.int p2), .val (.int p3), .val (.int p4), .val (.int p5), .val (.int p6), .val (.ref ahb), .val v1, .val v2, .val (.int cs), .val (.int cg), .val (.int kd), .val (.int z2), .val (.int y2), .val (.ref b1), .unset, .unset, .unset, .unset, .unset, .unset, .unset, .unset, .unset] [(.int ((p6.toUInt32 >>> ((8 : Int32) &&& 31).toUInt32).toInt32))])) _
  refine g_sipush X1 hx (255 : Int32) (hb hby at_114) (by decide) ?_
  refine g_iand X1 hx (hb hby at_117) ?_
  refine Go.mp (fun _ k => XS.i2c X1.here hx rfl (hb hby at_118) rfl k) ?_
  show Go p e below (T1.setTop (mkF m 119 #[.val (.int p1), .val (.int p2), .val (.int p3), .val (.int p4), .val (.int p5), .val (.int p6), .val (.ref ahb), .val v1, .val v2, .val (.int cs), .val (.int cg), .val (.int kd), .val (.int z2), .val (.int y2), .val (.ref b1), .unset, .unset, .unset, .unset, .unset, .unset, .unset, .unset, .unset] [(.int ((((p6.toUInt32 >>> ((8 : Int32) &&& 31).toUInt32).toInt32) &&& (255 : Int32)).toUInt32.toUInt16.toUInt32.toInt32))])) _
  obtain ⟨v2, T2, L2, X2, q2, st2⟩ := own_callS X1 hx hZ (y := (⟨"java/lang/String", "valueOf", "(C)Ljava/lang/String;"⟩ : MethodName)) (pc := 119) (Ls := #[.val (.int p1), .val (.int p2), .val (.int p3), .val (.int p4), .val (.int p5), .val (.int p6), .val (.ref ahb), .val v1, .val v2, .val (.int cs), .val (.int cg), .val (.int kd), .val (.int z2), .val (.int y2), .val (.ref b1), .unset, .unset, .unset, .unset, .unset, .unset, .unset, .unset, .unset]) (st := [(.int ((((p6.toUInt32 >>> ((8 : Int32) &&& 31).toUInt32).toInt32) &&& (255 : Int32)).toUInt32.toUInt16.toUInt32.toInt32))]) hown (hw _ (List.mem_of_getElem? (i := 97) rfl)) (hw _ (List.mem_of_getElem? (i := 98) rfl)) (hw _ (List.mem_of_getElem? (i := 99) rfl)) (hw _ (List.mem_of_getElem? (i := 100) rfl)) (by decide) (rm_valueOf l Z a0 hw ((((p6.toUInt32 >>> ((8 : Int32) &&& 31).toUInt32).toInt32) &&& (255 : Int32)).toUInt32.toUInt16.toUInt32.toInt32) zc T1.heap n0 Z1 S_COMPACT_STRINGS_1 hzc (own_c255 _)) (rfl : T1.heap = T1.heap) pd_7 (hb hby at_119) (by rw [hml]; rfl) (argsL := [(.int ((((p6.toUInt32 >>> ((8 : Int32) &&& 31).toUInt32).toInt32) &&& (255 : Int32)).toUInt32.toUInt16.toUInt32.toInt32))]) (rest := []) rfl rfl rfl (W := 0) (Nat.le_of_eq rfl) (by decide) (by decide) (by decide) (by decide)
  obtain ⟨b2, rfl, M2, Kc2, sz2, Ff2_0⟩ := q2
  have N2 := Fr.app N1 M2
  have ne_b1_b2 : b1 ≠ b2 := Nat.ne_of_lt (Nat.lt_of_lt_of_le Ff1_0.lt sz2)
  have g_b2 : n0 ≤ b2 := Nat.le_trans Z1 sz2
  have S_COMPACT_STRINGS_2 := own_sta_keep S_COMPACT_STRINGS_1 Kc2 (fun _ q => nomatch q)
  have E_b1_2 := Exa.keep Ff1_0 Kc2
  have Z2 : n0 ≤ T2.heap.size := Nat.le_trans Z1 Kc2.1
  refine Go.mp st2 ?_
  show Go p e below (T2.setTop (mkF m 122 #[.val (.int p1), .val (.int p2), .val (.int p3), .val (.int p4), .val (.int p5), .val (.int p6), .val (.ref ahb), .val v1, .val v2, .val (.int cs), .val (.int cg), .val (.int kd), .val (.int z2), .val (.int y2), .val (.ref b1), .unset, .unset, .unset, .unset, .unset, .unset, .unset, .unset, .unset] [(.ref b2)])) _
  refine g_astore X2 hx #[.val (.int p1), .val (.int p2), .val (.int p3), .val (.int p4), .val (.int p5), .val (.int p6), .val (.ref ahb), .val v1, .val v2, .val (.int cs), .val (.int cg), .val (.int kd), .val (.int z2), .val (.int y2), .val (.ref b1), .val (.ref b2), .unset, .unset, .unset, .unset, .unset, .unset, .unset, .unset] (hb hby at_122) rfl rfl ?_
  obtain ⟨T3, h3, X3, e3, E3, A3, D3, -, st3⟩ := newO X2 hx hZ hown (hw _ (List.mem_of_getElem? (i := 120) rfl)) (hw _ (List.mem_of_getElem? (i := 121) rfl)) (hw _ (List.mem_of_getElem? (i := 122) rfl)) (rfl : T2.heap = T2.heap) (g := (mkF m 124 #[.val (.int p1), .val (.int p2), .val (.int p3), .val (.int p4), .val (.int p5), .val (.int p6), .val (.ref ahb), .val v1, .val v2, .val (.int cs), .val (.int cg), .val (.int kd), .val (.int z2), .val (.int y2), .val (.ref b1), .val (.ref b2), .unset, .unset, .unset, .unset, .unset, .unset, .unset, .unset] [])) rfl (hb hby at_124) (by decide) (by decide)
  obtain ⟨b3, g3⟩ : ∃ z, z = T2.heap.size := ⟨_, rfl⟩
  rw [← g3] at A3 D3 st3
  have ne_b1_b3 : b1 ≠ b3 := Nat.ne_of_lt (Nat.lt_of_lt_of_le E_b1_2.lt (Nat.le_of_eq g3.symm))
  have ne_b2_b3 : b2 ≠ b3 := Nat.ne_of_lt (Nat.lt_of_lt_of_le Ff2_0.lt (Nat.le_of_eq g3.symm))
  have g_b3 : n0 ≤ b3 := Nat.le_trans Z2 (Nat.le_of_eq g3.symm)
  have Z3 : n0 ≤ h3.size := Nat.le_trans Z2 E3.1
  have S_COMPACT_STRINGS_3 := Sta.ext E3 S_COMPACT_STRINGS_2
  have E_b1_3 := Exa.ext E3 E_b1_2
  have E_b2_3 := Exa.ext E3 Ff2_0
  have O3 : R_BA Z h3 b3 .null (.int (0 : Int32)) (.int (0 : Int32)) .null := ⟨A3, D3 (Or.inr (hw _ (List.mem_of_getElem? (i := 128) rfl))) (ty := (FieldType.object "com/example/watermark/watermark/store/HeldBatches")) (by decide), D3 (Or.inr (hw _ (List.mem_of_getElem? (i := 130) rfl))) (ty := FieldType.int) (by decide), D3 (Or.inr (hw _ (List.mem_of_getElem? (i := 132) rfl))) (ty := FieldType.int) (by decide), D3 (Or.inr (hw _ (List.mem_of_getElem? (i := 134) rfl))) (ty := (FieldType.object "java/lang/String")) (by decide)⟩
  refine Go.mp st3 ?_
  show Go p e below (T3.setTop (mkF m 127 #[.val (.int p1), .val (.int p2), .val (.int p3), .val (.int p4), .val (.int p5), .val (.int p6), .val (.ref ahb), .val v1, .val v2, .val (.int cs), .val (.int cg), .val (.int kd), .val (.int z2), .val (.int y2), .val (.ref b1), .val (.ref b2), .unset, .unset, .unset, .unset, .unset, .unset, .unset, .unset] [(.ref b3)])) _
  refine g_dup X3 hx (hb hby at_127) rfl ?_
  refine g_aload X3 hx (hb hby at_128) rfl (own_Hr h1) ?_
  refine g_iloadN X3 hx (hb hby at_130) rfl ?_
  refine g_iloadN X3 hx (hb hby at_131) rfl ?_
  refine g_aload X3 hx (hb hby at_132) rfl rfl ?_
  obtain ⟨v4, T4, L4, X4, q4, st4⟩ := own_callI X3 hx hZ (y := (⟨"com/example/watermark/watermark/store/Batch", "<init>", "(Lcom/example/watermark/watermark/store/HeldBatches;IILjava/lang/String;)V"⟩ : MethodName)) (pc := 134) (Ls := #[.val (.int p1), .val (.int p2), .val (.int p3), .val (.int p4), .val (.int p5), .val (.int p6), .val (.ref ahb), .val v1, .val v2, .val (.int cs), .val (.int cg), .val (.int kd), .val (.int z2), .val (.int y2), .val (.ref b1), .val (.ref b2), .unset, .unset, .unset, .unset, .unset, .unset, .unset, .unset]) (st := [(.ref b1), (.int p2), (.int p1), v1, (.ref b3), (.ref b3)]) hown (hw _ (List.mem_of_getElem? (i := 123) rfl)) (hw _ (List.mem_of_getElem? (i := 124) rfl)) (hw _ (List.mem_of_getElem? (i := 125) rfl)) (hw _ (List.mem_of_getElem? (i := 122) rfl)) rfl (by decide) (rm_batchInit l Z a0 hw b3 v1 p1 p2 b1 h3 n0 Z3 (own_Hr h1) O3 g_b3) e3 pd_8 (hb hby at_134) (by rw [hml]; rfl) (argsL := [v1, (.int p1), (.int p2), (.ref b1)]) (rest := [(.ref b3)]) rfl rfl rfl (W := 1) (Nat.le_of_eq rfl) (by decide) (by decide) (by decide) (by decide)
  obtain ⟨rfl, M4, Kc4, Rk4_0⟩ := q4
  have N4 := Fr.app N2 M4
  have S_COMPACT_STRINGS_4 := own_sta_keep S_COMPACT_STRINGS_3 Kc4 (own_plain O3.1 (fun _ q => nomatch q))
  have E_b1_4 := Exa.keep E_b1_3 Kc4
  have E_b2_4 := Exa.keep E_b2_3 Kc4
  have Z4 : n0 ≤ T4.heap.size := Nat.le_trans Z3 Kc4.1
  refine Go.mp st4 ?_
  show Go p e below (T4.setTop (mkF m 137 #[.val (.int p1), .val (.int p2), .val (.int p3), .val (.int p4), .val (.int p5), .val (.int p6), .val (.ref ahb), .val v1, .val v2, .val (.int cs), .val (.int cg), .val (.int kd), .val (.int z2), .val (.int y2), .val (.ref b1), .val (.ref b2), .unset, .unset, .unset, .unset, .unset, .unset, .unset, .unset] [(.ref b3)])) _
  refine g_astore X4 hx #[.val (.int p1), .val (.int p2), .val (.int p3), .val (.int p4), .val (.int p5), .val (.int p6), .val (.ref ahb), .val v1, .val v2, .val (.int cs), .val (.int cg), .val (.int kd), .val (.int z2), .val (.int y2), .val (.ref b1), .val (.ref b2), .val (.ref b3), .unset, .unset, .unset, .unset, .unset, .unset, .unset] (hb hby at_137) rfl rfl ?_
  obtain ⟨T5, h5, X5, e5, E5, A5, D5, -, st5⟩ := newO X4 hx hZ hown (hw _ (List.mem_of_getElem? (i := 120) rfl)) (hw _ (List.mem_of_getElem? (i := 121) rfl)) (hw _ (List.mem_of_getElem? (i := 122) rfl)) (rfl : T4.heap = T4.heap) (g := (mkF m 139 #[.val (.int p1), .val (.int p2), .val (.int p3), .val (.int p4), .val (.int p5), .val (.int p6), .val (.ref ahb), .val v1, .val v2, .val (.int cs), .val (.int cg), .val (.int kd), .val (.int z2), .val (.int y2), .val (.ref b1), .val (.ref b2), .val (.ref b3), .unset, .unset, .unset, .unset, .unset, .unset, .unset] [])) rfl (hb hby at_139) (by decide) (by decide)
  obtain ⟨b5, g5⟩ : ∃ z, z = T4.heap.size := ⟨_, rfl⟩
  rw [← g5] at A5 D5 st5
  have ne_b1_b5 : b1 ≠ b5 := Nat.ne_of_lt (Nat.lt_of_lt_of_le E_b1_4.lt (Nat.le_of_eq g5.symm))
  have ne_b2_b5 : b2 ≠ b5 := Nat.ne_of_lt (Nat.lt_of_lt_of_le E_b2_4.lt (Nat.le_of_eq g5.symm))
  have ne_b3_b5 : b3 ≠ b5 := Nat.ne_of_lt (Nat.lt_of_lt_of_le Rk4_0.1.lt (Nat.le_of_eq g5.symm))
  have g_b5 : n0 ≤ b5 := Nat.le_trans Z4 (Nat.le_of_eq g5.symm)
  have Z5 : n0 ≤ h5.size := Nat.le_trans Z4 E5.1
  have S_COMPACT_STRINGS_5 := Sta.ext E5 S_COMPACT_STRINGS_4
  have E_b1_5 := Exa.ext E5 E_b1_4
  have E_b2_5 := Exa.ext E5 E_b2_4
  have O_b3_5 := R_BA_ext E5 Rk4_0
  have O5 : R_BA Z h5 b5 .null (.int (0 : Int32)) (.int (0 : Int32)) .null := ⟨A5, D5 (Or.inr (hw _ (List.mem_of_getElem? (i := 128) rfl))) (ty := (FieldType.object "com/example/watermark/watermark/store/HeldBatches")) (by decide), D5 (Or.inr (hw _ (List.mem_of_getElem? (i := 130) rfl))) (ty := FieldType.int) (by decide), D5 (Or.inr (hw _ (List.mem_of_getElem? (i := 132) rfl))) (ty := FieldType.int) (by decide), D5 (Or.inr (hw _ (List.mem_of_getElem? (i := 134) rfl))) (ty := (FieldType.object "java/lang/String")) (by decide)⟩
  refine Go.mp st5 ?_
  show Go p e below (T5.setTop (mkF m 142 #[.val (.int p1), .val (.int p2), .val (.int p3), .val (.int p4), .val (.int p5), .val (.int p6), .val (.ref ahb), .val v1, .val v2, .val (.int cs), .val (.int cg), .val (.int kd), .val (.int z2), .val (.int y2), .val (.ref b1), .val (.ref b2), .val (.ref b3), .unset, .unset, .unset, .unset, .unset, .unset, .unset] [(.ref b5)])) _
  refine g_dup X5 hx (hb hby at_142) rfl ?_
  refine g_aload X5 hx (hb hby at_143) rfl (own_Hr h2) ?_
  refine g_iload X5 hx (hb hby at_145) rfl ?_
  refine g_iload X5 hx (hb hby at_147) rfl ?_
  refine g_aload X5 hx (hb hby at_149) rfl rfl ?_
  obtain ⟨v6, T6, L6, X6, q6, st6⟩ := own_callI X5 hx hZ (y := (⟨"com/example/watermark/watermark/store/Batch", "<init>", "(Lcom/example/watermark/watermark/store/HeldBatches;IILjava/lang/String;)V"⟩ : MethodName)) (pc := 151) (Ls := #[.val (.int p1), .val (.int p2), .val (.int p3), .val (.int p4), .val (.int p5), .val (.int p6), .val (.ref ahb), .val v1, .val v2, .val (.int cs), .val (.int cg), .val (.int kd), .val (.int z2), .val (.int y2), .val (.ref b1), .val (.ref b2), .val (.ref b3), .unset, .unset, .unset, .unset, .unset, .unset, .unset]) (st := [(.ref b2), (.int y2), (.int z2), v2, (.ref b5), (.ref b5)]) hown (hw _ (List.mem_of_getElem? (i := 123) rfl)) (hw _ (List.mem_of_getElem? (i := 124) rfl)) (hw _ (List.mem_of_getElem? (i := 125) rfl)) (hw _ (List.mem_of_getElem? (i := 122) rfl)) rfl (by decide) (rm_batchInit l Z a0 hw b5 v2 z2 y2 b2 h5 n0 Z5 (own_Hr h2) O5 g_b5) e5 pd_8 (hb hby at_151) (by rw [hml]; rfl) (argsL := [v2, (.int z2), (.int y2), (.ref b2)]) (rest := [(.ref b5)]) rfl rfl rfl (W := 1) (Nat.le_of_eq rfl) (by decide) (by decide) (by decide) (by decide)
  obtain ⟨rfl, M6, Kc6, Rk6_0⟩ := q6
  have N6 := Fr.app N4 M6
  have S_COMPACT_STRINGS_6 := own_sta_keep S_COMPACT_STRINGS_5 Kc6 (own_plain O5.1 (fun _ q => nomatch q))
  have E_b1_6 := Exa.keep E_b1_5 Kc6
  have E_b2_6 := Exa.keep E_b2_5 Kc6
  have O_b3_6 := R_BA_keep O_b3_5 Kc6 (own_nin ne_b3_b5 List.not_mem_nil)
  have Z6 : n0 ≤ T6.heap.size := Nat.le_trans Z5 Kc6.1
  refine Go.mp st6 ?_
  show Go p e below (T6.setTop (mkF m 154 #[.val (.int p1), .val (.int p2), .val (.int p3), .val (.int p4), .val (.int p5), .val (.int p6), .val (.ref ahb), .val v1, .val v2, .val (.int cs), .val (.int cg), .val (.int kd), .val (.int z2), .val (.int y2), .val (.ref b1), .val (.ref b2), .val (.ref b3), .unset, .unset, .unset, .unset, .unset, .unset, .unset] [(.ref b5)])) _
  refine g_astore X6 hx #[.val (.int p1), .val (.int p2), .val (.int p3), .val (.int p4), .val (.int p5), .val (.int p6), .val (.ref ahb), .val v1, .val v2, .val (.int cs), .val (.int cg), .val (.int kd), .val (.int z2), .val (.int y2), .val (.ref b1), .val (.ref b2), .val (.ref b3), .val (.ref b5), .unset, .unset, .unset, .unset, .unset, .unset] (hb hby at_154) rfl rfl ?_
  refine g_null X6 hx (hb hby at_156) ?_
  refine g_astore X6 hx #[.val (.int p1), .val (.int p2), .val (.int p3), .val (.int p4), .val (.int p5), .val (.int p6), .val (.ref ahb), .val v1, .val v2, .val (.int cs), .val (.int cg), .val (.int kd), .val (.int z2), .val (.int y2), .val (.ref b1), .val (.ref b2), .val (.ref b3), .val (.ref b5), .val .null, .unset, .unset, .unset, .unset, .unset] (hb hby at_157) rfl rfl ?_
  refine g_iload X6 hx (hb hby at_159) rfl ?_
  refine g_iconst X6 hx (2 : Int32) (hb hby at_161) (by decide) ?_
  by_cases c162_7 : kd < (2 : Int32)
  · refine g_icmpNo X6 hx (hb hby at_162) (tlt c162_7).2.1 ?_
    refine g_aload X6 hx (hb hby at_165) rfl rfl ?_
    refine g_astore X6 hx #[.val (.int p1), .val (.int p2), .val (.int p3), .val (.int p4), .val (.int p5), .val (.int p6), .val (.ref ahb), .val v1, .val v2, .val (.int cs), .val (.int cg), .val (.int kd), .val (.int z2), .val (.int y2), .val (.ref b1), .val (.ref b2), .val (.ref b3), .val (.ref b5), .val (.ref b5), .unset, .unset, .unset, .unset, .unset] (hb hby at_167) rfl rfl ?_
    refine g_goto X6 hx 182 (hb hby at_169) (by decide) (by decide) ?_
    show Go p e below (T6.setTop (mkF m 182 #[.val (.int p1), .val (.int p2), .val (.int p3), .val (.int p4), .val (.int p5), .val (.int p6), .val (.ref ahb), .val v1, .val v2, .val (.int cs), .val (.int cg), .val (.int kd), .val (.int z2), .val (.int y2), .val (.ref b1), .val (.ref b2), .val (.ref b3), .val (.ref b5), .val (.ref b5), .unset, .unset, .unset, .unset, .unset] [])) _
    exact seg_7 l Z a0 hw p1 p2 p3 p4 p5 p6 ahb zc v1 v2 cs cg kd z2 y2 b1 b2 b3 b5 (.ref b5) T6.heap n0 Z6 h1 h2 hs2 hg2 (Or.inl ⟨c162_7, rfl⟩) O_b3_6 Rk6_0 E_b2_6 hx hby hml hown hnm hret hlk hZ X6 (rfl : T6.heap = T6.heap) N6
  · refine g_icmpYes X6 hx 172 (hb hby at_162) (flt c162_7).2.1 (by decide) (by decide) ?_
    refine g_iload X6 hx (hb hby at_172) rfl ?_
    refine g_iconst X6 hx (2 : Int32) (hb hby at_174) (by decide) ?_
    by_cases c175_8 : kd = (2 : Int32)
    · refine g_icmpNo X6 hx (hb hby at_175) (teq c175_8).2 ?_
      refine g_aload X6 hx (hb hby at_178) rfl rfl ?_
      refine g_astore X6 hx #[.val (.int p1), .val (.int p2), .val (.int p3), .val (.int p4), .val (.int p5), .val (.int p6), .val (.ref ahb), .val v1, .val v2, .val (.int cs), .val (.int cg), .val (.int kd), .val (.int z2), .val (.int y2), .val (.ref b1), .val (.ref b2), .val (.ref b3), .val (.ref b5), .val (.ref b2), .unset, .unset, .unset, .unset, .unset] (hb hby at_180) rfl rfl ?_
      show Go p e below (T6.setTop (mkF m 182 #[.val (.int p1), .val (.int p2), .val (.int p3), .val (.int p4), .val (.int p5), .val (.int p6), .val (.ref ahb), .val v1, .val v2, .val (.int cs), .val (.int cg), .val (.int kd), .val (.int z2), .val (.int y2), .val (.ref b1), .val (.ref b2), .val (.ref b3), .val (.ref b5), .val (.ref b2), .unset, .unset, .unset, .unset, .unset] [])) _
      exact seg_7 l Z a0 hw p1 p2 p3 p4 p5 p6 ahb zc v1 v2 cs cg kd z2 y2 b1 b2 b3 b5 (.ref b2) T6.heap n0 Z6 h1 h2 hs2 hg2 (Or.inr (Or.inl ⟨c162_7, rfl⟩)) O_b3_6 Rk6_0 E_b2_6 hx hby hml hown hnm hret hlk hZ X6 (rfl : T6.heap = T6.heap) N6
    · refine g_icmpYes X6 hx 182 (hb hby at_175) (feq c175_8).2 (by decide) (by decide) ?_
      show Go p e below (T6.setTop (mkF m 182 #[.val (.int p1), .val (.int p2), .val (.int p3), .val (.int p4), .val (.int p5), .val (.int p6), .val (.ref ahb), .val v1, .val v2, .val (.int cs), .val (.int cg), .val (.int kd), .val (.int z2), .val (.int y2), .val (.ref b1), .val (.ref b2), .val (.ref b3), .val (.ref b5), .val .null, .unset, .unset, .unset, .unset, .unset] [])) _
      exact seg_7 l Z a0 hw p1 p2 p3 p4 p5 p6 ahb zc v1 v2 cs cg kd z2 y2 b1 b2 b3 b5 .null T6.heap n0 Z6 h1 h2 hs2 hg2 (Or.inr (Or.inr ⟨c162_7, rfl⟩)) O_b3_6 Rk6_0 E_b2_6 hx hby hml hown hnm hret hlk hZ X6 (rfl : T6.heap = T6.heap) N6
set_option maxRecDepth 65536 in
set_option maxHeartbeats 40000000 in
theorem seg_5 (l : Launch) (Z : State) (a0 : Array Value) (hw : ∀ d ∈ tables_1, d.before a0 Z = true) (p1 : Int32) (p2 : Int32) (p3 : Int32) (p4 : Int32) (p5 : Int32) (p6 : Int32) (ahb : Addr) (zc : Int32) (v1 : Value) (v2 : Value) (cs : Int32) (cg : Int32) (kd : Int32) (z2 : Int32) (h0 : Heap) (n0 : Nat) (Z0 : n0 ≤ h0.size) (h1 : own_H ahb (p5 &&& (1 : Int32)) v1) (h2 : own_H ahb (p5 &&& (2 : Int32)) v2) (hs2 : (¬ cs = (0 : Int32) ∧ p1 = z2) ∨ (cs = (0 : Int32) ∧ p3 = z2)) (S_COMPACT_STRINGS : Sta Z h0 "java/lang/String" "COMPACT_STRINGS" "Z" (.int zc)) (hzc : ¬ (zc = (0 : Int32))) {p : Program} {e : Env} {s : State} {m : MethodId} {below : List Frame} {meth : Method} {c : Code} {args : Array Value} {s₁ : State} {lo : List Loc} (hx : p.tables.exec = Jvm.exec) (hby : c.code = code) (hml : c.maxLocals = maxLocals) (hown : s.vm.findClass "com/example/watermark/watermark/store/BatchEqualsPinLaw" = some m.cls) (hnm : meth.name = "law") (hret : meth.sig.returnType = ret) (hlk : meth.locks = false) (hZ : Z.Warmed39 s.vm) (X0 : Stand p l e room_1 s m args below meth c s₁ lo 278 806) (e0 : s₁.heap = h0) (N0 : Fr n0 lo) :
    Go p e below (s₁.setTop (mkF m 86 #[.val (.int p1), .val (.int p2), .val (.int p3), .val (.int p4), .val (.int p5), .val (.int p6), .val (.ref ahb), .val v1, .val v2, .val (.int cs), .val (.int cg), .val (.int kd), .val (.int z2), .unset, .unset, .unset, .unset, .unset, .unset, .unset, .unset, .unset, .unset, .unset] [])) (FinE s room_1.cells room_1.slots (fun v h L => v = some (.int 1) ∧ Fr n0 L)) := by
  show Go p e below (s₁.setTop (mkF m 86 #[.val (.int p1), .val (.int p2), .val (.int p3), .val (.int p4), .val (.int p5), .val (.int p6), .val (.ref ahb), .val v1, .val v2, .val (.int cs), .val (.int cg), .val (.int kd), .val (.int z2), .unset, .unset, .unset, .unset, .unset, .unset, .unset, .unset, .unset, .unset, .unset] [])) _
  refine g_iloadN X0 hx (hb hby at_86) rfl ?_
  refine g_istore X0 hx #[.val (.int p1), .val (.int p2), .val (.int p3), .val (.int p4), .val (.int p5), .val (.int p6), .val (.ref ahb), .val v1, .val v2, .val (.int cs), .val (.int cg), .val (.int kd), .val (.int z2), .val (.int p4), .unset, .unset, .unset, .unset, .unset, .unset, .unset, .unset, .unset, .unset] (hb hby at_87) rfl ?_
  refine g_iload X0 hx (hb hby at_89) rfl ?_
  by_cases c91_1 : cg = (0 : Int32)
  · refine g_ifYes X0 hx 97 (hb hby at_91) ((if0 _ _).trans (teq c91_1).1) (by decide) (by decide) ?_
    show Go p e below (s₁.setTop (mkF m 97 #[.val (.int p1), .val (.int p2), .val (.int p3), .val (.int p4), .val (.int p5), .val (.int p6), .val (.ref ahb), .val v1, .val v2, .val (.int cs), .val (.int cg), .val (.int kd), .val (.int z2), .val (.int p4), .unset, .unset, .unset, .unset, .unset, .unset, .unset, .unset, .unset, .unset] [])) _
    exact seg_6 l Z a0 hw p1 p2 p3 p4 p5 p6 ahb zc v1 v2 cs cg kd z2 p4 h0 n0 Z0 h1 h2 hs2 (Or.inr ⟨c91_1, rfl⟩) S_COMPACT_STRINGS hzc hx hby hml hown hnm hret hlk hZ X0 e0 N0
  · refine g_ifNo X0 hx (hb hby at_91) ((if0 _ _).trans (feq c91_1).1) ?_
    refine g_iloadN X0 hx (hb hby at_94) rfl ?_
    refine g_istore X0 hx #[.val (.int p1), .val (.int p2), .val (.int p3), .val (.int p4), .val (.int p5), .val (.int p6), .val (.ref ahb), .val v1, .val v2, .val (.int cs), .val (.int cg), .val (.int kd), .val (.int z2), .val (.int p2), .unset, .unset, .unset, .unset, .unset, .unset, .unset, .unset, .unset, .unset] (hb hby at_95) rfl ?_
    show Go p e below (s₁.setTop (mkF m 97 #[.val (.int p1), .val (.int p2), .val (.int p3), .val (.int p4), .val (.int p5), .val (.int p6), .val (.ref ahb), .val v1, .val v2, .val (.int cs), .val (.int cg), .val (.int kd), .val (.int z2), .val (.int p2), .unset, .unset, .unset, .unset, .unset, .unset, .unset, .unset, .unset, .unset] [])) _
    exact seg_6 l Z a0 hw p1 p2 p3 p4 p5 p6 ahb zc v1 v2 cs cg kd z2 p2 h0 n0 Z0 h1 h2 hs2 (Or.inl ⟨c91_1, rfl⟩) S_COMPACT_STRINGS hzc hx hby hml hown hnm hret hlk hZ X0 e0 N0
set_option maxRecDepth 65536 in
set_option maxHeartbeats 40000000 in
theorem seg_4 (l : Launch) (Z : State) (a0 : Array Value) (hw : ∀ d ∈ tables_1, d.before a0 Z = true) (p1 : Int32) (p2 : Int32) (p3 : Int32) (p4 : Int32) (p5 : Int32) (p6 : Int32) (ahb : Addr) (zc : Int32) (v1 : Value) (v2 : Value) (cs : Int32) (cg : Int32) (h0 : Heap) (n0 : Nat) (Z0 : n0 ≤ h0.size) (h1 : own_H ahb (p5 &&& (1 : Int32)) v1) (h2 : own_H ahb (p5 &&& (2 : Int32)) v2) (S_COMPACT_STRINGS : Sta Z h0 "java/lang/String" "COMPACT_STRINGS" "Z" (.int zc)) (hzc : ¬ (zc = (0 : Int32))) {p : Program} {e : Env} {s : State} {m : MethodId} {below : List Frame} {meth : Method} {c : Code} {args : Array Value} {s₁ : State} {lo : List Loc} (hx : p.tables.exec = Jvm.exec) (hby : c.code = code) (hml : c.maxLocals = maxLocals) (hown : s.vm.findClass "com/example/watermark/watermark/store/BatchEqualsPinLaw" = some m.cls) (hnm : meth.name = "law") (hret : meth.sig.returnType = ret) (hlk : meth.locks = false) (hZ : Z.Warmed39 s.vm) (X0 : Stand p l e room_1 s m args below meth c s₁ lo 278 806) (e0 : s₁.heap = h0) (N0 : Fr n0 lo) :
    Go p e below (s₁.setTop (mkF m 67 #[.val (.int p1), .val (.int p2), .val (.int p3), .val (.int p4), .val (.int p5), .val (.int p6), .val (.ref ahb), .val v1, .val v2, .val (.int cs), .val (.int cg), .unset, .unset, .unset, .unset, .unset, .unset, .unset, .unset, .unset, .unset, .unset, .unset, .unset] [])) (FinE s room_1.cells room_1.slots (fun v h L => v = some (.int 1) ∧ Fr n0 L)) := by
  show Go p e below (s₁.setTop (mkF m 67 #[.val (.int p1), .val (.int p2), .val (.int p3), .val (.int p4), .val (.int p5), .val (.int p6), .val (.ref ahb), .val v1, .val v2, .val (.int cs), .val (.int cg), .unset, .unset, .unset, .unset, .unset, .unset, .unset, .unset, .unset, .unset, .unset, .unset, .unset] [])) _
  refine g_iload X0 hx (hb hby at_67) rfl ?_
  refine g_iconst X0 hx (4 : Int32) (hb hby at_69) (by decide) ?_
  refine Go.mp (fun _ k => XS.iushr X0.here hx rfl (hb hby at_70) rfl k) ?_
  show Go p e below (s₁.setTop (mkF m 71 #[.val (.int p1), .val (.int p2), .val (.int p3), .val (.int p4), .val (.int p5), .val (.int p6), .val (.ref ahb), .val v1, .val v2, .val (.int cs), .val (.int cg), .unset, .unset, .unset, .unset, .unset, .unset, .unset, .unset, .unset, .unset, .unset, .unset, .unset] [(.int ((p5.toUInt32 >>> ((4 : Int32) &&& 31).toUInt32).toInt32))])) _
  refine g_iconst X0 hx (3 : Int32) (hb hby at_71) (by decide) ?_
  refine g_iand X0 hx (hb hby at_72) ?_
  refine g_istore X0 hx #[.val (.int p1), .val (.int p2), .val (.int p3), .val (.int p4), .val (.int p5), .val (.int p6), .val (.ref ahb), .val v1, .val v2, .val (.int cs), .val (.int cg), .val (.int (((p5.toUInt32 >>> ((4 : Int32) &&& 31).toUInt32).toInt32) &&& (3 : Int32))), .unset, .unset, .unset, .unset, .unset, .unset, .unset, .unset, .unset, .unset, .unset, .unset] (hb hby at_73) rfl ?_
  refine g_iloadN X0 hx (hb hby at_75) rfl ?_
  refine g_istore X0 hx #[.val (.int p1), .val (.int p2), .val (.int p3), .val (.int p4), .val (.int p5), .val (.int p6), .val (.ref ahb), .val v1, .val v2, .val (.int cs), .val (.int cg), .val (.int (((p5.toUInt32 >>> ((4 : Int32) &&& 31).toUInt32).toInt32) &&& (3 : Int32))), .val (.int p3), .unset, .unset, .unset, .unset, .unset, .unset, .unset, .unset, .unset, .unset, .unset] (hb hby at_76) rfl ?_
  refine g_iload X0 hx (hb hby at_78) rfl ?_
  by_cases c80_1 : cs = (0 : Int32)
  · refine g_ifYes X0 hx 86 (hb hby at_80) ((if0 _ _).trans (teq c80_1).1) (by decide) (by decide) ?_
    show Go p e below (s₁.setTop (mkF m 86 #[.val (.int p1), .val (.int p2), .val (.int p3), .val (.int p4), .val (.int p5), .val (.int p6), .val (.ref ahb), .val v1, .val v2, .val (.int cs), .val (.int cg), .val (.int (((p5.toUInt32 >>> ((4 : Int32) &&& 31).toUInt32).toInt32) &&& (3 : Int32))), .val (.int p3), .unset, .unset, .unset, .unset, .unset, .unset, .unset, .unset, .unset, .unset, .unset] [])) _
    exact seg_5 l Z a0 hw p1 p2 p3 p4 p5 p6 ahb zc v1 v2 cs cg (((p5.toUInt32 >>> ((4 : Int32) &&& 31).toUInt32).toInt32) &&& (3 : Int32)) p3 h0 n0 Z0 h1 h2 (Or.inr ⟨c80_1, rfl⟩) S_COMPACT_STRINGS hzc hx hby hml hown hnm hret hlk hZ X0 e0 N0
  · refine g_ifNo X0 hx (hb hby at_80) ((if0 _ _).trans (feq c80_1).1) ?_
    refine g_iloadN X0 hx (hb hby at_83) rfl ?_
    refine g_istore X0 hx #[.val (.int p1), .val (.int p2), .val (.int p3), .val (.int p4), .val (.int p5), .val (.int p6), .val (.ref ahb), .val v1, .val v2, .val (.int cs), .val (.int cg), .val (.int (((p5.toUInt32 >>> ((4 : Int32) &&& 31).toUInt32).toInt32) &&& (3 : Int32))), .val (.int p1), .unset, .unset, .unset, .unset, .unset, .unset, .unset, .unset, .unset, .unset, .unset] (hb hby at_84) rfl ?_
    show Go p e below (s₁.setTop (mkF m 86 #[.val (.int p1), .val (.int p2), .val (.int p3), .val (.int p4), .val (.int p5), .val (.int p6), .val (.ref ahb), .val v1, .val v2, .val (.int cs), .val (.int cg), .val (.int (((p5.toUInt32 >>> ((4 : Int32) &&& 31).toUInt32).toInt32) &&& (3 : Int32))), .val (.int p1), .unset, .unset, .unset, .unset, .unset, .unset, .unset, .unset, .unset, .unset, .unset] [])) _
    exact seg_5 l Z a0 hw p1 p2 p3 p4 p5 p6 ahb zc v1 v2 cs cg (((p5.toUInt32 >>> ((4 : Int32) &&& 31).toUInt32).toInt32) &&& (3 : Int32)) p1 h0 n0 Z0 h1 h2 (Or.inl ⟨c80_1, rfl⟩) S_COMPACT_STRINGS hzc hx hby hml hown hnm hret hlk hZ X0 e0 N0
set_option maxRecDepth 65536 in
set_option maxHeartbeats 40000000 in
theorem seg_3 (l : Launch) (Z : State) (a0 : Array Value) (hw : ∀ d ∈ tables_1, d.before a0 Z = true) (p1 : Int32) (p2 : Int32) (p3 : Int32) (p4 : Int32) (p5 : Int32) (p6 : Int32) (ahb : Addr) (zc : Int32) (v1 : Value) (v2 : Value) (cs : Int32) (h0 : Heap) (n0 : Nat) (Z0 : n0 ≤ h0.size) (h1 : own_H ahb (p5 &&& (1 : Int32)) v1) (h2 : own_H ahb (p5 &&& (2 : Int32)) v2) (S_COMPACT_STRINGS : Sta Z h0 "java/lang/String" "COMPACT_STRINGS" "Z" (.int zc)) (hzc : ¬ (zc = (0 : Int32))) {p : Program} {e : Env} {s : State} {m : MethodId} {below : List Frame} {meth : Method} {c : Code} {args : Array Value} {s₁ : State} {lo : List Loc} (hx : p.tables.exec = Jvm.exec) (hby : c.code = code) (hml : c.maxLocals = maxLocals) (hown : s.vm.findClass "com/example/watermark/watermark/store/BatchEqualsPinLaw" = some m.cls) (hnm : meth.name = "law") (hret : meth.sig.returnType = ret) (hlk : meth.locks = false) (hZ : Z.Warmed39 s.vm) (X0 : Stand p l e room_1 s m args below meth c s₁ lo 278 806) (e0 : s₁.heap = h0) (N0 : Fr n0 lo) :
    Go p e below (s₁.setTop (mkF m 52 #[.val (.int p1), .val (.int p2), .val (.int p3), .val (.int p4), .val (.int p5), .val (.int p6), .val (.ref ahb), .val v1, .val v2, .val (.int cs), .unset, .unset, .unset, .unset, .unset, .unset, .unset, .unset, .unset, .unset, .unset, .unset, .unset, .unset] [])) (FinE s room_1.cells room_1.slots (fun v h L => v = some (.int 1) ∧ Fr n0 L)) := by
  show Go p e below (s₁.setTop (mkF m 52 #[.val (.int p1), .val (.int p2), .val (.int p3), .val (.int p4), .val (.int p5), .val (.int p6), .val (.ref ahb), .val v1, .val v2, .val (.int cs), .unset, .unset, .unset, .unset, .unset, .unset, .unset, .unset, .unset, .unset, .unset, .unset, .unset, .unset] [])) _
  refine g_iload X0 hx (hb hby at_52) rfl ?_
  refine g_bipush X0 hx (8 : Int32) (hb hby at_54) (by decide) ?_
  refine g_iand X0 hx (hb hby at_56) ?_
  by_cases c57_1 : (p5 &&& (8 : Int32)) = (0 : Int32)
  · refine g_ifYes X0 hx 64 (hb hby at_57) ((if0 _ _).trans (teq c57_1).1) (by decide) (by decide) ?_
    refine g_iconst X0 hx (0 : Int32) (hb hby at_64) (by decide) ?_
    refine g_istore X0 hx #[.val (.int p1), .val (.int p2), .val (.int p3), .val (.int p4), .val (.int p5), .val (.int p6), .val (.ref ahb), .val v1, .val v2, .val (.int cs), .val (.int (0 : Int32)), .unset, .unset, .unset, .unset, .unset, .unset, .unset, .unset, .unset, .unset, .unset, .unset, .unset] (hb hby at_65) rfl ?_
    show Go p e below (s₁.setTop (mkF m 67 #[.val (.int p1), .val (.int p2), .val (.int p3), .val (.int p4), .val (.int p5), .val (.int p6), .val (.ref ahb), .val v1, .val v2, .val (.int cs), .val (.int (0 : Int32)), .unset, .unset, .unset, .unset, .unset, .unset, .unset, .unset, .unset, .unset, .unset, .unset, .unset] [])) _
    exact seg_4 l Z a0 hw p1 p2 p3 p4 p5 p6 ahb zc v1 v2 cs (0 : Int32) h0 n0 Z0 h1 h2 S_COMPACT_STRINGS hzc hx hby hml hown hnm hret hlk hZ X0 e0 N0
  · refine g_ifNo X0 hx (hb hby at_57) ((if0 _ _).trans (feq c57_1).1) ?_
    refine g_iconst X0 hx (1 : Int32) (hb hby at_60) (by decide) ?_
    refine g_goto X0 hx 65 (hb hby at_61) (by decide) (by decide) ?_
    refine g_istore X0 hx #[.val (.int p1), .val (.int p2), .val (.int p3), .val (.int p4), .val (.int p5), .val (.int p6), .val (.ref ahb), .val v1, .val v2, .val (.int cs), .val (.int (1 : Int32)), .unset, .unset, .unset, .unset, .unset, .unset, .unset, .unset, .unset, .unset, .unset, .unset, .unset] (hb hby at_65) rfl ?_
    show Go p e below (s₁.setTop (mkF m 67 #[.val (.int p1), .val (.int p2), .val (.int p3), .val (.int p4), .val (.int p5), .val (.int p6), .val (.ref ahb), .val v1, .val v2, .val (.int cs), .val (.int (1 : Int32)), .unset, .unset, .unset, .unset, .unset, .unset, .unset, .unset, .unset, .unset, .unset, .unset, .unset] [])) _
    exact seg_4 l Z a0 hw p1 p2 p3 p4 p5 p6 ahb zc v1 v2 cs (1 : Int32) h0 n0 Z0 h1 h2 S_COMPACT_STRINGS hzc hx hby hml hown hnm hret hlk hZ X0 e0 N0
set_option maxRecDepth 65536 in
set_option maxHeartbeats 40000000 in
theorem seg_2 (l : Launch) (Z : State) (a0 : Array Value) (hw : ∀ d ∈ tables_1, d.before a0 Z = true) (p1 : Int32) (p2 : Int32) (p3 : Int32) (p4 : Int32) (p5 : Int32) (p6 : Int32) (ahb : Addr) (zc : Int32) (v1 : Value) (v2 : Value) (h0 : Heap) (n0 : Nat) (Z0 : n0 ≤ h0.size) (h1 : own_H ahb (p5 &&& (1 : Int32)) v1) (h2 : own_H ahb (p5 &&& (2 : Int32)) v2) (S_COMPACT_STRINGS : Sta Z h0 "java/lang/String" "COMPACT_STRINGS" "Z" (.int zc)) (hzc : ¬ (zc = (0 : Int32))) {p : Program} {e : Env} {s : State} {m : MethodId} {below : List Frame} {meth : Method} {c : Code} {args : Array Value} {s₁ : State} {lo : List Loc} (hx : p.tables.exec = Jvm.exec) (hby : c.code = code) (hml : c.maxLocals = maxLocals) (hown : s.vm.findClass "com/example/watermark/watermark/store/BatchEqualsPinLaw" = some m.cls) (hnm : meth.name = "law") (hret : meth.sig.returnType = ret) (hlk : meth.locks = false) (hZ : Z.Warmed39 s.vm) (X0 : Stand p l e room_1 s m args below meth c s₁ lo 278 806) (e0 : s₁.heap = h0) (N0 : Fr n0 lo) :
    Go p e below (s₁.setTop (mkF m 38 #[.val (.int p1), .val (.int p2), .val (.int p3), .val (.int p4), .val (.int p5), .val (.int p6), .val (.ref ahb), .val v1, .val v2, .unset, .unset, .unset, .unset, .unset, .unset, .unset, .unset, .unset, .unset, .unset, .unset, .unset, .unset, .unset] [])) (FinE s room_1.cells room_1.slots (fun v h L => v = some (.int 1) ∧ Fr n0 L)) := by
  show Go p e below (s₁.setTop (mkF m 38 #[.val (.int p1), .val (.int p2), .val (.int p3), .val (.int p4), .val (.int p5), .val (.int p6), .val (.ref ahb), .val v1, .val v2, .unset, .unset, .unset, .unset, .unset, .unset, .unset, .unset, .unset, .unset, .unset, .unset, .unset, .unset, .unset] [])) _
  refine g_iload X0 hx (hb hby at_38) rfl ?_
  refine g_iconst X0 hx (4 : Int32) (hb hby at_40) (by decide) ?_
  refine g_iand X0 hx (hb hby at_41) ?_
  by_cases c42_1 : (p5 &&& (4 : Int32)) = (0 : Int32)
  · refine g_ifYes X0 hx 49 (hb hby at_42) ((if0 _ _).trans (teq c42_1).1) (by decide) (by decide) ?_
    refine g_iconst X0 hx (0 : Int32) (hb hby at_49) (by decide) ?_
    refine g_istore X0 hx #[.val (.int p1), .val (.int p2), .val (.int p3), .val (.int p4), .val (.int p5), .val (.int p6), .val (.ref ahb), .val v1, .val v2, .val (.int (0 : Int32)), .unset, .unset, .unset, .unset, .unset, .unset, .unset, .unset, .unset, .unset, .unset, .unset, .unset, .unset] (hb hby at_50) rfl ?_
    show Go p e below (s₁.setTop (mkF m 52 #[.val (.int p1), .val (.int p2), .val (.int p3), .val (.int p4), .val (.int p5), .val (.int p6), .val (.ref ahb), .val v1, .val v2, .val (.int (0 : Int32)), .unset, .unset, .unset, .unset, .unset, .unset, .unset, .unset, .unset, .unset, .unset, .unset, .unset, .unset] [])) _
    exact seg_3 l Z a0 hw p1 p2 p3 p4 p5 p6 ahb zc v1 v2 (0 : Int32) h0 n0 Z0 h1 h2 S_COMPACT_STRINGS hzc hx hby hml hown hnm hret hlk hZ X0 e0 N0
  · refine g_ifNo X0 hx (hb hby at_42) ((if0 _ _).trans (feq c42_1).1) ?_
    refine g_iconst X0 hx (1 : Int32) (hb hby at_45) (by decide) ?_
    refine g_goto X0 hx 50 (hb hby at_46) (by decide) (by decide) ?_
    refine g_istore X0 hx #[.val (.int p1), .val (.int p2), .val (.int p3), .val (.int p4), .val (.int p5), .val (.int p6), .val (.ref ahb), .val v1, .val v2, .val (.int (1 : Int32)), .unset, .unset, .unset, .unset, .unset, .unset, .unset, .unset, .unset, .unset, .unset, .unset, .unset, .unset] (hb hby at_50) rfl ?_
    show Go p e below (s₁.setTop (mkF m 52 #[.val (.int p1), .val (.int p2), .val (.int p3), .val (.int p4), .val (.int p5), .val (.int p6), .val (.ref ahb), .val v1, .val v2, .val (.int (1 : Int32)), .unset, .unset, .unset, .unset, .unset, .unset, .unset, .unset, .unset, .unset, .unset, .unset, .unset, .unset] [])) _
    exact seg_3 l Z a0 hw p1 p2 p3 p4 p5 p6 ahb zc v1 v2 (1 : Int32) h0 n0 Z0 h1 h2 S_COMPACT_STRINGS hzc hx hby hml hown hnm hret hlk hZ X0 e0 N0
set_option maxRecDepth 65536 in
set_option maxHeartbeats 40000000 in
theorem seg_1 (l : Launch) (Z : State) (a0 : Array Value) (hw : ∀ d ∈ tables_1, d.before a0 Z = true) (p1 : Int32) (p2 : Int32) (p3 : Int32) (p4 : Int32) (p5 : Int32) (p6 : Int32) (ahb : Addr) (zc : Int32) (v1 : Value) (h0 : Heap) (n0 : Nat) (Z0 : n0 ≤ h0.size) (h1 : own_H ahb (p5 &&& (1 : Int32)) v1) (S_COMPACT_STRINGS : Sta Z h0 "java/lang/String" "COMPACT_STRINGS" "Z" (.int zc)) (hzc : ¬ (zc = (0 : Int32))) {p : Program} {e : Env} {s : State} {m : MethodId} {below : List Frame} {meth : Method} {c : Code} {args : Array Value} {s₁ : State} {lo : List Loc} (hx : p.tables.exec = Jvm.exec) (hby : c.code = code) (hml : c.maxLocals = maxLocals) (hown : s.vm.findClass "com/example/watermark/watermark/store/BatchEqualsPinLaw" = some m.cls) (hnm : meth.name = "law") (hret : meth.sig.returnType = ret) (hlk : meth.locks = false) (hZ : Z.Warmed39 s.vm) (X0 : Stand p l e room_1 s m args below meth c s₁ lo 278 806) (e0 : s₁.heap = h0) (N0 : Fr n0 lo) :
    Go p e below (s₁.setTop (mkF m 24 #[.val (.int p1), .val (.int p2), .val (.int p3), .val (.int p4), .val (.int p5), .val (.int p6), .val (.ref ahb), .val v1, .unset, .unset, .unset, .unset, .unset, .unset, .unset, .unset, .unset, .unset, .unset, .unset, .unset, .unset, .unset, .unset] [])) (FinE s room_1.cells room_1.slots (fun v h L => v = some (.int 1) ∧ Fr n0 L)) := by
  show Go p e below (s₁.setTop (mkF m 24 #[.val (.int p1), .val (.int p2), .val (.int p3), .val (.int p4), .val (.int p5), .val (.int p6), .val (.ref ahb), .val v1, .unset, .unset, .unset, .unset, .unset, .unset, .unset, .unset, .unset, .unset, .unset, .unset, .unset, .unset, .unset, .unset] [])) _
  refine g_null X0 hx (hb hby at_24) ?_
  refine g_astore X0 hx #[.val (.int p1), .val (.int p2), .val (.int p3), .val (.int p4), .val (.int p5), .val (.int p6), .val (.ref ahb), .val v1, .val .null, .unset, .unset, .unset, .unset, .unset, .unset, .unset, .unset, .unset, .unset, .unset, .unset, .unset, .unset, .unset] (hb hby at_25) rfl rfl ?_
  refine g_iload X0 hx (hb hby at_27) rfl ?_
  refine g_iconst X0 hx (2 : Int32) (hb hby at_29) (by decide) ?_
  refine g_iand X0 hx (hb hby at_30) ?_
  by_cases c31_1 : (p5 &&& (2 : Int32)) = (0 : Int32)
  · refine g_ifYes X0 hx 38 (hb hby at_31) ((if0 _ _).trans (teq c31_1).1) (by decide) (by decide) ?_
    show Go p e below (s₁.setTop (mkF m 38 #[.val (.int p1), .val (.int p2), .val (.int p3), .val (.int p4), .val (.int p5), .val (.int p6), .val (.ref ahb), .val v1, .val .null, .unset, .unset, .unset, .unset, .unset, .unset, .unset, .unset, .unset, .unset, .unset, .unset, .unset, .unset, .unset] [])) _
    exact seg_2 l Z a0 hw p1 p2 p3 p4 p5 p6 ahb zc v1 .null h0 n0 Z0 h1 (Or.inr ⟨rfl, c31_1⟩) S_COMPACT_STRINGS hzc hx hby hml hown hnm hret hlk hZ X0 e0 N0
  · refine g_ifNo X0 hx (hb hby at_31) ((if0 _ _).trans (feq c31_1).1) ?_
    refine g_aload X0 hx (hb hby at_34) rfl rfl ?_
    refine g_astore X0 hx #[.val (.int p1), .val (.int p2), .val (.int p3), .val (.int p4), .val (.int p5), .val (.int p6), .val (.ref ahb), .val v1, .val (.ref ahb), .unset, .unset, .unset, .unset, .unset, .unset, .unset, .unset, .unset, .unset, .unset, .unset, .unset, .unset, .unset] (hb hby at_36) rfl rfl ?_
    show Go p e below (s₁.setTop (mkF m 38 #[.val (.int p1), .val (.int p2), .val (.int p3), .val (.int p4), .val (.int p5), .val (.int p6), .val (.ref ahb), .val v1, .val (.ref ahb), .unset, .unset, .unset, .unset, .unset, .unset, .unset, .unset, .unset, .unset, .unset, .unset, .unset, .unset, .unset] [])) _
    exact seg_2 l Z a0 hw p1 p2 p3 p4 p5 p6 ahb zc v1 (.ref ahb) h0 n0 Z0 h1 (Or.inl ⟨rfl, c31_1⟩) S_COMPACT_STRINGS hzc hx hby hml hown hnm hret hlk hZ X0 e0 N0
theorem pd_9 : parseMethodDescriptor "(Lcom/example/watermark/watermark/store/ItemHeap;)V" = some ⟨[(FieldType.object "com/example/watermark/watermark/store/ItemHeap")], none⟩ := by decide +kernel
theorem pn_7 : plainName "com/example/watermark/watermark/store/BatchEqualsPinLaw" = true := by first | (simp [plainName, overriddenIn]; done) | decide +kernel
theorem ef_rm_law (m : MethodId) (x0 : Int32) (x1 : Int32) (x2 : Int32) (x3 : Int32) (x4 : Int32) (x5 : Int32) : entryFrame m #[(.int x0), (.int x1), (.int x2), (.int x3), (.int x4), (.int x5)] maxLocals = mkF m 0 #[.val (.int x0), .val (.int x1), .val (.int x2), .val (.int x3), .val (.int x4), .val (.int x5), .unset, .unset, .unset, .unset, .unset, .unset, .unset, .unset, .unset, .unset, .unset, .unset, .unset, .unset, .unset, .unset, .unset, .unset] [] := by first | (simp [entryFrame, mkF, argsToLocals, Value.category, maxLocals]; done) | rfl
set_option maxRecDepth 65536 in
set_option maxHeartbeats 40000000 in
theorem rm_law (l : Launch) (Z : State) (a0 : Array Value) (hw : ∀ d ∈ tables_1, d.before a0 Z = true) (p1 : Int32) (p2 : Int32) (p3 : Int32) (p4 : Int32) (p5 : Int32) (p6 : Int32) (w_VAL : Addr) (kk : ClassId) (vs : List Value) (zc : Int32) (h0 : Heap) (n0 : Nat) (Z0 : n0 ≤ h0.size) (S__VALUES : Sta Z h0 "com/example/watermark/watermark/store/BatchState" "$VALUES" "[Lcom/example/watermark/watermark/store/BatchState;" (.ref w_VAL)) (V_w_VAL : Arv Z h0 w_VAL kk (FieldType.object "com/example/watermark/watermark/store/BatchState") (6 : Int32) vs .null) (E_w_VAL : Exa Z h0 w_VAL "[Lcom/example/watermark/watermark/store/BatchState;") (S_COMPACT_STRINGS : Sta Z h0 "java/lang/String" "COMPACT_STRINGS" "Z" (.int zc)) (hzc : ¬ (zc = (0 : Int32))) :
    Ctr l x code maxLocals ret tables_1 room_1 Z #[(.int p1), (.int p2), (.int p3), (.int p4), (.int p5), (.int p6)] h0 (fun v h L => v = some (.int 1) ∧ Fr n0 L) := by
  refine own_enter pn_7 (fun p e s m below meth c s₁ hx hby hml hown hnm hret hlk hZ X0 e0 => ?_)
  have N0 := Fr.nil n0
  rw [ef_rm_law m _ _ _ _ _ _]
  show Go p e below (s₁.setTop (mkF m 0 #[.val (.int p1), .val (.int p2), .val (.int p3), .val (.int p4), .val (.int p5), .val (.int p6), .unset, .unset, .unset, .unset, .unset, .unset, .unset, .unset, .unset, .unset, .unset, .unset, .unset, .unset, .unset, .unset, .unset, .unset] [])) _
  obtain ⟨T1, h1, X1, e1, E1, A1, D1, -, st1⟩ := newO X0 hx hZ hown (hw _ (List.mem_of_getElem? (i := 0) rfl)) (hw _ (List.mem_of_getElem? (i := 1) rfl)) (hw _ (List.mem_of_getElem? (i := 2) rfl)) e0 (g := (mkF m 0 #[.val (.int p1), .val (.int p2), .val (.int p3), .val (.int p4), .val (.int p5), .val (.int p6), .unset, .unset, .unset, .unset, .unset, .unset, .unset, .unset, .unset, .unset, .unset, .unset, .unset, .unset, .unset, .unset, .unset, .unset] [])) rfl (hb hby at_0) (by decide) (by decide)
  obtain ⟨b1, g1⟩ : ∃ z, z = h0.size := ⟨_, rfl⟩
  rw [← g1] at A1 D1 st1
  have ne_w_VAL_b1 : w_VAL ≠ b1 := Nat.ne_of_lt (Nat.lt_of_lt_of_le V_w_VAL.lt (Nat.le_of_eq g1.symm))
  have g_b1 : n0 ≤ b1 := Nat.le_trans Z0 (Nat.le_of_eq g1.symm)
  have Z1 : n0 ≤ h1.size := Nat.le_trans Z0 E1.1
  have S__VALUES_1 := Sta.ext E1 S__VALUES
  have V_w_VAL_1 := Arv.ext V_w_VAL E1
  have E_w_VAL_1 := Exa.ext E1 E_w_VAL
  have S_COMPACT_STRINGS_1 := Sta.ext E1 S_COMPACT_STRINGS
  have O1 : R_HB Z h1 b1 .null .null .null .null .null .null .null .null .null .null .null .null := ⟨A1, D1 (Or.inr (hw _ (List.mem_of_getElem? (i := 13) rfl))) (ty := (FieldType.object "java/lang/Object")) (by decide), D1 (Or.inr (hw _ (List.mem_of_getElem? (i := 16) rfl))) (ty := (FieldType.array (FieldType.object "java/lang/Object"))) (by decide), D1 (Or.inr (hw _ (List.mem_of_getElem? (i := 41) rfl))) (ty := (FieldType.array FieldType.long)) (by decide), D1 (Or.inl (hw _ (List.mem_of_getElem? (i := 44) rfl))) (ty := (FieldType.array FieldType.int)) (by decide), D1 (Or.inl (hw _ (List.mem_of_getElem? (i := 46) rfl))) (ty := (FieldType.array FieldType.int)) (by decide), D1 (Or.inl (hw _ (List.mem_of_getElem? (i := 48) rfl))) (ty := (FieldType.array FieldType.int)) (by decide), D1 (Or.inl (hw _ (List.mem_of_getElem? (i := 50) rfl))) (ty := (FieldType.array FieldType.int)) (by decide), D1 (Or.inl (hw _ (List.mem_of_getElem? (i := 53) rfl))) (ty := (FieldType.array FieldType.byte)) (by decide), D1 (Or.inl (hw _ (List.mem_of_getElem? (i := 55) rfl))) (ty := (FieldType.array FieldType.byte)) (by decide), D1 (Or.inl (hw _ (List.mem_of_getElem? (i := 57) rfl))) (ty := (FieldType.array FieldType.int)) (by decide), D1 (Or.inl (hw _ (List.mem_of_getElem? (i := 89) rfl))) (ty := (FieldType.object "com/example/watermark/watermark/store/HeldBatches$Fields")) (by decide), D1 (Or.inr (hw _ (List.mem_of_getElem? (i := 91) rfl))) (ty := (FieldType.object "com/example/watermark/watermark/store/ItemHeap")) (by decide)⟩
  refine Go.mp st1 ?_
  show Go p e below (T1.setTop (mkF m 3 #[.val (.int p1), .val (.int p2), .val (.int p3), .val (.int p4), .val (.int p5), .val (.int p6), .unset, .unset, .unset, .unset, .unset, .unset, .unset, .unset, .unset, .unset, .unset, .unset, .unset, .unset, .unset, .unset, .unset, .unset] [(.ref b1)])) _
  refine g_dup X1 hx (hb hby at_3) rfl ?_
  refine g_null X1 hx (hb hby at_4) ?_
  obtain ⟨v2, T2, L2, X2, q2, st2⟩ := own_callI X1 hx hZ (y := (⟨"com/example/watermark/watermark/store/HeldBatches", "<init>", "(Lcom/example/watermark/watermark/store/ItemHeap;)V"⟩ : MethodName)) (pc := 5) (Ls := #[.val (.int p1), .val (.int p2), .val (.int p3), .val (.int p4), .val (.int p5), .val (.int p6), .unset, .unset, .unset, .unset, .unset, .unset, .unset, .unset, .unset, .unset, .unset, .unset, .unset, .unset, .unset, .unset, .unset, .unset]) (st := [.null, (.ref b1), (.ref b1)]) hown (hw _ (List.mem_of_getElem? (i := 3) rfl)) (hw _ (List.mem_of_getElem? (i := 4) rfl)) (hw _ (List.mem_of_getElem? (i := 5) rfl)) (hw _ (List.mem_of_getElem? (i := 2) rfl)) rfl (by decide) (rm_hbInit l Z a0 hw b1 w_VAL kk vs h1 n0 Z1 S__VALUES_1 V_w_VAL_1 E_w_VAL_1 O1 g_b1) e1 pd_9 (hb hby at_5) (by rw [hml]; rfl) (argsL := [.null]) (rest := [(.ref b1)]) rfl rfl rfl (W := 1) (Nat.le_of_eq rfl) (by decide) (by decide) (by decide) (by decide)
  obtain ⟨rfl, M2, Kc2⟩ := q2
  have N2 := Fr.app N0 M2
  have S_COMPACT_STRINGS_2 := own_sta_keep S_COMPACT_STRINGS_1 Kc2 (own_plain O1.1 (fun _ q => nomatch q))
  have Z2 : n0 ≤ T2.heap.size := Nat.le_trans Z1 Kc2.1
  refine Go.mp st2 ?_
  show Go p e below (T2.setTop (mkF m 8 #[.val (.int p1), .val (.int p2), .val (.int p3), .val (.int p4), .val (.int p5), .val (.int p6), .unset, .unset, .unset, .unset, .unset, .unset, .unset, .unset, .unset, .unset, .unset, .unset, .unset, .unset, .unset, .unset, .unset, .unset] [(.ref b1)])) _
  refine g_astore X2 hx #[.val (.int p1), .val (.int p2), .val (.int p3), .val (.int p4), .val (.int p5), .val (.int p6), .val (.ref b1), .unset, .unset, .unset, .unset, .unset, .unset, .unset, .unset, .unset, .unset, .unset, .unset, .unset, .unset, .unset, .unset, .unset] (hb hby at_8) rfl rfl ?_
  refine g_null X2 hx (hb hby at_10) ?_
  refine g_astore X2 hx #[.val (.int p1), .val (.int p2), .val (.int p3), .val (.int p4), .val (.int p5), .val (.int p6), .val (.ref b1), .val .null, .unset, .unset, .unset, .unset, .unset, .unset, .unset, .unset, .unset, .unset, .unset, .unset, .unset, .unset, .unset, .unset] (hb hby at_11) rfl rfl ?_
  refine g_iload X2 hx (hb hby at_13) rfl ?_
  refine g_iconst X2 hx (1 : Int32) (hb hby at_15) (by decide) ?_
  refine g_iand X2 hx (hb hby at_16) ?_
  by_cases c17_3 : (p5 &&& (1 : Int32)) = (0 : Int32)
  · refine g_ifYes X2 hx 24 (hb hby at_17) ((if0 _ _).trans (teq c17_3).1) (by decide) (by decide) ?_
    show Go p e below (T2.setTop (mkF m 24 #[.val (.int p1), .val (.int p2), .val (.int p3), .val (.int p4), .val (.int p5), .val (.int p6), .val (.ref b1), .val .null, .unset, .unset, .unset, .unset, .unset, .unset, .unset, .unset, .unset, .unset, .unset, .unset, .unset, .unset, .unset, .unset] [])) _
    exact seg_1 l Z a0 hw p1 p2 p3 p4 p5 p6 b1 zc .null T2.heap n0 Z2 (Or.inr ⟨rfl, c17_3⟩) S_COMPACT_STRINGS_2 hzc hx hby hml hown hnm hret hlk hZ X2 (rfl : T2.heap = T2.heap) N2
  · refine g_ifNo X2 hx (hb hby at_17) ((if0 _ _).trans (feq c17_3).1) ?_
    refine g_aload X2 hx (hb hby at_20) rfl rfl ?_
    refine g_astore X2 hx #[.val (.int p1), .val (.int p2), .val (.int p3), .val (.int p4), .val (.int p5), .val (.int p6), .val (.ref b1), .val (.ref b1), .unset, .unset, .unset, .unset, .unset, .unset, .unset, .unset, .unset, .unset, .unset, .unset, .unset, .unset, .unset, .unset] (hb hby at_22) rfl rfl ?_
    show Go p e below (T2.setTop (mkF m 24 #[.val (.int p1), .val (.int p2), .val (.int p3), .val (.int p4), .val (.int p5), .val (.int p6), .val (.ref b1), .val (.ref b1), .unset, .unset, .unset, .unset, .unset, .unset, .unset, .unset, .unset, .unset, .unset, .unset, .unset, .unset, .unset, .unset] [])) _
    exact seg_1 l Z a0 hw p1 p2 p3 p4 p5 p6 b1 zc (.ref b1) T2.heap n0 Z2 (Or.inl ⟨rfl, c17_3⟩) S_COMPACT_STRINGS_2 hzc hx hby hml hown hnm hret hlk hZ X2 (rfl : T2.heap = T2.heap) N2
set_option maxRecDepth 65536 in
set_option maxHeartbeats 40000000 in
theorem comes_1 {Post : Tables → Env → Array Value → State → Outcome → State → Prop} (hpost : ∀ tb e args s v u, (limb_1_1.after args s (.returned v) u = true ∧ limb_1_2.after args s (.returned v) u = true ∧ True) → FrameEnd s (.returned v) u (Jvm.fieldLocs frame_1_writes args s ++ Jvm.arrayLocs frame_1_arrays args s ++ Jvm.staticLocs frame_1_statics s) 576 1728 → Post tb e args s (.returned v) u) :
    ArmFor flags0 classFile x code maxLocals ret World_1 tables_1 room_1 Calls_1 rest_1 Pre_1 Post := by
  intro l hfl _ _ p e ha hc hk s m args below hf hA hF happ hP
  obtain ⟨hcalls, hrest, hpre⟩ := hP
  obtain ⟨-, -, -, hnamed, -, -, -, hat⟩ := (Spec.applies_iff hf).mp happ
  obtain ⟨hg, hn⟩ := and_e (Cond.before_iff.mp (show (Jvm.Cond.and given_1 narrow_1).before args s = true from hpre))
  obtain ⟨hcnt, hg⟩ := and_e hg
  obtain ⟨w0, w1, w2, w3, w4, w5, rfl⟩ : ∃ w0 w1 w2 w3 w4 w5 : Value, args = #[w0, w1, w2, w3, w4, w5] := by
    have hs : args.size = 6 := by simpa [Cond.value, given_1] using hcnt
    obtain ⟨L⟩ := args
    match L, hs with
    | [w0, w1, w2, w3, w4, w5], _ => exact ⟨w0, w1, w2, w3, w4, w5, rfl⟩
  have hw := fun d (hd : d ∈ tables_1) => atoms_spec (ws := Jvm.Cond.code x code maxLocals ret :: tables_1) hat d (List.mem_cons_of_mem _ hd)
  obtain ⟨ha0, hg0⟩ := and_e hg
  obtain ⟨p1, ep1⟩ := is_v ha0
  obtain rfl : w0 = (.int p1) := Option.some.inj ep1
  obtain ⟨ha1, hg1⟩ := and_e hg0
  obtain ⟨p2, ep2⟩ := is_v ha1
  obtain rfl : w1 = (.int p2) := Option.some.inj ep2
  obtain ⟨ha2, hg2⟩ := and_e hg1
  obtain ⟨p3, ep3⟩ := is_v ha2
  obtain rfl : w2 = (.int p3) := Option.some.inj ep3
  obtain ⟨ha3, hg3⟩ := and_e hg2
  obtain ⟨p4, ep4⟩ := is_v ha3
  obtain rfl : w3 = (.int p4) := Option.some.inj ep4
  obtain ⟨ha4, hg4⟩ := and_e hg3
  obtain ⟨p5, ep5⟩ := is_v ha4
  obtain rfl : w4 = (.int p5) := Option.some.inj ep5
  obtain ⟨p6, ep6⟩ := is_v hg4
  obtain rfl : w5 = (.int p6) := Option.some.inj ep6
  obtain ⟨hn0, hm0⟩ := and_e hn
  have raw_0 := hn0
  obtain ⟨hn1, hm1⟩ := and_e hm0
  obtain ⟨w__VALUES, S__VALUES, E__VALUES, ev__VALUES⟩ := own_sta hn1 (hw _ (List.mem_of_getElem? (i := 19) rfl)) (hw _ (List.mem_of_getElem? (i := 22) rfl))
  obtain ⟨hn2, hm2⟩ := and_e hm1
  have raw_2 := hn2
  obtain ⟨hn3, hm3⟩ := and_e hm2
  obtain ⟨w_OPEN, S_OPEN, E_OPEN, ev_OPEN⟩ := own_sta hn3 (hw _ (List.mem_of_getElem? (i := 19) rfl)) (hw _ (List.mem_of_getElem? (i := 30) rfl))
  obtain ⟨hn4, hm4⟩ := and_e hm3
  have raw_4 := hn4
  obtain ⟨hn5, hm5⟩ := and_e hm4
  obtain ⟨w_CLOSED, S_CLOSED, E_CLOSED, ev_CLOSED⟩ := own_sta hn5 (hw _ (List.mem_of_getElem? (i := 19) rfl)) (hw _ (List.mem_of_getElem? (i := 31) rfl))
  obtain ⟨hn6, hm6⟩ := and_e hm5
  have raw_6 := hn6
  obtain ⟨hn7, hm7⟩ := and_e hm6
  obtain ⟨w_COMPLETE, S_COMPLETE, E_COMPLETE, ev_COMPLETE⟩ := own_sta hn7 (hw _ (List.mem_of_getElem? (i := 19) rfl)) (hw _ (List.mem_of_getElem? (i := 32) rfl))
  obtain ⟨hn8, hm8⟩ := and_e hm7
  have raw_8 := hn8
  obtain ⟨hn9, hm9⟩ := and_e hm8
  obtain ⟨w_EXPIRED, S_EXPIRED, E_EXPIRED, ev_EXPIRED⟩ := own_sta hn9 (hw _ (List.mem_of_getElem? (i := 19) rfl)) (hw _ (List.mem_of_getElem? (i := 33) rfl))
  obtain ⟨hn10, hm10⟩ := and_e hm9
  have raw_10 := hn10
  obtain ⟨hn11, hm11⟩ := and_e hm10
  obtain ⟨w_FAILED, S_FAILED, E_FAILED, ev_FAILED⟩ := own_sta hn11 (hw _ (List.mem_of_getElem? (i := 19) rfl)) (hw _ (List.mem_of_getElem? (i := 34) rfl))
  obtain ⟨hn12, hm12⟩ := and_e hm11
  have raw_12 := hn12
  obtain ⟨hn13, hm13⟩ := and_e hm12
  obtain ⟨w_CANCELLED, S_CANCELLED, E_CANCELLED, ev_CANCELLED⟩ := own_sta hn13 (hw _ (List.mem_of_getElem? (i := 19) rfl)) (hw _ (List.mem_of_getElem? (i := 35) rfl))
  have raw_14 := hm13
  obtain ⟨wV, cVAL, evV, A_V⟩ := own_arrOf raw_0
  cases evV.symm.trans ev__VALUES
  obtain ⟨lt_V, sz_V⟩ := own_arrLen A_V evV raw_2
  have hfit : Fit s := fun {y c} hc i hi => by
    obtain ⟨ha, rfl⟩ := Array.getElem?_eq_some_iff.mp hc
    have q := List.all_eq_true.mp ((Array.all_eq_true_iff_forall_mem.mp hF) _ (Array.getElem_mem ha)) i (List.mem_range.mpr hi)
    simpa [Array.getElem?_eq_getElem hi] using q
  have V_VAL : Arv s s.heap w__VALUES cVAL.cls (FieldType.object "com/example/watermark/watermark/store/BatchState") 6 [(.ref w_OPEN), (.ref w_CLOSED), (.ref w_COMPLETE), (.ref w_EXPIRED), (.ref w_FAILED), (.ref w_CANCELLED)] .null := Arv.start hfit A_V lt_V sz_V (by decide) rfl ⟨own_arrElem A_V evV ev_OPEN (by decide) raw_4, own_arrElem A_V evV ev_CLOSED (by decide) raw_6, own_arrElem A_V evV ev_COMPLETE (by decide) raw_8, own_arrElem A_V evV ev_EXPIRED (by decide) raw_10, own_arrElem A_V evV ev_FAILED (by decide) raw_12, own_arrElem A_V evV ev_CANCELLED (by decide) raw_14, trivial⟩
  obtain ⟨hsets, hown0⟩ := atoms_of _ (rest_1_c_eq ▸ (show rest_1_c.before _ s = true from hrest))
  obtain ⟨zc, e6⟩ := is_v (Cond.before_iff.mp (hsets _ (List.mem_of_getElem? (i := 1) rfl)))
  have S8 : Sta s s.heap "java/lang/String" "COMPACT_STRINGS" "Z" (.int zc) := Sta.start e6 (Or.inl (hsets _ (List.mem_of_getElem? (i := 0) rfl)))
  have n3 : ¬ (zc = (0 : Int32)) := gotF (Cond.eq_ints e6 (Term.int_eval (0))) (not_v (Cond.before_iff.mp (hsets _ (List.mem_of_getElem? (i := 2) rfl))))
  obtain ⟨n, o, h1, h2, h3, _, L, rfl, ⟨rfl, N⟩, hq⟩ := rm_law l s _ hw p1 p2 p3 p4 p5 p6 w__VALUES cVAL.cls _ zc s.heap s.heap.size (Nat.le_refl _) S__VALUES V_VAL E__VALUES S8 n3 p e ha hc hk s m _ below hf ((Spec.applies_iff_loose hf).mp happ).1 ⟨rfl, State.Warmed39.refl s, rfl⟩ trivial
  refine ⟨n, _, h1, h2, h3, hpost _ _ _ _ _ _ ⟨Cond.after_iff.mpr rfl, Cond.after_iff.mpr (eq_i res_at (Term.int_eval (1)) rfl), trivial⟩ ⟨hq.1, hq.2.1, (hq.2.2.sift fun y hy => Or.inr (N y hy)).mono (by decide) (by decide)⟩⟩
theorem main_1_1 : Claimed_1_1 := comes_1 fun _ _ _ _ _ _ h hF => ⟨h.1, hF⟩
theorem main_1_2 : Claimed_1_2 := comes_1 fun _ _ _ _ _ _ h hF => ⟨h.2.1, hF⟩
end Jvm.Pilot.@@N@@
namespace Jvm.Pilot.@@N@@
open Jvm Jvm.ClassFile Sem Op Lib Jvm.Free Jvm.Stand Jvm.Pilot.@@N@@.Jvm.D
/-! MADE BY PROGRAM (witnessworld.py) out of the Statement's table words and the real class files: 31 classes; the members and pool entries that the words name. The judged class is class 1, her method 1. -/
namespace start1
open Jvm.ClassFile
def u (s : String) : CpInfo := .utf8 (stringToUtf16 s)
/-- a pool by its gaps: so many unusable entries, then the entry; so many at the end -/
def gap : Nat → List CpInfo → List CpInfo
  | 0, r => r
  | n + 1, r => .unusable :: gap n r
def poolList (es : List (Nat × CpInfo)) (last : Nat) : List CpInfo := es.foldr (fun e r => gap e.1 (e.2 :: r)) (gap last [])
def pool (es : List (Nat × CpInfo)) (last : Nat) : Array CpInfo := ⟨poolList es last⟩
def fileOf (pool : Array CpInfo) (this : Nat) (attrs : Array Attribute := #[]) (ms : Array MethodInfo := #[]) (fl : Nat := 33) (sup : Nat := 0) (ifs : Array Nat := #[]) (fds : Array FieldInfo := #[]) : ClassFile where
  minorVersion := 0
  majorVersion := 65
  constantPool := pool
  accessFlags := fl
  thisClass := this
  superClass := sup
  interfaces := ifs
  fields := fds
  methods := ms
  attributes := attrs
def plain (name : String) (sup : Option ClassId) : Class where
  name := name
  kind := .ordinary
  loader := none
  accessFlags := 33
  super := sup
  interfaces := #[]
  cf := none
  fields := #[]
  methods := #[]
  instanceTypes := #[]
  staticTypes := #[]
  resolved := #[]
  callSites := []
  init := .initialized
  statics := none
  mirror := none

def pool0 : Array CpInfo := pool [(5, u "<init>"), (0, u "()V"), (1, .class_ 10), (1, u "java/lang/Object"), (85, u "clone"), (0, u "()Ljava/lang/Object;")] 26

def k0c0 : Code := { maxStack := 0, maxLocals := 1, code := object_method_1_code, exceptionTable := #[], attributes := #[] }
def k0m0 : Method := { name := "<init>", desc := "()V", sig := { parameters := [], returnType := none }, accessFlags := 1, code := some k0c0 }
def k0m1 : Method := { name := "clone", desc := "()Ljava/lang/Object;", sig := { parameters := [], returnType := some (.object "java/lang/Object") }, accessFlags := 260, code := none }
/-- java/lang/Object -/
def k0 : Class := { plain "java/lang/Object" none with
  accessFlags := 33
  interfaces := #[]
  cf := some (fileOf pool0 8 #[] #[{ accessFlags := 1, nameIndex := 5, descriptorIndex := 6, attributes := #[] }, { accessFlags := 260, nameIndex := 96, descriptorIndex := 97, attributes := #[] }] 33 0 #[] #[])
  fields := #[]
  methods := #[k0m0, k0m1]
  instanceTypes := #[]
  staticTypes := #[]
  resolved := Array.replicate 124 none
  statics := none }

def pool1 : Array CpInfo := pool [(2, .class_ 4), (1, u "java/lang/Object"), (0, u "<init>"), (0, u "()V"), (0, .class_ 8), (0, u "com/example/watermark/watermark/store/HeldBatches"), (0, .methodref 7 10), (0, .nameAndType 5 11), (0, u "(Lcom/example/watermark/watermark/store/ItemHeap;)V"), (0, .methodref 13 14), (0, .class_ 15), (0, .nameAndType 16 17), (0, u "java/lang/String"), (0, u "valueOf"), (0, u "(C)Ljava/lang/String;"), (0, .class_ 19), (0, u "com/example/watermark/watermark/store/Batch"), (0, .methodref 18 21), (0, .nameAndType 5 22), (0, u "(Lcom/example/watermark/watermark/store/HeldBatches;IILjava/lang/String;)V"), (0, .methodref 18 24), (0, .nameAndType 25 26), (0, u "equals"), (0, u "(Ljava/lang/Object;)Z"), (0, .class_ 28), (0, u "com/example/watermark/watermark/store/BatchEqualsPinLaw"), (2, u "law"), (0, u "(IIIIII)Z")] 3

def k1m0 : Method := { name := "<init>", desc := "()V", sig := { parameters := [], returnType := none }, accessFlags := 1, code := none }
def k1c1 : Code := { maxStack := 6, maxLocals := 24, code := code, exceptionTable := #[], attributes := #[] }
def k1m1 : Method := { name := "law", desc := "(IIIIII)Z", sig := { parameters := [.int, .int, .int, .int, .int, .int], returnType := some .boolean }, accessFlags := 9, code := some k1c1 }
/-- com/example/watermark/watermark/store/BatchEqualsPinLaw -/
def k1 : Class := { plain "com/example/watermark/watermark/store/BatchEqualsPinLaw" (some 0) with
  accessFlags := 49
  interfaces := #[]
  cf := some (fileOf pool1 27 #[] #[{ accessFlags := 1, nameIndex := 5, descriptorIndex := 6, attributes := #[] }, { accessFlags := 9, nameIndex := 31, descriptorIndex := 32, attributes := #[] }] 49 2 #[] #[])
  fields := #[]
  methods := #[k1m0, k1m1]
  instanceTypes := #[]
  staticTypes := #[]
  resolved := Array.replicate 36 none
  statics := none }

def pool2 : Array CpInfo := pool [(1, .methodref 2 3), (0, .class_ 4), (0, .nameAndType 5 6), (0, u "java/lang/Object"), (0, u "<init>"), (0, u "()V"), (0, .fieldref 8 9), (0, .class_ 10), (0, .nameAndType 11 12), (0, u "com/example/watermark/watermark/store/HeldBatches"), (0, u "index"), (0, u "Ljava/lang/Object;"), (0, .fieldref 8 14), (0, .nameAndType 15 16), (0, u "locks"), (0, u "[Ljava/lang/Object;"), (0, .methodref 18 19), (0, .class_ 20), (0, .nameAndType 21 22), (0, u "com/example/watermark/watermark/store/BatchState"), (0, u "values"), (0, u "()[Lcom/example/watermark/watermark/store/BatchState;"), (0, .fieldref 8 24), (0, .nameAndType 25 26), (0, u "counts"), (0, u "[J"), (2, .fieldref 8 30), (0, .nameAndType 31 32), (0, u "chainHeads"), (0, u "[I"), (0, .fieldref 8 34), (0, .nameAndType 35 32), (0, u "nextInChain"), (0, .fieldref 8 37), (0, .nameAndType 38 32), (0, u "hashes"), (0, .fieldref 8 40), (0, .nameAndType 41 32), (0, u "idStarts"), (0, .fieldref 8 43), (0, .nameAndType 44 45), (0, u "idLengths"), (0, u "[B"), (0, .fieldref 8 47), (0, .nameAndType 48 45), (0, u "idBytes"), (0, .fieldref 8 50), (0, .nameAndType 51 32), (0, u "freeSlots"), (0, .class_ 53), (0, u "com/example/watermark/watermark/store/HeldBatches$Fields"), (0, .methodref 52 55), (0, .nameAndType 5 56), (0, u "(I)V"), (0, .fieldref 8 58), (0, .nameAndType 59 60), (0, u "fields"), (0, u "Lcom/example/watermark/watermark/store/HeldBatches$Fields;"), (0, .fieldref 8 62), (0, .nameAndType 63 64), (0, u "heap"), (0, u "Lcom/example/watermark/watermark/store/ItemHeap;"), (0, .methodref 66 67), (0, .class_ 68), (0, .nameAndType 69 70), (0, u "java/util/Arrays"), (0, u "fill"), (0, u "([II)V"), (31, u "slotsUsed"), (0, u "I"), (2, u "freeCount"), (71, u "outstanding"), (0, u "J"), (42, u "idBytesFreed"), (34, u "STATES"), (0, u "[Lcom/example/watermark/watermark/store/BatchState;"), (27, u "idBytesUsed"), (14, u "LOCKS"), (2, u "NO_SLOT"), (1, u "(Lcom/example/watermark/watermark/store/ItemHeap;)V")] 45

def k2c0 : Code := { maxStack := 4, maxLocals := 3, code := prog_31_method_1_code, exceptionTable := #[], attributes := #[] }
def k2m0 : Method := { name := "<init>", desc := "(Lcom/example/watermark/watermark/store/ItemHeap;)V", sig := { parameters := [(.object "com/example/watermark/watermark/store/ItemHeap")], returnType := none }, accessFlags := 0, code := some k2c0 }
/-- com/example/watermark/watermark/store/HeldBatches -/
def k2 : Class := { plain "com/example/watermark/watermark/store/HeldBatches" (some 0) with
  accessFlags := 32
  interfaces := #[]
  cf := some (fileOf pool2 8 #[.nestMembers #[52]] #[{ accessFlags := 0, nameIndex := 5, descriptorIndex := 306, attributes := #[] }] 32 2 #[] #[{ accessFlags := 26, nameIndex := 301, descriptorIndex := 103, attributes := #[] }, { accessFlags := 26, nameIndex := 304, descriptorIndex := 103, attributes := #[] }, { accessFlags := 26, nameIndex := 257, descriptorIndex := 258, attributes := #[] }, { accessFlags := 18, nameIndex := 11, descriptorIndex := 12, attributes := #[] }, { accessFlags := 18, nameIndex := 15, descriptorIndex := 16, attributes := #[] }, { accessFlags := 18, nameIndex := 25, descriptorIndex := 26, attributes := #[] }, { accessFlags := 2, nameIndex := 178, descriptorIndex := 179, attributes := #[] }, { accessFlags := 18, nameIndex := 63, descriptorIndex := 64, attributes := #[] }, { accessFlags := 2, nameIndex := 31, descriptorIndex := 32, attributes := #[] }, { accessFlags := 2, nameIndex := 35, descriptorIndex := 32, attributes := #[] }, { accessFlags := 2, nameIndex := 38, descriptorIndex := 32, attributes := #[] }, { accessFlags := 2, nameIndex := 41, descriptorIndex := 32, attributes := #[] }, { accessFlags := 2, nameIndex := 44, descriptorIndex := 45, attributes := #[] }, { accessFlags := 2, nameIndex := 48, descriptorIndex := 45, attributes := #[] }, { accessFlags := 2, nameIndex := 286, descriptorIndex := 103, attributes := #[] }, { accessFlags := 2, nameIndex := 222, descriptorIndex := 103, attributes := #[] }, { accessFlags := 2, nameIndex := 51, descriptorIndex := 32, attributes := #[] }, { accessFlags := 2, nameIndex := 106, descriptorIndex := 103, attributes := #[] }, { accessFlags := 2, nameIndex := 102, descriptorIndex := 103, attributes := #[] }, { accessFlags := 66, nameIndex := 59, descriptorIndex := 60, attributes := #[] }])
  fields := #[{ name := "LOCKS", type := .int, accessFlags := 26, slot := 0, constantValue := 0 }, { name := "NO_SLOT", type := .int, accessFlags := 26, slot := 1, constantValue := 0 }, { name := "STATES", type := (.array (.object "com/example/watermark/watermark/store/BatchState")), accessFlags := 26, slot := 2, constantValue := 0 }, { name := "index", type := (.object "java/lang/Object"), accessFlags := 18, slot := 0, constantValue := 0 }, { name := "locks", type := (.array (.object "java/lang/Object")), accessFlags := 18, slot := 1, constantValue := 0 }, { name := "counts", type := (.array .long), accessFlags := 18, slot := 2, constantValue := 0 }, { name := "outstanding", type := .long, accessFlags := 2, slot := 3, constantValue := 0 }, { name := "heap", type := (.object "com/example/watermark/watermark/store/ItemHeap"), accessFlags := 18, slot := 4, constantValue := 0 }, { name := "chainHeads", type := (.array .int), accessFlags := 2, slot := 5, constantValue := 0 }, { name := "nextInChain", type := (.array .int), accessFlags := 2, slot := 6, constantValue := 0 }, { name := "hashes", type := (.array .int), accessFlags := 2, slot := 7, constantValue := 0 }, { name := "idStarts", type := (.array .int), accessFlags := 2, slot := 8, constantValue := 0 }, { name := "idLengths", type := (.array .byte), accessFlags := 2, slot := 9, constantValue := 0 }, { name := "idBytes", type := (.array .byte), accessFlags := 2, slot := 10, constantValue := 0 }, { name := "idBytesUsed", type := .int, accessFlags := 2, slot := 11, constantValue := 0 }, { name := "idBytesFreed", type := .int, accessFlags := 2, slot := 12, constantValue := 0 }, { name := "freeSlots", type := (.array .int), accessFlags := 2, slot := 13, constantValue := 0 }, { name := "freeCount", type := .int, accessFlags := 2, slot := 14, constantValue := 0 }, { name := "slotsUsed", type := .int, accessFlags := 2, slot := 15, constantValue := 0 }, { name := "fields", type := (.object "com/example/watermark/watermark/store/HeldBatches$Fields"), accessFlags := 66, slot := 16, constantValue := 0 }]
  methods := #[k2m0]
  instanceTypes := #[(.object "java/lang/Object"), (.array (.object "java/lang/Object")), (.array .long), .long, (.object "com/example/watermark/watermark/store/ItemHeap"), (.array .int), (.array .int), (.array .int), (.array .int), (.array .byte), (.array .byte), .int, .int, (.array .int), .int, .int, (.object "com/example/watermark/watermark/store/HeldBatches$Fields")]
  staticTypes := #[.int, .int, (.array (.object "com/example/watermark/watermark/store/BatchState"))]
  resolved := Array.replicate 352 none
  statics := none }

def pool3 : Array CpInfo := pool [(1, .class_ 2), (0, u "java/lang/constant/Constable"), (0, .class_ 4), (0, u "java/lang/Object")] 6

/-- java/lang/constant/Constable -/
def k3 : Class := { plain "java/lang/constant/Constable" (some 0) with
  accessFlags := 1537
  interfaces := #[]
  cf := some (fileOf pool3 1 #[] #[] 1537 3 #[] #[])
  fields := #[]
  methods := #[]
  instanceTypes := #[]
  staticTypes := #[]
  resolved := Array.replicate 11 none
  statics := none }

def pool4 : Array CpInfo := pool [(1, .class_ 2), (0, u "java/lang/Comparable"), (0, .class_ 4), (0, u "java/lang/Object")] 7

/-- java/lang/Comparable -/
def k4 : Class := { plain "java/lang/Comparable" (some 0) with
  accessFlags := 1537
  interfaces := #[]
  cf := some (fileOf pool4 1 #[] #[] 1537 3 #[] #[])
  fields := #[]
  methods := #[]
  instanceTypes := #[]
  staticTypes := #[]
  resolved := Array.replicate 12 none
  statics := none }

def pool5 : Array CpInfo := pool [(1, .class_ 2), (0, u "java/io/Serializable"), (0, .class_ 4), (0, u "java/lang/Object")] 2

/-- java/io/Serializable -/
def k5 : Class := { plain "java/io/Serializable" (some 0) with
  accessFlags := 1537
  interfaces := #[]
  cf := some (fileOf pool5 1 #[] #[] 1537 3 #[] #[])
  fields := #[]
  methods := #[]
  instanceTypes := #[]
  staticTypes := #[]
  resolved := Array.replicate 7 none
  statics := none }

def pool6 : Array CpInfo := pool [(2, .class_ 4), (1, u "java/lang/Enum"), (0, u "name"), (0, u "Ljava/lang/String;"), (2, u "ordinal"), (0, u "I"), (1, .class_ 14), (1, u "java/lang/Object"), (4, u "hash"), (86, .class_ 108), (1, u "java/lang/Enum$EnumDesc"), (2, .class_ 112), (0, u "java/lang/constant/Constable"), (0, .class_ 114), (0, u "java/lang/Comparable"), (0, .class_ 116), (0, u "java/io/Serializable")] 87

/-- java/lang/Enum -/
def k6 : Class := { plain "java/lang/Enum" (some 0) with
  accessFlags := 1057
  interfaces := #[3, 4, 5]
  cf := some (fileOf pool6 2 #[.nestMembers #[106]] #[] 1057 12 #[111, 113, 115] #[{ accessFlags := 18, nameIndex := 5, descriptorIndex := 6, attributes := #[] }, { accessFlags := 18, nameIndex := 9, descriptorIndex := 10, attributes := #[] }, { accessFlags := 2, nameIndex := 19, descriptorIndex := 10, attributes := #[] }])
  fields := #[{ name := "name", type := (.object "java/lang/String"), accessFlags := 18, slot := 0, constantValue := 0 }, { name := "ordinal", type := .int, accessFlags := 18, slot := 1, constantValue := 0 }, { name := "hash", type := .int, accessFlags := 2, slot := 2, constantValue := 0 }]
  methods := #[]
  instanceTypes := #[(.object "java/lang/String"), .int, .int]
  staticTypes := #[]
  resolved := Array.replicate 204 none
  statics := none }

def pool7 : Array CpInfo := pool [(1, .class_ 2), (0, u "com/example/watermark/watermark/store/BatchState"), (2, u "OPEN"), (0, u "Lcom/example/watermark/watermark/store/BatchState;"), (2, u "CLOSED"), (2, u "COMPLETE"), (2, u "EXPIRED"), (2, u "FAILED"), (2, u "CANCELLED"), (0, .fieldref 1 23), (0, .nameAndType 24 25), (0, u "$VALUES"), (0, u "[Lcom/example/watermark/watermark/store/BatchState;"), (0, .methodref 27 28), (0, .class_ 25), (0, .nameAndType 29 30), (0, u "clone"), (0, u "()Ljava/lang/Object;"), (1, .class_ 34), (1, u "java/lang/Enum"), (8, u "jsonName"), (0, u "Ljava/lang/String;"), (28, u "()[Lcom/example/watermark/watermark/store/BatchState;"), (0, u "values")] 16

def k7c0 : Code := { maxStack := 1, maxLocals := 0, code := prog_16_method_1_code, exceptionTable := #[], attributes := #[] }
def k7m0 : Method := { name := "values", desc := "()[Lcom/example/watermark/watermark/store/BatchState;", sig := { parameters := [], returnType := some (.array (.object "com/example/watermark/watermark/store/BatchState")) }, accessFlags := 9, code := some k7c0 }
/-- com/example/watermark/watermark/store/BatchState -/
def k7 : Class := { plain "com/example/watermark/watermark/store/BatchState" (some 6) with
  accessFlags := 16433
  interfaces := #[]
  cf := some (fileOf pool7 1 #[] #[{ accessFlags := 9, nameIndex := 74, descriptorIndex := 73, attributes := #[] }] 16433 32 #[] #[{ accessFlags := 16409, nameIndex := 5, descriptorIndex := 6, attributes := #[] }, { accessFlags := 16409, nameIndex := 9, descriptorIndex := 6, attributes := #[] }, { accessFlags := 16409, nameIndex := 12, descriptorIndex := 6, attributes := #[] }, { accessFlags := 16409, nameIndex := 15, descriptorIndex := 6, attributes := #[] }, { accessFlags := 16409, nameIndex := 18, descriptorIndex := 6, attributes := #[] }, { accessFlags := 16409, nameIndex := 21, descriptorIndex := 6, attributes := #[] }, { accessFlags := 18, nameIndex := 43, descriptorIndex := 44, attributes := #[] }, { accessFlags := 4122, nameIndex := 24, descriptorIndex := 25, attributes := #[] }])
  fields := #[{ name := "OPEN", type := (.object "com/example/watermark/watermark/store/BatchState"), accessFlags := 16409, slot := 0, constantValue := 0 }, { name := "CLOSED", type := (.object "com/example/watermark/watermark/store/BatchState"), accessFlags := 16409, slot := 1, constantValue := 0 }, { name := "COMPLETE", type := (.object "com/example/watermark/watermark/store/BatchState"), accessFlags := 16409, slot := 2, constantValue := 0 }, { name := "EXPIRED", type := (.object "com/example/watermark/watermark/store/BatchState"), accessFlags := 16409, slot := 3, constantValue := 0 }, { name := "FAILED", type := (.object "com/example/watermark/watermark/store/BatchState"), accessFlags := 16409, slot := 4, constantValue := 0 }, { name := "CANCELLED", type := (.object "com/example/watermark/watermark/store/BatchState"), accessFlags := 16409, slot := 5, constantValue := 0 }, { name := "jsonName", type := (.object "java/lang/String"), accessFlags := 18, slot := 3, constantValue := 0 }, { name := "$VALUES", type := (.array (.object "com/example/watermark/watermark/store/BatchState")), accessFlags := 4122, slot := 6, constantValue := 0 }]
  methods := #[k7m0]
  instanceTypes := #[(.object "java/lang/String"), .int, .int, (.object "java/lang/String")]
  staticTypes := #[(.object "com/example/watermark/watermark/store/BatchState"), (.object "com/example/watermark/watermark/store/BatchState"), (.object "com/example/watermark/watermark/store/BatchState"), (.object "com/example/watermark/watermark/store/BatchState"), (.object "com/example/watermark/watermark/store/BatchState"), (.object "com/example/watermark/watermark/store/BatchState"), (.array (.object "com/example/watermark/watermark/store/BatchState"))]
  resolved := Array.replicate 91 none
  statics := some 0 }

def pool8 : Array CpInfo := pool [(1, .class_ 2), (0, u "java/lang/Cloneable"), (0, .class_ 4), (0, u "java/lang/Object")] 2

/-- java/lang/Cloneable -/
def k8 : Class := { plain "java/lang/Cloneable" (some 0) with
  accessFlags := 1537
  interfaces := #[]
  cf := some (fileOf pool8 1 #[] #[] 1537 3 #[] #[])
  fields := #[]
  methods := #[]
  instanceTypes := #[]
  staticTypes := #[]
  resolved := Array.replicate 7 none
  statics := none }

def pool9 : Array CpInfo := pool [(1, .methodref 2 3), (0, .class_ 4), (0, .nameAndType 5 6), (0, u "java/lang/Object"), (0, u "<init>"), (0, u "()V"), (0, .fieldref 8 9), (0, .class_ 10), (0, .nameAndType 11 12), (0, u "com/example/watermark/watermark/store/HeldBatches$Fields"), (0, u "generations"), (0, u "[I"), (0, .fieldref 8 14), (0, .nameAndType 15 16), (0, u "states"), (0, u "[B"), (0, .fieldref 8 18), (0, .nameAndType 19 20), (0, u "changedAts"), (0, u "[J"), (0, .fieldref 8 22), (0, .nameAndType 23 24), (0, u "hasDeadlines"), (0, u "[Z"), (0, .fieldref 8 26), (0, .nameAndType 27 12), (0, u "deadlineSeconds"), (0, .fieldref 8 29), (0, .nameAndType 30 20), (0, u "deadlineAts"), (0, .fieldref 8 32), (0, .nameAndType 33 24), (0, u "endsOnFailure"), (0, .class_ 35), (0, u "java/lang/String"), (0, .fieldref 8 37), (0, .nameAndType 38 39), (0, u "userKeys"), (0, u "[Ljava/lang/String;"), (0, .class_ 41), (0, u "com/example/watermark/watermark/store/BatchItems"), (0, .fieldref 8 43), (0, .nameAndType 44 45), (0, u "items"), (0, u "[Lcom/example/watermark/watermark/store/BatchItems;"), (20, u "(I)V"), (6, .class_ 74), (0, u "com/example/watermark/watermark/store/HeldBatches")] 2

def k9c0 : Code := { maxStack := 2, maxLocals := 2, code := prog_32_method_1_code, exceptionTable := #[], attributes := #[] }
def k9m0 : Method := { name := "<init>", desc := "(I)V", sig := { parameters := [.int], returnType := none }, accessFlags := 0, code := some k9c0 }
/-- com/example/watermark/watermark/store/HeldBatches$Fields -/
def k9 : Class := { plain "com/example/watermark/watermark/store/HeldBatches$Fields" (some 0) with
  accessFlags := 32
  interfaces := #[]
  cf := some (fileOf pool9 8 #[.nestHost 73] #[{ accessFlags := 0, nameIndex := 5, descriptorIndex := 66, attributes := #[] }] 32 2 #[] #[{ accessFlags := 18, nameIndex := 11, descriptorIndex := 12, attributes := #[] }, { accessFlags := 18, nameIndex := 15, descriptorIndex := 16, attributes := #[] }, { accessFlags := 18, nameIndex := 19, descriptorIndex := 20, attributes := #[] }, { accessFlags := 18, nameIndex := 23, descriptorIndex := 24, attributes := #[] }, { accessFlags := 18, nameIndex := 27, descriptorIndex := 12, attributes := #[] }, { accessFlags := 18, nameIndex := 30, descriptorIndex := 20, attributes := #[] }, { accessFlags := 18, nameIndex := 33, descriptorIndex := 24, attributes := #[] }, { accessFlags := 18, nameIndex := 38, descriptorIndex := 39, attributes := #[] }, { accessFlags := 18, nameIndex := 44, descriptorIndex := 45, attributes := #[] }])
  fields := #[{ name := "generations", type := (.array .int), accessFlags := 18, slot := 0, constantValue := 0 }, { name := "states", type := (.array .byte), accessFlags := 18, slot := 1, constantValue := 0 }, { name := "changedAts", type := (.array .long), accessFlags := 18, slot := 2, constantValue := 0 }, { name := "hasDeadlines", type := (.array .boolean), accessFlags := 18, slot := 3, constantValue := 0 }, { name := "deadlineSeconds", type := (.array .int), accessFlags := 18, slot := 4, constantValue := 0 }, { name := "deadlineAts", type := (.array .long), accessFlags := 18, slot := 5, constantValue := 0 }, { name := "endsOnFailure", type := (.array .boolean), accessFlags := 18, slot := 6, constantValue := 0 }, { name := "userKeys", type := (.array (.object "java/lang/String")), accessFlags := 18, slot := 7, constantValue := 0 }, { name := "items", type := (.array (.object "com/example/watermark/watermark/store/BatchItems")), accessFlags := 18, slot := 8, constantValue := 0 }]
  methods := #[k9m0]
  instanceTypes := #[(.array .int), (.array .byte), (.array .long), (.array .boolean), (.array .int), (.array .long), (.array .boolean), (.array (.object "java/lang/String")), (.array (.object "com/example/watermark/watermark/store/BatchItems"))]
  staticTypes := #[]
  resolved := Array.replicate 77 none
  statics := none }

def pool10 : Array CpInfo := pool [(2, .class_ 4), (1, u "java/lang/CharSequence"), (42, .class_ 48), (0, u "java/lang/CharSequence$1CodePointIterator"), (10, .class_ 60), (0, u "java/lang/CharSequence$1CharIterator"), (5, .class_ 67), (0, u "java/lang/Object")] 63

/-- java/lang/CharSequence -/
def k10 : Class := { plain "java/lang/CharSequence" (some 0) with
  accessFlags := 1537
  interfaces := #[]
  cf := some (fileOf pool10 2 #[.nestMembers #[47, 59]] #[] 1537 66 #[] #[])
  fields := #[]
  methods := #[]
  instanceTypes := #[]
  staticTypes := #[]
  resolved := Array.replicate 131 none
  statics := none }

def pool11 : Array CpInfo := pool [(1, .class_ 2), (0, u "java/lang/constant/ConstantDesc"), (0, .class_ 4), (0, u "java/lang/Object")] 32

/-- java/lang/constant/ConstantDesc -/
def k11 : Class := { plain "java/lang/constant/ConstantDesc" (some 0) with
  accessFlags := 1537
  interfaces := #[]
  cf := some (fileOf pool11 1 #[] #[] 1537 3 #[] #[])
  fields := #[]
  methods := #[]
  instanceTypes := #[]
  staticTypes := #[]
  resolved := Array.replicate 37 none
  statics := none }

def pool12 : Array CpInfo := pool [(1, .methodref 2 3), (0, .class_ 4), (0, .nameAndType 5 6), (0, u "java/lang/Object"), (0, u "<init>"), (0, u "()V"), (2, .fieldref 10 11), (0, .class_ 12), (0, .nameAndType 13 14), (0, u "java/lang/String"), (0, u "value"), (0, u "[B"), (0, .fieldref 10 16), (0, .nameAndType 17 18), (0, u "coder"), (0, u "B"), (2, u "hash"), (0, u "I"), (2, u "hashIsZero"), (0, u "Z"), (11, .fieldref 10 39), (0, .nameAndType 40 26), (0, u "COMPACT_STRINGS"), (12, u "toBytes"), (53, .class_ 109), (1, u "java/lang/StringLatin1"), (99, .methodref 10 210), (0, .nameAndType 5 211), (0, u "([BB)V"), (157, u "(C)Z"), (205, .class_ 576), (0, u "java/lang/CharSequence"), (22, u "CASE_INSENSITIVE_ORDER"), (0, u "Ljava/util/Comparator;"), (181, u "valueOf"), (0, u "(C)Ljava/lang/String;"), (231, .methodref 107 1016), (0, .nameAndType 1017 369), (0, u "canEncode"), (0, .methodref 107 1019), (0, .nameAndType 53 1020), (0, u "(C)[B"), (80, u "serialPersistentFields"), (0, u "[Ljava/io/ObjectStreamField;"), (0, .class_ 1104), (0, u "java/lang/String$CaseInsensitiveComparator"), (1, .class_ 1107), (0, u "java/io/Serializable"), (0, .class_ 1109), (0, u "java/lang/Comparable"), (0, .class_ 1111), (0, u "java/lang/constant/Constable"), (0, .class_ 1113), (0, u "java/lang/constant/ConstantDesc"), (2, u "serialVersionUID"), (0, u "J"), (3, u "REPL"), (0, u "C"), (2, u "LATIN1"), (1, u "UTF16")] 323

def k12m0 : Method := { name := "<init>", desc := "()V", sig := { parameters := [], returnType := none }, accessFlags := 1, code := none }
def k12c1 : Code := { maxStack := 4, maxLocals := 1, code := jdk_42_method_139_code, exceptionTable := #[], attributes := #[] }
def k12m1 : Method := { name := "valueOf", desc := "(C)Ljava/lang/String;", sig := { parameters := [.char], returnType := some (.object "java/lang/String") }, accessFlags := 9, code := some k12c1 }
def k12c2 : Code := { maxStack := 2, maxLocals := 3, code := jdk_42_method_151_code, exceptionTable := #[], attributes := #[] }
def k12m2 : Method := { name := "<init>", desc := "([BB)V", sig := { parameters := [(.array .byte), .byte], returnType := none }, accessFlags := 0, code := some k12c2 }
/-- java/lang/String -/
def k12 : Class := { plain "java/lang/String" (some 0) with
  accessFlags := 49
  interfaces := #[5, 4, 10, 3, 11]
  cf := some (fileOf pool12 10 #[.nestMembers #[1103]] #[{ accessFlags := 1, nameIndex := 5, descriptorIndex := 6, attributes := #[] }, { accessFlags := 9, nameIndex := 782, descriptorIndex := 783, attributes := #[] }, { accessFlags := 0, nameIndex := 5, descriptorIndex := 211, attributes := #[] }] 49 2 #[1106, 1108, 575, 1110, 1112] #[{ accessFlags := 18, nameIndex := 13, descriptorIndex := 14, attributes := #[] }, { accessFlags := 18, nameIndex := 17, descriptorIndex := 18, attributes := #[] }, { accessFlags := 2, nameIndex := 21, descriptorIndex := 22, attributes := #[] }, { accessFlags := 2, nameIndex := 25, descriptorIndex := 26, attributes := #[] }, { accessFlags := 26, nameIndex := 1116, descriptorIndex := 1117, attributes := #[] }, { accessFlags := 24, nameIndex := 40, descriptorIndex := 26, attributes := #[] }, { accessFlags := 26, nameIndex := 1101, descriptorIndex := 1102, attributes := #[] }, { accessFlags := 26, nameIndex := 1121, descriptorIndex := 1122, attributes := #[] }, { accessFlags := 25, nameIndex := 599, descriptorIndex := 600, attributes := #[] }, { accessFlags := 24, nameIndex := 1125, descriptorIndex := 18, attributes := #[] }, { accessFlags := 24, nameIndex := 1127, descriptorIndex := 18, attributes := #[] }])
  fields := #[{ name := "value", type := (.array .byte), accessFlags := 18, slot := 0, constantValue := 0 }, { name := "coder", type := .byte, accessFlags := 18, slot := 1, constantValue := 0 }, { name := "hash", type := .int, accessFlags := 2, slot := 2, constantValue := 0 }, { name := "hashIsZero", type := .boolean, accessFlags := 2, slot := 3, constantValue := 0 }, { name := "serialVersionUID", type := .long, accessFlags := 26, slot := 0, constantValue := 0 }, { name := "COMPACT_STRINGS", type := .boolean, accessFlags := 24, slot := 1, constantValue := 0 }, { name := "serialPersistentFields", type := (.array (.object "java/io/ObjectStreamField")), accessFlags := 26, slot := 2, constantValue := 0 }, { name := "REPL", type := .char, accessFlags := 26, slot := 3, constantValue := 0 }, { name := "CASE_INSENSITIVE_ORDER", type := (.object "java/util/Comparator"), accessFlags := 25, slot := 4, constantValue := 0 }, { name := "LATIN1", type := .byte, accessFlags := 24, slot := 5, constantValue := 0 }, { name := "UTF16", type := .byte, accessFlags := 24, slot := 6, constantValue := 0 }]
  methods := #[k12m0, k12m1, k12m2]
  instanceTypes := #[(.array .byte), .byte, .int, .boolean]
  staticTypes := #[.long, .boolean, (.array (.object "java/io/ObjectStreamField")), .char, (.object "java/util/Comparator"), .byte, .byte]
  resolved := Array.replicate 1451 none
  statics := some 1 }

def pool13 : Array CpInfo := pool [(2, .class_ 4), (1, u "java/lang/Object"), (0, u "<init>"), (0, u "()V"), (4, .class_ 13), (1, u "com/example/watermark/watermark/store/BatchItems"), (0, u "groups"), (0, u "Ljava/util/List;"), (5, u "outstandingGroups"), (0, u "Ljava/util/BitSet;"), (8, u "groupsByRequestKey"), (0, u "Ljava/util/Map;"), (2, u "total"), (0, u "J"), (2, u "acked"), (2, u "failed"), (183, .class_ 227), (0, u "com/example/watermark/watermark/store/BatchItems$Report")] 130

def k13m0 : Method := { name := "<init>", desc := "()V", sig := { parameters := [], returnType := none }, accessFlags := 0, code := none }
/-- com/example/watermark/watermark/store/BatchItems -/
def k13 : Class := { plain "com/example/watermark/watermark/store/BatchItems" (some 0) with
  accessFlags := 32
  interfaces := #[]
  cf := some (fileOf pool13 11 #[.nestMembers #[226]] #[{ accessFlags := 0, nameIndex := 5, descriptorIndex := 6, attributes := #[] }] 32 2 #[] #[{ accessFlags := 18, nameIndex := 14, descriptorIndex := 15, attributes := #[] }, { accessFlags := 18, nameIndex := 21, descriptorIndex := 22, attributes := #[] }, { accessFlags := 2, nameIndex := 31, descriptorIndex := 32, attributes := #[] }, { accessFlags := 2, nameIndex := 35, descriptorIndex := 36, attributes := #[] }, { accessFlags := 2, nameIndex := 39, descriptorIndex := 36, attributes := #[] }, { accessFlags := 2, nameIndex := 42, descriptorIndex := 36, attributes := #[] }])
  fields := #[{ name := "groups", type := (.object "java/util/List"), accessFlags := 18, slot := 0, constantValue := 0 }, { name := "outstandingGroups", type := (.object "java/util/BitSet"), accessFlags := 18, slot := 1, constantValue := 0 }, { name := "groupsByRequestKey", type := (.object "java/util/Map"), accessFlags := 2, slot := 2, constantValue := 0 }, { name := "total", type := .long, accessFlags := 2, slot := 3, constantValue := 0 }, { name := "acked", type := .long, accessFlags := 2, slot := 4, constantValue := 0 }, { name := "failed", type := .long, accessFlags := 2, slot := 5, constantValue := 0 }]
  methods := #[k13m0]
  instanceTypes := #[(.object "java/util/List"), (.object "java/util/BitSet"), (.object "java/util/Map"), .long, .long, .long]
  staticTypes := #[]
  resolved := Array.replicate 358 none
  statics := none }

def pool14 : Array CpInfo := pool [(2, .class_ 4), (1, u "java/lang/Object"), (0, u "<init>"), (0, u "()V"), (7, .class_ 16), (1, u "java/util/Arrays"), (57, .class_ 76), (1, u "java/util/Arrays$NaturalOrder"), (36, .class_ 115), (1, u "java/util/Arrays$LegacyMergeSort"), (1, u "Z"), (257, .class_ 376), (0, u "java/util/Arrays$ArrayList"), (68, u "$assertionsDisabled"), (269, u "MIN_ARRAY_SORT_GRAN"), (0, u "I"), (2, u "INSERTIONSORT_THRESHOLD"), (120, u "fill"), (4, u "([II)V"), (129, .class_ 976), (0, u "java/util/Arrays$ArrayItr")] 52

def k14m0 : Method := { name := "<init>", desc := "()V", sig := { parameters := [], returnType := none }, accessFlags := 2, code := none }
def k14c1 : Code := { maxStack := 3, maxLocals := 4, code := jdk_65_method_103_code, exceptionTable := #[], attributes := #[] }
def k14m1 : Method := { name := "fill", desc := "([II)V", sig := { parameters := [(.array .int), .int], returnType := none }, accessFlags := 9, code := some k14c1 }
/-- java/util/Arrays -/
def k14 : Class := { plain "java/util/Arrays" (some 0) with
  accessFlags := 49
  interfaces := #[]
  cf := some (fileOf pool14 14 #[.nestMembers #[975, 375, 113, 74]] #[{ accessFlags := 2, nameIndex := 5, descriptorIndex := 6, attributes := #[] }, { accessFlags := 9, nameIndex := 840, descriptorIndex := 845, attributes := #[] }] 49 2 #[] #[{ accessFlags := 26, nameIndex := 715, descriptorIndex := 716, attributes := #[] }, { accessFlags := 26, nameIndex := 719, descriptorIndex := 716, attributes := #[] }, { accessFlags := 4120, nameIndex := 445, descriptorIndex := 117, attributes := #[] }])
  fields := #[{ name := "MIN_ARRAY_SORT_GRAN", type := .int, accessFlags := 26, slot := 0, constantValue := 0 }, { name := "INSERTIONSORT_THRESHOLD", type := .int, accessFlags := 26, slot := 1, constantValue := 0 }, { name := "$assertionsDisabled", type := .boolean, accessFlags := 4120, slot := 2, constantValue := 0 }]
  methods := #[k14m0, k14m1]
  instanceTypes := #[]
  staticTypes := #[.int, .int, .boolean]
  resolved := Array.replicate 1029 none
  statics := none }

def pool15 : Array CpInfo := pool [(4, .class_ 6), (1, u "java/lang/Object"), (0, u "<init>"), (0, u "()V"), (5, .class_ 16), (1, u "java/lang/StringLatin1"), (73, u "canEncode"), (14, u "(C)Z"), (15, u "$assertionsDisabled"), (0, u "Z"), (98, .class_ 223), (1, u "java/lang/StringLatin1$LinesSpliterator"), (156, u "toBytes"), (1, u "(C)[B"), (7, .class_ 391), (0, u "java/lang/StringLatin1$CharsSpliterator")] 3

def k15m0 : Method := { name := "<init>", desc := "()V", sig := { parameters := [], returnType := none }, accessFlags := 0, code := none }
def k15c1 : Code := { maxStack := 2, maxLocals := 1, code := jdk_43_method_3_code, exceptionTable := #[], attributes := #[] }
def k15m1 : Method := { name := "canEncode", desc := "(C)Z", sig := { parameters := [.char], returnType := some .boolean }, accessFlags := 9, code := some k15c1 }
def k15c2 : Code := { maxStack := 4, maxLocals := 1, code := jdk_43_method_46_code, exceptionTable := #[], attributes := #[] }
def k15m2 : Method := { name := "toBytes", desc := "(C)[B", sig := { parameters := [.char], returnType := some (.array .byte) }, accessFlags := 9, code := some k15c2 }
/-- java/lang/StringLatin1 -/
def k15 : Class := { plain "java/lang/StringLatin1" (some 0) with
  accessFlags := 48
  interfaces := #[]
  cf := some (fileOf pool15 14 #[.nestMembers #[390, 221]] #[{ accessFlags := 0, nameIndex := 7, descriptorIndex := 8, attributes := #[] }, { accessFlags := 9, nameIndex := 90, descriptorIndex := 105, attributes := #[] }, { accessFlags := 9, nameIndex := 380, descriptorIndex := 382, attributes := #[] }] 48 4 #[] #[{ accessFlags := 4120, nameIndex := 121, descriptorIndex := 122, attributes := #[] }])
  fields := #[{ name := "$assertionsDisabled", type := .boolean, accessFlags := 4120, slot := 0, constantValue := 0 }]
  methods := #[k15m0, k15m1, k15m2]
  instanceTypes := #[]
  staticTypes := #[.boolean]
  resolved := Array.replicate 395 none
  statics := none }

def pool16 : Array CpInfo := pool [(1, .methodref 2 3), (0, .class_ 4), (0, .nameAndType 5 6), (0, u "java/lang/Object"), (0, u "<init>"), (0, u "()V"), (0, .fieldref 8 9), (0, .class_ 10), (0, .nameAndType 11 12), (0, u "com/example/watermark/watermark/store/Batch"), (0, u "held"), (0, u "Lcom/example/watermark/watermark/store/HeldBatches;"), (0, .fieldref 8 14), (0, .nameAndType 15 16), (0, u "slot"), (0, u "I"), (0, .fieldref 8 18), (0, .nameAndType 19 16), (0, u "generation"), (0, .fieldref 8 21), (0, .nameAndType 22 23), (0, u "id"), (0, u "Ljava/lang/String;"), (323, .class_ 349), (1, u "com/example/watermark/watermark/store/Batch$1"), (25, u "(Lcom/example/watermark/watermark/store/HeldBatches;IILjava/lang/String;)V"), (36, u "equals"), (0, u "(Ljava/lang/Object;)Z")] 22

def k16c0 : Code := { maxStack := 2, maxLocals := 5, code := prog_10_method_1_code, exceptionTable := #[], attributes := #[] }
def k16m0 : Method := { name := "<init>", desc := "(Lcom/example/watermark/watermark/store/HeldBatches;IILjava/lang/String;)V", sig := { parameters := [(.object "com/example/watermark/watermark/store/HeldBatches"), .int, .int, (.object "java/lang/String")], returnType := none }, accessFlags := 0, code := some k16c0 }
def k16c1 : Code := { maxStack := 2, maxLocals := 3, code := prog_10_method_35_code, exceptionTable := #[], attributes := #[] }
def k16m1 : Method := { name := "equals", desc := "(Ljava/lang/Object;)Z", sig := { parameters := [(.object "java/lang/Object")], returnType := some .boolean }, accessFlags := 1, code := some k16c1 }
/-- com/example/watermark/watermark/store/Batch -/
def k16 : Class := { plain "com/example/watermark/watermark/store/Batch" (some 0) with
  accessFlags := 32
  interfaces := #[]
  cf := some (fileOf pool16 8 #[.nestMembers #[347]] #[{ accessFlags := 0, nameIndex := 5, descriptorIndex := 375, attributes := #[] }, { accessFlags := 1, nameIndex := 412, descriptorIndex := 413, attributes := #[] }] 32 2 #[] #[{ accessFlags := 18, nameIndex := 11, descriptorIndex := 12, attributes := #[] }, { accessFlags := 18, nameIndex := 15, descriptorIndex := 16, attributes := #[] }, { accessFlags := 18, nameIndex := 19, descriptorIndex := 16, attributes := #[] }, { accessFlags := 18, nameIndex := 22, descriptorIndex := 23, attributes := #[] }])
  fields := #[{ name := "held", type := (.object "com/example/watermark/watermark/store/HeldBatches"), accessFlags := 18, slot := 0, constantValue := 0 }, { name := "slot", type := .int, accessFlags := 18, slot := 1, constantValue := 0 }, { name := "generation", type := .int, accessFlags := 18, slot := 2, constantValue := 0 }, { name := "id", type := (.object "java/lang/String"), accessFlags := 18, slot := 3, constantValue := 0 }]
  methods := #[k16m0, k16m1]
  instanceTypes := #[(.object "com/example/watermark/watermark/store/HeldBatches"), .int, .int, (.object "java/lang/String")]
  staticTypes := #[]
  resolved := Array.replicate 436 none
  statics := none }

def pool17 : Array CpInfo := pool [(2, .class_ 4), (1, u "java/lang/Object"), (0, u "<init>"), (0, u "()V"), (17, .class_ 26), (1, u "jdk/internal/util/Preconditions"), (28, .class_ 56), (0, u "jdk/internal/util/Preconditions$4"), (57, .class_ 115), (0, u "jdk/internal/util/Preconditions$1"), (7, u "SIOOBE_FORMATTER"), (0, u "Ljava/util/function/BiFunction;"), (0, .class_ 126), (0, u "jdk/internal/util/Preconditions$2"), (3, u "AIOOBE_FORMATTER"), (0, .class_ 132), (0, u "jdk/internal/util/Preconditions$3"), (3, u "IOOBE_FORMATTER")] 57

def k17m0 : Method := { name := "<init>", desc := "()V", sig := { parameters := [], returnType := none }, accessFlags := 1, code := none }
/-- jdk/internal/util/Preconditions -/
def k17 : Class := { plain "jdk/internal/util/Preconditions" (some 0) with
  accessFlags := 33
  interfaces := #[]
  cf := some (fileOf pool17 24 #[.nestMembers #[55, 131, 125, 114]] #[{ accessFlags := 1, nameIndex := 5, descriptorIndex := 6, attributes := #[] }] 33 2 #[] #[{ accessFlags := 25, nameIndex := 123, descriptorIndex := 124, attributes := #[] }, { accessFlags := 25, nameIndex := 130, descriptorIndex := 124, attributes := #[] }, { accessFlags := 25, nameIndex := 136, descriptorIndex := 124, attributes := #[] }])
  fields := #[{ name := "SIOOBE_FORMATTER", type := (.object "java/util/function/BiFunction"), accessFlags := 25, slot := 0, constantValue := 0 }, { name := "AIOOBE_FORMATTER", type := (.object "java/util/function/BiFunction"), accessFlags := 25, slot := 1, constantValue := 0 }, { name := "IOOBE_FORMATTER", type := (.object "java/util/function/BiFunction"), accessFlags := 25, slot := 2, constantValue := 0 }]
  methods := #[k17m0]
  instanceTypes := #[]
  staticTypes := #[(.object "java/util/function/BiFunction"), (.object "java/util/function/BiFunction"), (.object "java/util/function/BiFunction")]
  resolved := Array.replicate 194 none
  statics := some 2 }

def pool18 : Array CpInfo := pool [(9, u "<init>"), (6, .class_ 18), (1, u "java/lang/Object"), (0, u "()V"), (1, .class_ 23), (1, u "jdk/internal/util/ArraysSupport"), (0, u "LOG2_ARRAY_LONG_INDEX_SCALE"), (0, u "I"), (2, u "U"), (0, u "Ljdk/internal/misc/Unsafe;"), (8, u "BIG_ENDIAN"), (0, u "Z"), (8, u "LOG2_BYTE_BIT_SIZE"), (4, u "LOG2_ARRAY_INT_INDEX_SCALE"), (54, u "JLA"), (0, u "Ljdk/internal/access/JavaLangAccess;"), (11, u "LOG2_ARRAY_BOOLEAN_INDEX_SCALE"), (9, u "LOG2_ARRAY_BYTE_INDEX_SCALE"), (5, u "LOG2_ARRAY_CHAR_INDEX_SCALE"), (5, u "LOG2_ARRAY_SHORT_INDEX_SCALE"), (18, u "LOG2_ARRAY_FLOAT_INDEX_SCALE"), (24, u "LOG2_ARRAY_DOUBLE_INDEX_SCALE"), (89, u "T_BOOLEAN"), (2, u "T_CHAR"), (1, u "T_FLOAT"), (1, u "T_DOUBLE"), (1, u "T_BYTE"), (1, u "T_SHORT"), (1, u "T_INT"), (1, u "T_LONG"), (1, u "SOFT_MAX_ARRAY_LENGTH")] 83

def k18m0 : Method := { name := "<init>", desc := "()V", sig := { parameters := [], returnType := none }, accessFlags := 2, code := none }
/-- jdk/internal/util/ArraysSupport -/
def k18 : Class := { plain "jdk/internal/util/ArraysSupport" (some 0) with
  accessFlags := 33
  interfaces := #[]
  cf := some (fileOf pool18 21 #[] #[{ accessFlags := 2, nameIndex := 9, descriptorIndex := 19, attributes := #[] }] 33 16 #[] #[{ accessFlags := 24, nameIndex := 28, descriptorIndex := 29, attributes := #[] }, { accessFlags := 26, nameIndex := 38, descriptorIndex := 39, attributes := #[] }, { accessFlags := 25, nameIndex := 121, descriptorIndex := 25, attributes := #[] }, { accessFlags := 25, nameIndex := 131, descriptorIndex := 25, attributes := #[] }, { accessFlags := 25, nameIndex := 137, descriptorIndex := 25, attributes := #[] }, { accessFlags := 25, nameIndex := 143, descriptorIndex := 25, attributes := #[] }, { accessFlags := 25, nameIndex := 53, descriptorIndex := 25, attributes := #[] }, { accessFlags := 25, nameIndex := 24, descriptorIndex := 25, attributes := #[] }, { accessFlags := 25, nameIndex := 162, descriptorIndex := 25, attributes := #[] }, { accessFlags := 25, nameIndex := 187, descriptorIndex := 25, attributes := #[] }, { accessFlags := 26, nameIndex := 48, descriptorIndex := 25, attributes := #[] }, { accessFlags := 25, nameIndex := 277, descriptorIndex := 25, attributes := #[] }, { accessFlags := 25, nameIndex := 280, descriptorIndex := 25, attributes := #[] }, { accessFlags := 25, nameIndex := 282, descriptorIndex := 25, attributes := #[] }, { accessFlags := 25, nameIndex := 284, descriptorIndex := 25, attributes := #[] }, { accessFlags := 25, nameIndex := 286, descriptorIndex := 25, attributes := #[] }, { accessFlags := 25, nameIndex := 288, descriptorIndex := 25, attributes := #[] }, { accessFlags := 25, nameIndex := 290, descriptorIndex := 25, attributes := #[] }, { accessFlags := 25, nameIndex := 292, descriptorIndex := 25, attributes := #[] }, { accessFlags := 26, nameIndex := 108, descriptorIndex := 109, attributes := #[] }, { accessFlags := 25, nameIndex := 294, descriptorIndex := 25, attributes := #[] }])
  fields := #[{ name := "U", type := (.object "jdk/internal/misc/Unsafe"), accessFlags := 24, slot := 0, constantValue := 0 }, { name := "BIG_ENDIAN", type := .boolean, accessFlags := 26, slot := 1, constantValue := 0 }, { name := "LOG2_ARRAY_BOOLEAN_INDEX_SCALE", type := .int, accessFlags := 25, slot := 2, constantValue := 0 }, { name := "LOG2_ARRAY_BYTE_INDEX_SCALE", type := .int, accessFlags := 25, slot := 3, constantValue := 0 }, { name := "LOG2_ARRAY_CHAR_INDEX_SCALE", type := .int, accessFlags := 25, slot := 4, constantValue := 0 }, { name := "LOG2_ARRAY_SHORT_INDEX_SCALE", type := .int, accessFlags := 25, slot := 5, constantValue := 0 }, { name := "LOG2_ARRAY_INT_INDEX_SCALE", type := .int, accessFlags := 25, slot := 6, constantValue := 0 }, { name := "LOG2_ARRAY_LONG_INDEX_SCALE", type := .int, accessFlags := 25, slot := 7, constantValue := 0 }, { name := "LOG2_ARRAY_FLOAT_INDEX_SCALE", type := .int, accessFlags := 25, slot := 8, constantValue := 0 }, { name := "LOG2_ARRAY_DOUBLE_INDEX_SCALE", type := .int, accessFlags := 25, slot := 9, constantValue := 0 }, { name := "LOG2_BYTE_BIT_SIZE", type := .int, accessFlags := 26, slot := 10, constantValue := 0 }, { name := "T_BOOLEAN", type := .int, accessFlags := 25, slot := 11, constantValue := 0 }, { name := "T_CHAR", type := .int, accessFlags := 25, slot := 12, constantValue := 0 }, { name := "T_FLOAT", type := .int, accessFlags := 25, slot := 13, constantValue := 0 }, { name := "T_DOUBLE", type := .int, accessFlags := 25, slot := 14, constantValue := 0 }, { name := "T_BYTE", type := .int, accessFlags := 25, slot := 15, constantValue := 0 }, { name := "T_SHORT", type := .int, accessFlags := 25, slot := 16, constantValue := 0 }, { name := "T_INT", type := .int, accessFlags := 25, slot := 17, constantValue := 0 }, { name := "T_LONG", type := .int, accessFlags := 25, slot := 18, constantValue := 0 }, { name := "JLA", type := (.object "jdk/internal/access/JavaLangAccess"), accessFlags := 26, slot := 19, constantValue := 0 }, { name := "SOFT_MAX_ARRAY_LENGTH", type := .int, accessFlags := 25, slot := 20, constantValue := 0 }]
  methods := #[k18m0]
  instanceTypes := #[]
  staticTypes := #[(.object "jdk/internal/misc/Unsafe"), .boolean, .int, .int, .int, .int, .int, .int, .int, .int, .int, .int, .int, .int, .int, .int, .int, .int, .int, (.object "jdk/internal/access/JavaLangAccess"), .int]
  resolved := Array.replicate 378 none
  statics := none }

/-- the primitive boolean -/
def k19 : Class := { plain "boolean" none with kind := .primitive 'Z', accessFlags := 0x411 }
/-- [Z -/
def k20 : Class := { plain "[Z" (some 0) with kind := .array 19 .boolean, interfaces := #[8, 5], accessFlags := 1041 }

/-- the primitive byte -/
def k21 : Class := { plain "byte" none with kind := .primitive 'B', accessFlags := 0x411 }
/-- [B -/
def k22 : Class := { plain "[B" (some 0) with kind := .array 21 .byte, interfaces := #[8, 5], accessFlags := 1041 }

/-- the primitive int -/
def k23 : Class := { plain "int" none with kind := .primitive 'I', accessFlags := 0x411 }
/-- [I -/
def k24 : Class := { plain "[I" (some 0) with kind := .array 23 .int, interfaces := #[8, 5], accessFlags := 1041 }

/-- the primitive long -/
def k25 : Class := { plain "long" none with kind := .primitive 'J', accessFlags := 0x411 }
/-- [J -/
def k26 : Class := { plain "[J" (some 0) with kind := .array 25 .long, interfaces := #[8, 5], accessFlags := 1041 }

/-- [Lcom/example/watermark/watermark/store/BatchItems; -/
def k27 : Class := { plain "[Lcom/example/watermark/watermark/store/BatchItems;" (some 0) with kind := .array 13 (.object "com/example/watermark/watermark/store/BatchItems"), interfaces := #[8, 5], accessFlags := 1041 }

/-- [Lcom/example/watermark/watermark/store/BatchState; -/
def k28 : Class := { plain "[Lcom/example/watermark/watermark/store/BatchState;" (some 0) with kind := .array 7 (.object "com/example/watermark/watermark/store/BatchState"), interfaces := #[8, 5], accessFlags := 1041 }

/-- [Ljava/lang/Object; -/
def k29 : Class := { plain "[Ljava/lang/Object;" (some 0) with kind := .array 0 (.object "java/lang/Object"), interfaces := #[8, 5], accessFlags := 1041 }

/-- [Ljava/lang/String; -/
def k30 : Class := { plain "[Ljava/lang/String;" (some 0) with kind := .array 12 (.object "java/lang/String"), interfaces := #[8, 5], accessFlags := 1041 }

def heap : Heap := #[{ cls := 7, slots := #[.ref 4, .ref 5, .ref 6, .ref 7, .ref 8, .ref 9, .ref 3], vm := .statics 7 },
  { cls := 12, slots := #[.long 0, .int 1, .null, .int 0, .null, .int 0, .int 0], vm := .statics 12 },
  { cls := 17, slots := #[.null, .null, .null], vm := .statics 17 },
  { cls := 28, slots := #[.ref 4, .ref 5, .ref 6, .ref 7, .ref 8, .ref 9], vm := .none },
  { cls := 7, slots := #[.null, .int 0, .int 0, .null], vm := .none },
  { cls := 7, slots := #[.null, .int 0, .int 0, .null], vm := .none },
  { cls := 7, slots := #[.null, .int 0, .int 0, .null], vm := .none },
  { cls := 7, slots := #[.null, .int 0, .int 0, .null], vm := .none },
  { cls := 7, slots := #[.null, .int 0, .int 0, .null], vm := .none },
  { cls := 7, slots := #[.null, .int 0, .int 0, .null], vm := .none }]
def classes : Array Class := #[k0, k1, k2, k3, k4, k5, k6, k7, k8, k9, k10, k11, k12, k13, k14, k15, k16, k17, k18, k19, k20, k21, k22, k23, k24, k25, k26, k27, k28, k29, k30]
def interned : List (Array UInt16 × Addr) := []
def slotsUsed : Nat := 47
def theMethod : MethodId := ⟨1, 1⟩
def args0 : Array Value := #[.int 5, .int 5, .int 5, .int 5, .int 5, .int 5]
def aboutOver (below : List Frame) : State where
  vm := { classes := classes, interned := interned.toArray }
  heap := heap
  slotsUsed := slotsUsed
  threads := #[{ frames := .invoking theMethod args0 :: below }]
def below0 : List Frame := [.native { method := ⟨0, 0⟩, args := #[] }]
def about1 : State := aboutOver below0
def p0 : Program := .bare "" "" ""
def e0 : Env := launch0.env 0 0 0
theorem w_frames : about1.frames = Frame.invoking theMethod args0 :: below0 := rfl
set_option maxRecDepth 65536 in
theorem w_args : argsFit about1.vm theMethod args0 = true := by decide +kernel
set_option maxRecDepth 65536 in
theorem w_heap : heapFits about1 = true := by decide +kernel
set_option maxRecDepth 65536 in
theorem w_runnable : about1.curStatus? = some .runnable := by decide +kernel
set_option maxRecDepth 65536 in
theorem w_alone : about1.alone = true := by decide +kernel
set_option maxRecDepth 65536 in
theorem w_named : about1.methodNamed? x = some theMethod := by decide +kernel
set_option maxRecDepth 65536 in
theorem w_hears : about1.hears theMethod below0 = true := by decide +kernel
set_option maxRecDepth 65536 in
theorem w_ripe : about1.ripe theMethod args0 below0 = true := by decide +kernel
theorem w_running : about1.status = .running := rfl
set_option maxRecDepth 65536 in
theorem w_room : about1.hasRoom e0.platform room_1 = true :=
  launch0.hasRoom_least _ room_1 (by decide +kernel) (by decide +kernel) (by decide +kernel) (by decide +kernel) (by decide +kernel) (by decide +kernel)
theorem allAtoms_all (ts : List Jvm.Cond) (a : Array Jvm.Value) (st : Jvm.State) : (allAtoms ts).before a st = ts.all (fun c => c.before a st) := by
  induction ts with
  | nil => rfl
  | cons c t ih =>
    show (Jvm.Cond.and c (allAtoms t)).before a st = _
    rw [Jvm.Cond.before_and, ih, List.all_cons]
def words1 : List Jvm.Cond := Jvm.Cond.code x code maxLocals ret :: tables_1
/-- a 'code' word, met by the world's own term for the bytes: nothing is compared byte by byte -/
theorem code_word {y : MethodName} {bytes : ByteArray} {mx : Nat} {rt : Option FieldType} {a : Array Value} {s : State} {m : MethodId} {meth : Method} {c : Code} (h1 : s.methodNamed? y = some m) (h2 : s.vm.method? m = some meth) (h3 : meth.code = some c) (h4 : c.code = bytes)
    (h5 : (c.maxLocals == mx && c.exceptionTable.isEmpty && decide (c.maxStack ≤ mostOperands) && decide (meth.sig.returnType = rt) && !meth.locks && decide (parseMethodDescriptor y.desc = some meth.sig)) = true) : (Jvm.Cond.code y bytes mx rt).before a s = true := by
  simp only [Bool.and_eq_true, beq_iff_eq, Bool.not_eq_true', decide_eq_true_eq] at h5
  obtain ⟨⟨⟨⟨⟨g1, g2⟩, g3⟩, g4⟩, g5⟩, g6⟩ := h5
  simp [Cond.before, Cond.holds, Cond.value, h1, h2, h3, h4, g1, g2, g3, g4, g5, g6]
def isCode : Jvm.Cond → Bool
  | .code _ _ _ _ => true
  | _ => false
theorem all_split {L : List Jvm.Cond} {P : Jvm.Cond → Bool} (h1 : L.all (fun c => isCode c || P c) = true) (h2 : ∀ c ∈ L.filter isCode, P c = true) : L.all P = true := by
  refine List.all_eq_true.mpr fun c hc => ?_
  have h := List.all_eq_true.mp h1 c hc
  rcases Bool.eq_false_or_eq_true (isCode c) with hi | hi
  · exact h2 c (List.mem_filter.mpr ⟨hc, hi⟩)
  · simpa [hi] using h
set_option maxRecDepth 65536 in
theorem w_c0 : (Jvm.Cond.code x code maxLocals ret).before args0 about1 = true := code_word (m := ⟨1, 1⟩) (meth := k1m1) (c := k1c1) (by decide +kernel) rfl rfl rfl (by decide +kernel)
set_option maxRecDepth 65536 in
theorem w_c1 : (Jvm.Cond.code ({ cls := "com/example/watermark/watermark/store/HeldBatches", name := "<init>", desc := "(Lcom/example/watermark/watermark/store/ItemHeap;)V" } : Jvm.MethodName) prog_31_method_1_code (3 : Nat) (Option.none : Option Jvm.ClassFile.FieldType)).before args0 about1 = true := code_word (m := ⟨2, 0⟩) (meth := k2m0) (c := k2c0) (by decide +kernel) rfl rfl rfl (by decide +kernel)
set_option maxRecDepth 65536 in
theorem w_c2 : (Jvm.Cond.code ({ cls := "java/lang/Object", name := "<init>", desc := "()V" } : Jvm.MethodName) object_method_1_code (1 : Nat) (Option.none : Option Jvm.ClassFile.FieldType)).before args0 about1 = true := code_word (m := ⟨0, 0⟩) (meth := k0m0) (c := k0c0) (by decide +kernel) rfl rfl rfl (by decide +kernel)
set_option maxRecDepth 65536 in
theorem w_c3 : (Jvm.Cond.code ({ cls := "com/example/watermark/watermark/store/BatchState", name := "values", desc := "()[Lcom/example/watermark/watermark/store/BatchState;" } : Jvm.MethodName) prog_16_method_1_code (0 : Nat) (Option.some (Jvm.ClassFile.FieldType.array (Jvm.ClassFile.FieldType.object "com/example/watermark/watermark/store/BatchState")))).before args0 about1 = true := code_word (m := ⟨7, 0⟩) (meth := k7m0) (c := k7c0) (by decide +kernel) rfl rfl rfl (by decide +kernel)
set_option maxRecDepth 65536 in
theorem w_c4 : (Jvm.Cond.code ({ cls := "com/example/watermark/watermark/store/HeldBatches$Fields", name := "<init>", desc := "(I)V" } : Jvm.MethodName) prog_32_method_1_code (2 : Nat) (Option.none : Option Jvm.ClassFile.FieldType)).before args0 about1 = true := code_word (m := ⟨9, 0⟩) (meth := k9m0) (c := k9c0) (by decide +kernel) rfl rfl rfl (by decide +kernel)
set_option maxRecDepth 65536 in
theorem w_c5 : (Jvm.Cond.code ({ cls := "java/util/Arrays", name := "fill", desc := "([II)V" } : Jvm.MethodName) jdk_65_method_103_code (4 : Nat) (Option.none : Option Jvm.ClassFile.FieldType)).before args0 about1 = true := code_word (m := ⟨14, 1⟩) (meth := k14m1) (c := k14c1) (by decide +kernel) rfl rfl rfl (by decide +kernel)
set_option maxRecDepth 65536 in
theorem w_c6 : (Jvm.Cond.code ({ cls := "java/lang/String", name := "valueOf", desc := "(C)Ljava/lang/String;" } : Jvm.MethodName) jdk_42_method_139_code (1 : Nat) (Option.some (Jvm.ClassFile.FieldType.object "java/lang/String"))).before args0 about1 = true := code_word (m := ⟨12, 1⟩) (meth := k12m1) (c := k12c1) (by decide +kernel) rfl rfl rfl (by decide +kernel)
set_option maxRecDepth 65536 in
theorem w_c7 : (Jvm.Cond.code ({ cls := "java/lang/StringLatin1", name := "canEncode", desc := "(C)Z" } : Jvm.MethodName) jdk_43_method_3_code (1 : Nat) (Option.some Jvm.ClassFile.FieldType.boolean)).before args0 about1 = true := code_word (m := ⟨15, 1⟩) (meth := k15m1) (c := k15c1) (by decide +kernel) rfl rfl rfl (by decide +kernel)
set_option maxRecDepth 65536 in
theorem w_c8 : (Jvm.Cond.code ({ cls := "java/lang/StringLatin1", name := "toBytes", desc := "(C)[B" } : Jvm.MethodName) jdk_43_method_46_code (1 : Nat) (Option.some (Jvm.ClassFile.FieldType.array Jvm.ClassFile.FieldType.byte))).before args0 about1 = true := code_word (m := ⟨15, 2⟩) (meth := k15m2) (c := k15c2) (by decide +kernel) rfl rfl rfl (by decide +kernel)
set_option maxRecDepth 65536 in
theorem w_c9 : (Jvm.Cond.code ({ cls := "java/lang/String", name := "<init>", desc := "([BB)V" } : Jvm.MethodName) jdk_42_method_151_code (3 : Nat) (Option.none : Option Jvm.ClassFile.FieldType)).before args0 about1 = true := code_word (m := ⟨12, 2⟩) (meth := k12m2) (c := k12c2) (by decide +kernel) rfl rfl rfl (by decide +kernel)
set_option maxRecDepth 65536 in
theorem w_c10 : (Jvm.Cond.code ({ cls := "com/example/watermark/watermark/store/Batch", name := "<init>", desc := "(Lcom/example/watermark/watermark/store/HeldBatches;IILjava/lang/String;)V" } : Jvm.MethodName) prog_10_method_1_code (5 : Nat) (Option.none : Option Jvm.ClassFile.FieldType)).before args0 about1 = true := code_word (m := ⟨16, 0⟩) (meth := k16m0) (c := k16c0) (by decide +kernel) rfl rfl rfl (by decide +kernel)
set_option maxRecDepth 65536 in
theorem w_c11 : (Jvm.Cond.code ({ cls := "com/example/watermark/watermark/store/Batch", name := "equals", desc := "(Ljava/lang/Object;)Z" } : Jvm.MethodName) prog_10_method_35_code (3 : Nat) (Option.some Jvm.ClassFile.FieldType.boolean)).before args0 about1 = true := code_word (m := ⟨16, 1⟩) (meth := k16m1) (c := k16c1) (by decide +kernel) rfl rfl rfl (by decide +kernel)
def codes1 : List Jvm.Cond := [Jvm.Cond.code x code maxLocals ret, Jvm.Cond.code ({ cls := "com/example/watermark/watermark/store/HeldBatches", name := "<init>", desc := "(Lcom/example/watermark/watermark/store/ItemHeap;)V" } : Jvm.MethodName) prog_31_method_1_code (3 : Nat) (Option.none : Option Jvm.ClassFile.FieldType), Jvm.Cond.code ({ cls := "java/lang/Object", name := "<init>", desc := "()V" } : Jvm.MethodName) object_method_1_code (1 : Nat) (Option.none : Option Jvm.ClassFile.FieldType), Jvm.Cond.code ({ cls := "com/example/watermark/watermark/store/BatchState", name := "values", desc := "()[Lcom/example/watermark/watermark/store/BatchState;" } : Jvm.MethodName) prog_16_method_1_code (0 : Nat) (Option.some (Jvm.ClassFile.FieldType.array (Jvm.ClassFile.FieldType.object "com/example/watermark/watermark/store/BatchState"))), Jvm.Cond.code ({ cls := "com/example/watermark/watermark/store/HeldBatches$Fields", name := "<init>", desc := "(I)V" } : Jvm.MethodName) prog_32_method_1_code (2 : Nat) (Option.none : Option Jvm.ClassFile.FieldType), Jvm.Cond.code ({ cls := "java/util/Arrays", name := "fill", desc := "([II)V" } : Jvm.MethodName) jdk_65_method_103_code (4 : Nat) (Option.none : Option Jvm.ClassFile.FieldType), Jvm.Cond.code ({ cls := "java/lang/String", name := "valueOf", desc := "(C)Ljava/lang/String;" } : Jvm.MethodName) jdk_42_method_139_code (1 : Nat) (Option.some (Jvm.ClassFile.FieldType.object "java/lang/String")), Jvm.Cond.code ({ cls := "java/lang/StringLatin1", name := "canEncode", desc := "(C)Z" } : Jvm.MethodName) jdk_43_method_3_code (1 : Nat) (Option.some Jvm.ClassFile.FieldType.boolean), Jvm.Cond.code ({ cls := "java/lang/StringLatin1", name := "toBytes", desc := "(C)[B" } : Jvm.MethodName) jdk_43_method_46_code (1 : Nat) (Option.some (Jvm.ClassFile.FieldType.array Jvm.ClassFile.FieldType.byte)), Jvm.Cond.code ({ cls := "java/lang/String", name := "<init>", desc := "([BB)V" } : Jvm.MethodName) jdk_42_method_151_code (3 : Nat) (Option.none : Option Jvm.ClassFile.FieldType), Jvm.Cond.code ({ cls := "com/example/watermark/watermark/store/Batch", name := "<init>", desc := "(Lcom/example/watermark/watermark/store/HeldBatches;IILjava/lang/String;)V" } : Jvm.MethodName) prog_10_method_1_code (5 : Nat) (Option.none : Option Jvm.ClassFile.FieldType), Jvm.Cond.code ({ cls := "com/example/watermark/watermark/store/Batch", name := "equals", desc := "(Ljava/lang/Object;)Z" } : Jvm.MethodName) prog_10_method_35_code (3 : Nat) (Option.some Jvm.ClassFile.FieldType.boolean)]
set_option maxRecDepth 65536 in
theorem codes_eq : words1.filter isCode = codes1 := rfl
theorem w_codes : ∀ c ∈ words1.filter isCode, c.before args0 about1 = true := by
  rw [codes_eq]
  intro c hc
  simp only [codes1, List.mem_cons, List.not_mem_nil, or_false] at hc
  rcases hc with rfl | rfl | rfl | rfl | rfl | rfl | rfl | rfl | rfl | rfl | rfl | rfl
  · exact w_c0
  · exact w_c1
  · exact w_c2
  · exact w_c3
  · exact w_c4
  · exact w_c5
  · exact w_c6
  · exact w_c7
  · exact w_c8
  · exact w_c9
  · exact w_c10
  · exact w_c11
set_option maxRecDepth 65536 in
theorem w_t1 : (words1.take 24).all (fun c => isCode c || c.before args0 about1) = true := by decide +kernel
set_option maxRecDepth 65536 in
theorem w_t2 : ((words1.drop 24).take 24).all (fun c => isCode c || c.before args0 about1) = true := by decide +kernel
set_option maxRecDepth 65536 in
theorem w_t3 : (((words1.drop 24).drop 24).take 24).all (fun c => isCode c || c.before args0 about1) = true := by decide +kernel
set_option maxRecDepth 65536 in
theorem w_t4 : ((((words1.drop 24).drop 24).drop 24).take 24).all (fun c => isCode c || c.before args0 about1) = true := by decide +kernel
set_option maxRecDepth 65536 in
theorem w_t5 : (((((words1.drop 24).drop 24).drop 24).drop 24).take 24).all (fun c => isCode c || c.before args0 about1) = true := by decide +kernel
set_option maxRecDepth 65536 in
theorem w_t6 : ((((((words1.drop 24).drop 24).drop 24).drop 24).drop 24).take 24).all (fun c => isCode c || c.before args0 about1) = true := by decide +kernel
set_option maxRecDepth 65536 in
theorem w_t7 : ((((((words1.drop 24).drop 24).drop 24).drop 24).drop 24).drop 24).all (fun c => isCode c || c.before args0 about1) = true := by decide +kernel
theorem w_tables : (allAtoms (Jvm.Cond.code x code maxLocals ret :: tables_1)).before args0 about1 = true := by
  rw [allAtoms_all]
  show words1.all (fun c => c.before args0 about1) = true
  refine all_split ?_ w_codes
  rw [← List.take_append_drop 24 words1, List.all_append, w_t1, ← List.take_append_drop 24 (words1.drop 24), List.all_append, w_t2, ← List.take_append_drop 24 ((words1.drop 24).drop 24), List.all_append, w_t3, ← List.take_append_drop 24 (((words1.drop 24).drop 24).drop 24), List.all_append, w_t4, ← List.take_append_drop 24 ((((words1.drop 24).drop 24).drop 24).drop 24), List.all_append, w_t5, ← List.take_append_drop 24 (((((words1.drop 24).drop 24).drop 24).drop 24).drop 24), List.all_append, w_t6, w_t7]
  rfl
set_option maxRecDepth 65536 in
theorem w_rest : rest_1_c.before args0 about1 = true := by decide +kernel
set_option maxRecDepth 65536 in
theorem w_case : (Jvm.Cond.and given_1 narrow_1).before args0 about1 = true := by decide +kernel
theorem w_applies : (headSpec (Jvm.Cond.code x code maxLocals ret :: tables_1) room_1).applies x e0.platform about1 = true :=
  (Spec.applies_iff w_frames).mpr ⟨w_running, w_runnable, w_alone, w_named, w_hears, w_ripe, w_room, w_tables⟩
theorem atStart : AtStart classFile x code maxLocals ret World_1 tables_1 room_1 Calls_1 rest_1 Pre_1 launch0 p0 e0 about1 theMethod args0 below0 :=
  ⟨lists_1, trivial, launch0.admits_env _ _ _, launch0.least_env, fairChoices_fair.cas, fairChoices_fair.clock, w_frames, w_args, w_heap, w_applies, trivial, w_rest, w_case⟩
end start1
theorem witness_1 : WitnessClaimed_1 := ⟨start1.p0, start1.e0, start1.about1, start1.theMethod, start1.args0, start1.below0, start1.atStart⟩
end Jvm.Pilot.@@N@@
