import JvmDerived
import JvmDerived.Pilot.@@N@@Statement
import JvmDerived.Pilot.@@N@@Code
set_option linter.unusedVariables false
set_option linter.unusedSimpArgs false
namespace Jvm.Pilot.@@N@@
open Jvm Jvm.ClassFile Sem Op Lib Jvm.Free Jvm.Stand Jvm.LawKit Jvm.RoadKit Bundle Jvm.Pilot.@@N@@.Jvm.D
section Own
variable {p : Program} {l : Launch} {e : Env} {R : Room} {s : State} {m : MethodId} {args : Array Value} {below : List Frame} {meth : Method} {c : Code} {T : State} {locs : List Loc} {cells slots : Nat}
/-- from U the run comes back to 'below' and its end is as P says -/
def Go (p : Program) (e : Env) (below : List Frame) (U : State) (P : Outcome → State → Prop) : Prop := ∃ s₂ o, Steps p.tables e below U s₂ ∧ s₂.status = .running ∧ Ended s₂ below o ∧ P o s₂
theorem Go.mp {U U' : State} {P : Outcome → State → Prop} (h : ∀ t, Steps p.tables e below U' t → Steps p.tables e below U t) (k : Go p e below U' P) : Go p e below U P := by
  obtain ⟨a, b, c, d⟩ := k; exact ⟨a, b, h _ c, d⟩
/-- how a body ends -/
def FinE (s : State) (kc ks : Nat) (Q : Option Value → Heap → List Loc → Prop) (o : Outcome) (t : State) : Prop := ∃ v L, o = .returned v ∧ Q v t.heap L ∧ FrameEnd s o t L kc ks
/-- a body's contract -/
abbrev Ctr (l : Launch) (y : MethodName) (bytes : ByteArray) (maxL : Nat) (ret : Option FieldType) (ws : List Jvm.Cond) (rm : Room) (Z : State) (as' : Array Value) (h : Heap) (Q : Option Value → Heap → List Loc → Prop) : Prop :=
  MetFree l y (head1 (Jvm.Cond.code y bytes maxL ret :: ws) rm) (fun a U => a = as' ∧ Z.Warmed39 U.vm ∧ U.heap = h) (fun _ _ _ _ _ => True) (fun _ U o U' => ∃ v L, o = .returned v ∧ Q v U'.heap L ∧ FrameEnd U o U' L rm.cells rm.slots)
theorem own_enter {y : MethodName} {bytes : ByteArray} {maxL : Nat} {ret : Option FieldType} {ws : List Jvm.Cond} {rm : Room} {Z : State} {as' : Array Value} {h : Heap} {Q : Option Value → Heap → List Loc → Prop} (hpn : plainName y.cls = true)
    (body : ∀ (p : Program) (e : Env) (s : State) (m : MethodId) (below : List Frame) (meth : Method) (c : Code) (s₁ : State), p.tables.exec = Jvm.exec → c.code = bytes → c.maxLocals = maxL → s.vm.findClass y.cls = some m.cls → meth.name = y.name → meth.sig.returnType = ret → meth.locks = false → Z.Warmed39 s.vm → Stand p l e rm s m as' below meth c s₁ [] 0 0 → s₁.heap = h →
      Go p e below (s₁.setTop (entryFrame m as' maxL)) (FinE s rm.cells rm.slots Q)) : Ctr l y bytes maxL ret ws rm Z as' h Q := by
  refine MetFree.of_bodySF (plainFor_of_name hpn) hisR ?_
  intro p e s m args below meth c s₁ Bd hml0 hP hK
  obtain ⟨rfl, hZ, hh⟩ := hP
  exact body p e s m below meth c s₁ Bd.exec Bd.bytes hml0 (findClass_of_methodNamed Bd.named) (name_of_methodNamed Bd.named Bd.method).1 Bd.returns Bd.notSynchronized hZ (Stand.of_body Bd) (by rw [← hh, Bd.state]; rfl)
theorem own_retN (X : Stand p l e R s m args below meth c T locs cells slots) (hx : p.tables.exec = Jvm.exec) {t : FieldType} (hret : meth.sig.returnType = some t) (hlk : meth.locks = false) (ht : t = .boolean ∨ t = .byte ∨ t = .char ∨ t = .short) {kc ks : Nat} {Q : Option Value → Heap → List Loc → Prop} {pc : Nat} {Ls : Array Slot} {z : Int32} {rest : List Value}
    (hd : decode c.code pc = .ok (.ireturn, 1)) (hk : cells ≤ kc) (hn : slots ≤ ks) (hq : Q (some (.int (nar t z))) T.heap locs) : Go p e below (T.setTop (mkF m pc Ls (.int z :: rest))) (FinE s kc ks Q) := by
  obtain ⟨fs, hr, hrun, hended, hW, hsame⟩ := X.leave (v := some (.int (nar t z))) (fun h => by rw [hret] at h; cases h) hlk
  exact ⟨_, _, retN X hx hret ht hd hr, hrun, hended, _, _, rfl, hq, ⟨_, rfl⟩, hW, hsame.mono hk hn⟩
theorem own_retZ (X : Stand p l e R s m args below meth c T locs cells slots) (hx : p.tables.exec = Jvm.exec) (hret : meth.sig.returnType = some .boolean) (hlk : meth.locks = false) {kc ks : Nat} {Q : Option Value → Heap → List Loc → Prop} {pc : Nat} {Ls : Array Slot} {z : Int32} {rest : List Value}
    (hd : decode c.code pc = .ok (.ireturn, 1)) (hk : cells ≤ kc) (hn : slots ≤ ks) (hz : z &&& 1 = z) (hq : Q (some (.int z)) T.heap locs) : Go p e below (T.setTop (mkF m pc Ls (.int z :: rest))) (FinE s kc ks Q) :=
  own_retN X hx hret hlk (Or.inl rfl) hd hk hn (by show Q (some (.int (z &&& 1))) T.heap locs; rw [hz]; exact hq)
theorem own_retW (X : Stand p l e R s m args below meth c T locs cells slots) (hx : p.tables.exec = Jvm.exec) {t : FieldType} {w : Value} {i : Instr} (hret : meth.sig.returnType = some t) (hlk : meth.locks = false) (hw : narrow t w = w)
    (hi : (i = .ireturn ∧ (t = .int ∨ t = .boolean ∨ t = .byte ∨ t = .char ∨ t = .short) ∧ ∃ z, w = .int z) ∨ (i = .lreturn ∧ t = .long ∧ ∃ z, w = .long z) ∨ (i = .dreturn ∧ t = .double ∧ ∃ z, w = .double z) ∨ (i = .freturn ∧ t = .float ∧ ∃ z, w = .float z) ∨ (i = .areturn ∧ t.isReference = true ∧ w.isRef = true))
    {kc ks : Nat} {Q : Option Value → Heap → List Loc → Prop} {pc : Nat} {Ls : Array Slot} {rest : List Value}
    (hd : decode c.code pc = .ok (i, 1)) (hk : cells ≤ kc) (hn : slots ≤ ks) (hq : Q (some w) T.heap locs) : Go p e below (T.setTop (mkF m pc Ls (w :: rest))) (FinE s kc ks Q) := by
  obtain ⟨fs, hr, hrun, hended, hW, hsame⟩ := X.leave (v := some w) (fun h => by rw [hret] at h; cases h) hlk
  exact ⟨_, _, retOut X hx hret hw hi hd hr, hrun, hended, _, _, rfl, hq, ⟨_, rfl⟩, hW, hsame.mono hk hn⟩
theorem own_retI (X : Stand p l e R s m args below meth c T locs cells slots) (hx : p.tables.exec = Jvm.exec) (hret : meth.sig.returnType = some .int) (hlk : meth.locks = false) {kc ks : Nat} {Q : Option Value → Heap → List Loc → Prop} {pc : Nat} {Ls : Array Slot} {z : Int32} {rest : List Value}
    (hd : decode c.code pc = .ok (.ireturn, 1)) (hk : cells ≤ kc) (hn : slots ≤ ks) (hq : Q (some (.int z)) T.heap locs) : Go p e below (T.setTop (mkF m pc Ls (.int z :: rest))) (FinE s kc ks Q) :=
  own_retW X hx hret hlk rfl (Or.inl ⟨rfl, Or.inl rfl, _, rfl⟩) hd hk hn hq
theorem own_retA (X : Stand p l e R s m args below meth c T locs cells slots) (hx : p.tables.exec = Jvm.exec) {t : FieldType} (hret : meth.sig.returnType = some t) (hlk : meth.locks = false) (ht : t.isReference = true) {w : Value} (hw : w.isRef = true) {kc ks : Nat} {Q : Option Value → Heap → List Loc → Prop} {pc : Nat} {Ls : Array Slot} {rest : List Value}
    (hd : decode c.code pc = .ok (.areturn, 1)) (hk : cells ≤ kc) (hn : slots ≤ ks) (hq : Q (some w) T.heap locs) : Go p e below (T.setTop (mkF m pc Ls (w :: rest))) (FinE s kc ks Q) :=
  own_retW X hx hret hlk (by cases t <;> first | (cases ht; done) | (cases w <;> first | rfl | cases hw)) (Or.inr (Or.inr (Or.inr (Or.inr ⟨rfl, ht, hw⟩)))) hd hk hn hq
theorem own_retV (X : Stand p l e R s m args below meth c T locs cells slots) (hx : p.tables.exec = Jvm.exec) (hret : meth.sig.returnType = none) (hlk : meth.locks = false) {kc ks : Nat} {Q : Option Value → Heap → List Loc → Prop} {pc : Nat} {Ls : Array Slot}
    (hd : decode c.code pc = .ok (.return_, 1)) (hk : cells ≤ kc) (hn : slots ≤ ks) (hq : Q none T.heap locs) : Go p e below (T.setTop (mkF m pc Ls [])) (FinE s kc ks Q) := by
  obtain ⟨fs, hr, hrun, hended, hW, hsame⟩ := X.leave (v := none) (fun _ => rfl) hlk
  exact ⟨_, _, X.returnOut hx hret hd hr, hrun, hended, _, _, rfl, hq, ⟨_, rfl⟩, hW, hsame.mono hk hn⟩
/-- the wide end (behind a cold ldc of a String) -/
def FinW (s : State) (kc ks : Nat) (Q : Option Value → Heap → List Loc → Prop) (o : Outcome) (t : State) : Prop := ∃ v L, o = .returned v ∧ Q v t.heap L ∧ ReturnedEndW s o t L kc ks
abbrev CtrW (l : Launch) (y : MethodName) (bytes : ByteArray) (maxL : Nat) (ret : Option FieldType) (ws : List Jvm.Cond) (rm : Room) (Z : State) (as' : Array Value) (h : Heap) (Q : Option Value → Heap → List Loc → Prop) : Prop :=
  MetFree l y (head1 (Jvm.Cond.code y bytes maxL ret :: ws) rm) (fun a U => a = as' ∧ Z.Warmed39 U.vm ∧ U.heap = h) (fun _ _ _ _ _ => True) (fun _ U o U' => ∃ v L, o = .returned v ∧ Q v U'.heap L ∧ ReturnedEndW U o U' L rm.cells rm.slots)
theorem own_enterW {y : MethodName} {bytes : ByteArray} {maxL : Nat} {ret : Option FieldType} {ws : List Jvm.Cond} {rm : Room} {Z : State} {as' : Array Value} {h : Heap} {Q : Option Value → Heap → List Loc → Prop} (hpn : plainName y.cls = true)
    (body : ∀ (p : Program) (e : Env) (s : State) (m : MethodId) (below : List Frame) (meth : Method) (c : Code) (s₁ : State), p.tables.exec = Jvm.exec → c.code = bytes → c.maxLocals = maxL → s.vm.findClass y.cls = some m.cls → meth.name = y.name → meth.sig.returnType = ret → meth.locks = false → Z.Warmed39 s.vm → Stand p l e rm s m as' below meth c s₁ [] 0 0 → s₁.heap = h →
      Go p e below (s₁.setTop (entryFrame m as' maxL)) (FinW s rm.cells rm.slots Q)) : CtrW l y bytes maxL ret ws rm Z as' h Q := by
  refine MetFree.of_bodySF (plainFor_of_name hpn) hisR ?_
  intro p e s m args below meth c s₁ Bd hml0 hP hK
  obtain ⟨rfl, hZ, hh⟩ := hP
  exact body p e s m below meth c s₁ Bd.exec Bd.bytes hml0 (findClass_of_methodNamed Bd.named) (name_of_methodNamed Bd.named Bd.method).1 Bd.returns Bd.notSynchronized hZ (Stand.of_body Bd) (by rw [← hh, Bd.state]; rfl)
theorem own_retZW {vm1 : Vm} {k1 : Nat} (X : Stand p l e R (s.setVm vm1) m args below meth c T locs cells slots) (hx : p.tables.exec = Jvm.exec) (hret : meth.sig.returnType = some .boolean) (hlk : meth.locks = false) (hS : s.Since vm1 k1) (hB : k1 ≤ T.heap.size) {kc ks : Nat} {Q : Option Value → Heap → List Loc → Prop} {pc : Nat} {Ls : Array Slot} {z : Int32} {rest : List Value}
    (hd : decode c.code pc = .ok (.ireturn, 1)) (hk : cells ≤ kc) (hn : slots ≤ ks) (hz : z &&& 1 = z) (hq : Q (some (.int z)) T.heap locs) : Go p e below (T.setTop (mkF m pc Ls (.int z :: rest))) (FinW s kc ks Q) := by
  obtain ⟨fs, hr, hrun, hended, h1, h2, h3, h4⟩ := X.leaveW hS hB (v := some (.int (nar .boolean z))) (fun h => by rw [hret] at h; cases h) hlk
  have e1 : nar .boolean z = z := hz
  exact ⟨_, _, retN X hx hret (Or.inl rfl) hd hr, hrun, hended, _, _, rfl, by rw [e1]; exact hq, h1, h2, h3, h4.mono hk hn⟩
section Calls
variable {Z : State} {a0 : Array Value} {h : Heap} {y : MethodName} {bytes : ByteArray} {maxL : Nat} {ret : Option FieldType} {rm : Room} {as' : Array Value} {Q : Option Value → Heap → List Loc → Prop} {own : String} {index : Nat} {pc : Nat} {Ls : Array Slot} {st argsL rest : List Value} {ps : List FieldType} {r : Option FieldType}
theorem own_callS (X : Stand p l e R s m args below meth c T locs cells slots) (hx : p.tables.exec = Jvm.exec) (hZ : Z.Warmed39 s.vm) (hown : s.vm.findClass own = some m.cls) (w1 : (Jvm.Cond.methodLink own index y).before a0 Z = true) (w2 : (Jvm.Cond.static y).before a0 Z = true) (w3 : (Jvm.Cond.initialized y.cls).before a0 Z = true) (w4 : (Jvm.Cond.code y bytes maxL ret).before a0 Z = true)
    (hy : y.cls ≠ "java/lang/invoke/MethodHandle" ∧ y.cls ≠ "java/lang/invoke/VarHandle") (hM : Ctr l y bytes maxL ret [] rm Z as' h Q) (eT : T.heap = h) (hpd : parseMethodDescriptor y.desc = some ⟨ps, r⟩) (hd : decode c.code pc = .ok (.invokestatic index, 3)) (hsize : Ls.size = c.maxLocals)
    (hlen : argsL.length = ps.length) (hst : st = argsL.reverse ++ rest) (has : argsL.toArray = as') {W : Nat} (hW : (rest.map fun v => v.category).sum ≤ W) (hf : rm.frames + 1 ≤ R.frames) (hl : W + (maxL + 11) + rm.locals ≤ R.locals) (hc : cells + rm.cells ≤ R.cells) (hs : slots + rm.slots ≤ R.slots) :
    ∃ v T' L, Stand p l e R s m args below meth c T' (locs ++ L) (cells + rm.cells) (slots + rm.slots) ∧ Q v T'.heap L ∧ ∀ target, Steps p.tables e below (T'.setTop (mkF m (pc + 3) Ls (v.toList ++ rest))) target → Steps p.tables e below (T.setTop (mkF m pc Ls st)) target := by
  obtain ⟨v, _, ⟨T', L', k', n'⟩, -, X', ⟨Lc, hQ, l1, y1, z1⟩, st'⟩ := Jvm.LawKit.callS X hx (y := y) hown (mvT hZ w1) (mvT hZ w2) (mvT hZ w3) (mvT hZ w4) hy (backOf (W := W) hM hZ w4 w3 hf hl) (g := mkF m pc Ls st) rfl hsize (argsL := argsL) (rest := rest) (lenOf hpd hlen) hst (by show 2 * 0 + _ ≤ _; omega) hd (fun _ _ => ⟨has, eT, hc, hs⟩)
  dsimp only [Pt.U, Pt.locs, Pt.cells, Pt.slots] at X' l1 y1 z1 st' hQ
  subst l1 y1 z1
  exact ⟨v, T', Lc, X', hQ, st'⟩
theorem own_callV {C : String} {b : Addr} (X : Stand p l e R s m args below meth c T locs cells slots) (hx : p.tables.exec = Jvm.exec) (hZ : Z.Warmed39 s.vm) (hown : s.vm.findClass own = some m.cls) (w1 : (Jvm.Cond.methodLink own index y).before a0 Z = true) (w2 : (Jvm.Cond.declares y).before a0 Z = true) (w3 : (Jvm.Cond.selects C y y).before a0 Z = true) (w4 : (Jvm.Cond.instanceMethod y).before a0 Z = true)
    (w5 : (Jvm.Cond.code y bytes maxL ret).before a0 Z = true) (w6 : (Jvm.Cond.initialized y.cls).before a0 Z = true) (hy : y.cls ≠ "java/lang/invoke/MethodHandle" ∧ y.cls ≠ "java/lang/invoke/VarHandle") (hM : Ctr l y bytes maxL ret [] rm Z as' h Q) (eT : T.heap = h) (E : Exa Z h b C) (hpd : parseMethodDescriptor y.desc = some ⟨ps, r⟩) (hd : decode c.code pc = .ok (.invokevirtual index, 3)) (hsize : Ls.size = c.maxLocals)
    (hlen : argsL.length = ps.length) (hst : st = argsL.reverse ++ .ref b :: rest) (has : (.ref b :: argsL).toArray = as') {W : Nat} (hW : (rest.map fun v => v.category).sum ≤ W) (hf : rm.frames + 1 ≤ R.frames) (hl : W + (maxL + 11) + rm.locals ≤ R.locals) (hc : cells + rm.cells ≤ R.cells) (hs : slots + rm.slots ≤ R.slots) :
    ∃ v T' L, Stand p l e R s m args below meth c T' (locs ++ L) (cells + rm.cells) (slots + rm.slots) ∧ Q v T'.heap L ∧ ∀ target, Steps p.tables e below (T'.setTop (mkF m (pc + 3) Ls (v.toList ++ rest))) target → Steps p.tables e below (T.setTop (mkF m pc Ls st)) target := by
  obtain ⟨cq, kq, qa, qb, qc⟩ := isOf hZ eT E
  obtain ⟨v, _, ⟨T', L', k', n'⟩, -, X', ⟨Lc, hQ, l1, y1, z1⟩, st'⟩ := X.virtualBack hx (y := y) (z := y) hown (mvT hZ w1) (mvT hZ w2) (notFace_of_selects (args := #[]) (mvT hZ w3)) (mvT hZ w3) (mvT hZ w4) hy (backOf (W := W) hM hZ w5 w6 hf hl) qa qc (g := mkF m pc Ls st) rfl hsize (Steps.refl _) (argsL := argsL) (rest := rest) (lenOf hpd hlen) hst (by show 2 * 0 + _ ≤ _; omega) hd (fun _ _ => ⟨has, eT, hc, hs⟩)
  dsimp only [Pt.U, Pt.locs, Pt.cells, Pt.slots] at X' l1 y1 z1 st' hQ
  subst l1 y1 z1
  exact ⟨v, T', Lc, X', hQ, fun t k => st'.trans k⟩
theorem own_callI {b : Addr} (X : Stand p l e R s m args below meth c T locs cells slots) (hx : p.tables.exec = Jvm.exec) (hZ : Z.Warmed39 s.vm) (hown : s.vm.findClass own = some m.cls) (w1 : (Jvm.Cond.methodLink own index y).before a0 Z = true) (w4 : (Jvm.Cond.instanceMethod y).before a0 Z = true)
    (w5 : (Jvm.Cond.code y bytes maxL none).before a0 Z = true) (w6 : (Jvm.Cond.initialized y.cls).before a0 Z = true) (hn : y.name = "<init>") (hy : y.cls ≠ "java/lang/invoke/MethodHandle" ∧ y.cls ≠ "java/lang/invoke/VarHandle") (hM : Ctr l y bytes maxL none [] rm Z as' h Q) (eT : T.heap = h) (hpd : parseMethodDescriptor y.desc = some ⟨ps, r⟩) (hd : decode c.code pc = .ok (.invokespecial index, 3)) (hsize : Ls.size = c.maxLocals)
    (hlen : argsL.length = ps.length) (hst : st = argsL.reverse ++ .ref b :: rest) (has : (.ref b :: argsL).toArray = as') {W : Nat} (hW : (rest.map fun v => v.category).sum ≤ W) (hf : rm.frames + 1 ≤ R.frames) (hl : W + (maxL + 11) + rm.locals ≤ R.locals) (hc : cells + rm.cells ≤ R.cells) (hs : slots + rm.slots ≤ R.slots) :
    ∃ v T' L, Stand p l e R s m args below meth c T' (locs ++ L) (cells + rm.cells) (slots + rm.slots) ∧ Q v T'.heap L ∧ ∀ target, Steps p.tables e below (T'.setTop (mkF m (pc + 3) Ls (v.toList ++ rest))) target → Steps p.tables e below (T.setTop (mkF m pc Ls st)) target := by
  obtain ⟨v, _, ⟨T', L', k', n'⟩, -, X', ⟨Lc, hQ, l1, y1, z1⟩, st'⟩ := X.specialBack hx (y := y) hn hown (mvT hZ w1) (mvT hZ w4) (mvT hZ w5) hy (backOf (W := W) hM hZ w5 w6 hf hl) (g := mkF m pc Ls st) rfl hsize (Steps.refl _) (a := b) (argsL := argsL) (rest := rest) (lenOf hpd hlen) hst (by show 2 * 0 + _ ≤ _; omega) hd (fun _ _ => ⟨has, eT, hc, hs⟩)
  dsimp only [Pt.U, Pt.locs, Pt.cells, Pt.slots] at X' l1 y1 z1 st' hQ
  subst l1 y1 z1
  exact ⟨v, T', Lc, X', hQ, fun t k => st'.trans k⟩
end Calls
section Facts
variable {Z : State} {h : Heap} {a b : Addr} {C F D K O n d : String} {v w : Value}
theorem own_fld_fun (F1 : Fld Z h a C n d v) (F2 : Fld Z h a C n d w) : v = w := by
  obtain ⟨c1, cf1, k1, i1, f1, h1, h2, h3, h4, h5, h6, h7⟩ := F1
  obtain ⟨c2, cf2, k2, i2, f2, g1, g2, g3, g4, g5, g6, g7⟩ := F2
  cases h1.symm.trans g1
  cases h2.symm.trans g2
  exact Option.some.inj (h7.symm.trans g7)
theorem own_ne {i j : Int32} (F1 : Fld Z h a C n d (.int i)) (F2 : Fld Z h b C n d (.int j)) (hij : i ≠ j) : a ≠ b := fun e => by
  subst e; exact hij (Value.int.inj (own_fld_fun F1 F2))
theorem own_sta {args : Array Value} (hn : (Jvm.Cond.exactly (.static C F D) K).value args Z none Z [] = some true) (hi : (Jvm.Cond.initialized C).before args Z = true) (hl : (Jvm.Cond.laysStatic C F D).before args Z = true) :
    ∃ w : Addr, Sta Z Z.heap C F D (.ref w) ∧ Exa Z Z.heap w K ∧ (Term.static C F D).eval args Z none [] Z = some (.ref w) := by
  obtain ⟨a', c', cell, k, e1, -⟩ := Cond.exactly_spec (Cond.before_iff.mpr hn)
  exact ⟨a', Sta.start e1 (Or.inr ⟨hi, hl⟩), Exa.start e1 hn, e1⟩
theorem own_ord {args : Array Value} {k : Int32} {t : Term} (hn : (Jvm.Cond.eq (.field t O n d) (.int k)).value args Z none Z [] = some true) (ev : t.eval args Z none [] Z = some (.ref a)) : Fld Z Z.heap a O n d (.int k) := by
  refine Fld.start ?_
  simp only [Jvm.Cond.value, Term.eval, ev] at hn
  cases hq : Z.fieldOf? a O n d with
  | none => simp [hq] at hn
  | some v => cases v <;> simp_all
theorem own_fref {args : Array Value} {t u : Term} (hn : (Jvm.Cond.eq (.field t O n d) u).value args Z none Z [] = some true) (ev : t.eval args Z none [] Z = some (.ref a)) (eu : u.eval args Z none [] Z = some (.ref b)) : Fld Z Z.heap a O n d (.ref b) := by
  refine Fld.start ?_
  simp only [Jvm.Cond.value, Term.eval, ev, eu] at hn
  cases hq : Z.fieldOf? a O n d with
  | none => simp [hq] at hn
  | some v => cases v <;> simp_all
theorem own_arrOf {args : Array Value} {t : Term} {ty : FieldType} (hn : (Jvm.Cond.arrayOf t ty).value args Z none Z [] = some true) : ∃ a c, t.eval args Z none [] Z = some (.ref a) ∧ Arr Z Z.heap a c ty := by
  cases hq : t.eval args Z none [] Z with
  | none => simp [Jvm.Cond.value, hq] at hn
  | some v =>
    cases v with
    | ref a => obtain ⟨c, A⟩ := Arr.start hq hn; exact ⟨a, c, rfl, A⟩
    | _ => simp [Jvm.Cond.value, hq] at hn
theorem own_arrLen {args : Array Value} {t : Term} {ty : FieldType} {cl : Cell} {k : Int32} (A : Arr Z Z.heap a cl ty) (ev : t.eval args Z none [] Z = some (.ref a)) (hn : (Jvm.Cond.eq (.length t) (.int k)).value args Z none Z [] = some true) : cl.slots.size < 2 ^ 31 ∧ cl.slots.size.toInt32 = k := by
  have hA : Z.arrayAt? a = some cl := A.fin (Vm.Alike.refl _)
  by_cases q : cl.slots.size < 2 ^ 31
  · refine ⟨q, ?_⟩
    have e : (Term.length t).eval args Z none [] Z = some (.int cl.slots.size.toInt32) := by simp [Term.eval, ev, hA, q]
    have e2 : (Term.int k).eval args Z none [] Z = some (.int k) := rfl
    simp only [Jvm.Cond.value, e, e2] at hn
    simpa using hn
  · have e : (Term.length t).eval args Z none [] Z = none := by simp [Term.eval, ev, hA, q]
    simp [Jvm.Cond.value, e] at hn
theorem own_arrElem {args : Array Value} {t u : Term} {ty : FieldType} {cl : Cell} {j : Int32} (A : Arr Z Z.heap a cl ty) (ev : t.eval args Z none [] Z = some (.ref a)) (eu : u.eval args Z none [] Z = some (.ref b)) (hj : ¬ j < 0) (hn : (Jvm.Cond.eq (.elem t (.int j)) u).value args Z none Z [] = some true) : cl.slots[j.toNatClampNeg]? = some (.ref b) := by
  have hA : Z.arrayAt? a = some cl := A.fin (Vm.Alike.refl _)
  have e : (Term.elem t (.int j)).eval args Z none [] Z = cl.slots[j.toNatClampNeg]? := by simp [Term.eval, ev, hA, hj]
  cases hq : cl.slots[j.toNatClampNeg]? with
  | none => rw [hq] at e; simp [Jvm.Cond.value, e] at hn
  | some v => rw [hq] at e; simp only [Jvm.Cond.value, e, eu] at hn; cases v <;> simp_all
theorem own_zand (x : Int32) : (0 : Int32) &&& x = (0 : Int32) := Int32.zero_and
theorem own_nin {x a : Addr} {ws : List Addr} (h : x ≠ a) (k : x ∉ ws) : x ∉ a :: ws := fun q => (List.mem_cons.mp q).elim h k
theorem own_plain {K : String} {ws : List Addr} (E : Exa Z h a K) (k : ∀ x ∈ ws, ∃ K', Exa Z h x K') : ∀ x ∈ a :: ws, ∃ K', Exa Z h x K' := fun x q => (List.mem_cons.mp q).elim (fun e => ⟨K, e ▸ E⟩) (k x)
theorem own_sta_keep {h' : Heap} {ws : List Addr} (S : Sta Z h C n d v) (K : Keep h h' ws) (hp : ∀ x ∈ ws, ∃ K', Exa Z h x K') : Sta Z h' C n d v := by
  obtain ⟨cf, i, k, f, st, cell, h1, h2, h3, h4, h5, h6, h7⟩ := S
  refine ⟨cf, i, k, f, st, cell, h1, h2, h3, h4, K.2.1 _ _ h5 fun q => ?_, h6, h7⟩
  obtain ⟨K', cl, kk, e1, -, -, e4, -⟩ := hp _ q
  cases h5.symm.trans e1
  rw [e4] at h6; cases h6
theorem own_mem1 {h0 : Heap} {ws : List Addr} {a : Addr} (q : a ∈ ws ∨ h0.size ≤ a) : ∀ x ∈ [a], x ∈ ws ∨ h0.size ≤ x := fun x hx => by cases List.mem_singleton.mp hx; exact q
theorem own_mem2 {h0 : Heap} {ws : List Addr} {a b : Addr} (q : a ∈ ws ∨ h0.size ≤ a) (r : b ∈ ws ∨ h0.size ≤ b) : ∀ x ∈ [a, b], x ∈ ws ∨ h0.size ≤ x := fun x hx => by
  rcases List.mem_cons.mp hx with rfl | hx
  · exact q
  · cases List.mem_singleton.mp hx; exact r
theorem own_fitR {ty : FieldType} (ht : ty.isReference = true) (hv : v.isRef = true) : fits ty v = true := by cases ty <;> first | (cases ht; done) | (cases v <;> first | rfl | cases hv)
theorem own_narR {ty : FieldType} (ht : ty.isReference = true) (hv : v.isRef = true) : narrow ty v = v := by cases ty <;> first | (cases ht; done) | (cases v <;> first | rfl | cases hv)
theorem own_bit {z : Int32} (hz : z = 0 ∨ z = 1) : z &&& 1 = z := by rcases hz with rfl | rfl <;> decide
theorem own_narZ {z : Int32} (hz : z = 0 ∨ z = 1) : narrow .boolean (.int z) = .int z := by rcases hz with rfl | rfl <;> rfl
theorem own_fitZ {z : Int32} (hz : z = 0 ∨ z = 1) : fits .boolean (.int z) = true := by rcases hz with rfl | rfl <;> rfl
theorem own_pad {dv : Value} (k : Nat) (i : Nat) : (List.replicate k dv).getD i dv = ([] : List Value).getD i dv := by
  simp only [List.getD, List.getElem?_replicate]
  split <;> rfl
end Facts
end Own
section G
variable {p : Program} {l : Launch} {e : Env} {R : Room} {s : State} {m : MethodId} {args : Array Value} {below : List Frame} {meth : Method} {c : Code} {T : State} {locs : List Loc} {cells slots : Nat} {pc : Nat} {Ls : Array Slot} {st : List Value} {P : Outcome → State → Prop}
theorem g_iloadN (X : Stand p l e R s m args below meth c T locs cells slots) (hx : p.tables.exec = Jvm.exec) {k : Fin 4} {v : Int32} (hd : decode c.code pc = .ok (.iload_n k, 1)) (hl : Ls[k.val]? = some (.val (.int v))) (hr : Go p e below (T.setTop (mkF m (pc + 1) Ls (.int v :: st))) P) : Go p e below (T.setTop (mkF m pc Ls st)) P := Go.mp (fun _ k => XS.iloadN X.here hx rfl hd hl k) hr
theorem g_iload (X : Stand p l e R s m args below meth c T locs cells slots) (hx : p.tables.exec = Jvm.exec) {k : Nat} {v : Int32} (hd : decode c.code pc = .ok (.iload k, 2)) (hl : Ls[k]? = some (.val (.int v))) (hr : Go p e below (T.setTop (mkF m (pc + 2) Ls (.int v :: st))) P) : Go p e below (T.setTop (mkF m pc Ls st)) P := Go.mp (fun _ k => XS.iload X.here hx rfl hd hl k) hr
theorem g_lloadN (X : Stand p l e R s m args below meth c T locs cells slots) (hx : p.tables.exec = Jvm.exec) {k : Fin 4} {v : Int64} (hd : decode c.code pc = .ok (.lload_n k, 1)) (hl : Ls[k.val]? = some (.val (.long v))) (hr : Go p e below (T.setTop (mkF m (pc + 1) Ls (.long v :: st))) P) : Go p e below (T.setTop (mkF m pc Ls st)) P := Go.mp (fun _ k => XS.lloadN X.here hx rfl hd hl k) hr
theorem g_lload (X : Stand p l e R s m args below meth c T locs cells slots) (hx : p.tables.exec = Jvm.exec) {k : Nat} {v : Int64} (hd : decode c.code pc = .ok (.lload k, 2)) (hl : Ls[k]? = some (.val (.long v))) (hr : Go p e below (T.setTop (mkF m (pc + 2) Ls (.long v :: st))) P) : Go p e below (T.setTop (mkF m pc Ls st)) P := Go.mp (fun _ k => XS.lload X.here hx rfl hd hl k) hr
theorem g_aloadN (X : Stand p l e R s m args below meth c T locs cells slots) (hx : p.tables.exec = Jvm.exec) {k : Fin 4} {v : Value} (hd : decode c.code pc = .ok (.aload_n k, 1)) (hl : Ls[k.val]? = some (.val v)) (hv : v.isRef = true) (hr : Go p e below (T.setTop (mkF m (pc + 1) Ls (v :: st))) P) : Go p e below (T.setTop (mkF m pc Ls st)) P := Go.mp (fun _ k => XS.aloadN X.here hx rfl hd hl hv k) hr
theorem g_aload (X : Stand p l e R s m args below meth c T locs cells slots) (hx : p.tables.exec = Jvm.exec) {k : Nat} {v : Value} (hd : decode c.code pc = .ok (.aload k, 2)) (hl : Ls[k]? = some (.val v)) (hv : v.isRef = true) (hr : Go p e below (T.setTop (mkF m (pc + 2) Ls (v :: st))) P) : Go p e below (T.setTop (mkF m pc Ls st)) P := Go.mp (fun _ k => XS.aload X.here hx rfl hd hl hv k) hr
theorem g_istoreN (X : Stand p l e R s m args below meth c T locs cells slots) (hx : p.tables.exec = Jvm.exec) {k : Fin 4} {v : Int32} (l' : Array Slot) (hd : decode c.code pc = .ok (.istore_n k, 1)) (hl : storeLocals Ls k.val (.int v) = some l') (hr : Go p e below (T.setTop (mkF m (pc + 1) l' st)) P) : Go p e below (T.setTop (mkF m pc Ls (.int v :: st))) P := Go.mp (fun _ k => XS.istoreN X.here hx rfl hd rfl hl k) hr
theorem g_istore (X : Stand p l e R s m args below meth c T locs cells slots) (hx : p.tables.exec = Jvm.exec) {k : Nat} {v : Int32} (l' : Array Slot) (hd : decode c.code pc = .ok (.istore k, 2)) (hl : storeLocals Ls k (.int v) = some l') (hr : Go p e below (T.setTop (mkF m (pc + 2) l' st)) P) : Go p e below (T.setTop (mkF m pc Ls (.int v :: st))) P := Go.mp (fun _ k => XS.istore X.here hx rfl hd rfl hl k) hr
theorem g_astoreN (X : Stand p l e R s m args below meth c T locs cells slots) (hx : p.tables.exec = Jvm.exec) {k : Fin 4} {v : Value} (l' : Array Slot) (hd : decode c.code pc = .ok (.astore_n k, 1)) (hv : v.isRef = true) (hl : storeLocals Ls k.val v = some l') (hr : Go p e below (T.setTop (mkF m (pc + 1) l' st)) P) : Go p e below (T.setTop (mkF m pc Ls (v :: st))) P := Go.mp (fun _ k => XS.astoreN X.here hx rfl hd rfl hv hl k) hr
theorem g_astore (X : Stand p l e R s m args below meth c T locs cells slots) (hx : p.tables.exec = Jvm.exec) {k : Nat} {v : Value} (l' : Array Slot) (hd : decode c.code pc = .ok (.astore k, 2)) (hv : v.isRef = true) (hl : storeLocals Ls k v = some l') (hr : Go p e below (T.setTop (mkF m (pc + 2) l' st)) P) : Go p e below (T.setTop (mkF m pc Ls (v :: st))) P := Go.mp (fun _ k => XS.astore X.here hx rfl hd rfl hv hl k) hr
theorem g_iconst (X : Stand p l e R s m args below meth c T locs cells slots) (hx : p.tables.exec = Jvm.exec) {i : Int} (v : Int32) (hd : decode c.code pc = .ok (.iconst i, 1)) (hv : Int32.ofInt i = v) (hr : Go p e below (T.setTop (mkF m (pc + 1) Ls (.int v :: st))) P) : Go p e below (T.setTop (mkF m pc Ls st)) P := Go.mp (fun _ k => XT.iconstV X.here hx rfl v hd hv k) hr
theorem g_bipush (X : Stand p l e R s m args below meth c T locs cells slots) (hx : p.tables.exec = Jvm.exec) {i : Int} (v : Int32) (hd : decode c.code pc = .ok (.bipush i, 2)) (hv : (Int8.ofInt i).toInt32 = v) (hr : Go p e below (T.setTop (mkF m (pc + 2) Ls (.int v :: st))) P) : Go p e below (T.setTop (mkF m pc Ls st)) P := Go.mp (fun _ k => XT.bipushV X.here hx rfl v hd hv k) hr
theorem g_sipush (X : Stand p l e R s m args below meth c T locs cells slots) (hx : p.tables.exec = Jvm.exec) {i : Int} (v : Int32) (hd : decode c.code pc = .ok (.sipush i, 3)) (hv : (Int16.ofInt i).toInt32 = v) (hr : Go p e below (T.setTop (mkF m (pc + 3) Ls (.int v :: st))) P) : Go p e below (T.setTop (mkF m pc Ls st)) P := Go.mp (fun _ k => XT.sipushV X.here hx rfl v hd hv k) hr
theorem g_null (X : Stand p l e R s m args below meth c T locs cells slots) (hx : p.tables.exec = Jvm.exec) (hd : decode c.code pc = .ok (.aconst_null, 1)) (hr : Go p e below (T.setTop (mkF m (pc + 1) Ls (.null :: st))) P) : Go p e below (T.setTop (mkF m pc Ls st)) P := Go.mp (fun _ k => XS.aconstNull X.here hx rfl hd k) hr
theorem g_iadd (X : Stand p l e R s m args below meth c T locs cells slots) (hx : p.tables.exec = Jvm.exec) {x y : Int32} (hd : decode c.code pc = .ok (.iadd, 1)) (hr : Go p e below (T.setTop (mkF m (pc + 1) Ls (.int (x + y) :: st))) P) : Go p e below (T.setTop (mkF m pc Ls (.int y :: .int x :: st))) P := Go.mp (fun _ k => XS.iadd X.here hx rfl hd rfl k) hr
theorem g_isub (X : Stand p l e R s m args below meth c T locs cells slots) (hx : p.tables.exec = Jvm.exec) {x y : Int32} (hd : decode c.code pc = .ok (.isub, 1)) (hr : Go p e below (T.setTop (mkF m (pc + 1) Ls (.int (x - y) :: st))) P) : Go p e below (T.setTop (mkF m pc Ls (.int y :: .int x :: st))) P := Go.mp (fun _ k => XS.isub X.here hx rfl hd rfl k) hr
theorem g_iand (X : Stand p l e R s m args below meth c T locs cells slots) (hx : p.tables.exec = Jvm.exec) {x y : Int32} (hd : decode c.code pc = .ok (.iand, 1)) (hr : Go p e below (T.setTop (mkF m (pc + 1) Ls (.int (x &&& y) :: st))) P) : Go p e below (T.setTop (mkF m pc Ls (.int y :: .int x :: st))) P := Go.mp (fun _ k => XS.iand X.here hx rfl hd rfl k) hr
theorem g_ior (X : Stand p l e R s m args below meth c T locs cells slots) (hx : p.tables.exec = Jvm.exec) {x y : Int32} (hd : decode c.code pc = .ok (.ior, 1)) (hr : Go p e below (T.setTop (mkF m (pc + 1) Ls (.int (x ||| y) :: st))) P) : Go p e below (T.setTop (mkF m pc Ls (.int y :: .int x :: st))) P := Go.mp (fun _ k => XS.ior X.here hx rfl hd rfl k) hr
theorem g_ixor (X : Stand p l e R s m args below meth c T locs cells slots) (hx : p.tables.exec = Jvm.exec) {x y : Int32} (hd : decode c.code pc = .ok (.ixor, 1)) (hr : Go p e below (T.setTop (mkF m (pc + 1) Ls (.int (x ^^^ y) :: st))) P) : Go p e below (T.setTop (mkF m pc Ls (.int y :: .int x :: st))) P := Go.mp (fun _ k => XS.ixor X.here hx rfl hd rfl k) hr
theorem g_dup (X : Stand p l e R s m args below meth c T locs cells slots) (hx : p.tables.exec = Jvm.exec) {x : Value} (hd : decode c.code pc = .ok (.dup, 1)) (hc : x.category = 1) (hr : Go p e below (T.setTop (mkF m (pc + 1) Ls (x :: x :: st))) P) : Go p e below (T.setTop (mkF m pc Ls (x :: st))) P := Go.mp (fun _ k => XS.dup X.here hx rfl hd rfl hc k) hr
theorem g_pop (X : Stand p l e R s m args below meth c T locs cells slots) (hx : p.tables.exec = Jvm.exec) {x : Value} (hd : decode c.code pc = .ok (.pop, 1)) (hc : x.category = 1) (hr : Go p e below (T.setTop (mkF m (pc + 1) Ls st)) P) : Go p e below (T.setTop (mkF m pc Ls (x :: st))) P := Go.mp (fun _ k => XS.pop X.here hx rfl hd rfl hc k) hr
theorem g_goto (X : Stand p l e R s m args below meth c T locs cells slots) (hx : p.tables.exec = Jvm.exec) {o : Int} (pc' : Nat) (hd : decode c.code pc = .ok (.goto o, 3)) (ho : 0 ≤ (pc : Int) + o) (hp : ((pc : Int) + o).toNat = pc') (hr : Go p e below (T.setTop (mkF m pc' Ls st)) P) : Go p e below (T.setTop (mkF m pc Ls st)) P := Go.mp (fun _ k => XS.goto X.here hx rfl (pc0 := pc) (pc' := pc') rfl hd ho hp k) hr
theorem g_ifYes (X : Stand p l e R s m args below meth c T locs cells slots) (hx : p.tables.exec = Jvm.exec) {cd : ClassFile.Cond} {x : Int32} {o : Int} (pc' : Nat) (hd : decode c.code pc = .ok (.ifCond cd o, 3)) (hc : ifCond.holds cd x = true) (ho : 0 ≤ (pc : Int) + o) (hp : ((pc : Int) + o).toNat = pc') (hr : Go p e below (T.setTop (mkF m pc' Ls st)) P) : Go p e below (T.setTop (mkF m pc Ls (.int x :: st))) P := Go.mp (fun _ k => XS.ifYes X.here hx rfl (pc0 := pc) (pc' := pc') rfl hd rfl hc ho hp k) hr
theorem g_ifNo (X : Stand p l e R s m args below meth c T locs cells slots) (hx : p.tables.exec = Jvm.exec) {cd : ClassFile.Cond} {x : Int32} {o : Int} (hd : decode c.code pc = .ok (.ifCond cd o, 3)) (hc : ifCond.holds cd x = false) (hr : Go p e below (T.setTop (mkF m (pc + 3) Ls st)) P) : Go p e below (T.setTop (mkF m pc Ls (.int x :: st))) P := Go.mp (fun _ k => XS.ifNo X.here hx rfl hd rfl hc k) hr
theorem g_icmpYes (X : Stand p l e R s m args below meth c T locs cells slots) (hx : p.tables.exec = Jvm.exec) {cd : ClassFile.Cond} {x y : Int32} {o : Int} (pc' : Nat) (hd : decode c.code pc = .ok (.if_icmp cd o, 3)) (hc : if_icmp.holds cd x y = true) (ho : 0 ≤ (pc : Int) + o) (hp : ((pc : Int) + o).toNat = pc') (hr : Go p e below (T.setTop (mkF m pc' Ls st)) P) : Go p e below (T.setTop (mkF m pc Ls (.int y :: .int x :: st))) P := Go.mp (fun _ k => XS.icmpYes X.here hx rfl (pc0 := pc) (pc' := pc') rfl hd rfl hc ho hp k) hr
theorem g_icmpNo (X : Stand p l e R s m args below meth c T locs cells slots) (hx : p.tables.exec = Jvm.exec) {cd : ClassFile.Cond} {x y : Int32} {o : Int} (hd : decode c.code pc = .ok (.if_icmp cd o, 3)) (hc : if_icmp.holds cd x y = false) (hr : Go p e below (T.setTop (mkF m (pc + 3) Ls st)) P) : Go p e below (T.setTop (mkF m pc Ls (.int y :: .int x :: st))) P := Go.mp (fun _ k => XS.icmpNo X.here hx rfl hd rfl hc k) hr
theorem g_acmp (X : Stand p l e R s m args below meth c T locs cells slots) (hx : p.tables.exec = Jvm.exec) {cd : ACond} {x y : Value} {o : Int} (pc' : Nat) (same : Bool) (h1 : x.isRef = true) (h2 : y.isRef = true) (hd : decode c.code pc = .ok (.if_acmp cd o, 3)) (hq : decide (x = y) = same) (ho : 0 ≤ (pc : Int) + o) (hp : pc' = if acV cd same = true then ((pc : Int) + o).toNat else pc + 3) (hr : Go p e below (T.setTop (mkF m pc' Ls st)) P) : Go p e below (T.setTop (mkF m pc Ls (y :: x :: st))) P := Go.mp (fun _ k => Jvm.RoadKit.acmp (g := mkF m pc Ls (y :: x :: st)) X hx rfl h1 h2 (pc0 := pc) (pc' := pc') (same := same) rfl hd rfl hq ho hp k) hr
theorem g_irem (X : Stand p l e R s m args below meth c T locs cells slots) (hx : p.tables.exec = Jvm.exec) {x y : Int32} (hd : decode c.code pc = .ok (.irem, 1)) (hy : y ≠ 0) (hr : Go p e below (T.setTop (mkF m (pc + 1) Ls (.int (x % y) :: st))) P) : Go p e below (T.setTop (mkF m pc Ls (.int y :: .int x :: st))) P := Go.mp (fun _ k => iremM X hx rfl hd rfl hy k) hr
end G
section OwnB
variable {p : Program} {l : Launch} {e : Env} {R : Room} {s : State} {m : MethodId} {args : Array Value} {below : List Frame} {meth : Method} {c : Code} {T : State} {locs : List Loc} {cells slots : Nat} {Z : State} {a0 : Array Value} {h : Heap}
theorem own_b2 (x : Int32) : nar .byte (x.toInt8.toInt32) = x.toInt8.toInt32 := by
  show x.toInt8.toInt32.toInt8.toInt32 = _
  simp
/-- a new byte[], and that its class is [B -/
theorem own_newB (X : Stand p l e R s m args below meth c T locs cells slots) (hx : p.tables.exec = Jvm.exec) (hZ : Z.Warmed39 s.vm) (w : (Jvm.Cond.arrayClass .byte).before a0 Z = true) (eT : T.heap = h) {g : JFrame} (hg : g.method = m) (hd : decode c.code g.pc = .ok (.newarray .byte, 2)) {n : Int32} {rest : List Value} (hs : g.stack = .int n :: rest)
    (hn : ¬ n < 0) {cap : Nat} (hcap : n.toNatClampNeg ≤ cap) (hb : cap * 8 ≤ 536870912) (hc : cells + 1 ≤ R.cells) (hl : slots + cap ≤ R.slots) :
    ∃ T' h' cA, Stand p l e R s m args below meth c T' locs (cells + 1) (slots + cap) ∧ T'.heap = h' ∧ Ext h h' ∧ Arr Z h' h.size (newA cA .byte n) .byte ∧ Exa Z h' h.size "[B" ∧
      ∀ target, Steps p.tables e below (T'.setTop { g with pc := g.pc + 2, stack := .ref h.size :: rest }) target → Steps p.tables e below (T.setTop g) target := by
  obtain ⟨cA, kA, comp, f1, f2, f3, X', st⟩ := X.newarrayPrim hx (atype := .byte) (mvA hZ w) hg hd hs hn (by rw [show componentBytes (newarray.typeOf .byte) = 1 from rfl]; omega) hc (by omega)
  subst eT
  have g1 : Z.vm.findClass "[B" = some cA := by rw [← hZ.alike.findClass]; exact f1
  obtain ⟨kZ, z1, -⟩ := Vm.findClass_spec g1
  obtain ⟨k', z2, z3⟩ := hZ.alike.2.2 _ _ z1
  cases f2.symm.trans z2
  have hk : kZ.kind = .array comp .byte := by rw [z3] at f3; exact f3
  have hN : (T.heap.push (newA cA .byte n))[T.heap.size]? = some (newA cA .byte n) := by simp
  exact ⟨_, T.heap.push (newA cA .byte n), cA, X'.more (Nat.le_refl _) (by omega), rfl, ext_of fun a q => (Array.getElem?_push_lt q).trans (Array.getElem?_eq_getElem q).symm, ⟨hN, ⟨fun _ z => (by cases z), kZ, z1, comp, hk⟩, fun z => (by cases z)⟩, ⟨_, kZ, hN, g1, z1, rfl, fun q => by rw [hk] at q; cases q⟩, st⟩
theorem own_fitC {a : Addr} {cl : Cell} {ty : FieldType} {vs : List Value} {dv : Value} (A : Arr Z h a cl ty) (H : Has cl vs dv) (G : ∀ i, i < cl.slots.size → fits ty (vs.getD i dv) = true) : FitC Z cl := fun i v hv => by
  have hi : i < cl.slots.size := (Array.getElem?_eq_some_iff.mp hv).1
  have e1 : v = vs.getD i dv := Option.some.inj (hv.symm.trans (H i hi))
  obtain ⟨-, k, hk, comp, hkind⟩ := A.2.1
  have e2 : Z.slotType? cl.cls .none i = some ty := by simp [State.slotType?, hk, hkind]
  have := G i hi
  simpa [State.fitsSlot, e2, e1] using this
end OwnB
theorem pn_0 : plainName "com/example/rigging/rigging/EntryDigestPinLaw" = true := by first | (simp [plainName, overriddenIn]; done) | decide +kernel
def f_kindOf (i1 : Int32) (w_FILE : Addr) (w_DIRECTORY : Addr) (w_LINK : Addr) (w_OTHER : Addr) : Addr := (if i1 = (0 : Int32) then w_FILE else (if i1 = (1 : Int32) then w_DIRECTORY else (if i1 = (2 : Int32) then w_LINK else w_OTHER)))
theorem d1_0 : decode method_2_code 0 = .ok (.iload_n 0, 1) := by decide +kernel
theorem d1_1 : decode method_2_code 1 = .ok (.ifCond .ne 7, 3) := by decide +kernel
theorem d1_4 : decode method_2_code 4 = .ok (.getstatic 7, 3) := by decide +kernel
theorem d1_7 : decode method_2_code 7 = .ok (.areturn, 1) := by decide +kernel
theorem d1_8 : decode method_2_code 8 = .ok (.iload_n 0, 1) := by decide +kernel
theorem d1_9 : decode method_2_code 9 = .ok (.iconst 1, 1) := by decide +kernel
theorem d1_10 : decode method_2_code 10 = .ok (.if_icmp .ne 7, 3) := by decide +kernel
theorem d1_13 : decode method_2_code 13 = .ok (.getstatic 13, 3) := by decide +kernel
theorem d1_16 : decode method_2_code 16 = .ok (.areturn, 1) := by decide +kernel
theorem d1_17 : decode method_2_code 17 = .ok (.iload_n 0, 1) := by decide +kernel
theorem d1_18 : decode method_2_code 18 = .ok (.iconst 2, 1) := by decide +kernel
theorem d1_19 : decode method_2_code 19 = .ok (.if_icmp .ne 7, 3) := by decide +kernel
theorem d1_22 : decode method_2_code 22 = .ok (.getstatic 16, 3) := by decide +kernel
theorem d1_25 : decode method_2_code 25 = .ok (.areturn, 1) := by decide +kernel
theorem d1_26 : decode method_2_code 26 = .ok (.getstatic 19, 3) := by decide +kernel
theorem d1_29 : decode method_2_code 29 = .ok (.areturn, 1) := by decide +kernel
theorem ef_rm_kindOf (m : MethodId) (x0 : Int32) : entryFrame m #[(.int x0)] 1 = mkF m 0 #[.val (.int x0)] [] := by first | (simp [entryFrame, mkF, argsToLocals, Value.category]; done) | rfl
set_option maxRecDepth 65536 in
set_option maxHeartbeats 40000000 in
theorem rm_kindOf (l : Launch) (Z : State) (a0 : Array Value) (hw : ∀ d ∈ tables_1, d.before a0 Z = true) (i1 : Int32) (w_FILE : Addr) (w_DIRECTORY : Addr) (w_LINK : Addr) (w_OTHER : Addr) (h0 : Heap) (n0 : Nat) (Z0 : n0 ≤ h0.size) (S_FILE : Sta Z h0 "com/example/rigging/rigging/Snapshot$Entry$Kind" "FILE" "Lcom/example/rigging/rigging/Snapshot$Entry$Kind;" (.ref w_FILE)) (S_DIRECTORY : Sta Z h0 "com/example/rigging/rigging/Snapshot$Entry$Kind" "DIRECTORY" "Lcom/example/rigging/rigging/Snapshot$Entry$Kind;" (.ref w_DIRECTORY)) (S_LINK : Sta Z h0 "com/example/rigging/rigging/Snapshot$Entry$Kind" "LINK" "Lcom/example/rigging/rigging/Snapshot$Entry$Kind;" (.ref w_LINK)) (S_OTHER : Sta Z h0 "com/example/rigging/rigging/Snapshot$Entry$Kind" "OTHER" "Lcom/example/rigging/rigging/Snapshot$Entry$Kind;" (.ref w_OTHER)) :
    Ctr l (⟨"com/example/rigging/rigging/EntryDigestPinLaw", "kindOf", "(I)Lcom/example/rigging/rigging/Snapshot$Entry$Kind;"⟩ : MethodName) method_2_code 1 (some (FieldType.object "com/example/rigging/rigging/Snapshot$Entry$Kind")) [] ({ frames := 0, cells := 0, slots := 0, locals := 0 } : Room) Z #[(.int i1)] h0 (fun v h L => v = some (.ref (f_kindOf i1 w_FILE w_DIRECTORY w_LINK w_OTHER)) ∧ Fr n0 L ∧ h = h0) := by
  refine own_enter pn_0 (fun p e s m below meth c s₁ hx hby hml hown hnm hret hlk hZ X0 e0 => ?_)
  have N0 := Fr.nil n0
  rw [ef_rm_kindOf m _]
  show Go p e below (s₁.setTop (mkF m 0 #[.val (.int i1)] [])) _
  refine g_iloadN X0 hx (hb hby d1_0) rfl ?_
  by_cases c1_1 : i1 = (0 : Int32)
  · refine g_ifNo X0 hx (hb hby d1_1) ((if0 _ _).trans (teq c1_1).2) ?_
    obtain ⟨T2, X2, e2, st2⟩ := getS2 X0 hx hZ hown (host := "") (Or.inl (hw _ (List.mem_of_getElem? (i := 4) rfl))) Via.refl e0 S_FILE (g := (mkF m 4 #[.val (.int i1)] [])) rfl (hb hby d1_4)
    refine Go.mp st2 ?_
    show Go p e below (T2.setTop (mkF m 7 #[.val (.int i1)] [(.ref w_FILE)])) _
    exact own_retA X2 hx hret hlk rfl rfl (hb hby d1_7) (by decide) (by decide) ⟨by rw [f_kindOf, if_pos c1_1], N0, e2⟩
  · refine g_ifYes X0 hx 8 (hb hby d1_1) ((if0 _ _).trans (feq c1_1).2) (by decide) (by decide) ?_
    refine g_iloadN X0 hx (hb hby d1_8) rfl ?_
    refine g_iconst X0 hx (1 : Int32) (hb hby d1_9) (by decide) ?_
    by_cases c10_3 : i1 = (1 : Int32)
    · refine g_icmpNo X0 hx (hb hby d1_10) (teq c10_3).2 ?_
      obtain ⟨T4, X4, e4, st4⟩ := getS2 X0 hx hZ hown (host := "") (Or.inl (hw _ (List.mem_of_getElem? (i := 39) rfl))) Via.refl e0 S_DIRECTORY (g := (mkF m 13 #[.val (.int i1)] [])) rfl (hb hby d1_13)
      refine Go.mp st4 ?_
      show Go p e below (T4.setTop (mkF m 16 #[.val (.int i1)] [(.ref w_DIRECTORY)])) _
      exact own_retA X4 hx hret hlk rfl rfl (hb hby d1_16) (by decide) (by decide) ⟨by rw [f_kindOf, if_neg c1_1, if_pos c10_3], N0, e4⟩
    · refine g_icmpYes X0 hx 17 (hb hby d1_10) (feq c10_3).2 (by decide) (by decide) ?_
      refine g_iloadN X0 hx (hb hby d1_17) rfl ?_
      refine g_iconst X0 hx (2 : Int32) (hb hby d1_18) (by decide) ?_
      by_cases c19_5 : i1 = (2 : Int32)
      · refine g_icmpNo X0 hx (hb hby d1_19) (teq c19_5).2 ?_
        obtain ⟨T6, X6, e6, st6⟩ := getS2 X0 hx hZ hown (host := "") (Or.inl (hw _ (List.mem_of_getElem? (i := 43) rfl))) Via.refl e0 S_LINK (g := (mkF m 22 #[.val (.int i1)] [])) rfl (hb hby d1_22)
        refine Go.mp st6 ?_
        show Go p e below (T6.setTop (mkF m 25 #[.val (.int i1)] [(.ref w_LINK)])) _
        exact own_retA X6 hx hret hlk rfl rfl (hb hby d1_25) (by decide) (by decide) ⟨by rw [f_kindOf, if_neg c1_1, if_neg c10_3, if_pos c19_5], N0, e6⟩
      · refine g_icmpYes X0 hx 26 (hb hby d1_19) (feq c19_5).2 (by decide) (by decide) ?_
        obtain ⟨T7, X7, e7, st7⟩ := getS2 X0 hx hZ hown (host := "") (Or.inl (hw _ (List.mem_of_getElem? (i := 41) rfl))) Via.refl e0 S_OTHER (g := (mkF m 26 #[.val (.int i1)] [])) rfl (hb hby d1_26)
        refine Go.mp st7 ?_
        show Go p e below (T7.setTop (mkF m 29 #[.val (.int i1)] [(.ref w_OTHER)])) _
        exact own_retA X7 hx hret hlk rfl rfl (hb hby d1_29) (by decide) (by decide) ⟨by rw [f_kindOf, if_neg c1_1, if_neg c10_3, if_neg c19_5], N0, e7⟩
theorem pn_1 : plainName "com/example/rigging/rigging/Snapshot$Entry" = true := by first | (simp [plainName, overriddenIn]; done) | decide +kernel
theorem d2_0 : decode prog_60_method_1_code 0 = .ok (.aload_n 0, 1) := by decide +kernel
theorem d2_1 : decode prog_60_method_1_code 1 = .ok (.invokespecial 1, 3) := by decide +kernel
theorem d2_4 : decode prog_60_method_1_code 4 = .ok (.aload_n 0, 1) := by decide +kernel
theorem d2_5 : decode prog_60_method_1_code 5 = .ok (.aload_n 1, 1) := by decide +kernel
theorem d2_6 : decode prog_60_method_1_code 6 = .ok (.putfield 7, 3) := by decide +kernel
theorem d2_9 : decode prog_60_method_1_code 9 = .ok (.aload_n 0, 1) := by decide +kernel
theorem d2_10 : decode prog_60_method_1_code 10 = .ok (.iload_n 2, 1) := by decide +kernel
theorem d2_11 : decode prog_60_method_1_code 11 = .ok (.putfield 13, 3) := by decide +kernel
theorem d2_14 : decode prog_60_method_1_code 14 = .ok (.aload_n 0, 1) := by decide +kernel
theorem d2_15 : decode prog_60_method_1_code 15 = .ok (.lload_n 3, 1) := by decide +kernel
theorem d2_16 : decode prog_60_method_1_code 16 = .ok (.putfield 17, 3) := by decide +kernel
theorem d2_19 : decode prog_60_method_1_code 19 = .ok (.aload_n 0, 1) := by decide +kernel
theorem d2_20 : decode prog_60_method_1_code 20 = .ok (.aload 5, 2) := by decide +kernel
theorem d2_22 : decode prog_60_method_1_code 22 = .ok (.ifnonnull 7, 3) := by decide +kernel
theorem d2_25 : decode prog_60_method_1_code 25 = .ok (.aconst_null, 1) := by decide +kernel
theorem d2_26 : decode prog_60_method_1_code 26 = .ok (.goto 11, 3) := by decide +kernel
theorem d2_37 : decode prog_60_method_1_code 37 = .ok (.putfield 27, 3) := by decide +kernel
theorem d2_40 : decode prog_60_method_1_code 40 = .ok (.return_, 1) := by decide +kernel
theorem ef_rm_initN (m : MethodId) (x0 : Addr) (x1 : Addr) (x2 : Int32) (x3 : Int64) : entryFrame m #[(.ref x0), (.ref x1), (.int x2), (.long x3), .null] 6 = mkF m 0 #[.val (.ref x0), .val (.ref x1), .val (.int x2), .val (.long x3), .second, .val .null] [] := by first | (simp [entryFrame, mkF, argsToLocals, Value.category]; done) | rfl
set_option maxRecDepth 65536 in
set_option maxHeartbeats 40000000 in
theorem rm_initN (l : Launch) (Z : State) (a0 : Array Value) (hw : ∀ d ∈ tables_1, d.before a0 Z = true) (a1 : Addr) (a2 : Addr) (i1 : Int32) (j1 : Int64) (h0 : Heap) (n0 : Nat) (Z0 : n0 ≤ h0.size) (E_a1 : Exa Z h0 a1 "com/example/rigging/rigging/Snapshot$Entry") (F_a1_kind : Fld Z h0 a1 "com/example/rigging/rigging/Snapshot$Entry" "kind" "Lcom/example/rigging/rigging/Snapshot$Entry$Kind;" .null) (F_a1_permissions : Fld Z h0 a1 "com/example/rigging/rigging/Snapshot$Entry" "permissions" "I" (.int (0 : Int32))) (F_a1_size : Fld Z h0 a1 "com/example/rigging/rigging/Snapshot$Entry" "size" "J" (.long (0 : Int64))) (F_a1_digest : Fld Z h0 a1 "com/example/rigging/rigging/Snapshot$Entry" "digest" "[B" .null) (g_a1 : n0 ≤ a1) :
    Ctr l (⟨"com/example/rigging/rigging/Snapshot$Entry", "<init>", "(Lcom/example/rigging/rigging/Snapshot$Entry$Kind;IJ[B)V"⟩ : MethodName) prog_60_method_1_code 6 none [] ({ frames := 1, cells := 0, slots := 0, locals := 12 } : Room) Z #[(.ref a1), (.ref a2), (.int i1), (.long j1), .null] h0 (fun v h L => v = none ∧ Fr n0 L ∧ Keep h0 h [a1] ∧ Fld Z h a1 "com/example/rigging/rigging/Snapshot$Entry" "digest" "[B" .null) := by
  refine own_enter pn_1 (fun p e s m below meth c s₁ hx hby hml hown hnm hret hlk hZ X0 e0 => ?_)
  have N0 := Fr.nil n0
  have K0 := Keep.refl h0 [a1]
  rw [ef_rm_initN m _ _ _ _ ]
  show Go p e below (s₁.setTop (mkF m 0 #[.val (.ref a1), .val (.ref a2), .val (.int i1), .val (.long j1), .second, .val .null] [])) _
  refine g_aloadN X0 hx (hb hby d2_0) rfl rfl ?_
  obtain ⟨T1, X1, e1, st1⟩ := initO X0 hx hZ hown (hw _ (List.mem_of_getElem? (i := 14) rfl)) (hw _ (List.mem_of_getElem? (i := 15) rfl)) (hw _ (List.mem_of_getElem? (i := 16) rfl)) e0 (g := (mkF m 1 #[.val (.ref a1), .val (.ref a2), .val (.int i1), .val (.long j1), .second, .val .null] [(.ref a1)])) rfl (by rw [hml]; rfl) rfl (hb hby d2_1) (by decide) (W := 0) (by show 2 * 0 + _ ≤ _; exact Nat.le_of_eq rfl) (by decide)
  refine Go.mp st1 ?_
  show Go p e below (T1.setTop (mkF m 4 #[.val (.ref a1), .val (.ref a2), .val (.int i1), .val (.long j1), .second, .val .null] [])) _
  refine g_aloadN X1 hx (hb hby d2_4) rfl rfl ?_
  refine g_aloadN X1 hx (hb hby d2_5) rfl rfl ?_
  obtain ⟨T2, h2, X2, e2, W2, st2⟩ := putF X1 hx hZ hown (host := "") (Or.inl (hw _ (List.mem_of_getElem? (i := 17) rfl))) Via.refl e1 F_a1_kind E_a1 (Or.inr ⟨(hw _ (List.mem_of_getElem? (i := 18) rfl)), rfl, hnm⟩) (hw _ (List.mem_of_getElem? (i := 9) rfl)) (ty := (FieldType.object "com/example/rigging/rigging/Snapshot$Entry$Kind")) (by decide) rfl rfl (g := (mkF m 6 #[.val (.ref a1), .val (.ref a2), .val (.int i1), .val (.long j1), .second, .val .null] [(.ref a2), (.ref a1)])) rfl rfl (hb hby d2_6)
  have N2 := Fr.snoc X2 N0 g_a1
  have E_a1_2 := Exa.wr W2 E_a1
  have F_a1_kind_2 := Fld.same W2 F_a1_kind
  have F_a1_permissions_2 := Fld.other W2 F_a1_permissions (Or.inr (slot_ne (Or.inr (hw _ (List.mem_of_getElem? (i := 20) rfl))) (Or.inr (hw _ (List.mem_of_getElem? (i := 18) rfl))) (by decide) (t := FieldType.int) (t' := (FieldType.object "com/example/rigging/rigging/Snapshot$Entry$Kind")) (by decide) (by decide)))
  have F_a1_size_2 := Fld.other W2 F_a1_size (Or.inr (slot_ne (Or.inr (hw _ (List.mem_of_getElem? (i := 22) rfl))) (Or.inr (hw _ (List.mem_of_getElem? (i := 18) rfl))) (by decide) (t := FieldType.long) (t' := (FieldType.object "com/example/rigging/rigging/Snapshot$Entry$Kind")) (by decide) (by decide)))
  have F_a1_digest_2 := Fld.other W2 F_a1_digest (Or.inr (slot_ne (Or.inr (hw _ (List.mem_of_getElem? (i := 33) rfl))) (Or.inr (hw _ (List.mem_of_getElem? (i := 18) rfl))) (by decide) (t := (FieldType.array FieldType.byte)) (t' := (FieldType.object "com/example/rigging/rigging/Snapshot$Entry$Kind")) (by decide) (by decide)))
  have Z2 : n0 ≤ h2.size := Nat.le_trans Z0 (Nat.le_of_eq W2.size.symm)
  have K2 := Keep.wr K0 W2 (Or.inl (List.mem_of_getElem? (i := 0) rfl))
  refine Go.mp st2 ?_
  show Go p e below (T2.setTop (mkF m 9 #[.val (.ref a1), .val (.ref a2), .val (.int i1), .val (.long j1), .second, .val .null] [])) _
  refine g_aloadN X2 hx (hb hby d2_9) rfl rfl ?_
  refine g_iloadN X2 hx (hb hby d2_10) rfl ?_
  obtain ⟨T3, h3, X3, e3, W3, st3⟩ := putF X2 hx hZ hown (host := "") (Or.inl (hw _ (List.mem_of_getElem? (i := 19) rfl))) Via.refl e2 F_a1_permissions_2 E_a1_2 (Or.inr ⟨(hw _ (List.mem_of_getElem? (i := 20) rfl)), rfl, hnm⟩) (hw _ (List.mem_of_getElem? (i := 9) rfl)) (ty := FieldType.int) (by decide) rfl rfl (g := (mkF m 11 #[.val (.ref a1), .val (.ref a2), .val (.int i1), .val (.long j1), .second, .val .null] [(.int i1), (.ref a1)])) rfl rfl (hb hby d2_11)
  have N3 := Fr.snoc X3 N2 g_a1
  have E_a1_3 := Exa.wr W3 E_a1_2
  have F_a1_kind_3 := Fld.other W3 F_a1_kind_2 (Or.inr (slot_ne (Or.inr (hw _ (List.mem_of_getElem? (i := 18) rfl))) (Or.inr (hw _ (List.mem_of_getElem? (i := 20) rfl))) (by decide) (t := (FieldType.object "com/example/rigging/rigging/Snapshot$Entry$Kind")) (t' := FieldType.int) (by decide) (by decide)))
  have F_a1_permissions_3 := Fld.same W3 F_a1_permissions_2
  have F_a1_size_3 := Fld.other W3 F_a1_size_2 (Or.inr (slot_ne (Or.inr (hw _ (List.mem_of_getElem? (i := 22) rfl))) (Or.inr (hw _ (List.mem_of_getElem? (i := 20) rfl))) (by decide) (t := FieldType.long) (t' := FieldType.int) (by decide) (by decide)))
  have F_a1_digest_3 := Fld.other W3 F_a1_digest_2 (Or.inr (slot_ne (Or.inr (hw _ (List.mem_of_getElem? (i := 33) rfl))) (Or.inr (hw _ (List.mem_of_getElem? (i := 20) rfl))) (by decide) (t := (FieldType.array FieldType.byte)) (t' := FieldType.int) (by decide) (by decide)))
  have Z3 : n0 ≤ h3.size := Nat.le_trans Z2 (Nat.le_of_eq W3.size.symm)
  have K3 := Keep.wr K2 W3 (Or.inl (List.mem_of_getElem? (i := 0) rfl))
  refine Go.mp st3 ?_
  show Go p e below (T3.setTop (mkF m 14 #[.val (.ref a1), .val (.ref a2), .val (.int i1), .val (.long j1), .second, .val .null] [])) _
  refine g_aloadN X3 hx (hb hby d2_14) rfl rfl ?_
  refine g_lloadN X3 hx (hb hby d2_15) rfl ?_
  obtain ⟨T4, h4, X4, e4, W4, st4⟩ := putF X3 hx hZ hown (host := "") (Or.inl (hw _ (List.mem_of_getElem? (i := 21) rfl))) Via.refl e3 F_a1_size_3 E_a1_3 (Or.inr ⟨(hw _ (List.mem_of_getElem? (i := 22) rfl)), rfl, hnm⟩) (hw _ (List.mem_of_getElem? (i := 9) rfl)) (ty := FieldType.long) (by decide) rfl rfl (g := (mkF m 16 #[.val (.ref a1), .val (.ref a2), .val (.int i1), .val (.long j1), .second, .val .null] [(.long j1), (.ref a1)])) rfl rfl (hb hby d2_16)
  have N4 := Fr.snoc X4 N3 g_a1
  have E_a1_4 := Exa.wr W4 E_a1_3
  have F_a1_kind_4 := Fld.other W4 F_a1_kind_3 (Or.inr (slot_ne (Or.inr (hw _ (List.mem_of_getElem? (i := 18) rfl))) (Or.inr (hw _ (List.mem_of_getElem? (i := 22) rfl))) (by decide) (t := (FieldType.object "com/example/rigging/rigging/Snapshot$Entry$Kind")) (t' := FieldType.long) (by decide) (by decide)))
  have F_a1_permissions_4 := Fld.other W4 F_a1_permissions_3 (Or.inr (slot_ne (Or.inr (hw _ (List.mem_of_getElem? (i := 20) rfl))) (Or.inr (hw _ (List.mem_of_getElem? (i := 22) rfl))) (by decide) (t := FieldType.int) (t' := FieldType.long) (by decide) (by decide)))
  have F_a1_size_4 := Fld.same W4 F_a1_size_3
  have F_a1_digest_4 := Fld.other W4 F_a1_digest_3 (Or.inr (slot_ne (Or.inr (hw _ (List.mem_of_getElem? (i := 33) rfl))) (Or.inr (hw _ (List.mem_of_getElem? (i := 22) rfl))) (by decide) (t := (FieldType.array FieldType.byte)) (t' := FieldType.long) (by decide) (by decide)))
  have Z4 : n0 ≤ h4.size := Nat.le_trans Z3 (Nat.le_of_eq W4.size.symm)
  have K4 := Keep.wr K3 W4 (Or.inl (List.mem_of_getElem? (i := 0) rfl))
  refine Go.mp st4 ?_
  show Go p e below (T4.setTop (mkF m 19 #[.val (.ref a1), .val (.ref a2), .val (.int i1), .val (.long j1), .second, .val .null] [])) _
  refine g_aloadN X4 hx (hb hby d2_19) rfl rfl ?_
  refine g_aload X4 hx (hb hby d2_20) rfl rfl ?_
  refine Go.mp (fun _ k => XS.ifnonnullNo X4.here hx rfl (hb hby d2_22) rfl k) ?_
  show Go p e below (T4.setTop (mkF m 25 #[.val (.ref a1), .val (.ref a2), .val (.int i1), .val (.long j1), .second, .val .null] [(.ref a1)])) _
  refine g_null X4 hx (hb hby d2_25) ?_
  refine g_goto X4 hx 37 (hb hby d2_26) (by decide) (by decide) ?_
  obtain ⟨T5, h5, X5, e5, W5, st5⟩ := putF X4 hx hZ hown (host := "") (Or.inl (hw _ (List.mem_of_getElem? (i := 32) rfl))) Via.refl e4 F_a1_digest_4 E_a1_4 (Or.inr ⟨(hw _ (List.mem_of_getElem? (i := 33) rfl)), rfl, hnm⟩) (hw _ (List.mem_of_getElem? (i := 9) rfl)) (ty := (FieldType.array FieldType.byte)) (by decide) rfl rfl (g := (mkF m 37 #[.val (.ref a1), .val (.ref a2), .val (.int i1), .val (.long j1), .second, .val .null] [.null, (.ref a1)])) rfl rfl (hb hby d2_37)
  have N5 := Fr.snoc X5 N4 g_a1
  have E_a1_5 := Exa.wr W5 E_a1_4
  have F_a1_kind_5 := Fld.other W5 F_a1_kind_4 (Or.inr (slot_ne (Or.inr (hw _ (List.mem_of_getElem? (i := 18) rfl))) (Or.inr (hw _ (List.mem_of_getElem? (i := 33) rfl))) (by decide) (t := (FieldType.object "com/example/rigging/rigging/Snapshot$Entry$Kind")) (t' := (FieldType.array FieldType.byte)) (by decide) (by decide)))
  have F_a1_permissions_5 := Fld.other W5 F_a1_permissions_4 (Or.inr (slot_ne (Or.inr (hw _ (List.mem_of_getElem? (i := 20) rfl))) (Or.inr (hw _ (List.mem_of_getElem? (i := 33) rfl))) (by decide) (t := FieldType.int) (t' := (FieldType.array FieldType.byte)) (by decide) (by decide)))
  have F_a1_size_5 := Fld.other W5 F_a1_size_4 (Or.inr (slot_ne (Or.inr (hw _ (List.mem_of_getElem? (i := 22) rfl))) (Or.inr (hw _ (List.mem_of_getElem? (i := 33) rfl))) (by decide) (t := FieldType.long) (t' := (FieldType.array FieldType.byte)) (by decide) (by decide)))
  have F_a1_digest_5 := Fld.same W5 F_a1_digest_4
  have Z5 : n0 ≤ h5.size := Nat.le_trans Z4 (Nat.le_of_eq W5.size.symm)
  have K5 := Keep.wr K4 W5 (Or.inl (List.mem_of_getElem? (i := 0) rfl))
  refine Go.mp st5 ?_
  show Go p e below (T5.setTop (mkF m 40 #[.val (.ref a1), .val (.ref a2), .val (.int i1), .val (.long j1), .second, .val .null] [])) _
  exact own_retV X5 hx hret hlk (hb hby d2_40) (by decide) (by decide) (by rw [e5]; exact ⟨rfl, N5, K5, F_a1_digest_5⟩)
theorem d4_0 : decode prog_60_method_5_code 0 = .ok (.aload_n 0, 1) := by decide +kernel
theorem d4_1 : decode prog_60_method_5_code 1 = .ok (.getfield 27, 3) := by decide +kernel
theorem d4_4 : decode prog_60_method_5_code 4 = .ok (.ifnonnull 7, 3) := by decide +kernel
theorem d4_7 : decode prog_60_method_5_code 7 = .ok (.aconst_null, 1) := by decide +kernel
theorem d4_8 : decode prog_60_method_5_code 8 = .ok (.goto 13, 3) := by decide +kernel
theorem d4_21 : decode prog_60_method_5_code 21 = .ok (.areturn, 1) := by decide +kernel
theorem ef_rm_digestN (m : MethodId) (x0 : Addr) : entryFrame m #[(.ref x0)] 1 = mkF m 0 #[.val (.ref x0)] [] := by first | (simp [entryFrame, mkF, argsToLocals, Value.category]; done) | rfl
set_option maxRecDepth 65536 in
set_option maxHeartbeats 40000000 in
theorem rm_digestN (l : Launch) (Z : State) (a0 : Array Value) (hw : ∀ d ∈ tables_1, d.before a0 Z = true) (a1 : Addr) (h0 : Heap) (n0 : Nat) (Z0 : n0 ≤ h0.size) (F_a1_digest : Fld Z h0 a1 "com/example/rigging/rigging/Snapshot$Entry" "digest" "[B" .null) :
    Ctr l (⟨"com/example/rigging/rigging/Snapshot$Entry", "digest", "()[B"⟩ : MethodName) prog_60_method_5_code 1 (some (FieldType.array FieldType.byte)) [] ({ frames := 0, cells := 0, slots := 0, locals := 0 } : Room) Z #[(.ref a1)] h0 (fun v h L => v = some .null ∧ Fr n0 L ∧ h = h0) := by
  refine own_enter pn_1 (fun p e s m below meth c s₁ hx hby hml hown hnm hret hlk hZ X0 e0 => ?_)
  have N0 := Fr.nil n0
  rw [ef_rm_digestN m _]
  show Go p e below (s₁.setTop (mkF m 0 #[.val (.ref a1)] [])) _
  refine g_aloadN X0 hx (hb hby d4_0) rfl rfl ?_
  obtain ⟨T1, X1, e1, st1⟩ := getF X0 hx hZ hown (host := "") (Or.inl (hw _ (List.mem_of_getElem? (i := 32) rfl))) Via.refl e0 F_a1_digest (g := (mkF m 1 #[.val (.ref a1)] [(.ref a1)])) rfl rfl (hb hby d4_1)
  refine Go.mp st1 ?_
  show Go p e below (T1.setTop (mkF m 4 #[.val (.ref a1)] [.null])) _
  refine Go.mp (fun _ k => XS.ifnonnullNo X1.here hx rfl (hb hby d4_4) rfl k) ?_
  show Go p e below (T1.setTop (mkF m 7 #[.val (.ref a1)] [])) _
  refine g_null X1 hx (hb hby d4_7) ?_
  refine g_goto X1 hx 21 (hb hby d4_8) (by decide) (by decide) ?_
  exact own_retA X1 hx hret hlk rfl rfl (hb hby d4_21) (by decide) (by decide) ⟨rfl, N0, e1⟩
theorem d2_29 : decode prog_60_method_1_code 29 = .ok (.aload 5, 2) := by decide +kernel
theorem d2_31 : decode prog_60_method_1_code 31 = .ok (.invokevirtual 21, 3) := by decide +kernel
theorem d2_34 : decode prog_60_method_1_code 34 = .ok (.checkcast 22, 3) := by decide +kernel
theorem ef_rm_init0 (m : MethodId) (x0 : Addr) (x1 : Addr) (x2 : Int32) (x3 : Int64) (x4 : Addr) : entryFrame m #[(.ref x0), (.ref x1), (.int x2), (.long x3), (.ref x4)] 6 = mkF m 0 #[.val (.ref x0), .val (.ref x1), .val (.int x2), .val (.long x3), .second, .val (.ref x4)] [] := by first | (simp [entryFrame, mkF, argsToLocals, Value.category]; done) | rfl
set_option maxRecDepth 65536 in
set_option maxHeartbeats 40000000 in
theorem rm_init0 (l : Launch) (Z : State) (a0 : Array Value) (hw : ∀ d ∈ tables_1, d.before a0 Z = true) (a1 : Addr) (a2 : Addr) (i1 : Int32) (j1 : Int64) (d1 : Addr) (kk : ClassId) (vs : List Value) (h0 : Heap) (n0 : Nat) (Z0 : n0 ≤ h0.size) (E_a1 : Exa Z h0 a1 "com/example/rigging/rigging/Snapshot$Entry") (F_a1_kind : Fld Z h0 a1 "com/example/rigging/rigging/Snapshot$Entry" "kind" "Lcom/example/rigging/rigging/Snapshot$Entry$Kind;" .null) (F_a1_permissions : Fld Z h0 a1 "com/example/rigging/rigging/Snapshot$Entry" "permissions" "I" (.int (0 : Int32))) (F_a1_size : Fld Z h0 a1 "com/example/rigging/rigging/Snapshot$Entry" "size" "J" (.long (0 : Int64))) (F_a1_digest : Fld Z h0 a1 "com/example/rigging/rigging/Snapshot$Entry" "digest" "[B" .null) (g_a1 : n0 ≤ a1) (V_d1 : Arv Z h0 d1 kk .byte (0 : Int32) vs (.int 0)) (E_d1 : Exa Z h0 d1 "[B") (ne_d1_a1 : d1 ≠ a1) :
    Ctr l (⟨"com/example/rigging/rigging/Snapshot$Entry", "<init>", "(Lcom/example/rigging/rigging/Snapshot$Entry$Kind;IJ[B)V"⟩ : MethodName) prog_60_method_1_code 6 none [] ({ frames := 1, cells := 1, slots := 0, locals := 16 } : Room) Z #[(.ref a1), (.ref a2), (.int i1), (.long j1), (.ref d1)] h0 (fun v h L => ∃ b, v = none ∧ Fr n0 L ∧ Keep h0 h [a1] ∧ h0.size ≤ b ∧ Fld Z h a1 "com/example/rigging/rigging/Snapshot$Entry" "digest" "[B" (.ref b) ∧ Arv Z h b kk .byte (0 : Int32) vs (.int 0) ∧ Exa Z h b "[B") := by
  refine own_enter pn_1 (fun p e s m below meth c s₁ hx hby hml hown hnm hret hlk hZ X0 e0 => ?_)
  have N0 := Fr.nil n0
  have K0 := Keep.refl h0 [a1]
  rw [ef_rm_init0 m _ _ _ _ _]
  show Go p e below (s₁.setTop (mkF m 0 #[.val (.ref a1), .val (.ref a2), .val (.int i1), .val (.long j1), .second, .val (.ref d1)] [])) _
  refine g_aloadN X0 hx (hb hby d2_0) rfl rfl ?_
  obtain ⟨T1, X1, e1, st1⟩ := initO X0 hx hZ hown (hw _ (List.mem_of_getElem? (i := 14) rfl)) (hw _ (List.mem_of_getElem? (i := 15) rfl)) (hw _ (List.mem_of_getElem? (i := 16) rfl)) e0 (g := (mkF m 1 #[.val (.ref a1), .val (.ref a2), .val (.int i1), .val (.long j1), .second, .val (.ref d1)] [(.ref a1)])) rfl (by rw [hml]; rfl) rfl (hb hby d2_1) (by decide) (W := 0) (by show 2 * 0 + _ ≤ _; exact Nat.le_of_eq rfl) (by decide)
  refine Go.mp st1 ?_
  show Go p e below (T1.setTop (mkF m 4 #[.val (.ref a1), .val (.ref a2), .val (.int i1), .val (.long j1), .second, .val (.ref d1)] [])) _
  refine g_aloadN X1 hx (hb hby d2_4) rfl rfl ?_
  refine g_aloadN X1 hx (hb hby d2_5) rfl rfl ?_
  obtain ⟨T2, h2, X2, e2, W2, st2⟩ := putF X1 hx hZ hown (host := "") (Or.inl (hw _ (List.mem_of_getElem? (i := 17) rfl))) Via.refl e1 F_a1_kind E_a1 (Or.inr ⟨(hw _ (List.mem_of_getElem? (i := 18) rfl)), rfl, hnm⟩) (hw _ (List.mem_of_getElem? (i := 9) rfl)) (ty := (FieldType.object "com/example/rigging/rigging/Snapshot$Entry$Kind")) (by decide) rfl rfl (g := (mkF m 6 #[.val (.ref a1), .val (.ref a2), .val (.int i1), .val (.long j1), .second, .val (.ref d1)] [(.ref a2), (.ref a1)])) rfl rfl (hb hby d2_6)
  have N2 := Fr.snoc X2 N0 g_a1
  have E_a1_2 := Exa.wr W2 E_a1
  have F_a1_kind_2 := Fld.same W2 F_a1_kind
  have F_a1_permissions_2 := Fld.other W2 F_a1_permissions (Or.inr (slot_ne (Or.inr (hw _ (List.mem_of_getElem? (i := 20) rfl))) (Or.inr (hw _ (List.mem_of_getElem? (i := 18) rfl))) (by decide) (t := FieldType.int) (t' := (FieldType.object "com/example/rigging/rigging/Snapshot$Entry$Kind")) (by decide) (by decide)))
  have F_a1_size_2 := Fld.other W2 F_a1_size (Or.inr (slot_ne (Or.inr (hw _ (List.mem_of_getElem? (i := 22) rfl))) (Or.inr (hw _ (List.mem_of_getElem? (i := 18) rfl))) (by decide) (t := FieldType.long) (t' := (FieldType.object "com/example/rigging/rigging/Snapshot$Entry$Kind")) (by decide) (by decide)))
  have F_a1_digest_2 := Fld.other W2 F_a1_digest (Or.inr (slot_ne (Or.inr (hw _ (List.mem_of_getElem? (i := 33) rfl))) (Or.inr (hw _ (List.mem_of_getElem? (i := 18) rfl))) (by decide) (t := (FieldType.array FieldType.byte)) (t' := (FieldType.object "com/example/rigging/rigging/Snapshot$Entry$Kind")) (by decide) (by decide)))
  have V_d1_2 := Arv.other V_d1 W2 ne_d1_a1
  have E_d1_2 := Exa.wr W2 E_d1
  have Z2 : n0 ≤ h2.size := Nat.le_trans Z0 (Nat.le_of_eq W2.size.symm)
  have K2 := Keep.wr K0 W2 (Or.inl (List.mem_of_getElem? (i := 0) rfl))
  refine Go.mp st2 ?_
  show Go p e below (T2.setTop (mkF m 9 #[.val (.ref a1), .val (.ref a2), .val (.int i1), .val (.long j1), .second, .val (.ref d1)] [])) _
  refine g_aloadN X2 hx (hb hby d2_9) rfl rfl ?_
  refine g_iloadN X2 hx (hb hby d2_10) rfl ?_
  obtain ⟨T3, h3, X3, e3, W3, st3⟩ := putF X2 hx hZ hown (host := "") (Or.inl (hw _ (List.mem_of_getElem? (i := 19) rfl))) Via.refl e2 F_a1_permissions_2 E_a1_2 (Or.inr ⟨(hw _ (List.mem_of_getElem? (i := 20) rfl)), rfl, hnm⟩) (hw _ (List.mem_of_getElem? (i := 9) rfl)) (ty := FieldType.int) (by decide) rfl rfl (g := (mkF m 11 #[.val (.ref a1), .val (.ref a2), .val (.int i1), .val (.long j1), .second, .val (.ref d1)] [(.int i1), (.ref a1)])) rfl rfl (hb hby d2_11)
  have N3 := Fr.snoc X3 N2 g_a1
  have E_a1_3 := Exa.wr W3 E_a1_2
  have F_a1_kind_3 := Fld.other W3 F_a1_kind_2 (Or.inr (slot_ne (Or.inr (hw _ (List.mem_of_getElem? (i := 18) rfl))) (Or.inr (hw _ (List.mem_of_getElem? (i := 20) rfl))) (by decide) (t := (FieldType.object "com/example/rigging/rigging/Snapshot$Entry$Kind")) (t' := FieldType.int) (by decide) (by decide)))
  have F_a1_permissions_3 := Fld.same W3 F_a1_permissions_2
  have F_a1_size_3 := Fld.other W3 F_a1_size_2 (Or.inr (slot_ne (Or.inr (hw _ (List.mem_of_getElem? (i := 22) rfl))) (Or.inr (hw _ (List.mem_of_getElem? (i := 20) rfl))) (by decide) (t := FieldType.long) (t' := FieldType.int) (by decide) (by decide)))
  have F_a1_digest_3 := Fld.other W3 F_a1_digest_2 (Or.inr (slot_ne (Or.inr (hw _ (List.mem_of_getElem? (i := 33) rfl))) (Or.inr (hw _ (List.mem_of_getElem? (i := 20) rfl))) (by decide) (t := (FieldType.array FieldType.byte)) (t' := FieldType.int) (by decide) (by decide)))
  have V_d1_3 := Arv.other V_d1_2 W3 ne_d1_a1
  have E_d1_3 := Exa.wr W3 E_d1_2
  have Z3 : n0 ≤ h3.size := Nat.le_trans Z2 (Nat.le_of_eq W3.size.symm)
  have K3 := Keep.wr K2 W3 (Or.inl (List.mem_of_getElem? (i := 0) rfl))
  refine Go.mp st3 ?_
  show Go p e below (T3.setTop (mkF m 14 #[.val (.ref a1), .val (.ref a2), .val (.int i1), .val (.long j1), .second, .val (.ref d1)] [])) _
  refine g_aloadN X3 hx (hb hby d2_14) rfl rfl ?_
  refine g_lloadN X3 hx (hb hby d2_15) rfl ?_
  obtain ⟨T4, h4, X4, e4, W4, st4⟩ := putF X3 hx hZ hown (host := "") (Or.inl (hw _ (List.mem_of_getElem? (i := 21) rfl))) Via.refl e3 F_a1_size_3 E_a1_3 (Or.inr ⟨(hw _ (List.mem_of_getElem? (i := 22) rfl)), rfl, hnm⟩) (hw _ (List.mem_of_getElem? (i := 9) rfl)) (ty := FieldType.long) (by decide) rfl rfl (g := (mkF m 16 #[.val (.ref a1), .val (.ref a2), .val (.int i1), .val (.long j1), .second, .val (.ref d1)] [(.long j1), (.ref a1)])) rfl rfl (hb hby d2_16)
  have N4 := Fr.snoc X4 N3 g_a1
  have E_a1_4 := Exa.wr W4 E_a1_3
  have F_a1_kind_4 := Fld.other W4 F_a1_kind_3 (Or.inr (slot_ne (Or.inr (hw _ (List.mem_of_getElem? (i := 18) rfl))) (Or.inr (hw _ (List.mem_of_getElem? (i := 22) rfl))) (by decide) (t := (FieldType.object "com/example/rigging/rigging/Snapshot$Entry$Kind")) (t' := FieldType.long) (by decide) (by decide)))
  have F_a1_permissions_4 := Fld.other W4 F_a1_permissions_3 (Or.inr (slot_ne (Or.inr (hw _ (List.mem_of_getElem? (i := 20) rfl))) (Or.inr (hw _ (List.mem_of_getElem? (i := 22) rfl))) (by decide) (t := FieldType.int) (t' := FieldType.long) (by decide) (by decide)))
  have F_a1_size_4 := Fld.same W4 F_a1_size_3
  have F_a1_digest_4 := Fld.other W4 F_a1_digest_3 (Or.inr (slot_ne (Or.inr (hw _ (List.mem_of_getElem? (i := 33) rfl))) (Or.inr (hw _ (List.mem_of_getElem? (i := 22) rfl))) (by decide) (t := (FieldType.array FieldType.byte)) (t' := FieldType.long) (by decide) (by decide)))
  have V_d1_4 := Arv.other V_d1_3 W4 ne_d1_a1
  have E_d1_4 := Exa.wr W4 E_d1_3
  have Z4 : n0 ≤ h4.size := Nat.le_trans Z3 (Nat.le_of_eq W4.size.symm)
  have K4 := Keep.wr K3 W4 (Or.inl (List.mem_of_getElem? (i := 0) rfl))
  refine Go.mp st4 ?_
  show Go p e below (T4.setTop (mkF m 19 #[.val (.ref a1), .val (.ref a2), .val (.int i1), .val (.long j1), .second, .val (.ref d1)] [])) _
  refine g_aloadN X4 hx (hb hby d2_19) rfl rfl ?_
  refine g_aload X4 hx (hb hby d2_20) rfl rfl ?_
  refine Go.mp (fun _ k => XS.ifnonnullYes X4.here hx rfl (pc0 := 22) (pc' := 29) rfl (hb hby d2_22) rfl (by decide) (by decide) k) ?_
  show Go p e below (T4.setTop (mkF m 29 #[.val (.ref a1), .val (.ref a2), .val (.int i1), .val (.long j1), .second, .val (.ref d1)] [(.ref a1)])) _
  refine g_aload X4 hx (hb hby d2_29) rfl rfl ?_
  obtain ⟨cl5, Ar5, cq5, sz5, nn5, Ha5, Gf5⟩ := id V_d1_4
  obtain ⟨T5, h5, X5, e5, E5, A5, C5, st5⟩ := cloneA X4 hx hZ hown (hw _ (List.mem_of_getElem? (i := 23) rfl)) (hw _ (List.mem_of_getElem? (i := 24) rfl)) (hw _ (List.mem_of_getElem? (i := 28) rfl)) (hw _ (List.mem_of_getElem? (i := 26) rfl)) (hw _ (List.mem_of_getElem? (i := 27) rfl)) (hw _ (List.mem_of_getElem? (i := 29) rfl)) e4 Ar5 E_d1_4 (own_fitC Ar5 Ha5 Gf5) (g := (mkF m 31 #[.val (.ref a1), .val (.ref a2), .val (.int i1), .val (.long j1), .second, .val (.ref d1)] [(.ref d1), (.ref a1)])) rfl (by rw [hml]; rfl) rfl (hb hby d2_31) (by decide) (W := 1) (cap := 0) (by show 2 * 0 + _ ≤ _; exact Nat.le_of_eq rfl) (by decide) (by rw [sz5]; decide) (by decide) (by decide)
  obtain ⟨b5, g5⟩ : ∃ z, z = h4.size := ⟨_, rfl⟩
  rw [← g5] at A5 C5 st5
  have ne_a1_b5 : a1 ≠ b5 := Nat.ne_of_lt (Nat.lt_of_lt_of_le E_a1_4.lt (Nat.le_of_eq g5.symm))
  have ne_d1_b5 : d1 ≠ b5 := Nat.ne_of_lt (Nat.lt_of_lt_of_le V_d1_4.lt (Nat.le_of_eq g5.symm))
  have g_b5 : n0 ≤ b5 := Nat.le_trans Z4 (Nat.le_of_eq g5.symm)
  have Z5 : n0 ≤ h5.size := Nat.le_trans Z4 E5.1
  have E_a1_5 := Exa.ext E5 E_a1_4
  have F_a1_kind_5 := Fld.ext E5 F_a1_kind_4
  have F_a1_permissions_5 := Fld.ext E5 F_a1_permissions_4
  have F_a1_size_5 := Fld.ext E5 F_a1_size_4
  have F_a1_digest_5 := Fld.ext E5 F_a1_digest_4
  have V_d1_5 := Arv.ext V_d1_4 E5
  have E_d1_5 := Exa.ext E5 E_d1_4
  have sz_b5 : h0.size ≤ b5 := Nat.le_trans K4.1 (Nat.le_of_eq g5.symm)
  have K5 := Keep.ext K4 E5
  have V5 : Arv Z h5 b5 _ _ _ _ _ := ⟨_, A5, cq5, sz5, nn5, Ha5, Gf5⟩
  refine Go.mp st5 ?_
  show Go p e below (T5.setTop (mkF m 34 #[.val (.ref a1), .val (.ref a2), .val (.int i1), .val (.long j1), .second, .val (.ref d1)] [(.ref b5), (.ref a1)])) _
  obtain ⟨T6, X6, e6, st6⟩ := castY X5 hx hZ hown (hw _ (List.mem_of_getElem? (i := 30) rfl)) e5 (Ins.self C5) (g := (mkF m 34 #[.val (.ref a1), .val (.ref a2), .val (.int i1), .val (.long j1), .second, .val (.ref d1)] [(.ref b5), (.ref a1)])) rfl rfl (hb hby d2_34)
  refine Go.mp st6 ?_
  show Go p e below (T6.setTop (mkF m 37 #[.val (.ref a1), .val (.ref a2), .val (.int i1), .val (.long j1), .second, .val (.ref d1)] [(.ref b5), (.ref a1)])) _
  obtain ⟨T7, h7, X7, e7, W7, st7⟩ := putF X6 hx hZ hown (host := "") (Or.inl (hw _ (List.mem_of_getElem? (i := 32) rfl))) Via.refl e6 F_a1_digest_5 E_a1_5 (Or.inr ⟨(hw _ (List.mem_of_getElem? (i := 33) rfl)), rfl, hnm⟩) (hw _ (List.mem_of_getElem? (i := 9) rfl)) (ty := (FieldType.array FieldType.byte)) (by decide) rfl rfl (g := (mkF m 37 #[.val (.ref a1), .val (.ref a2), .val (.int i1), .val (.long j1), .second, .val (.ref d1)] [(.ref b5), (.ref a1)])) rfl rfl (hb hby d2_37)
  have N7 := Fr.snoc X7 N4 g_a1
  have E_a1_7 := Exa.wr W7 E_a1_5
  have F_a1_kind_7 := Fld.other W7 F_a1_kind_5 (Or.inr (slot_ne (Or.inr (hw _ (List.mem_of_getElem? (i := 18) rfl))) (Or.inr (hw _ (List.mem_of_getElem? (i := 33) rfl))) (by decide) (t := (FieldType.object "com/example/rigging/rigging/Snapshot$Entry$Kind")) (t' := (FieldType.array FieldType.byte)) (by decide) (by decide)))
  have F_a1_permissions_7 := Fld.other W7 F_a1_permissions_5 (Or.inr (slot_ne (Or.inr (hw _ (List.mem_of_getElem? (i := 20) rfl))) (Or.inr (hw _ (List.mem_of_getElem? (i := 33) rfl))) (by decide) (t := FieldType.int) (t' := (FieldType.array FieldType.byte)) (by decide) (by decide)))
  have F_a1_size_7 := Fld.other W7 F_a1_size_5 (Or.inr (slot_ne (Or.inr (hw _ (List.mem_of_getElem? (i := 22) rfl))) (Or.inr (hw _ (List.mem_of_getElem? (i := 33) rfl))) (by decide) (t := FieldType.long) (t' := (FieldType.array FieldType.byte)) (by decide) (by decide)))
  have F_a1_digest_7 := Fld.same W7 F_a1_digest_5
  have V_d1_7 := Arv.other V_d1_5 W7 ne_d1_a1
  have E_d1_7 := Exa.wr W7 E_d1_5
  have V_b5_7 := Arv.other V5 W7 (Ne.symm ne_a1_b5)
  have E_b5_7 := Exa.wr W7 C5
  have Z7 : n0 ≤ h7.size := Nat.le_trans Z5 (Nat.le_of_eq W7.size.symm)
  have K7 := Keep.wr K5 W7 (Or.inl (List.mem_of_getElem? (i := 0) rfl))
  refine Go.mp st7 ?_
  show Go p e below (T7.setTop (mkF m 40 #[.val (.ref a1), .val (.ref a2), .val (.int i1), .val (.long j1), .second, .val (.ref d1)] [])) _
  exact own_retV X7 hx hret hlk (hb hby d2_40) (by decide) (by decide) (by rw [e7]; exact ⟨b5, rfl, N7, K7, sz_b5, F_a1_digest_7, V_b5_7, E_b5_7⟩)
theorem d4_11 : decode prog_60_method_5_code 11 = .ok (.aload_n 0, 1) := by decide +kernel
theorem d4_12 : decode prog_60_method_5_code 12 = .ok (.getfield 27, 3) := by decide +kernel
theorem d4_15 : decode prog_60_method_5_code 15 = .ok (.invokevirtual 21, 3) := by decide +kernel
theorem d4_18 : decode prog_60_method_5_code 18 = .ok (.checkcast 22, 3) := by decide +kernel
theorem ef_rm_digest0 (m : MethodId) (x0 : Addr) : entryFrame m #[(.ref x0)] 1 = mkF m 0 #[.val (.ref x0)] [] := by first | (simp [entryFrame, mkF, argsToLocals, Value.category]; done) | rfl
set_option maxRecDepth 65536 in
set_option maxHeartbeats 40000000 in
theorem rm_digest0 (l : Launch) (Z : State) (a0 : Array Value) (hw : ∀ d ∈ tables_1, d.before a0 Z = true) (a1 : Addr) (d1 : Addr) (kk : ClassId) (vs : List Value) (h0 : Heap) (n0 : Nat) (Z0 : n0 ≤ h0.size) (F_a1_digest : Fld Z h0 a1 "com/example/rigging/rigging/Snapshot$Entry" "digest" "[B" (.ref d1)) (V_d1 : Arv Z h0 d1 kk .byte (0 : Int32) vs (.int 0)) (E_d1 : Exa Z h0 d1 "[B") :
    Ctr l (⟨"com/example/rigging/rigging/Snapshot$Entry", "digest", "()[B"⟩ : MethodName) prog_60_method_5_code 1 (some (FieldType.array FieldType.byte)) [] ({ frames := 1, cells := 1, slots := 0, locals := 16 } : Room) Z #[(.ref a1)] h0 (fun v h L => ∃ b, v = some (.ref b) ∧ Fr n0 L ∧ Keep h0 h [] ∧ h0.size ≤ b ∧ Arv Z h b kk .byte (0 : Int32) vs (.int 0) ∧ Exa Z h b "[B") := by
  refine own_enter pn_1 (fun p e s m below meth c s₁ hx hby hml hown hnm hret hlk hZ X0 e0 => ?_)
  have N0 := Fr.nil n0
  have K0 := Keep.refl h0 []
  rw [ef_rm_digest0 m _]
  show Go p e below (s₁.setTop (mkF m 0 #[.val (.ref a1)] [])) _
  refine g_aloadN X0 hx (hb hby d4_0) rfl rfl ?_
  obtain ⟨T1, X1, e1, st1⟩ := getF X0 hx hZ hown (host := "") (Or.inl (hw _ (List.mem_of_getElem? (i := 32) rfl))) Via.refl e0 F_a1_digest (g := (mkF m 1 #[.val (.ref a1)] [(.ref a1)])) rfl rfl (hb hby d4_1)
  refine Go.mp st1 ?_
  show Go p e below (T1.setTop (mkF m 4 #[.val (.ref a1)] [(.ref d1)])) _
  refine Go.mp (fun _ k => XS.ifnonnullYes X1.here hx rfl (pc0 := 4) (pc' := 11) rfl (hb hby d4_4) rfl (by decide) (by decide) k) ?_
  show Go p e below (T1.setTop (mkF m 11 #[.val (.ref a1)] [])) _
  refine g_aloadN X1 hx (hb hby d4_11) rfl rfl ?_
  obtain ⟨T2, X2, e2, st2⟩ := getF X1 hx hZ hown (host := "") (Or.inl (hw _ (List.mem_of_getElem? (i := 32) rfl))) Via.refl e1 F_a1_digest (g := (mkF m 12 #[.val (.ref a1)] [(.ref a1)])) rfl rfl (hb hby d4_12)
  refine Go.mp st2 ?_
  show Go p e below (T2.setTop (mkF m 15 #[.val (.ref a1)] [(.ref d1)])) _
  obtain ⟨cl3, Ar3, cq3, sz3, nn3, Ha3, Gf3⟩ := id V_d1
  obtain ⟨T3, h3, X3, e3, E3, A3, C3, st3⟩ := cloneA X2 hx hZ hown (hw _ (List.mem_of_getElem? (i := 23) rfl)) (hw _ (List.mem_of_getElem? (i := 24) rfl)) (hw _ (List.mem_of_getElem? (i := 28) rfl)) (hw _ (List.mem_of_getElem? (i := 26) rfl)) (hw _ (List.mem_of_getElem? (i := 27) rfl)) (hw _ (List.mem_of_getElem? (i := 29) rfl)) e2 Ar3 E_d1 (own_fitC Ar3 Ha3 Gf3) (g := (mkF m 15 #[.val (.ref a1)] [(.ref d1)])) rfl (by rw [hml]; rfl) rfl (hb hby d4_15) (by decide) (W := 0) (cap := 0) (by show 2 * 0 + _ ≤ _; exact Nat.le_of_eq rfl) (by decide) (by rw [sz3]; decide) (by decide) (by decide)
  obtain ⟨b3, g3⟩ : ∃ z, z = h0.size := ⟨_, rfl⟩
  rw [← g3] at A3 C3 st3
  have ne_a1_b3 : a1 ≠ b3 := Nat.ne_of_lt (Nat.lt_of_lt_of_le F_a1_digest.lt (Nat.le_of_eq g3.symm))
  have ne_d1_b3 : d1 ≠ b3 := Nat.ne_of_lt (Nat.lt_of_lt_of_le V_d1.lt (Nat.le_of_eq g3.symm))
  have g_b3 : n0 ≤ b3 := Nat.le_trans Z0 (Nat.le_of_eq g3.symm)
  have Z3 : n0 ≤ h3.size := Nat.le_trans Z0 E3.1
  have F_a1_digest_3 := Fld.ext E3 F_a1_digest
  have V_d1_3 := Arv.ext V_d1 E3
  have E_d1_3 := Exa.ext E3 E_d1
  have sz_b3 : h0.size ≤ b3 := Nat.le_trans K0.1 (Nat.le_of_eq g3.symm)
  have K3 := Keep.ext K0 E3
  have V3 : Arv Z h3 b3 _ _ _ _ _ := ⟨_, A3, cq3, sz3, nn3, Ha3, Gf3⟩
  refine Go.mp st3 ?_
  show Go p e below (T3.setTop (mkF m 18 #[.val (.ref a1)] [(.ref b3)])) _
  obtain ⟨T4, X4, e4, st4⟩ := castY X3 hx hZ hown (hw _ (List.mem_of_getElem? (i := 30) rfl)) e3 (Ins.self C3) (g := (mkF m 18 #[.val (.ref a1)] [(.ref b3)])) rfl rfl (hb hby d4_18)
  refine Go.mp st4 ?_
  show Go p e below (T4.setTop (mkF m 21 #[.val (.ref a1)] [(.ref b3)])) _
  exact own_retA X4 hx hret hlk rfl rfl (hb hby d4_21) (by decide) (by decide) (by rw [e4]; exact ⟨b3, rfl, N0, K3, sz_b3, V3, C3⟩)
theorem ef_rm_init3 (m : MethodId) (x0 : Addr) (x1 : Addr) (x2 : Int32) (x3 : Int64) (x4 : Addr) : entryFrame m #[(.ref x0), (.ref x1), (.int x2), (.long x3), (.ref x4)] 6 = mkF m 0 #[.val (.ref x0), .val (.ref x1), .val (.int x2), .val (.long x3), .second, .val (.ref x4)] [] := by first | (simp [entryFrame, mkF, argsToLocals, Value.category]; done) | rfl
set_option maxRecDepth 65536 in
set_option maxHeartbeats 40000000 in
theorem rm_init3 (l : Launch) (Z : State) (a0 : Array Value) (hw : ∀ d ∈ tables_1, d.before a0 Z = true) (a1 : Addr) (a2 : Addr) (i1 : Int32) (j1 : Int64) (d1 : Addr) (kk : ClassId) (vs : List Value) (h0 : Heap) (n0 : Nat) (Z0 : n0 ≤ h0.size) (E_a1 : Exa Z h0 a1 "com/example/rigging/rigging/Snapshot$Entry") (F_a1_kind : Fld Z h0 a1 "com/example/rigging/rigging/Snapshot$Entry" "kind" "Lcom/example/rigging/rigging/Snapshot$Entry$Kind;" .null) (F_a1_permissions : Fld Z h0 a1 "com/example/rigging/rigging/Snapshot$Entry" "permissions" "I" (.int (0 : Int32))) (F_a1_size : Fld Z h0 a1 "com/example/rigging/rigging/Snapshot$Entry" "size" "J" (.long (0 : Int64))) (F_a1_digest : Fld Z h0 a1 "com/example/rigging/rigging/Snapshot$Entry" "digest" "[B" .null) (g_a1 : n0 ≤ a1) (V_d1 : Arv Z h0 d1 kk .byte (3 : Int32) vs (.int 0)) (E_d1 : Exa Z h0 d1 "[B") (ne_d1_a1 : d1 ≠ a1) :
    Ctr l (⟨"com/example/rigging/rigging/Snapshot$Entry", "<init>", "(Lcom/example/rigging/rigging/Snapshot$Entry$Kind;IJ[B)V"⟩ : MethodName) prog_60_method_1_code 6 none [] ({ frames := 1, cells := 1, slots := 3, locals := 16 } : Room) Z #[(.ref a1), (.ref a2), (.int i1), (.long j1), (.ref d1)] h0 (fun v h L => ∃ b, v = none ∧ Fr n0 L ∧ Keep h0 h [a1] ∧ h0.size ≤ b ∧ Fld Z h a1 "com/example/rigging/rigging/Snapshot$Entry" "digest" "[B" (.ref b) ∧ Arv Z h b kk .byte (3 : Int32) vs (.int 0) ∧ Exa Z h b "[B") := by
  refine own_enter pn_1 (fun p e s m below meth c s₁ hx hby hml hown hnm hret hlk hZ X0 e0 => ?_)
  have N0 := Fr.nil n0
  have K0 := Keep.refl h0 [a1]
  rw [ef_rm_init3 m _ _ _ _ _]
  show Go p e below (s₁.setTop (mkF m 0 #[.val (.ref a1), .val (.ref a2), .val (.int i1), .val (.long j1), .second, .val (.ref d1)] [])) _
  refine g_aloadN X0 hx (hb hby d2_0) rfl rfl ?_
  obtain ⟨T1, X1, e1, st1⟩ := initO X0 hx hZ hown (hw _ (List.mem_of_getElem? (i := 14) rfl)) (hw _ (List.mem_of_getElem? (i := 15) rfl)) (hw _ (List.mem_of_getElem? (i := 16) rfl)) e0 (g := (mkF m 1 #[.val (.ref a1), .val (.ref a2), .val (.int i1), .val (.long j1), .second, .val (.ref d1)] [(.ref a1)])) rfl (by rw [hml]; rfl) rfl (hb hby d2_1) (by decide) (W := 0) (by show 2 * 0 + _ ≤ _; exact Nat.le_of_eq rfl) (by decide)
  refine Go.mp st1 ?_
  show Go p e below (T1.setTop (mkF m 4 #[.val (.ref a1), .val (.ref a2), .val (.int i1), .val (.long j1), .second, .val (.ref d1)] [])) _
  refine g_aloadN X1 hx (hb hby d2_4) rfl rfl ?_
  refine g_aloadN X1 hx (hb hby d2_5) rfl rfl ?_
  obtain ⟨T2, h2, X2, e2, W2, st2⟩ := putF X1 hx hZ hown (host := "") (Or.inl (hw _ (List.mem_of_getElem? (i := 17) rfl))) Via.refl e1 F_a1_kind E_a1 (Or.inr ⟨(hw _ (List.mem_of_getElem? (i := 18) rfl)), rfl, hnm⟩) (hw _ (List.mem_of_getElem? (i := 9) rfl)) (ty := (FieldType.object "com/example/rigging/rigging/Snapshot$Entry$Kind")) (by decide) rfl rfl (g := (mkF m 6 #[.val (.ref a1), .val (.ref a2), .val (.int i1), .val (.long j1), .second, .val (.ref d1)] [(.ref a2), (.ref a1)])) rfl rfl (hb hby d2_6)
  have N2 := Fr.snoc X2 N0 g_a1
  have E_a1_2 := Exa.wr W2 E_a1
  have F_a1_kind_2 := Fld.same W2 F_a1_kind
  have F_a1_permissions_2 := Fld.other W2 F_a1_permissions (Or.inr (slot_ne (Or.inr (hw _ (List.mem_of_getElem? (i := 20) rfl))) (Or.inr (hw _ (List.mem_of_getElem? (i := 18) rfl))) (by decide) (t := FieldType.int) (t' := (FieldType.object "com/example/rigging/rigging/Snapshot$Entry$Kind")) (by decide) (by decide)))
  have F_a1_size_2 := Fld.other W2 F_a1_size (Or.inr (slot_ne (Or.inr (hw _ (List.mem_of_getElem? (i := 22) rfl))) (Or.inr (hw _ (List.mem_of_getElem? (i := 18) rfl))) (by decide) (t := FieldType.long) (t' := (FieldType.object "com/example/rigging/rigging/Snapshot$Entry$Kind")) (by decide) (by decide)))
  have F_a1_digest_2 := Fld.other W2 F_a1_digest (Or.inr (slot_ne (Or.inr (hw _ (List.mem_of_getElem? (i := 33) rfl))) (Or.inr (hw _ (List.mem_of_getElem? (i := 18) rfl))) (by decide) (t := (FieldType.array FieldType.byte)) (t' := (FieldType.object "com/example/rigging/rigging/Snapshot$Entry$Kind")) (by decide) (by decide)))
  have V_d1_2 := Arv.other V_d1 W2 ne_d1_a1
  have E_d1_2 := Exa.wr W2 E_d1
  have Z2 : n0 ≤ h2.size := Nat.le_trans Z0 (Nat.le_of_eq W2.size.symm)
  have K2 := Keep.wr K0 W2 (Or.inl (List.mem_of_getElem? (i := 0) rfl))
  refine Go.mp st2 ?_
  show Go p e below (T2.setTop (mkF m 9 #[.val (.ref a1), .val (.ref a2), .val (.int i1), .val (.long j1), .second, .val (.ref d1)] [])) _
  refine g_aloadN X2 hx (hb hby d2_9) rfl rfl ?_
  refine g_iloadN X2 hx (hb hby d2_10) rfl ?_
  obtain ⟨T3, h3, X3, e3, W3, st3⟩ := putF X2 hx hZ hown (host := "") (Or.inl (hw _ (List.mem_of_getElem? (i := 19) rfl))) Via.refl e2 F_a1_permissions_2 E_a1_2 (Or.inr ⟨(hw _ (List.mem_of_getElem? (i := 20) rfl)), rfl, hnm⟩) (hw _ (List.mem_of_getElem? (i := 9) rfl)) (ty := FieldType.int) (by decide) rfl rfl (g := (mkF m 11 #[.val (.ref a1), .val (.ref a2), .val (.int i1), .val (.long j1), .second, .val (.ref d1)] [(.int i1), (.ref a1)])) rfl rfl (hb hby d2_11)
  have N3 := Fr.snoc X3 N2 g_a1
  have E_a1_3 := Exa.wr W3 E_a1_2
  have F_a1_kind_3 := Fld.other W3 F_a1_kind_2 (Or.inr (slot_ne (Or.inr (hw _ (List.mem_of_getElem? (i := 18) rfl))) (Or.inr (hw _ (List.mem_of_getElem? (i := 20) rfl))) (by decide) (t := (FieldType.object "com/example/rigging/rigging/Snapshot$Entry$Kind")) (t' := FieldType.int) (by decide) (by decide)))
  have F_a1_permissions_3 := Fld.same W3 F_a1_permissions_2
  have F_a1_size_3 := Fld.other W3 F_a1_size_2 (Or.inr (slot_ne (Or.inr (hw _ (List.mem_of_getElem? (i := 22) rfl))) (Or.inr (hw _ (List.mem_of_getElem? (i := 20) rfl))) (by decide) (t := FieldType.long) (t' := FieldType.int) (by decide) (by decide)))
  have F_a1_digest_3 := Fld.other W3 F_a1_digest_2 (Or.inr (slot_ne (Or.inr (hw _ (List.mem_of_getElem? (i := 33) rfl))) (Or.inr (hw _ (List.mem_of_getElem? (i := 20) rfl))) (by decide) (t := (FieldType.array FieldType.byte)) (t' := FieldType.int) (by decide) (by decide)))
  have V_d1_3 := Arv.other V_d1_2 W3 ne_d1_a1
  have E_d1_3 := Exa.wr W3 E_d1_2
  have Z3 : n0 ≤ h3.size := Nat.le_trans Z2 (Nat.le_of_eq W3.size.symm)
  have K3 := Keep.wr K2 W3 (Or.inl (List.mem_of_getElem? (i := 0) rfl))
  refine Go.mp st3 ?_
  show Go p e below (T3.setTop (mkF m 14 #[.val (.ref a1), .val (.ref a2), .val (.int i1), .val (.long j1), .second, .val (.ref d1)] [])) _
  refine g_aloadN X3 hx (hb hby d2_14) rfl rfl ?_
  refine g_lloadN X3 hx (hb hby d2_15) rfl ?_
  obtain ⟨T4, h4, X4, e4, W4, st4⟩ := putF X3 hx hZ hown (host := "") (Or.inl (hw _ (List.mem_of_getElem? (i := 21) rfl))) Via.refl e3 F_a1_size_3 E_a1_3 (Or.inr ⟨(hw _ (List.mem_of_getElem? (i := 22) rfl)), rfl, hnm⟩) (hw _ (List.mem_of_getElem? (i := 9) rfl)) (ty := FieldType.long) (by decide) rfl rfl (g := (mkF m 16 #[.val (.ref a1), .val (.ref a2), .val (.int i1), .val (.long j1), .second, .val (.ref d1)] [(.long j1), (.ref a1)])) rfl rfl (hb hby d2_16)
  have N4 := Fr.snoc X4 N3 g_a1
  have E_a1_4 := Exa.wr W4 E_a1_3
  have F_a1_kind_4 := Fld.other W4 F_a1_kind_3 (Or.inr (slot_ne (Or.inr (hw _ (List.mem_of_getElem? (i := 18) rfl))) (Or.inr (hw _ (List.mem_of_getElem? (i := 22) rfl))) (by decide) (t := (FieldType.object "com/example/rigging/rigging/Snapshot$Entry$Kind")) (t' := FieldType.long) (by decide) (by decide)))
  have F_a1_permissions_4 := Fld.other W4 F_a1_permissions_3 (Or.inr (slot_ne (Or.inr (hw _ (List.mem_of_getElem? (i := 20) rfl))) (Or.inr (hw _ (List.mem_of_getElem? (i := 22) rfl))) (by decide) (t := FieldType.int) (t' := FieldType.long) (by decide) (by decide)))
  have F_a1_size_4 := Fld.same W4 F_a1_size_3
  have F_a1_digest_4 := Fld.other W4 F_a1_digest_3 (Or.inr (slot_ne (Or.inr (hw _ (List.mem_of_getElem? (i := 33) rfl))) (Or.inr (hw _ (List.mem_of_getElem? (i := 22) rfl))) (by decide) (t := (FieldType.array FieldType.byte)) (t' := FieldType.long) (by decide) (by decide)))
  have V_d1_4 := Arv.other V_d1_3 W4 ne_d1_a1
  have E_d1_4 := Exa.wr W4 E_d1_3
  have Z4 : n0 ≤ h4.size := Nat.le_trans Z3 (Nat.le_of_eq W4.size.symm)
  have K4 := Keep.wr K3 W4 (Or.inl (List.mem_of_getElem? (i := 0) rfl))
  refine Go.mp st4 ?_
  show Go p e below (T4.setTop (mkF m 19 #[.val (.ref a1), .val (.ref a2), .val (.int i1), .val (.long j1), .second, .val (.ref d1)] [])) _
  refine g_aloadN X4 hx (hb hby d2_19) rfl rfl ?_
  refine g_aload X4 hx (hb hby d2_20) rfl rfl ?_
  refine Go.mp (fun _ k => XS.ifnonnullYes X4.here hx rfl (pc0 := 22) (pc' := 29) rfl (hb hby d2_22) rfl (by decide) (by decide) k) ?_
  show Go p e below (T4.setTop (mkF m 29 #[.val (.ref a1), .val (.ref a2), .val (.int i1), .val (.long j1), .second, .val (.ref d1)] [(.ref a1)])) _
  refine g_aload X4 hx (hb hby d2_29) rfl rfl ?_
  obtain ⟨cl5, Ar5, cq5, sz5, nn5, Ha5, Gf5⟩ := id V_d1_4
  obtain ⟨T5, h5, X5, e5, E5, A5, C5, st5⟩ := cloneA X4 hx hZ hown (hw _ (List.mem_of_getElem? (i := 23) rfl)) (hw _ (List.mem_of_getElem? (i := 24) rfl)) (hw _ (List.mem_of_getElem? (i := 28) rfl)) (hw _ (List.mem_of_getElem? (i := 26) rfl)) (hw _ (List.mem_of_getElem? (i := 27) rfl)) (hw _ (List.mem_of_getElem? (i := 29) rfl)) e4 Ar5 E_d1_4 (own_fitC Ar5 Ha5 Gf5) (g := (mkF m 31 #[.val (.ref a1), .val (.ref a2), .val (.int i1), .val (.long j1), .second, .val (.ref d1)] [(.ref d1), (.ref a1)])) rfl (by rw [hml]; rfl) rfl (hb hby d2_31) (by decide) (W := 1) (cap := 3) (by show 2 * 0 + _ ≤ _; exact Nat.le_of_eq rfl) (by decide) (by rw [sz5]; decide) (by decide) (by decide)
  obtain ⟨b5, g5⟩ : ∃ z, z = h4.size := ⟨_, rfl⟩
  rw [← g5] at A5 C5 st5
  have ne_a1_b5 : a1 ≠ b5 := Nat.ne_of_lt (Nat.lt_of_lt_of_le E_a1_4.lt (Nat.le_of_eq g5.symm))
  have ne_d1_b5 : d1 ≠ b5 := Nat.ne_of_lt (Nat.lt_of_lt_of_le V_d1_4.lt (Nat.le_of_eq g5.symm))
  have g_b5 : n0 ≤ b5 := Nat.le_trans Z4 (Nat.le_of_eq g5.symm)
  have Z5 : n0 ≤ h5.size := Nat.le_trans Z4 E5.1
  have E_a1_5 := Exa.ext E5 E_a1_4
  have F_a1_kind_5 := Fld.ext E5 F_a1_kind_4
  have F_a1_permissions_5 := Fld.ext E5 F_a1_permissions_4
  have F_a1_size_5 := Fld.ext E5 F_a1_size_4
  have F_a1_digest_5 := Fld.ext E5 F_a1_digest_4
  have V_d1_5 := Arv.ext V_d1_4 E5
  have E_d1_5 := Exa.ext E5 E_d1_4
  have sz_b5 : h0.size ≤ b5 := Nat.le_trans K4.1 (Nat.le_of_eq g5.symm)
  have K5 := Keep.ext K4 E5
  have V5 : Arv Z h5 b5 _ _ _ _ _ := ⟨_, A5, cq5, sz5, nn5, Ha5, Gf5⟩
  refine Go.mp st5 ?_
  show Go p e below (T5.setTop (mkF m 34 #[.val (.ref a1), .val (.ref a2), .val (.int i1), .val (.long j1), .second, .val (.ref d1)] [(.ref b5), (.ref a1)])) _
  obtain ⟨T6, X6, e6, st6⟩ := castY X5 hx hZ hown (hw _ (List.mem_of_getElem? (i := 30) rfl)) e5 (Ins.self C5) (g := (mkF m 34 #[.val (.ref a1), .val (.ref a2), .val (.int i1), .val (.long j1), .second, .val (.ref d1)] [(.ref b5), (.ref a1)])) rfl rfl (hb hby d2_34)
  refine Go.mp st6 ?_
  show Go p e below (T6.setTop (mkF m 37 #[.val (.ref a1), .val (.ref a2), .val (.int i1), .val (.long j1), .second, .val (.ref d1)] [(.ref b5), (.ref a1)])) _
  obtain ⟨T7, h7, X7, e7, W7, st7⟩ := putF X6 hx hZ hown (host := "") (Or.inl (hw _ (List.mem_of_getElem? (i := 32) rfl))) Via.refl e6 F_a1_digest_5 E_a1_5 (Or.inr ⟨(hw _ (List.mem_of_getElem? (i := 33) rfl)), rfl, hnm⟩) (hw _ (List.mem_of_getElem? (i := 9) rfl)) (ty := (FieldType.array FieldType.byte)) (by decide) rfl rfl (g := (mkF m 37 #[.val (.ref a1), .val (.ref a2), .val (.int i1), .val (.long j1), .second, .val (.ref d1)] [(.ref b5), (.ref a1)])) rfl rfl (hb hby d2_37)
  have N7 := Fr.snoc X7 N4 g_a1
  have E_a1_7 := Exa.wr W7 E_a1_5
  have F_a1_kind_7 := Fld.other W7 F_a1_kind_5 (Or.inr (slot_ne (Or.inr (hw _ (List.mem_of_getElem? (i := 18) rfl))) (Or.inr (hw _ (List.mem_of_getElem? (i := 33) rfl))) (by decide) (t := (FieldType.object "com/example/rigging/rigging/Snapshot$Entry$Kind")) (t' := (FieldType.array FieldType.byte)) (by decide) (by decide)))
  have F_a1_permissions_7 := Fld.other W7 F_a1_permissions_5 (Or.inr (slot_ne (Or.inr (hw _ (List.mem_of_getElem? (i := 20) rfl))) (Or.inr (hw _ (List.mem_of_getElem? (i := 33) rfl))) (by decide) (t := FieldType.int) (t' := (FieldType.array FieldType.byte)) (by decide) (by decide)))
  have F_a1_size_7 := Fld.other W7 F_a1_size_5 (Or.inr (slot_ne (Or.inr (hw _ (List.mem_of_getElem? (i := 22) rfl))) (Or.inr (hw _ (List.mem_of_getElem? (i := 33) rfl))) (by decide) (t := FieldType.long) (t' := (FieldType.array FieldType.byte)) (by decide) (by decide)))
  have F_a1_digest_7 := Fld.same W7 F_a1_digest_5
  have V_d1_7 := Arv.other V_d1_5 W7 ne_d1_a1
  have E_d1_7 := Exa.wr W7 E_d1_5
  have V_b5_7 := Arv.other V5 W7 (Ne.symm ne_a1_b5)
  have E_b5_7 := Exa.wr W7 C5
  have Z7 : n0 ≤ h7.size := Nat.le_trans Z5 (Nat.le_of_eq W7.size.symm)
  have K7 := Keep.wr K5 W7 (Or.inl (List.mem_of_getElem? (i := 0) rfl))
  refine Go.mp st7 ?_
  show Go p e below (T7.setTop (mkF m 40 #[.val (.ref a1), .val (.ref a2), .val (.int i1), .val (.long j1), .second, .val (.ref d1)] [])) _
  exact own_retV X7 hx hret hlk (hb hby d2_40) (by decide) (by decide) (by rw [e7]; exact ⟨b5, rfl, N7, K7, sz_b5, F_a1_digest_7, V_b5_7, E_b5_7⟩)
theorem ef_rm_digest3 (m : MethodId) (x0 : Addr) : entryFrame m #[(.ref x0)] 1 = mkF m 0 #[.val (.ref x0)] [] := by first | (simp [entryFrame, mkF, argsToLocals, Value.category]; done) | rfl
set_option maxRecDepth 65536 in
set_option maxHeartbeats 40000000 in
theorem rm_digest3 (l : Launch) (Z : State) (a0 : Array Value) (hw : ∀ d ∈ tables_1, d.before a0 Z = true) (a1 : Addr) (d1 : Addr) (kk : ClassId) (vs : List Value) (h0 : Heap) (n0 : Nat) (Z0 : n0 ≤ h0.size) (F_a1_digest : Fld Z h0 a1 "com/example/rigging/rigging/Snapshot$Entry" "digest" "[B" (.ref d1)) (V_d1 : Arv Z h0 d1 kk .byte (3 : Int32) vs (.int 0)) (E_d1 : Exa Z h0 d1 "[B") :
    Ctr l (⟨"com/example/rigging/rigging/Snapshot$Entry", "digest", "()[B"⟩ : MethodName) prog_60_method_5_code 1 (some (FieldType.array FieldType.byte)) [] ({ frames := 1, cells := 1, slots := 3, locals := 16 } : Room) Z #[(.ref a1)] h0 (fun v h L => ∃ b, v = some (.ref b) ∧ Fr n0 L ∧ Keep h0 h [] ∧ h0.size ≤ b ∧ Arv Z h b kk .byte (3 : Int32) vs (.int 0) ∧ Exa Z h b "[B") := by
  refine own_enter pn_1 (fun p e s m below meth c s₁ hx hby hml hown hnm hret hlk hZ X0 e0 => ?_)
  have N0 := Fr.nil n0
  have K0 := Keep.refl h0 []
  rw [ef_rm_digest3 m _]
  show Go p e below (s₁.setTop (mkF m 0 #[.val (.ref a1)] [])) _
  refine g_aloadN X0 hx (hb hby d4_0) rfl rfl ?_
  obtain ⟨T1, X1, e1, st1⟩ := getF X0 hx hZ hown (host := "") (Or.inl (hw _ (List.mem_of_getElem? (i := 32) rfl))) Via.refl e0 F_a1_digest (g := (mkF m 1 #[.val (.ref a1)] [(.ref a1)])) rfl rfl (hb hby d4_1)
  refine Go.mp st1 ?_
  show Go p e below (T1.setTop (mkF m 4 #[.val (.ref a1)] [(.ref d1)])) _
  refine Go.mp (fun _ k => XS.ifnonnullYes X1.here hx rfl (pc0 := 4) (pc' := 11) rfl (hb hby d4_4) rfl (by decide) (by decide) k) ?_
  show Go p e below (T1.setTop (mkF m 11 #[.val (.ref a1)] [])) _
  refine g_aloadN X1 hx (hb hby d4_11) rfl rfl ?_
  obtain ⟨T2, X2, e2, st2⟩ := getF X1 hx hZ hown (host := "") (Or.inl (hw _ (List.mem_of_getElem? (i := 32) rfl))) Via.refl e1 F_a1_digest (g := (mkF m 12 #[.val (.ref a1)] [(.ref a1)])) rfl rfl (hb hby d4_12)
  refine Go.mp st2 ?_
  show Go p e below (T2.setTop (mkF m 15 #[.val (.ref a1)] [(.ref d1)])) _
  obtain ⟨cl3, Ar3, cq3, sz3, nn3, Ha3, Gf3⟩ := id V_d1
  obtain ⟨T3, h3, X3, e3, E3, A3, C3, st3⟩ := cloneA X2 hx hZ hown (hw _ (List.mem_of_getElem? (i := 23) rfl)) (hw _ (List.mem_of_getElem? (i := 24) rfl)) (hw _ (List.mem_of_getElem? (i := 28) rfl)) (hw _ (List.mem_of_getElem? (i := 26) rfl)) (hw _ (List.mem_of_getElem? (i := 27) rfl)) (hw _ (List.mem_of_getElem? (i := 29) rfl)) e2 Ar3 E_d1 (own_fitC Ar3 Ha3 Gf3) (g := (mkF m 15 #[.val (.ref a1)] [(.ref d1)])) rfl (by rw [hml]; rfl) rfl (hb hby d4_15) (by decide) (W := 0) (cap := 3) (by show 2 * 0 + _ ≤ _; exact Nat.le_of_eq rfl) (by decide) (by rw [sz3]; decide) (by decide) (by decide)
  obtain ⟨b3, g3⟩ : ∃ z, z = h0.size := ⟨_, rfl⟩
  rw [← g3] at A3 C3 st3
  have ne_a1_b3 : a1 ≠ b3 := Nat.ne_of_lt (Nat.lt_of_lt_of_le F_a1_digest.lt (Nat.le_of_eq g3.symm))
  have ne_d1_b3 : d1 ≠ b3 := Nat.ne_of_lt (Nat.lt_of_lt_of_le V_d1.lt (Nat.le_of_eq g3.symm))
  have g_b3 : n0 ≤ b3 := Nat.le_trans Z0 (Nat.le_of_eq g3.symm)
  have Z3 : n0 ≤ h3.size := Nat.le_trans Z0 E3.1
  have F_a1_digest_3 := Fld.ext E3 F_a1_digest
  have V_d1_3 := Arv.ext V_d1 E3
  have E_d1_3 := Exa.ext E3 E_d1
  have sz_b3 : h0.size ≤ b3 := Nat.le_trans K0.1 (Nat.le_of_eq g3.symm)
  have K3 := Keep.ext K0 E3
  have V3 : Arv Z h3 b3 _ _ _ _ _ := ⟨_, A3, cq3, sz3, nn3, Ha3, Gf3⟩
  refine Go.mp st3 ?_
  show Go p e below (T3.setTop (mkF m 18 #[.val (.ref a1)] [(.ref b3)])) _
  obtain ⟨T4, X4, e4, st4⟩ := castY X3 hx hZ hown (hw _ (List.mem_of_getElem? (i := 30) rfl)) e3 (Ins.self C3) (g := (mkF m 18 #[.val (.ref a1)] [(.ref b3)])) rfl rfl (hb hby d4_18)
  refine Go.mp st4 ?_
  show Go p e below (T4.setTop (mkF m 21 #[.val (.ref a1)] [(.ref b3)])) _
  exact own_retA X4 hx hret hlk rfl rfl (hb hby d4_21) (by decide) (by decide) (by rw [e4]; exact ⟨b3, rfl, N0, K3, sz_b3, V3, C3⟩)
theorem pd_0 : parseMethodDescriptor "(I)Lcom/example/rigging/rigging/Snapshot$Entry$Kind;" = some ⟨[FieldType.int], some (FieldType.object "com/example/rigging/rigging/Snapshot$Entry$Kind")⟩ := by decide +kernel
theorem pd_1 : parseMethodDescriptor "(Lcom/example/rigging/rigging/Snapshot$Entry$Kind;IJ[B)V" = some ⟨[(FieldType.object "com/example/rigging/rigging/Snapshot$Entry$Kind"), FieldType.int, FieldType.long, (FieldType.array FieldType.byte)], none⟩ := by decide +kernel
theorem pd_2 : parseMethodDescriptor "()[B" = some ⟨[], some (FieldType.array FieldType.byte)⟩ := by decide +kernel
theorem ef_rm_law (m : MethodId) (x0 : Int32) (x1 : Int32) (x2 : Int64) (x3 : Int32) (x4 : Int32) : entryFrame m #[(.int x0), (.int x1), (.long x2), (.int x3), (.int x4)] maxLocals = mkF m 0 #[.val (.int x0), .val (.int x1), .val (.long x2), .second, .val (.int x3), .val (.int x4), .unset, .unset, .unset, .unset, .unset, .unset, .unset, .unset, .unset, .unset, .unset] [] := by first | (simp [entryFrame, mkF, argsToLocals, Value.category, maxLocals]; done) | rfl
set_option maxRecDepth 65536 in
set_option maxHeartbeats 40000000 in
theorem rm_law (l : Launch) (Z : State) (a0 : Array Value) (hw : ∀ d ∈ tables_1, d.before a0 Z = true) (p1 : Int32) (p2 : Int32) (p3 : Int64) (p4 : Int32) (p5 : Int32) (w_FILE : Addr) (w_DIRECTORY : Addr) (w_OTHER : Addr) (w_LINK : Addr) (h0 : Heap) (n0 : Nat) (Z0 : n0 ≤ h0.size) (S_FILE : Sta Z h0 "com/example/rigging/rigging/Snapshot$Entry$Kind" "FILE" "Lcom/example/rigging/rigging/Snapshot$Entry$Kind;" (.ref w_FILE)) (E_w_FILE : Exa Z h0 w_FILE "com/example/rigging/rigging/Snapshot$Entry$Kind") (S_DIRECTORY : Sta Z h0 "com/example/rigging/rigging/Snapshot$Entry$Kind" "DIRECTORY" "Lcom/example/rigging/rigging/Snapshot$Entry$Kind;" (.ref w_DIRECTORY)) (E_w_DIRECTORY : Exa Z h0 w_DIRECTORY "com/example/rigging/rigging/Snapshot$Entry$Kind") (S_OTHER : Sta Z h0 "com/example/rigging/rigging/Snapshot$Entry$Kind" "OTHER" "Lcom/example/rigging/rigging/Snapshot$Entry$Kind;" (.ref w_OTHER)) (E_w_OTHER : Exa Z h0 w_OTHER "com/example/rigging/rigging/Snapshot$Entry$Kind") (S_LINK : Sta Z h0 "com/example/rigging/rigging/Snapshot$Entry$Kind" "LINK" "Lcom/example/rigging/rigging/Snapshot$Entry$Kind;" (.ref w_LINK)) (E_w_LINK : Exa Z h0 w_LINK "com/example/rigging/rigging/Snapshot$Entry$Kind") :
    Ctr l x code maxLocals ret tables_1 room_1 Z #[(.int p1), (.int p2), (.long p3), (.int p4), (.int p5)] h0 (fun v h L => v = some (.int 1) ∧ Fr n0 L) := by
  refine own_enter pn_0 (fun p e s m below meth c s₁ hx hby hml hown hnm hret hlk hZ X0 e0 => ?_)
  have N0 := Fr.nil n0
  rw [ef_rm_law m _ _ _ _ _]
  show Go p e below (s₁.setTop (mkF m 0 #[.val (.int p1), .val (.int p2), .val (.long p3), .second, .val (.int p4), .val (.int p5), .unset, .unset, .unset, .unset, .unset, .unset, .unset, .unset, .unset, .unset, .unset] [])) _
  refine g_iloadN X0 hx (hb hby at_0) rfl ?_
  refine g_iconst X0 hx (3 : Int32) (hb hby at_1) (by decide) ?_
  refine g_iand X0 hx (hb hby at_2) ?_
  obtain ⟨v1, T1, L1, X1, q1, st1⟩ := own_callS X0 hx hZ (y := (⟨"com/example/rigging/rigging/EntryDigestPinLaw", "kindOf", "(I)Lcom/example/rigging/rigging/Snapshot$Entry$Kind;"⟩ : MethodName)) (pc := 3) (Ls := #[.val (.int p1), .val (.int p2), .val (.long p3), .second, .val (.int p4), .val (.int p5), .unset, .unset, .unset, .unset, .unset, .unset, .unset, .unset, .unset, .unset, .unset]) (st := [(.int (p1 &&& (3 : Int32)))]) hown (hw _ (List.mem_of_getElem? (i := 0) rfl)) (hw _ (List.mem_of_getElem? (i := 1) rfl)) (hw _ (List.mem_of_getElem? (i := 2) rfl)) (hw _ (List.mem_of_getElem? (i := 3) rfl)) (by decide) (rm_kindOf l Z a0 hw (p1 &&& (3 : Int32)) w_FILE w_DIRECTORY w_LINK w_OTHER h0 n0 Z0 S_FILE S_DIRECTORY S_LINK S_OTHER) e0 pd_0 (hb hby at_3) (by rw [hml]; rfl) (argsL := [(.int (p1 &&& (3 : Int32)))]) (rest := []) rfl rfl rfl (W := 0) (Nat.le_of_eq rfl) (by decide) (by decide) (by decide) (by decide)
  obtain ⟨rfl, M1, e1⟩ := q1
  have N1 := Fr.app N0 M1
  refine Go.mp st1 ?_
  show Go p e below (T1.setTop (mkF m 6 #[.val (.int p1), .val (.int p2), .val (.long p3), .second, .val (.int p4), .val (.int p5), .unset, .unset, .unset, .unset, .unset, .unset, .unset, .unset, .unset, .unset, .unset] [(.ref (f_kindOf (p1 &&& (3 : Int32)) w_FILE w_DIRECTORY w_LINK w_OTHER))])) _
  refine g_astore X1 hx #[.val (.int p1), .val (.int p2), .val (.long p3), .second, .val (.int p4), .val (.int p5), .val (.ref (f_kindOf (p1 &&& (3 : Int32)) w_FILE w_DIRECTORY w_LINK w_OTHER)), .unset, .unset, .unset, .unset, .unset, .unset, .unset, .unset, .unset, .unset] (hb hby at_6) rfl rfl ?_
  refine g_iconst X1 hx (0 : Int32) (hb hby at_8) (by decide) ?_
  obtain ⟨T2, h2, k2, X2, e2, E2, A2, C2, st2⟩ := own_newB X1 hx hZ (hw _ (List.mem_of_getElem? (i := 7) rfl)) e1 (g := (mkF m 9 #[.val (.int p1), .val (.int p2), .val (.long p3), .second, .val (.int p4), .val (.int p5), .val (.ref (f_kindOf (p1 &&& (3 : Int32)) w_FILE w_DIRECTORY w_LINK w_OTHER)), .unset, .unset, .unset, .unset, .unset, .unset, .unset, .unset, .unset, .unset] [(.int (0 : Int32))])) rfl (hb hby at_9) rfl (by decide) (cap := 0) (by decide) (by decide) (by decide) (by decide)
  obtain ⟨b2, g2⟩ : ∃ z, z = h0.size := ⟨_, rfl⟩
  rw [← g2] at A2 C2 st2
  have g_b2 : n0 ≤ b2 := Nat.le_trans Z0 (Nat.le_of_eq g2.symm)
  have Z2 : n0 ≤ h2.size := Nat.le_trans Z0 E2.1
  have V2 := Arv.new A2 (by decide)
  refine Go.mp st2 ?_
  have V_b20 := Arv.pad (vs' := List.replicate 0 (.int 0)) V2 (own_pad 0)
  show Go p e below (T2.setTop (mkF m 11 #[.val (.int p1), .val (.int p2), .val (.long p3), .second, .val (.int p4), .val (.int p5), .val (.ref (f_kindOf (p1 &&& (3 : Int32)) w_FILE w_DIRECTORY w_LINK w_OTHER)), .unset, .unset, .unset, .unset, .unset, .unset, .unset, .unset, .unset, .unset] [(.ref b2)])) _
  refine g_astore X2 hx #[.val (.int p1), .val (.int p2), .val (.long p3), .second, .val (.int p4), .val (.int p5), .val (.ref (f_kindOf (p1 &&& (3 : Int32)) w_FILE w_DIRECTORY w_LINK w_OTHER)), .val (.ref b2), .unset, .unset, .unset, .unset, .unset, .unset, .unset, .unset, .unset] (hb hby at_11) rfl rfl ?_
  refine g_iconst X2 hx (3 : Int32) (hb hby at_13) (by decide) ?_
  obtain ⟨T3, h3, k3, X3, e3, E3, A3, C3, st3⟩ := own_newB X2 hx hZ (hw _ (List.mem_of_getElem? (i := 7) rfl)) e2 (g := (mkF m 14 #[.val (.int p1), .val (.int p2), .val (.long p3), .second, .val (.int p4), .val (.int p5), .val (.ref (f_kindOf (p1 &&& (3 : Int32)) w_FILE w_DIRECTORY w_LINK w_OTHER)), .val (.ref b2), .unset, .unset, .unset, .unset, .unset, .unset, .unset, .unset, .unset] [(.int (3 : Int32))])) rfl (hb hby at_14) rfl (by decide) (cap := 3) (by decide) (by decide) (by decide) (by decide)
  obtain ⟨b3, g3⟩ : ∃ z, z = h2.size := ⟨_, rfl⟩
  rw [← g3] at A3 C3 st3
  have ne_b2_b3 : b2 ≠ b3 := Nat.ne_of_lt (Nat.lt_of_lt_of_le C2.lt (Nat.le_of_eq g3.symm))
  have g_b3 : n0 ≤ b3 := Nat.le_trans Z2 (Nat.le_of_eq g3.symm)
  have Z3 : n0 ≤ h3.size := Nat.le_trans Z2 E3.1
  have E_b2_3 := Exa.ext E3 C2
  have V_b2_3 := Arv.ext V_b20 E3
  have V3 := Arv.new A3 (by decide)
  refine Go.mp st3 ?_
  have V_b30 := Arv.pad (vs' := List.replicate 3 (.int 0)) V3 (own_pad 3)
  show Go p e below (T3.setTop (mkF m 16 #[.val (.int p1), .val (.int p2), .val (.long p3), .second, .val (.int p4), .val (.int p5), .val (.ref (f_kindOf (p1 &&& (3 : Int32)) w_FILE w_DIRECTORY w_LINK w_OTHER)), .val (.ref b2), .unset, .unset, .unset, .unset, .unset, .unset, .unset, .unset, .unset] [(.ref b3)])) _
  refine g_astore X3 hx #[.val (.int p1), .val (.int p2), .val (.long p3), .second, .val (.int p4), .val (.int p5), .val (.ref (f_kindOf (p1 &&& (3 : Int32)) w_FILE w_DIRECTORY w_LINK w_OTHER)), .val (.ref b2), .val (.ref b3), .unset, .unset, .unset, .unset, .unset, .unset, .unset, .unset] (hb hby at_16) rfl rfl ?_
  refine g_iload X3 hx (hb hby at_18) rfl ?_
  refine Go.mp (fun _ k => XS.i2b X3.here hx rfl (hb hby at_20) rfl k) ?_
  show Go p e below (T3.setTop (mkF m 21 #[.val (.int p1), .val (.int p2), .val (.long p3), .second, .val (.int p4), .val (.int p5), .val (.ref (f_kindOf (p1 &&& (3 : Int32)) w_FILE w_DIRECTORY w_LINK w_OTHER)), .val (.ref b2), .val (.ref b3), .unset, .unset, .unset, .unset, .unset, .unset, .unset, .unset] [(.int (p4.toInt8.toInt32))])) _
  refine g_istore X3 hx #[.val (.int p1), .val (.int p2), .val (.long p3), .second, .val (.int p4), .val (.int p5), .val (.ref (f_kindOf (p1 &&& (3 : Int32)) w_FILE w_DIRECTORY w_LINK w_OTHER)), .val (.ref b2), .val (.ref b3), .val (.int (p4.toInt8.toInt32)), .unset, .unset, .unset, .unset, .unset, .unset, .unset] (hb hby at_21) rfl ?_
  refine g_iload X3 hx (hb hby at_23) rfl ?_
  refine g_bipush X3 hx (8 : Int32) (hb hby at_25) (by decide) ?_
  refine Go.mp (fun _ k => XS.iushr X3.here hx rfl (hb hby at_27) rfl k) ?_
  show Go p e below (T3.setTop (mkF m 28 #[.val (.int p1), .val (.int p2), .val (.long p3), .second, .val (.int p4), .val (.int p5), .val (.ref (f_kindOf (p1 &&& (3 : Int32)) w_FILE w_DIRECTORY w_LINK w_OTHER)), .val (.ref b2), .val (.ref b3), .val (.int (p4.toInt8.toInt32)), .unset, .unset, .unset, .unset, .unset, .unset, .unset] [(.int ((p4.toUInt32 >>> ((8 : Int32) &&& 31).toUInt32).toInt32))])) _
  refine Go.mp (fun _ k => XS.i2b X3.here hx rfl (hb hby at_28) rfl k) ?_
  show Go p e below (T3.setTop (mkF m 29 #[.val (.int p1), .val (.int p2), .val (.long p3), .second, .val (.int p4), .val (.int p5), .val (.ref (f_kindOf (p1 &&& (3 : Int32)) w_FILE w_DIRECTORY w_LINK w_OTHER)), .val (.ref b2), .val (.ref b3), .val (.int (p4.toInt8.toInt32)), .unset, .unset, .unset, .unset, .unset, .unset, .unset] [(.int (((p4.toUInt32 >>> ((8 : Int32) &&& 31).toUInt32).toInt32).toInt8.toInt32))])) _
  refine g_istore X3 hx #[.val (.int p1), .val (.int p2), .val (.long p3), .second, .val (.int p4), .val (.int p5), .val (.ref (f_kindOf (p1 &&& (3 : Int32)) w_FILE w_DIRECTORY w_LINK w_OTHER)), .val (.ref b2), .val (.ref b3), .val (.int (p4.toInt8.toInt32)), .val (.int (((p4.toUInt32 >>> ((8 : Int32) &&& 31).toUInt32).toInt32).toInt8.toInt32)), .unset, .unset, .unset, .unset, .unset, .unset] (hb hby at_29) rfl ?_
  refine g_iload X3 hx (hb hby at_31) rfl ?_
  refine g_bipush X3 hx (16 : Int32) (hb hby at_33) (by decide) ?_
  refine Go.mp (fun _ k => XS.iushr X3.here hx rfl (hb hby at_35) rfl k) ?_
  show Go p e below (T3.setTop (mkF m 36 #[.val (.int p1), .val (.int p2), .val (.long p3), .second, .val (.int p4), .val (.int p5), .val (.ref (f_kindOf (p1 &&& (3 : Int32)) w_FILE w_DIRECTORY w_LINK w_OTHER)), .val (.ref b2), .val (.ref b3), .val (.int (p4.toInt8.toInt32)), .val (.int (((p4.toUInt32 >>> ((8 : Int32) &&& 31).toUInt32).toInt32).toInt8.toInt32)), .unset, .unset, .unset, .unset, .unset, .unset] [(.int ((p4.toUInt32 >>> ((16 : Int32) &&& 31).toUInt32).toInt32))])) _
  refine Go.mp (fun _ k => XS.i2b X3.here hx rfl (hb hby at_36) rfl k) ?_
  show Go p e below (T3.setTop (mkF m 37 #[.val (.int p1), .val (.int p2), .val (.long p3), .second, .val (.int p4), .val (.int p5), .val (.ref (f_kindOf (p1 &&& (3 : Int32)) w_FILE w_DIRECTORY w_LINK w_OTHER)), .val (.ref b2), .val (.ref b3), .val (.int (p4.toInt8.toInt32)), .val (.int (((p4.toUInt32 >>> ((8 : Int32) &&& 31).toUInt32).toInt32).toInt8.toInt32)), .unset, .unset, .unset, .unset, .unset, .unset] [(.int (((p4.toUInt32 >>> ((16 : Int32) &&& 31).toUInt32).toInt32).toInt8.toInt32))])) _
  refine g_istore X3 hx #[.val (.int p1), .val (.int p2), .val (.long p3), .second, .val (.int p4), .val (.int p5), .val (.ref (f_kindOf (p1 &&& (3 : Int32)) w_FILE w_DIRECTORY w_LINK w_OTHER)), .val (.ref b2), .val (.ref b3), .val (.int (p4.toInt8.toInt32)), .val (.int (((p4.toUInt32 >>> ((8 : Int32) &&& 31).toUInt32).toInt32).toInt8.toInt32)), .val (.int (((p4.toUInt32 >>> ((16 : Int32) &&& 31).toUInt32).toInt32).toInt8.toInt32)), .unset, .unset, .unset, .unset, .unset] (hb hby at_37) rfl ?_
  refine g_aload X3 hx (hb hby at_39) rfl rfl ?_
  refine g_iconst X3 hx (0 : Int32) (hb hby at_41) (by decide) ?_
  refine g_iload X3 hx (hb hby at_42) rfl ?_
  obtain ⟨cl4, Ar4, cq4, sz4, nn4, Ha4, Gf4⟩ := id V_b30
  have hin4 : ¬ ((0 : Int32) < 0 ∨ cl4.slots.size ≤ (0 : Int32).toNatClampNeg) := by rw [sz4]; decide
  obtain ⟨T4, h4, X4, e4, W4, st4⟩ := stB X3 hx hZ e3 Ar4 (j := 0) hin4 (g := (mkF m 44 #[.val (.int p1), .val (.int p2), .val (.long p3), .second, .val (.int p4), .val (.int p5), .val (.ref (f_kindOf (p1 &&& (3 : Int32)) w_FILE w_DIRECTORY w_LINK w_OTHER)), .val (.ref b2), .val (.ref b3), .val (.int (p4.toInt8.toInt32)), .val (.int (((p4.toUInt32 >>> ((8 : Int32) &&& 31).toUInt32).toInt32).toInt8.toInt32)), .val (.int (((p4.toUInt32 >>> ((16 : Int32) &&& 31).toUInt32).toInt32).toInt8.toInt32)), .unset, .unset, .unset, .unset, .unset] [(.int (p4.toInt8.toInt32)), (.int (0 : Int32)), (.ref b3)])) rfl rfl (hb hby at_44)
  rw [show nar .byte (p4.toInt8.toInt32) = (p4.toInt8.toInt32) from own_b2 _] at W4
  have N4 := Fr.snoc X4 N1 g_b3
  have E_b2_4 := Exa.wr W4 E_b2_3
  have V_b2_4 := Arv.other V_b2_3 W4 ne_b2_b3
  have E_b3_4 := Exa.wr W4 C3
  have V_b3_4 := Arv.set Ar4 cq4 sz4 nn4 Ha4 Gf4 (v := (.int (p4.toInt8.toInt32))) (fits_nar_byte _) W4 0 (by decide) (by simp)
  have Z4 : n0 ≤ h4.size := Nat.le_trans Z3 (Nat.le_of_eq W4.size.symm)
  refine Go.mp st4 ?_
  show Go p e below (T4.setTop (mkF m 45 #[.val (.int p1), .val (.int p2), .val (.long p3), .second, .val (.int p4), .val (.int p5), .val (.ref (f_kindOf (p1 &&& (3 : Int32)) w_FILE w_DIRECTORY w_LINK w_OTHER)), .val (.ref b2), .val (.ref b3), .val (.int (p4.toInt8.toInt32)), .val (.int (((p4.toUInt32 >>> ((8 : Int32) &&& 31).toUInt32).toInt32).toInt8.toInt32)), .val (.int (((p4.toUInt32 >>> ((16 : Int32) &&& 31).toUInt32).toInt32).toInt8.toInt32)), .unset, .unset, .unset, .unset, .unset] [])) _
  refine g_aload X4 hx (hb hby at_45) rfl rfl ?_
  refine g_iconst X4 hx (1 : Int32) (hb hby at_47) (by decide) ?_
  refine g_iload X4 hx (hb hby at_48) rfl ?_
  obtain ⟨cl5, Ar5, cq5, sz5, nn5, Ha5, Gf5⟩ := id V_b3_4
  have hin5 : ¬ ((1 : Int32) < 0 ∨ cl5.slots.size ≤ (1 : Int32).toNatClampNeg) := by rw [sz5]; decide
  obtain ⟨T5, h5, X5, e5, W5, st5⟩ := stB X4 hx hZ e4 Ar5 (j := 1) hin5 (g := (mkF m 50 #[.val (.int p1), .val (.int p2), .val (.long p3), .second, .val (.int p4), .val (.int p5), .val (.ref (f_kindOf (p1 &&& (3 : Int32)) w_FILE w_DIRECTORY w_LINK w_OTHER)), .val (.ref b2), .val (.ref b3), .val (.int (p4.toInt8.toInt32)), .val (.int (((p4.toUInt32 >>> ((8 : Int32) &&& 31).toUInt32).toInt32).toInt8.toInt32)), .val (.int (((p4.toUInt32 >>> ((16 : Int32) &&& 31).toUInt32).toInt32).toInt8.toInt32)), .unset, .unset, .unset, .unset, .unset] [(.int (((p4.toUInt32 >>> ((8 : Int32) &&& 31).toUInt32).toInt32).toInt8.toInt32)), (.int (1 : Int32)), (.ref b3)])) rfl rfl (hb hby at_50)
  rw [show nar .byte (((p4.toUInt32 >>> ((8 : Int32) &&& 31).toUInt32).toInt32).toInt8.toInt32) = (((p4.toUInt32 >>> ((8 : Int32) &&& 31).toUInt32).toInt32).toInt8.toInt32) from own_b2 _] at W5
  have N5 := Fr.snoc X5 N4 g_b3
  have E_b2_5 := Exa.wr W5 E_b2_4
  have V_b2_5 := Arv.other V_b2_4 W5 ne_b2_b3
  have E_b3_5 := Exa.wr W5 E_b3_4
  have V_b3_5 := Arv.set Ar5 cq5 sz5 nn5 Ha5 Gf5 (v := (.int (((p4.toUInt32 >>> ((8 : Int32) &&& 31).toUInt32).toInt32).toInt8.toInt32))) (fits_nar_byte _) W5 1 (by decide) (by simp)
  have Z5 : n0 ≤ h5.size := Nat.le_trans Z4 (Nat.le_of_eq W5.size.symm)
  refine Go.mp st5 ?_
  show Go p e below (T5.setTop (mkF m 51 #[.val (.int p1), .val (.int p2), .val (.long p3), .second, .val (.int p4), .val (.int p5), .val (.ref (f_kindOf (p1 &&& (3 : Int32)) w_FILE w_DIRECTORY w_LINK w_OTHER)), .val (.ref b2), .val (.ref b3), .val (.int (p4.toInt8.toInt32)), .val (.int (((p4.toUInt32 >>> ((8 : Int32) &&& 31).toUInt32).toInt32).toInt8.toInt32)), .val (.int (((p4.toUInt32 >>> ((16 : Int32) &&& 31).toUInt32).toInt32).toInt8.toInt32)), .unset, .unset, .unset, .unset, .unset] [])) _
  refine g_aload X5 hx (hb hby at_51) rfl rfl ?_
  refine g_iconst X5 hx (2 : Int32) (hb hby at_53) (by decide) ?_
  refine g_iload X5 hx (hb hby at_54) rfl ?_
  obtain ⟨cl6, Ar6, cq6, sz6, nn6, Ha6, Gf6⟩ := id V_b3_5
  have hin6 : ¬ ((2 : Int32) < 0 ∨ cl6.slots.size ≤ (2 : Int32).toNatClampNeg) := by rw [sz6]; decide
  obtain ⟨T6, h6, X6, e6, W6, st6⟩ := stB X5 hx hZ e5 Ar6 (j := 2) hin6 (g := (mkF m 56 #[.val (.int p1), .val (.int p2), .val (.long p3), .second, .val (.int p4), .val (.int p5), .val (.ref (f_kindOf (p1 &&& (3 : Int32)) w_FILE w_DIRECTORY w_LINK w_OTHER)), .val (.ref b2), .val (.ref b3), .val (.int (p4.toInt8.toInt32)), .val (.int (((p4.toUInt32 >>> ((8 : Int32) &&& 31).toUInt32).toInt32).toInt8.toInt32)), .val (.int (((p4.toUInt32 >>> ((16 : Int32) &&& 31).toUInt32).toInt32).toInt8.toInt32)), .unset, .unset, .unset, .unset, .unset] [(.int (((p4.toUInt32 >>> ((16 : Int32) &&& 31).toUInt32).toInt32).toInt8.toInt32)), (.int (2 : Int32)), (.ref b3)])) rfl rfl (hb hby at_56)
  rw [show nar .byte (((p4.toUInt32 >>> ((16 : Int32) &&& 31).toUInt32).toInt32).toInt8.toInt32) = (((p4.toUInt32 >>> ((16 : Int32) &&& 31).toUInt32).toInt32).toInt8.toInt32) from own_b2 _] at W6
  have N6 := Fr.snoc X6 N5 g_b3
  have E_b2_6 := Exa.wr W6 E_b2_5
  have V_b2_6 := Arv.other V_b2_5 W6 ne_b2_b3
  have E_b3_6 := Exa.wr W6 E_b3_5
  have V_b3_6 := Arv.set Ar6 cq6 sz6 nn6 Ha6 Gf6 (v := (.int (((p4.toUInt32 >>> ((16 : Int32) &&& 31).toUInt32).toInt32).toInt8.toInt32))) (fits_nar_byte _) W6 2 (by decide) (by simp)
  have Z6 : n0 ≤ h6.size := Nat.le_trans Z5 (Nat.le_of_eq W6.size.symm)
  refine Go.mp st6 ?_
  show Go p e below (T6.setTop (mkF m 57 #[.val (.int p1), .val (.int p2), .val (.long p3), .second, .val (.int p4), .val (.int p5), .val (.ref (f_kindOf (p1 &&& (3 : Int32)) w_FILE w_DIRECTORY w_LINK w_OTHER)), .val (.ref b2), .val (.ref b3), .val (.int (p4.toInt8.toInt32)), .val (.int (((p4.toUInt32 >>> ((8 : Int32) &&& 31).toUInt32).toInt32).toInt8.toInt32)), .val (.int (((p4.toUInt32 >>> ((16 : Int32) &&& 31).toUInt32).toInt32).toInt8.toInt32)), .unset, .unset, .unset, .unset, .unset] [])) _
  refine g_iload X6 hx (hb hby at_57) rfl ?_
  refine g_iconst X6 hx (3 : Int32) (hb hby at_59) (by decide) ?_
  refine g_iand X6 hx (hb hby at_60) ?_
  refine g_istore X6 hx #[.val (.int p1), .val (.int p2), .val (.long p3), .second, .val (.int p4), .val (.int p5), .val (.ref (f_kindOf (p1 &&& (3 : Int32)) w_FILE w_DIRECTORY w_LINK w_OTHER)), .val (.ref b2), .val (.ref b3), .val (.int (p4.toInt8.toInt32)), .val (.int (((p4.toUInt32 >>> ((8 : Int32) &&& 31).toUInt32).toInt32).toInt8.toInt32)), .val (.int (((p4.toUInt32 >>> ((16 : Int32) &&& 31).toUInt32).toInt32).toInt8.toInt32)), .val (.int (p5 &&& (3 : Int32))), .unset, .unset, .unset, .unset] (hb hby at_61) rfl ?_
  refine g_iload X6 hx (hb hby at_63) rfl ?_
  by_cases c65_7 : (p5 &&& (3 : Int32)) = (0 : Int32)
  · refine g_ifNo X6 hx (hb hby at_65) ((if0 _ _).trans (teq c65_7).2) ?_
    refine g_null X6 hx (hb hby at_68) ?_
    refine g_goto X6 hx 85 (hb hby at_69) (by decide) (by decide) ?_
    refine g_astore X6 hx #[.val (.int p1), .val (.int p2), .val (.long p3), .second, .val (.int p4), .val (.int p5), .val (.ref (f_kindOf (p1 &&& (3 : Int32)) w_FILE w_DIRECTORY w_LINK w_OTHER)), .val (.ref b2), .val (.ref b3), .val (.int (p4.toInt8.toInt32)), .val (.int (((p4.toUInt32 >>> ((8 : Int32) &&& 31).toUInt32).toInt32).toInt8.toInt32)), .val (.int (((p4.toUInt32 >>> ((16 : Int32) &&& 31).toUInt32).toInt32).toInt8.toInt32)), .val (.int (p5 &&& (3 : Int32))), .val .null, .unset, .unset, .unset] (hb hby at_85) rfl rfl ?_
    obtain ⟨T8, h8, X8, e8, E8, A8, D8, -, st8⟩ := newO X6 hx hZ hown (hw _ (List.mem_of_getElem? (i := 8) rfl)) (hw _ (List.mem_of_getElem? (i := 9) rfl)) (hw _ (List.mem_of_getElem? (i := 10) rfl)) e6 (g := (mkF m 87 #[.val (.int p1), .val (.int p2), .val (.long p3), .second, .val (.int p4), .val (.int p5), .val (.ref (f_kindOf (p1 &&& (3 : Int32)) w_FILE w_DIRECTORY w_LINK w_OTHER)), .val (.ref b2), .val (.ref b3), .val (.int (p4.toInt8.toInt32)), .val (.int (((p4.toUInt32 >>> ((8 : Int32) &&& 31).toUInt32).toInt32).toInt8.toInt32)), .val (.int (((p4.toUInt32 >>> ((16 : Int32) &&& 31).toUInt32).toInt32).toInt8.toInt32)), .val (.int (p5 &&& (3 : Int32))), .val .null, .unset, .unset, .unset] [])) rfl (hb hby at_87) (by decide) (by decide)
    obtain ⟨b8, g8⟩ : ∃ z, z = h6.size := ⟨_, rfl⟩
    rw [← g8] at A8 D8 st8
    have ne_b2_b8 : b2 ≠ b8 := Nat.ne_of_lt (Nat.lt_of_lt_of_le E_b2_6.lt (Nat.le_of_eq g8.symm))
    have ne_b3_b8 : b3 ≠ b8 := Nat.ne_of_lt (Nat.lt_of_lt_of_le E_b3_6.lt (Nat.le_of_eq g8.symm))
    have g_b8 : n0 ≤ b8 := Nat.le_trans Z6 (Nat.le_of_eq g8.symm)
    have Z8 : n0 ≤ h8.size := Nat.le_trans Z6 E8.1
    have E_b2_8 := Exa.ext E8 E_b2_6
    have V_b2_8 := Arv.ext V_b2_6 E8
    have E_b3_8 := Exa.ext E8 E_b3_6
    have V_b3_8 := Arv.ext V_b3_6 E8
    have F8_kind : Fld Z h8 b8 "com/example/rigging/rigging/Snapshot$Entry" "kind" "Lcom/example/rigging/rigging/Snapshot$Entry$Kind;" .null := D8 (Or.inr (hw _ (List.mem_of_getElem? (i := 18) rfl))) (ty := (FieldType.object "com/example/rigging/rigging/Snapshot$Entry$Kind")) (by decide)
    have F8_permissions : Fld Z h8 b8 "com/example/rigging/rigging/Snapshot$Entry" "permissions" "I" (.int (0 : Int32)) := D8 (Or.inr (hw _ (List.mem_of_getElem? (i := 20) rfl))) (ty := FieldType.int) (by decide)
    have F8_size : Fld Z h8 b8 "com/example/rigging/rigging/Snapshot$Entry" "size" "J" (.long (0 : Int64)) := D8 (Or.inr (hw _ (List.mem_of_getElem? (i := 22) rfl))) (ty := FieldType.long) (by decide)
    have F8_digest : Fld Z h8 b8 "com/example/rigging/rigging/Snapshot$Entry" "digest" "[B" .null := D8 (Or.inr (hw _ (List.mem_of_getElem? (i := 33) rfl))) (ty := (FieldType.array FieldType.byte)) (by decide)
    refine Go.mp st8 ?_
    show Go p e below (T8.setTop (mkF m 90 #[.val (.int p1), .val (.int p2), .val (.long p3), .second, .val (.int p4), .val (.int p5), .val (.ref (f_kindOf (p1 &&& (3 : Int32)) w_FILE w_DIRECTORY w_LINK w_OTHER)), .val (.ref b2), .val (.ref b3), .val (.int (p4.toInt8.toInt32)), .val (.int (((p4.toUInt32 >>> ((8 : Int32) &&& 31).toUInt32).toInt32).toInt8.toInt32)), .val (.int (((p4.toUInt32 >>> ((16 : Int32) &&& 31).toUInt32).toInt32).toInt8.toInt32)), .val (.int (p5 &&& (3 : Int32))), .val .null, .unset, .unset, .unset] [(.ref b8)])) _
    refine g_dup X8 hx (hb hby at_90) rfl ?_
    refine g_aload X8 hx (hb hby at_91) rfl rfl ?_
    refine g_iloadN X8 hx (hb hby at_93) rfl ?_
    refine g_lloadN X8 hx (hb hby at_94) rfl ?_
    refine g_aload X8 hx (hb hby at_95) rfl rfl ?_
    obtain ⟨v9, T9, L9, X9, q9, st9⟩ := own_callI X8 hx hZ (y := (⟨"com/example/rigging/rigging/Snapshot$Entry", "<init>", "(Lcom/example/rigging/rigging/Snapshot$Entry$Kind;IJ[B)V"⟩ : MethodName)) (pc := 97) (Ls := #[.val (.int p1), .val (.int p2), .val (.long p3), .second, .val (.int p4), .val (.int p5), .val (.ref (f_kindOf (p1 &&& (3 : Int32)) w_FILE w_DIRECTORY w_LINK w_OTHER)), .val (.ref b2), .val (.ref b3), .val (.int (p4.toInt8.toInt32)), .val (.int (((p4.toUInt32 >>> ((8 : Int32) &&& 31).toUInt32).toInt32).toInt8.toInt32)), .val (.int (((p4.toUInt32 >>> ((16 : Int32) &&& 31).toUInt32).toInt32).toInt8.toInt32)), .val (.int (p5 &&& (3 : Int32))), .val .null, .unset, .unset, .unset]) (st := [.null, (.long p3), (.int p2), (.ref (f_kindOf (p1 &&& (3 : Int32)) w_FILE w_DIRECTORY w_LINK w_OTHER)), (.ref b8), (.ref b8)]) hown (hw _ (List.mem_of_getElem? (i := 11) rfl)) (hw _ (List.mem_of_getElem? (i := 12) rfl)) (hw _ (List.mem_of_getElem? (i := 13) rfl)) (hw _ (List.mem_of_getElem? (i := 10) rfl)) rfl (by decide) (rm_initN l Z a0 hw b8 (f_kindOf (p1 &&& (3 : Int32)) w_FILE w_DIRECTORY w_LINK w_OTHER) p2 p3 h8 n0 Z8 A8 F8_kind F8_permissions F8_size F8_digest g_b8) e8 pd_1 (hb hby at_97) (by rw [hml]; rfl) (argsL := [(.ref (f_kindOf (p1 &&& (3 : Int32)) w_FILE w_DIRECTORY w_LINK w_OTHER)), (.int p2), (.long p3), .null]) (rest := [(.ref b8)]) rfl rfl rfl (W := 1) (Nat.le_of_eq rfl) (by decide) (by decide) (by decide) (by decide)
    obtain ⟨rv9, M9, Kc9, Fk9_0⟩ := q9
    have N9 := Fr.app N6 M9
    subst rv9
    have E_b2_9 := Exa.keep E_b2_8 Kc9
    have V_b2_9 := Arv.keep V_b2_8 Kc9 (own_nin ne_b2_b8 List.not_mem_nil)
    have E_b3_9 := Exa.keep E_b3_8 Kc9
    have V_b3_9 := Arv.keep V_b3_8 Kc9 (own_nin ne_b3_b8 List.not_mem_nil)
    have E_b8_9 := Exa.keep A8 Kc9
    have Z9 : n0 ≤ T9.heap.size := Nat.le_trans Z8 Kc9.1
    refine Go.mp st9 ?_
    show Go p e below (T9.setTop (mkF m 100 #[.val (.int p1), .val (.int p2), .val (.long p3), .second, .val (.int p4), .val (.int p5), .val (.ref (f_kindOf (p1 &&& (3 : Int32)) w_FILE w_DIRECTORY w_LINK w_OTHER)), .val (.ref b2), .val (.ref b3), .val (.int (p4.toInt8.toInt32)), .val (.int (((p4.toUInt32 >>> ((8 : Int32) &&& 31).toUInt32).toInt32).toInt8.toInt32)), .val (.int (((p4.toUInt32 >>> ((16 : Int32) &&& 31).toUInt32).toInt32).toInt8.toInt32)), .val (.int (p5 &&& (3 : Int32))), .val .null, .unset, .unset, .unset] [(.ref b8)])) _
    refine g_astore X9 hx #[.val (.int p1), .val (.int p2), .val (.long p3), .second, .val (.int p4), .val (.int p5), .val (.ref (f_kindOf (p1 &&& (3 : Int32)) w_FILE w_DIRECTORY w_LINK w_OTHER)), .val (.ref b2), .val (.ref b3), .val (.int (p4.toInt8.toInt32)), .val (.int (((p4.toUInt32 >>> ((8 : Int32) &&& 31).toUInt32).toInt32).toInt8.toInt32)), .val (.int (((p4.toUInt32 >>> ((16 : Int32) &&& 31).toUInt32).toInt32).toInt8.toInt32)), .val (.int (p5 &&& (3 : Int32))), .val .null, .val (.ref b8), .unset, .unset] (hb hby at_100) rfl rfl ?_
    refine g_aload X9 hx (hb hby at_102) rfl rfl ?_
    refine Go.mp (fun _ k => XS.ifnonnullNo X9.here hx rfl (hb hby at_104) rfl k) ?_
    show Go p e below (T9.setTop (mkF m 107 #[.val (.int p1), .val (.int p2), .val (.long p3), .second, .val (.int p4), .val (.int p5), .val (.ref (f_kindOf (p1 &&& (3 : Int32)) w_FILE w_DIRECTORY w_LINK w_OTHER)), .val (.ref b2), .val (.ref b3), .val (.int (p4.toInt8.toInt32)), .val (.int (((p4.toUInt32 >>> ((8 : Int32) &&& 31).toUInt32).toInt32).toInt8.toInt32)), .val (.int (((p4.toUInt32 >>> ((16 : Int32) &&& 31).toUInt32).toInt32).toInt8.toInt32)), .val (.int (p5 &&& (3 : Int32))), .val .null, .val (.ref b8), .unset, .unset] [])) _
    refine g_aload X9 hx (hb hby at_107) rfl rfl ?_
    obtain ⟨v10, T10, L10, X10, q10, st10⟩ := own_callV X9 hx hZ (y := (⟨"com/example/rigging/rigging/Snapshot$Entry", "digest", "()[B"⟩ : MethodName)) (pc := 109) (Ls := #[.val (.int p1), .val (.int p2), .val (.long p3), .second, .val (.int p4), .val (.int p5), .val (.ref (f_kindOf (p1 &&& (3 : Int32)) w_FILE w_DIRECTORY w_LINK w_OTHER)), .val (.ref b2), .val (.ref b3), .val (.int (p4.toInt8.toInt32)), .val (.int (((p4.toUInt32 >>> ((8 : Int32) &&& 31).toUInt32).toInt32).toInt8.toInt32)), .val (.int (((p4.toUInt32 >>> ((16 : Int32) &&& 31).toUInt32).toInt32).toInt8.toInt32)), .val (.int (p5 &&& (3 : Int32))), .val .null, .val (.ref b8), .unset, .unset]) (st := [(.ref b8)]) hown (hw _ (List.mem_of_getElem? (i := 34) rfl)) (hw _ (List.mem_of_getElem? (i := 35) rfl)) (hw _ (List.mem_of_getElem? (i := 37) rfl)) (hw _ (List.mem_of_getElem? (i := 36) rfl)) (hw _ (List.mem_of_getElem? (i := 38) rfl)) (hw _ (List.mem_of_getElem? (i := 10) rfl)) (by decide) (rm_digestN l Z a0 hw b8 T9.heap n0 Z9 Fk9_0) (rfl : T9.heap = T9.heap) E_b8_9 pd_2 (hb hby at_109) (by rw [hml]; rfl) (argsL := []) (rest := []) rfl rfl rfl (W := 0) (Nat.le_of_eq rfl) (by decide) (by decide) (by decide) (by decide)
    obtain ⟨rfl, M10, e10⟩ := q10
    have N10 := Fr.app N9 M10
    refine Go.mp st10 ?_
    show Go p e below (T10.setTop (mkF m 112 #[.val (.int p1), .val (.int p2), .val (.long p3), .second, .val (.int p4), .val (.int p5), .val (.ref (f_kindOf (p1 &&& (3 : Int32)) w_FILE w_DIRECTORY w_LINK w_OTHER)), .val (.ref b2), .val (.ref b3), .val (.int (p4.toInt8.toInt32)), .val (.int (((p4.toUInt32 >>> ((8 : Int32) &&& 31).toUInt32).toInt32).toInt8.toInt32)), .val (.int (((p4.toUInt32 >>> ((16 : Int32) &&& 31).toUInt32).toInt32).toInt8.toInt32)), .val (.int (p5 &&& (3 : Int32))), .val .null, .val (.ref b8), .unset, .unset] [.null])) _
    refine g_astore X10 hx #[.val (.int p1), .val (.int p2), .val (.long p3), .second, .val (.int p4), .val (.int p5), .val (.ref (f_kindOf (p1 &&& (3 : Int32)) w_FILE w_DIRECTORY w_LINK w_OTHER)), .val (.ref b2), .val (.ref b3), .val (.int (p4.toInt8.toInt32)), .val (.int (((p4.toUInt32 >>> ((8 : Int32) &&& 31).toUInt32).toInt32).toInt8.toInt32)), .val (.int (((p4.toUInt32 >>> ((16 : Int32) &&& 31).toUInt32).toInt32).toInt8.toInt32)), .val (.int (p5 &&& (3 : Int32))), .val .null, .val (.ref b8), .val .null, .unset] (hb hby at_112) rfl rfl ?_
    refine g_aload X10 hx (hb hby at_114) rfl rfl ?_
    obtain ⟨v11, T11, L11, X11, q11, st11⟩ := own_callV X10 hx hZ (y := (⟨"com/example/rigging/rigging/Snapshot$Entry", "digest", "()[B"⟩ : MethodName)) (pc := 116) (Ls := #[.val (.int p1), .val (.int p2), .val (.long p3), .second, .val (.int p4), .val (.int p5), .val (.ref (f_kindOf (p1 &&& (3 : Int32)) w_FILE w_DIRECTORY w_LINK w_OTHER)), .val (.ref b2), .val (.ref b3), .val (.int (p4.toInt8.toInt32)), .val (.int (((p4.toUInt32 >>> ((8 : Int32) &&& 31).toUInt32).toInt32).toInt8.toInt32)), .val (.int (((p4.toUInt32 >>> ((16 : Int32) &&& 31).toUInt32).toInt32).toInt8.toInt32)), .val (.int (p5 &&& (3 : Int32))), .val .null, .val (.ref b8), .val .null, .unset]) (st := [(.ref b8)]) hown (hw _ (List.mem_of_getElem? (i := 34) rfl)) (hw _ (List.mem_of_getElem? (i := 35) rfl)) (hw _ (List.mem_of_getElem? (i := 37) rfl)) (hw _ (List.mem_of_getElem? (i := 36) rfl)) (hw _ (List.mem_of_getElem? (i := 38) rfl)) (hw _ (List.mem_of_getElem? (i := 10) rfl)) (by decide) (rm_digestN l Z a0 hw b8 T9.heap n0 Z9 Fk9_0) e10 E_b8_9 pd_2 (hb hby at_116) (by rw [hml]; rfl) (argsL := []) (rest := []) rfl rfl rfl (W := 0) (Nat.le_of_eq rfl) (by decide) (by decide) (by decide) (by decide)
    obtain ⟨rfl, M11, e11⟩ := q11
    have N11 := Fr.app N10 M11
    refine Go.mp st11 ?_
    show Go p e below (T11.setTop (mkF m 119 #[.val (.int p1), .val (.int p2), .val (.long p3), .second, .val (.int p4), .val (.int p5), .val (.ref (f_kindOf (p1 &&& (3 : Int32)) w_FILE w_DIRECTORY w_LINK w_OTHER)), .val (.ref b2), .val (.ref b3), .val (.int (p4.toInt8.toInt32)), .val (.int (((p4.toUInt32 >>> ((8 : Int32) &&& 31).toUInt32).toInt32).toInt8.toInt32)), .val (.int (((p4.toUInt32 >>> ((16 : Int32) &&& 31).toUInt32).toInt32).toInt8.toInt32)), .val (.int (p5 &&& (3 : Int32))), .val .null, .val (.ref b8), .val .null, .unset] [.null])) _
    refine g_astore X11 hx #[.val (.int p1), .val (.int p2), .val (.long p3), .second, .val (.int p4), .val (.int p5), .val (.ref (f_kindOf (p1 &&& (3 : Int32)) w_FILE w_DIRECTORY w_LINK w_OTHER)), .val (.ref b2), .val (.ref b3), .val (.int (p4.toInt8.toInt32)), .val (.int (((p4.toUInt32 >>> ((8 : Int32) &&& 31).toUInt32).toInt32).toInt8.toInt32)), .val (.int (((p4.toUInt32 >>> ((16 : Int32) &&& 31).toUInt32).toInt32).toInt8.toInt32)), .val (.int (p5 &&& (3 : Int32))), .val .null, .val (.ref b8), .val .null, .val .null] (hb hby at_119) rfl rfl ?_
    refine g_aload X11 hx (hb hby at_121) rfl rfl ?_
    refine Go.mp (fun _ k => XS.ifnonnullNo X11.here hx rfl (hb hby at_123) rfl k) ?_
    show Go p e below (T11.setTop (mkF m 126 #[.val (.int p1), .val (.int p2), .val (.long p3), .second, .val (.int p4), .val (.int p5), .val (.ref (f_kindOf (p1 &&& (3 : Int32)) w_FILE w_DIRECTORY w_LINK w_OTHER)), .val (.ref b2), .val (.ref b3), .val (.int (p4.toInt8.toInt32)), .val (.int (((p4.toUInt32 >>> ((8 : Int32) &&& 31).toUInt32).toInt32).toInt8.toInt32)), .val (.int (((p4.toUInt32 >>> ((16 : Int32) &&& 31).toUInt32).toInt32).toInt8.toInt32)), .val (.int (p5 &&& (3 : Int32))), .val .null, .val (.ref b8), .val .null, .val .null] [])) _
    refine g_aload X11 hx (hb hby at_126) rfl rfl ?_
    refine Go.mp (fun _ k => XS.ifnonnullNo X11.here hx rfl (hb hby at_128) rfl k) ?_
    show Go p e below (T11.setTop (mkF m 131 #[.val (.int p1), .val (.int p2), .val (.long p3), .second, .val (.int p4), .val (.int p5), .val (.ref (f_kindOf (p1 &&& (3 : Int32)) w_FILE w_DIRECTORY w_LINK w_OTHER)), .val (.ref b2), .val (.ref b3), .val (.int (p4.toInt8.toInt32)), .val (.int (((p4.toUInt32 >>> ((8 : Int32) &&& 31).toUInt32).toInt32).toInt8.toInt32)), .val (.int (((p4.toUInt32 >>> ((16 : Int32) &&& 31).toUInt32).toInt32).toInt8.toInt32)), .val (.int (p5 &&& (3 : Int32))), .val .null, .val (.ref b8), .val .null, .val .null] [])) _
    refine g_iconst X11 hx (1 : Int32) (hb hby at_131) (by decide) ?_
    refine g_goto X11 hx 136 (hb hby at_132) (by decide) (by decide) ?_
    exact own_retZ X11 hx hret hlk (hb hby at_136) (by decide) (by decide) (by decide) ⟨rfl, N11⟩
  · refine g_ifYes X6 hx 72 (hb hby at_65) ((if0 _ _).trans (feq c65_7).2) (by decide) (by decide) ?_
    refine g_iload X6 hx (hb hby at_72) rfl ?_
    refine g_iconst X6 hx (1 : Int32) (hb hby at_74) (by decide) ?_
    by_cases c75_12 : (p5 &&& (3 : Int32)) = (1 : Int32)
    · refine g_icmpNo X6 hx (hb hby at_75) (teq c75_12).2 ?_
      refine g_aload X6 hx (hb hby at_78) rfl rfl ?_
      refine g_goto X6 hx 85 (hb hby at_80) (by decide) (by decide) ?_
      refine g_astore X6 hx #[.val (.int p1), .val (.int p2), .val (.long p3), .second, .val (.int p4), .val (.int p5), .val (.ref (f_kindOf (p1 &&& (3 : Int32)) w_FILE w_DIRECTORY w_LINK w_OTHER)), .val (.ref b2), .val (.ref b3), .val (.int (p4.toInt8.toInt32)), .val (.int (((p4.toUInt32 >>> ((8 : Int32) &&& 31).toUInt32).toInt32).toInt8.toInt32)), .val (.int (((p4.toUInt32 >>> ((16 : Int32) &&& 31).toUInt32).toInt32).toInt8.toInt32)), .val (.int (p5 &&& (3 : Int32))), .val (.ref b2), .unset, .unset, .unset] (hb hby at_85) rfl rfl ?_
      obtain ⟨T13, h13, X13, e13, E13, A13, D13, -, st13⟩ := newO X6 hx hZ hown (hw _ (List.mem_of_getElem? (i := 8) rfl)) (hw _ (List.mem_of_getElem? (i := 9) rfl)) (hw _ (List.mem_of_getElem? (i := 10) rfl)) e6 (g := (mkF m 87 #[.val (.int p1), .val (.int p2), .val (.long p3), .second, .val (.int p4), .val (.int p5), .val (.ref (f_kindOf (p1 &&& (3 : Int32)) w_FILE w_DIRECTORY w_LINK w_OTHER)), .val (.ref b2), .val (.ref b3), .val (.int (p4.toInt8.toInt32)), .val (.int (((p4.toUInt32 >>> ((8 : Int32) &&& 31).toUInt32).toInt32).toInt8.toInt32)), .val (.int (((p4.toUInt32 >>> ((16 : Int32) &&& 31).toUInt32).toInt32).toInt8.toInt32)), .val (.int (p5 &&& (3 : Int32))), .val (.ref b2), .unset, .unset, .unset] [])) rfl (hb hby at_87) (by decide) (by decide)
      obtain ⟨b13, g13⟩ : ∃ z, z = h6.size := ⟨_, rfl⟩
      rw [← g13] at A13 D13 st13
      have ne_b2_b13 : b2 ≠ b13 := Nat.ne_of_lt (Nat.lt_of_lt_of_le E_b2_6.lt (Nat.le_of_eq g13.symm))
      have ne_b3_b13 : b3 ≠ b13 := Nat.ne_of_lt (Nat.lt_of_lt_of_le E_b3_6.lt (Nat.le_of_eq g13.symm))
      have g_b13 : n0 ≤ b13 := Nat.le_trans Z6 (Nat.le_of_eq g13.symm)
      have Z13 : n0 ≤ h13.size := Nat.le_trans Z6 E13.1
      have E_b2_13 := Exa.ext E13 E_b2_6
      have V_b2_13 := Arv.ext V_b2_6 E13
      have E_b3_13 := Exa.ext E13 E_b3_6
      have V_b3_13 := Arv.ext V_b3_6 E13
      have F13_kind : Fld Z h13 b13 "com/example/rigging/rigging/Snapshot$Entry" "kind" "Lcom/example/rigging/rigging/Snapshot$Entry$Kind;" .null := D13 (Or.inr (hw _ (List.mem_of_getElem? (i := 18) rfl))) (ty := (FieldType.object "com/example/rigging/rigging/Snapshot$Entry$Kind")) (by decide)
      have F13_permissions : Fld Z h13 b13 "com/example/rigging/rigging/Snapshot$Entry" "permissions" "I" (.int (0 : Int32)) := D13 (Or.inr (hw _ (List.mem_of_getElem? (i := 20) rfl))) (ty := FieldType.int) (by decide)
      have F13_size : Fld Z h13 b13 "com/example/rigging/rigging/Snapshot$Entry" "size" "J" (.long (0 : Int64)) := D13 (Or.inr (hw _ (List.mem_of_getElem? (i := 22) rfl))) (ty := FieldType.long) (by decide)
      have F13_digest : Fld Z h13 b13 "com/example/rigging/rigging/Snapshot$Entry" "digest" "[B" .null := D13 (Or.inr (hw _ (List.mem_of_getElem? (i := 33) rfl))) (ty := (FieldType.array FieldType.byte)) (by decide)
      refine Go.mp st13 ?_
      show Go p e below (T13.setTop (mkF m 90 #[.val (.int p1), .val (.int p2), .val (.long p3), .second, .val (.int p4), .val (.int p5), .val (.ref (f_kindOf (p1 &&& (3 : Int32)) w_FILE w_DIRECTORY w_LINK w_OTHER)), .val (.ref b2), .val (.ref b3), .val (.int (p4.toInt8.toInt32)), .val (.int (((p4.toUInt32 >>> ((8 : Int32) &&& 31).toUInt32).toInt32).toInt8.toInt32)), .val (.int (((p4.toUInt32 >>> ((16 : Int32) &&& 31).toUInt32).toInt32).toInt8.toInt32)), .val (.int (p5 &&& (3 : Int32))), .val (.ref b2), .unset, .unset, .unset] [(.ref b13)])) _
      refine g_dup X13 hx (hb hby at_90) rfl ?_
      refine g_aload X13 hx (hb hby at_91) rfl rfl ?_
      refine g_iloadN X13 hx (hb hby at_93) rfl ?_
      refine g_lloadN X13 hx (hb hby at_94) rfl ?_
      refine g_aload X13 hx (hb hby at_95) rfl rfl ?_
      obtain ⟨v14, T14, L14, X14, q14, st14⟩ := own_callI X13 hx hZ (y := (⟨"com/example/rigging/rigging/Snapshot$Entry", "<init>", "(Lcom/example/rigging/rigging/Snapshot$Entry$Kind;IJ[B)V"⟩ : MethodName)) (pc := 97) (Ls := #[.val (.int p1), .val (.int p2), .val (.long p3), .second, .val (.int p4), .val (.int p5), .val (.ref (f_kindOf (p1 &&& (3 : Int32)) w_FILE w_DIRECTORY w_LINK w_OTHER)), .val (.ref b2), .val (.ref b3), .val (.int (p4.toInt8.toInt32)), .val (.int (((p4.toUInt32 >>> ((8 : Int32) &&& 31).toUInt32).toInt32).toInt8.toInt32)), .val (.int (((p4.toUInt32 >>> ((16 : Int32) &&& 31).toUInt32).toInt32).toInt8.toInt32)), .val (.int (p5 &&& (3 : Int32))), .val (.ref b2), .unset, .unset, .unset]) (st := [(.ref b2), (.long p3), (.int p2), (.ref (f_kindOf (p1 &&& (3 : Int32)) w_FILE w_DIRECTORY w_LINK w_OTHER)), (.ref b13), (.ref b13)]) hown (hw _ (List.mem_of_getElem? (i := 11) rfl)) (hw _ (List.mem_of_getElem? (i := 12) rfl)) (hw _ (List.mem_of_getElem? (i := 13) rfl)) (hw _ (List.mem_of_getElem? (i := 10) rfl)) rfl (by decide) (rm_init0 l Z a0 hw b13 (f_kindOf (p1 &&& (3 : Int32)) w_FILE w_DIRECTORY w_LINK w_OTHER) p2 p3 b2 _ _ h13 n0 Z13 A13 F13_kind F13_permissions F13_size F13_digest g_b13 V_b2_13 E_b2_13 ne_b2_b13) e13 pd_1 (hb hby at_97) (by rw [hml]; rfl) (argsL := [(.ref (f_kindOf (p1 &&& (3 : Int32)) w_FILE w_DIRECTORY w_LINK w_OTHER)), (.int p2), (.long p3), (.ref b2)]) (rest := [(.ref b13)]) rfl rfl rfl (W := 1) (Nat.le_of_eq rfl) (by decide) (by decide) (by decide) (by decide)
      obtain ⟨b14, rfl, M14, Kc14, sz14, Ff14, Vf14, Ef14⟩ := q14
      have N14 := Fr.app N6 M14
      have ne_b2_b14 : b2 ≠ b14 := Nat.ne_of_lt (Nat.lt_of_lt_of_le E_b2_13.lt sz14)
      have ne_b3_b14 : b3 ≠ b14 := Nat.ne_of_lt (Nat.lt_of_lt_of_le E_b3_13.lt sz14)
      have ne_b13_b14 : b13 ≠ b14 := Nat.ne_of_lt (Nat.lt_of_lt_of_le A13.lt sz14)
      have g_b14 : n0 ≤ b14 := Nat.le_trans Z13 sz14
      have E_b2_14 := Exa.keep E_b2_13 Kc14
      have V_b2_14 := Arv.keep V_b2_13 Kc14 (own_nin ne_b2_b13 List.not_mem_nil)
      have E_b3_14 := Exa.keep E_b3_13 Kc14
      have V_b3_14 := Arv.keep V_b3_13 Kc14 (own_nin ne_b3_b13 List.not_mem_nil)
      have E_b13_14 := Exa.keep A13 Kc14
      have Z14 : n0 ≤ T14.heap.size := Nat.le_trans Z13 Kc14.1
      refine Go.mp st14 ?_
      show Go p e below (T14.setTop (mkF m 100 #[.val (.int p1), .val (.int p2), .val (.long p3), .second, .val (.int p4), .val (.int p5), .val (.ref (f_kindOf (p1 &&& (3 : Int32)) w_FILE w_DIRECTORY w_LINK w_OTHER)), .val (.ref b2), .val (.ref b3), .val (.int (p4.toInt8.toInt32)), .val (.int (((p4.toUInt32 >>> ((8 : Int32) &&& 31).toUInt32).toInt32).toInt8.toInt32)), .val (.int (((p4.toUInt32 >>> ((16 : Int32) &&& 31).toUInt32).toInt32).toInt8.toInt32)), .val (.int (p5 &&& (3 : Int32))), .val (.ref b2), .unset, .unset, .unset] [(.ref b13)])) _
      refine g_astore X14 hx #[.val (.int p1), .val (.int p2), .val (.long p3), .second, .val (.int p4), .val (.int p5), .val (.ref (f_kindOf (p1 &&& (3 : Int32)) w_FILE w_DIRECTORY w_LINK w_OTHER)), .val (.ref b2), .val (.ref b3), .val (.int (p4.toInt8.toInt32)), .val (.int (((p4.toUInt32 >>> ((8 : Int32) &&& 31).toUInt32).toInt32).toInt8.toInt32)), .val (.int (((p4.toUInt32 >>> ((16 : Int32) &&& 31).toUInt32).toInt32).toInt8.toInt32)), .val (.int (p5 &&& (3 : Int32))), .val (.ref b2), .val (.ref b13), .unset, .unset] (hb hby at_100) rfl rfl ?_
      refine g_aload X14 hx (hb hby at_102) rfl rfl ?_
      refine Go.mp (fun _ k => XS.ifnonnullYes X14.here hx rfl (pc0 := 104) (pc' := 137) rfl (hb hby at_104) rfl (by decide) (by decide) k) ?_
      show Go p e below (T14.setTop (mkF m 137 #[.val (.int p1), .val (.int p2), .val (.long p3), .second, .val (.int p4), .val (.int p5), .val (.ref (f_kindOf (p1 &&& (3 : Int32)) w_FILE w_DIRECTORY w_LINK w_OTHER)), .val (.ref b2), .val (.ref b3), .val (.int (p4.toInt8.toInt32)), .val (.int (((p4.toUInt32 >>> ((8 : Int32) &&& 31).toUInt32).toInt32).toInt8.toInt32)), .val (.int (((p4.toUInt32 >>> ((16 : Int32) &&& 31).toUInt32).toInt32).toInt8.toInt32)), .val (.int (p5 &&& (3 : Int32))), .val (.ref b2), .val (.ref b13), .unset, .unset] [])) _
      refine g_iload X14 hx (hb hby at_137) rfl ?_
      refine g_iconst X14 hx (1 : Int32) (hb hby at_139) (by decide) ?_
      have c140_15 : (p5 &&& (3 : Int32)) = (1 : Int32) := c75_12
      refine g_icmpNo X14 hx (hb hby at_140) (teq c140_15).2 ?_
      refine g_aload X14 hx (hb hby at_143) rfl rfl ?_
      obtain ⟨v16, T16, L16, X16, q16, st16⟩ := own_callV X14 hx hZ (y := (⟨"com/example/rigging/rigging/Snapshot$Entry", "digest", "()[B"⟩ : MethodName)) (pc := 145) (Ls := #[.val (.int p1), .val (.int p2), .val (.long p3), .second, .val (.int p4), .val (.int p5), .val (.ref (f_kindOf (p1 &&& (3 : Int32)) w_FILE w_DIRECTORY w_LINK w_OTHER)), .val (.ref b2), .val (.ref b3), .val (.int (p4.toInt8.toInt32)), .val (.int (((p4.toUInt32 >>> ((8 : Int32) &&& 31).toUInt32).toInt32).toInt8.toInt32)), .val (.int (((p4.toUInt32 >>> ((16 : Int32) &&& 31).toUInt32).toInt32).toInt8.toInt32)), .val (.int (p5 &&& (3 : Int32))), .val (.ref b2), .val (.ref b13), .unset, .unset]) (st := [(.ref b13)]) hown (hw _ (List.mem_of_getElem? (i := 34) rfl)) (hw _ (List.mem_of_getElem? (i := 35) rfl)) (hw _ (List.mem_of_getElem? (i := 37) rfl)) (hw _ (List.mem_of_getElem? (i := 36) rfl)) (hw _ (List.mem_of_getElem? (i := 38) rfl)) (hw _ (List.mem_of_getElem? (i := 10) rfl)) (by decide) (rm_digest0 l Z a0 hw b13 b14 _ _ T14.heap n0 Z14 Ff14 Vf14 Ef14) (rfl : T14.heap = T14.heap) E_b13_14 pd_2 (hb hby at_145) (by rw [hml]; rfl) (argsL := []) (rest := []) rfl rfl rfl (W := 0) (Nat.le_of_eq rfl) (by decide) (by decide) (by decide) (by decide)
      obtain ⟨b16, rfl, M16, Kc16, sz16, Vf16, Ef16⟩ := q16
      have N16 := Fr.app N14 M16
      have ne_b2_b16 : b2 ≠ b16 := Nat.ne_of_lt (Nat.lt_of_lt_of_le E_b2_14.lt sz16)
      have ne_b3_b16 : b3 ≠ b16 := Nat.ne_of_lt (Nat.lt_of_lt_of_le E_b3_14.lt sz16)
      have ne_b13_b16 : b13 ≠ b16 := Nat.ne_of_lt (Nat.lt_of_lt_of_le E_b13_14.lt sz16)
      have ne_b14_b16 : b14 ≠ b16 := Nat.ne_of_lt (Nat.lt_of_lt_of_le Vf14.lt sz16)
      have g_b16 : n0 ≤ b16 := Nat.le_trans Z14 sz16
      have E_b2_16 := Exa.keep E_b2_14 Kc16
      have V_b2_16 := Arv.keep V_b2_14 Kc16 List.not_mem_nil
      have E_b3_16 := Exa.keep E_b3_14 Kc16
      have V_b3_16 := Arv.keep V_b3_14 Kc16 List.not_mem_nil
      have E_b13_16 := Exa.keep E_b13_14 Kc16
      have V_b14_16 := Arv.keep Vf14 Kc16 List.not_mem_nil
      have E_b14_16 := Exa.keep Ef14 Kc16
      have F_b13_digest_16 := Fld.keep Ff14 Kc16 List.not_mem_nil
      have Z16 : n0 ≤ T16.heap.size := Nat.le_trans Z14 Kc16.1
      refine Go.mp st16 ?_
      show Go p e below (T16.setTop (mkF m 148 #[.val (.int p1), .val (.int p2), .val (.long p3), .second, .val (.int p4), .val (.int p5), .val (.ref (f_kindOf (p1 &&& (3 : Int32)) w_FILE w_DIRECTORY w_LINK w_OTHER)), .val (.ref b2), .val (.ref b3), .val (.int (p4.toInt8.toInt32)), .val (.int (((p4.toUInt32 >>> ((8 : Int32) &&& 31).toUInt32).toInt32).toInt8.toInt32)), .val (.int (((p4.toUInt32 >>> ((16 : Int32) &&& 31).toUInt32).toInt32).toInt8.toInt32)), .val (.int (p5 &&& (3 : Int32))), .val (.ref b2), .val (.ref b13), .unset, .unset] [(.ref b16)])) _
      refine g_astore X16 hx #[.val (.int p1), .val (.int p2), .val (.long p3), .second, .val (.int p4), .val (.int p5), .val (.ref (f_kindOf (p1 &&& (3 : Int32)) w_FILE w_DIRECTORY w_LINK w_OTHER)), .val (.ref b2), .val (.ref b3), .val (.int (p4.toInt8.toInt32)), .val (.int (((p4.toUInt32 >>> ((8 : Int32) &&& 31).toUInt32).toInt32).toInt8.toInt32)), .val (.int (((p4.toUInt32 >>> ((16 : Int32) &&& 31).toUInt32).toInt32).toInt8.toInt32)), .val (.int (p5 &&& (3 : Int32))), .val (.ref b2), .val (.ref b13), .val (.ref b16), .unset] (hb hby at_148) rfl rfl ?_
      refine g_aload X16 hx (hb hby at_150) rfl rfl ?_
      refine Go.mp (fun _ k => XS.ifnullNo X16.here hx rfl (hb hby at_152) rfl k) ?_
      show Go p e below (T16.setTop (mkF m 155 #[.val (.int p1), .val (.int p2), .val (.long p3), .second, .val (.int p4), .val (.int p5), .val (.ref (f_kindOf (p1 &&& (3 : Int32)) w_FILE w_DIRECTORY w_LINK w_OTHER)), .val (.ref b2), .val (.ref b3), .val (.int (p4.toInt8.toInt32)), .val (.int (((p4.toUInt32 >>> ((8 : Int32) &&& 31).toUInt32).toInt32).toInt8.toInt32)), .val (.int (((p4.toUInt32 >>> ((16 : Int32) &&& 31).toUInt32).toInt32).toInt8.toInt32)), .val (.int (p5 &&& (3 : Int32))), .val (.ref b2), .val (.ref b13), .val (.ref b16), .unset] [])) _
      refine g_aload X16 hx (hb hby at_155) rfl rfl ?_
      obtain ⟨cl17, Ar17, -, sz17, nn17, -, -⟩ := id Vf16
      refine Go.mp (fun _ k => X16.arraylength hx (by rw [(rfl : T16.heap = T16.heap)]; exact Ar17.1) (State.isArrayOf_alike hZ.alike Ar17.2.1) (g := (mkF m 157 #[.val (.int p1), .val (.int p2), .val (.long p3), .second, .val (.int p4), .val (.int p5), .val (.ref (f_kindOf (p1 &&& (3 : Int32)) w_FILE w_DIRECTORY w_LINK w_OTHER)), .val (.ref b2), .val (.ref b3), .val (.int (p4.toInt8.toInt32)), .val (.int (((p4.toUInt32 >>> ((8 : Int32) &&& 31).toUInt32).toInt32).toInt8.toInt32)), .val (.int (((p4.toUInt32 >>> ((16 : Int32) &&& 31).toUInt32).toInt32).toInt8.toInt32)), .val (.int (p5 &&& (3 : Int32))), .val (.ref b2), .val (.ref b13), .val (.ref b16), .unset] [(.ref b16)])) rfl rfl (hb hby at_157) _ k) ?_
      rw [len_of sz17 nn17]
      show Go p e below (T16.setTop (mkF m 158 #[.val (.int p1), .val (.int p2), .val (.long p3), .second, .val (.int p4), .val (.int p5), .val (.ref (f_kindOf (p1 &&& (3 : Int32)) w_FILE w_DIRECTORY w_LINK w_OTHER)), .val (.ref b2), .val (.ref b3), .val (.int (p4.toInt8.toInt32)), .val (.int (((p4.toUInt32 >>> ((8 : Int32) &&& 31).toUInt32).toInt32).toInt8.toInt32)), .val (.int (((p4.toUInt32 >>> ((16 : Int32) &&& 31).toUInt32).toInt32).toInt8.toInt32)), .val (.int (p5 &&& (3 : Int32))), .val (.ref b2), .val (.ref b13), .val (.ref b16), .unset] [(.int (0 : Int32))])) _
      refine g_ifNo X16 hx (hb hby at_158) ((if0 _ _).trans (teq ((by decide) : (0 : Int32) = (0 : Int32))).2) ?_
      refine g_iconst X16 hx (1 : Int32) (hb hby at_161) (by decide) ?_
      refine g_goto X16 hx 166 (hb hby at_162) (by decide) (by decide) ?_
      exact own_retZ X16 hx hret hlk (hb hby at_166) (by decide) (by decide) (by decide) ⟨rfl, N16⟩
    · refine g_icmpYes X6 hx 83 (hb hby at_75) (feq c75_12).2 (by decide) (by decide) ?_
      refine g_aload X6 hx (hb hby at_83) rfl rfl ?_
      refine g_astore X6 hx #[.val (.int p1), .val (.int p2), .val (.long p3), .second, .val (.int p4), .val (.int p5), .val (.ref (f_kindOf (p1 &&& (3 : Int32)) w_FILE w_DIRECTORY w_LINK w_OTHER)), .val (.ref b2), .val (.ref b3), .val (.int (p4.toInt8.toInt32)), .val (.int (((p4.toUInt32 >>> ((8 : Int32) &&& 31).toUInt32).toInt32).toInt8.toInt32)), .val (.int (((p4.toUInt32 >>> ((16 : Int32) &&& 31).toUInt32).toInt32).toInt8.toInt32)), .val (.int (p5 &&& (3 : Int32))), .val (.ref b3), .unset, .unset, .unset] (hb hby at_85) rfl rfl ?_
      obtain ⟨T18, h18, X18, e18, E18, A18, D18, -, st18⟩ := newO X6 hx hZ hown (hw _ (List.mem_of_getElem? (i := 8) rfl)) (hw _ (List.mem_of_getElem? (i := 9) rfl)) (hw _ (List.mem_of_getElem? (i := 10) rfl)) e6 (g := (mkF m 87 #[.val (.int p1), .val (.int p2), .val (.long p3), .second, .val (.int p4), .val (.int p5), .val (.ref (f_kindOf (p1 &&& (3 : Int32)) w_FILE w_DIRECTORY w_LINK w_OTHER)), .val (.ref b2), .val (.ref b3), .val (.int (p4.toInt8.toInt32)), .val (.int (((p4.toUInt32 >>> ((8 : Int32) &&& 31).toUInt32).toInt32).toInt8.toInt32)), .val (.int (((p4.toUInt32 >>> ((16 : Int32) &&& 31).toUInt32).toInt32).toInt8.toInt32)), .val (.int (p5 &&& (3 : Int32))), .val (.ref b3), .unset, .unset, .unset] [])) rfl (hb hby at_87) (by decide) (by decide)
      obtain ⟨b18, g18⟩ : ∃ z, z = h6.size := ⟨_, rfl⟩
      rw [← g18] at A18 D18 st18
      have ne_b2_b18 : b2 ≠ b18 := Nat.ne_of_lt (Nat.lt_of_lt_of_le E_b2_6.lt (Nat.le_of_eq g18.symm))
      have ne_b3_b18 : b3 ≠ b18 := Nat.ne_of_lt (Nat.lt_of_lt_of_le E_b3_6.lt (Nat.le_of_eq g18.symm))
      have g_b18 : n0 ≤ b18 := Nat.le_trans Z6 (Nat.le_of_eq g18.symm)
      have Z18 : n0 ≤ h18.size := Nat.le_trans Z6 E18.1
      have E_b2_18 := Exa.ext E18 E_b2_6
      have V_b2_18 := Arv.ext V_b2_6 E18
      have E_b3_18 := Exa.ext E18 E_b3_6
      have V_b3_18 := Arv.ext V_b3_6 E18
      have F18_kind : Fld Z h18 b18 "com/example/rigging/rigging/Snapshot$Entry" "kind" "Lcom/example/rigging/rigging/Snapshot$Entry$Kind;" .null := D18 (Or.inr (hw _ (List.mem_of_getElem? (i := 18) rfl))) (ty := (FieldType.object "com/example/rigging/rigging/Snapshot$Entry$Kind")) (by decide)
      have F18_permissions : Fld Z h18 b18 "com/example/rigging/rigging/Snapshot$Entry" "permissions" "I" (.int (0 : Int32)) := D18 (Or.inr (hw _ (List.mem_of_getElem? (i := 20) rfl))) (ty := FieldType.int) (by decide)
      have F18_size : Fld Z h18 b18 "com/example/rigging/rigging/Snapshot$Entry" "size" "J" (.long (0 : Int64)) := D18 (Or.inr (hw _ (List.mem_of_getElem? (i := 22) rfl))) (ty := FieldType.long) (by decide)
      have F18_digest : Fld Z h18 b18 "com/example/rigging/rigging/Snapshot$Entry" "digest" "[B" .null := D18 (Or.inr (hw _ (List.mem_of_getElem? (i := 33) rfl))) (ty := (FieldType.array FieldType.byte)) (by decide)
      refine Go.mp st18 ?_
      show Go p e below (T18.setTop (mkF m 90 #[.val (.int p1), .val (.int p2), .val (.long p3), .second, .val (.int p4), .val (.int p5), .val (.ref (f_kindOf (p1 &&& (3 : Int32)) w_FILE w_DIRECTORY w_LINK w_OTHER)), .val (.ref b2), .val (.ref b3), .val (.int (p4.toInt8.toInt32)), .val (.int (((p4.toUInt32 >>> ((8 : Int32) &&& 31).toUInt32).toInt32).toInt8.toInt32)), .val (.int (((p4.toUInt32 >>> ((16 : Int32) &&& 31).toUInt32).toInt32).toInt8.toInt32)), .val (.int (p5 &&& (3 : Int32))), .val (.ref b3), .unset, .unset, .unset] [(.ref b18)])) _
      refine g_dup X18 hx (hb hby at_90) rfl ?_
      refine g_aload X18 hx (hb hby at_91) rfl rfl ?_
      refine g_iloadN X18 hx (hb hby at_93) rfl ?_
      refine g_lloadN X18 hx (hb hby at_94) rfl ?_
      refine g_aload X18 hx (hb hby at_95) rfl rfl ?_
      obtain ⟨v19, T19, L19, X19, q19, st19⟩ := own_callI X18 hx hZ (y := (⟨"com/example/rigging/rigging/Snapshot$Entry", "<init>", "(Lcom/example/rigging/rigging/Snapshot$Entry$Kind;IJ[B)V"⟩ : MethodName)) (pc := 97) (Ls := #[.val (.int p1), .val (.int p2), .val (.long p3), .second, .val (.int p4), .val (.int p5), .val (.ref (f_kindOf (p1 &&& (3 : Int32)) w_FILE w_DIRECTORY w_LINK w_OTHER)), .val (.ref b2), .val (.ref b3), .val (.int (p4.toInt8.toInt32)), .val (.int (((p4.toUInt32 >>> ((8 : Int32) &&& 31).toUInt32).toInt32).toInt8.toInt32)), .val (.int (((p4.toUInt32 >>> ((16 : Int32) &&& 31).toUInt32).toInt32).toInt8.toInt32)), .val (.int (p5 &&& (3 : Int32))), .val (.ref b3), .unset, .unset, .unset]) (st := [(.ref b3), (.long p3), (.int p2), (.ref (f_kindOf (p1 &&& (3 : Int32)) w_FILE w_DIRECTORY w_LINK w_OTHER)), (.ref b18), (.ref b18)]) hown (hw _ (List.mem_of_getElem? (i := 11) rfl)) (hw _ (List.mem_of_getElem? (i := 12) rfl)) (hw _ (List.mem_of_getElem? (i := 13) rfl)) (hw _ (List.mem_of_getElem? (i := 10) rfl)) rfl (by decide) (rm_init3 l Z a0 hw b18 (f_kindOf (p1 &&& (3 : Int32)) w_FILE w_DIRECTORY w_LINK w_OTHER) p2 p3 b3 _ _ h18 n0 Z18 A18 F18_kind F18_permissions F18_size F18_digest g_b18 V_b3_18 E_b3_18 ne_b3_b18) e18 pd_1 (hb hby at_97) (by rw [hml]; rfl) (argsL := [(.ref (f_kindOf (p1 &&& (3 : Int32)) w_FILE w_DIRECTORY w_LINK w_OTHER)), (.int p2), (.long p3), (.ref b3)]) (rest := [(.ref b18)]) rfl rfl rfl (W := 1) (Nat.le_of_eq rfl) (by decide) (by decide) (by decide) (by decide)
      obtain ⟨b19, rfl, M19, Kc19, sz19, Ff19, Vf19, Ef19⟩ := q19
      have N19 := Fr.app N6 M19
      have ne_b2_b19 : b2 ≠ b19 := Nat.ne_of_lt (Nat.lt_of_lt_of_le E_b2_18.lt sz19)
      have ne_b3_b19 : b3 ≠ b19 := Nat.ne_of_lt (Nat.lt_of_lt_of_le E_b3_18.lt sz19)
      have ne_b18_b19 : b18 ≠ b19 := Nat.ne_of_lt (Nat.lt_of_lt_of_le A18.lt sz19)
      have g_b19 : n0 ≤ b19 := Nat.le_trans Z18 sz19
      have E_b2_19 := Exa.keep E_b2_18 Kc19
      have V_b2_19 := Arv.keep V_b2_18 Kc19 (own_nin ne_b2_b18 List.not_mem_nil)
      have E_b3_19 := Exa.keep E_b3_18 Kc19
      have V_b3_19 := Arv.keep V_b3_18 Kc19 (own_nin ne_b3_b18 List.not_mem_nil)
      have E_b18_19 := Exa.keep A18 Kc19
      have Z19 : n0 ≤ T19.heap.size := Nat.le_trans Z18 Kc19.1
      refine Go.mp st19 ?_
      show Go p e below (T19.setTop (mkF m 100 #[.val (.int p1), .val (.int p2), .val (.long p3), .second, .val (.int p4), .val (.int p5), .val (.ref (f_kindOf (p1 &&& (3 : Int32)) w_FILE w_DIRECTORY w_LINK w_OTHER)), .val (.ref b2), .val (.ref b3), .val (.int (p4.toInt8.toInt32)), .val (.int (((p4.toUInt32 >>> ((8 : Int32) &&& 31).toUInt32).toInt32).toInt8.toInt32)), .val (.int (((p4.toUInt32 >>> ((16 : Int32) &&& 31).toUInt32).toInt32).toInt8.toInt32)), .val (.int (p5 &&& (3 : Int32))), .val (.ref b3), .unset, .unset, .unset] [(.ref b18)])) _
      refine g_astore X19 hx #[.val (.int p1), .val (.int p2), .val (.long p3), .second, .val (.int p4), .val (.int p5), .val (.ref (f_kindOf (p1 &&& (3 : Int32)) w_FILE w_DIRECTORY w_LINK w_OTHER)), .val (.ref b2), .val (.ref b3), .val (.int (p4.toInt8.toInt32)), .val (.int (((p4.toUInt32 >>> ((8 : Int32) &&& 31).toUInt32).toInt32).toInt8.toInt32)), .val (.int (((p4.toUInt32 >>> ((16 : Int32) &&& 31).toUInt32).toInt32).toInt8.toInt32)), .val (.int (p5 &&& (3 : Int32))), .val (.ref b3), .val (.ref b18), .unset, .unset] (hb hby at_100) rfl rfl ?_
      refine g_aload X19 hx (hb hby at_102) rfl rfl ?_
      refine Go.mp (fun _ k => XS.ifnonnullYes X19.here hx rfl (pc0 := 104) (pc' := 137) rfl (hb hby at_104) rfl (by decide) (by decide) k) ?_
      show Go p e below (T19.setTop (mkF m 137 #[.val (.int p1), .val (.int p2), .val (.long p3), .second, .val (.int p4), .val (.int p5), .val (.ref (f_kindOf (p1 &&& (3 : Int32)) w_FILE w_DIRECTORY w_LINK w_OTHER)), .val (.ref b2), .val (.ref b3), .val (.int (p4.toInt8.toInt32)), .val (.int (((p4.toUInt32 >>> ((8 : Int32) &&& 31).toUInt32).toInt32).toInt8.toInt32)), .val (.int (((p4.toUInt32 >>> ((16 : Int32) &&& 31).toUInt32).toInt32).toInt8.toInt32)), .val (.int (p5 &&& (3 : Int32))), .val (.ref b3), .val (.ref b18), .unset, .unset] [])) _
      refine g_iload X19 hx (hb hby at_137) rfl ?_
      refine g_iconst X19 hx (1 : Int32) (hb hby at_139) (by decide) ?_
      have c140_20 : ¬ ((p5 &&& (3 : Int32)) = (1 : Int32)) := c75_12
      refine g_icmpYes X19 hx 167 (hb hby at_140) (feq c140_20).2 (by decide) (by decide) ?_
      refine g_aload X19 hx (hb hby at_167) rfl rfl ?_
      refine g_iconst X19 hx (0 : Int32) (hb hby at_169) (by decide) ?_
      refine g_iload X19 hx (hb hby at_170) rfl ?_
      refine g_iconst X19 hx (-1 : Int32) (hb hby at_172) (by decide) ?_
      refine g_ixor X19 hx (hb hby at_173) ?_
      refine Go.mp (fun _ k => XS.i2b X19.here hx rfl (hb hby at_174) rfl k) ?_
      show Go p e below (T19.setTop (mkF m 175 #[.val (.int p1), .val (.int p2), .val (.long p3), .second, .val (.int p4), .val (.int p5), .val (.ref (f_kindOf (p1 &&& (3 : Int32)) w_FILE w_DIRECTORY w_LINK w_OTHER)), .val (.ref b2), .val (.ref b3), .val (.int (p4.toInt8.toInt32)), .val (.int (((p4.toUInt32 >>> ((8 : Int32) &&& 31).toUInt32).toInt32).toInt8.toInt32)), .val (.int (((p4.toUInt32 >>> ((16 : Int32) &&& 31).toUInt32).toInt32).toInt8.toInt32)), .val (.int (p5 &&& (3 : Int32))), .val (.ref b3), .val (.ref b18), .unset, .unset] [(.int (((p4.toInt8.toInt32) ^^^ (-1 : Int32)).toInt8.toInt32)), (.int (0 : Int32)), (.ref b3)])) _
      obtain ⟨cl21, Ar21, cq21, sz21, nn21, Ha21, Gf21⟩ := id V_b3_19
      have hin21 : ¬ ((0 : Int32) < 0 ∨ cl21.slots.size ≤ (0 : Int32).toNatClampNeg) := by rw [sz21]; decide
      obtain ⟨T21, h21, X21, e21, W21, st21⟩ := stB X19 hx hZ (rfl : T19.heap = T19.heap) Ar21 (j := 0) hin21 (g := (mkF m 175 #[.val (.int p1), .val (.int p2), .val (.long p3), .second, .val (.int p4), .val (.int p5), .val (.ref (f_kindOf (p1 &&& (3 : Int32)) w_FILE w_DIRECTORY w_LINK w_OTHER)), .val (.ref b2), .val (.ref b3), .val (.int (p4.toInt8.toInt32)), .val (.int (((p4.toUInt32 >>> ((8 : Int32) &&& 31).toUInt32).toInt32).toInt8.toInt32)), .val (.int (((p4.toUInt32 >>> ((16 : Int32) &&& 31).toUInt32).toInt32).toInt8.toInt32)), .val (.int (p5 &&& (3 : Int32))), .val (.ref b3), .val (.ref b18), .unset, .unset] [(.int (((p4.toInt8.toInt32) ^^^ (-1 : Int32)).toInt8.toInt32)), (.int (0 : Int32)), (.ref b3)])) rfl rfl (hb hby at_175)
      rw [show nar .byte (((p4.toInt8.toInt32) ^^^ (-1 : Int32)).toInt8.toInt32) = (((p4.toInt8.toInt32) ^^^ (-1 : Int32)).toInt8.toInt32) from own_b2 _] at W21
      have N21 := Fr.snoc X21 N19 g_b3
      have E_b2_21 := Exa.wr W21 E_b2_19
      have V_b2_21 := Arv.other V_b2_19 W21 ne_b2_b3
      have E_b3_21 := Exa.wr W21 E_b3_19
      have V_b3_21 := Arv.set Ar21 cq21 sz21 nn21 Ha21 Gf21 (v := (.int (((p4.toInt8.toInt32) ^^^ (-1 : Int32)).toInt8.toInt32))) (fits_nar_byte _) W21 0 (by decide) (by simp)
      have E_b18_21 := Exa.wr W21 E_b18_19
      have V_b19_21 := Arv.other Vf19 W21 (Ne.symm ne_b3_b19)
      have E_b19_21 := Exa.wr W21 Ef19
      have F_b18_digest_21 := Fld.other W21 Ff19 (Or.inl (Ne.symm ne_b3_b18))
      have Z21 : n0 ≤ h21.size := Nat.le_trans Z19 (Nat.le_of_eq W21.size.symm)
      refine Go.mp st21 ?_
      show Go p e below (T21.setTop (mkF m 176 #[.val (.int p1), .val (.int p2), .val (.long p3), .second, .val (.int p4), .val (.int p5), .val (.ref (f_kindOf (p1 &&& (3 : Int32)) w_FILE w_DIRECTORY w_LINK w_OTHER)), .val (.ref b2), .val (.ref b3), .val (.int (p4.toInt8.toInt32)), .val (.int (((p4.toUInt32 >>> ((8 : Int32) &&& 31).toUInt32).toInt32).toInt8.toInt32)), .val (.int (((p4.toUInt32 >>> ((16 : Int32) &&& 31).toUInt32).toInt32).toInt8.toInt32)), .val (.int (p5 &&& (3 : Int32))), .val (.ref b3), .val (.ref b18), .unset, .unset] [])) _
      refine g_aload X21 hx (hb hby at_176) rfl rfl ?_
      refine g_iconst X21 hx (1 : Int32) (hb hby at_178) (by decide) ?_
      refine g_iload X21 hx (hb hby at_179) rfl ?_
      refine g_iconst X21 hx (-1 : Int32) (hb hby at_181) (by decide) ?_
      refine g_ixor X21 hx (hb hby at_182) ?_
      refine Go.mp (fun _ k => XS.i2b X21.here hx rfl (hb hby at_183) rfl k) ?_
      show Go p e below (T21.setTop (mkF m 184 #[.val (.int p1), .val (.int p2), .val (.long p3), .second, .val (.int p4), .val (.int p5), .val (.ref (f_kindOf (p1 &&& (3 : Int32)) w_FILE w_DIRECTORY w_LINK w_OTHER)), .val (.ref b2), .val (.ref b3), .val (.int (p4.toInt8.toInt32)), .val (.int (((p4.toUInt32 >>> ((8 : Int32) &&& 31).toUInt32).toInt32).toInt8.toInt32)), .val (.int (((p4.toUInt32 >>> ((16 : Int32) &&& 31).toUInt32).toInt32).toInt8.toInt32)), .val (.int (p5 &&& (3 : Int32))), .val (.ref b3), .val (.ref b18), .unset, .unset] [(.int (((((p4.toUInt32 >>> ((8 : Int32) &&& 31).toUInt32).toInt32).toInt8.toInt32) ^^^ (-1 : Int32)).toInt8.toInt32)), (.int (1 : Int32)), (.ref b3)])) _
      obtain ⟨cl22, Ar22, cq22, sz22, nn22, Ha22, Gf22⟩ := id V_b3_21
      have hin22 : ¬ ((1 : Int32) < 0 ∨ cl22.slots.size ≤ (1 : Int32).toNatClampNeg) := by rw [sz22]; decide
      obtain ⟨T22, h22, X22, e22, W22, st22⟩ := stB X21 hx hZ e21 Ar22 (j := 1) hin22 (g := (mkF m 184 #[.val (.int p1), .val (.int p2), .val (.long p3), .second, .val (.int p4), .val (.int p5), .val (.ref (f_kindOf (p1 &&& (3 : Int32)) w_FILE w_DIRECTORY w_LINK w_OTHER)), .val (.ref b2), .val (.ref b3), .val (.int (p4.toInt8.toInt32)), .val (.int (((p4.toUInt32 >>> ((8 : Int32) &&& 31).toUInt32).toInt32).toInt8.toInt32)), .val (.int (((p4.toUInt32 >>> ((16 : Int32) &&& 31).toUInt32).toInt32).toInt8.toInt32)), .val (.int (p5 &&& (3 : Int32))), .val (.ref b3), .val (.ref b18), .unset, .unset] [(.int (((((p4.toUInt32 >>> ((8 : Int32) &&& 31).toUInt32).toInt32).toInt8.toInt32) ^^^ (-1 : Int32)).toInt8.toInt32)), (.int (1 : Int32)), (.ref b3)])) rfl rfl (hb hby at_184)
      rw [show nar .byte (((((p4.toUInt32 >>> ((8 : Int32) &&& 31).toUInt32).toInt32).toInt8.toInt32) ^^^ (-1 : Int32)).toInt8.toInt32) = (((((p4.toUInt32 >>> ((8 : Int32) &&& 31).toUInt32).toInt32).toInt8.toInt32) ^^^ (-1 : Int32)).toInt8.toInt32) from own_b2 _] at W22
      have N22 := Fr.snoc X22 N21 g_b3
      have E_b2_22 := Exa.wr W22 E_b2_21
      have V_b2_22 := Arv.other V_b2_21 W22 ne_b2_b3
      have E_b3_22 := Exa.wr W22 E_b3_21
      have V_b3_22 := Arv.set Ar22 cq22 sz22 nn22 Ha22 Gf22 (v := (.int (((((p4.toUInt32 >>> ((8 : Int32) &&& 31).toUInt32).toInt32).toInt8.toInt32) ^^^ (-1 : Int32)).toInt8.toInt32))) (fits_nar_byte _) W22 1 (by decide) (by simp)
      have E_b18_22 := Exa.wr W22 E_b18_21
      have V_b19_22 := Arv.other V_b19_21 W22 (Ne.symm ne_b3_b19)
      have E_b19_22 := Exa.wr W22 E_b19_21
      have F_b18_digest_22 := Fld.other W22 F_b18_digest_21 (Or.inl (Ne.symm ne_b3_b18))
      have Z22 : n0 ≤ h22.size := Nat.le_trans Z21 (Nat.le_of_eq W22.size.symm)
      refine Go.mp st22 ?_
      show Go p e below (T22.setTop (mkF m 185 #[.val (.int p1), .val (.int p2), .val (.long p3), .second, .val (.int p4), .val (.int p5), .val (.ref (f_kindOf (p1 &&& (3 : Int32)) w_FILE w_DIRECTORY w_LINK w_OTHER)), .val (.ref b2), .val (.ref b3), .val (.int (p4.toInt8.toInt32)), .val (.int (((p4.toUInt32 >>> ((8 : Int32) &&& 31).toUInt32).toInt32).toInt8.toInt32)), .val (.int (((p4.toUInt32 >>> ((16 : Int32) &&& 31).toUInt32).toInt32).toInt8.toInt32)), .val (.int (p5 &&& (3 : Int32))), .val (.ref b3), .val (.ref b18), .unset, .unset] [])) _
      refine g_aload X22 hx (hb hby at_185) rfl rfl ?_
      refine g_iconst X22 hx (2 : Int32) (hb hby at_187) (by decide) ?_
      refine g_iload X22 hx (hb hby at_188) rfl ?_
      refine g_iconst X22 hx (-1 : Int32) (hb hby at_190) (by decide) ?_
      refine g_ixor X22 hx (hb hby at_191) ?_
      refine Go.mp (fun _ k => XS.i2b X22.here hx rfl (hb hby at_192) rfl k) ?_
      show Go p e below (T22.setTop (mkF m 193 #[.val (.int p1), .val (.int p2), .val (.long p3), .second, .val (.int p4), .val (.int p5), .val (.ref (f_kindOf (p1 &&& (3 : Int32)) w_FILE w_DIRECTORY w_LINK w_OTHER)), .val (.ref b2), .val (.ref b3), .val (.int (p4.toInt8.toInt32)), .val (.int (((p4.toUInt32 >>> ((8 : Int32) &&& 31).toUInt32).toInt32).toInt8.toInt32)), .val (.int (((p4.toUInt32 >>> ((16 : Int32) &&& 31).toUInt32).toInt32).toInt8.toInt32)), .val (.int (p5 &&& (3 : Int32))), .val (.ref b3), .val (.ref b18), .unset, .unset] [(.int (((((p4.toUInt32 >>> ((16 : Int32) &&& 31).toUInt32).toInt32).toInt8.toInt32) ^^^ (-1 : Int32)).toInt8.toInt32)), (.int (2 : Int32)), (.ref b3)])) _
      obtain ⟨cl23, Ar23, cq23, sz23, nn23, Ha23, Gf23⟩ := id V_b3_22
      have hin23 : ¬ ((2 : Int32) < 0 ∨ cl23.slots.size ≤ (2 : Int32).toNatClampNeg) := by rw [sz23]; decide
      obtain ⟨T23, h23, X23, e23, W23, st23⟩ := stB X22 hx hZ e22 Ar23 (j := 2) hin23 (g := (mkF m 193 #[.val (.int p1), .val (.int p2), .val (.long p3), .second, .val (.int p4), .val (.int p5), .val (.ref (f_kindOf (p1 &&& (3 : Int32)) w_FILE w_DIRECTORY w_LINK w_OTHER)), .val (.ref b2), .val (.ref b3), .val (.int (p4.toInt8.toInt32)), .val (.int (((p4.toUInt32 >>> ((8 : Int32) &&& 31).toUInt32).toInt32).toInt8.toInt32)), .val (.int (((p4.toUInt32 >>> ((16 : Int32) &&& 31).toUInt32).toInt32).toInt8.toInt32)), .val (.int (p5 &&& (3 : Int32))), .val (.ref b3), .val (.ref b18), .unset, .unset] [(.int (((((p4.toUInt32 >>> ((16 : Int32) &&& 31).toUInt32).toInt32).toInt8.toInt32) ^^^ (-1 : Int32)).toInt8.toInt32)), (.int (2 : Int32)), (.ref b3)])) rfl rfl (hb hby at_193)
      rw [show nar .byte (((((p4.toUInt32 >>> ((16 : Int32) &&& 31).toUInt32).toInt32).toInt8.toInt32) ^^^ (-1 : Int32)).toInt8.toInt32) = (((((p4.toUInt32 >>> ((16 : Int32) &&& 31).toUInt32).toInt32).toInt8.toInt32) ^^^ (-1 : Int32)).toInt8.toInt32) from own_b2 _] at W23
      have N23 := Fr.snoc X23 N22 g_b3
      have E_b2_23 := Exa.wr W23 E_b2_22
      have V_b2_23 := Arv.other V_b2_22 W23 ne_b2_b3
      have E_b3_23 := Exa.wr W23 E_b3_22
      have V_b3_23 := Arv.set Ar23 cq23 sz23 nn23 Ha23 Gf23 (v := (.int (((((p4.toUInt32 >>> ((16 : Int32) &&& 31).toUInt32).toInt32).toInt8.toInt32) ^^^ (-1 : Int32)).toInt8.toInt32))) (fits_nar_byte _) W23 2 (by decide) (by simp)
      have E_b18_23 := Exa.wr W23 E_b18_22
      have V_b19_23 := Arv.other V_b19_22 W23 (Ne.symm ne_b3_b19)
      have E_b19_23 := Exa.wr W23 E_b19_22
      have F_b18_digest_23 := Fld.other W23 F_b18_digest_22 (Or.inl (Ne.symm ne_b3_b18))
      have Z23 : n0 ≤ h23.size := Nat.le_trans Z22 (Nat.le_of_eq W23.size.symm)
      refine Go.mp st23 ?_
      show Go p e below (T23.setTop (mkF m 194 #[.val (.int p1), .val (.int p2), .val (.long p3), .second, .val (.int p4), .val (.int p5), .val (.ref (f_kindOf (p1 &&& (3 : Int32)) w_FILE w_DIRECTORY w_LINK w_OTHER)), .val (.ref b2), .val (.ref b3), .val (.int (p4.toInt8.toInt32)), .val (.int (((p4.toUInt32 >>> ((8 : Int32) &&& 31).toUInt32).toInt32).toInt8.toInt32)), .val (.int (((p4.toUInt32 >>> ((16 : Int32) &&& 31).toUInt32).toInt32).toInt8.toInt32)), .val (.int (p5 &&& (3 : Int32))), .val (.ref b3), .val (.ref b18), .unset, .unset] [])) _
      refine g_aload X23 hx (hb hby at_194) rfl rfl ?_
      obtain ⟨v24, T24, L24, X24, q24, st24⟩ := own_callV X23 hx hZ (y := (⟨"com/example/rigging/rigging/Snapshot$Entry", "digest", "()[B"⟩ : MethodName)) (pc := 196) (Ls := #[.val (.int p1), .val (.int p2), .val (.long p3), .second, .val (.int p4), .val (.int p5), .val (.ref (f_kindOf (p1 &&& (3 : Int32)) w_FILE w_DIRECTORY w_LINK w_OTHER)), .val (.ref b2), .val (.ref b3), .val (.int (p4.toInt8.toInt32)), .val (.int (((p4.toUInt32 >>> ((8 : Int32) &&& 31).toUInt32).toInt32).toInt8.toInt32)), .val (.int (((p4.toUInt32 >>> ((16 : Int32) &&& 31).toUInt32).toInt32).toInt8.toInt32)), .val (.int (p5 &&& (3 : Int32))), .val (.ref b3), .val (.ref b18), .unset, .unset]) (st := [(.ref b18)]) hown (hw _ (List.mem_of_getElem? (i := 34) rfl)) (hw _ (List.mem_of_getElem? (i := 35) rfl)) (hw _ (List.mem_of_getElem? (i := 37) rfl)) (hw _ (List.mem_of_getElem? (i := 36) rfl)) (hw _ (List.mem_of_getElem? (i := 38) rfl)) (hw _ (List.mem_of_getElem? (i := 10) rfl)) (by decide) (rm_digest3 l Z a0 hw b18 b19 _ _ h23 n0 Z23 F_b18_digest_23 V_b19_23 E_b19_23) e23 E_b18_23 pd_2 (hb hby at_196) (by rw [hml]; rfl) (argsL := []) (rest := []) rfl rfl rfl (W := 0) (Nat.le_of_eq rfl) (by decide) (by decide) (by decide) (by decide)
      obtain ⟨b24, rfl, M24, Kc24, sz24, Vf24, Ef24⟩ := q24
      have N24 := Fr.app N23 M24
      have ne_b2_b24 : b2 ≠ b24 := Nat.ne_of_lt (Nat.lt_of_lt_of_le E_b2_23.lt sz24)
      have ne_b3_b24 : b3 ≠ b24 := Nat.ne_of_lt (Nat.lt_of_lt_of_le E_b3_23.lt sz24)
      have ne_b18_b24 : b18 ≠ b24 := Nat.ne_of_lt (Nat.lt_of_lt_of_le E_b18_23.lt sz24)
      have ne_b19_b24 : b19 ≠ b24 := Nat.ne_of_lt (Nat.lt_of_lt_of_le V_b19_23.lt sz24)
      have g_b24 : n0 ≤ b24 := Nat.le_trans Z23 sz24
      have E_b2_24 := Exa.keep E_b2_23 Kc24
      have V_b2_24 := Arv.keep V_b2_23 Kc24 List.not_mem_nil
      have E_b3_24 := Exa.keep E_b3_23 Kc24
      have V_b3_24 := Arv.keep V_b3_23 Kc24 List.not_mem_nil
      have E_b18_24 := Exa.keep E_b18_23 Kc24
      have V_b19_24 := Arv.keep V_b19_23 Kc24 List.not_mem_nil
      have E_b19_24 := Exa.keep E_b19_23 Kc24
      have F_b18_digest_24 := Fld.keep F_b18_digest_23 Kc24 List.not_mem_nil
      have Z24 : n0 ≤ T24.heap.size := Nat.le_trans Z23 Kc24.1
      refine Go.mp st24 ?_
      show Go p e below (T24.setTop (mkF m 199 #[.val (.int p1), .val (.int p2), .val (.long p3), .second, .val (.int p4), .val (.int p5), .val (.ref (f_kindOf (p1 &&& (3 : Int32)) w_FILE w_DIRECTORY w_LINK w_OTHER)), .val (.ref b2), .val (.ref b3), .val (.int (p4.toInt8.toInt32)), .val (.int (((p4.toUInt32 >>> ((8 : Int32) &&& 31).toUInt32).toInt32).toInt8.toInt32)), .val (.int (((p4.toUInt32 >>> ((16 : Int32) &&& 31).toUInt32).toInt32).toInt8.toInt32)), .val (.int (p5 &&& (3 : Int32))), .val (.ref b3), .val (.ref b18), .unset, .unset] [(.ref b24)])) _
      refine g_astore X24 hx #[.val (.int p1), .val (.int p2), .val (.long p3), .second, .val (.int p4), .val (.int p5), .val (.ref (f_kindOf (p1 &&& (3 : Int32)) w_FILE w_DIRECTORY w_LINK w_OTHER)), .val (.ref b2), .val (.ref b3), .val (.int (p4.toInt8.toInt32)), .val (.int (((p4.toUInt32 >>> ((8 : Int32) &&& 31).toUInt32).toInt32).toInt8.toInt32)), .val (.int (((p4.toUInt32 >>> ((16 : Int32) &&& 31).toUInt32).toInt32).toInt8.toInt32)), .val (.int (p5 &&& (3 : Int32))), .val (.ref b3), .val (.ref b18), .val (.ref b24), .unset] (hb hby at_199) rfl rfl ?_
      refine g_aload X24 hx (hb hby at_201) rfl rfl ?_
      refine Go.mp (fun _ k => XS.ifnullNo X24.here hx rfl (hb hby at_203) rfl k) ?_
      show Go p e below (T24.setTop (mkF m 206 #[.val (.int p1), .val (.int p2), .val (.long p3), .second, .val (.int p4), .val (.int p5), .val (.ref (f_kindOf (p1 &&& (3 : Int32)) w_FILE w_DIRECTORY w_LINK w_OTHER)), .val (.ref b2), .val (.ref b3), .val (.int (p4.toInt8.toInt32)), .val (.int (((p4.toUInt32 >>> ((8 : Int32) &&& 31).toUInt32).toInt32).toInt8.toInt32)), .val (.int (((p4.toUInt32 >>> ((16 : Int32) &&& 31).toUInt32).toInt32).toInt8.toInt32)), .val (.int (p5 &&& (3 : Int32))), .val (.ref b3), .val (.ref b18), .val (.ref b24), .unset] [])) _
      refine g_aload X24 hx (hb hby at_206) rfl rfl ?_
      refine g_aload X24 hx (hb hby at_208) rfl rfl ?_
      have c210_25 : ¬ (b24 = b3) := (Ne.symm ne_b3_b24)
      refine g_acmp X24 hx 213 false rfl rfl (hb hby at_210) (decide_eq_false fun q => c210_25 (Value.ref.inj q)) (by decide) (by decide) ?_
      refine g_aload X24 hx (hb hby at_213) rfl rfl ?_
      obtain ⟨cl26, Ar26, -, sz26, nn26, -, -⟩ := id Vf24
      refine Go.mp (fun _ k => X24.arraylength hx (by rw [(rfl : T24.heap = T24.heap)]; exact Ar26.1) (State.isArrayOf_alike hZ.alike Ar26.2.1) (g := (mkF m 215 #[.val (.int p1), .val (.int p2), .val (.long p3), .second, .val (.int p4), .val (.int p5), .val (.ref (f_kindOf (p1 &&& (3 : Int32)) w_FILE w_DIRECTORY w_LINK w_OTHER)), .val (.ref b2), .val (.ref b3), .val (.int (p4.toInt8.toInt32)), .val (.int (((p4.toUInt32 >>> ((8 : Int32) &&& 31).toUInt32).toInt32).toInt8.toInt32)), .val (.int (((p4.toUInt32 >>> ((16 : Int32) &&& 31).toUInt32).toInt32).toInt8.toInt32)), .val (.int (p5 &&& (3 : Int32))), .val (.ref b3), .val (.ref b18), .val (.ref b24), .unset] [(.ref b24)])) rfl rfl (hb hby at_215) _ k) ?_
      rw [len_of sz26 nn26]
      show Go p e below (T24.setTop (mkF m 216 #[.val (.int p1), .val (.int p2), .val (.long p3), .second, .val (.int p4), .val (.int p5), .val (.ref (f_kindOf (p1 &&& (3 : Int32)) w_FILE w_DIRECTORY w_LINK w_OTHER)), .val (.ref b2), .val (.ref b3), .val (.int (p4.toInt8.toInt32)), .val (.int (((p4.toUInt32 >>> ((8 : Int32) &&& 31).toUInt32).toInt32).toInt8.toInt32)), .val (.int (((p4.toUInt32 >>> ((16 : Int32) &&& 31).toUInt32).toInt32).toInt8.toInt32)), .val (.int (p5 &&& (3 : Int32))), .val (.ref b3), .val (.ref b18), .val (.ref b24), .unset] [(.int (3 : Int32))])) _
      refine g_iconst X24 hx (3 : Int32) (hb hby at_216) (by decide) ?_
      refine g_icmpYes X24 hx 222 (hb hby at_217) (teq ((by decide) : (3 : Int32) = (3 : Int32))).1 (by decide) (by decide) ?_
      refine g_aload X24 hx (hb hby at_222) rfl rfl ?_
      refine g_iconst X24 hx (0 : Int32) (hb hby at_224) (by decide) ?_
      obtain ⟨cl27, Ar27, -, sz27, -, Ha27, -⟩ := id Vf24
      have hin27 : ¬ ((0 : Int32) < 0 ∨ cl27.slots.size ≤ (0 : Int32).toNatClampNeg) := by rw [sz27]; decide
      have hat27 : cl27.slots[(0 : Int32).toNatClampNeg]? = some (.int (p4.toInt8.toInt32)) := Ha27 0 (by rw [sz27]; decide)
      refine Go.mp (fun _ k => X24.baloadBytes hx (j := 0) (v := (.int (p4.toInt8.toInt32))) (by rw [(rfl : T24.heap = T24.heap)]; exact Ar27.1) (State.isArrayOf_alike hZ.alike Ar27.2.1) Ar27.2.2 hin27 hat27 (g := (mkF m 225 #[.val (.int p1), .val (.int p2), .val (.long p3), .second, .val (.int p4), .val (.int p5), .val (.ref (f_kindOf (p1 &&& (3 : Int32)) w_FILE w_DIRECTORY w_LINK w_OTHER)), .val (.ref b2), .val (.ref b3), .val (.int (p4.toInt8.toInt32)), .val (.int (((p4.toUInt32 >>> ((8 : Int32) &&& 31).toUInt32).toInt32).toInt8.toInt32)), .val (.int (((p4.toUInt32 >>> ((16 : Int32) &&& 31).toUInt32).toInt32).toInt8.toInt32)), .val (.int (p5 &&& (3 : Int32))), .val (.ref b3), .val (.ref b18), .val (.ref b24), .unset] [(.int (0 : Int32)), (.ref b24)])) rfl rfl (hb hby at_225) _ k) ?_
      show Go p e below (T24.setTop (mkF m 226 #[.val (.int p1), .val (.int p2), .val (.long p3), .second, .val (.int p4), .val (.int p5), .val (.ref (f_kindOf (p1 &&& (3 : Int32)) w_FILE w_DIRECTORY w_LINK w_OTHER)), .val (.ref b2), .val (.ref b3), .val (.int (p4.toInt8.toInt32)), .val (.int (((p4.toUInt32 >>> ((8 : Int32) &&& 31).toUInt32).toInt32).toInt8.toInt32)), .val (.int (((p4.toUInt32 >>> ((16 : Int32) &&& 31).toUInt32).toInt32).toInt8.toInt32)), .val (.int (p5 &&& (3 : Int32))), .val (.ref b3), .val (.ref b18), .val (.ref b24), .unset] [(.int (p4.toInt8.toInt32))])) _
      refine g_iload X24 hx (hb hby at_226) rfl ?_
      refine g_icmpNo X24 hx (hb hby at_228) (teq (rfl : (p4.toInt8.toInt32) = (p4.toInt8.toInt32))).2 ?_
      refine g_aload X24 hx (hb hby at_231) rfl rfl ?_
      refine g_iconst X24 hx (1 : Int32) (hb hby at_233) (by decide) ?_
      obtain ⟨cl28, Ar28, -, sz28, -, Ha28, -⟩ := id Vf24
      have hin28 : ¬ ((1 : Int32) < 0 ∨ cl28.slots.size ≤ (1 : Int32).toNatClampNeg) := by rw [sz28]; decide
      have hat28 : cl28.slots[(1 : Int32).toNatClampNeg]? = some (.int (((p4.toUInt32 >>> ((8 : Int32) &&& 31).toUInt32).toInt32).toInt8.toInt32)) := Ha28 1 (by rw [sz28]; decide)
      refine Go.mp (fun _ k => X24.baloadBytes hx (j := 1) (v := (.int (((p4.toUInt32 >>> ((8 : Int32) &&& 31).toUInt32).toInt32).toInt8.toInt32))) (by rw [(rfl : T24.heap = T24.heap)]; exact Ar28.1) (State.isArrayOf_alike hZ.alike Ar28.2.1) Ar28.2.2 hin28 hat28 (g := (mkF m 234 #[.val (.int p1), .val (.int p2), .val (.long p3), .second, .val (.int p4), .val (.int p5), .val (.ref (f_kindOf (p1 &&& (3 : Int32)) w_FILE w_DIRECTORY w_LINK w_OTHER)), .val (.ref b2), .val (.ref b3), .val (.int (p4.toInt8.toInt32)), .val (.int (((p4.toUInt32 >>> ((8 : Int32) &&& 31).toUInt32).toInt32).toInt8.toInt32)), .val (.int (((p4.toUInt32 >>> ((16 : Int32) &&& 31).toUInt32).toInt32).toInt8.toInt32)), .val (.int (p5 &&& (3 : Int32))), .val (.ref b3), .val (.ref b18), .val (.ref b24), .unset] [(.int (1 : Int32)), (.ref b24)])) rfl rfl (hb hby at_234) _ k) ?_
      show Go p e below (T24.setTop (mkF m 235 #[.val (.int p1), .val (.int p2), .val (.long p3), .second, .val (.int p4), .val (.int p5), .val (.ref (f_kindOf (p1 &&& (3 : Int32)) w_FILE w_DIRECTORY w_LINK w_OTHER)), .val (.ref b2), .val (.ref b3), .val (.int (p4.toInt8.toInt32)), .val (.int (((p4.toUInt32 >>> ((8 : Int32) &&& 31).toUInt32).toInt32).toInt8.toInt32)), .val (.int (((p4.toUInt32 >>> ((16 : Int32) &&& 31).toUInt32).toInt32).toInt8.toInt32)), .val (.int (p5 &&& (3 : Int32))), .val (.ref b3), .val (.ref b18), .val (.ref b24), .unset] [(.int (((p4.toUInt32 >>> ((8 : Int32) &&& 31).toUInt32).toInt32).toInt8.toInt32))])) _
      refine g_iload X24 hx (hb hby at_235) rfl ?_
      refine g_icmpNo X24 hx (hb hby at_237) (teq (rfl : (((p4.toUInt32 >>> ((8 : Int32) &&& 31).toUInt32).toInt32).toInt8.toInt32) = (((p4.toUInt32 >>> ((8 : Int32) &&& 31).toUInt32).toInt32).toInt8.toInt32))).2 ?_
      refine g_aload X24 hx (hb hby at_240) rfl rfl ?_
      refine g_iconst X24 hx (2 : Int32) (hb hby at_242) (by decide) ?_
      obtain ⟨cl29, Ar29, -, sz29, -, Ha29, -⟩ := id Vf24
      have hin29 : ¬ ((2 : Int32) < 0 ∨ cl29.slots.size ≤ (2 : Int32).toNatClampNeg) := by rw [sz29]; decide
      have hat29 : cl29.slots[(2 : Int32).toNatClampNeg]? = some (.int (((p4.toUInt32 >>> ((16 : Int32) &&& 31).toUInt32).toInt32).toInt8.toInt32)) := Ha29 2 (by rw [sz29]; decide)
      refine Go.mp (fun _ k => X24.baloadBytes hx (j := 2) (v := (.int (((p4.toUInt32 >>> ((16 : Int32) &&& 31).toUInt32).toInt32).toInt8.toInt32))) (by rw [(rfl : T24.heap = T24.heap)]; exact Ar29.1) (State.isArrayOf_alike hZ.alike Ar29.2.1) Ar29.2.2 hin29 hat29 (g := (mkF m 243 #[.val (.int p1), .val (.int p2), .val (.long p3), .second, .val (.int p4), .val (.int p5), .val (.ref (f_kindOf (p1 &&& (3 : Int32)) w_FILE w_DIRECTORY w_LINK w_OTHER)), .val (.ref b2), .val (.ref b3), .val (.int (p4.toInt8.toInt32)), .val (.int (((p4.toUInt32 >>> ((8 : Int32) &&& 31).toUInt32).toInt32).toInt8.toInt32)), .val (.int (((p4.toUInt32 >>> ((16 : Int32) &&& 31).toUInt32).toInt32).toInt8.toInt32)), .val (.int (p5 &&& (3 : Int32))), .val (.ref b3), .val (.ref b18), .val (.ref b24), .unset] [(.int (2 : Int32)), (.ref b24)])) rfl rfl (hb hby at_243) _ k) ?_
      show Go p e below (T24.setTop (mkF m 244 #[.val (.int p1), .val (.int p2), .val (.long p3), .second, .val (.int p4), .val (.int p5), .val (.ref (f_kindOf (p1 &&& (3 : Int32)) w_FILE w_DIRECTORY w_LINK w_OTHER)), .val (.ref b2), .val (.ref b3), .val (.int (p4.toInt8.toInt32)), .val (.int (((p4.toUInt32 >>> ((8 : Int32) &&& 31).toUInt32).toInt32).toInt8.toInt32)), .val (.int (((p4.toUInt32 >>> ((16 : Int32) &&& 31).toUInt32).toInt32).toInt8.toInt32)), .val (.int (p5 &&& (3 : Int32))), .val (.ref b3), .val (.ref b18), .val (.ref b24), .unset] [(.int (((p4.toUInt32 >>> ((16 : Int32) &&& 31).toUInt32).toInt32).toInt8.toInt32))])) _
      refine g_iload X24 hx (hb hby at_244) rfl ?_
      refine g_icmpYes X24 hx 251 (hb hby at_246) (teq (rfl : (((p4.toUInt32 >>> ((16 : Int32) &&& 31).toUInt32).toInt32).toInt8.toInt32) = (((p4.toUInt32 >>> ((16 : Int32) &&& 31).toUInt32).toInt32).toInt8.toInt32))).1 (by decide) (by decide) ?_
      refine g_aload X24 hx (hb hby at_251) rfl rfl ?_
      refine g_iconst X24 hx (0 : Int32) (hb hby at_253) (by decide) ?_
      refine g_aload X24 hx (hb hby at_254) rfl rfl ?_
      refine g_iconst X24 hx (0 : Int32) (hb hby at_256) (by decide) ?_
      obtain ⟨cl30, Ar30, -, sz30, -, Ha30, -⟩ := id Vf24
      have hin30 : ¬ ((0 : Int32) < 0 ∨ cl30.slots.size ≤ (0 : Int32).toNatClampNeg) := by rw [sz30]; decide
      have hat30 : cl30.slots[(0 : Int32).toNatClampNeg]? = some (.int (p4.toInt8.toInt32)) := Ha30 0 (by rw [sz30]; decide)
      refine Go.mp (fun _ k => X24.baloadBytes hx (j := 0) (v := (.int (p4.toInt8.toInt32))) (by rw [(rfl : T24.heap = T24.heap)]; exact Ar30.1) (State.isArrayOf_alike hZ.alike Ar30.2.1) Ar30.2.2 hin30 hat30 (g := (mkF m 257 #[.val (.int p1), .val (.int p2), .val (.long p3), .second, .val (.int p4), .val (.int p5), .val (.ref (f_kindOf (p1 &&& (3 : Int32)) w_FILE w_DIRECTORY w_LINK w_OTHER)), .val (.ref b2), .val (.ref b3), .val (.int (p4.toInt8.toInt32)), .val (.int (((p4.toUInt32 >>> ((8 : Int32) &&& 31).toUInt32).toInt32).toInt8.toInt32)), .val (.int (((p4.toUInt32 >>> ((16 : Int32) &&& 31).toUInt32).toInt32).toInt8.toInt32)), .val (.int (p5 &&& (3 : Int32))), .val (.ref b3), .val (.ref b18), .val (.ref b24), .unset] [(.int (0 : Int32)), (.ref b24), (.int (0 : Int32)), (.ref b24)])) rfl rfl (hb hby at_257) _ k) ?_
      show Go p e below (T24.setTop (mkF m 258 #[.val (.int p1), .val (.int p2), .val (.long p3), .second, .val (.int p4), .val (.int p5), .val (.ref (f_kindOf (p1 &&& (3 : Int32)) w_FILE w_DIRECTORY w_LINK w_OTHER)), .val (.ref b2), .val (.ref b3), .val (.int (p4.toInt8.toInt32)), .val (.int (((p4.toUInt32 >>> ((8 : Int32) &&& 31).toUInt32).toInt32).toInt8.toInt32)), .val (.int (((p4.toUInt32 >>> ((16 : Int32) &&& 31).toUInt32).toInt32).toInt8.toInt32)), .val (.int (p5 &&& (3 : Int32))), .val (.ref b3), .val (.ref b18), .val (.ref b24), .unset] [(.int (p4.toInt8.toInt32)), (.int (0 : Int32)), (.ref b24)])) _
      refine g_iconst X24 hx (-1 : Int32) (hb hby at_258) (by decide) ?_
      refine g_ixor X24 hx (hb hby at_259) ?_
      refine Go.mp (fun _ k => XS.i2b X24.here hx rfl (hb hby at_260) rfl k) ?_
      show Go p e below (T24.setTop (mkF m 261 #[.val (.int p1), .val (.int p2), .val (.long p3), .second, .val (.int p4), .val (.int p5), .val (.ref (f_kindOf (p1 &&& (3 : Int32)) w_FILE w_DIRECTORY w_LINK w_OTHER)), .val (.ref b2), .val (.ref b3), .val (.int (p4.toInt8.toInt32)), .val (.int (((p4.toUInt32 >>> ((8 : Int32) &&& 31).toUInt32).toInt32).toInt8.toInt32)), .val (.int (((p4.toUInt32 >>> ((16 : Int32) &&& 31).toUInt32).toInt32).toInt8.toInt32)), .val (.int (p5 &&& (3 : Int32))), .val (.ref b3), .val (.ref b18), .val (.ref b24), .unset] [(.int (((p4.toInt8.toInt32) ^^^ (-1 : Int32)).toInt8.toInt32)), (.int (0 : Int32)), (.ref b24)])) _
      obtain ⟨cl31, Ar31, cq31, sz31, nn31, Ha31, Gf31⟩ := id Vf24
      have hin31 : ¬ ((0 : Int32) < 0 ∨ cl31.slots.size ≤ (0 : Int32).toNatClampNeg) := by rw [sz31]; decide
      obtain ⟨T31, h31, X31, e31, W31, st31⟩ := stB X24 hx hZ (rfl : T24.heap = T24.heap) Ar31 (j := 0) hin31 (g := (mkF m 261 #[.val (.int p1), .val (.int p2), .val (.long p3), .second, .val (.int p4), .val (.int p5), .val (.ref (f_kindOf (p1 &&& (3 : Int32)) w_FILE w_DIRECTORY w_LINK w_OTHER)), .val (.ref b2), .val (.ref b3), .val (.int (p4.toInt8.toInt32)), .val (.int (((p4.toUInt32 >>> ((8 : Int32) &&& 31).toUInt32).toInt32).toInt8.toInt32)), .val (.int (((p4.toUInt32 >>> ((16 : Int32) &&& 31).toUInt32).toInt32).toInt8.toInt32)), .val (.int (p5 &&& (3 : Int32))), .val (.ref b3), .val (.ref b18), .val (.ref b24), .unset] [(.int (((p4.toInt8.toInt32) ^^^ (-1 : Int32)).toInt8.toInt32)), (.int (0 : Int32)), (.ref b24)])) rfl rfl (hb hby at_261)
      rw [show nar .byte (((p4.toInt8.toInt32) ^^^ (-1 : Int32)).toInt8.toInt32) = (((p4.toInt8.toInt32) ^^^ (-1 : Int32)).toInt8.toInt32) from own_b2 _] at W31
      have N31 := Fr.snoc X31 N24 g_b24
      have E_b2_31 := Exa.wr W31 E_b2_24
      have V_b2_31 := Arv.other V_b2_24 W31 ne_b2_b24
      have E_b3_31 := Exa.wr W31 E_b3_24
      have V_b3_31 := Arv.other V_b3_24 W31 ne_b3_b24
      have E_b18_31 := Exa.wr W31 E_b18_24
      have V_b19_31 := Arv.other V_b19_24 W31 ne_b19_b24
      have E_b19_31 := Exa.wr W31 E_b19_24
      have F_b18_digest_31 := Fld.other W31 F_b18_digest_24 (Or.inl ne_b18_b24)
      have V_b24_31 := Arv.set Ar31 cq31 sz31 nn31 Ha31 Gf31 (v := (.int (((p4.toInt8.toInt32) ^^^ (-1 : Int32)).toInt8.toInt32))) (fits_nar_byte _) W31 0 (by decide) (by simp)
      have E_b24_31 := Exa.wr W31 Ef24
      have Z31 : n0 ≤ h31.size := Nat.le_trans Z24 (Nat.le_of_eq W31.size.symm)
      refine Go.mp st31 ?_
      show Go p e below (T31.setTop (mkF m 262 #[.val (.int p1), .val (.int p2), .val (.long p3), .second, .val (.int p4), .val (.int p5), .val (.ref (f_kindOf (p1 &&& (3 : Int32)) w_FILE w_DIRECTORY w_LINK w_OTHER)), .val (.ref b2), .val (.ref b3), .val (.int (p4.toInt8.toInt32)), .val (.int (((p4.toUInt32 >>> ((8 : Int32) &&& 31).toUInt32).toInt32).toInt8.toInt32)), .val (.int (((p4.toUInt32 >>> ((16 : Int32) &&& 31).toUInt32).toInt32).toInt8.toInt32)), .val (.int (p5 &&& (3 : Int32))), .val (.ref b3), .val (.ref b18), .val (.ref b24), .unset] [])) _
      refine g_aload X31 hx (hb hby at_262) rfl rfl ?_
      refine g_iconst X31 hx (1 : Int32) (hb hby at_264) (by decide) ?_
      refine g_aload X31 hx (hb hby at_265) rfl rfl ?_
      refine g_iconst X31 hx (1 : Int32) (hb hby at_267) (by decide) ?_
      obtain ⟨cl32, Ar32, -, sz32, -, Ha32, -⟩ := id V_b24_31
      have hin32 : ¬ ((1 : Int32) < 0 ∨ cl32.slots.size ≤ (1 : Int32).toNatClampNeg) := by rw [sz32]; decide
      have hat32 : cl32.slots[(1 : Int32).toNatClampNeg]? = some (.int (((p4.toUInt32 >>> ((8 : Int32) &&& 31).toUInt32).toInt32).toInt8.toInt32)) := Ha32 1 (by rw [sz32]; decide)
      refine Go.mp (fun _ k => X31.baloadBytes hx (j := 1) (v := (.int (((p4.toUInt32 >>> ((8 : Int32) &&& 31).toUInt32).toInt32).toInt8.toInt32))) (by rw [e31]; exact Ar32.1) (State.isArrayOf_alike hZ.alike Ar32.2.1) Ar32.2.2 hin32 hat32 (g := (mkF m 268 #[.val (.int p1), .val (.int p2), .val (.long p3), .second, .val (.int p4), .val (.int p5), .val (.ref (f_kindOf (p1 &&& (3 : Int32)) w_FILE w_DIRECTORY w_LINK w_OTHER)), .val (.ref b2), .val (.ref b3), .val (.int (p4.toInt8.toInt32)), .val (.int (((p4.toUInt32 >>> ((8 : Int32) &&& 31).toUInt32).toInt32).toInt8.toInt32)), .val (.int (((p4.toUInt32 >>> ((16 : Int32) &&& 31).toUInt32).toInt32).toInt8.toInt32)), .val (.int (p5 &&& (3 : Int32))), .val (.ref b3), .val (.ref b18), .val (.ref b24), .unset] [(.int (1 : Int32)), (.ref b24), (.int (1 : Int32)), (.ref b24)])) rfl rfl (hb hby at_268) _ k) ?_
      show Go p e below (T31.setTop (mkF m 269 #[.val (.int p1), .val (.int p2), .val (.long p3), .second, .val (.int p4), .val (.int p5), .val (.ref (f_kindOf (p1 &&& (3 : Int32)) w_FILE w_DIRECTORY w_LINK w_OTHER)), .val (.ref b2), .val (.ref b3), .val (.int (p4.toInt8.toInt32)), .val (.int (((p4.toUInt32 >>> ((8 : Int32) &&& 31).toUInt32).toInt32).toInt8.toInt32)), .val (.int (((p4.toUInt32 >>> ((16 : Int32) &&& 31).toUInt32).toInt32).toInt8.toInt32)), .val (.int (p5 &&& (3 : Int32))), .val (.ref b3), .val (.ref b18), .val (.ref b24), .unset] [(.int (((p4.toUInt32 >>> ((8 : Int32) &&& 31).toUInt32).toInt32).toInt8.toInt32)), (.int (1 : Int32)), (.ref b24)])) _
      refine g_iconst X31 hx (-1 : Int32) (hb hby at_269) (by decide) ?_
      refine g_ixor X31 hx (hb hby at_270) ?_
      refine Go.mp (fun _ k => XS.i2b X31.here hx rfl (hb hby at_271) rfl k) ?_
      show Go p e below (T31.setTop (mkF m 272 #[.val (.int p1), .val (.int p2), .val (.long p3), .second, .val (.int p4), .val (.int p5), .val (.ref (f_kindOf (p1 &&& (3 : Int32)) w_FILE w_DIRECTORY w_LINK w_OTHER)), .val (.ref b2), .val (.ref b3), .val (.int (p4.toInt8.toInt32)), .val (.int (((p4.toUInt32 >>> ((8 : Int32) &&& 31).toUInt32).toInt32).toInt8.toInt32)), .val (.int (((p4.toUInt32 >>> ((16 : Int32) &&& 31).toUInt32).toInt32).toInt8.toInt32)), .val (.int (p5 &&& (3 : Int32))), .val (.ref b3), .val (.ref b18), .val (.ref b24), .unset] [(.int (((((p4.toUInt32 >>> ((8 : Int32) &&& 31).toUInt32).toInt32).toInt8.toInt32) ^^^ (-1 : Int32)).toInt8.toInt32)), (.int (1 : Int32)), (.ref b24)])) _
      obtain ⟨cl33, Ar33, cq33, sz33, nn33, Ha33, Gf33⟩ := id V_b24_31
      have hin33 : ¬ ((1 : Int32) < 0 ∨ cl33.slots.size ≤ (1 : Int32).toNatClampNeg) := by rw [sz33]; decide
      obtain ⟨T33, h33, X33, e33, W33, st33⟩ := stB X31 hx hZ e31 Ar33 (j := 1) hin33 (g := (mkF m 272 #[.val (.int p1), .val (.int p2), .val (.long p3), .second, .val (.int p4), .val (.int p5), .val (.ref (f_kindOf (p1 &&& (3 : Int32)) w_FILE w_DIRECTORY w_LINK w_OTHER)), .val (.ref b2), .val (.ref b3), .val (.int (p4.toInt8.toInt32)), .val (.int (((p4.toUInt32 >>> ((8 : Int32) &&& 31).toUInt32).toInt32).toInt8.toInt32)), .val (.int (((p4.toUInt32 >>> ((16 : Int32) &&& 31).toUInt32).toInt32).toInt8.toInt32)), .val (.int (p5 &&& (3 : Int32))), .val (.ref b3), .val (.ref b18), .val (.ref b24), .unset] [(.int (((((p4.toUInt32 >>> ((8 : Int32) &&& 31).toUInt32).toInt32).toInt8.toInt32) ^^^ (-1 : Int32)).toInt8.toInt32)), (.int (1 : Int32)), (.ref b24)])) rfl rfl (hb hby at_272)
      rw [show nar .byte (((((p4.toUInt32 >>> ((8 : Int32) &&& 31).toUInt32).toInt32).toInt8.toInt32) ^^^ (-1 : Int32)).toInt8.toInt32) = (((((p4.toUInt32 >>> ((8 : Int32) &&& 31).toUInt32).toInt32).toInt8.toInt32) ^^^ (-1 : Int32)).toInt8.toInt32) from own_b2 _] at W33
      have N33 := Fr.snoc X33 N31 g_b24
      have E_b2_33 := Exa.wr W33 E_b2_31
      have V_b2_33 := Arv.other V_b2_31 W33 ne_b2_b24
      have E_b3_33 := Exa.wr W33 E_b3_31
      have V_b3_33 := Arv.other V_b3_31 W33 ne_b3_b24
      have E_b18_33 := Exa.wr W33 E_b18_31
      have V_b19_33 := Arv.other V_b19_31 W33 ne_b19_b24
      have E_b19_33 := Exa.wr W33 E_b19_31
      have F_b18_digest_33 := Fld.other W33 F_b18_digest_31 (Or.inl ne_b18_b24)
      have V_b24_33 := Arv.set Ar33 cq33 sz33 nn33 Ha33 Gf33 (v := (.int (((((p4.toUInt32 >>> ((8 : Int32) &&& 31).toUInt32).toInt32).toInt8.toInt32) ^^^ (-1 : Int32)).toInt8.toInt32))) (fits_nar_byte _) W33 1 (by decide) (by simp)
      have E_b24_33 := Exa.wr W33 E_b24_31
      have Z33 : n0 ≤ h33.size := Nat.le_trans Z31 (Nat.le_of_eq W33.size.symm)
      refine Go.mp st33 ?_
      show Go p e below (T33.setTop (mkF m 273 #[.val (.int p1), .val (.int p2), .val (.long p3), .second, .val (.int p4), .val (.int p5), .val (.ref (f_kindOf (p1 &&& (3 : Int32)) w_FILE w_DIRECTORY w_LINK w_OTHER)), .val (.ref b2), .val (.ref b3), .val (.int (p4.toInt8.toInt32)), .val (.int (((p4.toUInt32 >>> ((8 : Int32) &&& 31).toUInt32).toInt32).toInt8.toInt32)), .val (.int (((p4.toUInt32 >>> ((16 : Int32) &&& 31).toUInt32).toInt32).toInt8.toInt32)), .val (.int (p5 &&& (3 : Int32))), .val (.ref b3), .val (.ref b18), .val (.ref b24), .unset] [])) _
      refine g_aload X33 hx (hb hby at_273) rfl rfl ?_
      refine g_iconst X33 hx (2 : Int32) (hb hby at_275) (by decide) ?_
      refine g_aload X33 hx (hb hby at_276) rfl rfl ?_
      refine g_iconst X33 hx (2 : Int32) (hb hby at_278) (by decide) ?_
      obtain ⟨cl34, Ar34, -, sz34, -, Ha34, -⟩ := id V_b24_33
      have hin34 : ¬ ((2 : Int32) < 0 ∨ cl34.slots.size ≤ (2 : Int32).toNatClampNeg) := by rw [sz34]; decide
      have hat34 : cl34.slots[(2 : Int32).toNatClampNeg]? = some (.int (((p4.toUInt32 >>> ((16 : Int32) &&& 31).toUInt32).toInt32).toInt8.toInt32)) := Ha34 2 (by rw [sz34]; decide)
      refine Go.mp (fun _ k => X33.baloadBytes hx (j := 2) (v := (.int (((p4.toUInt32 >>> ((16 : Int32) &&& 31).toUInt32).toInt32).toInt8.toInt32))) (by rw [e33]; exact Ar34.1) (State.isArrayOf_alike hZ.alike Ar34.2.1) Ar34.2.2 hin34 hat34 (g := (mkF m 279 #[.val (.int p1), .val (.int p2), .val (.long p3), .second, .val (.int p4), .val (.int p5), .val (.ref (f_kindOf (p1 &&& (3 : Int32)) w_FILE w_DIRECTORY w_LINK w_OTHER)), .val (.ref b2), .val (.ref b3), .val (.int (p4.toInt8.toInt32)), .val (.int (((p4.toUInt32 >>> ((8 : Int32) &&& 31).toUInt32).toInt32).toInt8.toInt32)), .val (.int (((p4.toUInt32 >>> ((16 : Int32) &&& 31).toUInt32).toInt32).toInt8.toInt32)), .val (.int (p5 &&& (3 : Int32))), .val (.ref b3), .val (.ref b18), .val (.ref b24), .unset] [(.int (2 : Int32)), (.ref b24), (.int (2 : Int32)), (.ref b24)])) rfl rfl (hb hby at_279) _ k) ?_
      show Go p e below (T33.setTop (mkF m 280 #[.val (.int p1), .val (.int p2), .val (.long p3), .second, .val (.int p4), .val (.int p5), .val (.ref (f_kindOf (p1 &&& (3 : Int32)) w_FILE w_DIRECTORY w_LINK w_OTHER)), .val (.ref b2), .val (.ref b3), .val (.int (p4.toInt8.toInt32)), .val (.int (((p4.toUInt32 >>> ((8 : Int32) &&& 31).toUInt32).toInt32).toInt8.toInt32)), .val (.int (((p4.toUInt32 >>> ((16 : Int32) &&& 31).toUInt32).toInt32).toInt8.toInt32)), .val (.int (p5 &&& (3 : Int32))), .val (.ref b3), .val (.ref b18), .val (.ref b24), .unset] [(.int (((p4.toUInt32 >>> ((16 : Int32) &&& 31).toUInt32).toInt32).toInt8.toInt32)), (.int (2 : Int32)), (.ref b24)])) _
      refine g_iconst X33 hx (-1 : Int32) (hb hby at_280) (by decide) ?_
      refine g_ixor X33 hx (hb hby at_281) ?_
      refine Go.mp (fun _ k => XS.i2b X33.here hx rfl (hb hby at_282) rfl k) ?_
      show Go p e below (T33.setTop (mkF m 283 #[.val (.int p1), .val (.int p2), .val (.long p3), .second, .val (.int p4), .val (.int p5), .val (.ref (f_kindOf (p1 &&& (3 : Int32)) w_FILE w_DIRECTORY w_LINK w_OTHER)), .val (.ref b2), .val (.ref b3), .val (.int (p4.toInt8.toInt32)), .val (.int (((p4.toUInt32 >>> ((8 : Int32) &&& 31).toUInt32).toInt32).toInt8.toInt32)), .val (.int (((p4.toUInt32 >>> ((16 : Int32) &&& 31).toUInt32).toInt32).toInt8.toInt32)), .val (.int (p5 &&& (3 : Int32))), .val (.ref b3), .val (.ref b18), .val (.ref b24), .unset] [(.int (((((p4.toUInt32 >>> ((16 : Int32) &&& 31).toUInt32).toInt32).toInt8.toInt32) ^^^ (-1 : Int32)).toInt8.toInt32)), (.int (2 : Int32)), (.ref b24)])) _
      obtain ⟨cl35, Ar35, cq35, sz35, nn35, Ha35, Gf35⟩ := id V_b24_33
      have hin35 : ¬ ((2 : Int32) < 0 ∨ cl35.slots.size ≤ (2 : Int32).toNatClampNeg) := by rw [sz35]; decide
      obtain ⟨T35, h35, X35, e35, W35, st35⟩ := stB X33 hx hZ e33 Ar35 (j := 2) hin35 (g := (mkF m 283 #[.val (.int p1), .val (.int p2), .val (.long p3), .second, .val (.int p4), .val (.int p5), .val (.ref (f_kindOf (p1 &&& (3 : Int32)) w_FILE w_DIRECTORY w_LINK w_OTHER)), .val (.ref b2), .val (.ref b3), .val (.int (p4.toInt8.toInt32)), .val (.int (((p4.toUInt32 >>> ((8 : Int32) &&& 31).toUInt32).toInt32).toInt8.toInt32)), .val (.int (((p4.toUInt32 >>> ((16 : Int32) &&& 31).toUInt32).toInt32).toInt8.toInt32)), .val (.int (p5 &&& (3 : Int32))), .val (.ref b3), .val (.ref b18), .val (.ref b24), .unset] [(.int (((((p4.toUInt32 >>> ((16 : Int32) &&& 31).toUInt32).toInt32).toInt8.toInt32) ^^^ (-1 : Int32)).toInt8.toInt32)), (.int (2 : Int32)), (.ref b24)])) rfl rfl (hb hby at_283)
      rw [show nar .byte (((((p4.toUInt32 >>> ((16 : Int32) &&& 31).toUInt32).toInt32).toInt8.toInt32) ^^^ (-1 : Int32)).toInt8.toInt32) = (((((p4.toUInt32 >>> ((16 : Int32) &&& 31).toUInt32).toInt32).toInt8.toInt32) ^^^ (-1 : Int32)).toInt8.toInt32) from own_b2 _] at W35
      have N35 := Fr.snoc X35 N33 g_b24
      have E_b2_35 := Exa.wr W35 E_b2_33
      have V_b2_35 := Arv.other V_b2_33 W35 ne_b2_b24
      have E_b3_35 := Exa.wr W35 E_b3_33
      have V_b3_35 := Arv.other V_b3_33 W35 ne_b3_b24
      have E_b18_35 := Exa.wr W35 E_b18_33
      have V_b19_35 := Arv.other V_b19_33 W35 ne_b19_b24
      have E_b19_35 := Exa.wr W35 E_b19_33
      have F_b18_digest_35 := Fld.other W35 F_b18_digest_33 (Or.inl ne_b18_b24)
      have V_b24_35 := Arv.set Ar35 cq35 sz35 nn35 Ha35 Gf35 (v := (.int (((((p4.toUInt32 >>> ((16 : Int32) &&& 31).toUInt32).toInt32).toInt8.toInt32) ^^^ (-1 : Int32)).toInt8.toInt32))) (fits_nar_byte _) W35 2 (by decide) (by simp)
      have E_b24_35 := Exa.wr W35 E_b24_33
      have Z35 : n0 ≤ h35.size := Nat.le_trans Z33 (Nat.le_of_eq W35.size.symm)
      refine Go.mp st35 ?_
      show Go p e below (T35.setTop (mkF m 284 #[.val (.int p1), .val (.int p2), .val (.long p3), .second, .val (.int p4), .val (.int p5), .val (.ref (f_kindOf (p1 &&& (3 : Int32)) w_FILE w_DIRECTORY w_LINK w_OTHER)), .val (.ref b2), .val (.ref b3), .val (.int (p4.toInt8.toInt32)), .val (.int (((p4.toUInt32 >>> ((8 : Int32) &&& 31).toUInt32).toInt32).toInt8.toInt32)), .val (.int (((p4.toUInt32 >>> ((16 : Int32) &&& 31).toUInt32).toInt32).toInt8.toInt32)), .val (.int (p5 &&& (3 : Int32))), .val (.ref b3), .val (.ref b18), .val (.ref b24), .unset] [])) _
      refine g_aload X35 hx (hb hby at_284) rfl rfl ?_
      obtain ⟨v36, T36, L36, X36, q36, st36⟩ := own_callV X35 hx hZ (y := (⟨"com/example/rigging/rigging/Snapshot$Entry", "digest", "()[B"⟩ : MethodName)) (pc := 286) (Ls := #[.val (.int p1), .val (.int p2), .val (.long p3), .second, .val (.int p4), .val (.int p5), .val (.ref (f_kindOf (p1 &&& (3 : Int32)) w_FILE w_DIRECTORY w_LINK w_OTHER)), .val (.ref b2), .val (.ref b3), .val (.int (p4.toInt8.toInt32)), .val (.int (((p4.toUInt32 >>> ((8 : Int32) &&& 31).toUInt32).toInt32).toInt8.toInt32)), .val (.int (((p4.toUInt32 >>> ((16 : Int32) &&& 31).toUInt32).toInt32).toInt8.toInt32)), .val (.int (p5 &&& (3 : Int32))), .val (.ref b3), .val (.ref b18), .val (.ref b24), .unset]) (st := [(.ref b18)]) hown (hw _ (List.mem_of_getElem? (i := 34) rfl)) (hw _ (List.mem_of_getElem? (i := 35) rfl)) (hw _ (List.mem_of_getElem? (i := 37) rfl)) (hw _ (List.mem_of_getElem? (i := 36) rfl)) (hw _ (List.mem_of_getElem? (i := 38) rfl)) (hw _ (List.mem_of_getElem? (i := 10) rfl)) (by decide) (rm_digest3 l Z a0 hw b18 b19 _ _ h35 n0 Z35 F_b18_digest_35 V_b19_35 E_b19_35) e35 E_b18_35 pd_2 (hb hby at_286) (by rw [hml]; rfl) (argsL := []) (rest := []) rfl rfl rfl (W := 0) (Nat.le_of_eq rfl) (by decide) (by decide) (by decide) (by decide)
      obtain ⟨b36, rfl, M36, Kc36, sz36, Vf36, Ef36⟩ := q36
      have N36 := Fr.app N35 M36
      have ne_b2_b36 : b2 ≠ b36 := Nat.ne_of_lt (Nat.lt_of_lt_of_le E_b2_35.lt sz36)
      have ne_b3_b36 : b3 ≠ b36 := Nat.ne_of_lt (Nat.lt_of_lt_of_le E_b3_35.lt sz36)
      have ne_b18_b36 : b18 ≠ b36 := Nat.ne_of_lt (Nat.lt_of_lt_of_le E_b18_35.lt sz36)
      have ne_b19_b36 : b19 ≠ b36 := Nat.ne_of_lt (Nat.lt_of_lt_of_le V_b19_35.lt sz36)
      have ne_b24_b36 : b24 ≠ b36 := Nat.ne_of_lt (Nat.lt_of_lt_of_le V_b24_35.lt sz36)
      have g_b36 : n0 ≤ b36 := Nat.le_trans Z35 sz36
      have E_b2_36 := Exa.keep E_b2_35 Kc36
      have V_b2_36 := Arv.keep V_b2_35 Kc36 List.not_mem_nil
      have E_b3_36 := Exa.keep E_b3_35 Kc36
      have V_b3_36 := Arv.keep V_b3_35 Kc36 List.not_mem_nil
      have E_b18_36 := Exa.keep E_b18_35 Kc36
      have V_b19_36 := Arv.keep V_b19_35 Kc36 List.not_mem_nil
      have E_b19_36 := Exa.keep E_b19_35 Kc36
      have F_b18_digest_36 := Fld.keep F_b18_digest_35 Kc36 List.not_mem_nil
      have V_b24_36 := Arv.keep V_b24_35 Kc36 List.not_mem_nil
      have E_b24_36 := Exa.keep E_b24_35 Kc36
      have Z36 : n0 ≤ T36.heap.size := Nat.le_trans Z35 Kc36.1
      refine Go.mp st36 ?_
      show Go p e below (T36.setTop (mkF m 289 #[.val (.int p1), .val (.int p2), .val (.long p3), .second, .val (.int p4), .val (.int p5), .val (.ref (f_kindOf (p1 &&& (3 : Int32)) w_FILE w_DIRECTORY w_LINK w_OTHER)), .val (.ref b2), .val (.ref b3), .val (.int (p4.toInt8.toInt32)), .val (.int (((p4.toUInt32 >>> ((8 : Int32) &&& 31).toUInt32).toInt32).toInt8.toInt32)), .val (.int (((p4.toUInt32 >>> ((16 : Int32) &&& 31).toUInt32).toInt32).toInt8.toInt32)), .val (.int (p5 &&& (3 : Int32))), .val (.ref b3), .val (.ref b18), .val (.ref b24), .unset] [(.ref b36)])) _
      refine g_astore X36 hx #[.val (.int p1), .val (.int p2), .val (.long p3), .second, .val (.int p4), .val (.int p5), .val (.ref (f_kindOf (p1 &&& (3 : Int32)) w_FILE w_DIRECTORY w_LINK w_OTHER)), .val (.ref b2), .val (.ref b3), .val (.int (p4.toInt8.toInt32)), .val (.int (((p4.toUInt32 >>> ((8 : Int32) &&& 31).toUInt32).toInt32).toInt8.toInt32)), .val (.int (((p4.toUInt32 >>> ((16 : Int32) &&& 31).toUInt32).toInt32).toInt8.toInt32)), .val (.int (p5 &&& (3 : Int32))), .val (.ref b3), .val (.ref b18), .val (.ref b24), .val (.ref b36)] (hb hby at_289) rfl rfl ?_
      refine g_aload X36 hx (hb hby at_291) rfl rfl ?_
      refine Go.mp (fun _ k => XS.ifnullNo X36.here hx rfl (hb hby at_293) rfl k) ?_
      show Go p e below (T36.setTop (mkF m 296 #[.val (.int p1), .val (.int p2), .val (.long p3), .second, .val (.int p4), .val (.int p5), .val (.ref (f_kindOf (p1 &&& (3 : Int32)) w_FILE w_DIRECTORY w_LINK w_OTHER)), .val (.ref b2), .val (.ref b3), .val (.int (p4.toInt8.toInt32)), .val (.int (((p4.toUInt32 >>> ((8 : Int32) &&& 31).toUInt32).toInt32).toInt8.toInt32)), .val (.int (((p4.toUInt32 >>> ((16 : Int32) &&& 31).toUInt32).toInt32).toInt8.toInt32)), .val (.int (p5 &&& (3 : Int32))), .val (.ref b3), .val (.ref b18), .val (.ref b24), .val (.ref b36)] [])) _
      refine g_aload X36 hx (hb hby at_296) rfl rfl ?_
      refine g_aload X36 hx (hb hby at_298) rfl rfl ?_
      have c300_37 : ¬ (b36 = b24) := (Ne.symm ne_b24_b36)
      refine g_acmp X36 hx 303 false rfl rfl (hb hby at_300) (decide_eq_false fun q => c300_37 (Value.ref.inj q)) (by decide) (by decide) ?_
      refine g_aload X36 hx (hb hby at_303) rfl rfl ?_
      refine g_aload X36 hx (hb hby at_305) rfl rfl ?_
      have c307_38 : ¬ (b36 = b3) := (Ne.symm ne_b3_b36)
      refine g_acmp X36 hx 310 false rfl rfl (hb hby at_307) (decide_eq_false fun q => c307_38 (Value.ref.inj q)) (by decide) (by decide) ?_
      refine g_aload X36 hx (hb hby at_310) rfl rfl ?_
      obtain ⟨cl39, Ar39, -, sz39, nn39, -, -⟩ := id Vf36
      refine Go.mp (fun _ k => X36.arraylength hx (by rw [(rfl : T36.heap = T36.heap)]; exact Ar39.1) (State.isArrayOf_alike hZ.alike Ar39.2.1) (g := (mkF m 312 #[.val (.int p1), .val (.int p2), .val (.long p3), .second, .val (.int p4), .val (.int p5), .val (.ref (f_kindOf (p1 &&& (3 : Int32)) w_FILE w_DIRECTORY w_LINK w_OTHER)), .val (.ref b2), .val (.ref b3), .val (.int (p4.toInt8.toInt32)), .val (.int (((p4.toUInt32 >>> ((8 : Int32) &&& 31).toUInt32).toInt32).toInt8.toInt32)), .val (.int (((p4.toUInt32 >>> ((16 : Int32) &&& 31).toUInt32).toInt32).toInt8.toInt32)), .val (.int (p5 &&& (3 : Int32))), .val (.ref b3), .val (.ref b18), .val (.ref b24), .val (.ref b36)] [(.ref b36)])) rfl rfl (hb hby at_312) _ k) ?_
      rw [len_of sz39 nn39]
      show Go p e below (T36.setTop (mkF m 313 #[.val (.int p1), .val (.int p2), .val (.long p3), .second, .val (.int p4), .val (.int p5), .val (.ref (f_kindOf (p1 &&& (3 : Int32)) w_FILE w_DIRECTORY w_LINK w_OTHER)), .val (.ref b2), .val (.ref b3), .val (.int (p4.toInt8.toInt32)), .val (.int (((p4.toUInt32 >>> ((8 : Int32) &&& 31).toUInt32).toInt32).toInt8.toInt32)), .val (.int (((p4.toUInt32 >>> ((16 : Int32) &&& 31).toUInt32).toInt32).toInt8.toInt32)), .val (.int (p5 &&& (3 : Int32))), .val (.ref b3), .val (.ref b18), .val (.ref b24), .val (.ref b36)] [(.int (3 : Int32))])) _
      refine g_iconst X36 hx (3 : Int32) (hb hby at_313) (by decide) ?_
      refine g_icmpYes X36 hx 319 (hb hby at_314) (teq ((by decide) : (3 : Int32) = (3 : Int32))).1 (by decide) (by decide) ?_
      refine g_aload X36 hx (hb hby at_319) rfl rfl ?_
      refine g_iconst X36 hx (0 : Int32) (hb hby at_321) (by decide) ?_
      obtain ⟨cl40, Ar40, -, sz40, -, Ha40, -⟩ := id Vf36
      have hin40 : ¬ ((0 : Int32) < 0 ∨ cl40.slots.size ≤ (0 : Int32).toNatClampNeg) := by rw [sz40]; decide
      have hat40 : cl40.slots[(0 : Int32).toNatClampNeg]? = some (.int (p4.toInt8.toInt32)) := Ha40 0 (by rw [sz40]; decide)
      refine Go.mp (fun _ k => X36.baloadBytes hx (j := 0) (v := (.int (p4.toInt8.toInt32))) (by rw [(rfl : T36.heap = T36.heap)]; exact Ar40.1) (State.isArrayOf_alike hZ.alike Ar40.2.1) Ar40.2.2 hin40 hat40 (g := (mkF m 322 #[.val (.int p1), .val (.int p2), .val (.long p3), .second, .val (.int p4), .val (.int p5), .val (.ref (f_kindOf (p1 &&& (3 : Int32)) w_FILE w_DIRECTORY w_LINK w_OTHER)), .val (.ref b2), .val (.ref b3), .val (.int (p4.toInt8.toInt32)), .val (.int (((p4.toUInt32 >>> ((8 : Int32) &&& 31).toUInt32).toInt32).toInt8.toInt32)), .val (.int (((p4.toUInt32 >>> ((16 : Int32) &&& 31).toUInt32).toInt32).toInt8.toInt32)), .val (.int (p5 &&& (3 : Int32))), .val (.ref b3), .val (.ref b18), .val (.ref b24), .val (.ref b36)] [(.int (0 : Int32)), (.ref b36)])) rfl rfl (hb hby at_322) _ k) ?_
      show Go p e below (T36.setTop (mkF m 323 #[.val (.int p1), .val (.int p2), .val (.long p3), .second, .val (.int p4), .val (.int p5), .val (.ref (f_kindOf (p1 &&& (3 : Int32)) w_FILE w_DIRECTORY w_LINK w_OTHER)), .val (.ref b2), .val (.ref b3), .val (.int (p4.toInt8.toInt32)), .val (.int (((p4.toUInt32 >>> ((8 : Int32) &&& 31).toUInt32).toInt32).toInt8.toInt32)), .val (.int (((p4.toUInt32 >>> ((16 : Int32) &&& 31).toUInt32).toInt32).toInt8.toInt32)), .val (.int (p5 &&& (3 : Int32))), .val (.ref b3), .val (.ref b18), .val (.ref b24), .val (.ref b36)] [(.int (p4.toInt8.toInt32))])) _
      refine g_iload X36 hx (hb hby at_323) rfl ?_
      refine g_icmpNo X36 hx (hb hby at_325) (teq (rfl : (p4.toInt8.toInt32) = (p4.toInt8.toInt32))).2 ?_
      refine g_aload X36 hx (hb hby at_328) rfl rfl ?_
      refine g_iconst X36 hx (1 : Int32) (hb hby at_330) (by decide) ?_
      obtain ⟨cl41, Ar41, -, sz41, -, Ha41, -⟩ := id Vf36
      have hin41 : ¬ ((1 : Int32) < 0 ∨ cl41.slots.size ≤ (1 : Int32).toNatClampNeg) := by rw [sz41]; decide
      have hat41 : cl41.slots[(1 : Int32).toNatClampNeg]? = some (.int (((p4.toUInt32 >>> ((8 : Int32) &&& 31).toUInt32).toInt32).toInt8.toInt32)) := Ha41 1 (by rw [sz41]; decide)
      refine Go.mp (fun _ k => X36.baloadBytes hx (j := 1) (v := (.int (((p4.toUInt32 >>> ((8 : Int32) &&& 31).toUInt32).toInt32).toInt8.toInt32))) (by rw [(rfl : T36.heap = T36.heap)]; exact Ar41.1) (State.isArrayOf_alike hZ.alike Ar41.2.1) Ar41.2.2 hin41 hat41 (g := (mkF m 331 #[.val (.int p1), .val (.int p2), .val (.long p3), .second, .val (.int p4), .val (.int p5), .val (.ref (f_kindOf (p1 &&& (3 : Int32)) w_FILE w_DIRECTORY w_LINK w_OTHER)), .val (.ref b2), .val (.ref b3), .val (.int (p4.toInt8.toInt32)), .val (.int (((p4.toUInt32 >>> ((8 : Int32) &&& 31).toUInt32).toInt32).toInt8.toInt32)), .val (.int (((p4.toUInt32 >>> ((16 : Int32) &&& 31).toUInt32).toInt32).toInt8.toInt32)), .val (.int (p5 &&& (3 : Int32))), .val (.ref b3), .val (.ref b18), .val (.ref b24), .val (.ref b36)] [(.int (1 : Int32)), (.ref b36)])) rfl rfl (hb hby at_331) _ k) ?_
      show Go p e below (T36.setTop (mkF m 332 #[.val (.int p1), .val (.int p2), .val (.long p3), .second, .val (.int p4), .val (.int p5), .val (.ref (f_kindOf (p1 &&& (3 : Int32)) w_FILE w_DIRECTORY w_LINK w_OTHER)), .val (.ref b2), .val (.ref b3), .val (.int (p4.toInt8.toInt32)), .val (.int (((p4.toUInt32 >>> ((8 : Int32) &&& 31).toUInt32).toInt32).toInt8.toInt32)), .val (.int (((p4.toUInt32 >>> ((16 : Int32) &&& 31).toUInt32).toInt32).toInt8.toInt32)), .val (.int (p5 &&& (3 : Int32))), .val (.ref b3), .val (.ref b18), .val (.ref b24), .val (.ref b36)] [(.int (((p4.toUInt32 >>> ((8 : Int32) &&& 31).toUInt32).toInt32).toInt8.toInt32))])) _
      refine g_iload X36 hx (hb hby at_332) rfl ?_
      refine g_icmpNo X36 hx (hb hby at_334) (teq (rfl : (((p4.toUInt32 >>> ((8 : Int32) &&& 31).toUInt32).toInt32).toInt8.toInt32) = (((p4.toUInt32 >>> ((8 : Int32) &&& 31).toUInt32).toInt32).toInt8.toInt32))).2 ?_
      refine g_aload X36 hx (hb hby at_337) rfl rfl ?_
      refine g_iconst X36 hx (2 : Int32) (hb hby at_339) (by decide) ?_
      obtain ⟨cl42, Ar42, -, sz42, -, Ha42, -⟩ := id Vf36
      have hin42 : ¬ ((2 : Int32) < 0 ∨ cl42.slots.size ≤ (2 : Int32).toNatClampNeg) := by rw [sz42]; decide
      have hat42 : cl42.slots[(2 : Int32).toNatClampNeg]? = some (.int (((p4.toUInt32 >>> ((16 : Int32) &&& 31).toUInt32).toInt32).toInt8.toInt32)) := Ha42 2 (by rw [sz42]; decide)
      refine Go.mp (fun _ k => X36.baloadBytes hx (j := 2) (v := (.int (((p4.toUInt32 >>> ((16 : Int32) &&& 31).toUInt32).toInt32).toInt8.toInt32))) (by rw [(rfl : T36.heap = T36.heap)]; exact Ar42.1) (State.isArrayOf_alike hZ.alike Ar42.2.1) Ar42.2.2 hin42 hat42 (g := (mkF m 340 #[.val (.int p1), .val (.int p2), .val (.long p3), .second, .val (.int p4), .val (.int p5), .val (.ref (f_kindOf (p1 &&& (3 : Int32)) w_FILE w_DIRECTORY w_LINK w_OTHER)), .val (.ref b2), .val (.ref b3), .val (.int (p4.toInt8.toInt32)), .val (.int (((p4.toUInt32 >>> ((8 : Int32) &&& 31).toUInt32).toInt32).toInt8.toInt32)), .val (.int (((p4.toUInt32 >>> ((16 : Int32) &&& 31).toUInt32).toInt32).toInt8.toInt32)), .val (.int (p5 &&& (3 : Int32))), .val (.ref b3), .val (.ref b18), .val (.ref b24), .val (.ref b36)] [(.int (2 : Int32)), (.ref b36)])) rfl rfl (hb hby at_340) _ k) ?_
      show Go p e below (T36.setTop (mkF m 341 #[.val (.int p1), .val (.int p2), .val (.long p3), .second, .val (.int p4), .val (.int p5), .val (.ref (f_kindOf (p1 &&& (3 : Int32)) w_FILE w_DIRECTORY w_LINK w_OTHER)), .val (.ref b2), .val (.ref b3), .val (.int (p4.toInt8.toInt32)), .val (.int (((p4.toUInt32 >>> ((8 : Int32) &&& 31).toUInt32).toInt32).toInt8.toInt32)), .val (.int (((p4.toUInt32 >>> ((16 : Int32) &&& 31).toUInt32).toInt32).toInt8.toInt32)), .val (.int (p5 &&& (3 : Int32))), .val (.ref b3), .val (.ref b18), .val (.ref b24), .val (.ref b36)] [(.int (((p4.toUInt32 >>> ((16 : Int32) &&& 31).toUInt32).toInt32).toInt8.toInt32))])) _
      refine g_iload X36 hx (hb hby at_341) rfl ?_
      refine g_icmpNo X36 hx (hb hby at_343) (teq (rfl : (((p4.toUInt32 >>> ((16 : Int32) &&& 31).toUInt32).toInt32).toInt8.toInt32) = (((p4.toUInt32 >>> ((16 : Int32) &&& 31).toUInt32).toInt32).toInt8.toInt32))).2 ?_
      refine g_iconst X36 hx (1 : Int32) (hb hby at_346) (by decide) ?_
      refine g_goto X36 hx 351 (hb hby at_347) (by decide) (by decide) ?_
      exact own_retZ X36 hx hret hlk (hb hby at_351) (by decide) (by decide) (by decide) ⟨rfl, N36⟩
set_option maxRecDepth 65536 in
set_option maxHeartbeats 40000000 in
theorem comes_1 {Post : Tables → Env → Array Value → State → Outcome → State → Prop} (hpost : ∀ tb e args s v u, (limb_1_1.after args s (.returned v) u = true ∧ limb_1_2.after args s (.returned v) u = true ∧ True) → FrameEnd s (.returned v) u (Jvm.fieldLocs frame_1_writes args s ++ Jvm.arrayLocs frame_1_arrays args s ++ Jvm.staticLocs frame_1_statics s) 24 128 → Post tb e args s (.returned v) u) :
    ArmFor flags0 classFile x code maxLocals ret World_1 tables_1 room_1 Calls_1 rest_1 Pre_1 Post := by
  intro l hfl _ _ p e ha hc hk s m args below hf hA hF happ hP
  obtain ⟨hcalls, hrest, hpre⟩ := hP
  obtain ⟨-, -, -, hnamed, -, -, -, hat⟩ := (Spec.applies_iff hf).mp happ
  obtain ⟨hg, hn⟩ := and_e (Cond.before_iff.mp (show (Jvm.Cond.and given_1 narrow_1).before args s = true from hpre))
  obtain ⟨hcnt, hg⟩ := and_e hg
  obtain ⟨w0, w1, w2, w3, w4, rfl⟩ : ∃ w0 w1 w2 w3 w4 : Value, args = #[w0, w1, w2, w3, w4] := by
    have hs : args.size = 5 := by simpa [Cond.value, given_1] using hcnt
    obtain ⟨L⟩ := args
    match L, hs with
    | [w0, w1, w2, w3, w4], _ => exact ⟨w0, w1, w2, w3, w4, rfl⟩
  have hw := fun d (hd : d ∈ tables_1) => atoms_spec (ws := Jvm.Cond.code x code maxLocals ret :: tables_1) hat d (List.mem_cons_of_mem _ hd)
  obtain ⟨ha0, hg0⟩ := and_e hg
  obtain ⟨p1, ep1⟩ := is_v ha0
  obtain rfl : w0 = (.int p1) := Option.some.inj ep1
  obtain ⟨ha1, hg1⟩ := and_e hg0
  obtain ⟨p2, ep2⟩ := is_v ha1
  obtain rfl : w1 = (.int p2) := Option.some.inj ep2
  obtain ⟨ha2, hg2⟩ := and_e hg1
  obtain ⟨p3, ep3⟩ := isL_v ha2
  obtain rfl : w2 = (.long p3) := Option.some.inj ep3
  obtain ⟨ha3, hg3⟩ := and_e hg2
  obtain ⟨p4, ep4⟩ := is_v ha3
  obtain rfl : w3 = (.int p4) := Option.some.inj ep4
  obtain ⟨p5, ep5⟩ := is_v hg3
  obtain rfl : w4 = (.int p5) := Option.some.inj ep5
  obtain ⟨hn0, hm0⟩ := and_e hn
  obtain ⟨w_FILE, S_FILE, E_FILE, ev_FILE⟩ := own_sta hn0 (hw _ (List.mem_of_getElem? (i := 5) rfl)) (hw _ (List.mem_of_getElem? (i := 6) rfl))
  obtain ⟨hn1, hm1⟩ := and_e hm0
  obtain ⟨w_DIRECTORY, S_DIRECTORY, E_DIRECTORY, ev_DIRECTORY⟩ := own_sta hn1 (hw _ (List.mem_of_getElem? (i := 5) rfl)) (hw _ (List.mem_of_getElem? (i := 40) rfl))
  obtain ⟨hn2, hm2⟩ := and_e hm1
  obtain ⟨w_OTHER, S_OTHER, E_OTHER, ev_OTHER⟩ := own_sta hn2 (hw _ (List.mem_of_getElem? (i := 5) rfl)) (hw _ (List.mem_of_getElem? (i := 42) rfl))
  obtain ⟨w_LINK, S_LINK, E_LINK, ev_LINK⟩ := own_sta hm2 (hw _ (List.mem_of_getElem? (i := 5) rfl)) (hw _ (List.mem_of_getElem? (i := 44) rfl))
  obtain ⟨n, o, h1, h2, h3, _, L, rfl, ⟨rfl, N⟩, hq⟩ := rm_law l s _ hw p1 p2 p3 p4 p5 w_FILE w_DIRECTORY w_OTHER w_LINK s.heap s.heap.size (Nat.le_refl _) S_FILE E_FILE S_DIRECTORY E_DIRECTORY S_OTHER E_OTHER S_LINK E_LINK p e ha hc hk s m _ below hf ((Spec.applies_iff_loose hf).mp happ).1 ⟨rfl, State.Warmed39.refl s, rfl⟩ trivial
  refine ⟨n, _, h1, h2, h3, hpost _ _ _ _ _ _ ⟨Cond.after_iff.mpr rfl, Cond.after_iff.mpr (eq_i res_at (Term.int_eval (1)) rfl), trivial⟩ ⟨hq.1, hq.2.1, (hq.2.2.sift fun y hy => Or.inr (N y hy)).mono (by decide) (by decide)⟩⟩
theorem main_1_1 : Claimed_1_1 := comes_1 fun _ _ _ _ _ _ h hF => ⟨h.1, hF⟩
theorem main_1_2 : Claimed_1_2 := comes_1 fun _ _ _ _ _ _ h hF => ⟨h.2.1, hF⟩
end Jvm.Pilot.@@N@@
namespace Jvm.Pilot.@@N@@
open Jvm Jvm.ClassFile Sem Op Lib Jvm.Free Jvm.Stand Jvm.Pilot.@@N@@.Jvm.D
/-! MADE BY PROGRAM (witnessworld.py) out of the Statement's table words and the real class files: 13 classes; the members and pool entries that the words name. The judged class is class 1, her method 2. -/
namespace start1
open Jvm.ClassFile
def u (s : String) : CpInfo := .utf8 (stringToUtf16 s)
/-- a pool by its gaps: so many unusable entries, then the entry; so many at the end -/
def gap : Nat → List CpInfo → List CpInfo
  | 0, r => r
  | n + 1, r => .unusable :: gap n r
def poolList (es : List (Nat × CpInfo)) (last : Nat) : List CpInfo := es.foldr (fun e r => gap e.1 (e.2 :: r)) (gap last [])
def pool (es : List (Nat × CpInfo)) (last : Nat) : Array CpInfo := ⟨poolList es last⟩
def fileOf (pool : Array CpInfo) (this : Nat) (attrs : Array Attribute := #[]) (ms : Array MethodInfo := #[]) (fl : Nat := 33) (sup : Nat := 0) (ifs : Array Nat := #[]) (fds : Array FieldInfo := #[]) : ClassFile where
  minorVersion := 0
  majorVersion := 65
  constantPool := pool
  accessFlags := fl
  thisClass := this
  superClass := sup
  interfaces := ifs
  fields := fds
  methods := ms
  attributes := attrs
def plain (name : String) (sup : Option ClassId) : Class where
  name := name
  kind := .ordinary
  loader := none
  accessFlags := 33
  super := sup
  interfaces := #[]
  cf := none
  fields := #[]
  methods := #[]
  instanceTypes := #[]
  staticTypes := #[]
  resolved := #[]
  callSites := []
  init := .initialized
  statics := none
  mirror := none

def pool0 : Array CpInfo := pool [(5, u "<init>"), (0, u "()V"), (1, .class_ 10), (1, u "java/lang/Object"), (85, u "clone"), (0, u "()Ljava/lang/Object;")] 26

def k0c0 : Code := { maxStack := 0, maxLocals := 1, code := object_method_1_code, exceptionTable := #[], attributes := #[] }
def k0m0 : Method := { name := "<init>", desc := "()V", sig := { parameters := [], returnType := none }, accessFlags := 1, code := some k0c0 }
def k0m1 : Method := { name := "clone", desc := "()Ljava/lang/Object;", sig := { parameters := [], returnType := some (.object "java/lang/Object") }, accessFlags := 260, code := none }
/-- java/lang/Object -/
def k0 : Class := { plain "java/lang/Object" none with
  accessFlags := 33
  interfaces := #[]
  cf := some (fileOf pool0 8 #[] #[{ accessFlags := 1, nameIndex := 5, descriptorIndex := 6, attributes := #[] }, { accessFlags := 260, nameIndex := 96, descriptorIndex := 97, attributes := #[] }] 33 0 #[] #[])
  fields := #[]
  methods := #[k0m0, k0m1]
  instanceTypes := #[]
  staticTypes := #[]
  resolved := Array.replicate 124 none
  statics := none }

def pool1 : Array CpInfo := pool [(2, .class_ 4), (1, u "java/lang/Object"), (0, u "<init>"), (0, u "()V"), (0, .fieldref 8 9), (0, .class_ 10), (0, .nameAndType 11 12), (0, u "com/example/rigging/rigging/Snapshot$Entry$Kind"), (0, u "FILE"), (0, u "Lcom/example/rigging/rigging/Snapshot$Entry$Kind;"), (0, .fieldref 8 14), (0, .nameAndType 15 12), (0, u "DIRECTORY"), (0, .fieldref 8 17), (0, .nameAndType 18 12), (0, u "LINK"), (0, .fieldref 8 20), (0, .nameAndType 21 12), (0, u "OTHER"), (0, .methodref 23 24), (0, .class_ 25), (0, .nameAndType 26 27), (0, u "com/example/rigging/rigging/EntryDigestPinLaw"), (0, u "kindOf"), (0, u "(I)Lcom/example/rigging/rigging/Snapshot$Entry$Kind;"), (0, .class_ 29), (0, u "com/example/rigging/rigging/Snapshot$Entry"), (0, .methodref 28 31), (0, .nameAndType 5 32), (0, u "(Lcom/example/rigging/rigging/Snapshot$Entry$Kind;IJ[B)V"), (0, .methodref 28 34), (0, .nameAndType 35 36), (0, u "digest"), (0, u "()[B"), (3, u "law"), (0, u "(IIJII)Z")] 9

def k1m0 : Method := { name := "<init>", desc := "()V", sig := { parameters := [], returnType := none }, accessFlags := 2, code := none }
def k1c1 : Code := { maxStack := 2, maxLocals := 1, code := method_2_code, exceptionTable := #[], attributes := #[] }
def k1m1 : Method := { name := "kindOf", desc := "(I)Lcom/example/rigging/rigging/Snapshot$Entry$Kind;", sig := { parameters := [.int], returnType := some (.object "com/example/rigging/rigging/Snapshot$Entry$Kind") }, accessFlags := 10, code := some k1c1 }
def k1c2 : Code := { maxStack := 7, maxLocals := 17, code := code, exceptionTable := #[], attributes := #[] }
def k1m2 : Method := { name := "law", desc := "(IIJII)Z", sig := { parameters := [.int, .int, .long, .int, .int], returnType := some .boolean }, accessFlags := 9, code := some k1c2 }
/-- com/example/rigging/rigging/EntryDigestPinLaw -/
def k1 : Class := { plain "com/example/rigging/rigging/EntryDigestPinLaw" (some 0) with
  accessFlags := 49
  interfaces := #[]
  cf := some (fileOf pool1 23 #[] #[{ accessFlags := 2, nameIndex := 5, descriptorIndex := 6, attributes := #[] }, { accessFlags := 10, nameIndex := 26, descriptorIndex := 27, attributes := #[] }, { accessFlags := 9, nameIndex := 40, descriptorIndex := 41, attributes := #[] }] 49 2 #[] #[])
  fields := #[]
  methods := #[k1m0, k1m1, k1m2]
  instanceTypes := #[]
  staticTypes := #[]
  resolved := Array.replicate 51 none
  statics := none }

def pool2 : Array CpInfo := pool [(1, .class_ 2), (0, u "java/lang/constant/Constable"), (0, .class_ 4), (0, u "java/lang/Object")] 6

/-- java/lang/constant/Constable -/
def k2 : Class := { plain "java/lang/constant/Constable" (some 0) with
  accessFlags := 1537
  interfaces := #[]
  cf := some (fileOf pool2 1 #[] #[] 1537 3 #[] #[])
  fields := #[]
  methods := #[]
  instanceTypes := #[]
  staticTypes := #[]
  resolved := Array.replicate 11 none
  statics := none }

def pool3 : Array CpInfo := pool [(1, .class_ 2), (0, u "java/lang/Comparable"), (0, .class_ 4), (0, u "java/lang/Object")] 7

/-- java/lang/Comparable -/
def k3 : Class := { plain "java/lang/Comparable" (some 0) with
  accessFlags := 1537
  interfaces := #[]
  cf := some (fileOf pool3 1 #[] #[] 1537 3 #[] #[])
  fields := #[]
  methods := #[]
  instanceTypes := #[]
  staticTypes := #[]
  resolved := Array.replicate 12 none
  statics := none }

def pool4 : Array CpInfo := pool [(1, .class_ 2), (0, u "java/io/Serializable"), (0, .class_ 4), (0, u "java/lang/Object")] 2

/-- java/io/Serializable -/
def k4 : Class := { plain "java/io/Serializable" (some 0) with
  accessFlags := 1537
  interfaces := #[]
  cf := some (fileOf pool4 1 #[] #[] 1537 3 #[] #[])
  fields := #[]
  methods := #[]
  instanceTypes := #[]
  staticTypes := #[]
  resolved := Array.replicate 7 none
  statics := none }

def pool5 : Array CpInfo := pool [(2, .class_ 4), (1, u "java/lang/Enum"), (0, u "name"), (0, u "Ljava/lang/String;"), (2, u "ordinal"), (0, u "I"), (1, .class_ 14), (1, u "java/lang/Object"), (4, u "hash"), (86, .class_ 108), (1, u "java/lang/Enum$EnumDesc"), (2, .class_ 112), (0, u "java/lang/constant/Constable"), (0, .class_ 114), (0, u "java/lang/Comparable"), (0, .class_ 116), (0, u "java/io/Serializable")] 87

/-- java/lang/Enum -/
def k5 : Class := { plain "java/lang/Enum" (some 0) with
  accessFlags := 1057
  interfaces := #[2, 3, 4]
  cf := some (fileOf pool5 2 #[.nestMembers #[106]] #[] 1057 12 #[111, 113, 115] #[{ accessFlags := 18, nameIndex := 5, descriptorIndex := 6, attributes := #[] }, { accessFlags := 18, nameIndex := 9, descriptorIndex := 10, attributes := #[] }, { accessFlags := 2, nameIndex := 19, descriptorIndex := 10, attributes := #[] }])
  fields := #[{ name := "name", type := (.object "java/lang/String"), accessFlags := 18, slot := 0, constantValue := 0 }, { name := "ordinal", type := .int, accessFlags := 18, slot := 1, constantValue := 0 }, { name := "hash", type := .int, accessFlags := 2, slot := 2, constantValue := 0 }]
  methods := #[]
  instanceTypes := #[(.object "java/lang/String"), .int, .int]
  staticTypes := #[]
  resolved := Array.replicate 204 none
  statics := none }

def pool6 : Array CpInfo := pool [(1, .class_ 2), (0, u "com/example/rigging/rigging/Snapshot$Entry$Kind"), (2, u "FILE"), (0, u "Lcom/example/rigging/rigging/Snapshot$Entry$Kind;"), (2, u "DIRECTORY"), (2, u "LINK"), (2, u "OTHER"), (2, u "$VALUES"), (0, u "[Lcom/example/rigging/rigging/Snapshot$Entry$Kind;"), (6, .class_ 28), (1, u "java/lang/Enum"), (8, u "code"), (0, u "C"), (41, .class_ 81), (0, u "com/example/rigging/rigging/Snapshot")] 19

/-- com/example/rigging/rigging/Snapshot$Entry$Kind -/
def k6 : Class := { plain "com/example/rigging/rigging/Snapshot$Entry$Kind" (some 5) with
  accessFlags := 16432
  interfaces := #[]
  cf := some (fileOf pool6 1 #[.nestHost 80] #[] 16432 26 #[] #[{ accessFlags := 16409, nameIndex := 5, descriptorIndex := 6, attributes := #[] }, { accessFlags := 16409, nameIndex := 9, descriptorIndex := 6, attributes := #[] }, { accessFlags := 16409, nameIndex := 12, descriptorIndex := 6, attributes := #[] }, { accessFlags := 16409, nameIndex := 15, descriptorIndex := 6, attributes := #[] }, { accessFlags := 18, nameIndex := 37, descriptorIndex := 38, attributes := #[] }, { accessFlags := 4122, nameIndex := 18, descriptorIndex := 19, attributes := #[] }])
  fields := #[{ name := "FILE", type := (.object "com/example/rigging/rigging/Snapshot$Entry$Kind"), accessFlags := 16409, slot := 0, constantValue := 0 }, { name := "DIRECTORY", type := (.object "com/example/rigging/rigging/Snapshot$Entry$Kind"), accessFlags := 16409, slot := 1, constantValue := 0 }, { name := "LINK", type := (.object "com/example/rigging/rigging/Snapshot$Entry$Kind"), accessFlags := 16409, slot := 2, constantValue := 0 }, { name := "OTHER", type := (.object "com/example/rigging/rigging/Snapshot$Entry$Kind"), accessFlags := 16409, slot := 3, constantValue := 0 }, { name := "code", type := .char, accessFlags := 18, slot := 3, constantValue := 0 }, { name := "$VALUES", type := (.array (.object "com/example/rigging/rigging/Snapshot$Entry$Kind")), accessFlags := 4122, slot := 4, constantValue := 0 }]
  methods := #[]
  instanceTypes := #[(.object "java/lang/String"), .int, .int, .char]
  staticTypes := #[(.object "com/example/rigging/rigging/Snapshot$Entry$Kind"), (.object "com/example/rigging/rigging/Snapshot$Entry$Kind"), (.object "com/example/rigging/rigging/Snapshot$Entry$Kind"), (.object "com/example/rigging/rigging/Snapshot$Entry$Kind"), (.array (.object "com/example/rigging/rigging/Snapshot$Entry$Kind"))]
  resolved := Array.replicate 101 none
  statics := some 0 }

def pool7 : Array CpInfo := pool [(1, .methodref 2 3), (0, .class_ 4), (0, .nameAndType 5 6), (0, u "java/lang/Object"), (0, u "<init>"), (0, u "()V"), (0, .fieldref 8 9), (0, .class_ 10), (0, .nameAndType 11 12), (0, u "com/example/rigging/rigging/Snapshot$Entry"), (0, u "kind"), (0, u "Lcom/example/rigging/rigging/Snapshot$Entry$Kind;"), (0, .fieldref 8 14), (0, .nameAndType 15 16), (0, u "permissions"), (0, u "I"), (0, .fieldref 8 18), (0, .nameAndType 19 20), (0, u "size"), (0, u "J"), (0, .methodref 22 23), (0, .class_ 24), (0, .nameAndType 25 26), (0, u "[B"), (0, u "clone"), (0, u "()Ljava/lang/Object;"), (0, .fieldref 8 28), (0, .nameAndType 29 24), (0, u "digest"), (27, u "(Lcom/example/rigging/rigging/Snapshot$Entry$Kind;IJ[B)V"), (8, u "()[B"), (4, .class_ 72), (0, u "com/example/rigging/rigging/Snapshot")] 3

def k7c0 : Code := { maxStack := 3, maxLocals := 6, code := prog_60_method_1_code, exceptionTable := #[], attributes := #[] }
def k7m0 : Method := { name := "<init>", desc := "(Lcom/example/rigging/rigging/Snapshot$Entry$Kind;IJ[B)V", sig := { parameters := [(.object "com/example/rigging/rigging/Snapshot$Entry$Kind"), .int, .long, (.array .byte)], returnType := none }, accessFlags := 0, code := some k7c0 }
def k7c1 : Code := { maxStack := 1, maxLocals := 1, code := prog_60_method_5_code, exceptionTable := #[], attributes := #[] }
def k7m1 : Method := { name := "digest", desc := "()[B", sig := { parameters := [], returnType := some (.array .byte) }, accessFlags := 0, code := some k7c1 }
/-- com/example/rigging/rigging/Snapshot$Entry -/
def k7 : Class := { plain "com/example/rigging/rigging/Snapshot$Entry" (some 0) with
  accessFlags := 48
  interfaces := #[]
  cf := some (fileOf pool7 8 #[.nestHost 71] #[{ accessFlags := 0, nameIndex := 5, descriptorIndex := 57, attributes := #[] }, { accessFlags := 0, nameIndex := 29, descriptorIndex := 66, attributes := #[] }] 48 2 #[] #[{ accessFlags := 18, nameIndex := 11, descriptorIndex := 12, attributes := #[] }, { accessFlags := 18, nameIndex := 15, descriptorIndex := 16, attributes := #[] }, { accessFlags := 18, nameIndex := 19, descriptorIndex := 20, attributes := #[] }, { accessFlags := 18, nameIndex := 29, descriptorIndex := 24, attributes := #[] }])
  fields := #[{ name := "kind", type := (.object "com/example/rigging/rigging/Snapshot$Entry$Kind"), accessFlags := 18, slot := 0, constantValue := 0 }, { name := "permissions", type := .int, accessFlags := 18, slot := 1, constantValue := 0 }, { name := "size", type := .long, accessFlags := 18, slot := 2, constantValue := 0 }, { name := "digest", type := (.array .byte), accessFlags := 18, slot := 3, constantValue := 0 }]
  methods := #[k7m0, k7m1]
  instanceTypes := #[(.object "com/example/rigging/rigging/Snapshot$Entry$Kind"), .int, .long, (.array .byte)]
  staticTypes := #[]
  resolved := Array.replicate 76 none
  statics := none }

def pool8 : Array CpInfo := pool [(1, .class_ 2), (0, u "java/lang/Cloneable"), (0, .class_ 4), (0, u "java/lang/Object")] 2

/-- java/lang/Cloneable -/
def k8 : Class := { plain "java/lang/Cloneable" (some 0) with
  accessFlags := 1537
  interfaces := #[]
  cf := some (fileOf pool8 1 #[] #[] 1537 3 #[] #[])
  fields := #[]
  methods := #[]
  instanceTypes := #[]
  staticTypes := #[]
  resolved := Array.replicate 7 none
  statics := none }

/-- the primitive byte -/
def k9 : Class := { plain "byte" none with kind := .primitive 'B', accessFlags := 0x411 }
/-- [B -/
def k10 : Class := { plain "[B" (some 0) with kind := .array 9 .byte, interfaces := #[8, 4], accessFlags := 1041 }

/-- the primitive int -/
def k11 : Class := { plain "int" none with kind := .primitive 'I', accessFlags := 0x411 }
/-- [I -/
def k12 : Class := { plain "[I" (some 0) with kind := .array 11 .int, interfaces := #[8, 4], accessFlags := 1041 }

def heap : Heap := #[{ cls := 6, slots := #[.ref 1, .ref 2, .ref 4, .ref 3, .null], vm := .statics 6 },
  { cls := 6, slots := #[.null, .int 0, .int 0, .int 0], vm := .none },
  { cls := 6, slots := #[.null, .int 0, .int 0, .int 0], vm := .none },
  { cls := 6, slots := #[.null, .int 0, .int 0, .int 0], vm := .none },
  { cls := 6, slots := #[.null, .int 0, .int 0, .int 0], vm := .none }]
def classes : Array Class := #[k0, k1, k2, k3, k4, k5, k6, k7, k8, k9, k10, k11, k12]
def interned : List (Array UInt16 × Addr) := []
def slotsUsed : Nat := 21
def theMethod : MethodId := ⟨1, 2⟩
def args0 : Array Value := #[.int 5, .int 1, .long 7, .int 3, .int 2]
def aboutOver (below : List Frame) : State where
  vm := { classes := classes, interned := interned.toArray }
  heap := heap
  slotsUsed := slotsUsed
  threads := #[{ frames := .invoking theMethod args0 :: below }]
def below0 : List Frame := [.native { method := ⟨0, 0⟩, args := #[] }]
def about1 : State := aboutOver below0
def p0 : Program := .bare "" "" ""
def e0 : Env := launch0.env 0 0 0
theorem w_frames : about1.frames = Frame.invoking theMethod args0 :: below0 := rfl
set_option maxRecDepth 65536 in
theorem w_args : argsFit about1.vm theMethod args0 = true := by decide +kernel
set_option maxRecDepth 65536 in
theorem w_heap : heapFits about1 = true := by decide +kernel
set_option maxRecDepth 65536 in
theorem w_runnable : about1.curStatus? = some .runnable := by decide +kernel
set_option maxRecDepth 65536 in
theorem w_alone : about1.alone = true := by decide +kernel
set_option maxRecDepth 65536 in
theorem w_named : about1.methodNamed? x = some theMethod := by decide +kernel
set_option maxRecDepth 65536 in
theorem w_hears : about1.hears theMethod below0 = true := by decide +kernel
set_option maxRecDepth 65536 in
theorem w_ripe : about1.ripe theMethod args0 below0 = true := by decide +kernel
theorem w_running : about1.status = .running := rfl
set_option maxRecDepth 65536 in
theorem w_room : about1.hasRoom e0.platform room_1 = true :=
  launch0.hasRoom_least _ room_1 (by decide +kernel) (by decide +kernel) (by decide +kernel) (by decide +kernel) (by decide +kernel) (by decide +kernel)
theorem allAtoms_all (ts : List Jvm.Cond) (a : Array Jvm.Value) (st : Jvm.State) : (allAtoms ts).before a st = ts.all (fun c => c.before a st) := by
  induction ts with
  | nil => rfl
  | cons c t ih =>
    show (Jvm.Cond.and c (allAtoms t)).before a st = _
    rw [Jvm.Cond.before_and, ih, List.all_cons]
def words1 : List Jvm.Cond := Jvm.Cond.code x code maxLocals ret :: tables_1
/-- a 'code' word, met by the world's own term for the bytes: nothing is compared byte by byte -/
theorem code_word {y : MethodName} {bytes : ByteArray} {mx : Nat} {rt : Option FieldType} {a : Array Value} {s : State} {m : MethodId} {meth : Method} {c : Code} (h1 : s.methodNamed? y = some m) (h2 : s.vm.method? m = some meth) (h3 : meth.code = some c) (h4 : c.code = bytes)
    (h5 : (c.maxLocals == mx && c.exceptionTable.isEmpty && decide (c.maxStack ≤ mostOperands) && decide (meth.sig.returnType = rt) && !meth.locks && decide (parseMethodDescriptor y.desc = some meth.sig)) = true) : (Jvm.Cond.code y bytes mx rt).before a s = true := by
  simp only [Bool.and_eq_true, beq_iff_eq, Bool.not_eq_true', decide_eq_true_eq] at h5
  obtain ⟨⟨⟨⟨⟨g1, g2⟩, g3⟩, g4⟩, g5⟩, g6⟩ := h5
  simp [Cond.before, Cond.holds, Cond.value, h1, h2, h3, h4, g1, g2, g3, g4, g5, g6]
def isCode : Jvm.Cond → Bool
  | .code _ _ _ _ => true
  | _ => false
theorem all_split {L : List Jvm.Cond} {P : Jvm.Cond → Bool} (h1 : L.all (fun c => isCode c || P c) = true) (h2 : ∀ c ∈ L.filter isCode, P c = true) : L.all P = true := by
  refine List.all_eq_true.mpr fun c hc => ?_
  have h := List.all_eq_true.mp h1 c hc
  rcases Bool.eq_false_or_eq_true (isCode c) with hi | hi
  · exact h2 c (List.mem_filter.mpr ⟨hc, hi⟩)
  · simpa [hi] using h
set_option maxRecDepth 65536 in
theorem w_c0 : (Jvm.Cond.code x code maxLocals ret).before args0 about1 = true := code_word (m := ⟨1, 2⟩) (meth := k1m2) (c := k1c2) (by decide +kernel) rfl rfl rfl (by decide +kernel)
set_option maxRecDepth 65536 in
theorem w_c1 : (Jvm.Cond.code ({ cls := "com/example/rigging/rigging/EntryDigestPinLaw", name := "kindOf", desc := "(I)Lcom/example/rigging/rigging/Snapshot$Entry$Kind;" } : Jvm.MethodName) method_2_code (1 : Nat) (Option.some (Jvm.ClassFile.FieldType.object "com/example/rigging/rigging/Snapshot$Entry$Kind"))).before args0 about1 = true := code_word (m := ⟨1, 1⟩) (meth := k1m1) (c := k1c1) (by decide +kernel) rfl rfl rfl (by decide +kernel)
set_option maxRecDepth 65536 in
theorem w_c2 : (Jvm.Cond.code ({ cls := "com/example/rigging/rigging/Snapshot$Entry", name := "<init>", desc := "(Lcom/example/rigging/rigging/Snapshot$Entry$Kind;IJ[B)V" } : Jvm.MethodName) prog_60_method_1_code (6 : Nat) (Option.none : Option Jvm.ClassFile.FieldType)).before args0 about1 = true := code_word (m := ⟨7, 0⟩) (meth := k7m0) (c := k7c0) (by decide +kernel) rfl rfl rfl (by decide +kernel)
set_option maxRecDepth 65536 in
theorem w_c3 : (Jvm.Cond.code ({ cls := "java/lang/Object", name := "<init>", desc := "()V" } : Jvm.MethodName) object_method_1_code (1 : Nat) (Option.none : Option Jvm.ClassFile.FieldType)).before args0 about1 = true := code_word (m := ⟨0, 0⟩) (meth := k0m0) (c := k0c0) (by decide +kernel) rfl rfl rfl (by decide +kernel)
set_option maxRecDepth 65536 in
theorem w_c4 : (Jvm.Cond.code ({ cls := "com/example/rigging/rigging/Snapshot$Entry", name := "digest", desc := "()[B" } : Jvm.MethodName) prog_60_method_5_code (1 : Nat) (Option.some (Jvm.ClassFile.FieldType.array Jvm.ClassFile.FieldType.byte))).before args0 about1 = true := code_word (m := ⟨7, 1⟩) (meth := k7m1) (c := k7c1) (by decide +kernel) rfl rfl rfl (by decide +kernel)
def codes1 : List Jvm.Cond := [Jvm.Cond.code x code maxLocals ret, Jvm.Cond.code ({ cls := "com/example/rigging/rigging/EntryDigestPinLaw", name := "kindOf", desc := "(I)Lcom/example/rigging/rigging/Snapshot$Entry$Kind;" } : Jvm.MethodName) method_2_code (1 : Nat) (Option.some (Jvm.ClassFile.FieldType.object "com/example/rigging/rigging/Snapshot$Entry$Kind")), Jvm.Cond.code ({ cls := "com/example/rigging/rigging/Snapshot$Entry", name := "<init>", desc := "(Lcom/example/rigging/rigging/Snapshot$Entry$Kind;IJ[B)V" } : Jvm.MethodName) prog_60_method_1_code (6 : Nat) (Option.none : Option Jvm.ClassFile.FieldType), Jvm.Cond.code ({ cls := "java/lang/Object", name := "<init>", desc := "()V" } : Jvm.MethodName) object_method_1_code (1 : Nat) (Option.none : Option Jvm.ClassFile.FieldType), Jvm.Cond.code ({ cls := "com/example/rigging/rigging/Snapshot$Entry", name := "digest", desc := "()[B" } : Jvm.MethodName) prog_60_method_5_code (1 : Nat) (Option.some (Jvm.ClassFile.FieldType.array Jvm.ClassFile.FieldType.byte))]
set_option maxRecDepth 65536 in
theorem codes_eq : words1.filter isCode = codes1 := rfl
theorem w_codes : ∀ c ∈ words1.filter isCode, c.before args0 about1 = true := by
  rw [codes_eq]
  intro c hc
  simp only [codes1, List.mem_cons, List.not_mem_nil, or_false] at hc
  rcases hc with rfl | rfl | rfl | rfl | rfl
  · exact w_c0
  · exact w_c1
  · exact w_c2
  · exact w_c3
  · exact w_c4
set_option maxRecDepth 65536 in
theorem w_t1 : (words1.take 24).all (fun c => isCode c || c.before args0 about1) = true := by decide +kernel
set_option maxRecDepth 65536 in
theorem w_t2 : (words1.drop 24).all (fun c => isCode c || c.before args0 about1) = true := by decide +kernel
theorem w_tables : (allAtoms (Jvm.Cond.code x code maxLocals ret :: tables_1)).before args0 about1 = true := by
  rw [allAtoms_all]
  show words1.all (fun c => c.before args0 about1) = true
  refine all_split ?_ w_codes
  rw [← List.take_append_drop 24 words1, List.all_append, w_t1, w_t2]
  rfl
set_option maxRecDepth 65536 in
theorem w_case : (Jvm.Cond.and given_1 narrow_1).before args0 about1 = true := by decide +kernel
theorem w_applies : (headSpec (Jvm.Cond.code x code maxLocals ret :: tables_1) room_1).applies x e0.platform about1 = true :=
  (Spec.applies_iff w_frames).mpr ⟨w_running, w_runnable, w_alone, w_named, w_hears, w_ripe, w_room, w_tables⟩
theorem atStart : AtStart classFile x code maxLocals ret World_1 tables_1 room_1 Calls_1 rest_1 Pre_1 launch0 p0 e0 about1 theMethod args0 below0 :=
  ⟨lists_1, trivial, launch0.admits_env _ _ _, launch0.least_env, fairChoices_fair.cas, fairChoices_fair.clock, w_frames, w_args, w_heap, w_applies, trivial, trivial, w_case⟩
end start1
theorem witness_1 : WitnessClaimed_1 := ⟨start1.p0, start1.e0, start1.about1, start1.theMethod, start1.args0, start1.below0, start1.atStart⟩
end Jvm.Pilot.@@N@@
