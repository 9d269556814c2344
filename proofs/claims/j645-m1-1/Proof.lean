import JvmDerived
import JvmDerived.Pilot.@@N@@Statement
import JvmDerived.Pilot.@@N@@Code
set_option linter.unusedVariables false
set_option linter.unusedSimpArgs false
namespace Jvm.Pilot.@@N@@
open Jvm Jvm.ClassFile Sem Op Lib Jvm.Free Jvm.Stand Jvm.LawKit Jvm.RoadKit Bundle Jvm.Pilot.@@N@@.Jvm.D
section Own
variable {p : Program} {l : Launch} {e : Env} {R : Room} {s : State} {m : MethodId} {args : Array Value} {below : List Frame} {meth : Method} {c : Code} {T : State} {locs : List Loc} {cells slots : Nat}
/-- from U the run comes back to 'below' and its end is as P says -/
def Go (p : Program) (e : Env) (below : List Frame) (U : State) (P : Outcome → State → Prop) : Prop := ∃ s₂ o, Steps p.tables e below U s₂ ∧ s₂.status = .running ∧ Ended s₂ below o ∧ P o s₂
theorem Go.mp {U U' : State} {P : Outcome → State → Prop} (h : ∀ t, Steps p.tables e below U' t → Steps p.tables e below U t) (k : Go p e below U' P) : Go p e below U P := by
  obtain ⟨a, b, c, d⟩ := k; exact ⟨a, b, h _ c, d⟩
/-- how a body ends -/
def FinE (s : State) (kc ks : Nat) (Q : Option Value → Heap → List Loc → Prop) (o : Outcome) (t : State) : Prop := ∃ v L, o = .returned v ∧ Q v t.heap L ∧ FrameEnd s o t L kc ks
/-- a body's contract -/
abbrev Ctr (l : Launch) (y : MethodName) (bytes : ByteArray) (maxL : Nat) (ret : Option FieldType) (ws : List Jvm.Cond) (rm : Room) (Z : State) (as' : Array Value) (h : Heap) (Q : Option Value → Heap → List Loc → Prop) : Prop :=
  MetFree l y (head1 (Jvm.Cond.code y bytes maxL ret :: ws) rm) (fun a U => a = as' ∧ Z.Warmed39 U.vm ∧ U.heap = h) (fun _ _ _ _ _ => True) (fun _ U o U' => ∃ v L, o = .returned v ∧ Q v U'.heap L ∧ FrameEnd U o U' L rm.cells rm.slots)
theorem own_enter {y : MethodName} {bytes : ByteArray} {maxL : Nat} {ret : Option FieldType} {ws : List Jvm.Cond} {rm : Room} {Z : State} {as' : Array Value} {h : Heap} {Q : Option Value → Heap → List Loc → Prop} (hpn : plainName y.cls = true)
    (body : ∀ (p : Program) (e : Env) (s : State) (m : MethodId) (below : List Frame) (meth : Method) (c : Code) (s₁ : State), p.tables.exec = Jvm.exec → c.code = bytes → c.maxLocals = maxL → s.vm.findClass y.cls = some m.cls → meth.name = y.name → meth.sig.returnType = ret → meth.locks = false → Z.Warmed39 s.vm → Stand p l e rm s m as' below meth c s₁ [] 0 0 → s₁.heap = h →
      Go p e below (s₁.setTop (entryFrame m as' maxL)) (FinE s rm.cells rm.slots Q)) : Ctr l y bytes maxL ret ws rm Z as' h Q := by
  refine MetFree.of_bodySF (plainFor_of_name hpn) hisR ?_
  intro p e s m args below meth c s₁ Bd hml0 hP hK
  obtain ⟨rfl, hZ, hh⟩ := hP
  exact body p e s m below meth c s₁ Bd.exec Bd.bytes hml0 (findClass_of_methodNamed Bd.named) (name_of_methodNamed Bd.named Bd.method).1 Bd.returns Bd.notSynchronized hZ (Stand.of_body Bd) (by rw [← hh, Bd.state]; rfl)
theorem own_retN (X : Stand p l e R s m args below meth c T locs cells slots) (hx : p.tables.exec = Jvm.exec) {t : FieldType} (hret : meth.sig.returnType = some t) (hlk : meth.locks = false) (ht : t = .boolean ∨ t = .byte ∨ t = .char ∨ t = .short) {kc ks : Nat} {Q : Option Value → Heap → List Loc → Prop} {pc : Nat} {Ls : Array Slot} {z : Int32} {rest : List Value}
    (hd : decode c.code pc = .ok (.ireturn, 1)) (hk : cells ≤ kc) (hn : slots ≤ ks) (hq : Q (some (.int (nar t z))) T.heap locs) : Go p e below (T.setTop (mkF m pc Ls (.int z :: rest))) (FinE s kc ks Q) := by
  obtain ⟨fs, hr, hrun, hended, hW, hsame⟩ := X.leave (v := some (.int (nar t z))) (fun h => by rw [hret] at h; cases h) hlk
  exact ⟨_, _, retN X hx hret ht hd hr, hrun, hended, _, _, rfl, hq, ⟨_, rfl⟩, hW, hsame.mono hk hn⟩
theorem own_retZ (X : Stand p l e R s m args below meth c T locs cells slots) (hx : p.tables.exec = Jvm.exec) (hret : meth.sig.returnType = some .boolean) (hlk : meth.locks = false) {kc ks : Nat} {Q : Option Value → Heap → List Loc → Prop} {pc : Nat} {Ls : Array Slot} {z : Int32} {rest : List Value}
    (hd : decode c.code pc = .ok (.ireturn, 1)) (hk : cells ≤ kc) (hn : slots ≤ ks) (hz : z &&& 1 = z) (hq : Q (some (.int z)) T.heap locs) : Go p e below (T.setTop (mkF m pc Ls (.int z :: rest))) (FinE s kc ks Q) :=
  own_retN X hx hret hlk (Or.inl rfl) hd hk hn (by show Q (some (.int (z &&& 1))) T.heap locs; rw [hz]; exact hq)
theorem own_retW (X : Stand p l e R s m args below meth c T locs cells slots) (hx : p.tables.exec = Jvm.exec) {t : FieldType} {w : Value} {i : Instr} (hret : meth.sig.returnType = some t) (hlk : meth.locks = false) (hw : narrow t w = w)
    (hi : (i = .ireturn ∧ (t = .int ∨ t = .boolean ∨ t = .byte ∨ t = .char ∨ t = .short) ∧ ∃ z, w = .int z) ∨ (i = .lreturn ∧ t = .long ∧ ∃ z, w = .long z) ∨ (i = .dreturn ∧ t = .double ∧ ∃ z, w = .double z) ∨ (i = .freturn ∧ t = .float ∧ ∃ z, w = .float z) ∨ (i = .areturn ∧ t.isReference = true ∧ w.isRef = true))
    {kc ks : Nat} {Q : Option Value → Heap → List Loc → Prop} {pc : Nat} {Ls : Array Slot} {rest : List Value}
    (hd : decode c.code pc = .ok (i, 1)) (hk : cells ≤ kc) (hn : slots ≤ ks) (hq : Q (some w) T.heap locs) : Go p e below (T.setTop (mkF m pc Ls (w :: rest))) (FinE s kc ks Q) := by
  obtain ⟨fs, hr, hrun, hended, hW, hsame⟩ := X.leave (v := some w) (fun h => by rw [hret] at h; cases h) hlk
  exact ⟨_, _, retOut X hx hret hw hi hd hr, hrun, hended, _, _, rfl, hq, ⟨_, rfl⟩, hW, hsame.mono hk hn⟩
theorem own_retI (X : Stand p l e R s m args below meth c T locs cells slots) (hx : p.tables.exec = Jvm.exec) (hret : meth.sig.returnType = some .int) (hlk : meth.locks = false) {kc ks : Nat} {Q : Option Value → Heap → List Loc → Prop} {pc : Nat} {Ls : Array Slot} {z : Int32} {rest : List Value}
    (hd : decode c.code pc = .ok (.ireturn, 1)) (hk : cells ≤ kc) (hn : slots ≤ ks) (hq : Q (some (.int z)) T.heap locs) : Go p e below (T.setTop (mkF m pc Ls (.int z :: rest))) (FinE s kc ks Q) :=
  own_retW X hx hret hlk rfl (Or.inl ⟨rfl, Or.inl rfl, _, rfl⟩) hd hk hn hq
theorem own_retA (X : Stand p l e R s m args below meth c T locs cells slots) (hx : p.tables.exec = Jvm.exec) {t : FieldType} (hret : meth.sig.returnType = some t) (hlk : meth.locks = false) (ht : t.isReference = true) {w : Value} (hw : w.isRef = true) {kc ks : Nat} {Q : Option Value → Heap → List Loc → Prop} {pc : Nat} {Ls : Array Slot} {rest : List Value}
    (hd : decode c.code pc = .ok (.areturn, 1)) (hk : cells ≤ kc) (hn : slots ≤ ks) (hq : Q (some w) T.heap locs) : Go p e below (T.setTop (mkF m pc Ls (w :: rest))) (FinE s kc ks Q) :=
  own_retW X hx hret hlk (by cases t <;> first | (cases ht; done) | (cases w <;> first | rfl | cases hw)) (Or.inr (Or.inr (Or.inr (Or.inr ⟨rfl, ht, hw⟩)))) hd hk hn hq
theorem own_retV (X : Stand p l e R s m args below meth c T locs cells slots) (hx : p.tables.exec = Jvm.exec) (hret : meth.sig.returnType = none) (hlk : meth.locks = false) {kc ks : Nat} {Q : Option Value → Heap → List Loc → Prop} {pc : Nat} {Ls : Array Slot}
    (hd : decode c.code pc = .ok (.return_, 1)) (hk : cells ≤ kc) (hn : slots ≤ ks) (hq : Q none T.heap locs) : Go p e below (T.setTop (mkF m pc Ls [])) (FinE s kc ks Q) := by
  obtain ⟨fs, hr, hrun, hended, hW, hsame⟩ := X.leave (v := none) (fun _ => rfl) hlk
  exact ⟨_, _, X.returnOut hx hret hd hr, hrun, hended, _, _, rfl, hq, ⟨_, rfl⟩, hW, hsame.mono hk hn⟩
/-- the wide end (behind a cold ldc of a String) -/
def FinW (s : State) (kc ks : Nat) (Q : Option Value → Heap → List Loc → Prop) (o : Outcome) (t : State) : Prop := ∃ v L, o = .returned v ∧ Q v t.heap L ∧ ReturnedEndW s o t L kc ks
abbrev CtrW (l : Launch) (y : MethodName) (bytes : ByteArray) (maxL : Nat) (ret : Option FieldType) (ws : List Jvm.Cond) (rm : Room) (Z : State) (as' : Array Value) (h : Heap) (Q : Option Value → Heap → List Loc → Prop) : Prop :=
  MetFree l y (head1 (Jvm.Cond.code y bytes maxL ret :: ws) rm) (fun a U => a = as' ∧ Z.Warmed39 U.vm ∧ U.heap = h) (fun _ _ _ _ _ => True) (fun _ U o U' => ∃ v L, o = .returned v ∧ Q v U'.heap L ∧ ReturnedEndW U o U' L rm.cells rm.slots)
theorem own_enterW {y : MethodName} {bytes : ByteArray} {maxL : Nat} {ret : Option FieldType} {ws : List Jvm.Cond} {rm : Room} {Z : State} {as' : Array Value} {h : Heap} {Q : Option Value → Heap → List Loc → Prop} (hpn : plainName y.cls = true)
    (body : ∀ (p : Program) (e : Env) (s : State) (m : MethodId) (below : List Frame) (meth : Method) (c : Code) (s₁ : State), p.tables.exec = Jvm.exec → c.code = bytes → c.maxLocals = maxL → s.vm.findClass y.cls = some m.cls → meth.name = y.name → meth.sig.returnType = ret → meth.locks = false → Z.Warmed39 s.vm → Stand p l e rm s m as' below meth c s₁ [] 0 0 → s₁.heap = h →
      Go p e below (s₁.setTop (entryFrame m as' maxL)) (FinW s rm.cells rm.slots Q)) : CtrW l y bytes maxL ret ws rm Z as' h Q := by
  refine MetFree.of_bodySF (plainFor_of_name hpn) hisR ?_
  intro p e s m args below meth c s₁ Bd hml0 hP hK
  obtain ⟨rfl, hZ, hh⟩ := hP
  exact body p e s m below meth c s₁ Bd.exec Bd.bytes hml0 (findClass_of_methodNamed Bd.named) (name_of_methodNamed Bd.named Bd.method).1 Bd.returns Bd.notSynchronized hZ (Stand.of_body Bd) (by rw [← hh, Bd.state]; rfl)
theorem own_retZW {vm1 : Vm} {k1 : Nat} (X : Stand p l e R (s.setVm vm1) m args below meth c T locs cells slots) (hx : p.tables.exec = Jvm.exec) (hret : meth.sig.returnType = some .boolean) (hlk : meth.locks = false) (hS : s.Since vm1 k1) (hB : k1 ≤ T.heap.size) {kc ks : Nat} {Q : Option Value → Heap → List Loc → Prop} {pc : Nat} {Ls : Array Slot} {z : Int32} {rest : List Value}
    (hd : decode c.code pc = .ok (.ireturn, 1)) (hk : cells ≤ kc) (hn : slots ≤ ks) (hz : z &&& 1 = z) (hq : Q (some (.int z)) T.heap locs) : Go p e below (T.setTop (mkF m pc Ls (.int z :: rest))) (FinW s kc ks Q) := by
  obtain ⟨fs, hr, hrun, hended, h1, h2, h3, h4⟩ := X.leaveW hS hB (v := some (.int (nar .boolean z))) (fun h => by rw [hret] at h; cases h) hlk
  have e1 : nar .boolean z = z := hz
  exact ⟨_, _, retN X hx hret (Or.inl rfl) hd hr, hrun, hended, _, _, rfl, by rw [e1]; exact hq, h1, h2, h3, h4.mono hk hn⟩
section Calls
variable {Z : State} {a0 : Array Value} {h : Heap} {y : MethodName} {bytes : ByteArray} {maxL : Nat} {ret : Option FieldType} {rm : Room} {as' : Array Value} {Q : Option Value → Heap → List Loc → Prop} {own : String} {index : Nat} {pc : Nat} {Ls : Array Slot} {st argsL rest : List Value} {ps : List FieldType} {r : Option FieldType}
theorem own_callS (X : Stand p l e R s m args below meth c T locs cells slots) (hx : p.tables.exec = Jvm.exec) (hZ : Z.Warmed39 s.vm) (hown : s.vm.findClass own = some m.cls) (w1 : (Jvm.Cond.methodLink own index y).before a0 Z = true) (w2 : (Jvm.Cond.static y).before a0 Z = true) (w3 : (Jvm.Cond.initialized y.cls).before a0 Z = true) (w4 : (Jvm.Cond.code y bytes maxL ret).before a0 Z = true)
    (hy : y.cls ≠ "java/lang/invoke/MethodHandle" ∧ y.cls ≠ "java/lang/invoke/VarHandle") (hM : Ctr l y bytes maxL ret [] rm Z as' h Q) (eT : T.heap = h) (hpd : parseMethodDescriptor y.desc = some ⟨ps, r⟩) (hd : decode c.code pc = .ok (.invokestatic index, 3)) (hsize : Ls.size = c.maxLocals)
    (hlen : argsL.length = ps.length) (hst : st = argsL.reverse ++ rest) (has : argsL.toArray = as') {W : Nat} (hW : (rest.map fun v => v.category).sum ≤ W) (hf : rm.frames + 1 ≤ R.frames) (hl : W + (maxL + 11) + rm.locals ≤ R.locals) (hc : cells + rm.cells ≤ R.cells) (hs : slots + rm.slots ≤ R.slots) :
    ∃ v T' L, Stand p l e R s m args below meth c T' (locs ++ L) (cells + rm.cells) (slots + rm.slots) ∧ Q v T'.heap L ∧ ∀ target, Steps p.tables e below (T'.setTop (mkF m (pc + 3) Ls (v.toList ++ rest))) target → Steps p.tables e below (T.setTop (mkF m pc Ls st)) target := by
  obtain ⟨v, _, ⟨T', L', k', n'⟩, -, X', ⟨Lc, hQ, l1, y1, z1⟩, st'⟩ := Jvm.LawKit.callS X hx (y := y) hown (mvT hZ w1) (mvT hZ w2) (mvT hZ w3) (mvT hZ w4) hy (backOf (W := W) hM hZ w4 w3 hf hl) (g := mkF m pc Ls st) rfl hsize (argsL := argsL) (rest := rest) (lenOf hpd hlen) hst (by show 2 * 0 + _ ≤ _; omega) hd (fun _ _ => ⟨has, eT, hc, hs⟩)
  dsimp only [Pt.U, Pt.locs, Pt.cells, Pt.slots] at X' l1 y1 z1 st' hQ
  subst l1 y1 z1
  exact ⟨v, T', Lc, X', hQ, st'⟩
theorem own_callV {C : String} {b : Addr} (X : Stand p l e R s m args below meth c T locs cells slots) (hx : p.tables.exec = Jvm.exec) (hZ : Z.Warmed39 s.vm) (hown : s.vm.findClass own = some m.cls) (w1 : (Jvm.Cond.methodLink own index y).before a0 Z = true) (w2 : (Jvm.Cond.declares y).before a0 Z = true) (w3 : (Jvm.Cond.selects C y y).before a0 Z = true) (w4 : (Jvm.Cond.instanceMethod y).before a0 Z = true)
    (w5 : (Jvm.Cond.code y bytes maxL ret).before a0 Z = true) (w6 : (Jvm.Cond.initialized y.cls).before a0 Z = true) (hy : y.cls ≠ "java/lang/invoke/MethodHandle" ∧ y.cls ≠ "java/lang/invoke/VarHandle") (hM : Ctr l y bytes maxL ret [] rm Z as' h Q) (eT : T.heap = h) (E : Exa Z h b C) (hpd : parseMethodDescriptor y.desc = some ⟨ps, r⟩) (hd : decode c.code pc = .ok (.invokevirtual index, 3)) (hsize : Ls.size = c.maxLocals)
    (hlen : argsL.length = ps.length) (hst : st = argsL.reverse ++ .ref b :: rest) (has : (.ref b :: argsL).toArray = as') {W : Nat} (hW : (rest.map fun v => v.category).sum ≤ W) (hf : rm.frames + 1 ≤ R.frames) (hl : W + (maxL + 11) + rm.locals ≤ R.locals) (hc : cells + rm.cells ≤ R.cells) (hs : slots + rm.slots ≤ R.slots) :
    ∃ v T' L, Stand p l e R s m args below meth c T' (locs ++ L) (cells + rm.cells) (slots + rm.slots) ∧ Q v T'.heap L ∧ ∀ target, Steps p.tables e below (T'.setTop (mkF m (pc + 3) Ls (v.toList ++ rest))) target → Steps p.tables e below (T.setTop (mkF m pc Ls st)) target := by
  obtain ⟨cq, kq, qa, qb, qc⟩ := isOf hZ eT E
  obtain ⟨v, _, ⟨T', L', k', n'⟩, -, X', ⟨Lc, hQ, l1, y1, z1⟩, st'⟩ := X.virtualBack hx (y := y) (z := y) hown (mvT hZ w1) (mvT hZ w2) (notFace_of_selects (args := #[]) (mvT hZ w3)) (mvT hZ w3) (mvT hZ w4) hy (backOf (W := W) hM hZ w5 w6 hf hl) qa qc (g := mkF m pc Ls st) rfl hsize (Steps.refl _) (argsL := argsL) (rest := rest) (lenOf hpd hlen) hst (by show 2 * 0 + _ ≤ _; omega) hd (fun _ _ => ⟨has, eT, hc, hs⟩)
  dsimp only [Pt.U, Pt.locs, Pt.cells, Pt.slots] at X' l1 y1 z1 st' hQ
  subst l1 y1 z1
  exact ⟨v, T', Lc, X', hQ, fun t k => st'.trans k⟩
theorem own_callI {b : Addr} (X : Stand p l e R s m args below meth c T locs cells slots) (hx : p.tables.exec = Jvm.exec) (hZ : Z.Warmed39 s.vm) (hown : s.vm.findClass own = some m.cls) (w1 : (Jvm.Cond.methodLink own index y).before a0 Z = true) (w4 : (Jvm.Cond.instanceMethod y).before a0 Z = true)
    (w5 : (Jvm.Cond.code y bytes maxL none).before a0 Z = true) (w6 : (Jvm.Cond.initialized y.cls).before a0 Z = true) (hn : y.name = "<init>") (hy : y.cls ≠ "java/lang/invoke/MethodHandle" ∧ y.cls ≠ "java/lang/invoke/VarHandle") (hM : Ctr l y bytes maxL none [] rm Z as' h Q) (eT : T.heap = h) (hpd : parseMethodDescriptor y.desc = some ⟨ps, r⟩) (hd : decode c.code pc = .ok (.invokespecial index, 3)) (hsize : Ls.size = c.maxLocals)
    (hlen : argsL.length = ps.length) (hst : st = argsL.reverse ++ .ref b :: rest) (has : (.ref b :: argsL).toArray = as') {W : Nat} (hW : (rest.map fun v => v.category).sum ≤ W) (hf : rm.frames + 1 ≤ R.frames) (hl : W + (maxL + 11) + rm.locals ≤ R.locals) (hc : cells + rm.cells ≤ R.cells) (hs : slots + rm.slots ≤ R.slots) :
    ∃ v T' L, Stand p l e R s m args below meth c T' (locs ++ L) (cells + rm.cells) (slots + rm.slots) ∧ Q v T'.heap L ∧ ∀ target, Steps p.tables e below (T'.setTop (mkF m (pc + 3) Ls (v.toList ++ rest))) target → Steps p.tables e below (T.setTop (mkF m pc Ls st)) target := by
  obtain ⟨v, _, ⟨T', L', k', n'⟩, -, X', ⟨Lc, hQ, l1, y1, z1⟩, st'⟩ := X.specialBack hx (y := y) hn hown (mvT hZ w1) (mvT hZ w4) (mvT hZ w5) hy (backOf (W := W) hM hZ w5 w6 hf hl) (g := mkF m pc Ls st) rfl hsize (Steps.refl _) (a := b) (argsL := argsL) (rest := rest) (lenOf hpd hlen) hst (by show 2 * 0 + _ ≤ _; omega) hd (fun _ _ => ⟨has, eT, hc, hs⟩)
  dsimp only [Pt.U, Pt.locs, Pt.cells, Pt.slots] at X' l1 y1 z1 st' hQ
  subst l1 y1 z1
  exact ⟨v, T', Lc, X', hQ, fun t k => st'.trans k⟩
end Calls
section Facts
variable {Z : State} {h : Heap} {a b : Addr} {C F D K O n d : String} {v w : Value}
theorem own_fld_fun (F1 : Fld Z h a C n d v) (F2 : Fld Z h a C n d w) : v = w := by
  obtain ⟨c1, cf1, k1, i1, f1, h1, h2, h3, h4, h5, h6, h7⟩ := F1
  obtain ⟨c2, cf2, k2, i2, f2, g1, g2, g3, g4, g5, g6, g7⟩ := F2
  cases h1.symm.trans g1
  cases h2.symm.trans g2
  exact Option.some.inj (h7.symm.trans g7)
theorem own_ne {i j : Int32} (F1 : Fld Z h a C n d (.int i)) (F2 : Fld Z h b C n d (.int j)) (hij : i ≠ j) : a ≠ b := fun e => by
  subst e; exact hij (Value.int.inj (own_fld_fun F1 F2))
theorem own_sta {args : Array Value} (hn : (Jvm.Cond.exactly (.static C F D) K).value args Z none Z [] = some true) (hi : (Jvm.Cond.initialized C).before args Z = true) (hl : (Jvm.Cond.laysStatic C F D).before args Z = true) :
    ∃ w : Addr, Sta Z Z.heap C F D (.ref w) ∧ Exa Z Z.heap w K ∧ (Term.static C F D).eval args Z none [] Z = some (.ref w) := by
  obtain ⟨a', c', cell, k, e1, -⟩ := Cond.exactly_spec (Cond.before_iff.mpr hn)
  exact ⟨a', Sta.start e1 (Or.inr ⟨hi, hl⟩), Exa.start e1 hn, e1⟩
theorem own_ord {args : Array Value} {k : Int32} {t : Term} (hn : (Jvm.Cond.eq (.field t O n d) (.int k)).value args Z none Z [] = some true) (ev : t.eval args Z none [] Z = some (.ref a)) : Fld Z Z.heap a O n d (.int k) := by
  refine Fld.start ?_
  simp only [Jvm.Cond.value, Term.eval, ev] at hn
  cases hq : Z.fieldOf? a O n d with
  | none => simp [hq] at hn
  | some v => cases v <;> simp_all
theorem own_fref {args : Array Value} {t u : Term} (hn : (Jvm.Cond.eq (.field t O n d) u).value args Z none Z [] = some true) (ev : t.eval args Z none [] Z = some (.ref a)) (eu : u.eval args Z none [] Z = some (.ref b)) : Fld Z Z.heap a O n d (.ref b) := by
  refine Fld.start ?_
  simp only [Jvm.Cond.value, Term.eval, ev, eu] at hn
  cases hq : Z.fieldOf? a O n d with
  | none => simp [hq] at hn
  | some v => cases v <;> simp_all
theorem own_arrOf {args : Array Value} {t : Term} {ty : FieldType} (hn : (Jvm.Cond.arrayOf t ty).value args Z none Z [] = some true) : ∃ a c, t.eval args Z none [] Z = some (.ref a) ∧ Arr Z Z.heap a c ty := by
  cases hq : t.eval args Z none [] Z with
  | none => simp [Jvm.Cond.value, hq] at hn
  | some v =>
    cases v with
    | ref a => obtain ⟨c, A⟩ := Arr.start hq hn; exact ⟨a, c, rfl, A⟩
    | _ => simp [Jvm.Cond.value, hq] at hn
theorem own_arrLen {args : Array Value} {t : Term} {ty : FieldType} {cl : Cell} {k : Int32} (A : Arr Z Z.heap a cl ty) (ev : t.eval args Z none [] Z = some (.ref a)) (hn : (Jvm.Cond.eq (.length t) (.int k)).value args Z none Z [] = some true) : cl.slots.size < 2 ^ 31 ∧ cl.slots.size.toInt32 = k := by
  have hA : Z.arrayAt? a = some cl := A.fin (Vm.Alike.refl _)
  by_cases q : cl.slots.size < 2 ^ 31
  · refine ⟨q, ?_⟩
    have e : (Term.length t).eval args Z none [] Z = some (.int cl.slots.size.toInt32) := by simp [Term.eval, ev, hA, q]
    have e2 : (Term.int k).eval args Z none [] Z = some (.int k) := rfl
    simp only [Jvm.Cond.value, e, e2] at hn
    simpa using hn
  · have e : (Term.length t).eval args Z none [] Z = none := by simp [Term.eval, ev, hA, q]
    simp [Jvm.Cond.value, e] at hn
theorem own_arrElem {args : Array Value} {t u : Term} {ty : FieldType} {cl : Cell} {j : Int32} (A : Arr Z Z.heap a cl ty) (ev : t.eval args Z none [] Z = some (.ref a)) (eu : u.eval args Z none [] Z = some (.ref b)) (hj : ¬ j < 0) (hn : (Jvm.Cond.eq (.elem t (.int j)) u).value args Z none Z [] = some true) : cl.slots[j.toNatClampNeg]? = some (.ref b) := by
  have hA : Z.arrayAt? a = some cl := A.fin (Vm.Alike.refl _)
  have e : (Term.elem t (.int j)).eval args Z none [] Z = cl.slots[j.toNatClampNeg]? := by simp [Term.eval, ev, hA, hj]
  cases hq : cl.slots[j.toNatClampNeg]? with
  | none => rw [hq] at e; simp [Jvm.Cond.value, e] at hn
  | some v => rw [hq] at e; simp only [Jvm.Cond.value, e, eu] at hn; cases v <;> simp_all
theorem own_zand (x : Int32) : (0 : Int32) &&& x = (0 : Int32) := Int32.zero_and
theorem own_nin {x a : Addr} {ws : List Addr} (h : x ≠ a) (k : x ∉ ws) : x ∉ a :: ws := fun q => (List.mem_cons.mp q).elim h k
theorem own_plain {K : String} {ws : List Addr} (E : Exa Z h a K) (k : ∀ x ∈ ws, ∃ K', Exa Z h x K') : ∀ x ∈ a :: ws, ∃ K', Exa Z h x K' := fun x q => (List.mem_cons.mp q).elim (fun e => ⟨K, e ▸ E⟩) (k x)
theorem own_sta_keep {h' : Heap} {ws : List Addr} (S : Sta Z h C n d v) (K : Keep h h' ws) (hp : ∀ x ∈ ws, ∃ K', Exa Z h x K') : Sta Z h' C n d v := by
  obtain ⟨cf, i, k, f, st, cell, h1, h2, h3, h4, h5, h6, h7⟩ := S
  refine ⟨cf, i, k, f, st, cell, h1, h2, h3, h4, K.2.1 _ _ h5 fun q => ?_, h6, h7⟩
  obtain ⟨K', cl, kk, e1, -, -, e4, -⟩ := hp _ q
  cases h5.symm.trans e1
  rw [e4] at h6; cases h6
theorem own_mem1 {h0 : Heap} {ws : List Addr} {a : Addr} (q : a ∈ ws ∨ h0.size ≤ a) : ∀ x ∈ [a], x ∈ ws ∨ h0.size ≤ x := fun x hx => by cases List.mem_singleton.mp hx; exact q
theorem own_mem2 {h0 : Heap} {ws : List Addr} {a b : Addr} (q : a ∈ ws ∨ h0.size ≤ a) (r : b ∈ ws ∨ h0.size ≤ b) : ∀ x ∈ [a, b], x ∈ ws ∨ h0.size ≤ x := fun x hx => by
  rcases List.mem_cons.mp hx with rfl | hx
  · exact q
  · cases List.mem_singleton.mp hx; exact r
theorem own_fitR {ty : FieldType} (ht : ty.isReference = true) (hv : v.isRef = true) : fits ty v = true := by cases ty <;> first | (cases ht; done) | (cases v <;> first | rfl | cases hv)
theorem own_narR {ty : FieldType} (ht : ty.isReference = true) (hv : v.isRef = true) : narrow ty v = v := by cases ty <;> first | (cases ht; done) | (cases v <;> first | rfl | cases hv)
theorem own_bit {z : Int32} (hz : z = 0 ∨ z = 1) : z &&& 1 = z := by rcases hz with rfl | rfl <;> decide
theorem own_narZ {z : Int32} (hz : z = 0 ∨ z = 1) : narrow .boolean (.int z) = .int z := by rcases hz with rfl | rfl <;> rfl
theorem own_fitZ {z : Int32} (hz : z = 0 ∨ z = 1) : fits .boolean (.int z) = true := by rcases hz with rfl | rfl <;> rfl
theorem own_pad {dv : Value} (k : Nat) (i : Nat) : (List.replicate k dv).getD i dv = ([] : List Value).getD i dv := by
  simp only [List.getD, List.getElem?_replicate]
  split <;> rfl
end Facts
end Own
section G
variable {p : Program} {l : Launch} {e : Env} {R : Room} {s : State} {m : MethodId} {args : Array Value} {below : List Frame} {meth : Method} {c : Code} {T : State} {locs : List Loc} {cells slots : Nat} {pc : Nat} {Ls : Array Slot} {st : List Value} {P : Outcome → State → Prop}
theorem g_iloadN (X : Stand p l e R s m args below meth c T locs cells slots) (hx : p.tables.exec = Jvm.exec) {k : Fin 4} {v : Int32} (hd : decode c.code pc = .ok (.iload_n k, 1)) (hl : Ls[k.val]? = some (.val (.int v))) (hr : Go p e below (T.setTop (mkF m (pc + 1) Ls (.int v :: st))) P) : Go p e below (T.setTop (mkF m pc Ls st)) P := Go.mp (fun _ k => XS.iloadN X.here hx rfl hd hl k) hr
theorem g_iload (X : Stand p l e R s m args below meth c T locs cells slots) (hx : p.tables.exec = Jvm.exec) {k : Nat} {v : Int32} (hd : decode c.code pc = .ok (.iload k, 2)) (hl : Ls[k]? = some (.val (.int v))) (hr : Go p e below (T.setTop (mkF m (pc + 2) Ls (.int v :: st))) P) : Go p e below (T.setTop (mkF m pc Ls st)) P := Go.mp (fun _ k => XS.iload X.here hx rfl hd hl k) hr
theorem g_lloadN (X : Stand p l e R s m args below meth c T locs cells slots) (hx : p.tables.exec = Jvm.exec) {k : Fin 4} {v : Int64} (hd : decode c.code pc = .ok (.lload_n k, 1)) (hl : Ls[k.val]? = some (.val (.long v))) (hr : Go p e below (T.setTop (mkF m (pc + 1) Ls (.long v :: st))) P) : Go p e below (T.setTop (mkF m pc Ls st)) P := Go.mp (fun _ k => XS.lloadN X.here hx rfl hd hl k) hr
theorem g_lload (X : Stand p l e R s m args below meth c T locs cells slots) (hx : p.tables.exec = Jvm.exec) {k : Nat} {v : Int64} (hd : decode c.code pc = .ok (.lload k, 2)) (hl : Ls[k]? = some (.val (.long v))) (hr : Go p e below (T.setTop (mkF m (pc + 2) Ls (.long v :: st))) P) : Go p e below (T.setTop (mkF m pc Ls st)) P := Go.mp (fun _ k => XS.lload X.here hx rfl hd hl k) hr
theorem g_aloadN (X : Stand p l e R s m args below meth c T locs cells slots) (hx : p.tables.exec = Jvm.exec) {k : Fin 4} {v : Value} (hd : decode c.code pc = .ok (.aload_n k, 1)) (hl : Ls[k.val]? = some (.val v)) (hv : v.isRef = true) (hr : Go p e below (T.setTop (mkF m (pc + 1) Ls (v :: st))) P) : Go p e below (T.setTop (mkF m pc Ls st)) P := Go.mp (fun _ k => XS.aloadN X.here hx rfl hd hl hv k) hr
theorem g_aload (X : Stand p l e R s m args below meth c T locs cells slots) (hx : p.tables.exec = Jvm.exec) {k : Nat} {v : Value} (hd : decode c.code pc = .ok (.aload k, 2)) (hl : Ls[k]? = some (.val v)) (hv : v.isRef = true) (hr : Go p e below (T.setTop (mkF m (pc + 2) Ls (v :: st))) P) : Go p e below (T.setTop (mkF m pc Ls st)) P := Go.mp (fun _ k => XS.aload X.here hx rfl hd hl hv k) hr
theorem g_istoreN (X : Stand p l e R s m args below meth c T locs cells slots) (hx : p.tables.exec = Jvm.exec) {k : Fin 4} {v : Int32} (l' : Array Slot) (hd : decode c.code pc = .ok (.istore_n k, 1)) (hl : storeLocals Ls k.val (.int v) = some l') (hr : Go p e below (T.setTop (mkF m (pc + 1) l' st)) P) : Go p e below (T.setTop (mkF m pc Ls (.int v :: st))) P := Go.mp (fun _ k => XS.istoreN X.here hx rfl hd rfl hl k) hr
theorem g_istore (X : Stand p l e R s m args below meth c T locs cells slots) (hx : p.tables.exec = Jvm.exec) {k : Nat} {v : Int32} (l' : Array Slot) (hd : decode c.code pc = .ok (.istore k, 2)) (hl : storeLocals Ls k (.int v) = some l') (hr : Go p e below (T.setTop (mkF m (pc + 2) l' st)) P) : Go p e below (T.setTop (mkF m pc Ls (.int v :: st))) P := Go.mp (fun _ k => XS.istore X.here hx rfl hd rfl hl k) hr
theorem g_astoreN (X : Stand p l e R s m args below meth c T locs cells slots) (hx : p.tables.exec = Jvm.exec) {k : Fin 4} {v : Value} (l' : Array Slot) (hd : decode c.code pc = .ok (.astore_n k, 1)) (hv : v.isRef = true) (hl : storeLocals Ls k.val v = some l') (hr : Go p e below (T.setTop (mkF m (pc + 1) l' st)) P) : Go p e below (T.setTop (mkF m pc Ls (v :: st))) P := Go.mp (fun _ k => XS.astoreN X.here hx rfl hd rfl hv hl k) hr
theorem g_astore (X : Stand p l e R s m args below meth c T locs cells slots) (hx : p.tables.exec = Jvm.exec) {k : Nat} {v : Value} (l' : Array Slot) (hd : decode c.code pc = .ok (.astore k, 2)) (hv : v.isRef = true) (hl : storeLocals Ls k v = some l') (hr : Go p e below (T.setTop (mkF m (pc + 2) l' st)) P) : Go p e below (T.setTop (mkF m pc Ls (v :: st))) P := Go.mp (fun _ k => XS.astore X.here hx rfl hd rfl hv hl k) hr
theorem g_iconst (X : Stand p l e R s m args below meth c T locs cells slots) (hx : p.tables.exec = Jvm.exec) {i : Int} (v : Int32) (hd : decode c.code pc = .ok (.iconst i, 1)) (hv : Int32.ofInt i = v) (hr : Go p e below (T.setTop (mkF m (pc + 1) Ls (.int v :: st))) P) : Go p e below (T.setTop (mkF m pc Ls st)) P := Go.mp (fun _ k => XT.iconstV X.here hx rfl v hd hv k) hr
theorem g_bipush (X : Stand p l e R s m args below meth c T locs cells slots) (hx : p.tables.exec = Jvm.exec) {i : Int} (v : Int32) (hd : decode c.code pc = .ok (.bipush i, 2)) (hv : (Int8.ofInt i).toInt32 = v) (hr : Go p e below (T.setTop (mkF m (pc + 2) Ls (.int v :: st))) P) : Go p e below (T.setTop (mkF m pc Ls st)) P := Go.mp (fun _ k => XT.bipushV X.here hx rfl v hd hv k) hr
theorem g_sipush (X : Stand p l e R s m args below meth c T locs cells slots) (hx : p.tables.exec = Jvm.exec) {i : Int} (v : Int32) (hd : decode c.code pc = .ok (.sipush i, 3)) (hv : (Int16.ofInt i).toInt32 = v) (hr : Go p e below (T.setTop (mkF m (pc + 3) Ls (.int v :: st))) P) : Go p e below (T.setTop (mkF m pc Ls st)) P := Go.mp (fun _ k => XT.sipushV X.here hx rfl v hd hv k) hr
theorem g_null (X : Stand p l e R s m args below meth c T locs cells slots) (hx : p.tables.exec = Jvm.exec) (hd : decode c.code pc = .ok (.aconst_null, 1)) (hr : Go p e below (T.setTop (mkF m (pc + 1) Ls (.null :: st))) P) : Go p e below (T.setTop (mkF m pc Ls st)) P := Go.mp (fun _ k => XS.aconstNull X.here hx rfl hd k) hr
theorem g_iadd (X : Stand p l e R s m args below meth c T locs cells slots) (hx : p.tables.exec = Jvm.exec) {x y : Int32} (hd : decode c.code pc = .ok (.iadd, 1)) (hr : Go p e below (T.setTop (mkF m (pc + 1) Ls (.int (x + y) :: st))) P) : Go p e below (T.setTop (mkF m pc Ls (.int y :: .int x :: st))) P := Go.mp (fun _ k => XS.iadd X.here hx rfl hd rfl k) hr
theorem g_isub (X : Stand p l e R s m args below meth c T locs cells slots) (hx : p.tables.exec = Jvm.exec) {x y : Int32} (hd : decode c.code pc = .ok (.isub, 1)) (hr : Go p e below (T.setTop (mkF m (pc + 1) Ls (.int (x - y) :: st))) P) : Go p e below (T.setTop (mkF m pc Ls (.int y :: .int x :: st))) P := Go.mp (fun _ k => XS.isub X.here hx rfl hd rfl k) hr
theorem g_iand (X : Stand p l e R s m args below meth c T locs cells slots) (hx : p.tables.exec = Jvm.exec) {x y : Int32} (hd : decode c.code pc = .ok (.iand, 1)) (hr : Go p e below (T.setTop (mkF m (pc + 1) Ls (.int (x &&& y) :: st))) P) : Go p e below (T.setTop (mkF m pc Ls (.int y :: .int x :: st))) P := Go.mp (fun _ k => XS.iand X.here hx rfl hd rfl k) hr
theorem g_ior (X : Stand p l e R s m args below meth c T locs cells slots) (hx : p.tables.exec = Jvm.exec) {x y : Int32} (hd : decode c.code pc = .ok (.ior, 1)) (hr : Go p e below (T.setTop (mkF m (pc + 1) Ls (.int (x ||| y) :: st))) P) : Go p e below (T.setTop (mkF m pc Ls (.int y :: .int x :: st))) P := Go.mp (fun _ k => XS.ior X.here hx rfl hd rfl k) hr
theorem g_ixor (X : Stand p l e R s m args below meth c T locs cells slots) (hx : p.tables.exec = Jvm.exec) {x y : Int32} (hd : decode c.code pc = .ok (.ixor, 1)) (hr : Go p e below (T.setTop (mkF m (pc + 1) Ls (.int (x ^^^ y) :: st))) P) : Go p e below (T.setTop (mkF m pc Ls (.int y :: .int x :: st))) P := Go.mp (fun _ k => XS.ixor X.here hx rfl hd rfl k) hr
theorem g_dup (X : Stand p l e R s m args below meth c T locs cells slots) (hx : p.tables.exec = Jvm.exec) {x : Value} (hd : decode c.code pc = .ok (.dup, 1)) (hc : x.category = 1) (hr : Go p e below (T.setTop (mkF m (pc + 1) Ls (x :: x :: st))) P) : Go p e below (T.setTop (mkF m pc Ls (x :: st))) P := Go.mp (fun _ k => XS.dup X.here hx rfl hd rfl hc k) hr
theorem g_pop (X : Stand p l e R s m args below meth c T locs cells slots) (hx : p.tables.exec = Jvm.exec) {x : Value} (hd : decode c.code pc = .ok (.pop, 1)) (hc : x.category = 1) (hr : Go p e below (T.setTop (mkF m (pc + 1) Ls st)) P) : Go p e below (T.setTop (mkF m pc Ls (x :: st))) P := Go.mp (fun _ k => XS.pop X.here hx rfl hd rfl hc k) hr
theorem g_goto (X : Stand p l e R s m args below meth c T locs cells slots) (hx : p.tables.exec = Jvm.exec) {o : Int} (pc' : Nat) (hd : decode c.code pc = .ok (.goto o, 3)) (ho : 0 ≤ (pc : Int) + o) (hp : ((pc : Int) + o).toNat = pc') (hr : Go p e below (T.setTop (mkF m pc' Ls st)) P) : Go p e below (T.setTop (mkF m pc Ls st)) P := Go.mp (fun _ k => XS.goto X.here hx rfl (pc0 := pc) (pc' := pc') rfl hd ho hp k) hr
theorem g_ifYes (X : Stand p l e R s m args below meth c T locs cells slots) (hx : p.tables.exec = Jvm.exec) {cd : ClassFile.Cond} {x : Int32} {o : Int} (pc' : Nat) (hd : decode c.code pc = .ok (.ifCond cd o, 3)) (hc : ifCond.holds cd x = true) (ho : 0 ≤ (pc : Int) + o) (hp : ((pc : Int) + o).toNat = pc') (hr : Go p e below (T.setTop (mkF m pc' Ls st)) P) : Go p e below (T.setTop (mkF m pc Ls (.int x :: st))) P := Go.mp (fun _ k => XS.ifYes X.here hx rfl (pc0 := pc) (pc' := pc') rfl hd rfl hc ho hp k) hr
theorem g_ifNo (X : Stand p l e R s m args below meth c T locs cells slots) (hx : p.tables.exec = Jvm.exec) {cd : ClassFile.Cond} {x : Int32} {o : Int} (hd : decode c.code pc = .ok (.ifCond cd o, 3)) (hc : ifCond.holds cd x = false) (hr : Go p e below (T.setTop (mkF m (pc + 3) Ls st)) P) : Go p e below (T.setTop (mkF m pc Ls (.int x :: st))) P := Go.mp (fun _ k => XS.ifNo X.here hx rfl hd rfl hc k) hr
theorem g_icmpYes (X : Stand p l e R s m args below meth c T locs cells slots) (hx : p.tables.exec = Jvm.exec) {cd : ClassFile.Cond} {x y : Int32} {o : Int} (pc' : Nat) (hd : decode c.code pc = .ok (.if_icmp cd o, 3)) (hc : if_icmp.holds cd x y = true) (ho : 0 ≤ (pc : Int) + o) (hp : ((pc : Int) + o).toNat = pc') (hr : Go p e below (T.setTop (mkF m pc' Ls st)) P) : Go p e below (T.setTop (mkF m pc Ls (.int y :: .int x :: st))) P := Go.mp (fun _ k => XS.icmpYes X.here hx rfl (pc0 := pc) (pc' := pc') rfl hd rfl hc ho hp k) hr
theorem g_icmpNo (X : Stand p l e R s m args below meth c T locs cells slots) (hx : p.tables.exec = Jvm.exec) {cd : ClassFile.Cond} {x y : Int32} {o : Int} (hd : decode c.code pc = .ok (.if_icmp cd o, 3)) (hc : if_icmp.holds cd x y = false) (hr : Go p e below (T.setTop (mkF m (pc + 3) Ls st)) P) : Go p e below (T.setTop (mkF m pc Ls (.int y :: .int x :: st))) P := Go.mp (fun _ k => XS.icmpNo X.here hx rfl hd rfl hc k) hr
theorem g_acmp (X : Stand p l e R s m args below meth c T locs cells slots) (hx : p.tables.exec = Jvm.exec) {cd : ACond} {x y : Value} {o : Int} (pc' : Nat) (same : Bool) (h1 : x.isRef = true) (h2 : y.isRef = true) (hd : decode c.code pc = .ok (.if_acmp cd o, 3)) (hq : decide (x = y) = same) (ho : 0 ≤ (pc : Int) + o) (hp : pc' = if acV cd same = true then ((pc : Int) + o).toNat else pc + 3) (hr : Go p e below (T.setTop (mkF m pc' Ls st)) P) : Go p e below (T.setTop (mkF m pc Ls (y :: x :: st))) P := Go.mp (fun _ k => Jvm.RoadKit.acmp (g := mkF m pc Ls (y :: x :: st)) X hx rfl h1 h2 (pc0 := pc) (pc' := pc') (same := same) rfl hd rfl hq ho hp k) hr
theorem g_irem (X : Stand p l e R s m args below meth c T locs cells slots) (hx : p.tables.exec = Jvm.exec) {x y : Int32} (hd : decode c.code pc = .ok (.irem, 1)) (hy : y ≠ 0) (hr : Go p e below (T.setTop (mkF m (pc + 1) Ls (.int (x % y) :: st))) P) : Go p e below (T.setTop (mkF m pc Ls (.int y :: .int x :: st))) P := Go.mp (fun _ k => iremM X hx rfl hd rfl hy k) hr
end G
theorem pn_0 : plainName "com/example/tektonik/tektonik/describe/Form" = true := by first | (simp [plainName, overriddenIn]; done) | decide +kernel
def f_withF (a1 : Addr) (a2 : Addr) (w_NOT_DEFINED : Addr) (w_HYBRID : Addr) : Addr := (if a1 = w_NOT_DEFINED then a2 else (if a1 = a2 then a2 else (if a2 = w_NOT_DEFINED then a1 else w_HYBRID)))
theorem d1_0 : decode prog_54_method_6_code 0 = .ok (.aload_n 0, 1) := by decide +kernel
theorem d1_1 : decode prog_54_method_6_code 1 = .ok (.getstatic 3, 3) := by decide +kernel
theorem d1_4 : decode prog_54_method_6_code 4 = .ok (.if_acmp .eq 8, 3) := by decide +kernel
theorem d1_7 : decode prog_54_method_6_code 7 = .ok (.aload_n 0, 1) := by decide +kernel
theorem d1_8 : decode prog_54_method_6_code 8 = .ok (.aload_n 1, 1) := by decide +kernel
theorem d1_9 : decode prog_54_method_6_code 9 = .ok (.if_acmp .ne 7, 3) := by decide +kernel
theorem d1_12 : decode prog_54_method_6_code 12 = .ok (.aload_n 1, 1) := by decide +kernel
theorem d1_13 : decode prog_54_method_6_code 13 = .ok (.goto 17, 3) := by decide +kernel
theorem d1_16 : decode prog_54_method_6_code 16 = .ok (.aload_n 1, 1) := by decide +kernel
theorem d1_17 : decode prog_54_method_6_code 17 = .ok (.getstatic 3, 3) := by decide +kernel
theorem d1_20 : decode prog_54_method_6_code 20 = .ok (.if_acmp .ne 7, 3) := by decide +kernel
theorem d1_23 : decode prog_54_method_6_code 23 = .ok (.aload_n 0, 1) := by decide +kernel
theorem d1_24 : decode prog_54_method_6_code 24 = .ok (.goto 6, 3) := by decide +kernel
theorem d1_27 : decode prog_54_method_6_code 27 = .ok (.getstatic 13, 3) := by decide +kernel
theorem d1_30 : decode prog_54_method_6_code 30 = .ok (.areturn, 1) := by decide +kernel
theorem ef_rm_withF (m : MethodId) (x0 : Addr) (x1 : Addr) : entryFrame m #[(.ref x0), (.ref x1)] 2 = mkF m 0 #[.val (.ref x0), .val (.ref x1)] [] := by first | (simp [entryFrame, mkF, argsToLocals, Value.category]; done) | rfl
set_option maxRecDepth 65536 in
set_option maxHeartbeats 40000000 in
theorem rm_withF (l : Launch) (Z : State) (a0 : Array Value) (hw : ∀ d ∈ tables_1, d.before a0 Z = true) (a1 : Addr) (a2 : Addr) (w_NOT_DEFINED : Addr) (w_HYBRID : Addr) (h0 : Heap) (n0 : Nat) (Z0 : n0 ≤ h0.size) (S_NOT_DEFINED : Sta Z h0 "com/example/tektonik/tektonik/describe/Form" "NOT_DEFINED" "Lcom/example/tektonik/tektonik/describe/Form;" (.ref w_NOT_DEFINED)) (S_HYBRID : Sta Z h0 "com/example/tektonik/tektonik/describe/Form" "HYBRID" "Lcom/example/tektonik/tektonik/describe/Form;" (.ref w_HYBRID)) :
    Ctr l (⟨"com/example/tektonik/tektonik/describe/Form", "with", "(Lcom/example/tektonik/tektonik/describe/Form;)Lcom/example/tektonik/tektonik/describe/Form;"⟩ : MethodName) prog_54_method_6_code 2 (some (FieldType.object "com/example/tektonik/tektonik/describe/Form")) [] ({ frames := 0, cells := 0, slots := 0, locals := 0 } : Room) Z #[(.ref a1), (.ref a2)] h0 (fun v h L => v = some (.ref (f_withF a1 a2 w_NOT_DEFINED w_HYBRID)) ∧ Fr n0 L ∧ h = h0) := by
  refine own_enter pn_0 (fun p e s m below meth c s₁ hx hby hml hown hnm hret hlk hZ X0 e0 => ?_)
  have N0 := Fr.nil n0
  rw [ef_rm_withF m _ _]
  show Go p e below (s₁.setTop (mkF m 0 #[.val (.ref a1), .val (.ref a2)] [])) _
  refine g_aloadN X0 hx (hb hby d1_0) rfl rfl ?_
  obtain ⟨T1, X1, e1, st1⟩ := getS2 X0 hx hZ hown (host := "") (Or.inl (hw _ (List.mem_of_getElem? (i := 17) rfl))) Via.refl e0 S_NOT_DEFINED (g := (mkF m 1 #[.val (.ref a1), .val (.ref a2)] [(.ref a1)])) rfl (hb hby d1_1)
  refine Go.mp st1 ?_
  show Go p e below (T1.setTop (mkF m 4 #[.val (.ref a1), .val (.ref a2)] [(.ref w_NOT_DEFINED), (.ref a1)])) _
  by_cases c4_2 : a1 = w_NOT_DEFINED
  · refine g_acmp X1 hx 12 true rfl rfl (hb hby d1_4) (decide_eq_true (congrArg Value.ref c4_2)) (by decide) (by decide) ?_
    refine g_aloadN X1 hx (hb hby d1_12) rfl rfl ?_
    refine g_goto X1 hx 30 (hb hby d1_13) (by decide) (by decide) ?_
    exact own_retA X1 hx hret hlk rfl rfl (hb hby d1_30) (by decide) (by decide) ⟨by rw [f_withF, if_pos c4_2], N0, e1⟩
  · refine g_acmp X1 hx 7 false rfl rfl (hb hby d1_4) (decide_eq_false fun q => c4_2 (Value.ref.inj q)) (by decide) (by decide) ?_
    refine g_aloadN X1 hx (hb hby d1_7) rfl rfl ?_
    refine g_aloadN X1 hx (hb hby d1_8) rfl rfl ?_
    by_cases c9_3 : a1 = a2
    · refine g_acmp X1 hx 12 true rfl rfl (hb hby d1_9) (decide_eq_true (congrArg Value.ref c9_3)) (by decide) (by decide) ?_
      refine g_aloadN X1 hx (hb hby d1_12) rfl rfl ?_
      refine g_goto X1 hx 30 (hb hby d1_13) (by decide) (by decide) ?_
      exact own_retA X1 hx hret hlk rfl rfl (hb hby d1_30) (by decide) (by decide) ⟨by rw [f_withF, if_neg c4_2, if_pos c9_3], N0, e1⟩
    · refine g_acmp X1 hx 16 false rfl rfl (hb hby d1_9) (decide_eq_false fun q => c9_3 (Value.ref.inj q)) (by decide) (by decide) ?_
      refine g_aloadN X1 hx (hb hby d1_16) rfl rfl ?_
      obtain ⟨T4, X4, e4, st4⟩ := getS2 X1 hx hZ hown (host := "") (Or.inl (hw _ (List.mem_of_getElem? (i := 17) rfl))) Via.refl e1 S_NOT_DEFINED (g := (mkF m 17 #[.val (.ref a1), .val (.ref a2)] [(.ref a2)])) rfl (hb hby d1_17)
      refine Go.mp st4 ?_
      show Go p e below (T4.setTop (mkF m 20 #[.val (.ref a1), .val (.ref a2)] [(.ref w_NOT_DEFINED), (.ref a2)])) _
      by_cases c20_5 : a2 = w_NOT_DEFINED
      · refine g_acmp X4 hx 23 true rfl rfl (hb hby d1_20) (decide_eq_true (congrArg Value.ref c20_5)) (by decide) (by decide) ?_
        refine g_aloadN X4 hx (hb hby d1_23) rfl rfl ?_
        refine g_goto X4 hx 30 (hb hby d1_24) (by decide) (by decide) ?_
        exact own_retA X4 hx hret hlk rfl rfl (hb hby d1_30) (by decide) (by decide) ⟨by rw [f_withF, if_neg c4_2, if_neg c9_3, if_pos c20_5], N0, e4⟩
      · refine g_acmp X4 hx 27 false rfl rfl (hb hby d1_20) (decide_eq_false fun q => c20_5 (Value.ref.inj q)) (by decide) (by decide) ?_
        obtain ⟨T6, X6, e6, st6⟩ := getS2 X4 hx hZ hown (host := "") (Or.inl (hw _ (List.mem_of_getElem? (i := 18) rfl))) Via.refl e4 S_HYBRID (g := (mkF m 27 #[.val (.ref a1), .val (.ref a2)] [])) rfl (hb hby d1_27)
        refine Go.mp st6 ?_
        show Go p e below (T6.setTop (mkF m 30 #[.val (.ref a1), .val (.ref a2)] [(.ref w_HYBRID)])) _
        exact own_retA X6 hx hret hlk rfl rfl (hb hby d1_30) (by decide) (by decide) ⟨by rw [f_withF, if_neg c4_2, if_neg c9_3, if_neg c20_5], N0, e6⟩
theorem own_and3 (x : Int32) : (x &&& (3 : Int32)) = (0 : Int32) ∨ (x &&& (3 : Int32)) = (1 : Int32) ∨ (x &&& (3 : Int32)) = (2 : Int32) ∨ (x &&& (3 : Int32)) = (3 : Int32) := by
  have b := c_mask x (3 : Int32) 2 (by decide) (by decide)
  simp only [← Int32.toInt_inj, b, Int32.reduceToInt]
  omega
theorem pd_0 : parseMethodDescriptor "(Lcom/example/tektonik/tektonik/describe/Form;)Lcom/example/tektonik/tektonik/describe/Form;" = some ⟨[(FieldType.object "com/example/tektonik/tektonik/describe/Form")], some (FieldType.object "com/example/tektonik/tektonik/describe/Form")⟩ := by decide +kernel
theorem pn_1 : plainName "com/example/tektonik/tektonik/describe/FormWithPinLaw" = true := by first | (simp [plainName, overriddenIn]; done) | decide +kernel
theorem ef_rm_law (m : MethodId) (x0 : Int32) (x1 : Int32) : entryFrame m #[(.int x0), (.int x1)] maxLocals = mkF m 0 #[.val (.int x0), .val (.int x1), .unset, .unset, .unset, .unset] [] := by first | (simp [entryFrame, mkF, argsToLocals, Value.category, maxLocals]; done) | rfl
set_option maxRecDepth 65536 in
set_option maxHeartbeats 40000000 in
theorem rm_law (l : Launch) (Z : State) (a0 : Array Value) (hw : ∀ d ∈ tables_1, d.before a0 Z = true) (p1 : Int32) (p2 : Int32) (w_NOT_DEFINED : Addr) (w_DIGITAL : Addr) (w_ANALOG : Addr) (w_HYBRID : Addr) (h0 : Heap) (n0 : Nat) (Z0 : n0 ≤ h0.size) (S_NOT_DEFINED : Sta Z h0 "com/example/tektonik/tektonik/describe/Form" "NOT_DEFINED" "Lcom/example/tektonik/tektonik/describe/Form;" (.ref w_NOT_DEFINED)) (E_w_NOT_DEFINED : Exa Z h0 w_NOT_DEFINED "com/example/tektonik/tektonik/describe/Form") (S_DIGITAL : Sta Z h0 "com/example/tektonik/tektonik/describe/Form" "DIGITAL" "Lcom/example/tektonik/tektonik/describe/Form;" (.ref w_DIGITAL)) (E_w_DIGITAL : Exa Z h0 w_DIGITAL "com/example/tektonik/tektonik/describe/Form") (S_ANALOG : Sta Z h0 "com/example/tektonik/tektonik/describe/Form" "ANALOG" "Lcom/example/tektonik/tektonik/describe/Form;" (.ref w_ANALOG)) (E_w_ANALOG : Exa Z h0 w_ANALOG "com/example/tektonik/tektonik/describe/Form") (S_HYBRID : Sta Z h0 "com/example/tektonik/tektonik/describe/Form" "HYBRID" "Lcom/example/tektonik/tektonik/describe/Form;" (.ref w_HYBRID)) (E_w_HYBRID : Exa Z h0 w_HYBRID "com/example/tektonik/tektonik/describe/Form") (ne_ANALOG_NOT_DEFINED : ¬ (w_ANALOG = w_NOT_DEFINED)) (ne_ANALOG_DIGITAL : ¬ (w_ANALOG = w_DIGITAL)) (ne_ANALOG_HYBRID : ¬ (w_ANALOG = w_HYBRID)) (ne_NOT_DEFINED_DIGITAL : ¬ (w_NOT_DEFINED = w_DIGITAL)) (ne_NOT_DEFINED_HYBRID : ¬ (w_NOT_DEFINED = w_HYBRID)) (ne_DIGITAL_HYBRID : ¬ (w_DIGITAL = w_HYBRID)) :
    Ctr l x code maxLocals ret tables_1 room_1 Z #[(.int p1), (.int p2)] h0 (fun v h L => v = some (.int 1) ∧ Fr n0 L) := by
  refine own_enter pn_1 (fun p e s m below meth c s₁ hx hby hml hown hnm hret hlk hZ X0 e0 => ?_)
  have N0 := Fr.nil n0
  rw [ef_rm_law m _ _]
  show Go p e below (s₁.setTop (mkF m 0 #[.val (.int p1), .val (.int p2), .unset, .unset, .unset, .unset] [])) _
  refine g_iloadN X0 hx (hb hby at_0) rfl ?_
  refine g_iconst X0 hx (3 : Int32) (hb hby at_1) (by decide) ?_
  refine g_iand X0 hx (hb hby at_2) ?_
  refine g_istoreN X0 hx #[.val (.int p1), .val (.int p2), .val (.int (p1 &&& (3 : Int32))), .unset, .unset, .unset] (hb hby at_3) rfl ?_
  refine g_iloadN X0 hx (hb hby at_4) rfl ?_
  refine g_iconst X0 hx (3 : Int32) (hb hby at_5) (by decide) ?_
  refine g_iand X0 hx (hb hby at_6) ?_
  refine g_istoreN X0 hx #[.val (.int p1), .val (.int p2), .val (.int (p1 &&& (3 : Int32))), .val (.int (p2 &&& (3 : Int32))), .unset, .unset] (hb hby at_7) rfl ?_
  refine g_iconst X0 hx (4 : Int32) (hb hby at_8) (by decide) ?_
  obtain ⟨T1, h1, k1, X1, e1, E1, A1, O1, st1⟩ := newR X0 hx hZ hown (hw _ (List.mem_of_getElem? (i := 0) rfl)) (hw _ (List.mem_of_getElem? (i := 1) rfl)) e0 (g := (mkF m 9 #[.val (.int p1), .val (.int p2), .val (.int (p1 &&& (3 : Int32))), .val (.int (p2 &&& (3 : Int32))), .unset, .unset] [(.int (4 : Int32))])) rfl (hb hby at_9) rfl (by decide) (cap := 4) (by decide) (by decide) (by decide) (by decide)
  obtain ⟨b1, g1⟩ : ∃ z, z = h0.size := ⟨_, rfl⟩
  rw [← g1] at A1 st1
  have ne_w_NOT_DEFINED_b1 : w_NOT_DEFINED ≠ b1 := Nat.ne_of_lt (Nat.lt_of_lt_of_le E_w_NOT_DEFINED.lt (Nat.le_of_eq g1.symm))
  have ne_w_DIGITAL_b1 : w_DIGITAL ≠ b1 := Nat.ne_of_lt (Nat.lt_of_lt_of_le E_w_DIGITAL.lt (Nat.le_of_eq g1.symm))
  have ne_w_ANALOG_b1 : w_ANALOG ≠ b1 := Nat.ne_of_lt (Nat.lt_of_lt_of_le E_w_ANALOG.lt (Nat.le_of_eq g1.symm))
  have ne_w_HYBRID_b1 : w_HYBRID ≠ b1 := Nat.ne_of_lt (Nat.lt_of_lt_of_le E_w_HYBRID.lt (Nat.le_of_eq g1.symm))
  have g_b1 : n0 ≤ b1 := Nat.le_trans Z0 (Nat.le_of_eq g1.symm)
  have Z1 : n0 ≤ h1.size := Nat.le_trans Z0 E1.1
  have S_NOT_DEFINED_1 := Sta.ext E1 S_NOT_DEFINED
  have E_w_NOT_DEFINED_1 := Exa.ext E1 E_w_NOT_DEFINED
  have S_DIGITAL_1 := Sta.ext E1 S_DIGITAL
  have E_w_DIGITAL_1 := Exa.ext E1 E_w_DIGITAL
  have S_ANALOG_1 := Sta.ext E1 S_ANALOG
  have E_w_ANALOG_1 := Exa.ext E1 E_w_ANALOG
  have S_HYBRID_1 := Sta.ext E1 S_HYBRID
  have E_w_HYBRID_1 := Exa.ext E1 E_w_HYBRID
  have V1 := Arv.new A1 (by decide)
  refine Go.mp st1 ?_
  have V_b10 := Arv.pad (vs' := List.replicate 4 .null) V1 (own_pad 4)
  show Go p e below (T1.setTop (mkF m 12 #[.val (.int p1), .val (.int p2), .val (.int (p1 &&& (3 : Int32))), .val (.int (p2 &&& (3 : Int32))), .unset, .unset] [(.ref b1)])) _
  refine g_dup X1 hx (hb hby at_12) rfl ?_
  refine g_iconst X1 hx (0 : Int32) (hb hby at_13) (by decide) ?_
  obtain ⟨T2, X2, e2, st2⟩ := getS2 X1 hx hZ hown (host := "") (Or.inl (hw _ (List.mem_of_getElem? (i := 2) rfl))) Via.refl e1 S_NOT_DEFINED_1 (g := (mkF m 14 #[.val (.int p1), .val (.int p2), .val (.int (p1 &&& (3 : Int32))), .val (.int (p2 &&& (3 : Int32))), .unset, .unset] [(.int (0 : Int32)), (.ref b1), (.ref b1)])) rfl (hb hby at_14)
  refine Go.mp st2 ?_
  show Go p e below (T2.setTop (mkF m 17 #[.val (.int p1), .val (.int p2), .val (.int (p1 &&& (3 : Int32))), .val (.int (p2 &&& (3 : Int32))), .unset, .unset] [(.ref w_NOT_DEFINED), (.int (0 : Int32)), (.ref b1), (.ref b1)])) _
  obtain ⟨cl3, Ar3, cq3, sz3, nn3, Ha3, Gf3⟩ := id V_b10
  have hin3 : ¬ ((0 : Int32) < 0 ∨ cl3.slots.size ≤ (0 : Int32).toNatClampNeg) := by rw [sz3]; decide
  have Sto3 : Sto Z h1 b1 (.ref w_NOT_DEFINED) := Sto.of Ar3 (by rw [cq3]; exact O1) (Ins.of_exa E_w_NOT_DEFINED_1 (hw _ (List.mem_of_getElem? (i := 5) rfl)))
  obtain ⟨T3, h3, X3, e3, W3, st3⟩ := stR X2 hx hZ e2 Ar3 (j := 0) hin3 rfl Sto3 (g := (mkF m 17 #[.val (.int p1), .val (.int p2), .val (.int (p1 &&& (3 : Int32))), .val (.int (p2 &&& (3 : Int32))), .unset, .unset] [(.ref w_NOT_DEFINED), (.int (0 : Int32)), (.ref b1), (.ref b1)])) rfl rfl (hb hby at_17)
  have N3 := Fr.snoc X3 N0 g_b1
  have S_NOT_DEFINED_3 := Sta.wr W3 S_NOT_DEFINED_1
  have E_w_NOT_DEFINED_3 := Exa.wr W3 E_w_NOT_DEFINED_1
  have S_DIGITAL_3 := Sta.wr W3 S_DIGITAL_1
  have E_w_DIGITAL_3 := Exa.wr W3 E_w_DIGITAL_1
  have S_ANALOG_3 := Sta.wr W3 S_ANALOG_1
  have E_w_ANALOG_3 := Exa.wr W3 E_w_ANALOG_1
  have S_HYBRID_3 := Sta.wr W3 S_HYBRID_1
  have E_w_HYBRID_3 := Exa.wr W3 E_w_HYBRID_1
  have V_b1_3 := Arv.set Ar3 cq3 sz3 nn3 Ha3 Gf3 (v := (.ref w_NOT_DEFINED)) rfl W3 0 (by decide) (by simp)
  have Z3 : n0 ≤ h3.size := Nat.le_trans Z1 (Nat.le_of_eq W3.size.symm)
  refine Go.mp st3 ?_
  show Go p e below (T3.setTop (mkF m 18 #[.val (.int p1), .val (.int p2), .val (.int (p1 &&& (3 : Int32))), .val (.int (p2 &&& (3 : Int32))), .unset, .unset] [(.ref b1)])) _
  refine g_dup X3 hx (hb hby at_18) rfl ?_
  refine g_iconst X3 hx (1 : Int32) (hb hby at_19) (by decide) ?_
  obtain ⟨T4, X4, e4, st4⟩ := getS2 X3 hx hZ hown (host := "") (Or.inl (hw _ (List.mem_of_getElem? (i := 6) rfl))) Via.refl e3 S_DIGITAL_3 (g := (mkF m 20 #[.val (.int p1), .val (.int p2), .val (.int (p1 &&& (3 : Int32))), .val (.int (p2 &&& (3 : Int32))), .unset, .unset] [(.int (1 : Int32)), (.ref b1), (.ref b1)])) rfl (hb hby at_20)
  refine Go.mp st4 ?_
  show Go p e below (T4.setTop (mkF m 23 #[.val (.int p1), .val (.int p2), .val (.int (p1 &&& (3 : Int32))), .val (.int (p2 &&& (3 : Int32))), .unset, .unset] [(.ref w_DIGITAL), (.int (1 : Int32)), (.ref b1), (.ref b1)])) _
  obtain ⟨cl5, Ar5, cq5, sz5, nn5, Ha5, Gf5⟩ := id V_b1_3
  have hin5 : ¬ ((1 : Int32) < 0 ∨ cl5.slots.size ≤ (1 : Int32).toNatClampNeg) := by rw [sz5]; decide
  have Sto5 : Sto Z h3 b1 (.ref w_DIGITAL) := Sto.of Ar5 (by rw [cq5]; exact O1) (Ins.of_exa E_w_DIGITAL_3 (hw _ (List.mem_of_getElem? (i := 5) rfl)))
  obtain ⟨T5, h5, X5, e5, W5, st5⟩ := stR X4 hx hZ e4 Ar5 (j := 1) hin5 rfl Sto5 (g := (mkF m 23 #[.val (.int p1), .val (.int p2), .val (.int (p1 &&& (3 : Int32))), .val (.int (p2 &&& (3 : Int32))), .unset, .unset] [(.ref w_DIGITAL), (.int (1 : Int32)), (.ref b1), (.ref b1)])) rfl rfl (hb hby at_23)
  have N5 := Fr.snoc X5 N3 g_b1
  have S_NOT_DEFINED_5 := Sta.wr W5 S_NOT_DEFINED_3
  have E_w_NOT_DEFINED_5 := Exa.wr W5 E_w_NOT_DEFINED_3
  have S_DIGITAL_5 := Sta.wr W5 S_DIGITAL_3
  have E_w_DIGITAL_5 := Exa.wr W5 E_w_DIGITAL_3
  have S_ANALOG_5 := Sta.wr W5 S_ANALOG_3
  have E_w_ANALOG_5 := Exa.wr W5 E_w_ANALOG_3
  have S_HYBRID_5 := Sta.wr W5 S_HYBRID_3
  have E_w_HYBRID_5 := Exa.wr W5 E_w_HYBRID_3
  have V_b1_5 := Arv.set Ar5 cq5 sz5 nn5 Ha5 Gf5 (v := (.ref w_DIGITAL)) rfl W5 1 (by decide) (by simp)
  have Z5 : n0 ≤ h5.size := Nat.le_trans Z3 (Nat.le_of_eq W5.size.symm)
  refine Go.mp st5 ?_
  show Go p e below (T5.setTop (mkF m 24 #[.val (.int p1), .val (.int p2), .val (.int (p1 &&& (3 : Int32))), .val (.int (p2 &&& (3 : Int32))), .unset, .unset] [(.ref b1)])) _
  refine g_dup X5 hx (hb hby at_24) rfl ?_
  refine g_iconst X5 hx (2 : Int32) (hb hby at_25) (by decide) ?_
  obtain ⟨T6, X6, e6, st6⟩ := getS2 X5 hx hZ hown (host := "") (Or.inl (hw _ (List.mem_of_getElem? (i := 8) rfl))) Via.refl e5 S_ANALOG_5 (g := (mkF m 26 #[.val (.int p1), .val (.int p2), .val (.int (p1 &&& (3 : Int32))), .val (.int (p2 &&& (3 : Int32))), .unset, .unset] [(.int (2 : Int32)), (.ref b1), (.ref b1)])) rfl (hb hby at_26)
  refine Go.mp st6 ?_
  show Go p e below (T6.setTop (mkF m 29 #[.val (.int p1), .val (.int p2), .val (.int (p1 &&& (3 : Int32))), .val (.int (p2 &&& (3 : Int32))), .unset, .unset] [(.ref w_ANALOG), (.int (2 : Int32)), (.ref b1), (.ref b1)])) _
  obtain ⟨cl7, Ar7, cq7, sz7, nn7, Ha7, Gf7⟩ := id V_b1_5
  have hin7 : ¬ ((2 : Int32) < 0 ∨ cl7.slots.size ≤ (2 : Int32).toNatClampNeg) := by rw [sz7]; decide
  have Sto7 : Sto Z h5 b1 (.ref w_ANALOG) := Sto.of Ar7 (by rw [cq7]; exact O1) (Ins.of_exa E_w_ANALOG_5 (hw _ (List.mem_of_getElem? (i := 5) rfl)))
  obtain ⟨T7, h7, X7, e7, W7, st7⟩ := stR X6 hx hZ e6 Ar7 (j := 2) hin7 rfl Sto7 (g := (mkF m 29 #[.val (.int p1), .val (.int p2), .val (.int (p1 &&& (3 : Int32))), .val (.int (p2 &&& (3 : Int32))), .unset, .unset] [(.ref w_ANALOG), (.int (2 : Int32)), (.ref b1), (.ref b1)])) rfl rfl (hb hby at_29)
  have N7 := Fr.snoc X7 N5 g_b1
  have S_NOT_DEFINED_7 := Sta.wr W7 S_NOT_DEFINED_5
  have E_w_NOT_DEFINED_7 := Exa.wr W7 E_w_NOT_DEFINED_5
  have S_DIGITAL_7 := Sta.wr W7 S_DIGITAL_5
  have E_w_DIGITAL_7 := Exa.wr W7 E_w_DIGITAL_5
  have S_ANALOG_7 := Sta.wr W7 S_ANALOG_5
  have E_w_ANALOG_7 := Exa.wr W7 E_w_ANALOG_5
  have S_HYBRID_7 := Sta.wr W7 S_HYBRID_5
  have E_w_HYBRID_7 := Exa.wr W7 E_w_HYBRID_5
  have V_b1_7 := Arv.set Ar7 cq7 sz7 nn7 Ha7 Gf7 (v := (.ref w_ANALOG)) rfl W7 2 (by decide) (by simp)
  have Z7 : n0 ≤ h7.size := Nat.le_trans Z5 (Nat.le_of_eq W7.size.symm)
  refine Go.mp st7 ?_
  show Go p e below (T7.setTop (mkF m 30 #[.val (.int p1), .val (.int p2), .val (.int (p1 &&& (3 : Int32))), .val (.int (p2 &&& (3 : Int32))), .unset, .unset] [(.ref b1)])) _
  refine g_dup X7 hx (hb hby at_30) rfl ?_
  refine g_iconst X7 hx (3 : Int32) (hb hby at_31) (by decide) ?_
  obtain ⟨T8, X8, e8, st8⟩ := getS2 X7 hx hZ hown (host := "") (Or.inl (hw _ (List.mem_of_getElem? (i := 10) rfl))) Via.refl e7 S_HYBRID_7 (g := (mkF m 32 #[.val (.int p1), .val (.int p2), .val (.int (p1 &&& (3 : Int32))), .val (.int (p2 &&& (3 : Int32))), .unset, .unset] [(.int (3 : Int32)), (.ref b1), (.ref b1)])) rfl (hb hby at_32)
  refine Go.mp st8 ?_
  show Go p e below (T8.setTop (mkF m 35 #[.val (.int p1), .val (.int p2), .val (.int (p1 &&& (3 : Int32))), .val (.int (p2 &&& (3 : Int32))), .unset, .unset] [(.ref w_HYBRID), (.int (3 : Int32)), (.ref b1), (.ref b1)])) _
  obtain ⟨cl9, Ar9, cq9, sz9, nn9, Ha9, Gf9⟩ := id V_b1_7
  have hin9 : ¬ ((3 : Int32) < 0 ∨ cl9.slots.size ≤ (3 : Int32).toNatClampNeg) := by rw [sz9]; decide
  have Sto9 : Sto Z h7 b1 (.ref w_HYBRID) := Sto.of Ar9 (by rw [cq9]; exact O1) (Ins.of_exa E_w_HYBRID_7 (hw _ (List.mem_of_getElem? (i := 5) rfl)))
  obtain ⟨T9, h9, X9, e9, W9, st9⟩ := stR X8 hx hZ e8 Ar9 (j := 3) hin9 rfl Sto9 (g := (mkF m 35 #[.val (.int p1), .val (.int p2), .val (.int (p1 &&& (3 : Int32))), .val (.int (p2 &&& (3 : Int32))), .unset, .unset] [(.ref w_HYBRID), (.int (3 : Int32)), (.ref b1), (.ref b1)])) rfl rfl (hb hby at_35)
  have N9 := Fr.snoc X9 N7 g_b1
  have S_NOT_DEFINED_9 := Sta.wr W9 S_NOT_DEFINED_7
  have E_w_NOT_DEFINED_9 := Exa.wr W9 E_w_NOT_DEFINED_7
  have S_DIGITAL_9 := Sta.wr W9 S_DIGITAL_7
  have E_w_DIGITAL_9 := Exa.wr W9 E_w_DIGITAL_7
  have S_ANALOG_9 := Sta.wr W9 S_ANALOG_7
  have E_w_ANALOG_9 := Exa.wr W9 E_w_ANALOG_7
  have S_HYBRID_9 := Sta.wr W9 S_HYBRID_7
  have E_w_HYBRID_9 := Exa.wr W9 E_w_HYBRID_7
  have V_b1_9 := Arv.set Ar9 cq9 sz9 nn9 Ha9 Gf9 (v := (.ref w_HYBRID)) rfl W9 3 (by decide) (by simp)
  have Z9 : n0 ≤ h9.size := Nat.le_trans Z7 (Nat.le_of_eq W9.size.symm)
  refine Go.mp st9 ?_
  show Go p e below (T9.setTop (mkF m 36 #[.val (.int p1), .val (.int p2), .val (.int (p1 &&& (3 : Int32))), .val (.int (p2 &&& (3 : Int32))), .unset, .unset] [(.ref b1)])) _
  refine g_astore X9 hx #[.val (.int p1), .val (.int p2), .val (.int (p1 &&& (3 : Int32))), .val (.int (p2 &&& (3 : Int32))), .val (.ref b1), .unset] (hb hby at_36) rfl rfl ?_
  refine g_aload X9 hx (hb hby at_38) rfl rfl ?_
  refine g_iloadN X9 hx (hb hby at_40) rfl ?_
  show Go p e below (T9.setTop (mkF m 41 #[.val (.int p1), .val (.int p2), .val (.int (p1 &&& (3 : Int32))), .val (.int (p2 &&& (3 : Int32))), .val (.ref b1), .unset] [(.int (p1 &&& (3 : Int32))), (.ref b1)])) _
  rcases own_and3 p1 with q10 | q10 | q10 | q10
  · rw [q10]
    obtain ⟨cl11, Ar11, -, sz11, -, Ha11, -⟩ := id V_b1_9
    have hin11 : ¬ ((0 : Int32) < 0 ∨ cl11.slots.size ≤ (0 : Int32).toNatClampNeg) := by rw [sz11]; decide
    have hat11 : cl11.slots[(0 : Int32).toNatClampNeg]? = some (.ref w_NOT_DEFINED) := Ha11 0 (by rw [sz11]; decide)
    refine Go.mp (fun _ k => X9.aaload hx (j := 0) (v := (.ref w_NOT_DEFINED)) (by rw [e9]; exact Ar11.1) (State.isArrayOf_alike hZ.alike Ar11.2.1) rfl Ar11.2.2 hin11 hat11 (g := (mkF m 41 #[.val (.int p1), .val (.int p2), .val (.int (0 : Int32)), .val (.int (p2 &&& (3 : Int32))), .val (.ref b1), .unset] [(.int (0 : Int32)), (.ref b1)])) rfl rfl (hb hby at_41) _ k) ?_
    show Go p e below (T9.setTop (mkF m 42 #[.val (.int p1), .val (.int p2), .val (.int (0 : Int32)), .val (.int (p2 &&& (3 : Int32))), .val (.ref b1), .unset] [(.ref w_NOT_DEFINED)])) _
    refine g_aload X9 hx (hb hby at_42) rfl rfl ?_
    refine g_iloadN X9 hx (hb hby at_44) rfl ?_
    show Go p e below (T9.setTop (mkF m 45 #[.val (.int p1), .val (.int p2), .val (.int (0 : Int32)), .val (.int (p2 &&& (3 : Int32))), .val (.ref b1), .unset] [(.int (p2 &&& (3 : Int32))), (.ref b1), (.ref w_NOT_DEFINED)])) _
    rcases own_and3 p2 with q12 | q12 | q12 | q12
    · rw [q12]
      obtain ⟨cl13, Ar13, -, sz13, -, Ha13, -⟩ := id V_b1_9
      have hin13 : ¬ ((0 : Int32) < 0 ∨ cl13.slots.size ≤ (0 : Int32).toNatClampNeg) := by rw [sz13]; decide
      have hat13 : cl13.slots[(0 : Int32).toNatClampNeg]? = some (.ref w_NOT_DEFINED) := Ha13 0 (by rw [sz13]; decide)
      refine Go.mp (fun _ k => X9.aaload hx (j := 0) (v := (.ref w_NOT_DEFINED)) (by rw [e9]; exact Ar13.1) (State.isArrayOf_alike hZ.alike Ar13.2.1) rfl Ar13.2.2 hin13 hat13 (g := (mkF m 45 #[.val (.int p1), .val (.int p2), .val (.int (0 : Int32)), .val (.int (0 : Int32)), .val (.ref b1), .unset] [(.int (0 : Int32)), (.ref b1), (.ref w_NOT_DEFINED)])) rfl rfl (hb hby at_45) _ k) ?_
      show Go p e below (T9.setTop (mkF m 46 #[.val (.int p1), .val (.int p2), .val (.int (0 : Int32)), .val (.int (0 : Int32)), .val (.ref b1), .unset] [(.ref w_NOT_DEFINED), (.ref w_NOT_DEFINED)])) _
      obtain ⟨v14, T14, L14, X14, q14, st14⟩ := own_callV X9 hx hZ (y := (⟨"com/example/tektonik/tektonik/describe/Form", "with", "(Lcom/example/tektonik/tektonik/describe/Form;)Lcom/example/tektonik/tektonik/describe/Form;"⟩ : MethodName)) (pc := 46) (Ls := #[.val (.int p1), .val (.int p2), .val (.int (0 : Int32)), .val (.int (0 : Int32)), .val (.ref b1), .unset]) (st := [(.ref w_NOT_DEFINED), (.ref w_NOT_DEFINED)]) hown (hw _ (List.mem_of_getElem? (i := 12) rfl)) (hw _ (List.mem_of_getElem? (i := 13) rfl)) (hw _ (List.mem_of_getElem? (i := 15) rfl)) (hw _ (List.mem_of_getElem? (i := 14) rfl)) (hw _ (List.mem_of_getElem? (i := 16) rfl)) (hw _ (List.mem_of_getElem? (i := 3) rfl)) (by decide) (rm_withF l Z a0 hw w_NOT_DEFINED w_NOT_DEFINED w_NOT_DEFINED w_HYBRID h9 n0 Z9 S_NOT_DEFINED_9 S_HYBRID_9) e9 E_w_NOT_DEFINED_9 pd_0 (hb hby at_46) (by rw [hml]; rfl) (argsL := [(.ref w_NOT_DEFINED)]) (rest := []) rfl rfl rfl (W := 0) (Nat.le_of_eq rfl) (by decide) (by decide) (by decide) (by decide)
      obtain ⟨rfl, M14, e14⟩ := q14
      have N14 := Fr.app N9 M14
      have r14 : (f_withF w_NOT_DEFINED w_NOT_DEFINED w_NOT_DEFINED w_HYBRID) = w_NOT_DEFINED := by rw [f_withF, if_pos (rfl : w_NOT_DEFINED = w_NOT_DEFINED)]
      rw [r14] at st14
      refine Go.mp st14 ?_
      show Go p e below (T14.setTop (mkF m 49 #[.val (.int p1), .val (.int p2), .val (.int (0 : Int32)), .val (.int (0 : Int32)), .val (.ref b1), .unset] [(.ref w_NOT_DEFINED)])) _
      refine g_astore X14 hx #[.val (.int p1), .val (.int p2), .val (.int (0 : Int32)), .val (.int (0 : Int32)), .val (.ref b1), .val (.ref w_NOT_DEFINED)] (hb hby at_49) rfl rfl ?_
      refine g_aload X14 hx (hb hby at_51) rfl rfl ?_
      refine g_aload X14 hx (hb hby at_53) rfl rfl ?_
      refine g_iloadN X14 hx (hb hby at_55) rfl ?_
      refine g_iloadN X14 hx (hb hby at_56) rfl ?_
      refine g_ior X14 hx (hb hby at_57) ?_
      show Go p e below (T14.setTop (mkF m 58 #[.val (.int p1), .val (.int p2), .val (.int (0 : Int32)), .val (.int (0 : Int32)), .val (.ref b1), .val (.ref w_NOT_DEFINED)] [(.int ((0 : Int32) ||| (0 : Int32))), (.ref b1), (.ref w_NOT_DEFINED)])) _
      rw [show ((0 : Int32) ||| (0 : Int32)) = (0 : Int32) from by decide]
      obtain ⟨cl15, Ar15, -, sz15, -, Ha15, -⟩ := id V_b1_9
      have hin15 : ¬ ((0 : Int32) < 0 ∨ cl15.slots.size ≤ (0 : Int32).toNatClampNeg) := by rw [sz15]; decide
      have hat15 : cl15.slots[(0 : Int32).toNatClampNeg]? = some (.ref w_NOT_DEFINED) := Ha15 0 (by rw [sz15]; decide)
      refine Go.mp (fun _ k => X14.aaload hx (j := 0) (v := (.ref w_NOT_DEFINED)) (by rw [e14]; exact Ar15.1) (State.isArrayOf_alike hZ.alike Ar15.2.1) rfl Ar15.2.2 hin15 hat15 (g := (mkF m 58 #[.val (.int p1), .val (.int p2), .val (.int (0 : Int32)), .val (.int (0 : Int32)), .val (.ref b1), .val (.ref w_NOT_DEFINED)] [(.int (0 : Int32)), (.ref b1), (.ref w_NOT_DEFINED)])) rfl rfl (hb hby at_58) _ k) ?_
      show Go p e below (T14.setTop (mkF m 59 #[.val (.int p1), .val (.int p2), .val (.int (0 : Int32)), .val (.int (0 : Int32)), .val (.ref b1), .val (.ref w_NOT_DEFINED)] [(.ref w_NOT_DEFINED), (.ref w_NOT_DEFINED)])) _
      have c59_0 : w_NOT_DEFINED = w_NOT_DEFINED := rfl
      refine g_acmp X14 hx 62 true rfl rfl (hb hby at_59) (decide_eq_true (congrArg Value.ref c59_0)) (by decide) (by decide) ?_
      refine g_iconst X14 hx (1 : Int32) (hb hby at_62) (by decide) ?_
      refine g_goto X14 hx 67 (hb hby at_63) (by decide) (by decide) ?_
      exact own_retZ X14 hx hret hlk (hb hby at_67) (by decide) (by decide) (by decide) ⟨rfl, N14⟩
    · rw [q12]
      obtain ⟨cl16, Ar16, -, sz16, -, Ha16, -⟩ := id V_b1_9
      have hin16 : ¬ ((1 : Int32) < 0 ∨ cl16.slots.size ≤ (1 : Int32).toNatClampNeg) := by rw [sz16]; decide
      have hat16 : cl16.slots[(1 : Int32).toNatClampNeg]? = some (.ref w_DIGITAL) := Ha16 1 (by rw [sz16]; decide)
      refine Go.mp (fun _ k => X9.aaload hx (j := 1) (v := (.ref w_DIGITAL)) (by rw [e9]; exact Ar16.1) (State.isArrayOf_alike hZ.alike Ar16.2.1) rfl Ar16.2.2 hin16 hat16 (g := (mkF m 45 #[.val (.int p1), .val (.int p2), .val (.int (0 : Int32)), .val (.int (1 : Int32)), .val (.ref b1), .unset] [(.int (1 : Int32)), (.ref b1), (.ref w_NOT_DEFINED)])) rfl rfl (hb hby at_45) _ k) ?_
      show Go p e below (T9.setTop (mkF m 46 #[.val (.int p1), .val (.int p2), .val (.int (0 : Int32)), .val (.int (1 : Int32)), .val (.ref b1), .unset] [(.ref w_DIGITAL), (.ref w_NOT_DEFINED)])) _
      obtain ⟨v17, T17, L17, X17, q17, st17⟩ := own_callV X9 hx hZ (y := (⟨"com/example/tektonik/tektonik/describe/Form", "with", "(Lcom/example/tektonik/tektonik/describe/Form;)Lcom/example/tektonik/tektonik/describe/Form;"⟩ : MethodName)) (pc := 46) (Ls := #[.val (.int p1), .val (.int p2), .val (.int (0 : Int32)), .val (.int (1 : Int32)), .val (.ref b1), .unset]) (st := [(.ref w_DIGITAL), (.ref w_NOT_DEFINED)]) hown (hw _ (List.mem_of_getElem? (i := 12) rfl)) (hw _ (List.mem_of_getElem? (i := 13) rfl)) (hw _ (List.mem_of_getElem? (i := 15) rfl)) (hw _ (List.mem_of_getElem? (i := 14) rfl)) (hw _ (List.mem_of_getElem? (i := 16) rfl)) (hw _ (List.mem_of_getElem? (i := 3) rfl)) (by decide) (rm_withF l Z a0 hw w_NOT_DEFINED w_DIGITAL w_NOT_DEFINED w_HYBRID h9 n0 Z9 S_NOT_DEFINED_9 S_HYBRID_9) e9 E_w_NOT_DEFINED_9 pd_0 (hb hby at_46) (by rw [hml]; rfl) (argsL := [(.ref w_DIGITAL)]) (rest := []) rfl rfl rfl (W := 0) (Nat.le_of_eq rfl) (by decide) (by decide) (by decide) (by decide)
      obtain ⟨rfl, M17, e17⟩ := q17
      have N17 := Fr.app N9 M17
      have r17 : (f_withF w_NOT_DEFINED w_DIGITAL w_NOT_DEFINED w_HYBRID) = w_DIGITAL := by rw [f_withF, if_pos (rfl : w_NOT_DEFINED = w_NOT_DEFINED)]
      rw [r17] at st17
      refine Go.mp st17 ?_
      show Go p e below (T17.setTop (mkF m 49 #[.val (.int p1), .val (.int p2), .val (.int (0 : Int32)), .val (.int (1 : Int32)), .val (.ref b1), .unset] [(.ref w_DIGITAL)])) _
      refine g_astore X17 hx #[.val (.int p1), .val (.int p2), .val (.int (0 : Int32)), .val (.int (1 : Int32)), .val (.ref b1), .val (.ref w_DIGITAL)] (hb hby at_49) rfl rfl ?_
      refine g_aload X17 hx (hb hby at_51) rfl rfl ?_
      refine g_aload X17 hx (hb hby at_53) rfl rfl ?_
      refine g_iloadN X17 hx (hb hby at_55) rfl ?_
      refine g_iloadN X17 hx (hb hby at_56) rfl ?_
      refine g_ior X17 hx (hb hby at_57) ?_
      show Go p e below (T17.setTop (mkF m 58 #[.val (.int p1), .val (.int p2), .val (.int (0 : Int32)), .val (.int (1 : Int32)), .val (.ref b1), .val (.ref w_DIGITAL)] [(.int ((0 : Int32) ||| (1 : Int32))), (.ref b1), (.ref w_DIGITAL)])) _
      rw [show ((0 : Int32) ||| (1 : Int32)) = (1 : Int32) from by decide]
      obtain ⟨cl18, Ar18, -, sz18, -, Ha18, -⟩ := id V_b1_9
      have hin18 : ¬ ((1 : Int32) < 0 ∨ cl18.slots.size ≤ (1 : Int32).toNatClampNeg) := by rw [sz18]; decide
      have hat18 : cl18.slots[(1 : Int32).toNatClampNeg]? = some (.ref w_DIGITAL) := Ha18 1 (by rw [sz18]; decide)
      refine Go.mp (fun _ k => X17.aaload hx (j := 1) (v := (.ref w_DIGITAL)) (by rw [e17]; exact Ar18.1) (State.isArrayOf_alike hZ.alike Ar18.2.1) rfl Ar18.2.2 hin18 hat18 (g := (mkF m 58 #[.val (.int p1), .val (.int p2), .val (.int (0 : Int32)), .val (.int (1 : Int32)), .val (.ref b1), .val (.ref w_DIGITAL)] [(.int (1 : Int32)), (.ref b1), (.ref w_DIGITAL)])) rfl rfl (hb hby at_58) _ k) ?_
      show Go p e below (T17.setTop (mkF m 59 #[.val (.int p1), .val (.int p2), .val (.int (0 : Int32)), .val (.int (1 : Int32)), .val (.ref b1), .val (.ref w_DIGITAL)] [(.ref w_DIGITAL), (.ref w_DIGITAL)])) _
      have c59_0 : w_DIGITAL = w_DIGITAL := rfl
      refine g_acmp X17 hx 62 true rfl rfl (hb hby at_59) (decide_eq_true (congrArg Value.ref c59_0)) (by decide) (by decide) ?_
      refine g_iconst X17 hx (1 : Int32) (hb hby at_62) (by decide) ?_
      refine g_goto X17 hx 67 (hb hby at_63) (by decide) (by decide) ?_
      exact own_retZ X17 hx hret hlk (hb hby at_67) (by decide) (by decide) (by decide) ⟨rfl, N17⟩
    · rw [q12]
      obtain ⟨cl19, Ar19, -, sz19, -, Ha19, -⟩ := id V_b1_9
      have hin19 : ¬ ((2 : Int32) < 0 ∨ cl19.slots.size ≤ (2 : Int32).toNatClampNeg) := by rw [sz19]; decide
      have hat19 : cl19.slots[(2 : Int32).toNatClampNeg]? = some (.ref w_ANALOG) := Ha19 2 (by rw [sz19]; decide)
      refine Go.mp (fun _ k => X9.aaload hx (j := 2) (v := (.ref w_ANALOG)) (by rw [e9]; exact Ar19.1) (State.isArrayOf_alike hZ.alike Ar19.2.1) rfl Ar19.2.2 hin19 hat19 (g := (mkF m 45 #[.val (.int p1), .val (.int p2), .val (.int (0 : Int32)), .val (.int (2 : Int32)), .val (.ref b1), .unset] [(.int (2 : Int32)), (.ref b1), (.ref w_NOT_DEFINED)])) rfl rfl (hb hby at_45) _ k) ?_
      show Go p e below (T9.setTop (mkF m 46 #[.val (.int p1), .val (.int p2), .val (.int (0 : Int32)), .val (.int (2 : Int32)), .val (.ref b1), .unset] [(.ref w_ANALOG), (.ref w_NOT_DEFINED)])) _
      obtain ⟨v20, T20, L20, X20, q20, st20⟩ := own_callV X9 hx hZ (y := (⟨"com/example/tektonik/tektonik/describe/Form", "with", "(Lcom/example/tektonik/tektonik/describe/Form;)Lcom/example/tektonik/tektonik/describe/Form;"⟩ : MethodName)) (pc := 46) (Ls := #[.val (.int p1), .val (.int p2), .val (.int (0 : Int32)), .val (.int (2 : Int32)), .val (.ref b1), .unset]) (st := [(.ref w_ANALOG), (.ref w_NOT_DEFINED)]) hown (hw _ (List.mem_of_getElem? (i := 12) rfl)) (hw _ (List.mem_of_getElem? (i := 13) rfl)) (hw _ (List.mem_of_getElem? (i := 15) rfl)) (hw _ (List.mem_of_getElem? (i := 14) rfl)) (hw _ (List.mem_of_getElem? (i := 16) rfl)) (hw _ (List.mem_of_getElem? (i := 3) rfl)) (by decide) (rm_withF l Z a0 hw w_NOT_DEFINED w_ANALOG w_NOT_DEFINED w_HYBRID h9 n0 Z9 S_NOT_DEFINED_9 S_HYBRID_9) e9 E_w_NOT_DEFINED_9 pd_0 (hb hby at_46) (by rw [hml]; rfl) (argsL := [(.ref w_ANALOG)]) (rest := []) rfl rfl rfl (W := 0) (Nat.le_of_eq rfl) (by decide) (by decide) (by decide) (by decide)
      obtain ⟨rfl, M20, e20⟩ := q20
      have N20 := Fr.app N9 M20
      have r20 : (f_withF w_NOT_DEFINED w_ANALOG w_NOT_DEFINED w_HYBRID) = w_ANALOG := by rw [f_withF, if_pos (rfl : w_NOT_DEFINED = w_NOT_DEFINED)]
      rw [r20] at st20
      refine Go.mp st20 ?_
      show Go p e below (T20.setTop (mkF m 49 #[.val (.int p1), .val (.int p2), .val (.int (0 : Int32)), .val (.int (2 : Int32)), .val (.ref b1), .unset] [(.ref w_ANALOG)])) _
      refine g_astore X20 hx #[.val (.int p1), .val (.int p2), .val (.int (0 : Int32)), .val (.int (2 : Int32)), .val (.ref b1), .val (.ref w_ANALOG)] (hb hby at_49) rfl rfl ?_
      refine g_aload X20 hx (hb hby at_51) rfl rfl ?_
      refine g_aload X20 hx (hb hby at_53) rfl rfl ?_
      refine g_iloadN X20 hx (hb hby at_55) rfl ?_
      refine g_iloadN X20 hx (hb hby at_56) rfl ?_
      refine g_ior X20 hx (hb hby at_57) ?_
      show Go p e below (T20.setTop (mkF m 58 #[.val (.int p1), .val (.int p2), .val (.int (0 : Int32)), .val (.int (2 : Int32)), .val (.ref b1), .val (.ref w_ANALOG)] [(.int ((0 : Int32) ||| (2 : Int32))), (.ref b1), (.ref w_ANALOG)])) _
      rw [show ((0 : Int32) ||| (2 : Int32)) = (2 : Int32) from by decide]
      obtain ⟨cl21, Ar21, -, sz21, -, Ha21, -⟩ := id V_b1_9
      have hin21 : ¬ ((2 : Int32) < 0 ∨ cl21.slots.size ≤ (2 : Int32).toNatClampNeg) := by rw [sz21]; decide
      have hat21 : cl21.slots[(2 : Int32).toNatClampNeg]? = some (.ref w_ANALOG) := Ha21 2 (by rw [sz21]; decide)
      refine Go.mp (fun _ k => X20.aaload hx (j := 2) (v := (.ref w_ANALOG)) (by rw [e20]; exact Ar21.1) (State.isArrayOf_alike hZ.alike Ar21.2.1) rfl Ar21.2.2 hin21 hat21 (g := (mkF m 58 #[.val (.int p1), .val (.int p2), .val (.int (0 : Int32)), .val (.int (2 : Int32)), .val (.ref b1), .val (.ref w_ANALOG)] [(.int (2 : Int32)), (.ref b1), (.ref w_ANALOG)])) rfl rfl (hb hby at_58) _ k) ?_
      show Go p e below (T20.setTop (mkF m 59 #[.val (.int p1), .val (.int p2), .val (.int (0 : Int32)), .val (.int (2 : Int32)), .val (.ref b1), .val (.ref w_ANALOG)] [(.ref w_ANALOG), (.ref w_ANALOG)])) _
      have c59_0 : w_ANALOG = w_ANALOG := rfl
      refine g_acmp X20 hx 62 true rfl rfl (hb hby at_59) (decide_eq_true (congrArg Value.ref c59_0)) (by decide) (by decide) ?_
      refine g_iconst X20 hx (1 : Int32) (hb hby at_62) (by decide) ?_
      refine g_goto X20 hx 67 (hb hby at_63) (by decide) (by decide) ?_
      exact own_retZ X20 hx hret hlk (hb hby at_67) (by decide) (by decide) (by decide) ⟨rfl, N20⟩
    · rw [q12]
      obtain ⟨cl22, Ar22, -, sz22, -, Ha22, -⟩ := id V_b1_9
      have hin22 : ¬ ((3 : Int32) < 0 ∨ cl22.slots.size ≤ (3 : Int32).toNatClampNeg) := by rw [sz22]; decide
      have hat22 : cl22.slots[(3 : Int32).toNatClampNeg]? = some (.ref w_HYBRID) := Ha22 3 (by rw [sz22]; decide)
      refine Go.mp (fun _ k => X9.aaload hx (j := 3) (v := (.ref w_HYBRID)) (by rw [e9]; exact Ar22.1) (State.isArrayOf_alike hZ.alike Ar22.2.1) rfl Ar22.2.2 hin22 hat22 (g := (mkF m 45 #[.val (.int p1), .val (.int p2), .val (.int (0 : Int32)), .val (.int (3 : Int32)), .val (.ref b1), .unset] [(.int (3 : Int32)), (.ref b1), (.ref w_NOT_DEFINED)])) rfl rfl (hb hby at_45) _ k) ?_
      show Go p e below (T9.setTop (mkF m 46 #[.val (.int p1), .val (.int p2), .val (.int (0 : Int32)), .val (.int (3 : Int32)), .val (.ref b1), .unset] [(.ref w_HYBRID), (.ref w_NOT_DEFINED)])) _
      obtain ⟨v23, T23, L23, X23, q23, st23⟩ := own_callV X9 hx hZ (y := (⟨"com/example/tektonik/tektonik/describe/Form", "with", "(Lcom/example/tektonik/tektonik/describe/Form;)Lcom/example/tektonik/tektonik/describe/Form;"⟩ : MethodName)) (pc := 46) (Ls := #[.val (.int p1), .val (.int p2), .val (.int (0 : Int32)), .val (.int (3 : Int32)), .val (.ref b1), .unset]) (st := [(.ref w_HYBRID), (.ref w_NOT_DEFINED)]) hown (hw _ (List.mem_of_getElem? (i := 12) rfl)) (hw _ (List.mem_of_getElem? (i := 13) rfl)) (hw _ (List.mem_of_getElem? (i := 15) rfl)) (hw _ (List.mem_of_getElem? (i := 14) rfl)) (hw _ (List.mem_of_getElem? (i := 16) rfl)) (hw _ (List.mem_of_getElem? (i := 3) rfl)) (by decide) (rm_withF l Z a0 hw w_NOT_DEFINED w_HYBRID w_NOT_DEFINED w_HYBRID h9 n0 Z9 S_NOT_DEFINED_9 S_HYBRID_9) e9 E_w_NOT_DEFINED_9 pd_0 (hb hby at_46) (by rw [hml]; rfl) (argsL := [(.ref w_HYBRID)]) (rest := []) rfl rfl rfl (W := 0) (Nat.le_of_eq rfl) (by decide) (by decide) (by decide) (by decide)
      obtain ⟨rfl, M23, e23⟩ := q23
      have N23 := Fr.app N9 M23
      have r23 : (f_withF w_NOT_DEFINED w_HYBRID w_NOT_DEFINED w_HYBRID) = w_HYBRID := by rw [f_withF, if_pos (rfl : w_NOT_DEFINED = w_NOT_DEFINED)]
      rw [r23] at st23
      refine Go.mp st23 ?_
      show Go p e below (T23.setTop (mkF m 49 #[.val (.int p1), .val (.int p2), .val (.int (0 : Int32)), .val (.int (3 : Int32)), .val (.ref b1), .unset] [(.ref w_HYBRID)])) _
      refine g_astore X23 hx #[.val (.int p1), .val (.int p2), .val (.int (0 : Int32)), .val (.int (3 : Int32)), .val (.ref b1), .val (.ref w_HYBRID)] (hb hby at_49) rfl rfl ?_
      refine g_aload X23 hx (hb hby at_51) rfl rfl ?_
      refine g_aload X23 hx (hb hby at_53) rfl rfl ?_
      refine g_iloadN X23 hx (hb hby at_55) rfl ?_
      refine g_iloadN X23 hx (hb hby at_56) rfl ?_
      refine g_ior X23 hx (hb hby at_57) ?_
      show Go p e below (T23.setTop (mkF m 58 #[.val (.int p1), .val (.int p2), .val (.int (0 : Int32)), .val (.int (3 : Int32)), .val (.ref b1), .val (.ref w_HYBRID)] [(.int ((0 : Int32) ||| (3 : Int32))), (.ref b1), (.ref w_HYBRID)])) _
      rw [show ((0 : Int32) ||| (3 : Int32)) = (3 : Int32) from by decide]
      obtain ⟨cl24, Ar24, -, sz24, -, Ha24, -⟩ := id V_b1_9
      have hin24 : ¬ ((3 : Int32) < 0 ∨ cl24.slots.size ≤ (3 : Int32).toNatClampNeg) := by rw [sz24]; decide
      have hat24 : cl24.slots[(3 : Int32).toNatClampNeg]? = some (.ref w_HYBRID) := Ha24 3 (by rw [sz24]; decide)
      refine Go.mp (fun _ k => X23.aaload hx (j := 3) (v := (.ref w_HYBRID)) (by rw [e23]; exact Ar24.1) (State.isArrayOf_alike hZ.alike Ar24.2.1) rfl Ar24.2.2 hin24 hat24 (g := (mkF m 58 #[.val (.int p1), .val (.int p2), .val (.int (0 : Int32)), .val (.int (3 : Int32)), .val (.ref b1), .val (.ref w_HYBRID)] [(.int (3 : Int32)), (.ref b1), (.ref w_HYBRID)])) rfl rfl (hb hby at_58) _ k) ?_
      show Go p e below (T23.setTop (mkF m 59 #[.val (.int p1), .val (.int p2), .val (.int (0 : Int32)), .val (.int (3 : Int32)), .val (.ref b1), .val (.ref w_HYBRID)] [(.ref w_HYBRID), (.ref w_HYBRID)])) _
      have c59_0 : w_HYBRID = w_HYBRID := rfl
      refine g_acmp X23 hx 62 true rfl rfl (hb hby at_59) (decide_eq_true (congrArg Value.ref c59_0)) (by decide) (by decide) ?_
      refine g_iconst X23 hx (1 : Int32) (hb hby at_62) (by decide) ?_
      refine g_goto X23 hx 67 (hb hby at_63) (by decide) (by decide) ?_
      exact own_retZ X23 hx hret hlk (hb hby at_67) (by decide) (by decide) (by decide) ⟨rfl, N23⟩
  · rw [q10]
    obtain ⟨cl25, Ar25, -, sz25, -, Ha25, -⟩ := id V_b1_9
    have hin25 : ¬ ((1 : Int32) < 0 ∨ cl25.slots.size ≤ (1 : Int32).toNatClampNeg) := by rw [sz25]; decide
    have hat25 : cl25.slots[(1 : Int32).toNatClampNeg]? = some (.ref w_DIGITAL) := Ha25 1 (by rw [sz25]; decide)
    refine Go.mp (fun _ k => X9.aaload hx (j := 1) (v := (.ref w_DIGITAL)) (by rw [e9]; exact Ar25.1) (State.isArrayOf_alike hZ.alike Ar25.2.1) rfl Ar25.2.2 hin25 hat25 (g := (mkF m 41 #[.val (.int p1), .val (.int p2), .val (.int (1 : Int32)), .val (.int (p2 &&& (3 : Int32))), .val (.ref b1), .unset] [(.int (1 : Int32)), (.ref b1)])) rfl rfl (hb hby at_41) _ k) ?_
    show Go p e below (T9.setTop (mkF m 42 #[.val (.int p1), .val (.int p2), .val (.int (1 : Int32)), .val (.int (p2 &&& (3 : Int32))), .val (.ref b1), .unset] [(.ref w_DIGITAL)])) _
    refine g_aload X9 hx (hb hby at_42) rfl rfl ?_
    refine g_iloadN X9 hx (hb hby at_44) rfl ?_
    show Go p e below (T9.setTop (mkF m 45 #[.val (.int p1), .val (.int p2), .val (.int (1 : Int32)), .val (.int (p2 &&& (3 : Int32))), .val (.ref b1), .unset] [(.int (p2 &&& (3 : Int32))), (.ref b1), (.ref w_DIGITAL)])) _
    rcases own_and3 p2 with q26 | q26 | q26 | q26
    · rw [q26]
      obtain ⟨cl27, Ar27, -, sz27, -, Ha27, -⟩ := id V_b1_9
      have hin27 : ¬ ((0 : Int32) < 0 ∨ cl27.slots.size ≤ (0 : Int32).toNatClampNeg) := by rw [sz27]; decide
      have hat27 : cl27.slots[(0 : Int32).toNatClampNeg]? = some (.ref w_NOT_DEFINED) := Ha27 0 (by rw [sz27]; decide)
      refine Go.mp (fun _ k => X9.aaload hx (j := 0) (v := (.ref w_NOT_DEFINED)) (by rw [e9]; exact Ar27.1) (State.isArrayOf_alike hZ.alike Ar27.2.1) rfl Ar27.2.2 hin27 hat27 (g := (mkF m 45 #[.val (.int p1), .val (.int p2), .val (.int (1 : Int32)), .val (.int (0 : Int32)), .val (.ref b1), .unset] [(.int (0 : Int32)), (.ref b1), (.ref w_DIGITAL)])) rfl rfl (hb hby at_45) _ k) ?_
      show Go p e below (T9.setTop (mkF m 46 #[.val (.int p1), .val (.int p2), .val (.int (1 : Int32)), .val (.int (0 : Int32)), .val (.ref b1), .unset] [(.ref w_NOT_DEFINED), (.ref w_DIGITAL)])) _
      obtain ⟨v28, T28, L28, X28, q28, st28⟩ := own_callV X9 hx hZ (y := (⟨"com/example/tektonik/tektonik/describe/Form", "with", "(Lcom/example/tektonik/tektonik/describe/Form;)Lcom/example/tektonik/tektonik/describe/Form;"⟩ : MethodName)) (pc := 46) (Ls := #[.val (.int p1), .val (.int p2), .val (.int (1 : Int32)), .val (.int (0 : Int32)), .val (.ref b1), .unset]) (st := [(.ref w_NOT_DEFINED), (.ref w_DIGITAL)]) hown (hw _ (List.mem_of_getElem? (i := 12) rfl)) (hw _ (List.mem_of_getElem? (i := 13) rfl)) (hw _ (List.mem_of_getElem? (i := 15) rfl)) (hw _ (List.mem_of_getElem? (i := 14) rfl)) (hw _ (List.mem_of_getElem? (i := 16) rfl)) (hw _ (List.mem_of_getElem? (i := 3) rfl)) (by decide) (rm_withF l Z a0 hw w_DIGITAL w_NOT_DEFINED w_NOT_DEFINED w_HYBRID h9 n0 Z9 S_NOT_DEFINED_9 S_HYBRID_9) e9 E_w_DIGITAL_9 pd_0 (hb hby at_46) (by rw [hml]; rfl) (argsL := [(.ref w_NOT_DEFINED)]) (rest := []) rfl rfl rfl (W := 0) (Nat.le_of_eq rfl) (by decide) (by decide) (by decide) (by decide)
      obtain ⟨rfl, M28, e28⟩ := q28
      have N28 := Fr.app N9 M28
      have r28 : (f_withF w_DIGITAL w_NOT_DEFINED w_NOT_DEFINED w_HYBRID) = w_DIGITAL := by rw [f_withF, if_neg ((Ne.symm ne_NOT_DEFINED_DIGITAL) : ¬ (w_DIGITAL = w_NOT_DEFINED)), if_neg ((Ne.symm ne_NOT_DEFINED_DIGITAL) : ¬ (w_DIGITAL = w_NOT_DEFINED)), if_pos (rfl : w_NOT_DEFINED = w_NOT_DEFINED)]
      rw [r28] at st28
      refine Go.mp st28 ?_
      show Go p e below (T28.setTop (mkF m 49 #[.val (.int p1), .val (.int p2), .val (.int (1 : Int32)), .val (.int (0 : Int32)), .val (.ref b1), .unset] [(.ref w_DIGITAL)])) _
      refine g_astore X28 hx #[.val (.int p1), .val (.int p2), .val (.int (1 : Int32)), .val (.int (0 : Int32)), .val (.ref b1), .val (.ref w_DIGITAL)] (hb hby at_49) rfl rfl ?_
      refine g_aload X28 hx (hb hby at_51) rfl rfl ?_
      refine g_aload X28 hx (hb hby at_53) rfl rfl ?_
      refine g_iloadN X28 hx (hb hby at_55) rfl ?_
      refine g_iloadN X28 hx (hb hby at_56) rfl ?_
      refine g_ior X28 hx (hb hby at_57) ?_
      show Go p e below (T28.setTop (mkF m 58 #[.val (.int p1), .val (.int p2), .val (.int (1 : Int32)), .val (.int (0 : Int32)), .val (.ref b1), .val (.ref w_DIGITAL)] [(.int ((1 : Int32) ||| (0 : Int32))), (.ref b1), (.ref w_DIGITAL)])) _
      rw [show ((1 : Int32) ||| (0 : Int32)) = (1 : Int32) from by decide]
      obtain ⟨cl29, Ar29, -, sz29, -, Ha29, -⟩ := id V_b1_9
      have hin29 : ¬ ((1 : Int32) < 0 ∨ cl29.slots.size ≤ (1 : Int32).toNatClampNeg) := by rw [sz29]; decide
      have hat29 : cl29.slots[(1 : Int32).toNatClampNeg]? = some (.ref w_DIGITAL) := Ha29 1 (by rw [sz29]; decide)
      refine Go.mp (fun _ k => X28.aaload hx (j := 1) (v := (.ref w_DIGITAL)) (by rw [e28]; exact Ar29.1) (State.isArrayOf_alike hZ.alike Ar29.2.1) rfl Ar29.2.2 hin29 hat29 (g := (mkF m 58 #[.val (.int p1), .val (.int p2), .val (.int (1 : Int32)), .val (.int (0 : Int32)), .val (.ref b1), .val (.ref w_DIGITAL)] [(.int (1 : Int32)), (.ref b1), (.ref w_DIGITAL)])) rfl rfl (hb hby at_58) _ k) ?_
      show Go p e below (T28.setTop (mkF m 59 #[.val (.int p1), .val (.int p2), .val (.int (1 : Int32)), .val (.int (0 : Int32)), .val (.ref b1), .val (.ref w_DIGITAL)] [(.ref w_DIGITAL), (.ref w_DIGITAL)])) _
      have c59_0 : w_DIGITAL = w_DIGITAL := rfl
      refine g_acmp X28 hx 62 true rfl rfl (hb hby at_59) (decide_eq_true (congrArg Value.ref c59_0)) (by decide) (by decide) ?_
      refine g_iconst X28 hx (1 : Int32) (hb hby at_62) (by decide) ?_
      refine g_goto X28 hx 67 (hb hby at_63) (by decide) (by decide) ?_
      exact own_retZ X28 hx hret hlk (hb hby at_67) (by decide) (by decide) (by decide) ⟨rfl, N28⟩
    · rw [q26]
      obtain ⟨cl30, Ar30, -, sz30, -, Ha30, -⟩ := id V_b1_9
      have hin30 : ¬ ((1 : Int32) < 0 ∨ cl30.slots.size ≤ (1 : Int32).toNatClampNeg) := by rw [sz30]; decide
      have hat30 : cl30.slots[(1 : Int32).toNatClampNeg]? = some (.ref w_DIGITAL) := Ha30 1 (by rw [sz30]; decide)
      refine Go.mp (fun _ k => X9.aaload hx (j := 1) (v := (.ref w_DIGITAL)) (by rw [e9]; exact Ar30.1) (State.isArrayOf_alike hZ.alike Ar30.2.1) rfl Ar30.2.2 hin30 hat30 (g := (mkF m 45 #[.val (.int p1), .val (.int p2), .val (.int (1 : Int32)), .val (.int (1 : Int32)), .val (.ref b1), .unset] [(.int (1 : Int32)), (.ref b1), (.ref w_DIGITAL)])) rfl rfl (hb hby at_45) _ k) ?_
      show Go p e below (T9.setTop (mkF m 46 #[.val (.int p1), .val (.int p2), .val (.int (1 : Int32)), .val (.int (1 : Int32)), .val (.ref b1), .unset] [(.ref w_DIGITAL), (.ref w_DIGITAL)])) _
      obtain ⟨v31, T31, L31, X31, q31, st31⟩ := own_callV X9 hx hZ (y := (⟨"com/example/tektonik/tektonik/describe/Form", "with", "(Lcom/example/tektonik/tektonik/describe/Form;)Lcom/example/tektonik/tektonik/describe/Form;"⟩ : MethodName)) (pc := 46) (Ls := #[.val (.int p1), .val (.int p2), .val (.int (1 : Int32)), .val (.int (1 : Int32)), .val (.ref b1), .unset]) (st := [(.ref w_DIGITAL), (.ref w_DIGITAL)]) hown (hw _ (List.mem_of_getElem? (i := 12) rfl)) (hw _ (List.mem_of_getElem? (i := 13) rfl)) (hw _ (List.mem_of_getElem? (i := 15) rfl)) (hw _ (List.mem_of_getElem? (i := 14) rfl)) (hw _ (List.mem_of_getElem? (i := 16) rfl)) (hw _ (List.mem_of_getElem? (i := 3) rfl)) (by decide) (rm_withF l Z a0 hw w_DIGITAL w_DIGITAL w_NOT_DEFINED w_HYBRID h9 n0 Z9 S_NOT_DEFINED_9 S_HYBRID_9) e9 E_w_DIGITAL_9 pd_0 (hb hby at_46) (by rw [hml]; rfl) (argsL := [(.ref w_DIGITAL)]) (rest := []) rfl rfl rfl (W := 0) (Nat.le_of_eq rfl) (by decide) (by decide) (by decide) (by decide)
      obtain ⟨rfl, M31, e31⟩ := q31
      have N31 := Fr.app N9 M31
      have r31 : (f_withF w_DIGITAL w_DIGITAL w_NOT_DEFINED w_HYBRID) = w_DIGITAL := by rw [f_withF, if_neg ((Ne.symm ne_NOT_DEFINED_DIGITAL) : ¬ (w_DIGITAL = w_NOT_DEFINED)), if_pos (rfl : w_DIGITAL = w_DIGITAL)]
      rw [r31] at st31
      refine Go.mp st31 ?_
      show Go p e below (T31.setTop (mkF m 49 #[.val (.int p1), .val (.int p2), .val (.int (1 : Int32)), .val (.int (1 : Int32)), .val (.ref b1), .unset] [(.ref w_DIGITAL)])) _
      refine g_astore X31 hx #[.val (.int p1), .val (.int p2), .val (.int (1 : Int32)), .val (.int (1 : Int32)), .val (.ref b1), .val (.ref w_DIGITAL)] (hb hby at_49) rfl rfl ?_
      refine g_aload X31 hx (hb hby at_51) rfl rfl ?_
      refine g_aload X31 hx (hb hby at_53) rfl rfl ?_
      refine g_iloadN X31 hx (hb hby at_55) rfl ?_
      refine g_iloadN X31 hx (hb hby at_56) rfl ?_
      refine g_ior X31 hx (hb hby at_57) ?_
      show Go p e below (T31.setTop (mkF m 58 #[.val (.int p1), .val (.int p2), .val (.int (1 : Int32)), .val (.int (1 : Int32)), .val (.ref b1), .val (.ref w_DIGITAL)] [(.int ((1 : Int32) ||| (1 : Int32))), (.ref b1), (.ref w_DIGITAL)])) _
      rw [show ((1 : Int32) ||| (1 : Int32)) = (1 : Int32) from by decide]
      obtain ⟨cl32, Ar32, -, sz32, -, Ha32, -⟩ := id V_b1_9
      have hin32 : ¬ ((1 : Int32) < 0 ∨ cl32.slots.size ≤ (1 : Int32).toNatClampNeg) := by rw [sz32]; decide
      have hat32 : cl32.slots[(1 : Int32).toNatClampNeg]? = some (.ref w_DIGITAL) := Ha32 1 (by rw [sz32]; decide)
      refine Go.mp (fun _ k => X31.aaload hx (j := 1) (v := (.ref w_DIGITAL)) (by rw [e31]; exact Ar32.1) (State.isArrayOf_alike hZ.alike Ar32.2.1) rfl Ar32.2.2 hin32 hat32 (g := (mkF m 58 #[.val (.int p1), .val (.int p2), .val (.int (1 : Int32)), .val (.int (1 : Int32)), .val (.ref b1), .val (.ref w_DIGITAL)] [(.int (1 : Int32)), (.ref b1), (.ref w_DIGITAL)])) rfl rfl (hb hby at_58) _ k) ?_
      show Go p e below (T31.setTop (mkF m 59 #[.val (.int p1), .val (.int p2), .val (.int (1 : Int32)), .val (.int (1 : Int32)), .val (.ref b1), .val (.ref w_DIGITAL)] [(.ref w_DIGITAL), (.ref w_DIGITAL)])) _
      have c59_0 : w_DIGITAL = w_DIGITAL := rfl
      refine g_acmp X31 hx 62 true rfl rfl (hb hby at_59) (decide_eq_true (congrArg Value.ref c59_0)) (by decide) (by decide) ?_
      refine g_iconst X31 hx (1 : Int32) (hb hby at_62) (by decide) ?_
      refine g_goto X31 hx 67 (hb hby at_63) (by decide) (by decide) ?_
      exact own_retZ X31 hx hret hlk (hb hby at_67) (by decide) (by decide) (by decide) ⟨rfl, N31⟩
    · rw [q26]
      obtain ⟨cl33, Ar33, -, sz33, -, Ha33, -⟩ := id V_b1_9
      have hin33 : ¬ ((2 : Int32) < 0 ∨ cl33.slots.size ≤ (2 : Int32).toNatClampNeg) := by rw [sz33]; decide
      have hat33 : cl33.slots[(2 : Int32).toNatClampNeg]? = some (.ref w_ANALOG) := Ha33 2 (by rw [sz33]; decide)
      refine Go.mp (fun _ k => X9.aaload hx (j := 2) (v := (.ref w_ANALOG)) (by rw [e9]; exact Ar33.1) (State.isArrayOf_alike hZ.alike Ar33.2.1) rfl Ar33.2.2 hin33 hat33 (g := (mkF m 45 #[.val (.int p1), .val (.int p2), .val (.int (1 : Int32)), .val (.int (2 : Int32)), .val (.ref b1), .unset] [(.int (2 : Int32)), (.ref b1), (.ref w_DIGITAL)])) rfl rfl (hb hby at_45) _ k) ?_
      show Go p e below (T9.setTop (mkF m 46 #[.val (.int p1), .val (.int p2), .val (.int (1 : Int32)), .val (.int (2 : Int32)), .val (.ref b1), .unset] [(.ref w_ANALOG), (.ref w_DIGITAL)])) _
      obtain ⟨v34, T34, L34, X34, q34, st34⟩ := own_callV X9 hx hZ (y := (⟨"com/example/tektonik/tektonik/describe/Form", "with", "(Lcom/example/tektonik/tektonik/describe/Form;)Lcom/example/tektonik/tektonik/describe/Form;"⟩ : MethodName)) (pc := 46) (Ls := #[.val (.int p1), .val (.int p2), .val (.int (1 : Int32)), .val (.int (2 : Int32)), .val (.ref b1), .unset]) (st := [(.ref w_ANALOG), (.ref w_DIGITAL)]) hown (hw _ (List.mem_of_getElem? (i := 12) rfl)) (hw _ (List.mem_of_getElem? (i := 13) rfl)) (hw _ (List.mem_of_getElem? (i := 15) rfl)) (hw _ (List.mem_of_getElem? (i := 14) rfl)) (hw _ (List.mem_of_getElem? (i := 16) rfl)) (hw _ (List.mem_of_getElem? (i := 3) rfl)) (by decide) (rm_withF l Z a0 hw w_DIGITAL w_ANALOG w_NOT_DEFINED w_HYBRID h9 n0 Z9 S_NOT_DEFINED_9 S_HYBRID_9) e9 E_w_DIGITAL_9 pd_0 (hb hby at_46) (by rw [hml]; rfl) (argsL := [(.ref w_ANALOG)]) (rest := []) rfl rfl rfl (W := 0) (Nat.le_of_eq rfl) (by decide) (by decide) (by decide) (by decide)
      obtain ⟨rfl, M34, e34⟩ := q34
      have N34 := Fr.app N9 M34
      have r34 : (f_withF w_DIGITAL w_ANALOG w_NOT_DEFINED w_HYBRID) = w_HYBRID := by rw [f_withF, if_neg ((Ne.symm ne_NOT_DEFINED_DIGITAL) : ¬ (w_DIGITAL = w_NOT_DEFINED)), if_neg ((Ne.symm ne_ANALOG_DIGITAL) : ¬ (w_DIGITAL = w_ANALOG)), if_neg (ne_ANALOG_NOT_DEFINED : ¬ (w_ANALOG = w_NOT_DEFINED))]
      rw [r34] at st34
      refine Go.mp st34 ?_
      show Go p e below (T34.setTop (mkF m 49 #[.val (.int p1), .val (.int p2), .val (.int (1 : Int32)), .val (.int (2 : Int32)), .val (.ref b1), .unset] [(.ref w_HYBRID)])) _
      refine g_astore X34 hx #[.val (.int p1), .val (.int p2), .val (.int (1 : Int32)), .val (.int (2 : Int32)), .val (.ref b1), .val (.ref w_HYBRID)] (hb hby at_49) rfl rfl ?_
      refine g_aload X34 hx (hb hby at_51) rfl rfl ?_
      refine g_aload X34 hx (hb hby at_53) rfl rfl ?_
      refine g_iloadN X34 hx (hb hby at_55) rfl ?_
      refine g_iloadN X34 hx (hb hby at_56) rfl ?_
      refine g_ior X34 hx (hb hby at_57) ?_
      show Go p e below (T34.setTop (mkF m 58 #[.val (.int p1), .val (.int p2), .val (.int (1 : Int32)), .val (.int (2 : Int32)), .val (.ref b1), .val (.ref w_HYBRID)] [(.int ((1 : Int32) ||| (2 : Int32))), (.ref b1), (.ref w_HYBRID)])) _
      rw [show ((1 : Int32) ||| (2 : Int32)) = (3 : Int32) from by decide]
      obtain ⟨cl35, Ar35, -, sz35, -, Ha35, -⟩ := id V_b1_9
      have hin35 : ¬ ((3 : Int32) < 0 ∨ cl35.slots.size ≤ (3 : Int32).toNatClampNeg) := by rw [sz35]; decide
      have hat35 : cl35.slots[(3 : Int32).toNatClampNeg]? = some (.ref w_HYBRID) := Ha35 3 (by rw [sz35]; decide)
      refine Go.mp (fun _ k => X34.aaload hx (j := 3) (v := (.ref w_HYBRID)) (by rw [e34]; exact Ar35.1) (State.isArrayOf_alike hZ.alike Ar35.2.1) rfl Ar35.2.2 hin35 hat35 (g := (mkF m 58 #[.val (.int p1), .val (.int p2), .val (.int (1 : Int32)), .val (.int (2 : Int32)), .val (.ref b1), .val (.ref w_HYBRID)] [(.int (3 : Int32)), (.ref b1), (.ref w_HYBRID)])) rfl rfl (hb hby at_58) _ k) ?_
      show Go p e below (T34.setTop (mkF m 59 #[.val (.int p1), .val (.int p2), .val (.int (1 : Int32)), .val (.int (2 : Int32)), .val (.ref b1), .val (.ref w_HYBRID)] [(.ref w_HYBRID), (.ref w_HYBRID)])) _
      have c59_0 : w_HYBRID = w_HYBRID := rfl
      refine g_acmp X34 hx 62 true rfl rfl (hb hby at_59) (decide_eq_true (congrArg Value.ref c59_0)) (by decide) (by decide) ?_
      refine g_iconst X34 hx (1 : Int32) (hb hby at_62) (by decide) ?_
      refine g_goto X34 hx 67 (hb hby at_63) (by decide) (by decide) ?_
      exact own_retZ X34 hx hret hlk (hb hby at_67) (by decide) (by decide) (by decide) ⟨rfl, N34⟩
    · rw [q26]
      obtain ⟨cl36, Ar36, -, sz36, -, Ha36, -⟩ := id V_b1_9
      have hin36 : ¬ ((3 : Int32) < 0 ∨ cl36.slots.size ≤ (3 : Int32).toNatClampNeg) := by rw [sz36]; decide
      have hat36 : cl36.slots[(3 : Int32).toNatClampNeg]? = some (.ref w_HYBRID) := Ha36 3 (by rw [sz36]; decide)
      refine Go.mp (fun _ k => X9.aaload hx (j := 3) (v := (.ref w_HYBRID)) (by rw [e9]; exact Ar36.1) (State.isArrayOf_alike hZ.alike Ar36.2.1) rfl Ar36.2.2 hin36 hat36 (g := (mkF m 45 #[.val (.int p1), .val (.int p2), .val (.int (1 : Int32)), .val (.int (3 : Int32)), .val (.ref b1), .unset] [(.int (3 : Int32)), (.ref b1), (.ref w_DIGITAL)])) rfl rfl (hb hby at_45) _ k) ?_
      show Go p e below (T9.setTop (mkF m 46 #[.val (.int p1), .val (.int p2), .val (.int (1 : Int32)), .val (.int (3 : Int32)), .val (.ref b1), .unset] [(.ref w_HYBRID), (.ref w_DIGITAL)])) _
      obtain ⟨v37, T37, L37, X37, q37, st37⟩ := own_callV X9 hx hZ (y := (⟨"com/example/tektonik/tektonik/describe/Form", "with", "(Lcom/example/tektonik/tektonik/describe/Form;)Lcom/example/tektonik/tektonik/describe/Form;"⟩ : MethodName)) (pc := 46) (Ls := #[.val (.int p1), .val (.int p2), .val (.int (1 : Int32)), .val (.int (3 : Int32)), .val (.ref b1), .unset]) (st := [(.ref w_HYBRID), (.ref w_DIGITAL)]) hown (hw _ (List.mem_of_getElem? (i := 12) rfl)) (hw _ (List.mem_of_getElem? (i := 13) rfl)) (hw _ (List.mem_of_getElem? (i := 15) rfl)) (hw _ (List.mem_of_getElem? (i := 14) rfl)) (hw _ (List.mem_of_getElem? (i := 16) rfl)) (hw _ (List.mem_of_getElem? (i := 3) rfl)) (by decide) (rm_withF l Z a0 hw w_DIGITAL w_HYBRID w_NOT_DEFINED w_HYBRID h9 n0 Z9 S_NOT_DEFINED_9 S_HYBRID_9) e9 E_w_DIGITAL_9 pd_0 (hb hby at_46) (by rw [hml]; rfl) (argsL := [(.ref w_HYBRID)]) (rest := []) rfl rfl rfl (W := 0) (Nat.le_of_eq rfl) (by decide) (by decide) (by decide) (by decide)
      obtain ⟨rfl, M37, e37⟩ := q37
      have N37 := Fr.app N9 M37
      have r37 : (f_withF w_DIGITAL w_HYBRID w_NOT_DEFINED w_HYBRID) = w_HYBRID := by rw [f_withF, if_neg ((Ne.symm ne_NOT_DEFINED_DIGITAL) : ¬ (w_DIGITAL = w_NOT_DEFINED)), if_neg (ne_DIGITAL_HYBRID : ¬ (w_DIGITAL = w_HYBRID)), if_neg ((Ne.symm ne_NOT_DEFINED_HYBRID) : ¬ (w_HYBRID = w_NOT_DEFINED))]
      rw [r37] at st37
      refine Go.mp st37 ?_
      show Go p e below (T37.setTop (mkF m 49 #[.val (.int p1), .val (.int p2), .val (.int (1 : Int32)), .val (.int (3 : Int32)), .val (.ref b1), .unset] [(.ref w_HYBRID)])) _
      refine g_astore X37 hx #[.val (.int p1), .val (.int p2), .val (.int (1 : Int32)), .val (.int (3 : Int32)), .val (.ref b1), .val (.ref w_HYBRID)] (hb hby at_49) rfl rfl ?_
      refine g_aload X37 hx (hb hby at_51) rfl rfl ?_
      refine g_aload X37 hx (hb hby at_53) rfl rfl ?_
      refine g_iloadN X37 hx (hb hby at_55) rfl ?_
      refine g_iloadN X37 hx (hb hby at_56) rfl ?_
      refine g_ior X37 hx (hb hby at_57) ?_
      show Go p e below (T37.setTop (mkF m 58 #[.val (.int p1), .val (.int p2), .val (.int (1 : Int32)), .val (.int (3 : Int32)), .val (.ref b1), .val (.ref w_HYBRID)] [(.int ((1 : Int32) ||| (3 : Int32))), (.ref b1), (.ref w_HYBRID)])) _
      rw [show ((1 : Int32) ||| (3 : Int32)) = (3 : Int32) from by decide]
      obtain ⟨cl38, Ar38, -, sz38, -, Ha38, -⟩ := id V_b1_9
      have hin38 : ¬ ((3 : Int32) < 0 ∨ cl38.slots.size ≤ (3 : Int32).toNatClampNeg) := by rw [sz38]; decide
      have hat38 : cl38.slots[(3 : Int32).toNatClampNeg]? = some (.ref w_HYBRID) := Ha38 3 (by rw [sz38]; decide)
      refine Go.mp (fun _ k => X37.aaload hx (j := 3) (v := (.ref w_HYBRID)) (by rw [e37]; exact Ar38.1) (State.isArrayOf_alike hZ.alike Ar38.2.1) rfl Ar38.2.2 hin38 hat38 (g := (mkF m 58 #[.val (.int p1), .val (.int p2), .val (.int (1 : Int32)), .val (.int (3 : Int32)), .val (.ref b1), .val (.ref w_HYBRID)] [(.int (3 : Int32)), (.ref b1), (.ref w_HYBRID)])) rfl rfl (hb hby at_58) _ k) ?_
      show Go p e below (T37.setTop (mkF m 59 #[.val (.int p1), .val (.int p2), .val (.int (1 : Int32)), .val (.int (3 : Int32)), .val (.ref b1), .val (.ref w_HYBRID)] [(.ref w_HYBRID), (.ref w_HYBRID)])) _
      have c59_0 : w_HYBRID = w_HYBRID := rfl
      refine g_acmp X37 hx 62 true rfl rfl (hb hby at_59) (decide_eq_true (congrArg Value.ref c59_0)) (by decide) (by decide) ?_
      refine g_iconst X37 hx (1 : Int32) (hb hby at_62) (by decide) ?_
      refine g_goto X37 hx 67 (hb hby at_63) (by decide) (by decide) ?_
      exact own_retZ X37 hx hret hlk (hb hby at_67) (by decide) (by decide) (by decide) ⟨rfl, N37⟩
  · rw [q10]
    obtain ⟨cl39, Ar39, -, sz39, -, Ha39, -⟩ := id V_b1_9
    have hin39 : ¬ ((2 : Int32) < 0 ∨ cl39.slots.size ≤ (2 : Int32).toNatClampNeg) := by rw [sz39]; decide
    have hat39 : cl39.slots[(2 : Int32).toNatClampNeg]? = some (.ref w_ANALOG) := Ha39 2 (by rw [sz39]; decide)
    refine Go.mp (fun _ k => X9.aaload hx (j := 2) (v := (.ref w_ANALOG)) (by rw [e9]; exact Ar39.1) (State.isArrayOf_alike hZ.alike Ar39.2.1) rfl Ar39.2.2 hin39 hat39 (g := (mkF m 41 #[.val (.int p1), .val (.int p2), .val (.int (2 : Int32)), .val (.int (p2 &&& (3 : Int32))), .val (.ref b1), .unset] [(.int (2 : Int32)), (.ref b1)])) rfl rfl (hb hby at_41) _ k) ?_
    show Go p e below (T9.setTop (mkF m 42 #[.val (.int p1), .val (.int p2), .val (.int (2 : Int32)), .val (.int (p2 &&& (3 : Int32))), .val (.ref b1), .unset] [(.ref w_ANALOG)])) _
    refine g_aload X9 hx (hb hby at_42) rfl rfl ?_
    refine g_iloadN X9 hx (hb hby at_44) rfl ?_
    show Go p e below (T9.setTop (mkF m 45 #[.val (.int p1), .val (.int p2), .val (.int (2 : Int32)), .val (.int (p2 &&& (3 : Int32))), .val (.ref b1), .unset] [(.int (p2 &&& (3 : Int32))), (.ref b1), (.ref w_ANALOG)])) _
    rcases own_and3 p2 with q40 | q40 | q40 | q40
    · rw [q40]
      obtain ⟨cl41, Ar41, -, sz41, -, Ha41, -⟩ := id V_b1_9
      have hin41 : ¬ ((0 : Int32) < 0 ∨ cl41.slots.size ≤ (0 : Int32).toNatClampNeg) := by rw [sz41]; decide
      have hat41 : cl41.slots[(0 : Int32).toNatClampNeg]? = some (.ref w_NOT_DEFINED) := Ha41 0 (by rw [sz41]; decide)
      refine Go.mp (fun _ k => X9.aaload hx (j := 0) (v := (.ref w_NOT_DEFINED)) (by rw [e9]; exact Ar41.1) (State.isArrayOf_alike hZ.alike Ar41.2.1) rfl Ar41.2.2 hin41 hat41 (g := (mkF m 45 #[.val (.int p1), .val (.int p2), .val (.int (2 : Int32)), .val (.int (0 : Int32)), .val (.ref b1), .unset] [(.int (0 : Int32)), (.ref b1), (.ref w_ANALOG)])) rfl rfl (hb hby at_45) _ k) ?_
      show Go p e below (T9.setTop (mkF m 46 #[.val (.int p1), .val (.int p2), .val (.int (2 : Int32)), .val (.int (0 : Int32)), .val (.ref b1), .unset] [(.ref w_NOT_DEFINED), (.ref w_ANALOG)])) _
      obtain ⟨v42, T42, L42, X42, q42, st42⟩ := own_callV X9 hx hZ (y := (⟨"com/example/tektonik/tektonik/describe/Form", "with", "(Lcom/example/tektonik/tektonik/describe/Form;)Lcom/example/tektonik/tektonik/describe/Form;"⟩ : MethodName)) (pc := 46) (Ls := #[.val (.int p1), .val (.int p2), .val (.int (2 : Int32)), .val (.int (0 : Int32)), .val (.ref b1), .unset]) (st := [(.ref w_NOT_DEFINED), (.ref w_ANALOG)]) hown (hw _ (List.mem_of_getElem? (i := 12) rfl)) (hw _ (List.mem_of_getElem? (i := 13) rfl)) (hw _ (List.mem_of_getElem? (i := 15) rfl)) (hw _ (List.mem_of_getElem? (i := 14) rfl)) (hw _ (List.mem_of_getElem? (i := 16) rfl)) (hw _ (List.mem_of_getElem? (i := 3) rfl)) (by decide) (rm_withF l Z a0 hw w_ANALOG w_NOT_DEFINED w_NOT_DEFINED w_HYBRID h9 n0 Z9 S_NOT_DEFINED_9 S_HYBRID_9) e9 E_w_ANALOG_9 pd_0 (hb hby at_46) (by rw [hml]; rfl) (argsL := [(.ref w_NOT_DEFINED)]) (rest := []) rfl rfl rfl (W := 0) (Nat.le_of_eq rfl) (by decide) (by decide) (by decide) (by decide)
      obtain ⟨rfl, M42, e42⟩ := q42
      have N42 := Fr.app N9 M42
      have r42 : (f_withF w_ANALOG w_NOT_DEFINED w_NOT_DEFINED w_HYBRID) = w_ANALOG := by rw [f_withF, if_neg (ne_ANALOG_NOT_DEFINED : ¬ (w_ANALOG = w_NOT_DEFINED)), if_neg (ne_ANALOG_NOT_DEFINED : ¬ (w_ANALOG = w_NOT_DEFINED)), if_pos (rfl : w_NOT_DEFINED = w_NOT_DEFINED)]
      rw [r42] at st42
      refine Go.mp st42 ?_
      show Go p e below (T42.setTop (mkF m 49 #[.val (.int p1), .val (.int p2), .val (.int (2 : Int32)), .val (.int (0 : Int32)), .val (.ref b1), .unset] [(.ref w_ANALOG)])) _
      refine g_astore X42 hx #[.val (.int p1), .val (.int p2), .val (.int (2 : Int32)), .val (.int (0 : Int32)), .val (.ref b1), .val (.ref w_ANALOG)] (hb hby at_49) rfl rfl ?_
      refine g_aload X42 hx (hb hby at_51) rfl rfl ?_
      refine g_aload X42 hx (hb hby at_53) rfl rfl ?_
      refine g_iloadN X42 hx (hb hby at_55) rfl ?_
      refine g_iloadN X42 hx (hb hby at_56) rfl ?_
      refine g_ior X42 hx (hb hby at_57) ?_
      show Go p e below (T42.setTop (mkF m 58 #[.val (.int p1), .val (.int p2), .val (.int (2 : Int32)), .val (.int (0 : Int32)), .val (.ref b1), .val (.ref w_ANALOG)] [(.int ((2 : Int32) ||| (0 : Int32))), (.ref b1), (.ref w_ANALOG)])) _
      rw [show ((2 : Int32) ||| (0 : Int32)) = (2 : Int32) from by decide]
      obtain ⟨cl43, Ar43, -, sz43, -, Ha43, -⟩ := id V_b1_9
      have hin43 : ¬ ((2 : Int32) < 0 ∨ cl43.slots.size ≤ (2 : Int32).toNatClampNeg) := by rw [sz43]; decide
      have hat43 : cl43.slots[(2 : Int32).toNatClampNeg]? = some (.ref w_ANALOG) := Ha43 2 (by rw [sz43]; decide)
      refine Go.mp (fun _ k => X42.aaload hx (j := 2) (v := (.ref w_ANALOG)) (by rw [e42]; exact Ar43.1) (State.isArrayOf_alike hZ.alike Ar43.2.1) rfl Ar43.2.2 hin43 hat43 (g := (mkF m 58 #[.val (.int p1), .val (.int p2), .val (.int (2 : Int32)), .val (.int (0 : Int32)), .val (.ref b1), .val (.ref w_ANALOG)] [(.int (2 : Int32)), (.ref b1), (.ref w_ANALOG)])) rfl rfl (hb hby at_58) _ k) ?_
      show Go p e below (T42.setTop (mkF m 59 #[.val (.int p1), .val (.int p2), .val (.int (2 : Int32)), .val (.int (0 : Int32)), .val (.ref b1), .val (.ref w_ANALOG)] [(.ref w_ANALOG), (.ref w_ANALOG)])) _
      have c59_0 : w_ANALOG = w_ANALOG := rfl
      refine g_acmp X42 hx 62 true rfl rfl (hb hby at_59) (decide_eq_true (congrArg Value.ref c59_0)) (by decide) (by decide) ?_
      refine g_iconst X42 hx (1 : Int32) (hb hby at_62) (by decide) ?_
      refine g_goto X42 hx 67 (hb hby at_63) (by decide) (by decide) ?_
      exact own_retZ X42 hx hret hlk (hb hby at_67) (by decide) (by decide) (by decide) ⟨rfl, N42⟩
    · rw [q40]
      obtain ⟨cl44, Ar44, -, sz44, -, Ha44, -⟩ := id V_b1_9
      have hin44 : ¬ ((1 : Int32) < 0 ∨ cl44.slots.size ≤ (1 : Int32).toNatClampNeg) := by rw [sz44]; decide
      have hat44 : cl44.slots[(1 : Int32).toNatClampNeg]? = some (.ref w_DIGITAL) := Ha44 1 (by rw [sz44]; decide)
      refine Go.mp (fun _ k => X9.aaload hx (j := 1) (v := (.ref w_DIGITAL)) (by rw [e9]; exact Ar44.1) (State.isArrayOf_alike hZ.alike Ar44.2.1) rfl Ar44.2.2 hin44 hat44 (g := (mkF m 45 #[.val (.int p1), .val (.int p2), .val (.int (2 : Int32)), .val (.int (1 : Int32)), .val (.ref b1), .unset] [(.int (1 : Int32)), (.ref b1), (.ref w_ANALOG)])) rfl rfl (hb hby at_45) _ k) ?_
      show Go p e below (T9.setTop (mkF m 46 #[.val (.int p1), .val (.int p2), .val (.int (2 : Int32)), .val (.int (1 : Int32)), .val (.ref b1), .unset] [(.ref w_DIGITAL), (.ref w_ANALOG)])) _
      obtain ⟨v45, T45, L45, X45, q45, st45⟩ := own_callV X9 hx hZ (y := (⟨"com/example/tektonik/tektonik/describe/Form", "with", "(Lcom/example/tektonik/tektonik/describe/Form;)Lcom/example/tektonik/tektonik/describe/Form;"⟩ : MethodName)) (pc := 46) (Ls := #[.val (.int p1), .val (.int p2), .val (.int (2 : Int32)), .val (.int (1 : Int32)), .val (.ref b1), .unset]) (st := [(.ref w_DIGITAL), (.ref w_ANALOG)]) hown (hw _ (List.mem_of_getElem? (i := 12) rfl)) (hw _ (List.mem_of_getElem? (i := 13) rfl)) (hw _ (List.mem_of_getElem? (i := 15) rfl)) (hw _ (List.mem_of_getElem? (i := 14) rfl)) (hw _ (List.mem_of_getElem? (i := 16) rfl)) (hw _ (List.mem_of_getElem? (i := 3) rfl)) (by decide) (rm_withF l Z a0 hw w_ANALOG w_DIGITAL w_NOT_DEFINED w_HYBRID h9 n0 Z9 S_NOT_DEFINED_9 S_HYBRID_9) e9 E_w_ANALOG_9 pd_0 (hb hby at_46) (by rw [hml]; rfl) (argsL := [(.ref w_DIGITAL)]) (rest := []) rfl rfl rfl (W := 0) (Nat.le_of_eq rfl) (by decide) (by decide) (by decide) (by decide)
      obtain ⟨rfl, M45, e45⟩ := q45
      have N45 := Fr.app N9 M45
      have r45 : (f_withF w_ANALOG w_DIGITAL w_NOT_DEFINED w_HYBRID) = w_HYBRID := by rw [f_withF, if_neg (ne_ANALOG_NOT_DEFINED : ¬ (w_ANALOG = w_NOT_DEFINED)), if_neg (ne_ANALOG_DIGITAL : ¬ (w_ANALOG = w_DIGITAL)), if_neg ((Ne.symm ne_NOT_DEFINED_DIGITAL) : ¬ (w_DIGITAL = w_NOT_DEFINED))]
      rw [r45] at st45
      refine Go.mp st45 ?_
      show Go p e below (T45.setTop (mkF m 49 #[.val (.int p1), .val (.int p2), .val (.int (2 : Int32)), .val (.int (1 : Int32)), .val (.ref b1), .unset] [(.ref w_HYBRID)])) _
      refine g_astore X45 hx #[.val (.int p1), .val (.int p2), .val (.int (2 : Int32)), .val (.int (1 : Int32)), .val (.ref b1), .val (.ref w_HYBRID)] (hb hby at_49) rfl rfl ?_
      refine g_aload X45 hx (hb hby at_51) rfl rfl ?_
      refine g_aload X45 hx (hb hby at_53) rfl rfl ?_
      refine g_iloadN X45 hx (hb hby at_55) rfl ?_
      refine g_iloadN X45 hx (hb hby at_56) rfl ?_
      refine g_ior X45 hx (hb hby at_57) ?_
      show Go p e below (T45.setTop (mkF m 58 #[.val (.int p1), .val (.int p2), .val (.int (2 : Int32)), .val (.int (1 : Int32)), .val (.ref b1), .val (.ref w_HYBRID)] [(.int ((2 : Int32) ||| (1 : Int32))), (.ref b1), (.ref w_HYBRID)])) _
      rw [show ((2 : Int32) ||| (1 : Int32)) = (3 : Int32) from by decide]
      obtain ⟨cl46, Ar46, -, sz46, -, Ha46, -⟩ := id V_b1_9
      have hin46 : ¬ ((3 : Int32) < 0 ∨ cl46.slots.size ≤ (3 : Int32).toNatClampNeg) := by rw [sz46]; decide
      have hat46 : cl46.slots[(3 : Int32).toNatClampNeg]? = some (.ref w_HYBRID) := Ha46 3 (by rw [sz46]; decide)
      refine Go.mp (fun _ k => X45.aaload hx (j := 3) (v := (.ref w_HYBRID)) (by rw [e45]; exact Ar46.1) (State.isArrayOf_alike hZ.alike Ar46.2.1) rfl Ar46.2.2 hin46 hat46 (g := (mkF m 58 #[.val (.int p1), .val (.int p2), .val (.int (2 : Int32)), .val (.int (1 : Int32)), .val (.ref b1), .val (.ref w_HYBRID)] [(.int (3 : Int32)), (.ref b1), (.ref w_HYBRID)])) rfl rfl (hb hby at_58) _ k) ?_
      show Go p e below (T45.setTop (mkF m 59 #[.val (.int p1), .val (.int p2), .val (.int (2 : Int32)), .val (.int (1 : Int32)), .val (.ref b1), .val (.ref w_HYBRID)] [(.ref w_HYBRID), (.ref w_HYBRID)])) _
      have c59_0 : w_HYBRID = w_HYBRID := rfl
      refine g_acmp X45 hx 62 true rfl rfl (hb hby at_59) (decide_eq_true (congrArg Value.ref c59_0)) (by decide) (by decide) ?_
      refine g_iconst X45 hx (1 : Int32) (hb hby at_62) (by decide) ?_
      refine g_goto X45 hx 67 (hb hby at_63) (by decide) (by decide) ?_
      exact own_retZ X45 hx hret hlk (hb hby at_67) (by decide) (by decide) (by decide) ⟨rfl, N45⟩
    · rw [q40]
      obtain ⟨cl47, Ar47, -, sz47, -, Ha47, -⟩ := id V_b1_9
      have hin47 : ¬ ((2 : Int32) < 0 ∨ cl47.slots.size ≤ (2 : Int32).toNatClampNeg) := by rw [sz47]; decide
      have hat47 : cl47.slots[(2 : Int32).toNatClampNeg]? = some (.ref w_ANALOG) := Ha47 2 (by rw [sz47]; decide)
      refine Go.mp (fun _ k => X9.aaload hx (j := 2) (v := (.ref w_ANALOG)) (by rw [e9]; exact Ar47.1) (State.isArrayOf_alike hZ.alike Ar47.2.1) rfl Ar47.2.2 hin47 hat47 (g := (mkF m 45 #[.val (.int p1), .val (.int p2), .val (.int (2 : Int32)), .val (.int (2 : Int32)), .val (.ref b1), .unset] [(.int (2 : Int32)), (.ref b1), (.ref w_ANALOG)])) rfl rfl (hb hby at_45) _ k) ?_
      show Go p e below (T9.setTop (mkF m 46 #[.val (.int p1), .val (.int p2), .val (.int (2 : Int32)), .val (.int (2 : Int32)), .val (.ref b1), .unset] [(.ref w_ANALOG), (.ref w_ANALOG)])) _
      obtain ⟨v48, T48, L48, X48, q48, st48⟩ := own_callV X9 hx hZ (y := (⟨"com/example/tektonik/tektonik/describe/Form", "with", "(Lcom/example/tektonik/tektonik/describe/Form;)Lcom/example/tektonik/tektonik/describe/Form;"⟩ : MethodName)) (pc := 46) (Ls := #[.val (.int p1), .val (.int p2), .val (.int (2 : Int32)), .val (.int (2 : Int32)), .val (.ref b1), .unset]) (st := [(.ref w_ANALOG), (.ref w_ANALOG)]) hown (hw _ (List.mem_of_getElem? (i := 12) rfl)) (hw _ (List.mem_of_getElem? (i := 13) rfl)) (hw _ (List.mem_of_getElem? (i := 15) rfl)) (hw _ (List.mem_of_getElem? (i := 14) rfl)) (hw _ (List.mem_of_getElem? (i := 16) rfl)) (hw _ (List.mem_of_getElem? (i := 3) rfl)) (by decide) (rm_withF l Z a0 hw w_ANALOG w_ANALOG w_NOT_DEFINED w_HYBRID h9 n0 Z9 S_NOT_DEFINED_9 S_HYBRID_9) e9 E_w_ANALOG_9 pd_0 (hb hby at_46) (by rw [hml]; rfl) (argsL := [(.ref w_ANALOG)]) (rest := []) rfl rfl rfl (W := 0) (Nat.le_of_eq rfl) (by decide) (by decide) (by decide) (by decide)
      obtain ⟨rfl, M48, e48⟩ := q48
      have N48 := Fr.app N9 M48
      have r48 : (f_withF w_ANALOG w_ANALOG w_NOT_DEFINED w_HYBRID) = w_ANALOG := by rw [f_withF, if_neg (ne_ANALOG_NOT_DEFINED : ¬ (w_ANALOG = w_NOT_DEFINED)), if_pos (rfl : w_ANALOG = w_ANALOG)]
      rw [r48] at st48
      refine Go.mp st48 ?_
      show Go p e below (T48.setTop (mkF m 49 #[.val (.int p1), .val (.int p2), .val (.int (2 : Int32)), .val (.int (2 : Int32)), .val (.ref b1), .unset] [(.ref w_ANALOG)])) _
      refine g_astore X48 hx #[.val (.int p1), .val (.int p2), .val (.int (2 : Int32)), .val (.int (2 : Int32)), .val (.ref b1), .val (.ref w_ANALOG)] (hb hby at_49) rfl rfl ?_
      refine g_aload X48 hx (hb hby at_51) rfl rfl ?_
      refine g_aload X48 hx (hb hby at_53) rfl rfl ?_
      refine g_iloadN X48 hx (hb hby at_55) rfl ?_
      refine g_iloadN X48 hx (hb hby at_56) rfl ?_
      refine g_ior X48 hx (hb hby at_57) ?_
      show Go p e below (T48.setTop (mkF m 58 #[.val (.int p1), .val (.int p2), .val (.int (2 : Int32)), .val (.int (2 : Int32)), .val (.ref b1), .val (.ref w_ANALOG)] [(.int ((2 : Int32) ||| (2 : Int32))), (.ref b1), (.ref w_ANALOG)])) _
      rw [show ((2 : Int32) ||| (2 : Int32)) = (2 : Int32) from by decide]
      obtain ⟨cl49, Ar49, -, sz49, -, Ha49, -⟩ := id V_b1_9
      have hin49 : ¬ ((2 : Int32) < 0 ∨ cl49.slots.size ≤ (2 : Int32).toNatClampNeg) := by rw [sz49]; decide
      have hat49 : cl49.slots[(2 : Int32).toNatClampNeg]? = some (.ref w_ANALOG) := Ha49 2 (by rw [sz49]; decide)
      refine Go.mp (fun _ k => X48.aaload hx (j := 2) (v := (.ref w_ANALOG)) (by rw [e48]; exact Ar49.1) (State.isArrayOf_alike hZ.alike Ar49.2.1) rfl Ar49.2.2 hin49 hat49 (g := (mkF m 58 #[.val (.int p1), .val (.int p2), .val (.int (2 : Int32)), .val (.int (2 : Int32)), .val (.ref b1), .val (.ref w_ANALOG)] [(.int (2 : Int32)), (.ref b1), (.ref w_ANALOG)])) rfl rfl (hb hby at_58) _ k) ?_
      show Go p e below (T48.setTop (mkF m 59 #[.val (.int p1), .val (.int p2), .val (.int (2 : Int32)), .val (.int (2 : Int32)), .val (.ref b1), .val (.ref w_ANALOG)] [(.ref w_ANALOG), (.ref w_ANALOG)])) _
      have c59_0 : w_ANALOG = w_ANALOG := rfl
      refine g_acmp X48 hx 62 true rfl rfl (hb hby at_59) (decide_eq_true (congrArg Value.ref c59_0)) (by decide) (by decide) ?_
      refine g_iconst X48 hx (1 : Int32) (hb hby at_62) (by decide) ?_
      refine g_goto X48 hx 67 (hb hby at_63) (by decide) (by decide) ?_
      exact own_retZ X48 hx hret hlk (hb hby at_67) (by decide) (by decide) (by decide) ⟨rfl, N48⟩
    · rw [q40]
      obtain ⟨cl50, Ar50, -, sz50, -, Ha50, -⟩ := id V_b1_9
      have hin50 : ¬ ((3 : Int32) < 0 ∨ cl50.slots.size ≤ (3 : Int32).toNatClampNeg) := by rw [sz50]; decide
      have hat50 : cl50.slots[(3 : Int32).toNatClampNeg]? = some (.ref w_HYBRID) := Ha50 3 (by rw [sz50]; decide)
      refine Go.mp (fun _ k => X9.aaload hx (j := 3) (v := (.ref w_HYBRID)) (by rw [e9]; exact Ar50.1) (State.isArrayOf_alike hZ.alike Ar50.2.1) rfl Ar50.2.2 hin50 hat50 (g := (mkF m 45 #[.val (.int p1), .val (.int p2), .val (.int (2 : Int32)), .val (.int (3 : Int32)), .val (.ref b1), .unset] [(.int (3 : Int32)), (.ref b1), (.ref w_ANALOG)])) rfl rfl (hb hby at_45) _ k) ?_
      show Go p e below (T9.setTop (mkF m 46 #[.val (.int p1), .val (.int p2), .val (.int (2 : Int32)), .val (.int (3 : Int32)), .val (.ref b1), .unset] [(.ref w_HYBRID), (.ref w_ANALOG)])) _
      obtain ⟨v51, T51, L51, X51, q51, st51⟩ := own_callV X9 hx hZ (y := (⟨"com/example/tektonik/tektonik/describe/Form", "with", "(Lcom/example/tektonik/tektonik/describe/Form;)Lcom/example/tektonik/tektonik/describe/Form;"⟩ : MethodName)) (pc := 46) (Ls := #[.val (.int p1), .val (.int p2), .val (.int (2 : Int32)), .val (.int (3 : Int32)), .val (.ref b1), .unset]) (st := [(.ref w_HYBRID), (.ref w_ANALOG)]) hown (hw _ (List.mem_of_getElem? (i := 12) rfl)) (hw _ (List.mem_of_getElem? (i := 13) rfl)) (hw _ (List.mem_of_getElem? (i := 15) rfl)) (hw _ (List.mem_of_getElem? (i := 14) rfl)) (hw _ (List.mem_of_getElem? (i := 16) rfl)) (hw _ (List.mem_of_getElem? (i := 3) rfl)) (by decide) (rm_withF l Z a0 hw w_ANALOG w_HYBRID w_NOT_DEFINED w_HYBRID h9 n0 Z9 S_NOT_DEFINED_9 S_HYBRID_9) e9 E_w_ANALOG_9 pd_0 (hb hby at_46) (by rw [hml]; rfl) (argsL := [(.ref w_HYBRID)]) (rest := []) rfl rfl rfl (W := 0) (Nat.le_of_eq rfl) (by decide) (by decide) (by decide) (by decide)
      obtain ⟨rfl, M51, e51⟩ := q51
      have N51 := Fr.app N9 M51
      have r51 : (f_withF w_ANALOG w_HYBRID w_NOT_DEFINED w_HYBRID) = w_HYBRID := by rw [f_withF, if_neg (ne_ANALOG_NOT_DEFINED : ¬ (w_ANALOG = w_NOT_DEFINED)), if_neg (ne_ANALOG_HYBRID : ¬ (w_ANALOG = w_HYBRID)), if_neg ((Ne.symm ne_NOT_DEFINED_HYBRID) : ¬ (w_HYBRID = w_NOT_DEFINED))]
      rw [r51] at st51
      refine Go.mp st51 ?_
      show Go p e below (T51.setTop (mkF m 49 #[.val (.int p1), .val (.int p2), .val (.int (2 : Int32)), .val (.int (3 : Int32)), .val (.ref b1), .unset] [(.ref w_HYBRID)])) _
      refine g_astore X51 hx #[.val (.int p1), .val (.int p2), .val (.int (2 : Int32)), .val (.int (3 : Int32)), .val (.ref b1), .val (.ref w_HYBRID)] (hb hby at_49) rfl rfl ?_
      refine g_aload X51 hx (hb hby at_51) rfl rfl ?_
      refine g_aload X51 hx (hb hby at_53) rfl rfl ?_
      refine g_iloadN X51 hx (hb hby at_55) rfl ?_
      refine g_iloadN X51 hx (hb hby at_56) rfl ?_
      refine g_ior X51 hx (hb hby at_57) ?_
      show Go p e below (T51.setTop (mkF m 58 #[.val (.int p1), .val (.int p2), .val (.int (2 : Int32)), .val (.int (3 : Int32)), .val (.ref b1), .val (.ref w_HYBRID)] [(.int ((2 : Int32) ||| (3 : Int32))), (.ref b1), (.ref w_HYBRID)])) _
      rw [show ((2 : Int32) ||| (3 : Int32)) = (3 : Int32) from by decide]
      obtain ⟨cl52, Ar52, -, sz52, -, Ha52, -⟩ := id V_b1_9
      have hin52 : ¬ ((3 : Int32) < 0 ∨ cl52.slots.size ≤ (3 : Int32).toNatClampNeg) := by rw [sz52]; decide
      have hat52 : cl52.slots[(3 : Int32).toNatClampNeg]? = some (.ref w_HYBRID) := Ha52 3 (by rw [sz52]; decide)
      refine Go.mp (fun _ k => X51.aaload hx (j := 3) (v := (.ref w_HYBRID)) (by rw [e51]; exact Ar52.1) (State.isArrayOf_alike hZ.alike Ar52.2.1) rfl Ar52.2.2 hin52 hat52 (g := (mkF m 58 #[.val (.int p1), .val (.int p2), .val (.int (2 : Int32)), .val (.int (3 : Int32)), .val (.ref b1), .val (.ref w_HYBRID)] [(.int (3 : Int32)), (.ref b1), (.ref w_HYBRID)])) rfl rfl (hb hby at_58) _ k) ?_
      show Go p e below (T51.setTop (mkF m 59 #[.val (.int p1), .val (.int p2), .val (.int (2 : Int32)), .val (.int (3 : Int32)), .val (.ref b1), .val (.ref w_HYBRID)] [(.ref w_HYBRID), (.ref w_HYBRID)])) _
      have c59_0 : w_HYBRID = w_HYBRID := rfl
      refine g_acmp X51 hx 62 true rfl rfl (hb hby at_59) (decide_eq_true (congrArg Value.ref c59_0)) (by decide) (by decide) ?_
      refine g_iconst X51 hx (1 : Int32) (hb hby at_62) (by decide) ?_
      refine g_goto X51 hx 67 (hb hby at_63) (by decide) (by decide) ?_
      exact own_retZ X51 hx hret hlk (hb hby at_67) (by decide) (by decide) (by decide) ⟨rfl, N51⟩
  · rw [q10]
    obtain ⟨cl53, Ar53, -, sz53, -, Ha53, -⟩ := id V_b1_9
    have hin53 : ¬ ((3 : Int32) < 0 ∨ cl53.slots.size ≤ (3 : Int32).toNatClampNeg) := by rw [sz53]; decide
    have hat53 : cl53.slots[(3 : Int32).toNatClampNeg]? = some (.ref w_HYBRID) := Ha53 3 (by rw [sz53]; decide)
    refine Go.mp (fun _ k => X9.aaload hx (j := 3) (v := (.ref w_HYBRID)) (by rw [e9]; exact Ar53.1) (State.isArrayOf_alike hZ.alike Ar53.2.1) rfl Ar53.2.2 hin53 hat53 (g := (mkF m 41 #[.val (.int p1), .val (.int p2), .val (.int (3 : Int32)), .val (.int (p2 &&& (3 : Int32))), .val (.ref b1), .unset] [(.int (3 : Int32)), (.ref b1)])) rfl rfl (hb hby at_41) _ k) ?_
    show Go p e below (T9.setTop (mkF m 42 #[.val (.int p1), .val (.int p2), .val (.int (3 : Int32)), .val (.int (p2 &&& (3 : Int32))), .val (.ref b1), .unset] [(.ref w_HYBRID)])) _
    refine g_aload X9 hx (hb hby at_42) rfl rfl ?_
    refine g_iloadN X9 hx (hb hby at_44) rfl ?_
    show Go p e below (T9.setTop (mkF m 45 #[.val (.int p1), .val (.int p2), .val (.int (3 : Int32)), .val (.int (p2 &&& (3 : Int32))), .val (.ref b1), .unset] [(.int (p2 &&& (3 : Int32))), (.ref b1), (.ref w_HYBRID)])) _
    rcases own_and3 p2 with q54 | q54 | q54 | q54
    · rw [q54]
      obtain ⟨cl55, Ar55, -, sz55, -, Ha55, -⟩ := id V_b1_9
      have hin55 : ¬ ((0 : Int32) < 0 ∨ cl55.slots.size ≤ (0 : Int32).toNatClampNeg) := by rw [sz55]; decide
      have hat55 : cl55.slots[(0 : Int32).toNatClampNeg]? = some (.ref w_NOT_DEFINED) := Ha55 0 (by rw [sz55]; decide)
      refine Go.mp (fun _ k => X9.aaload hx (j := 0) (v := (.ref w_NOT_DEFINED)) (by rw [e9]; exact Ar55.1) (State.isArrayOf_alike hZ.alike Ar55.2.1) rfl Ar55.2.2 hin55 hat55 (g := (mkF m 45 #[.val (.int p1), .val (.int p2), .val (.int (3 : Int32)), .val (.int (0 : Int32)), .val (.ref b1), .unset] [(.int (0 : Int32)), (.ref b1), (.ref w_HYBRID)])) rfl rfl (hb hby at_45) _ k) ?_
      show Go p e below (T9.setTop (mkF m 46 #[.val (.int p1), .val (.int p2), .val (.int (3 : Int32)), .val (.int (0 : Int32)), .val (.ref b1), .unset] [(.ref w_NOT_DEFINED), (.ref w_HYBRID)])) _
      obtain ⟨v56, T56, L56, X56, q56, st56⟩ := own_callV X9 hx hZ (y := (⟨"com/example/tektonik/tektonik/describe/Form", "with", "(Lcom/example/tektonik/tektonik/describe/Form;)Lcom/example/tektonik/tektonik/describe/Form;"⟩ : MethodName)) (pc := 46) (Ls := #[.val (.int p1), .val (.int p2), .val (.int (3 : Int32)), .val (.int (0 : Int32)), .val (.ref b1), .unset]) (st := [(.ref w_NOT_DEFINED), (.ref w_HYBRID)]) hown (hw _ (List.mem_of_getElem? (i := 12) rfl)) (hw _ (List.mem_of_getElem? (i := 13) rfl)) (hw _ (List.mem_of_getElem? (i := 15) rfl)) (hw _ (List.mem_of_getElem? (i := 14) rfl)) (hw _ (List.mem_of_getElem? (i := 16) rfl)) (hw _ (List.mem_of_getElem? (i := 3) rfl)) (by decide) (rm_withF l Z a0 hw w_HYBRID w_NOT_DEFINED w_NOT_DEFINED w_HYBRID h9 n0 Z9 S_NOT_DEFINED_9 S_HYBRID_9) e9 E_w_HYBRID_9 pd_0 (hb hby at_46) (by rw [hml]; rfl) (argsL := [(.ref w_NOT_DEFINED)]) (rest := []) rfl rfl rfl (W := 0) (Nat.le_of_eq rfl) (by decide) (by decide) (by decide) (by decide)
      obtain ⟨rfl, M56, e56⟩ := q56
      have N56 := Fr.app N9 M56
      have r56 : (f_withF w_HYBRID w_NOT_DEFINED w_NOT_DEFINED w_HYBRID) = w_HYBRID := by rw [f_withF, if_neg ((Ne.symm ne_NOT_DEFINED_HYBRID) : ¬ (w_HYBRID = w_NOT_DEFINED)), if_neg ((Ne.symm ne_NOT_DEFINED_HYBRID) : ¬ (w_HYBRID = w_NOT_DEFINED)), if_pos (rfl : w_NOT_DEFINED = w_NOT_DEFINED)]
      rw [r56] at st56
      refine Go.mp st56 ?_
      show Go p e below (T56.setTop (mkF m 49 #[.val (.int p1), .val (.int p2), .val (.int (3 : Int32)), .val (.int (0 : Int32)), .val (.ref b1), .unset] [(.ref w_HYBRID)])) _
      refine g_astore X56 hx #[.val (.int p1), .val (.int p2), .val (.int (3 : Int32)), .val (.int (0 : Int32)), .val (.ref b1), .val (.ref w_HYBRID)] (hb hby at_49) rfl rfl ?_
      refine g_aload X56 hx (hb hby at_51) rfl rfl ?_
      refine g_aload X56 hx (hb hby at_53) rfl rfl ?_
      refine g_iloadN X56 hx (hb hby at_55) rfl ?_
      refine g_iloadN X56 hx (hb hby at_56) rfl ?_
      refine g_ior X56 hx (hb hby at_57) ?_
      show Go p e below (T56.setTop (mkF m 58 #[.val (.int p1), .val (.int p2), .val (.int (3 : Int32)), .val (.int (0 : Int32)), .val (.ref b1), .val (.ref w_HYBRID)] [(.int ((3 : Int32) ||| (0 : Int32))), (.ref b1), (.ref w_HYBRID)])) _
      rw [show ((3 : Int32) ||| (0 : Int32)) = (3 : Int32) from by decide]
      obtain ⟨cl57, Ar57, -, sz57, -, Ha57, -⟩ := id V_b1_9
      have hin57 : ¬ ((3 : Int32) < 0 ∨ cl57.slots.size ≤ (3 : Int32).toNatClampNeg) := by rw [sz57]; decide
      have hat57 : cl57.slots[(3 : Int32).toNatClampNeg]? = some (.ref w_HYBRID) := Ha57 3 (by rw [sz57]; decide)
      refine Go.mp (fun _ k => X56.aaload hx (j := 3) (v := (.ref w_HYBRID)) (by rw [e56]; exact Ar57.1) (State.isArrayOf_alike hZ.alike Ar57.2.1) rfl Ar57.2.2 hin57 hat57 (g := (mkF m 58 #[.val (.int p1), .val (.int p2), .val (.int (3 : Int32)), .val (.int (0 : Int32)), .val (.ref b1), .val (.ref w_HYBRID)] [(.int (3 : Int32)), (.ref b1), (.ref w_HYBRID)])) rfl rfl (hb hby at_58) _ k) ?_
      show Go p e below (T56.setTop (mkF m 59 #[.val (.int p1), .val (.int p2), .val (.int (3 : Int32)), .val (.int (0 : Int32)), .val (.ref b1), .val (.ref w_HYBRID)] [(.ref w_HYBRID), (.ref w_HYBRID)])) _
      have c59_0 : w_HYBRID = w_HYBRID := rfl
      refine g_acmp X56 hx 62 true rfl rfl (hb hby at_59) (decide_eq_true (congrArg Value.ref c59_0)) (by decide) (by decide) ?_
      refine g_iconst X56 hx (1 : Int32) (hb hby at_62) (by decide) ?_
      refine g_goto X56 hx 67 (hb hby at_63) (by decide) (by decide) ?_
      exact own_retZ X56 hx hret hlk (hb hby at_67) (by decide) (by decide) (by decide) ⟨rfl, N56⟩
    · rw [q54]
      obtain ⟨cl58, Ar58, -, sz58, -, Ha58, -⟩ := id V_b1_9
      have hin58 : ¬ ((1 : Int32) < 0 ∨ cl58.slots.size ≤ (1 : Int32).toNatClampNeg) := by rw [sz58]; decide
      have hat58 : cl58.slots[(1 : Int32).toNatClampNeg]? = some (.ref w_DIGITAL) := Ha58 1 (by rw [sz58]; decide)
      refine Go.mp (fun _ k => X9.aaload hx (j := 1) (v := (.ref w_DIGITAL)) (by rw [e9]; exact Ar58.1) (State.isArrayOf_alike hZ.alike Ar58.2.1) rfl Ar58.2.2 hin58 hat58 (g := (mkF m 45 #[.val (.int p1), .val (.int p2), .val (.int (3 : Int32)), .val (.int (1 : Int32)), .val (.ref b1), .unset] [(.int (1 : Int32)), (.ref b1), (.ref w_HYBRID)])) rfl rfl (hb hby at_45) _ k) ?_
      show Go p e below (T9.setTop (mkF m 46 #[.val (.int p1), .val (.int p2), .val (.int (3 : Int32)), .val (.int (1 : Int32)), .val (.ref b1), .unset] [(.ref w_DIGITAL), (.ref w_HYBRID)])) _
      obtain ⟨v59, T59, L59, X59, q59, st59⟩ := own_callV X9 hx hZ (y := (⟨"com/example/tektonik/tektonik/describe/Form", "with", "(Lcom/example/tektonik/tektonik/describe/Form;)Lcom/example/tektonik/tektonik/describe/Form;"⟩ : MethodName)) (pc := 46) (Ls := #[.val (.int p1), .val (.int p2), .val (.int (3 : Int32)), .val (.int (1 : Int32)), .val (.ref b1), .unset]) (st := [(.ref w_DIGITAL), (.ref w_HYBRID)]) hown (hw _ (List.mem_of_getElem? (i := 12) rfl)) (hw _ (List.mem_of_getElem? (i := 13) rfl)) (hw _ (List.mem_of_getElem? (i := 15) rfl)) (hw _ (List.mem_of_getElem? (i := 14) rfl)) (hw _ (List.mem_of_getElem? (i := 16) rfl)) (hw _ (List.mem_of_getElem? (i := 3) rfl)) (by decide) (rm_withF l Z a0 hw w_HYBRID w_DIGITAL w_NOT_DEFINED w_HYBRID h9 n0 Z9 S_NOT_DEFINED_9 S_HYBRID_9) e9 E_w_HYBRID_9 pd_0 (hb hby at_46) (by rw [hml]; rfl) (argsL := [(.ref w_DIGITAL)]) (rest := []) rfl rfl rfl (W := 0) (Nat.le_of_eq rfl) (by decide) (by decide) (by decide) (by decide)
      obtain ⟨rfl, M59, e59⟩ := q59
      have N59 := Fr.app N9 M59
      have r59 : (f_withF w_HYBRID w_DIGITAL w_NOT_DEFINED w_HYBRID) = w_HYBRID := by rw [f_withF, if_neg ((Ne.symm ne_NOT_DEFINED_HYBRID) : ¬ (w_HYBRID = w_NOT_DEFINED)), if_neg ((Ne.symm ne_DIGITAL_HYBRID) : ¬ (w_HYBRID = w_DIGITAL)), if_neg ((Ne.symm ne_NOT_DEFINED_DIGITAL) : ¬ (w_DIGITAL = w_NOT_DEFINED))]
      rw [r59] at st59
      refine Go.mp st59 ?_
      show Go p e below (T59.setTop (mkF m 49 #[.val (.int p1), .val (.int p2), .val (.int (3 : Int32)), .val (.int (1 : Int32)), .val (.ref b1), .unset] [(.ref w_HYBRID)])) _
      refine g_astore X59 hx #[.val (.int p1), .val (.int p2), .val (.int (3 : Int32)), .val (.int (1 : Int32)), .val (.ref b1), .val (.ref w_HYBRID)] (hb hby at_49) rfl rfl ?_
      refine g_aload X59 hx (hb hby at_51) rfl rfl ?_
      refine g_aload X59 hx (hb hby at_53) rfl rfl ?_
      refine g_iloadN X59 hx (hb hby at_55) rfl ?_
      refine g_iloadN X59 hx (hb hby at_56) rfl ?_
      refine g_ior X59 hx (hb hby at_57) ?_
      show Go p e below (T59.setTop (mkF m 58 #[.val (.int p1), .val (.int p2), .val (.int (3 : Int32)), .val (.int (1 : Int32)), .val (.ref b1), .val (.ref w_HYBRID)] [(.int ((3 : Int32) ||| (1 : Int32))), (.ref b1), (.ref w_HYBRID)])) _
      rw [show ((3 : Int32) ||| (1 : Int32)) = (3 : Int32) from by decide]
      obtain ⟨cl60, Ar60, -, sz60, -, Ha60, -⟩ := id V_b1_9
      have hin60 : ¬ ((3 : Int32) < 0 ∨ cl60.slots.size ≤ (3 : Int32).toNatClampNeg) := by rw [sz60]; decide
      have hat60 : cl60.slots[(3 : Int32).toNatClampNeg]? = some (.ref w_HYBRID) := Ha60 3 (by rw [sz60]; decide)
      refine Go.mp (fun _ k => X59.aaload hx (j := 3) (v := (.ref w_HYBRID)) (by rw [e59]; exact Ar60.1) (State.isArrayOf_alike hZ.alike Ar60.2.1) rfl Ar60.2.2 hin60 hat60 (g := (mkF m 58 #[.val (.int p1), .val (.int p2), .val (.int (3 : Int32)), .val (.int (1 : Int32)), .val (.ref b1), .val (.ref w_HYBRID)] [(.int (3 : Int32)), (.ref b1), (.ref w_HYBRID)])) rfl rfl (hb hby at_58) _ k) ?_
      show Go p e below (T59.setTop (mkF m 59 #[.val (.int p1), .val (.int p2), .val (.int (3 : Int32)), .val (.int (1 : Int32)), .val (.ref b1), .val (.ref w_HYBRID)] [(.ref w_HYBRID), (.ref w_HYBRID)])) _
      have c59_0 : w_HYBRID = w_HYBRID := rfl
      refine g_acmp X59 hx 62 true rfl rfl (hb hby at_59) (decide_eq_true (congrArg Value.ref c59_0)) (by decide) (by decide) ?_
      refine g_iconst X59 hx (1 : Int32) (hb hby at_62) (by decide) ?_
      refine g_goto X59 hx 67 (hb hby at_63) (by decide) (by decide) ?_
      exact own_retZ X59 hx hret hlk (hb hby at_67) (by decide) (by decide) (by decide) ⟨rfl, N59⟩
    · rw [q54]
      obtain ⟨cl61, Ar61, -, sz61, -, Ha61, -⟩ := id V_b1_9
      have hin61 : ¬ ((2 : Int32) < 0 ∨ cl61.slots.size ≤ (2 : Int32).toNatClampNeg) := by rw [sz61]; decide
      have hat61 : cl61.slots[(2 : Int32).toNatClampNeg]? = some (.ref w_ANALOG) := Ha61 2 (by rw [sz61]; decide)
      refine Go.mp (fun _ k => X9.aaload hx (j := 2) (v := (.ref w_ANALOG)) (by rw [e9]; exact Ar61.1) (State.isArrayOf_alike hZ.alike Ar61.2.1) rfl Ar61.2.2 hin61 hat61 (g := (mkF m 45 #[.val (.int p1), .val (.int p2), .val (.int (3 : Int32)), .val (.int (2 : Int32)), .val (.ref b1), .unset] [(.int (2 : Int32)), (.ref b1), (.ref w_HYBRID)])) rfl rfl (hb hby at_45) _ k) ?_
      show Go p e below (T9.setTop (mkF m 46 #[.val (.int p1), .val (.int p2), .val (.int (3 : Int32)), .val (.int (2 : Int32)), .val (.ref b1), .unset] [(.ref w_ANALOG), (.ref w_HYBRID)])) _
      obtain ⟨v62, T62, L62, X62, q62, st62⟩ := own_callV X9 hx hZ (y := (⟨"com/example/tektonik/tektonik/describe/Form", "with", "(Lcom/example/tektonik/tektonik/describe/Form;)Lcom/example/tektonik/tektonik/describe/Form;"⟩ : MethodName)) (pc := 46) (Ls := #[.val (.int p1), .val (.int p2), .val (.int (3 : Int32)), .val (.int (2 : Int32)), .val (.ref b1), .unset]) (st := [(.ref w_ANALOG), (.ref w_HYBRID)]) hown (hw _ (List.mem_of_getElem? (i := 12) rfl)) (hw _ (List.mem_of_getElem? (i := 13) rfl)) (hw _ (List.mem_of_getElem? (i := 15) rfl)) (hw _ (List.mem_of_getElem? (i := 14) rfl)) (hw _ (List.mem_of_getElem? (i := 16) rfl)) (hw _ (List.mem_of_getElem? (i := 3) rfl)) (by decide) (rm_withF l Z a0 hw w_HYBRID w_ANALOG w_NOT_DEFINED w_HYBRID h9 n0 Z9 S_NOT_DEFINED_9 S_HYBRID_9) e9 E_w_HYBRID_9 pd_0 (hb hby at_46) (by rw [hml]; rfl) (argsL := [(.ref w_ANALOG)]) (rest := []) rfl rfl rfl (W := 0) (Nat.le_of_eq rfl) (by decide) (by decide) (by decide) (by decide)
      obtain ⟨rfl, M62, e62⟩ := q62
      have N62 := Fr.app N9 M62
      have r62 : (f_withF w_HYBRID w_ANALOG w_NOT_DEFINED w_HYBRID) = w_HYBRID := by rw [f_withF, if_neg ((Ne.symm ne_NOT_DEFINED_HYBRID) : ¬ (w_HYBRID = w_NOT_DEFINED)), if_neg ((Ne.symm ne_ANALOG_HYBRID) : ¬ (w_HYBRID = w_ANALOG)), if_neg (ne_ANALOG_NOT_DEFINED : ¬ (w_ANALOG = w_NOT_DEFINED))]
      rw [r62] at st62
      refine Go.mp st62 ?_
      show Go p e below (T62.setTop (mkF m 49 #[.val (.int p1), .val (.int p2), .val (.int (3 : Int32)), .val (.int (2 : Int32)), .val (.ref b1), .unset] [(.ref w_HYBRID)])) _
      refine g_astore X62 hx #[.val (.int p1), .val (.int p2), .val (.int (3 : Int32)), .val (.int (2 : Int32)), .val (.ref b1), .val (.ref w_HYBRID)] (hb hby at_49) rfl rfl ?_
      refine g_aload X62 hx (hb hby at_51) rfl rfl ?_
      refine g_aload X62 hx (hb hby at_53) rfl rfl ?_
      refine g_iloadN X62 hx (hb hby at_55) rfl ?_
      refine g_iloadN X62 hx (hb hby at_56) rfl ?_
      refine g_ior X62 hx (hb hby at_57) ?_
      show Go p e below (T62.setTop (mkF m 58 #[.val (.int p1), .val (.int p2), .val (.int (3 : Int32)), .val (.int (2 : Int32)), .val (.ref b1), .val (.ref w_HYBRID)] [(.int ((3 : Int32) ||| (2 : Int32))), (.ref b1), (.ref w_HYBRID)])) _
      rw [show ((3 : Int32) ||| (2 : Int32)) = (3 : Int32) from by decide]
      obtain ⟨cl63, Ar63, -, sz63, -, Ha63, -⟩ := id V_b1_9
      have hin63 : ¬ ((3 : Int32) < 0 ∨ cl63.slots.size ≤ (3 : Int32).toNatClampNeg) := by rw [sz63]; decide
      have hat63 : cl63.slots[(3 : Int32).toNatClampNeg]? = some (.ref w_HYBRID) := Ha63 3 (by rw [sz63]; decide)
      refine Go.mp (fun _ k => X62.aaload hx (j := 3) (v := (.ref w_HYBRID)) (by rw [e62]; exact Ar63.1) (State.isArrayOf_alike hZ.alike Ar63.2.1) rfl Ar63.2.2 hin63 hat63 (g := (mkF m 58 #[.val (.int p1), .val (.int p2), .val (.int (3 : Int32)), .val (.int (2 : Int32)), .val (.ref b1), .val (.ref w_HYBRID)] [(.int (3 : Int32)), (.ref b1), (.ref w_HYBRID)])) rfl rfl (hb hby at_58) _ k) ?_
      show Go p e below (T62.setTop (mkF m 59 #[.val (.int p1), .val (.int p2), .val (.int (3 : Int32)), .val (.int (2 : Int32)), .val (.ref b1), .val (.ref w_HYBRID)] [(.ref w_HYBRID), (.ref w_HYBRID)])) _
      have c59_0 : w_HYBRID = w_HYBRID := rfl
      refine g_acmp X62 hx 62 true rfl rfl (hb hby at_59) (decide_eq_true (congrArg Value.ref c59_0)) (by decide) (by decide) ?_
      refine g_iconst X62 hx (1 : Int32) (hb hby at_62) (by decide) ?_
      refine g_goto X62 hx 67 (hb hby at_63) (by decide) (by decide) ?_
      exact own_retZ X62 hx hret hlk (hb hby at_67) (by decide) (by decide) (by decide) ⟨rfl, N62⟩
    · rw [q54]
      obtain ⟨cl64, Ar64, -, sz64, -, Ha64, -⟩ := id V_b1_9
      have hin64 : ¬ ((3 : Int32) < 0 ∨ cl64.slots.size ≤ (3 : Int32).toNatClampNeg) := by rw [sz64]; decide
      have hat64 : cl64.slots[(3 : Int32).toNatClampNeg]? = some (.ref w_HYBRID) := Ha64 3 (by rw [sz64]; decide)
      refine Go.mp (fun _ k => X9.aaload hx (j := 3) (v := (.ref w_HYBRID)) (by rw [e9]; exact Ar64.1) (State.isArrayOf_alike hZ.alike Ar64.2.1) rfl Ar64.2.2 hin64 hat64 (g := (mkF m 45 #[.val (.int p1), .val (.int p2), .val (.int (3 : Int32)), .val (.int (3 : Int32)), .val (.ref b1), .unset] [(.int (3 : Int32)), (.ref b1), (.ref w_HYBRID)])) rfl rfl (hb hby at_45) _ k) ?_
      show Go p e below (T9.setTop (mkF m 46 #[.val (.int p1), .val (.int p2), .val (.int (3 : Int32)), .val (.int (3 : Int32)), .val (.ref b1), .unset] [(.ref w_HYBRID), (.ref w_HYBRID)])) _
      obtain ⟨v65, T65, L65, X65, q65, st65⟩ := own_callV X9 hx hZ (y := (⟨"com/example/tektonik/tektonik/describe/Form", "with", "(Lcom/example/tektonik/tektonik/describe/Form;)Lcom/example/tektonik/tektonik/describe/Form;"⟩ : MethodName)) (pc := 46) (Ls := #[.val (.int p1), .val (.int p2), .val (.int (3 : Int32)), .val (.int (3 : Int32)), .val (.ref b1), .unset]) (st := [(.ref w_HYBRID), (.ref w_HYBRID)]) hown (hw _ (List.mem_of_getElem? (i := 12) rfl)) (hw _ (List.mem_of_getElem? (i := 13) rfl)) (hw _ (List.mem_of_getElem? (i := 15) rfl)) (hw _ (List.mem_of_getElem? (i := 14) rfl)) (hw _ (List.mem_of_getElem? (i := 16) rfl)) (hw _ (List.mem_of_getElem? (i := 3) rfl)) (by decide) (rm_withF l Z a0 hw w_HYBRID w_HYBRID w_NOT_DEFINED w_HYBRID h9 n0 Z9 S_NOT_DEFINED_9 S_HYBRID_9) e9 E_w_HYBRID_9 pd_0 (hb hby at_46) (by rw [hml]; rfl) (argsL := [(.ref w_HYBRID)]) (rest := []) rfl rfl rfl (W := 0) (Nat.le_of_eq rfl) (by decide) (by decide) (by decide) (by decide)
      obtain ⟨rfl, M65, e65⟩ := q65
      have N65 := Fr.app N9 M65
      have r65 : (f_withF w_HYBRID w_HYBRID w_NOT_DEFINED w_HYBRID) = w_HYBRID := by rw [f_withF, if_neg ((Ne.symm ne_NOT_DEFINED_HYBRID) : ¬ (w_HYBRID = w_NOT_DEFINED)), if_pos (rfl : w_HYBRID = w_HYBRID)]
      rw [r65] at st65
      refine Go.mp st65 ?_
      show Go p e below (T65.setTop (mkF m 49 #[.val (.int p1), .val (.int p2), .val (.int (3 : Int32)), .val (.int (3 : Int32)), .val (.ref b1), .unset] [(.ref w_HYBRID)])) _
      refine g_astore X65 hx #[.val (.int p1), .val (.int p2), .val (.int (3 : Int32)), .val (.int (3 : Int32)), .val (.ref b1), .val (.ref w_HYBRID)] (hb hby at_49) rfl rfl ?_
      refine g_aload X65 hx (hb hby at_51) rfl rfl ?_
      refine g_aload X65 hx (hb hby at_53) rfl rfl ?_
      refine g_iloadN X65 hx (hb hby at_55) rfl ?_
      refine g_iloadN X65 hx (hb hby at_56) rfl ?_
      refine g_ior X65 hx (hb hby at_57) ?_
      show Go p e below (T65.setTop (mkF m 58 #[.val (.int p1), .val (.int p2), .val (.int (3 : Int32)), .val (.int (3 : Int32)), .val (.ref b1), .val (.ref w_HYBRID)] [(.int ((3 : Int32) ||| (3 : Int32))), (.ref b1), (.ref w_HYBRID)])) _
      rw [show ((3 : Int32) ||| (3 : Int32)) = (3 : Int32) from by decide]
      obtain ⟨cl66, Ar66, -, sz66, -, Ha66, -⟩ := id V_b1_9
      have hin66 : ¬ ((3 : Int32) < 0 ∨ cl66.slots.size ≤ (3 : Int32).toNatClampNeg) := by rw [sz66]; decide
      have hat66 : cl66.slots[(3 : Int32).toNatClampNeg]? = some (.ref w_HYBRID) := Ha66 3 (by rw [sz66]; decide)
      refine Go.mp (fun _ k => X65.aaload hx (j := 3) (v := (.ref w_HYBRID)) (by rw [e65]; exact Ar66.1) (State.isArrayOf_alike hZ.alike Ar66.2.1) rfl Ar66.2.2 hin66 hat66 (g := (mkF m 58 #[.val (.int p1), .val (.int p2), .val (.int (3 : Int32)), .val (.int (3 : Int32)), .val (.ref b1), .val (.ref w_HYBRID)] [(.int (3 : Int32)), (.ref b1), (.ref w_HYBRID)])) rfl rfl (hb hby at_58) _ k) ?_
      show Go p e below (T65.setTop (mkF m 59 #[.val (.int p1), .val (.int p2), .val (.int (3 : Int32)), .val (.int (3 : Int32)), .val (.ref b1), .val (.ref w_HYBRID)] [(.ref w_HYBRID), (.ref w_HYBRID)])) _
      have c59_0 : w_HYBRID = w_HYBRID := rfl
      refine g_acmp X65 hx 62 true rfl rfl (hb hby at_59) (decide_eq_true (congrArg Value.ref c59_0)) (by decide) (by decide) ?_
      refine g_iconst X65 hx (1 : Int32) (hb hby at_62) (by decide) ?_
      refine g_goto X65 hx 67 (hb hby at_63) (by decide) (by decide) ?_
      exact own_retZ X65 hx hret hlk (hb hby at_67) (by decide) (by decide) (by decide) ⟨rfl, N65⟩
set_option maxRecDepth 65536 in
set_option maxHeartbeats 40000000 in
theorem comes_1 {Post : Tables → Env → Array Value → State → Outcome → State → Prop} (hpost : ∀ tb e args s v u, (limb_1_1.after args s (.returned v) u = true ∧ limb_1_2.after args s (.returned v) u = true ∧ True) → FrameEnd s (.returned v) u (Jvm.fieldLocs frame_1_writes args s ++ Jvm.arrayLocs frame_1_arrays args s ++ Jvm.staticLocs frame_1_statics s) 16 128 → Post tb e args s (.returned v) u) :
    ArmFor flags0 classFile x code maxLocals ret World_1 tables_1 room_1 Calls_1 rest_1 Pre_1 Post := by
  intro l hfl _ _ p e ha hc hk s m args below hf hA hF happ hP
  obtain ⟨hcalls, hrest, hpre⟩ := hP
  obtain ⟨-, -, -, hnamed, -, -, -, hat⟩ := (Spec.applies_iff hf).mp happ
  obtain ⟨hg, hn⟩ := and_e (Cond.before_iff.mp (show (Jvm.Cond.and given_1 narrow_1).before args s = true from hpre))
  obtain ⟨hcnt, hg⟩ := and_e hg
  obtain ⟨w0, w1, rfl⟩ : ∃ w0 w1 : Value, args = #[w0, w1] := by
    have hs : args.size = 2 := by simpa [Cond.value, given_1] using hcnt
    obtain ⟨L⟩ := args
    match L, hs with
    | [w0, w1], _ => exact ⟨w0, w1, rfl⟩
  have hw := fun d (hd : d ∈ tables_1) => atoms_spec (ws := Jvm.Cond.code x code maxLocals ret :: tables_1) hat d (List.mem_cons_of_mem _ hd)
  obtain ⟨ha0, hg0⟩ := and_e hg
  obtain ⟨p1, ep1⟩ := is_v ha0
  obtain rfl : w0 = (.int p1) := Option.some.inj ep1
  obtain ⟨p2, ep2⟩ := is_v hg0
  obtain rfl : w1 = (.int p2) := Option.some.inj ep2
  obtain ⟨hn0, hm0⟩ := and_e hn
  obtain ⟨w_NOT_DEFINED, S_NOT_DEFINED, E_NOT_DEFINED, ev_NOT_DEFINED⟩ := own_sta hn0 (hw _ (List.mem_of_getElem? (i := 3) rfl)) (hw _ (List.mem_of_getElem? (i := 4) rfl))
  obtain ⟨hn1, hm1⟩ := and_e hm0
  obtain ⟨w_DIGITAL, S_DIGITAL, E_DIGITAL, ev_DIGITAL⟩ := own_sta hn1 (hw _ (List.mem_of_getElem? (i := 3) rfl)) (hw _ (List.mem_of_getElem? (i := 7) rfl))
  obtain ⟨hn2, hm2⟩ := and_e hm1
  obtain ⟨w_ANALOG, S_ANALOG, E_ANALOG, ev_ANALOG⟩ := own_sta hn2 (hw _ (List.mem_of_getElem? (i := 3) rfl)) (hw _ (List.mem_of_getElem? (i := 9) rfl))
  obtain ⟨hn3, hm3⟩ := and_e hm2
  obtain ⟨w_HYBRID, S_HYBRID, E_HYBRID, ev_HYBRID⟩ := own_sta hn3 (hw _ (List.mem_of_getElem? (i := 3) rfl)) (hw _ (List.mem_of_getElem? (i := 11) rfl))
  obtain ⟨hn4, hm4⟩ := and_e hm3
  have O_ANALOG_ordinal_h := hn4
  obtain ⟨hn5, hm5⟩ := and_e hm4
  have O_NOT_DEFINED_ordinal_h := hn5
  obtain ⟨hn6, hm6⟩ := and_e hm5
  have O_DIGITAL_ordinal_h := hn6
  have O_HYBRID_ordinal_h := hm6
  have O_ANALOG_ordinal := own_ord O_ANALOG_ordinal_h ev_ANALOG
  have O_NOT_DEFINED_ordinal := own_ord O_NOT_DEFINED_ordinal_h ev_NOT_DEFINED
  have O_DIGITAL_ordinal := own_ord O_DIGITAL_ordinal_h ev_DIGITAL
  have O_HYBRID_ordinal := own_ord O_HYBRID_ordinal_h ev_HYBRID
  obtain ⟨n, o, h1, h2, h3, _, L, rfl, ⟨rfl, N⟩, hq⟩ := rm_law l s _ hw p1 p2 w_NOT_DEFINED w_DIGITAL w_ANALOG w_HYBRID s.heap s.heap.size (Nat.le_refl _) S_NOT_DEFINED E_NOT_DEFINED S_DIGITAL E_DIGITAL S_ANALOG E_ANALOG S_HYBRID E_HYBRID (own_ne O_ANALOG_ordinal O_NOT_DEFINED_ordinal (by decide)) (own_ne O_ANALOG_ordinal O_DIGITAL_ordinal (by decide)) (own_ne O_ANALOG_ordinal O_HYBRID_ordinal (by decide)) (own_ne O_NOT_DEFINED_ordinal O_DIGITAL_ordinal (by decide)) (own_ne O_NOT_DEFINED_ordinal O_HYBRID_ordinal (by decide)) (own_ne O_DIGITAL_ordinal O_HYBRID_ordinal (by decide)) p e ha hc hk s m _ below hf ((Spec.applies_iff_loose hf).mp happ).1 ⟨rfl, State.Warmed39.refl s, rfl⟩ trivial
  refine ⟨n, _, h1, h2, h3, hpost _ _ _ _ _ _ ⟨Cond.after_iff.mpr rfl, Cond.after_iff.mpr (eq_i res_at (Term.int_eval (1)) rfl), trivial⟩ ⟨hq.1, hq.2.1, (hq.2.2.sift fun y hy => Or.inr (N y hy)).mono (by decide) (by decide)⟩⟩
theorem main_1_1 : Claimed_1_1 := comes_1 fun _ _ _ _ _ _ h hF => ⟨h.1, hF⟩
theorem main_1_2 : Claimed_1_2 := comes_1 fun _ _ _ _ _ _ h hF => ⟨h.2.1, hF⟩
end Jvm.Pilot.@@N@@
namespace Jvm.Pilot.@@N@@
open Jvm Jvm.ClassFile Sem Op Lib Jvm.Free Jvm.Stand Jvm.Pilot.@@N@@.Jvm.D
/-! MADE BY PROGRAM (witnessworld.py) out of the Statement's table words and the real class files: 13 classes; the members and pool entries that the words name. The judged class is class 1, her method 1. -/
namespace start1
open Jvm.ClassFile
def u (s : String) : CpInfo := .utf8 (stringToUtf16 s)
/-- a pool by its gaps: so many unusable entries, then the entry; so many at the end -/
def gap : Nat → List CpInfo → List CpInfo
  | 0, r => r
  | n + 1, r => .unusable :: gap n r
def poolList (es : List (Nat × CpInfo)) (last : Nat) : List CpInfo := es.foldr (fun e r => gap e.1 (e.2 :: r)) (gap last [])
def pool (es : List (Nat × CpInfo)) (last : Nat) : Array CpInfo := ⟨poolList es last⟩
def fileOf (pool : Array CpInfo) (this : Nat) (attrs : Array Attribute := #[]) (ms : Array MethodInfo := #[]) (fl : Nat := 33) (sup : Nat := 0) (ifs : Array Nat := #[]) (fds : Array FieldInfo := #[]) : ClassFile where
  minorVersion := 0
  majorVersion := 65
  constantPool := pool
  accessFlags := fl
  thisClass := this
  superClass := sup
  interfaces := ifs
  fields := fds
  methods := ms
  attributes := attrs
def plain (name : String) (sup : Option ClassId) : Class where
  name := name
  kind := .ordinary
  loader := none
  accessFlags := 33
  super := sup
  interfaces := #[]
  cf := none
  fields := #[]
  methods := #[]
  instanceTypes := #[]
  staticTypes := #[]
  resolved := #[]
  callSites := []
  init := .initialized
  statics := none
  mirror := none

def pool0 : Array CpInfo := pool [(5, u "<init>"), (0, u "()V"), (1, .class_ 10), (1, u "java/lang/Object")] 113

def k0m0 : Method := { name := "<init>", desc := "()V", sig := { parameters := [], returnType := none }, accessFlags := 1, code := none }
/-- java/lang/Object -/
def k0 : Class := { plain "java/lang/Object" none with
  accessFlags := 33
  interfaces := #[]
  cf := some (fileOf pool0 8 #[] #[{ accessFlags := 1, nameIndex := 5, descriptorIndex := 6, attributes := #[] }] 33 0 #[] #[])
  fields := #[]
  methods := #[k0m0]
  instanceTypes := #[]
  staticTypes := #[]
  resolved := Array.replicate 124 none
  statics := none }

def pool1 : Array CpInfo := pool [(2, .class_ 4), (1, u "java/lang/Object"), (0, u "<init>"), (0, u "()V"), (0, .class_ 8), (0, u "com/example/tektonik/tektonik/describe/Form"), (0, .fieldref 7 10), (0, .nameAndType 11 12), (0, u "NOT_DEFINED"), (0, u "Lcom/example/tektonik/tektonik/describe/Form;"), (0, .fieldref 7 14), (0, .nameAndType 15 12), (0, u "DIGITAL"), (0, .fieldref 7 17), (0, .nameAndType 18 12), (0, u "ANALOG"), (0, .fieldref 7 20), (0, .nameAndType 21 12), (0, u "HYBRID"), (0, .methodref 7 23), (0, .nameAndType 24 25), (0, u "with"), (0, u "(Lcom/example/tektonik/tektonik/describe/Form;)Lcom/example/tektonik/tektonik/describe/Form;"), (0, .class_ 27), (0, u "com/example/tektonik/tektonik/describe/FormWithPinLaw"), (2, u "law"), (0, u "(II)Z")] 5

def k1m0 : Method := { name := "<init>", desc := "()V", sig := { parameters := [], returnType := none }, accessFlags := 1, code := none }
def k1c1 : Code := { maxStack := 4, maxLocals := 6, code := code, exceptionTable := #[], attributes := #[] }
def k1m1 : Method := { name := "law", desc := "(II)Z", sig := { parameters := [.int, .int], returnType := some .boolean }, accessFlags := 9, code := some k1c1 }
/-- com/example/tektonik/tektonik/describe/FormWithPinLaw -/
def k1 : Class := { plain "com/example/tektonik/tektonik/describe/FormWithPinLaw" (some 0) with
  accessFlags := 49
  interfaces := #[]
  cf := some (fileOf pool1 26 #[] #[{ accessFlags := 1, nameIndex := 5, descriptorIndex := 6, attributes := #[] }, { accessFlags := 9, nameIndex := 30, descriptorIndex := 31, attributes := #[] }] 49 2 #[] #[])
  fields := #[]
  methods := #[k1m0, k1m1]
  instanceTypes := #[]
  staticTypes := #[]
  resolved := Array.replicate 37 none
  statics := none }

def pool2 : Array CpInfo := pool [(1, .class_ 2), (0, u "java/lang/constant/Constable"), (0, .class_ 4), (0, u "java/lang/Object")] 6

/-- java/lang/constant/Constable -/
def k2 : Class := { plain "java/lang/constant/Constable" (some 0) with
  accessFlags := 1537
  interfaces := #[]
  cf := some (fileOf pool2 1 #[] #[] 1537 3 #[] #[])
  fields := #[]
  methods := #[]
  instanceTypes := #[]
  staticTypes := #[]
  resolved := Array.replicate 11 none
  statics := none }

def pool3 : Array CpInfo := pool [(1, .class_ 2), (0, u "java/lang/Comparable"), (0, .class_ 4), (0, u "java/lang/Object")] 7

/-- java/lang/Comparable -/
def k3 : Class := { plain "java/lang/Comparable" (some 0) with
  accessFlags := 1537
  interfaces := #[]
  cf := some (fileOf pool3 1 #[] #[] 1537 3 #[] #[])
  fields := #[]
  methods := #[]
  instanceTypes := #[]
  staticTypes := #[]
  resolved := Array.replicate 12 none
  statics := none }

def pool4 : Array CpInfo := pool [(1, .class_ 2), (0, u "java/io/Serializable"), (0, .class_ 4), (0, u "java/lang/Object")] 2

/-- java/io/Serializable -/
def k4 : Class := { plain "java/io/Serializable" (some 0) with
  accessFlags := 1537
  interfaces := #[]
  cf := some (fileOf pool4 1 #[] #[] 1537 3 #[] #[])
  fields := #[]
  methods := #[]
  instanceTypes := #[]
  staticTypes := #[]
  resolved := Array.replicate 7 none
  statics := none }

def pool5 : Array CpInfo := pool [(2, .class_ 4), (1, u "java/lang/Enum"), (0, u "name"), (0, u "Ljava/lang/String;"), (2, u "ordinal"), (0, u "I"), (1, .class_ 14), (1, u "java/lang/Object"), (4, u "hash"), (86, .class_ 108), (1, u "java/lang/Enum$EnumDesc"), (2, .class_ 112), (0, u "java/lang/constant/Constable"), (0, .class_ 114), (0, u "java/lang/Comparable"), (0, .class_ 116), (0, u "java/io/Serializable")] 87

/-- java/lang/Enum -/
def k5 : Class := { plain "java/lang/Enum" (some 0) with
  accessFlags := 1057
  interfaces := #[2, 3, 4]
  cf := some (fileOf pool5 2 #[.nestMembers #[106]] #[] 1057 12 #[111, 113, 115] #[{ accessFlags := 18, nameIndex := 5, descriptorIndex := 6, attributes := #[] }, { accessFlags := 18, nameIndex := 9, descriptorIndex := 10, attributes := #[] }, { accessFlags := 2, nameIndex := 19, descriptorIndex := 10, attributes := #[] }])
  fields := #[{ name := "name", type := (.object "java/lang/String"), accessFlags := 18, slot := 0, constantValue := 0 }, { name := "ordinal", type := .int, accessFlags := 18, slot := 1, constantValue := 0 }, { name := "hash", type := .int, accessFlags := 2, slot := 2, constantValue := 0 }]
  methods := #[]
  instanceTypes := #[(.object "java/lang/String"), .int, .int]
  staticTypes := #[]
  resolved := Array.replicate 204 none
  statics := none }

def pool6 : Array CpInfo := pool [(1, .class_ 2), (0, u "com/example/tektonik/tektonik/describe/Form"), (0, .fieldref 1 4), (0, .nameAndType 5 6), (0, u "NOT_DEFINED"), (0, u "Lcom/example/tektonik/tektonik/describe/Form;"), (2, u "DIGITAL"), (2, u "ANALOG"), (0, .fieldref 1 14), (0, .nameAndType 15 6), (0, u "HYBRID"), (2, u "$VALUES"), (0, u "[Lcom/example/tektonik/tektonik/describe/Form;"), (6, .class_ 28), (1, u "java/lang/Enum"), (8, u "xisadgName"), (0, u "Ljava/lang/String;"), (43, u "with"), (0, u "(Lcom/example/tektonik/tektonik/describe/Form;)Lcom/example/tektonik/tektonik/describe/Form;")] 5

def k6c0 : Code := { maxStack := 2, maxLocals := 2, code := prog_54_method_6_code, exceptionTable := #[], attributes := #[] }
def k6m0 : Method := { name := "with", desc := "(Lcom/example/tektonik/tektonik/describe/Form;)Lcom/example/tektonik/tektonik/describe/Form;", sig := { parameters := [(.object "com/example/tektonik/tektonik/describe/Form")], returnType := some (.object "com/example/tektonik/tektonik/describe/Form") }, accessFlags := 0, code := some k6c0 }
/-- com/example/tektonik/tektonik/describe/Form -/
def k6 : Class := { plain "com/example/tektonik/tektonik/describe/Form" (some 5) with
  accessFlags := 16432
  interfaces := #[]
  cf := some (fileOf pool6 1 #[] #[{ accessFlags := 0, nameIndex := 82, descriptorIndex := 83, attributes := #[] }] 16432 26 #[] #[{ accessFlags := 16409, nameIndex := 5, descriptorIndex := 6, attributes := #[] }, { accessFlags := 16409, nameIndex := 9, descriptorIndex := 6, attributes := #[] }, { accessFlags := 16409, nameIndex := 12, descriptorIndex := 6, attributes := #[] }, { accessFlags := 16409, nameIndex := 15, descriptorIndex := 6, attributes := #[] }, { accessFlags := 18, nameIndex := 37, descriptorIndex := 38, attributes := #[] }, { accessFlags := 4122, nameIndex := 18, descriptorIndex := 19, attributes := #[] }])
  fields := #[{ name := "NOT_DEFINED", type := (.object "com/example/tektonik/tektonik/describe/Form"), accessFlags := 16409, slot := 0, constantValue := 0 }, { name := "DIGITAL", type := (.object "com/example/tektonik/tektonik/describe/Form"), accessFlags := 16409, slot := 1, constantValue := 0 }, { name := "ANALOG", type := (.object "com/example/tektonik/tektonik/describe/Form"), accessFlags := 16409, slot := 2, constantValue := 0 }, { name := "HYBRID", type := (.object "com/example/tektonik/tektonik/describe/Form"), accessFlags := 16409, slot := 3, constantValue := 0 }, { name := "xisadgName", type := (.object "java/lang/String"), accessFlags := 18, slot := 3, constantValue := 0 }, { name := "$VALUES", type := (.array (.object "com/example/tektonik/tektonik/describe/Form")), accessFlags := 4122, slot := 4, constantValue := 0 }]
  methods := #[k6m0]
  instanceTypes := #[(.object "java/lang/String"), .int, .int, (.object "java/lang/String")]
  staticTypes := #[(.object "com/example/tektonik/tektonik/describe/Form"), (.object "com/example/tektonik/tektonik/describe/Form"), (.object "com/example/tektonik/tektonik/describe/Form"), (.object "com/example/tektonik/tektonik/describe/Form"), (.array (.object "com/example/tektonik/tektonik/describe/Form"))]
  resolved := Array.replicate 89 none
  statics := some 0 }

def pool7 : Array CpInfo := pool [(1, u "java/lang/Cloneable"), (0, .class_ 1), (0, u "java/lang/Object"), (0, .class_ 3)] 3

/-- java/lang/Cloneable -/
def k7 : Class := { plain "java/lang/Cloneable" (some 0) with
  accessFlags := 1537
  interfaces := #[]
  cf := some (fileOf pool7 2 #[] #[] 1537 4 #[] #[])
  fields := #[]
  methods := #[]
  instanceTypes := #[]
  staticTypes := #[]
  resolved := Array.replicate 8 none
  statics := none }

/-- the primitive byte -/
def k8 : Class := { plain "byte" none with kind := .primitive 'B', accessFlags := 0x411 }
/-- [B -/
def k9 : Class := { plain "[B" (some 0) with kind := .array 8 .byte, interfaces := #[7, 4], accessFlags := 1041 }

/-- the primitive int -/
def k10 : Class := { plain "int" none with kind := .primitive 'I', accessFlags := 0x411 }
/-- [I -/
def k11 : Class := { plain "[I" (some 0) with kind := .array 10 .int, interfaces := #[7, 4], accessFlags := 1041 }

/-- [Lcom/example/tektonik/tektonik/describe/Form; -/
def k12 : Class := { plain "[Lcom/example/tektonik/tektonik/describe/Form;" (some 0) with kind := .array 6 (.object "com/example/tektonik/tektonik/describe/Form"), interfaces := #[7, 4], accessFlags := 1041 }

def heap : Heap := #[{ cls := 6, slots := #[.ref 1, .ref 2, .ref 3, .ref 4, .null], vm := .statics 6 },
  { cls := 6, slots := #[.null, .int 0, .int 0, .null], vm := .none },
  { cls := 6, slots := #[.null, .int 1, .int 0, .null], vm := .none },
  { cls := 6, slots := #[.null, .int 2, .int 0, .null], vm := .none },
  { cls := 6, slots := #[.null, .int 3, .int 0, .null], vm := .none }]
def classes : Array Class := #[k0, k1, k2, k3, k4, k5, k6, k7, k8, k9, k10, k11, k12]
def interned : List (Array UInt16 × Addr) := []
def slotsUsed : Nat := 21
def theMethod : MethodId := ⟨1, 1⟩
def args0 : Array Value := #[.int 5, .int 1]
def aboutOver (below : List Frame) : State where
  vm := { classes := classes, interned := interned.toArray }
  heap := heap
  slotsUsed := slotsUsed
  threads := #[{ frames := .invoking theMethod args0 :: below }]
def below0 : List Frame := [.native { method := ⟨0, 0⟩, args := #[] }]
def about1 : State := aboutOver below0
def p0 : Program := .bare "" "" ""
def e0 : Env := launch0.env 0 0 0
theorem w_frames : about1.frames = Frame.invoking theMethod args0 :: below0 := rfl
set_option maxRecDepth 65536 in
theorem w_args : argsFit about1.vm theMethod args0 = true := by decide +kernel
set_option maxRecDepth 65536 in
theorem w_heap : heapFits about1 = true := by decide +kernel
set_option maxRecDepth 65536 in
theorem w_runnable : about1.curStatus? = some .runnable := by decide +kernel
set_option maxRecDepth 65536 in
theorem w_alone : about1.alone = true := by decide +kernel
set_option maxRecDepth 65536 in
theorem w_named : about1.methodNamed? x = some theMethod := by decide +kernel
set_option maxRecDepth 65536 in
theorem w_hears : about1.hears theMethod below0 = true := by decide +kernel
set_option maxRecDepth 65536 in
theorem w_ripe : about1.ripe theMethod args0 below0 = true := by decide +kernel
theorem w_running : about1.status = .running := rfl
set_option maxRecDepth 65536 in
theorem w_room : about1.hasRoom e0.platform room_1 = true :=
  launch0.hasRoom_least _ room_1 (by decide +kernel) (by decide +kernel) (by decide +kernel) (by decide +kernel) (by decide +kernel) (by decide +kernel)
theorem allAtoms_all (ts : List Jvm.Cond) (a : Array Jvm.Value) (st : Jvm.State) : (allAtoms ts).before a st = ts.all (fun c => c.before a st) := by
  induction ts with
  | nil => rfl
  | cons c t ih =>
    show (Jvm.Cond.and c (allAtoms t)).before a st = _
    rw [Jvm.Cond.before_and, ih, List.all_cons]
def words1 : List Jvm.Cond := Jvm.Cond.code x code maxLocals ret :: tables_1
/-- a 'code' word, met by the world's own term for the bytes: nothing is compared byte by byte -/
theorem code_word {y : MethodName} {bytes : ByteArray} {mx : Nat} {rt : Option FieldType} {a : Array Value} {s : State} {m : MethodId} {meth : Method} {c : Code} (h1 : s.methodNamed? y = some m) (h2 : s.vm.method? m = some meth) (h3 : meth.code = some c) (h4 : c.code = bytes)
    (h5 : (c.maxLocals == mx && c.exceptionTable.isEmpty && decide (c.maxStack ≤ mostOperands) && decide (meth.sig.returnType = rt) && !meth.locks && decide (parseMethodDescriptor y.desc = some meth.sig)) = true) : (Jvm.Cond.code y bytes mx rt).before a s = true := by
  simp only [Bool.and_eq_true, beq_iff_eq, Bool.not_eq_true', decide_eq_true_eq] at h5
  obtain ⟨⟨⟨⟨⟨g1, g2⟩, g3⟩, g4⟩, g5⟩, g6⟩ := h5
  simp [Cond.before, Cond.holds, Cond.value, h1, h2, h3, h4, g1, g2, g3, g4, g5, g6]
def isCode : Jvm.Cond → Bool
  | .code _ _ _ _ => true
  | _ => false
theorem all_split {L : List Jvm.Cond} {P : Jvm.Cond → Bool} (h1 : L.all (fun c => isCode c || P c) = true) (h2 : ∀ c ∈ L.filter isCode, P c = true) : L.all P = true := by
  refine List.all_eq_true.mpr fun c hc => ?_
  have h := List.all_eq_true.mp h1 c hc
  rcases Bool.eq_false_or_eq_true (isCode c) with hi | hi
  · exact h2 c (List.mem_filter.mpr ⟨hc, hi⟩)
  · simpa [hi] using h
set_option maxRecDepth 65536 in
theorem w_c0 : (Jvm.Cond.code x code maxLocals ret).before args0 about1 = true := code_word (m := ⟨1, 1⟩) (meth := k1m1) (c := k1c1) (by decide +kernel) rfl rfl rfl (by decide +kernel)
set_option maxRecDepth 65536 in
theorem w_c1 : (Jvm.Cond.code ({ cls := "com/example/tektonik/tektonik/describe/Form", name := "with", desc := "(Lcom/example/tektonik/tektonik/describe/Form;)Lcom/example/tektonik/tektonik/describe/Form;" } : Jvm.MethodName) prog_54_method_6_code (2 : Nat) (Option.some (Jvm.ClassFile.FieldType.object "com/example/tektonik/tektonik/describe/Form"))).before args0 about1 = true := code_word (m := ⟨6, 0⟩) (meth := k6m0) (c := k6c0) (by decide +kernel) rfl rfl rfl (by decide +kernel)
def codes1 : List Jvm.Cond := [Jvm.Cond.code x code maxLocals ret, Jvm.Cond.code ({ cls := "com/example/tektonik/tektonik/describe/Form", name := "with", desc := "(Lcom/example/tektonik/tektonik/describe/Form;)Lcom/example/tektonik/tektonik/describe/Form;" } : Jvm.MethodName) prog_54_method_6_code (2 : Nat) (Option.some (Jvm.ClassFile.FieldType.object "com/example/tektonik/tektonik/describe/Form"))]
set_option maxRecDepth 65536 in
theorem codes_eq : words1.filter isCode = codes1 := rfl
theorem w_codes : ∀ c ∈ words1.filter isCode, c.before args0 about1 = true := by
  rw [codes_eq]
  intro c hc
  simp only [codes1, List.mem_cons, List.not_mem_nil, or_false] at hc
  rcases hc with rfl | rfl
  · exact w_c0
  · exact w_c1
set_option maxRecDepth 65536 in
theorem w_t1 : words1.all (fun c => isCode c || c.before args0 about1) = true := by decide +kernel
theorem w_tables : (allAtoms (Jvm.Cond.code x code maxLocals ret :: tables_1)).before args0 about1 = true := by
  rw [allAtoms_all]
  show words1.all (fun c => c.before args0 about1) = true
  refine all_split ?_ w_codes
  rw [w_t1]
set_option maxRecDepth 65536 in
theorem w_case : (Jvm.Cond.and given_1 narrow_1).before args0 about1 = true := by decide +kernel
theorem w_applies : (headSpec (Jvm.Cond.code x code maxLocals ret :: tables_1) room_1).applies x e0.platform about1 = true :=
  (Spec.applies_iff w_frames).mpr ⟨w_running, w_runnable, w_alone, w_named, w_hears, w_ripe, w_room, w_tables⟩
theorem atStart : AtStart classFile x code maxLocals ret World_1 tables_1 room_1 Calls_1 rest_1 Pre_1 launch0 p0 e0 about1 theMethod args0 below0 :=
  ⟨lists_1, trivial, launch0.admits_env _ _ _, launch0.least_env, fairChoices_fair.cas, fairChoices_fair.clock, w_frames, w_args, w_heap, w_applies, trivial, trivial, w_case⟩
end start1
theorem witness_1 : WitnessClaimed_1 := ⟨start1.p0, start1.e0, start1.about1, start1.theMethod, start1.args0, start1.below0, start1.atStart⟩
end Jvm.Pilot.@@N@@
