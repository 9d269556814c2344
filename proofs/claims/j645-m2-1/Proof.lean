import JvmDerived
import JvmDerived.Pilot.@@N@@Statement
import JvmDerived.Pilot.@@N@@Code
set_option linter.unusedVariables false
set_option linter.unusedSimpArgs false
namespace Jvm.Pilot.@@N@@
open Jvm Jvm.ClassFile Sem Op Lib Jvm.Free Jvm.Stand Jvm.LawKit Jvm.RoadKit Bundle Jvm.Pilot.@@N@@.Jvm.D
section Own
variable {p : Program} {l : Launch} {e : Env} {R : Room} {s : State} {m : MethodId} {args : Array Value} {below : List Frame} {meth : Method} {c : Code} {T : State} {locs : List Loc} {cells slots : Nat}
/-- from U the run comes back to 'below' and its end is as P says -/
def Go (p : Program) (e : Env) (below : List Frame) (U : State) (P : Outcome → State → Prop) : Prop := ∃ s₂ o, Steps p.tables e below U s₂ ∧ s₂.status = .running ∧ Ended s₂ below o ∧ P o s₂
theorem Go.mp {U U' : State} {P : Outcome → State → Prop} (h : ∀ t, Steps p.tables e below U' t → Steps p.tables e below U t) (k : Go p e below U' P) : Go p e below U P := by
  obtain ⟨a, b, c, d⟩ := k; exact ⟨a, b, h _ c, d⟩
/-- how a body ends -/
def FinE (s : State) (kc ks : Nat) (Q : Option Value → Heap → List Loc → Prop) (o : Outcome) (t : State) : Prop := ∃ v L, o = .returned v ∧ Q v t.heap L ∧ FrameEnd s o t L kc ks
/-- a body's contract -/
abbrev Ctr (l : Launch) (y : MethodName) (bytes : ByteArray) (maxL : Nat) (ret : Option FieldType) (ws : List Jvm.Cond) (rm : Room) (Z : State) (as' : Array Value) (h : Heap) (Q : Option Value → Heap → List Loc → Prop) : Prop :=
  MetFree l y (head1 (Jvm.Cond.code y bytes maxL ret :: ws) rm) (fun a U => a = as' ∧ Z.Warmed39 U.vm ∧ U.heap = h) (fun _ _ _ _ _ => True) (fun _ U o U' => ∃ v L, o = .returned v ∧ Q v U'.heap L ∧ FrameEnd U o U' L rm.cells rm.slots)
theorem own_enter {y : MethodName} {bytes : ByteArray} {maxL : Nat} {ret : Option FieldType} {ws : List Jvm.Cond} {rm : Room} {Z : State} {as' : Array Value} {h : Heap} {Q : Option Value → Heap → List Loc → Prop} (hpn : plainName y.cls = true)
    (body : ∀ (p : Program) (e : Env) (s : State) (m : MethodId) (below : List Frame) (meth : Method) (c : Code) (s₁ : State), p.tables.exec = Jvm.exec → c.code = bytes → c.maxLocals = maxL → s.vm.findClass y.cls = some m.cls → meth.name = y.name → meth.sig.returnType = ret → meth.locks = false → Z.Warmed39 s.vm → Stand p l e rm s m as' below meth c s₁ [] 0 0 → s₁.heap = h →
      Go p e below (s₁.setTop (entryFrame m as' maxL)) (FinE s rm.cells rm.slots Q)) : Ctr l y bytes maxL ret ws rm Z as' h Q := by
  refine MetFree.of_bodySF (plainFor_of_name hpn) hisR ?_
  intro p e s m args below meth c s₁ Bd hml0 hP hK
  obtain ⟨rfl, hZ, hh⟩ := hP
  exact body p e s m below meth c s₁ Bd.exec Bd.bytes hml0 (findClass_of_methodNamed Bd.named) (name_of_methodNamed Bd.named Bd.method).1 Bd.returns Bd.notSynchronized hZ (Stand.of_body Bd) (by rw [← hh, Bd.state]; rfl)
theorem own_retN (X : Stand p l e R s m args below meth c T locs cells slots) (hx : p.tables.exec = Jvm.exec) {t : FieldType} (hret : meth.sig.returnType = some t) (hlk : meth.locks = false) (ht : t = .boolean ∨ t = .byte ∨ t = .char ∨ t = .short) {kc ks : Nat} {Q : Option Value → Heap → List Loc → Prop} {pc : Nat} {Ls : Array Slot} {z : Int32} {rest : List Value}
    (hd : decode c.code pc = .ok (.ireturn, 1)) (hk : cells ≤ kc) (hn : slots ≤ ks) (hq : Q (some (.int (nar t z))) T.heap locs) : Go p e below (T.setTop (mkF m pc Ls (.int z :: rest))) (FinE s kc ks Q) := by
  obtain ⟨fs, hr, hrun, hended, hW, hsame⟩ := X.leave (v := some (.int (nar t z))) (fun h => by rw [hret] at h; cases h) hlk
  exact ⟨_, _, retN X hx hret ht hd hr, hrun, hended, _, _, rfl, hq, ⟨_, rfl⟩, hW, hsame.mono hk hn⟩
theorem own_retZ (X : Stand p l e R s m args below meth c T locs cells slots) (hx : p.tables.exec = Jvm.exec) (hret : meth.sig.returnType = some .boolean) (hlk : meth.locks = false) {kc ks : Nat} {Q : Option Value → Heap → List Loc → Prop} {pc : Nat} {Ls : Array Slot} {z : Int32} {rest : List Value}
    (hd : decode c.code pc = .ok (.ireturn, 1)) (hk : cells ≤ kc) (hn : slots ≤ ks) (hz : z &&& 1 = z) (hq : Q (some (.int z)) T.heap locs) : Go p e below (T.setTop (mkF m pc Ls (.int z :: rest))) (FinE s kc ks Q) :=
  own_retN X hx hret hlk (Or.inl rfl) hd hk hn (by show Q (some (.int (z &&& 1))) T.heap locs; rw [hz]; exact hq)
theorem own_retW (X : Stand p l e R s m args below meth c T locs cells slots) (hx : p.tables.exec = Jvm.exec) {t : FieldType} {w : Value} {i : Instr} (hret : meth.sig.returnType = some t) (hlk : meth.locks = false) (hw : narrow t w = w)
    (hi : (i = .ireturn ∧ (t = .int ∨ t = .boolean ∨ t = .byte ∨ t = .char ∨ t = .short) ∧ ∃ z, w = .int z) ∨ (i = .lreturn ∧ t = .long ∧ ∃ z, w = .long z) ∨ (i = .dreturn ∧ t = .double ∧ ∃ z, w = .double z) ∨ (i = .freturn ∧ t = .float ∧ ∃ z, w = .float z) ∨ (i = .areturn ∧ t.isReference = true ∧ w.isRef = true))
    {kc ks : Nat} {Q : Option Value → Heap → List Loc → Prop} {pc : Nat} {Ls : Array Slot} {rest : List Value}
    (hd : decode c.code pc = .ok (i, 1)) (hk : cells ≤ kc) (hn : slots ≤ ks) (hq : Q (some w) T.heap locs) : Go p e below (T.setTop (mkF m pc Ls (w :: rest))) (FinE s kc ks Q) := by
  obtain ⟨fs, hr, hrun, hended, hW, hsame⟩ := X.leave (v := some w) (fun h => by rw [hret] at h; cases h) hlk
  exact ⟨_, _, retOut X hx hret hw hi hd hr, hrun, hended, _, _, rfl, hq, ⟨_, rfl⟩, hW, hsame.mono hk hn⟩
theorem own_retI (X : Stand p l e R s m args below meth c T locs cells slots) (hx : p.tables.exec = Jvm.exec) (hret : meth.sig.returnType = some .int) (hlk : meth.locks = false) {kc ks : Nat} {Q : Option Value → Heap → List Loc → Prop} {pc : Nat} {Ls : Array Slot} {z : Int32} {rest : List Value}
    (hd : decode c.code pc = .ok (.ireturn, 1)) (hk : cells ≤ kc) (hn : slots ≤ ks) (hq : Q (some (.int z)) T.heap locs) : Go p e below (T.setTop (mkF m pc Ls (.int z :: rest))) (FinE s kc ks Q) :=
  own_retW X hx hret hlk rfl (Or.inl ⟨rfl, Or.inl rfl, _, rfl⟩) hd hk hn hq
theorem own_retA (X : Stand p l e R s m args below meth c T locs cells slots) (hx : p.tables.exec = Jvm.exec) {t : FieldType} (hret : meth.sig.returnType = some t) (hlk : meth.locks = false) (ht : t.isReference = true) {w : Value} (hw : w.isRef = true) {kc ks : Nat} {Q : Option Value → Heap → List Loc → Prop} {pc : Nat} {Ls : Array Slot} {rest : List Value}
    (hd : decode c.code pc = .ok (.areturn, 1)) (hk : cells ≤ kc) (hn : slots ≤ ks) (hq : Q (some w) T.heap locs) : Go p e below (T.setTop (mkF m pc Ls (w :: rest))) (FinE s kc ks Q) :=
  own_retW X hx hret hlk (by cases t <;> first | (cases ht; done) | (cases w <;> first | rfl | cases hw)) (Or.inr (Or.inr (Or.inr (Or.inr ⟨rfl, ht, hw⟩)))) hd hk hn hq
theorem own_retV (X : Stand p l e R s m args below meth c T locs cells slots) (hx : p.tables.exec = Jvm.exec) (hret : meth.sig.returnType = none) (hlk : meth.locks = false) {kc ks : Nat} {Q : Option Value → Heap → List Loc → Prop} {pc : Nat} {Ls : Array Slot}
    (hd : decode c.code pc = .ok (.return_, 1)) (hk : cells ≤ kc) (hn : slots ≤ ks) (hq : Q none T.heap locs) : Go p e below (T.setTop (mkF m pc Ls [])) (FinE s kc ks Q) := by
  obtain ⟨fs, hr, hrun, hended, hW, hsame⟩ := X.leave (v := none) (fun _ => rfl) hlk
  exact ⟨_, _, X.returnOut hx hret hd hr, hrun, hended, _, _, rfl, hq, ⟨_, rfl⟩, hW, hsame.mono hk hn⟩
/-- the wide end (behind a cold ldc of a String) -/
def FinW (s : State) (kc ks : Nat) (Q : Option Value → Heap → List Loc → Prop) (o : Outcome) (t : State) : Prop := ∃ v L, o = .returned v ∧ Q v t.heap L ∧ ReturnedEndW s o t L kc ks
abbrev CtrW (l : Launch) (y : MethodName) (bytes : ByteArray) (maxL : Nat) (ret : Option FieldType) (ws : List Jvm.Cond) (rm : Room) (Z : State) (as' : Array Value) (h : Heap) (Q : Option Value → Heap → List Loc → Prop) : Prop :=
  MetFree l y (head1 (Jvm.Cond.code y bytes maxL ret :: ws) rm) (fun a U => a = as' ∧ Z.Warmed39 U.vm ∧ U.heap = h) (fun _ _ _ _ _ => True) (fun _ U o U' => ∃ v L, o = .returned v ∧ Q v U'.heap L ∧ ReturnedEndW U o U' L rm.cells rm.slots)
theorem own_enterW {y : MethodName} {bytes : ByteArray} {maxL : Nat} {ret : Option FieldType} {ws : List Jvm.Cond} {rm : Room} {Z : State} {as' : Array Value} {h : Heap} {Q : Option Value → Heap → List Loc → Prop} (hpn : plainName y.cls = true)
    (body : ∀ (p : Program) (e : Env) (s : State) (m : MethodId) (below : List Frame) (meth : Method) (c : Code) (s₁ : State), p.tables.exec = Jvm.exec → c.code = bytes → c.maxLocals = maxL → s.vm.findClass y.cls = some m.cls → meth.name = y.name → meth.sig.returnType = ret → meth.locks = false → Z.Warmed39 s.vm → Stand p l e rm s m as' below meth c s₁ [] 0 0 → s₁.heap = h →
      Go p e below (s₁.setTop (entryFrame m as' maxL)) (FinW s rm.cells rm.slots Q)) : CtrW l y bytes maxL ret ws rm Z as' h Q := by
  refine MetFree.of_bodySF (plainFor_of_name hpn) hisR ?_
  intro p e s m args below meth c s₁ Bd hml0 hP hK
  obtain ⟨rfl, hZ, hh⟩ := hP
  exact body p e s m below meth c s₁ Bd.exec Bd.bytes hml0 (findClass_of_methodNamed Bd.named) (name_of_methodNamed Bd.named Bd.method).1 Bd.returns Bd.notSynchronized hZ (Stand.of_body Bd) (by rw [← hh, Bd.state]; rfl)
theorem own_retZW {vm1 : Vm} {k1 : Nat} (X : Stand p l e R (s.setVm vm1) m args below meth c T locs cells slots) (hx : p.tables.exec = Jvm.exec) (hret : meth.sig.returnType = some .boolean) (hlk : meth.locks = false) (hS : s.Since vm1 k1) (hB : k1 ≤ T.heap.size) {kc ks : Nat} {Q : Option Value → Heap → List Loc → Prop} {pc : Nat} {Ls : Array Slot} {z : Int32} {rest : List Value}
    (hd : decode c.code pc = .ok (.ireturn, 1)) (hk : cells ≤ kc) (hn : slots ≤ ks) (hz : z &&& 1 = z) (hq : Q (some (.int z)) T.heap locs) : Go p e below (T.setTop (mkF m pc Ls (.int z :: rest))) (FinW s kc ks Q) := by
  obtain ⟨fs, hr, hrun, hended, h1, h2, h3, h4⟩ := X.leaveW hS hB (v := some (.int (nar .boolean z))) (fun h => by rw [hret] at h; cases h) hlk
  have e1 : nar .boolean z = z := hz
  exact ⟨_, _, retN X hx hret (Or.inl rfl) hd hr, hrun, hended, _, _, rfl, by rw [e1]; exact hq, h1, h2, h3, h4.mono hk hn⟩
section Calls
variable {Z : State} {a0 : Array Value} {h : Heap} {y : MethodName} {bytes : ByteArray} {maxL : Nat} {ret : Option FieldType} {rm : Room} {as' : Array Value} {Q : Option Value → Heap → List Loc → Prop} {own : String} {index : Nat} {pc : Nat} {Ls : Array Slot} {st argsL rest : List Value} {ps : List FieldType} {r : Option FieldType}
theorem own_callS (X : Stand p l e R s m args below meth c T locs cells slots) (hx : p.tables.exec = Jvm.exec) (hZ : Z.Warmed39 s.vm) (hown : s.vm.findClass own = some m.cls) (w1 : (Jvm.Cond.methodLink own index y).before a0 Z = true) (w2 : (Jvm.Cond.static y).before a0 Z = true) (w3 : (Jvm.Cond.initialized y.cls).before a0 Z = true) (w4 : (Jvm.Cond.code y bytes maxL ret).before a0 Z = true)
    (hy : y.cls ≠ "java/lang/invoke/MethodHandle" ∧ y.cls ≠ "java/lang/invoke/VarHandle") (hM : Ctr l y bytes maxL ret [] rm Z as' h Q) (eT : T.heap = h) (hpd : parseMethodDescriptor y.desc = some ⟨ps, r⟩) (hd : decode c.code pc = .ok (.invokestatic index, 3)) (hsize : Ls.size = c.maxLocals)
    (hlen : argsL.length = ps.length) (hst : st = argsL.reverse ++ rest) (has : argsL.toArray = as') {W : Nat} (hW : (rest.map fun v => v.category).sum ≤ W) (hf : rm.frames + 1 ≤ R.frames) (hl : W + (maxL + 11) + rm.locals ≤ R.locals) (hc : cells + rm.cells ≤ R.cells) (hs : slots + rm.slots ≤ R.slots) :
    ∃ v T' L, Stand p l e R s m args below meth c T' (locs ++ L) (cells + rm.cells) (slots + rm.slots) ∧ Q v T'.heap L ∧ ∀ target, Steps p.tables e below (T'.setTop (mkF m (pc + 3) Ls (v.toList ++ rest))) target → Steps p.tables e below (T.setTop (mkF m pc Ls st)) target := by
  obtain ⟨v, _, ⟨T', L', k', n'⟩, -, X', ⟨Lc, hQ, l1, y1, z1⟩, st'⟩ := Jvm.LawKit.callS X hx (y := y) hown (mvT hZ w1) (mvT hZ w2) (mvT hZ w3) (mvT hZ w4) hy (backOf (W := W) hM hZ w4 w3 hf hl) (g := mkF m pc Ls st) rfl hsize (argsL := argsL) (rest := rest) (lenOf hpd hlen) hst (by show 2 * 0 + _ ≤ _; omega) hd (fun _ _ => ⟨has, eT, hc, hs⟩)
  dsimp only [Pt.U, Pt.locs, Pt.cells, Pt.slots] at X' l1 y1 z1 st' hQ
  subst l1 y1 z1
  exact ⟨v, T', Lc, X', hQ, st'⟩
theorem own_callV {C : String} {b : Addr} (X : Stand p l e R s m args below meth c T locs cells slots) (hx : p.tables.exec = Jvm.exec) (hZ : Z.Warmed39 s.vm) (hown : s.vm.findClass own = some m.cls) (w1 : (Jvm.Cond.methodLink own index y).before a0 Z = true) (w2 : (Jvm.Cond.declares y).before a0 Z = true) (w3 : (Jvm.Cond.selects C y y).before a0 Z = true) (w4 : (Jvm.Cond.instanceMethod y).before a0 Z = true)
    (w5 : (Jvm.Cond.code y bytes maxL ret).before a0 Z = true) (w6 : (Jvm.Cond.initialized y.cls).before a0 Z = true) (hy : y.cls ≠ "java/lang/invoke/MethodHandle" ∧ y.cls ≠ "java/lang/invoke/VarHandle") (hM : Ctr l y bytes maxL ret [] rm Z as' h Q) (eT : T.heap = h) (E : Exa Z h b C) (hpd : parseMethodDescriptor y.desc = some ⟨ps, r⟩) (hd : decode c.code pc = .ok (.invokevirtual index, 3)) (hsize : Ls.size = c.maxLocals)
    (hlen : argsL.length = ps.length) (hst : st = argsL.reverse ++ .ref b :: rest) (has : (.ref b :: argsL).toArray = as') {W : Nat} (hW : (rest.map fun v => v.category).sum ≤ W) (hf : rm.frames + 1 ≤ R.frames) (hl : W + (maxL + 11) + rm.locals ≤ R.locals) (hc : cells + rm.cells ≤ R.cells) (hs : slots + rm.slots ≤ R.slots) :
    ∃ v T' L, Stand p l e R s m args below meth c T' (locs ++ L) (cells + rm.cells) (slots + rm.slots) ∧ Q v T'.heap L ∧ ∀ target, Steps p.tables e below (T'.setTop (mkF m (pc + 3) Ls (v.toList ++ rest))) target → Steps p.tables e below (T.setTop (mkF m pc Ls st)) target := by
  obtain ⟨cq, kq, qa, qb, qc⟩ := isOf hZ eT E
  obtain ⟨v, _, ⟨T', L', k', n'⟩, -, X', ⟨Lc, hQ, l1, y1, z1⟩, st'⟩ := X.virtualBack hx (y := y) (z := y) hown (mvT hZ w1) (mvT hZ w2) (notFace_of_selects (args := #[]) (mvT hZ w3)) (mvT hZ w3) (mvT hZ w4) hy (backOf (W := W) hM hZ w5 w6 hf hl) qa qc (g := mkF m pc Ls st) rfl hsize (Steps.refl _) (argsL := argsL) (rest := rest) (lenOf hpd hlen) hst (by show 2 * 0 + _ ≤ _; omega) hd (fun _ _ => ⟨has, eT, hc, hs⟩)
  dsimp only [Pt.U, Pt.locs, Pt.cells, Pt.slots] at X' l1 y1 z1 st' hQ
  subst l1 y1 z1
  exact ⟨v, T', Lc, X', hQ, fun t k => st'.trans k⟩
theorem own_callI {b : Addr} (X : Stand p l e R s m args below meth c T locs cells slots) (hx : p.tables.exec = Jvm.exec) (hZ : Z.Warmed39 s.vm) (hown : s.vm.findClass own = some m.cls) (w1 : (Jvm.Cond.methodLink own index y).before a0 Z = true) (w4 : (Jvm.Cond.instanceMethod y).before a0 Z = true)
    (w5 : (Jvm.Cond.code y bytes maxL none).before a0 Z = true) (w6 : (Jvm.Cond.initialized y.cls).before a0 Z = true) (hn : y.name = "<init>") (hy : y.cls ≠ "java/lang/invoke/MethodHandle" ∧ y.cls ≠ "java/lang/invoke/VarHandle") (hM : Ctr l y bytes maxL none [] rm Z as' h Q) (eT : T.heap = h) (hpd : parseMethodDescriptor y.desc = some ⟨ps, r⟩) (hd : decode c.code pc = .ok (.invokespecial index, 3)) (hsize : Ls.size = c.maxLocals)
    (hlen : argsL.length = ps.length) (hst : st = argsL.reverse ++ .ref b :: rest) (has : (.ref b :: argsL).toArray = as') {W : Nat} (hW : (rest.map fun v => v.category).sum ≤ W) (hf : rm.frames + 1 ≤ R.frames) (hl : W + (maxL + 11) + rm.locals ≤ R.locals) (hc : cells + rm.cells ≤ R.cells) (hs : slots + rm.slots ≤ R.slots) :
    ∃ v T' L, Stand p l e R s m args below meth c T' (locs ++ L) (cells + rm.cells) (slots + rm.slots) ∧ Q v T'.heap L ∧ ∀ target, Steps p.tables e below (T'.setTop (mkF m (pc + 3) Ls (v.toList ++ rest))) target → Steps p.tables e below (T.setTop (mkF m pc Ls st)) target := by
  obtain ⟨v, _, ⟨T', L', k', n'⟩, -, X', ⟨Lc, hQ, l1, y1, z1⟩, st'⟩ := X.specialBack hx (y := y) hn hown (mvT hZ w1) (mvT hZ w4) (mvT hZ w5) hy (backOf (W := W) hM hZ w5 w6 hf hl) (g := mkF m pc Ls st) rfl hsize (Steps.refl _) (a := b) (argsL := argsL) (rest := rest) (lenOf hpd hlen) hst (by show 2 * 0 + _ ≤ _; omega) hd (fun _ _ => ⟨has, eT, hc, hs⟩)
  dsimp only [Pt.U, Pt.locs, Pt.cells, Pt.slots] at X' l1 y1 z1 st' hQ
  subst l1 y1 z1
  exact ⟨v, T', Lc, X', hQ, fun t k => st'.trans k⟩
end Calls
section Facts
variable {Z : State} {h : Heap} {a b : Addr} {C F D K O n d : String} {v w : Value}
theorem own_fld_fun (F1 : Fld Z h a C n d v) (F2 : Fld Z h a C n d w) : v = w := by
  obtain ⟨c1, cf1, k1, i1, f1, h1, h2, h3, h4, h5, h6, h7⟩ := F1
  obtain ⟨c2, cf2, k2, i2, f2, g1, g2, g3, g4, g5, g6, g7⟩ := F2
  cases h1.symm.trans g1
  cases h2.symm.trans g2
  exact Option.some.inj (h7.symm.trans g7)
theorem own_ne {i j : Int32} (F1 : Fld Z h a C n d (.int i)) (F2 : Fld Z h b C n d (.int j)) (hij : i ≠ j) : a ≠ b := fun e => by
  subst e; exact hij (Value.int.inj (own_fld_fun F1 F2))
theorem own_sta {args : Array Value} (hn : (Jvm.Cond.exactly (.static C F D) K).value args Z none Z [] = some true) (hi : (Jvm.Cond.initialized C).before args Z = true) (hl : (Jvm.Cond.laysStatic C F D).before args Z = true) :
    ∃ w : Addr, Sta Z Z.heap C F D (.ref w) ∧ Exa Z Z.heap w K ∧ (Term.static C F D).eval args Z none [] Z = some (.ref w) := by
  obtain ⟨a', c', cell, k, e1, -⟩ := Cond.exactly_spec (Cond.before_iff.mpr hn)
  exact ⟨a', Sta.start e1 (Or.inr ⟨hi, hl⟩), Exa.start e1 hn, e1⟩
theorem own_ord {args : Array Value} {k : Int32} {t : Term} (hn : (Jvm.Cond.eq (.field t O n d) (.int k)).value args Z none Z [] = some true) (ev : t.eval args Z none [] Z = some (.ref a)) : Fld Z Z.heap a O n d (.int k) := by
  refine Fld.start ?_
  simp only [Jvm.Cond.value, Term.eval, ev] at hn
  cases hq : Z.fieldOf? a O n d with
  | none => simp [hq] at hn
  | some v => cases v <;> simp_all
theorem own_fref {args : Array Value} {t u : Term} (hn : (Jvm.Cond.eq (.field t O n d) u).value args Z none Z [] = some true) (ev : t.eval args Z none [] Z = some (.ref a)) (eu : u.eval args Z none [] Z = some (.ref b)) : Fld Z Z.heap a O n d (.ref b) := by
  refine Fld.start ?_
  simp only [Jvm.Cond.value, Term.eval, ev, eu] at hn
  cases hq : Z.fieldOf? a O n d with
  | none => simp [hq] at hn
  | some v => cases v <;> simp_all
theorem own_arrOf {args : Array Value} {t : Term} {ty : FieldType} (hn : (Jvm.Cond.arrayOf t ty).value args Z none Z [] = some true) : ∃ a c, t.eval args Z none [] Z = some (.ref a) ∧ Arr Z Z.heap a c ty := by
  cases hq : t.eval args Z none [] Z with
  | none => simp [Jvm.Cond.value, hq] at hn
  | some v =>
    cases v with
    | ref a => obtain ⟨c, A⟩ := Arr.start hq hn; exact ⟨a, c, rfl, A⟩
    | _ => simp [Jvm.Cond.value, hq] at hn
theorem own_arrLen {args : Array Value} {t : Term} {ty : FieldType} {cl : Cell} {k : Int32} (A : Arr Z Z.heap a cl ty) (ev : t.eval args Z none [] Z = some (.ref a)) (hn : (Jvm.Cond.eq (.length t) (.int k)).value args Z none Z [] = some true) : cl.slots.size < 2 ^ 31 ∧ cl.slots.size.toInt32 = k := by
  have hA : Z.arrayAt? a = some cl := A.fin (Vm.Alike.refl _)
  by_cases q : cl.slots.size < 2 ^ 31
  · refine ⟨q, ?_⟩
    have e : (Term.length t).eval args Z none [] Z = some (.int cl.slots.size.toInt32) := by simp [Term.eval, ev, hA, q]
    have e2 : (Term.int k).eval args Z none [] Z = some (.int k) := rfl
    simp only [Jvm.Cond.value, e, e2] at hn
    simpa using hn
  · have e : (Term.length t).eval args Z none [] Z = none := by simp [Term.eval, ev, hA, q]
    simp [Jvm.Cond.value, e] at hn
theorem own_arrElem {args : Array Value} {t u : Term} {ty : FieldType} {cl : Cell} {j : Int32} (A : Arr Z Z.heap a cl ty) (ev : t.eval args Z none [] Z = some (.ref a)) (eu : u.eval args Z none [] Z = some (.ref b)) (hj : ¬ j < 0) (hn : (Jvm.Cond.eq (.elem t (.int j)) u).value args Z none Z [] = some true) : cl.slots[j.toNatClampNeg]? = some (.ref b) := by
  have hA : Z.arrayAt? a = some cl := A.fin (Vm.Alike.refl _)
  have e : (Term.elem t (.int j)).eval args Z none [] Z = cl.slots[j.toNatClampNeg]? := by simp [Term.eval, ev, hA, hj]
  cases hq : cl.slots[j.toNatClampNeg]? with
  | none => rw [hq] at e; simp [Jvm.Cond.value, e] at hn
  | some v => rw [hq] at e; simp only [Jvm.Cond.value, e, eu] at hn; cases v <;> simp_all
theorem own_zand (x : Int32) : (0 : Int32) &&& x = (0 : Int32) := Int32.zero_and
theorem own_nin {x a : Addr} {ws : List Addr} (h : x ≠ a) (k : x ∉ ws) : x ∉ a :: ws := fun q => (List.mem_cons.mp q).elim h k
theorem own_plain {K : String} {ws : List Addr} (E : Exa Z h a K) (k : ∀ x ∈ ws, ∃ K', Exa Z h x K') : ∀ x ∈ a :: ws, ∃ K', Exa Z h x K' := fun x q => (List.mem_cons.mp q).elim (fun e => ⟨K, e ▸ E⟩) (k x)
theorem own_sta_keep {h' : Heap} {ws : List Addr} (S : Sta Z h C n d v) (K : Keep h h' ws) (hp : ∀ x ∈ ws, ∃ K', Exa Z h x K') : Sta Z h' C n d v := by
  obtain ⟨cf, i, k, f, st, cell, h1, h2, h3, h4, h5, h6, h7⟩ := S
  refine ⟨cf, i, k, f, st, cell, h1, h2, h3, h4, K.2.1 _ _ h5 fun q => ?_, h6, h7⟩
  obtain ⟨K', cl, kk, e1, -, -, e4, -⟩ := hp _ q
  cases h5.symm.trans e1
  rw [e4] at h6; cases h6
theorem own_mem1 {h0 : Heap} {ws : List Addr} {a : Addr} (q : a ∈ ws ∨ h0.size ≤ a) : ∀ x ∈ [a], x ∈ ws ∨ h0.size ≤ x := fun x hx => by cases List.mem_singleton.mp hx; exact q
theorem own_mem2 {h0 : Heap} {ws : List Addr} {a b : Addr} (q : a ∈ ws ∨ h0.size ≤ a) (r : b ∈ ws ∨ h0.size ≤ b) : ∀ x ∈ [a, b], x ∈ ws ∨ h0.size ≤ x := fun x hx => by
  rcases List.mem_cons.mp hx with rfl | hx
  · exact q
  · cases List.mem_singleton.mp hx; exact r
theorem own_fitR {ty : FieldType} (ht : ty.isReference = true) (hv : v.isRef = true) : fits ty v = true := by cases ty <;> first | (cases ht; done) | (cases v <;> first | rfl | cases hv)
theorem own_narR {ty : FieldType} (ht : ty.isReference = true) (hv : v.isRef = true) : narrow ty v = v := by cases ty <;> first | (cases ht; done) | (cases v <;> first | rfl | cases hv)
theorem own_bit {z : Int32} (hz : z = 0 ∨ z = 1) : z &&& 1 = z := by rcases hz with rfl | rfl <;> decide
theorem own_narZ {z : Int32} (hz : z = 0 ∨ z = 1) : narrow .boolean (.int z) = .int z := by rcases hz with rfl | rfl <;> rfl
theorem own_fitZ {z : Int32} (hz : z = 0 ∨ z = 1) : fits .boolean (.int z) = true := by rcases hz with rfl | rfl <;> rfl
theorem own_pad {dv : Value} (k : Nat) (i : Nat) : (List.replicate k dv).getD i dv = ([] : List Value).getD i dv := by
  simp only [List.getD, List.getElem?_replicate]
  split <;> rfl
end Facts
end Own
section G
variable {p : Program} {l : Launch} {e : Env} {R : Room} {s : State} {m : MethodId} {args : Array Value} {below : List Frame} {meth : Method} {c : Code} {T : State} {locs : List Loc} {cells slots : Nat} {pc : Nat} {Ls : Array Slot} {st : List Value} {P : Outcome → State → Prop}
theorem g_iloadN (X : Stand p l e R s m args below meth c T locs cells slots) (hx : p.tables.exec = Jvm.exec) {k : Fin 4} {v : Int32} (hd : decode c.code pc = .ok (.iload_n k, 1)) (hl : Ls[k.val]? = some (.val (.int v))) (hr : Go p e below (T.setTop (mkF m (pc + 1) Ls (.int v :: st))) P) : Go p e below (T.setTop (mkF m pc Ls st)) P := Go.mp (fun _ k => XS.iloadN X.here hx rfl hd hl k) hr
theorem g_iload (X : Stand p l e R s m args below meth c T locs cells slots) (hx : p.tables.exec = Jvm.exec) {k : Nat} {v : Int32} (hd : decode c.code pc = .ok (.iload k, 2)) (hl : Ls[k]? = some (.val (.int v))) (hr : Go p e below (T.setTop (mkF m (pc + 2) Ls (.int v :: st))) P) : Go p e below (T.setTop (mkF m pc Ls st)) P := Go.mp (fun _ k => XS.iload X.here hx rfl hd hl k) hr
theorem g_lloadN (X : Stand p l e R s m args below meth c T locs cells slots) (hx : p.tables.exec = Jvm.exec) {k : Fin 4} {v : Int64} (hd : decode c.code pc = .ok (.lload_n k, 1)) (hl : Ls[k.val]? = some (.val (.long v))) (hr : Go p e below (T.setTop (mkF m (pc + 1) Ls (.long v :: st))) P) : Go p e below (T.setTop (mkF m pc Ls st)) P := Go.mp (fun _ k => XS.lloadN X.here hx rfl hd hl k) hr
theorem g_lload (X : Stand p l e R s m args below meth c T locs cells slots) (hx : p.tables.exec = Jvm.exec) {k : Nat} {v : Int64} (hd : decode c.code pc = .ok (.lload k, 2)) (hl : Ls[k]? = some (.val (.long v))) (hr : Go p e below (T.setTop (mkF m (pc + 2) Ls (.long v :: st))) P) : Go p e below (T.setTop (mkF m pc Ls st)) P := Go.mp (fun _ k => XS.lload X.here hx rfl hd hl k) hr
theorem g_aloadN (X : Stand p l e R s m args below meth c T locs cells slots) (hx : p.tables.exec = Jvm.exec) {k : Fin 4} {v : Value} (hd : decode c.code pc = .ok (.aload_n k, 1)) (hl : Ls[k.val]? = some (.val v)) (hv : v.isRef = true) (hr : Go p e below (T.setTop (mkF m (pc + 1) Ls (v :: st))) P) : Go p e below (T.setTop (mkF m pc Ls st)) P := Go.mp (fun _ k => XS.aloadN X.here hx rfl hd hl hv k) hr
theorem g_aload (X : Stand p l e R s m args below meth c T locs cells slots) (hx : p.tables.exec = Jvm.exec) {k : Nat} {v : Value} (hd : decode c.code pc = .ok (.aload k, 2)) (hl : Ls[k]? = some (.val v)) (hv : v.isRef = true) (hr : Go p e below (T.setTop (mkF m (pc + 2) Ls (v :: st))) P) : Go p e below (T.setTop (mkF m pc Ls st)) P := Go.mp (fun _ k => XS.aload X.here hx rfl hd hl hv k) hr
theorem g_istoreN (X : Stand p l e R s m args below meth c T locs cells slots) (hx : p.tables.exec = Jvm.exec) {k : Fin 4} {v : Int32} (l' : Array Slot) (hd : decode c.code pc = .ok (.istore_n k, 1)) (hl : storeLocals Ls k.val (.int v) = some l') (hr : Go p e below (T.setTop (mkF m (pc + 1) l' st)) P) : Go p e below (T.setTop (mkF m pc Ls (.int v :: st))) P := Go.mp (fun _ k => XS.istoreN X.here hx rfl hd rfl hl k) hr
theorem g_istore (X : Stand p l e R s m args below meth c T locs cells slots) (hx : p.tables.exec = Jvm.exec) {k : Nat} {v : Int32} (l' : Array Slot) (hd : decode c.code pc = .ok (.istore k, 2)) (hl : storeLocals Ls k (.int v) = some l') (hr : Go p e below (T.setTop (mkF m (pc + 2) l' st)) P) : Go p e below (T.setTop (mkF m pc Ls (.int v :: st))) P := Go.mp (fun _ k => XS.istore X.here hx rfl hd rfl hl k) hr
theorem g_astoreN (X : Stand p l e R s m args below meth c T locs cells slots) (hx : p.tables.exec = Jvm.exec) {k : Fin 4} {v : Value} (l' : Array Slot) (hd : decode c.code pc = .ok (.astore_n k, 1)) (hv : v.isRef = true) (hl : storeLocals Ls k.val v = some l') (hr : Go p e below (T.setTop (mkF m (pc + 1) l' st)) P) : Go p e below (T.setTop (mkF m pc Ls (v :: st))) P := Go.mp (fun _ k => XS.astoreN X.here hx rfl hd rfl hv hl k) hr
theorem g_astore (X : Stand p l e R s m args below meth c T locs cells slots) (hx : p.tables.exec = Jvm.exec) {k : Nat} {v : Value} (l' : Array Slot) (hd : decode c.code pc = .ok (.astore k, 2)) (hv : v.isRef = true) (hl : storeLocals Ls k v = some l') (hr : Go p e below (T.setTop (mkF m (pc + 2) l' st)) P) : Go p e below (T.setTop (mkF m pc Ls (v :: st))) P := Go.mp (fun _ k => XS.astore X.here hx rfl hd rfl hv hl k) hr
theorem g_iconst (X : Stand p l e R s m args below meth c T locs cells slots) (hx : p.tables.exec = Jvm.exec) {i : Int} (v : Int32) (hd : decode c.code pc = .ok (.iconst i, 1)) (hv : Int32.ofInt i = v) (hr : Go p e below (T.setTop (mkF m (pc + 1) Ls (.int v :: st))) P) : Go p e below (T.setTop (mkF m pc Ls st)) P := Go.mp (fun _ k => XT.iconstV X.here hx rfl v hd hv k) hr
theorem g_bipush (X : Stand p l e R s m args below meth c T locs cells slots) (hx : p.tables.exec = Jvm.exec) {i : Int} (v : Int32) (hd : decode c.code pc = .ok (.bipush i, 2)) (hv : (Int8.ofInt i).toInt32 = v) (hr : Go p e below (T.setTop (mkF m (pc + 2) Ls (.int v :: st))) P) : Go p e below (T.setTop (mkF m pc Ls st)) P := Go.mp (fun _ k => XT.bipushV X.here hx rfl v hd hv k) hr
theorem g_sipush (X : Stand p l e R s m args below meth c T locs cells slots) (hx : p.tables.exec = Jvm.exec) {i : Int} (v : Int32) (hd : decode c.code pc = .ok (.sipush i, 3)) (hv : (Int16.ofInt i).toInt32 = v) (hr : Go p e below (T.setTop (mkF m (pc + 3) Ls (.int v :: st))) P) : Go p e below (T.setTop (mkF m pc Ls st)) P := Go.mp (fun _ k => XT.sipushV X.here hx rfl v hd hv k) hr
theorem g_null (X : Stand p l e R s m args below meth c T locs cells slots) (hx : p.tables.exec = Jvm.exec) (hd : decode c.code pc = .ok (.aconst_null, 1)) (hr : Go p e below (T.setTop (mkF m (pc + 1) Ls (.null :: st))) P) : Go p e below (T.setTop (mkF m pc Ls st)) P := Go.mp (fun _ k => XS.aconstNull X.here hx rfl hd k) hr
theorem g_iadd (X : Stand p l e R s m args below meth c T locs cells slots) (hx : p.tables.exec = Jvm.exec) {x y : Int32} (hd : decode c.code pc = .ok (.iadd, 1)) (hr : Go p e below (T.setTop (mkF m (pc + 1) Ls (.int (x + y) :: st))) P) : Go p e below (T.setTop (mkF m pc Ls (.int y :: .int x :: st))) P := Go.mp (fun _ k => XS.iadd X.here hx rfl hd rfl k) hr
theorem g_isub (X : Stand p l e R s m args below meth c T locs cells slots) (hx : p.tables.exec = Jvm.exec) {x y : Int32} (hd : decode c.code pc = .ok (.isub, 1)) (hr : Go p e below (T.setTop (mkF m (pc + 1) Ls (.int (x - y) :: st))) P) : Go p e below (T.setTop (mkF m pc Ls (.int y :: .int x :: st))) P := Go.mp (fun _ k => XS.isub X.here hx rfl hd rfl k) hr
theorem g_iand (X : Stand p l e R s m args below meth c T locs cells slots) (hx : p.tables.exec = Jvm.exec) {x y : Int32} (hd : decode c.code pc = .ok (.iand, 1)) (hr : Go p e below (T.setTop (mkF m (pc + 1) Ls (.int (x &&& y) :: st))) P) : Go p e below (T.setTop (mkF m pc Ls (.int y :: .int x :: st))) P := Go.mp (fun _ k => XS.iand X.here hx rfl hd rfl k) hr
theorem g_ior (X : Stand p l e R s m args below meth c T locs cells slots) (hx : p.tables.exec = Jvm.exec) {x y : Int32} (hd : decode c.code pc = .ok (.ior, 1)) (hr : Go p e below (T.setTop (mkF m (pc + 1) Ls (.int (x ||| y) :: st))) P) : Go p e below (T.setTop (mkF m pc Ls (.int y :: .int x :: st))) P := Go.mp (fun _ k => XS.ior X.here hx rfl hd rfl k) hr
theorem g_ixor (X : Stand p l e R s m args below meth c T locs cells slots) (hx : p.tables.exec = Jvm.exec) {x y : Int32} (hd : decode c.code pc = .ok (.ixor, 1)) (hr : Go p e below (T.setTop (mkF m (pc + 1) Ls (.int (x ^^^ y) :: st))) P) : Go p e below (T.setTop (mkF m pc Ls (.int y :: .int x :: st))) P := Go.mp (fun _ k => XS.ixor X.here hx rfl hd rfl k) hr
theorem g_dup (X : Stand p l e R s m args below meth c T locs cells slots) (hx : p.tables.exec = Jvm.exec) {x : Value} (hd : decode c.code pc = .ok (.dup, 1)) (hc : x.category = 1) (hr : Go p e below (T.setTop (mkF m (pc + 1) Ls (x :: x :: st))) P) : Go p e below (T.setTop (mkF m pc Ls (x :: st))) P := Go.mp (fun _ k => XS.dup X.here hx rfl hd rfl hc k) hr
theorem g_pop (X : Stand p l e R s m args below meth c T locs cells slots) (hx : p.tables.exec = Jvm.exec) {x : Value} (hd : decode c.code pc = .ok (.pop, 1)) (hc : x.category = 1) (hr : Go p e below (T.setTop (mkF m (pc + 1) Ls st)) P) : Go p e below (T.setTop (mkF m pc Ls (x :: st))) P := Go.mp (fun _ k => XS.pop X.here hx rfl hd rfl hc k) hr
theorem g_goto (X : Stand p l e R s m args below meth c T locs cells slots) (hx : p.tables.exec = Jvm.exec) {o : Int} (pc' : Nat) (hd : decode c.code pc = .ok (.goto o, 3)) (ho : 0 ≤ (pc : Int) + o) (hp : ((pc : Int) + o).toNat = pc') (hr : Go p e below (T.setTop (mkF m pc' Ls st)) P) : Go p e below (T.setTop (mkF m pc Ls st)) P := Go.mp (fun _ k => XS.goto X.here hx rfl (pc0 := pc) (pc' := pc') rfl hd ho hp k) hr
theorem g_ifYes (X : Stand p l e R s m args below meth c T locs cells slots) (hx : p.tables.exec = Jvm.exec) {cd : ClassFile.Cond} {x : Int32} {o : Int} (pc' : Nat) (hd : decode c.code pc = .ok (.ifCond cd o, 3)) (hc : ifCond.holds cd x = true) (ho : 0 ≤ (pc : Int) + o) (hp : ((pc : Int) + o).toNat = pc') (hr : Go p e below (T.setTop (mkF m pc' Ls st)) P) : Go p e below (T.setTop (mkF m pc Ls (.int x :: st))) P := Go.mp (fun _ k => XS.ifYes X.here hx rfl (pc0 := pc) (pc' := pc') rfl hd rfl hc ho hp k) hr
theorem g_ifNo (X : Stand p l e R s m args below meth c T locs cells slots) (hx : p.tables.exec = Jvm.exec) {cd : ClassFile.Cond} {x : Int32} {o : Int} (hd : decode c.code pc = .ok (.ifCond cd o, 3)) (hc : ifCond.holds cd x = false) (hr : Go p e below (T.setTop (mkF m (pc + 3) Ls st)) P) : Go p e below (T.setTop (mkF m pc Ls (.int x :: st))) P := Go.mp (fun _ k => XS.ifNo X.here hx rfl hd rfl hc k) hr
theorem g_icmpYes (X : Stand p l e R s m args below meth c T locs cells slots) (hx : p.tables.exec = Jvm.exec) {cd : ClassFile.Cond} {x y : Int32} {o : Int} (pc' : Nat) (hd : decode c.code pc = .ok (.if_icmp cd o, 3)) (hc : if_icmp.holds cd x y = true) (ho : 0 ≤ (pc : Int) + o) (hp : ((pc : Int) + o).toNat = pc') (hr : Go p e below (T.setTop (mkF m pc' Ls st)) P) : Go p e below (T.setTop (mkF m pc Ls (.int y :: .int x :: st))) P := Go.mp (fun _ k => XS.icmpYes X.here hx rfl (pc0 := pc) (pc' := pc') rfl hd rfl hc ho hp k) hr
theorem g_icmpNo (X : Stand p l e R s m args below meth c T locs cells slots) (hx : p.tables.exec = Jvm.exec) {cd : ClassFile.Cond} {x y : Int32} {o : Int} (hd : decode c.code pc = .ok (.if_icmp cd o, 3)) (hc : if_icmp.holds cd x y = false) (hr : Go p e below (T.setTop (mkF m (pc + 3) Ls st)) P) : Go p e below (T.setTop (mkF m pc Ls (.int y :: .int x :: st))) P := Go.mp (fun _ k => XS.icmpNo X.here hx rfl hd rfl hc k) hr
theorem g_acmp (X : Stand p l e R s m args below meth c T locs cells slots) (hx : p.tables.exec = Jvm.exec) {cd : ACond} {x y : Value} {o : Int} (pc' : Nat) (same : Bool) (h1 : x.isRef = true) (h2 : y.isRef = true) (hd : decode c.code pc = .ok (.if_acmp cd o, 3)) (hq : decide (x = y) = same) (ho : 0 ≤ (pc : Int) + o) (hp : pc' = if acV cd same = true then ((pc : Int) + o).toNat else pc + 3) (hr : Go p e below (T.setTop (mkF m pc' Ls st)) P) : Go p e below (T.setTop (mkF m pc Ls (y :: x :: st))) P := Go.mp (fun _ k => Jvm.RoadKit.acmp (g := mkF m pc Ls (y :: x :: st)) X hx rfl h1 h2 (pc0 := pc) (pc' := pc') (same := same) rfl hd rfl hq ho hp k) hr
theorem g_irem (X : Stand p l e R s m args below meth c T locs cells slots) (hx : p.tables.exec = Jvm.exec) {x y : Int32} (hd : decode c.code pc = .ok (.irem, 1)) (hy : y ≠ 0) (hr : Go p e below (T.setTop (mkF m (pc + 1) Ls (.int (x % y) :: st))) P) : Go p e below (T.setTop (mkF m pc Ls (.int y :: .int x :: st))) P := Go.mp (fun _ k => iremM X hx rfl hd rfl hy k) hr
end G
theorem pn_0 : plainName "java/lang/AbstractStringBuilder" = true := by first | (simp [plainName, overriddenIn]; done) | decide +kernel
theorem d4_0 : decode jdk_68_method_2_code 0 = .ok (.aload_n 0, 1) := by decide +kernel
theorem d4_1 : decode jdk_68_method_2_code 1 = .ok (.invokespecial 3, 3) := by decide +kernel
theorem d4_4 : decode jdk_68_method_2_code 4 = .ok (.getstatic 18, 3) := by decide +kernel
theorem d4_7 : decode jdk_68_method_2_code 7 = .ok (.ifCond .eq 18, 3) := by decide +kernel
theorem d4_10 : decode jdk_68_method_2_code 10 = .ok (.aload_n 0, 1) := by decide +kernel
theorem d4_11 : decode jdk_68_method_2_code 11 = .ok (.iload_n 1, 1) := by decide +kernel
theorem d4_12 : decode jdk_68_method_2_code 12 = .ok (.newarray .byte, 2) := by decide +kernel
theorem d4_14 : decode jdk_68_method_2_code 14 = .ok (.putfield 15, 3) := by decide +kernel
theorem d4_17 : decode jdk_68_method_2_code 17 = .ok (.aload_n 0, 1) := by decide +kernel
theorem d4_18 : decode jdk_68_method_2_code 18 = .ok (.iconst 0, 1) := by decide +kernel
theorem d4_19 : decode jdk_68_method_2_code 19 = .ok (.putfield 22, 3) := by decide +kernel
theorem d4_22 : decode jdk_68_method_2_code 22 = .ok (.goto 16, 3) := by decide +kernel
theorem d4_38 : decode jdk_68_method_2_code 38 = .ok (.return_, 1) := by decide +kernel
theorem ef_rm_asbInit (m : MethodId) (x0 : Addr) (x1 : Int32) : entryFrame m #[(.ref x0), (.int x1)] 2 = mkF m 0 #[.val (.ref x0), .val (.int x1)] [] := by first | (simp [entryFrame, mkF, argsToLocals, Value.category]; done) | rfl
set_option maxRecDepth 65536 in
set_option maxHeartbeats 40000000 in
theorem rm_asbInit (l : Launch) (Z : State) (a0 : Array Value) (hw : ∀ d ∈ tables_1, d.before a0 Z = true) (a1 : Addr) (zc : Int32) (h0 : Heap) (n0 : Nat) (Z0 : n0 ≤ h0.size) (S_COMPACT_STRINGS : Sta Z h0 "java/lang/String" "COMPACT_STRINGS" "Z" (.int zc)) (hzc : ¬ (zc = (0 : Int32))) (E_a1 : Exa Z h0 a1 "java/lang/StringBuilder") (F_a1_value : Fld Z h0 a1 "java/lang/AbstractStringBuilder" "value" "[B" .null) (F_a1_coder : Fld Z h0 a1 "java/lang/AbstractStringBuilder" "coder" "B" (.int (0 : Int32))) (g_a1 : n0 ≤ a1) :
    Ctr l (⟨"java/lang/AbstractStringBuilder", "<init>", "(I)V"⟩ : MethodName) jdk_68_method_2_code 2 none [] ({ frames := 1, cells := 1, slots := 16, locals := 12 } : Room) Z #[(.ref a1), (.int (16 : Int32))] h0 (fun v h L => v = none ∧ Fr n0 L ∧ Keep h0 h [a1]) := by
  refine own_enter pn_0 (fun p e s m below meth c s₁ hx hby hml hown hnm hret hlk hZ X0 e0 => ?_)
  have N0 := Fr.nil n0
  have K0 := Keep.refl h0 [a1]
  rw [ef_rm_asbInit m _ _]
  show Go p e below (s₁.setTop (mkF m 0 #[.val (.ref a1), .val (.int (16 : Int32))] [])) _
  refine g_aloadN X0 hx (hb hby d4_0) rfl rfl ?_
  obtain ⟨T1, X1, e1, st1⟩ := initO X0 hx hZ hown (hw _ (List.mem_of_getElem? (i := 21) rfl)) (hw _ (List.mem_of_getElem? (i := 7) rfl)) (hw _ (List.mem_of_getElem? (i := 8) rfl)) e0 (g := (mkF m 1 #[.val (.ref a1), .val (.int (16 : Int32))] [(.ref a1)])) rfl (by rw [hml]; rfl) rfl (hb hby d4_1) (by decide) (W := 0) (by show 2 * 0 + _ ≤ _; exact Nat.le_of_eq rfl) (by decide)
  refine Go.mp st1 ?_
  show Go p e below (T1.setTop (mkF m 4 #[.val (.ref a1), .val (.int (16 : Int32))] [])) _
  obtain ⟨T2, X2, e2, st2⟩ := getS2 X1 hx hZ hown (host := "") (Or.inl (hw _ (List.mem_of_getElem? (i := 22) rfl))) Via.refl e1 S_COMPACT_STRINGS (g := (mkF m 4 #[.val (.ref a1), .val (.int (16 : Int32))] [])) rfl (hb hby d4_4)
  refine Go.mp st2 ?_
  show Go p e below (T2.setTop (mkF m 7 #[.val (.ref a1), .val (.int (16 : Int32))] [(.int zc)])) _
  have c7_3 : ¬ (zc = (0 : Int32)) := hzc
  refine g_ifNo X2 hx (hb hby d4_7) ((if0 _ _).trans (feq c7_3).1) ?_
  refine g_aloadN X2 hx (hb hby d4_10) rfl rfl ?_
  refine g_iloadN X2 hx (hb hby d4_11) rfl ?_
  obtain ⟨T4, h4, k4, X4, e4, E4, A4, st4⟩ := newP X2 hx hZ (hw _ (List.mem_of_getElem? (i := 24) rfl)) e2 (g := (mkF m 12 #[.val (.ref a1), .val (.int (16 : Int32))] [(.int (16 : Int32)), (.ref a1)])) rfl (hb hby d4_12) rfl (by decide) (cap := 16) (by decide) (by decide) (by decide) (by decide)
  obtain ⟨b4, g4⟩ : ∃ z, z = h0.size := ⟨_, rfl⟩
  rw [← g4] at A4 st4
  have ne_a1_b4 : a1 ≠ b4 := Nat.ne_of_lt (Nat.lt_of_lt_of_le E_a1.lt (Nat.le_of_eq g4.symm))
  have g_b4 : n0 ≤ b4 := Nat.le_trans Z0 (Nat.le_of_eq g4.symm)
  have Z4 : n0 ≤ h4.size := Nat.le_trans Z0 E4.1
  have E_a1_4 := Exa.ext E4 E_a1
  have F_a1_value_4 := Fld.ext E4 F_a1_value
  have F_a1_coder_4 := Fld.ext E4 F_a1_coder
  have S_COMPACT_STRINGS_4 := Sta.ext E4 S_COMPACT_STRINGS
  have sz_b4 : h0.size ≤ b4 := Nat.le_trans K0.1 (Nat.le_of_eq g4.symm)
  have K4 := Keep.ext K0 E4
  have V4 := Arv.new A4 (by decide)
  refine Go.mp st4 ?_
  have V_b40 := Arv.pad (vs' := List.replicate 16 (.int 0)) V4 (own_pad 16)
  show Go p e below (T4.setTop (mkF m 14 #[.val (.ref a1), .val (.int (16 : Int32))] [(.ref b4), (.ref a1)])) _
  obtain ⟨T5, h5, X5, e5, W5, st5⟩ := putF X4 hx hZ hown (host := "") (Or.inl (hw _ (List.mem_of_getElem? (i := 25) rfl))) Via.refl e4 F_a1_value_4 E_a1_4 (Or.inl (hw _ (List.mem_of_getElem? (i := 26) rfl))) (hw _ (List.mem_of_getElem? (i := 10) rfl)) (ty := (FieldType.array FieldType.byte)) (by decide) rfl rfl (g := (mkF m 14 #[.val (.ref a1), .val (.int (16 : Int32))] [(.ref b4), (.ref a1)])) rfl rfl (hb hby d4_14)
  have N5 := Fr.snoc X5 N0 g_a1
  have E_a1_5 := Exa.wr W5 E_a1_4
  have F_a1_value_5 := Fld.same W5 F_a1_value_4
  have F_a1_coder_5 := Fld.other W5 F_a1_coder_4 (Or.inr (slot_ne (Or.inl (hw _ (List.mem_of_getElem? (i := 28) rfl))) (Or.inl (hw _ (List.mem_of_getElem? (i := 26) rfl))) (by decide) (t := FieldType.byte) (t' := (FieldType.array FieldType.byte)) (by decide) (by decide)))
  have S_COMPACT_STRINGS_5 := Sta.wr W5 S_COMPACT_STRINGS_4
  have V_b4_5 := Arv.other V_b40 W5 (Ne.symm ne_a1_b4)
  have Z5 : n0 ≤ h5.size := Nat.le_trans Z4 (Nat.le_of_eq W5.size.symm)
  have K5 := Keep.wr K4 W5 (Or.inl (List.mem_of_getElem? (i := 0) rfl))
  refine Go.mp st5 ?_
  show Go p e below (T5.setTop (mkF m 17 #[.val (.ref a1), .val (.int (16 : Int32))] [])) _
  refine g_aloadN X5 hx (hb hby d4_17) rfl rfl ?_
  refine g_iconst X5 hx (0 : Int32) (hb hby d4_18) (by decide) ?_
  obtain ⟨T6, h6, X6, e6, W6, st6⟩ := putF X5 hx hZ hown (host := "") (Or.inl (hw _ (List.mem_of_getElem? (i := 27) rfl))) Via.refl e5 F_a1_coder_5 E_a1_5 (Or.inl (hw _ (List.mem_of_getElem? (i := 28) rfl))) (hw _ (List.mem_of_getElem? (i := 10) rfl)) (ty := FieldType.byte) (by decide) rfl rfl (g := (mkF m 19 #[.val (.ref a1), .val (.int (16 : Int32))] [(.int (0 : Int32)), (.ref a1)])) rfl rfl (hb hby d4_19)
  have N6 := Fr.snoc X6 N5 g_a1
  have E_a1_6 := Exa.wr W6 E_a1_5
  have F_a1_value_6 := Fld.other W6 F_a1_value_5 (Or.inr (slot_ne (Or.inl (hw _ (List.mem_of_getElem? (i := 26) rfl))) (Or.inl (hw _ (List.mem_of_getElem? (i := 28) rfl))) (by decide) (t := (FieldType.array FieldType.byte)) (t' := FieldType.byte) (by decide) (by decide)))
  have F_a1_coder_6 := Fld.same W6 F_a1_coder_5
  have S_COMPACT_STRINGS_6 := Sta.wr W6 S_COMPACT_STRINGS_5
  have V_b4_6 := Arv.other V_b4_5 W6 (Ne.symm ne_a1_b4)
  have Z6 : n0 ≤ h6.size := Nat.le_trans Z5 (Nat.le_of_eq W6.size.symm)
  have K6 := Keep.wr K5 W6 (Or.inl (List.mem_of_getElem? (i := 0) rfl))
  refine Go.mp st6 ?_
  show Go p e below (T6.setTop (mkF m 22 #[.val (.ref a1), .val (.int (16 : Int32))] [])) _
  refine g_goto X6 hx 38 (hb hby d4_22) (by decide) (by decide) ?_
  exact own_retV X6 hx hret hlk (hb hby d4_38) (by decide) (by decide) (by rw [e6]; exact ⟨rfl, N6, K6⟩)
theorem pd_0 : parseMethodDescriptor "(I)V" = some ⟨[FieldType.int], none⟩ := by decide +kernel
theorem pn_1 : plainName "java/lang/StringBuilder" = true := by first | (simp [plainName, overriddenIn]; done) | decide +kernel
theorem d3_0 : decode jdk_67_method_1_code 0 = .ok (.aload_n 0, 1) := by decide +kernel
theorem d3_1 : decode jdk_67_method_1_code 1 = .ok (.bipush 16, 2) := by decide +kernel
theorem d3_3 : decode jdk_67_method_1_code 3 = .ok (.invokespecial 1, 3) := by decide +kernel
theorem d3_6 : decode jdk_67_method_1_code 6 = .ok (.return_, 1) := by decide +kernel
theorem ef_rm_sbInit (m : MethodId) (x0 : Addr) : entryFrame m #[(.ref x0)] 1 = mkF m 0 #[.val (.ref x0)] [] := by first | (simp [entryFrame, mkF, argsToLocals, Value.category]; done) | rfl
set_option maxRecDepth 65536 in
set_option maxHeartbeats 40000000 in
theorem rm_sbInit (l : Launch) (Z : State) (a0 : Array Value) (hw : ∀ d ∈ tables_1, d.before a0 Z = true) (a1 : Addr) (zc : Int32) (h0 : Heap) (n0 : Nat) (Z0 : n0 ≤ h0.size) (S_COMPACT_STRINGS : Sta Z h0 "java/lang/String" "COMPACT_STRINGS" "Z" (.int zc)) (hzc : ¬ (zc = (0 : Int32))) (E_a1 : Exa Z h0 a1 "java/lang/StringBuilder") (F_a1_value : Fld Z h0 a1 "java/lang/AbstractStringBuilder" "value" "[B" .null) (F_a1_coder : Fld Z h0 a1 "java/lang/AbstractStringBuilder" "coder" "B" (.int (0 : Int32))) (g_a1 : n0 ≤ a1) :
    Ctr l (⟨"java/lang/StringBuilder", "<init>", "()V"⟩ : MethodName) jdk_67_method_1_code 1 none [] ({ frames := 2, cells := 1, slots := 16, locals := 25 } : Room) Z #[(.ref a1)] h0 (fun v h L => v = none ∧ Fr n0 L ∧ Keep h0 h [a1]) := by
  refine own_enter pn_1 (fun p e s m below meth c s₁ hx hby hml hown hnm hret hlk hZ X0 e0 => ?_)
  have N0 := Fr.nil n0
  have K0 := Keep.refl h0 [a1]
  rw [ef_rm_sbInit m _]
  show Go p e below (s₁.setTop (mkF m 0 #[.val (.ref a1)] [])) _
  refine g_aloadN X0 hx (hb hby d3_0) rfl rfl ?_
  refine g_bipush X0 hx (16 : Int32) (hb hby d3_1) (by decide) ?_
  obtain ⟨v1, T1, L1, X1, q1, st1⟩ := own_callI X0 hx hZ (y := (⟨"java/lang/AbstractStringBuilder", "<init>", "(I)V"⟩ : MethodName)) (pc := 3) (Ls := #[.val (.ref a1)]) (st := [(.int (16 : Int32)), (.ref a1)]) hown (hw _ (List.mem_of_getElem? (i := 15) rfl)) (hw _ (List.mem_of_getElem? (i := 16) rfl)) (hw _ (List.mem_of_getElem? (i := 20) rfl)) (hw _ (List.mem_of_getElem? (i := 19) rfl)) rfl (by decide) (rm_asbInit l Z a0 hw a1 zc h0 n0 Z0 S_COMPACT_STRINGS hzc E_a1 F_a1_value F_a1_coder g_a1) e0 pd_0 (hb hby d3_3) (by rw [hml]; rfl) (argsL := [(.int (16 : Int32))]) (rest := []) rfl rfl rfl (W := 0) (Nat.le_of_eq rfl) (by decide) (by decide) (by decide) (by decide)
  obtain ⟨rv1, M1, Kc1⟩ := q1
  have N1 := Fr.app N0 M1
  subst rv1
  have E_a1_1 := Exa.keep E_a1 Kc1
  have S_COMPACT_STRINGS_1 := own_sta_keep S_COMPACT_STRINGS Kc1 (own_plain E_a1 (fun _ q => nomatch q))
  have K1 := Keep.trans K0 Kc1 (own_mem1 (Or.inl (List.mem_of_getElem? (i := 0) rfl)))
  have Z1 : n0 ≤ T1.heap.size := Nat.le_trans Z0 Kc1.1
  refine Go.mp st1 ?_
  show Go p e below (T1.setTop (mkF m 6 #[.val (.ref a1)] [])) _
  exact own_retV X1 hx hret hlk (hb hby d3_6) (by decide) (by decide) (by rw [(rfl : T1.heap = T1.heap)]; exact ⟨rfl, N1, K1⟩)
theorem pd_1 : parseMethodDescriptor "()V" = some ⟨[], none⟩ := by decide +kernel
theorem pn_2 : plainName "com/example/tektonik/tektonik/schema/ElementText" = true := by first | (simp [plainName, overriddenIn]; done) | decide +kernel
theorem d1_0 : decode prog_69_method_1_code 0 = .ok (.aload_n 0, 1) := by decide +kernel
theorem d1_1 : decode prog_69_method_1_code 1 = .ok (.invokespecial 1, 3) := by decide +kernel
theorem d1_4 : decode prog_69_method_1_code 4 = .ok (.aload_n 0, 1) := by decide +kernel
theorem d1_5 : decode prog_69_method_1_code 5 = .ok (.new 7, 3) := by decide +kernel
theorem d1_8 : decode prog_69_method_1_code 8 = .ok (.dup, 1) := by decide +kernel
theorem d1_9 : decode prog_69_method_1_code 9 = .ok (.invokespecial 9, 3) := by decide +kernel
theorem d1_12 : decode prog_69_method_1_code 12 = .ok (.putfield 10, 3) := by decide +kernel
theorem d1_15 : decode prog_69_method_1_code 15 = .ok (.return_, 1) := by decide +kernel
theorem ef_rm_etInit (m : MethodId) (x0 : Addr) : entryFrame m #[(.ref x0)] 1 = mkF m 0 #[.val (.ref x0)] [] := by first | (simp [entryFrame, mkF, argsToLocals, Value.category]; done) | rfl
set_option maxRecDepth 65536 in
set_option maxHeartbeats 40000000 in
theorem rm_etInit (l : Launch) (Z : State) (a0 : Array Value) (hw : ∀ d ∈ tables_1, d.before a0 Z = true) (a1 : Addr) (zc : Int32) (h0 : Heap) (n0 : Nat) (Z0 : n0 ≤ h0.size) (S_COMPACT_STRINGS : Sta Z h0 "java/lang/String" "COMPACT_STRINGS" "Z" (.int zc)) (hzc : ¬ (zc = (0 : Int32))) (E_a1 : Exa Z h0 a1 "com/example/tektonik/tektonik/schema/ElementText") (F_a1_text : Fld Z h0 a1 "com/example/tektonik/tektonik/schema/ElementText" "text" "Ljava/lang/StringBuilder;" .null) (F_a1_open : Fld Z h0 a1 "com/example/tektonik/tektonik/schema/ElementText" "open" "I" (.int (0 : Int32))) (F_a1_holdsElement : Fld Z h0 a1 "com/example/tektonik/tektonik/schema/ElementText" "holdsElement" "Z" (.int (0 : Int32))) (g_a1 : n0 ≤ a1) :
    Ctr l (⟨"com/example/tektonik/tektonik/schema/ElementText", "<init>", "()V"⟩ : MethodName) prog_69_method_1_code 1 none [] ({ frames := 3, cells := 2, slots := 20, locals := 40 } : Room) Z #[(.ref a1)] h0 (fun v h L => v = none ∧ Fr n0 L ∧ Keep h0 h [a1] ∧ Fld Z h a1 "com/example/tektonik/tektonik/schema/ElementText" "open" "I" (.int (0 : Int32)) ∧ Fld Z h a1 "com/example/tektonik/tektonik/schema/ElementText" "holdsElement" "Z" (.int (0 : Int32))) := by
  refine own_enter pn_2 (fun p e s m below meth c s₁ hx hby hml hown hnm hret hlk hZ X0 e0 => ?_)
  have N0 := Fr.nil n0
  have K0 := Keep.refl h0 [a1]
  rw [ef_rm_etInit m _]
  show Go p e below (s₁.setTop (mkF m 0 #[.val (.ref a1)] [])) _
  refine g_aloadN X0 hx (hb hby d1_0) rfl rfl ?_
  obtain ⟨T1, X1, e1, st1⟩ := initO X0 hx hZ hown (hw _ (List.mem_of_getElem? (i := 6) rfl)) (hw _ (List.mem_of_getElem? (i := 7) rfl)) (hw _ (List.mem_of_getElem? (i := 8) rfl)) e0 (g := (mkF m 1 #[.val (.ref a1)] [(.ref a1)])) rfl (by rw [hml]; rfl) rfl (hb hby d1_1) (by decide) (W := 0) (by show 2 * 0 + _ ≤ _; exact Nat.le_of_eq rfl) (by decide)
  refine Go.mp st1 ?_
  show Go p e below (T1.setTop (mkF m 4 #[.val (.ref a1)] [])) _
  refine g_aloadN X1 hx (hb hby d1_4) rfl rfl ?_
  obtain ⟨T2, h2, X2, e2, E2, A2, D2, -, st2⟩ := newO X1 hx hZ hown (hw _ (List.mem_of_getElem? (i := 9) rfl)) (hw _ (List.mem_of_getElem? (i := 10) rfl)) (hw _ (List.mem_of_getElem? (i := 11) rfl)) e1 (g := (mkF m 5 #[.val (.ref a1)] [(.ref a1)])) rfl (hb hby d1_5) (by decide) (by decide)
  obtain ⟨b2, g2⟩ : ∃ z, z = h0.size := ⟨_, rfl⟩
  rw [← g2] at A2 D2 st2
  have ne_a1_b2 : a1 ≠ b2 := Nat.ne_of_lt (Nat.lt_of_lt_of_le E_a1.lt (Nat.le_of_eq g2.symm))
  have g_b2 : n0 ≤ b2 := Nat.le_trans Z0 (Nat.le_of_eq g2.symm)
  have Z2 : n0 ≤ h2.size := Nat.le_trans Z0 E2.1
  have E_a1_2 := Exa.ext E2 E_a1
  have F_a1_text_2 := Fld.ext E2 F_a1_text
  have F_a1_open_2 := Fld.ext E2 F_a1_open
  have F_a1_holdsElement_2 := Fld.ext E2 F_a1_holdsElement
  have S_COMPACT_STRINGS_2 := Sta.ext E2 S_COMPACT_STRINGS
  have sz_b2 : h0.size ≤ b2 := Nat.le_trans K0.1 (Nat.le_of_eq g2.symm)
  have K2 := Keep.ext K0 E2
  have F2_value : Fld Z h2 b2 "java/lang/AbstractStringBuilder" "value" "[B" .null := D2 (Or.inl (hw _ (List.mem_of_getElem? (i := 26) rfl))) (ty := (FieldType.array FieldType.byte)) (by decide)
  have F2_coder : Fld Z h2 b2 "java/lang/AbstractStringBuilder" "coder" "B" (.int (0 : Int32)) := D2 (Or.inl (hw _ (List.mem_of_getElem? (i := 28) rfl))) (ty := FieldType.byte) (by decide)
  refine Go.mp st2 ?_
  show Go p e below (T2.setTop (mkF m 8 #[.val (.ref a1)] [(.ref b2), (.ref a1)])) _
  refine g_dup X2 hx (hb hby d1_8) rfl ?_
  obtain ⟨v3, T3, L3, X3, q3, st3⟩ := own_callI X2 hx hZ (y := (⟨"java/lang/StringBuilder", "<init>", "()V"⟩ : MethodName)) (pc := 9) (Ls := #[.val (.ref a1)]) (st := [(.ref b2), (.ref b2), (.ref a1)]) hown (hw _ (List.mem_of_getElem? (i := 12) rfl)) (hw _ (List.mem_of_getElem? (i := 13) rfl)) (hw _ (List.mem_of_getElem? (i := 14) rfl)) (hw _ (List.mem_of_getElem? (i := 11) rfl)) rfl (by decide) (rm_sbInit l Z a0 hw b2 zc h2 n0 Z2 S_COMPACT_STRINGS_2 hzc A2 F2_value F2_coder g_b2) e2 pd_1 (hb hby d1_9) (by rw [hml]; rfl) (argsL := []) (rest := [(.ref b2), (.ref a1)]) rfl rfl rfl (W := 2) (Nat.le_of_eq rfl) (by decide) (by decide) (by decide) (by decide)
  obtain ⟨rv3, M3, Kc3⟩ := q3
  have N3 := Fr.app N0 M3
  subst rv3
  have E_a1_3 := Exa.keep E_a1_2 Kc3
  have F_a1_text_3 := Fld.keep F_a1_text_2 Kc3 (own_nin ne_a1_b2 List.not_mem_nil)
  have F_a1_open_3 := Fld.keep F_a1_open_2 Kc3 (own_nin ne_a1_b2 List.not_mem_nil)
  have F_a1_holdsElement_3 := Fld.keep F_a1_holdsElement_2 Kc3 (own_nin ne_a1_b2 List.not_mem_nil)
  have S_COMPACT_STRINGS_3 := own_sta_keep S_COMPACT_STRINGS_2 Kc3 (own_plain A2 (fun _ q => nomatch q))
  have E_b2_3 := Exa.keep A2 Kc3
  have K3 := Keep.trans K2 Kc3 (own_mem1 (Or.inr sz_b2))
  have Z3 : n0 ≤ T3.heap.size := Nat.le_trans Z2 Kc3.1
  refine Go.mp st3 ?_
  show Go p e below (T3.setTop (mkF m 12 #[.val (.ref a1)] [(.ref b2), (.ref a1)])) _
  obtain ⟨T4, h4, X4, e4, W4, st4⟩ := putF X3 hx hZ hown (host := "") (Or.inl (hw _ (List.mem_of_getElem? (i := 29) rfl))) Via.refl (rfl : T3.heap = T3.heap) F_a1_text_3 E_a1_3 (Or.inr ⟨(hw _ (List.mem_of_getElem? (i := 30) rfl)), rfl, hnm⟩) (hw _ (List.mem_of_getElem? (i := 1) rfl)) (ty := (FieldType.object "java/lang/StringBuilder")) (by decide) rfl rfl (g := (mkF m 12 #[.val (.ref a1)] [(.ref b2), (.ref a1)])) rfl rfl (hb hby d1_12)
  have N4 := Fr.snoc X4 N3 g_a1
  have E_a1_4 := Exa.wr W4 E_a1_3
  have F_a1_text_4 := Fld.same W4 F_a1_text_3
  have F_a1_open_4 := Fld.other W4 F_a1_open_3 (Or.inr (slot_ne (Or.inl (hw _ (List.mem_of_getElem? (i := 41) rfl))) (Or.inr (hw _ (List.mem_of_getElem? (i := 30) rfl))) (by decide) (t := FieldType.int) (t' := (FieldType.object "java/lang/StringBuilder")) (by decide) (by decide)))
  have F_a1_holdsElement_4 := Fld.other W4 F_a1_holdsElement_3 (Or.inr (slot_ne (Or.inl (hw _ (List.mem_of_getElem? (i := 48) rfl))) (Or.inr (hw _ (List.mem_of_getElem? (i := 30) rfl))) (by decide) (t := FieldType.boolean) (t' := (FieldType.object "java/lang/StringBuilder")) (by decide) (by decide)))
  have S_COMPACT_STRINGS_4 := Sta.wr W4 S_COMPACT_STRINGS_3
  have E_b2_4 := Exa.wr W4 E_b2_3
  have Z4 : n0 ≤ h4.size := Nat.le_trans Z3 (Nat.le_of_eq W4.size.symm)
  have K4 := Keep.wr K3 W4 (Or.inl (List.mem_of_getElem? (i := 0) rfl))
  refine Go.mp st4 ?_
  show Go p e below (T4.setTop (mkF m 15 #[.val (.ref a1)] [])) _
  exact own_retV X4 hx hret hlk (hb hby d1_15) (by decide) (by decide) (by rw [e4]; exact ⟨rfl, N4, K4, F_a1_open_4, F_a1_holdsElement_4⟩)
theorem d8_0 : decode prog_69_method_2_code 0 = .ok (.aload_n 0, 1) := by decide +kernel
theorem d8_1 : decode prog_69_method_2_code 1 = .ok (.dup, 1) := by decide +kernel
theorem d8_2 : decode prog_69_method_2_code 2 = .ok (.getfield 16, 3) := by decide +kernel
theorem d8_5 : decode prog_69_method_2_code 5 = .ok (.iconst 1, 1) := by decide +kernel
theorem d8_6 : decode prog_69_method_2_code 6 = .ok (.iadd, 1) := by decide +kernel
theorem d8_7 : decode prog_69_method_2_code 7 = .ok (.putfield 16, 3) := by decide +kernel
theorem d8_10 : decode prog_69_method_2_code 10 = .ok (.aload_n 0, 1) := by decide +kernel
theorem d8_11 : decode prog_69_method_2_code 11 = .ok (.iconst 1, 1) := by decide +kernel
theorem d8_12 : decode prog_69_method_2_code 12 = .ok (.putfield 20, 3) := by decide +kernel
theorem d8_15 : decode prog_69_method_2_code 15 = .ok (.return_, 1) := by decide +kernel
theorem ef_rm_startElement (m : MethodId) (x0 : Addr) : entryFrame m #[(.ref x0)] 1 = mkF m 0 #[.val (.ref x0)] [] := by first | (simp [entryFrame, mkF, argsToLocals, Value.category]; done) | rfl
set_option maxRecDepth 65536 in
set_option maxHeartbeats 40000000 in
theorem rm_startElement (l : Launch) (Z : State) (a0 : Array Value) (hw : ∀ d ∈ tables_1, d.before a0 Z = true) (a1 : Addr) (i1 : Int32) (i2 : Int32) (h0 : Heap) (n0 : Nat) (Z0 : n0 ≤ h0.size) (E_a1 : Exa Z h0 a1 "com/example/tektonik/tektonik/schema/ElementText") (F_a1_open : Fld Z h0 a1 "com/example/tektonik/tektonik/schema/ElementText" "open" "I" (.int i1)) (F_a1_holdsElement : Fld Z h0 a1 "com/example/tektonik/tektonik/schema/ElementText" "holdsElement" "Z" (.int i2)) (g_a1 : n0 ≤ a1) :
    Ctr l (⟨"com/example/tektonik/tektonik/schema/ElementText", "startElement", "()V"⟩ : MethodName) prog_69_method_2_code 1 none [] ({ frames := 0, cells := 0, slots := 0, locals := 0 } : Room) Z #[(.ref a1)] h0 (fun v h L => v = none ∧ Fr n0 L ∧ Keep h0 h [a1] ∧ Fld Z h a1 "com/example/tektonik/tektonik/schema/ElementText" "open" "I" (.int (i1 + (1 : Int32))) ∧ Fld Z h a1 "com/example/tektonik/tektonik/schema/ElementText" "holdsElement" "Z" (.int (1 : Int32))) := by
  refine own_enter pn_2 (fun p e s m below meth c s₁ hx hby hml hown hnm hret hlk hZ X0 e0 => ?_)
  have N0 := Fr.nil n0
  have K0 := Keep.refl h0 [a1]
  rw [ef_rm_startElement m _]
  show Go p e below (s₁.setTop (mkF m 0 #[.val (.ref a1)] [])) _
  refine g_aloadN X0 hx (hb hby d8_0) rfl rfl ?_
  refine g_dup X0 hx (hb hby d8_1) rfl ?_
  obtain ⟨T1, X1, e1, st1⟩ := getF X0 hx hZ hown (host := "") (Or.inl (hw _ (List.mem_of_getElem? (i := 40) rfl))) Via.refl e0 F_a1_open (g := (mkF m 2 #[.val (.ref a1)] [(.ref a1), (.ref a1)])) rfl rfl (hb hby d8_2)
  refine Go.mp st1 ?_
  show Go p e below (T1.setTop (mkF m 5 #[.val (.ref a1)] [(.int i1), (.ref a1)])) _
  refine g_iconst X1 hx (1 : Int32) (hb hby d8_5) (by decide) ?_
  refine g_iadd X1 hx (hb hby d8_6) ?_
  obtain ⟨T2, h2, X2, e2, W2, st2⟩ := putF X1 hx hZ hown (host := "") (Or.inl (hw _ (List.mem_of_getElem? (i := 40) rfl))) Via.refl e1 F_a1_open E_a1 (Or.inl (hw _ (List.mem_of_getElem? (i := 41) rfl))) (hw _ (List.mem_of_getElem? (i := 1) rfl)) (ty := FieldType.int) (by decide) rfl rfl (g := (mkF m 7 #[.val (.ref a1)] [(.int (i1 + (1 : Int32))), (.ref a1)])) rfl rfl (hb hby d8_7)
  have N2 := Fr.snoc X2 N0 g_a1
  have E_a1_2 := Exa.wr W2 E_a1
  have F_a1_open_2 := Fld.same W2 F_a1_open
  have F_a1_holdsElement_2 := Fld.other W2 F_a1_holdsElement (Or.inr (slot_ne (Or.inl (hw _ (List.mem_of_getElem? (i := 48) rfl))) (Or.inl (hw _ (List.mem_of_getElem? (i := 41) rfl))) (by decide) (t := FieldType.boolean) (t' := FieldType.int) (by decide) (by decide)))
  have Z2 : n0 ≤ h2.size := Nat.le_trans Z0 (Nat.le_of_eq W2.size.symm)
  have K2 := Keep.wr K0 W2 (Or.inl (List.mem_of_getElem? (i := 0) rfl))
  refine Go.mp st2 ?_
  show Go p e below (T2.setTop (mkF m 10 #[.val (.ref a1)] [])) _
  refine g_aloadN X2 hx (hb hby d8_10) rfl rfl ?_
  refine g_iconst X2 hx (1 : Int32) (hb hby d8_11) (by decide) ?_
  obtain ⟨T3, h3, X3, e3, W3, st3⟩ := putF X2 hx hZ hown (host := "") (Or.inl (hw _ (List.mem_of_getElem? (i := 47) rfl))) Via.refl e2 F_a1_holdsElement_2 E_a1_2 (Or.inl (hw _ (List.mem_of_getElem? (i := 48) rfl))) (hw _ (List.mem_of_getElem? (i := 1) rfl)) (ty := FieldType.boolean) (by decide) rfl rfl (g := (mkF m 12 #[.val (.ref a1)] [(.int (1 : Int32)), (.ref a1)])) rfl rfl (hb hby d8_12)
  have N3 := Fr.snoc X3 N2 g_a1
  have E_a1_3 := Exa.wr W3 E_a1_2
  have F_a1_open_3 := Fld.other W3 F_a1_open_2 (Or.inr (slot_ne (Or.inl (hw _ (List.mem_of_getElem? (i := 41) rfl))) (Or.inl (hw _ (List.mem_of_getElem? (i := 48) rfl))) (by decide) (t := FieldType.int) (t' := FieldType.boolean) (by decide) (by decide)))
  have F_a1_holdsElement_3 := Fld.same W3 F_a1_holdsElement_2
  have Z3 : n0 ≤ h3.size := Nat.le_trans Z2 (Nat.le_of_eq W3.size.symm)
  have K3 := Keep.wr K2 W3 (Or.inl (List.mem_of_getElem? (i := 0) rfl))
  refine Go.mp st3 ?_
  show Go p e below (T3.setTop (mkF m 15 #[.val (.ref a1)] [])) _
  exact own_retV X3 hx hret hlk (hb hby d8_15) (by decide) (by decide) (by rw [e3]; exact ⟨rfl, N3, K3, F_a1_open_3, F_a1_holdsElement_3⟩)
def f_endElement_ret (a1 : Addr) (i1 : Int32) (i2 : Int32) : Option Value := (if i1 = (0 : Int32) then some (.int (1 : Int32)) else some (.int (0 : Int32)))
def f_endElement_a1_open (a1 : Addr) (i1 : Int32) (i2 : Int32) : Value := (if i1 = (0 : Int32) then (.int i1) else (.int (i1 - (1 : Int32))))
theorem d6_0 : decode prog_69_method_4_code 0 = .ok (.aload_n 0, 1) := by decide +kernel
theorem d6_1 : decode prog_69_method_4_code 1 = .ok (.getfield 16, 3) := by decide +kernel
theorem d6_4 : decode prog_69_method_4_code 4 = .ok (.ifCond .ne 7, 3) := by decide +kernel
theorem d6_7 : decode prog_69_method_4_code 7 = .ok (.iconst 1, 1) := by decide +kernel
theorem d6_8 : decode prog_69_method_4_code 8 = .ok (.goto 4, 3) := by decide +kernel
theorem d6_11 : decode prog_69_method_4_code 11 = .ok (.iconst 0, 1) := by decide +kernel
theorem d6_12 : decode prog_69_method_4_code 12 = .ok (.istore_n 1, 1) := by decide +kernel
theorem d6_13 : decode prog_69_method_4_code 13 = .ok (.iload_n 1, 1) := by decide +kernel
theorem d6_14 : decode prog_69_method_4_code 14 = .ok (.ifCond .ne 13, 3) := by decide +kernel
theorem d6_17 : decode prog_69_method_4_code 17 = .ok (.aload_n 0, 1) := by decide +kernel
theorem d6_18 : decode prog_69_method_4_code 18 = .ok (.dup, 1) := by decide +kernel
theorem d6_19 : decode prog_69_method_4_code 19 = .ok (.getfield 16, 3) := by decide +kernel
theorem d6_22 : decode prog_69_method_4_code 22 = .ok (.iconst 1, 1) := by decide +kernel
theorem d6_23 : decode prog_69_method_4_code 23 = .ok (.isub, 1) := by decide +kernel
theorem d6_24 : decode prog_69_method_4_code 24 = .ok (.putfield 16, 3) := by decide +kernel
theorem d6_27 : decode prog_69_method_4_code 27 = .ok (.iload_n 1, 1) := by decide +kernel
theorem d6_28 : decode prog_69_method_4_code 28 = .ok (.ireturn, 1) := by decide +kernel
theorem ef_rm_endElement (m : MethodId) (x0 : Addr) : entryFrame m #[(.ref x0)] 2 = mkF m 0 #[.val (.ref x0), .unset] [] := by first | (simp [entryFrame, mkF, argsToLocals, Value.category]; done) | rfl
set_option maxRecDepth 65536 in
set_option maxHeartbeats 40000000 in
theorem rm_endElement (l : Launch) (Z : State) (a0 : Array Value) (hw : ∀ d ∈ tables_1, d.before a0 Z = true) (a1 : Addr) (i1 : Int32) (i2 : Int32) (h0 : Heap) (n0 : Nat) (Z0 : n0 ≤ h0.size) (E_a1 : Exa Z h0 a1 "com/example/tektonik/tektonik/schema/ElementText") (F_a1_open : Fld Z h0 a1 "com/example/tektonik/tektonik/schema/ElementText" "open" "I" (.int i1)) (F_a1_holdsElement : Fld Z h0 a1 "com/example/tektonik/tektonik/schema/ElementText" "holdsElement" "Z" (.int i2)) (g_a1 : n0 ≤ a1) :
    Ctr l (⟨"com/example/tektonik/tektonik/schema/ElementText", "endElement", "()Z"⟩ : MethodName) prog_69_method_4_code 2 (some FieldType.boolean) [] ({ frames := 0, cells := 0, slots := 0, locals := 0 } : Room) Z #[(.ref a1)] h0 (fun v h L => v = (f_endElement_ret a1 i1 i2) ∧ Fr n0 L ∧ Keep h0 h [a1] ∧ Fld Z h a1 "com/example/tektonik/tektonik/schema/ElementText" "open" "I" (f_endElement_a1_open a1 i1 i2) ∧ Fld Z h a1 "com/example/tektonik/tektonik/schema/ElementText" "holdsElement" "Z" (.int i2)) := by
  refine own_enter pn_2 (fun p e s m below meth c s₁ hx hby hml hown hnm hret hlk hZ X0 e0 => ?_)
  have N0 := Fr.nil n0
  have K0 := Keep.refl h0 [a1]
  rw [ef_rm_endElement m _]
  show Go p e below (s₁.setTop (mkF m 0 #[.val (.ref a1), .unset] [])) _
  refine g_aloadN X0 hx (hb hby d6_0) rfl rfl ?_
  obtain ⟨T1, X1, e1, st1⟩ := getF X0 hx hZ hown (host := "") (Or.inl (hw _ (List.mem_of_getElem? (i := 40) rfl))) Via.refl e0 F_a1_open (g := (mkF m 1 #[.val (.ref a1), .unset] [(.ref a1)])) rfl rfl (hb hby d6_1)
  refine Go.mp st1 ?_
  show Go p e below (T1.setTop (mkF m 4 #[.val (.ref a1), .unset] [(.int i1)])) _
  by_cases c4_2 : i1 = (0 : Int32)
  · refine g_ifNo X1 hx (hb hby d6_4) ((if0 _ _).trans (teq c4_2).2) ?_
    refine g_iconst X1 hx (1 : Int32) (hb hby d6_7) (by decide) ?_
    refine g_goto X1 hx 12 (hb hby d6_8) (by decide) (by decide) ?_
    refine g_istoreN X1 hx #[.val (.ref a1), .val (.int (1 : Int32))] (hb hby d6_12) rfl ?_
    refine g_iloadN X1 hx (hb hby d6_13) rfl ?_
    refine g_ifYes X1 hx 27 (hb hby d6_14) ((if0 _ _).trans (feq ((by decide) : ¬ ((1 : Int32) = (0 : Int32)))).2) (by decide) (by decide) ?_
    refine g_iloadN X1 hx (hb hby d6_27) rfl ?_
    exact own_retZ X1 hx hret hlk (hb hby d6_28) (by decide) (by decide) (by decide) (by rw [e1]; exact ⟨(by rw [f_endElement_ret, if_pos c4_2]), N0, K0, (by rw [f_endElement_a1_open, if_pos c4_2]; exact F_a1_open), F_a1_holdsElement⟩)
  · refine g_ifYes X1 hx 11 (hb hby d6_4) ((if0 _ _).trans (feq c4_2).2) (by decide) (by decide) ?_
    refine g_iconst X1 hx (0 : Int32) (hb hby d6_11) (by decide) ?_
    refine g_istoreN X1 hx #[.val (.ref a1), .val (.int (0 : Int32))] (hb hby d6_12) rfl ?_
    refine g_iloadN X1 hx (hb hby d6_13) rfl ?_
    refine g_ifNo X1 hx (hb hby d6_14) ((if0 _ _).trans (teq ((by decide) : (0 : Int32) = (0 : Int32))).2) ?_
    refine g_aloadN X1 hx (hb hby d6_17) rfl rfl ?_
    refine g_dup X1 hx (hb hby d6_18) rfl ?_
    obtain ⟨T3, X3, e3, st3⟩ := getF X1 hx hZ hown (host := "") (Or.inl (hw _ (List.mem_of_getElem? (i := 40) rfl))) Via.refl e1 F_a1_open (g := (mkF m 19 #[.val (.ref a1), .val (.int (0 : Int32))] [(.ref a1), (.ref a1)])) rfl rfl (hb hby d6_19)
    refine Go.mp st3 ?_
    show Go p e below (T3.setTop (mkF m 22 #[.val (.ref a1), .val (.int (0 : Int32))] [(.int i1), (.ref a1)])) _
    refine g_iconst X3 hx (1 : Int32) (hb hby d6_22) (by decide) ?_
    refine g_isub X3 hx (hb hby d6_23) ?_
    obtain ⟨T4, h4, X4, e4, W4, st4⟩ := putF X3 hx hZ hown (host := "") (Or.inl (hw _ (List.mem_of_getElem? (i := 40) rfl))) Via.refl e3 F_a1_open E_a1 (Or.inl (hw _ (List.mem_of_getElem? (i := 41) rfl))) (hw _ (List.mem_of_getElem? (i := 1) rfl)) (ty := FieldType.int) (by decide) rfl rfl (g := (mkF m 24 #[.val (.ref a1), .val (.int (0 : Int32))] [(.int (i1 - (1 : Int32))), (.ref a1)])) rfl rfl (hb hby d6_24)
    have N4 := Fr.snoc X4 N0 g_a1
    have E_a1_4 := Exa.wr W4 E_a1
    have F_a1_open_4 := Fld.same W4 F_a1_open
    have F_a1_holdsElement_4 := Fld.other W4 F_a1_holdsElement (Or.inr (slot_ne (Or.inl (hw _ (List.mem_of_getElem? (i := 48) rfl))) (Or.inl (hw _ (List.mem_of_getElem? (i := 41) rfl))) (by decide) (t := FieldType.boolean) (t' := FieldType.int) (by decide) (by decide)))
    have Z4 : n0 ≤ h4.size := Nat.le_trans Z0 (Nat.le_of_eq W4.size.symm)
    have K4 := Keep.wr K0 W4 (Or.inl (List.mem_of_getElem? (i := 0) rfl))
    refine Go.mp st4 ?_
    show Go p e below (T4.setTop (mkF m 27 #[.val (.ref a1), .val (.int (0 : Int32))] [])) _
    refine g_iloadN X4 hx (hb hby d6_27) rfl ?_
    exact own_retZ X4 hx hret hlk (hb hby d6_28) (by decide) (by decide) (by decide) (by rw [e4]; exact ⟨(by rw [f_endElement_ret, if_neg c4_2]), N4, K4, (by rw [f_endElement_a1_open, if_neg c4_2]; exact F_a1_open_4), F_a1_holdsElement_4⟩)
def f_holdsElement (a1 : Addr) (i1 : Int32) : Int32 := i1
theorem d7_0 : decode prog_69_method_5_code 0 = .ok (.aload_n 0, 1) := by decide +kernel
theorem d7_1 : decode prog_69_method_5_code 1 = .ok (.getfield 20, 3) := by decide +kernel
theorem d7_4 : decode prog_69_method_5_code 4 = .ok (.ireturn, 1) := by decide +kernel
theorem ef_rm_holdsElement (m : MethodId) (x0 : Addr) : entryFrame m #[(.ref x0)] 1 = mkF m 0 #[.val (.ref x0)] [] := by first | (simp [entryFrame, mkF, argsToLocals, Value.category]; done) | rfl
set_option maxRecDepth 65536 in
set_option maxHeartbeats 40000000 in
theorem rm_holdsElement (l : Launch) (Z : State) (a0 : Array Value) (hw : ∀ d ∈ tables_1, d.before a0 Z = true) (a1 : Addr) (i1 : Int32) (h0 : Heap) (n0 : Nat) (Z0 : n0 ≤ h0.size) (F_a1_holdsElement : Fld Z h0 a1 "com/example/tektonik/tektonik/schema/ElementText" "holdsElement" "Z" (.int i1)) (hz : i1 = 0 ∨ i1 = 1) :
    Ctr l (⟨"com/example/tektonik/tektonik/schema/ElementText", "holdsElement", "()Z"⟩ : MethodName) prog_69_method_5_code 1 (some FieldType.boolean) [] ({ frames := 0, cells := 0, slots := 0, locals := 0 } : Room) Z #[(.ref a1)] h0 (fun v h L => v = some (.int (f_holdsElement a1 i1)) ∧ Fr n0 L ∧ h = h0) := by
  refine own_enter pn_2 (fun p e s m below meth c s₁ hx hby hml hown hnm hret hlk hZ X0 e0 => ?_)
  have N0 := Fr.nil n0
  rw [ef_rm_holdsElement m _]
  show Go p e below (s₁.setTop (mkF m 0 #[.val (.ref a1)] [])) _
  refine g_aloadN X0 hx (hb hby d7_0) rfl rfl ?_
  obtain ⟨T1, X1, e1, st1⟩ := getF X0 hx hZ hown (host := "") (Or.inl (hw _ (List.mem_of_getElem? (i := 47) rfl))) Via.refl e0 F_a1_holdsElement (g := (mkF m 1 #[.val (.ref a1)] [(.ref a1)])) rfl rfl (hb hby d7_1)
  refine Go.mp st1 ?_
  show Go p e below (T1.setTop (mkF m 4 #[.val (.ref a1)] [(.int i1)])) _
  exact own_retZ X1 hx hret hlk (hb hby d7_4) (by decide) (by decide) (own_bit hz) ⟨by rw [f_holdsElement], N0, e1⟩
theorem pd_2 : parseMethodDescriptor "()Z" = some ⟨[], some FieldType.boolean⟩ := by decide +kernel
theorem pn_3 : plainName "com/example/tektonik/tektonik/schema/ElementTextEndElementPinLaw" = true := by first | (simp [plainName, overriddenIn]; done) | decide +kernel
def f_step_ret (a1 : Addr) (i1 : Int32) (i2 : Int32) (i3 : Int32) : Option Value := (if i3 = (0 : Int32) then (if i1 = (0 : Int32) then some (.int (0 : Int32)) else some (.int (i1 - (1 : Int32)))) else some (.int (i1 + (1 : Int32))))
def f_step_a1_open (a1 : Addr) (i1 : Int32) (i2 : Int32) (i3 : Int32) : Value := (if i3 = (0 : Int32) then (if i1 = (0 : Int32) then (.int i1) else (.int (i1 - (1 : Int32)))) else (.int (i1 + (1 : Int32))))
def f_step_a1_holdsElement (a1 : Addr) (i1 : Int32) (i2 : Int32) (i3 : Int32) : Value := (if i3 = (0 : Int32) then (if i1 = (0 : Int32) then (.int i2) else (.int i2)) else (.int (1 : Int32)))
theorem d5_0 : decode method_2_code 0 = .ok (.iload_n 2, 1) := by decide +kernel
theorem d5_1 : decode method_2_code 1 = .ok (.ifCond .eq 11, 3) := by decide +kernel
theorem d5_4 : decode method_2_code 4 = .ok (.aload_n 0, 1) := by decide +kernel
theorem d5_5 : decode method_2_code 5 = .ok (.invokevirtual 7, 3) := by decide +kernel
theorem d5_8 : decode method_2_code 8 = .ok (.iload_n 1, 1) := by decide +kernel
theorem d5_9 : decode method_2_code 9 = .ok (.iconst 1, 1) := by decide +kernel
theorem d5_10 : decode method_2_code 10 = .ok (.iadd, 1) := by decide +kernel
theorem d5_11 : decode method_2_code 11 = .ok (.ireturn, 1) := by decide +kernel
theorem d5_12 : decode method_2_code 12 = .ok (.aload_n 0, 1) := by decide +kernel
theorem d5_13 : decode method_2_code 13 = .ok (.invokevirtual 12, 3) := by decide +kernel
theorem d5_16 : decode method_2_code 16 = .ok (.istore_n 3, 1) := by decide +kernel
theorem d5_17 : decode method_2_code 17 = .ok (.iload_n 1, 1) := by decide +kernel
theorem d5_18 : decode method_2_code 18 = .ok (.ifCond .ne 7, 3) := by decide +kernel
theorem d5_21 : decode method_2_code 21 = .ok (.iconst 1, 1) := by decide +kernel
theorem d5_22 : decode method_2_code 22 = .ok (.goto 4, 3) := by decide +kernel
theorem d5_25 : decode method_2_code 25 = .ok (.iconst 0, 1) := by decide +kernel
theorem d5_26 : decode method_2_code 26 = .ok (.istore 4, 2) := by decide +kernel
theorem d5_28 : decode method_2_code 28 = .ok (.iload_n 3, 1) := by decide +kernel
theorem d5_29 : decode method_2_code 29 = .ok (.iload 4, 2) := by decide +kernel
theorem d5_31 : decode method_2_code 31 = .ok (.if_icmp .eq 6, 3) := by decide +kernel
theorem d5_37 : decode method_2_code 37 = .ok (.iload_n 1, 1) := by decide +kernel
theorem d5_38 : decode method_2_code 38 = .ok (.ifCond .ne 5, 3) := by decide +kernel
theorem d5_41 : decode method_2_code 41 = .ok (.iconst 0, 1) := by decide +kernel
theorem d5_42 : decode method_2_code 42 = .ok (.ireturn, 1) := by decide +kernel
theorem d5_43 : decode method_2_code 43 = .ok (.iload_n 1, 1) := by decide +kernel
theorem d5_44 : decode method_2_code 44 = .ok (.iconst 1, 1) := by decide +kernel
theorem d5_45 : decode method_2_code 45 = .ok (.isub, 1) := by decide +kernel
theorem d5_46 : decode method_2_code 46 = .ok (.ireturn, 1) := by decide +kernel
theorem ef_rm_step (m : MethodId) (x0 : Addr) (x1 : Int32) (x2 : Int32) : entryFrame m #[(.ref x0), (.int x1), (.int x2)] 5 = mkF m 0 #[.val (.ref x0), .val (.int x1), .val (.int x2), .unset, .unset] [] := by first | (simp [entryFrame, mkF, argsToLocals, Value.category]; done) | rfl
set_option maxRecDepth 65536 in
set_option maxHeartbeats 40000000 in
theorem rm_step (l : Launch) (Z : State) (a0 : Array Value) (hw : ∀ d ∈ tables_1, d.before a0 Z = true) (a1 : Addr) (i1 : Int32) (i2 : Int32) (i3 : Int32) (h0 : Heap) (n0 : Nat) (Z0 : n0 ≤ h0.size) (E_a1 : Exa Z h0 a1 "com/example/tektonik/tektonik/schema/ElementText") (F_a1_open : Fld Z h0 a1 "com/example/tektonik/tektonik/schema/ElementText" "open" "I" (.int i1)) (F_a1_holdsElement : Fld Z h0 a1 "com/example/tektonik/tektonik/schema/ElementText" "holdsElement" "Z" (.int i2)) (g_a1 : n0 ≤ a1) :
    Ctr l (⟨"com/example/tektonik/tektonik/schema/ElementTextEndElementPinLaw", "step", "(Lcom/example/tektonik/tektonik/schema/ElementText;IZ)I"⟩ : MethodName) method_2_code 5 (some FieldType.int) [] ({ frames := 1, cells := 0, slots := 0, locals := 24 } : Room) Z #[(.ref a1), (.int i1), (.int i3)] h0 (fun v h L => v = (f_step_ret a1 i1 i2 i3) ∧ Fr n0 L ∧ Keep h0 h [a1] ∧ Fld Z h a1 "com/example/tektonik/tektonik/schema/ElementText" "open" "I" (f_step_a1_open a1 i1 i2 i3) ∧ Fld Z h a1 "com/example/tektonik/tektonik/schema/ElementText" "holdsElement" "Z" (f_step_a1_holdsElement a1 i1 i2 i3)) := by
  refine own_enter pn_3 (fun p e s m below meth c s₁ hx hby hml hown hnm hret hlk hZ X0 e0 => ?_)
  have N0 := Fr.nil n0
  have K0 := Keep.refl h0 [a1]
  rw [ef_rm_step m _ _ _]
  show Go p e below (s₁.setTop (mkF m 0 #[.val (.ref a1), .val (.int i1), .val (.int i3), .unset, .unset] [])) _
  refine g_iloadN X0 hx (hb hby d5_0) rfl ?_
  by_cases c1_1 : i3 = (0 : Int32)
  · refine g_ifYes X0 hx 12 (hb hby d5_1) ((if0 _ _).trans (teq c1_1).1) (by decide) (by decide) ?_
    refine g_aloadN X0 hx (hb hby d5_12) rfl rfl ?_
    show Go p e below (s₁.setTop (mkF m 13 #[.val (.ref a1), .val (.int i1), .val (.int i3), .unset, .unset] [(.ref a1)])) _
    by_cases c13_2 : i1 = (0 : Int32)
    · obtain ⟨v3, T3, L3, X3, q3, st3⟩ := own_callV X0 hx hZ (y := (⟨"com/example/tektonik/tektonik/schema/ElementText", "endElement", "()Z"⟩ : MethodName)) (pc := 13) (Ls := #[.val (.ref a1), .val (.int i1), .val (.int i3), .unset, .unset]) (st := [(.ref a1)]) hown (hw _ (List.mem_of_getElem? (i := 35) rfl)) (hw _ (List.mem_of_getElem? (i := 36) rfl)) (hw _ (List.mem_of_getElem? (i := 38) rfl)) (hw _ (List.mem_of_getElem? (i := 37) rfl)) (hw _ (List.mem_of_getElem? (i := 39) rfl)) (hw _ (List.mem_of_getElem? (i := 2) rfl)) (by decide) (rm_endElement l Z a0 hw a1 i1 i2 h0 n0 Z0 E_a1 F_a1_open F_a1_holdsElement g_a1) e0 E_a1 pd_2 (hb hby d5_13) (by rw [hml]; rfl) (argsL := []) (rest := []) rfl rfl rfl (W := 0) (Nat.le_of_eq rfl) (by decide) (by decide) (by decide) (by decide)
      obtain ⟨rv3, M3, Kc3, Fk3_0, Fk3_1⟩ := q3
      have N3 := Fr.app N0 M3
      have r3 : (f_endElement_ret a1 i1 i2) = some (.int (1 : Int32)) := by rw [f_endElement_ret, if_pos (c13_2 : i1 = (0 : Int32))]
      rw [r3] at rv3
      subst rv3
      have r3_0 : (f_endElement_a1_open a1 i1 i2) = (.int i1) := by rw [f_endElement_a1_open, if_pos (c13_2 : i1 = (0 : Int32))]
      rw [r3_0] at Fk3_0
      have E_a1_3 := Exa.keep E_a1 Kc3
      have K3 := Keep.trans K0 Kc3 (own_mem1 (Or.inl (List.mem_of_getElem? (i := 0) rfl)))
      have Z3 : n0 ≤ T3.heap.size := Nat.le_trans Z0 Kc3.1
      refine Go.mp st3 ?_
      show Go p e below (T3.setTop (mkF m 16 #[.val (.ref a1), .val (.int i1), .val (.int i3), .unset, .unset] [(.int (1 : Int32))])) _
      refine g_istoreN X3 hx #[.val (.ref a1), .val (.int i1), .val (.int i3), .val (.int (1 : Int32)), .unset] (hb hby d5_16) rfl ?_
      refine g_iloadN X3 hx (hb hby d5_17) rfl ?_
      have c18_4 : i1 = (0 : Int32) := c13_2
      refine g_ifNo X3 hx (hb hby d5_18) ((if0 _ _).trans (teq c18_4).2) ?_
      refine g_iconst X3 hx (1 : Int32) (hb hby d5_21) (by decide) ?_
      refine g_goto X3 hx 26 (hb hby d5_22) (by decide) (by decide) ?_
      refine g_istore X3 hx #[.val (.ref a1), .val (.int i1), .val (.int i3), .val (.int (1 : Int32)), .val (.int (1 : Int32))] (hb hby d5_26) rfl ?_
      refine g_iloadN X3 hx (hb hby d5_28) rfl ?_
      refine g_iload X3 hx (hb hby d5_29) rfl ?_
      refine g_icmpYes X3 hx 37 (hb hby d5_31) (teq ((by decide) : (1 : Int32) = (1 : Int32))).1 (by decide) (by decide) ?_
      refine g_iloadN X3 hx (hb hby d5_37) rfl ?_
      have c38_5 : i1 = (0 : Int32) := c13_2
      refine g_ifNo X3 hx (hb hby d5_38) ((if0 _ _).trans (teq c38_5).2) ?_
      refine g_iconst X3 hx (0 : Int32) (hb hby d5_41) (by decide) ?_
      exact own_retI X3 hx hret hlk (hb hby d5_42) (by decide) (by decide) (by rw [(rfl : T3.heap = T3.heap)]; exact ⟨(by rw [f_step_ret, if_pos c1_1, if_pos c13_2]), N3, K3, (by rw [f_step_a1_open, if_pos c1_1, if_pos c13_2]; exact Fk3_0), (by rw [f_step_a1_holdsElement, if_pos c1_1, if_pos c13_2]; exact Fk3_1)⟩)
    · obtain ⟨v6, T6, L6, X6, q6, st6⟩ := own_callV X0 hx hZ (y := (⟨"com/example/tektonik/tektonik/schema/ElementText", "endElement", "()Z"⟩ : MethodName)) (pc := 13) (Ls := #[.val (.ref a1), .val (.int i1), .val (.int i3), .unset, .unset]) (st := [(.ref a1)]) hown (hw _ (List.mem_of_getElem? (i := 35) rfl)) (hw _ (List.mem_of_getElem? (i := 36) rfl)) (hw _ (List.mem_of_getElem? (i := 38) rfl)) (hw _ (List.mem_of_getElem? (i := 37) rfl)) (hw _ (List.mem_of_getElem? (i := 39) rfl)) (hw _ (List.mem_of_getElem? (i := 2) rfl)) (by decide) (rm_endElement l Z a0 hw a1 i1 i2 h0 n0 Z0 E_a1 F_a1_open F_a1_holdsElement g_a1) e0 E_a1 pd_2 (hb hby d5_13) (by rw [hml]; rfl) (argsL := []) (rest := []) rfl rfl rfl (W := 0) (Nat.le_of_eq rfl) (by decide) (by decide) (by decide) (by decide)
      obtain ⟨rv6, M6, Kc6, Fk6_0, Fk6_1⟩ := q6
      have N6 := Fr.app N0 M6
      have r6 : (f_endElement_ret a1 i1 i2) = some (.int (0 : Int32)) := by rw [f_endElement_ret, if_neg (c13_2 : ¬ (i1 = (0 : Int32)))]
      rw [r6] at rv6
      subst rv6
      have r6_0 : (f_endElement_a1_open a1 i1 i2) = (.int (i1 - (1 : Int32))) := by rw [f_endElement_a1_open, if_neg (c13_2 : ¬ (i1 = (0 : Int32)))]
      rw [r6_0] at Fk6_0
      have E_a1_6 := Exa.keep E_a1 Kc6
      have K6 := Keep.trans K0 Kc6 (own_mem1 (Or.inl (List.mem_of_getElem? (i := 0) rfl)))
      have Z6 : n0 ≤ T6.heap.size := Nat.le_trans Z0 Kc6.1
      refine Go.mp st6 ?_
      show Go p e below (T6.setTop (mkF m 16 #[.val (.ref a1), .val (.int i1), .val (.int i3), .unset, .unset] [(.int (0 : Int32))])) _
      refine g_istoreN X6 hx #[.val (.ref a1), .val (.int i1), .val (.int i3), .val (.int (0 : Int32)), .unset] (hb hby d5_16) rfl ?_
      refine g_iloadN X6 hx (hb hby d5_17) rfl ?_
      have c18_7 : ¬ (i1 = (0 : Int32)) := c13_2
      refine g_ifYes X6 hx 25 (hb hby d5_18) ((if0 _ _).trans (feq c18_7).2) (by decide) (by decide) ?_
      refine g_iconst X6 hx (0 : Int32) (hb hby d5_25) (by decide) ?_
      refine g_istore X6 hx #[.val (.ref a1), .val (.int i1), .val (.int i3), .val (.int (0 : Int32)), .val (.int (0 : Int32))] (hb hby d5_26) rfl ?_
      refine g_iloadN X6 hx (hb hby d5_28) rfl ?_
      refine g_iload X6 hx (hb hby d5_29) rfl ?_
      refine g_icmpYes X6 hx 37 (hb hby d5_31) (teq ((by decide) : (0 : Int32) = (0 : Int32))).1 (by decide) (by decide) ?_
      refine g_iloadN X6 hx (hb hby d5_37) rfl ?_
      have c38_8 : ¬ (i1 = (0 : Int32)) := c13_2
      refine g_ifYes X6 hx 43 (hb hby d5_38) ((if0 _ _).trans (feq c38_8).2) (by decide) (by decide) ?_
      refine g_iloadN X6 hx (hb hby d5_43) rfl ?_
      refine g_iconst X6 hx (1 : Int32) (hb hby d5_44) (by decide) ?_
      refine g_isub X6 hx (hb hby d5_45) ?_
      exact own_retI X6 hx hret hlk (hb hby d5_46) (by decide) (by decide) (by rw [(rfl : T6.heap = T6.heap)]; exact ⟨(by rw [f_step_ret, if_pos c1_1, if_neg c13_2]), N6, K6, (by rw [f_step_a1_open, if_pos c1_1, if_neg c13_2]; exact Fk6_0), (by rw [f_step_a1_holdsElement, if_pos c1_1, if_neg c13_2]; exact Fk6_1)⟩)
  · refine g_ifNo X0 hx (hb hby d5_1) ((if0 _ _).trans (feq c1_1).1) ?_
    refine g_aloadN X0 hx (hb hby d5_4) rfl rfl ?_
    obtain ⟨v9, T9, L9, X9, q9, st9⟩ := own_callV X0 hx hZ (y := (⟨"com/example/tektonik/tektonik/schema/ElementText", "startElement", "()V"⟩ : MethodName)) (pc := 5) (Ls := #[.val (.ref a1), .val (.int i1), .val (.int i3), .unset, .unset]) (st := [(.ref a1)]) hown (hw _ (List.mem_of_getElem? (i := 49) rfl)) (hw _ (List.mem_of_getElem? (i := 50) rfl)) (hw _ (List.mem_of_getElem? (i := 52) rfl)) (hw _ (List.mem_of_getElem? (i := 51) rfl)) (hw _ (List.mem_of_getElem? (i := 53) rfl)) (hw _ (List.mem_of_getElem? (i := 2) rfl)) (by decide) (rm_startElement l Z a0 hw a1 i1 i2 h0 n0 Z0 E_a1 F_a1_open F_a1_holdsElement g_a1) e0 E_a1 pd_1 (hb hby d5_5) (by rw [hml]; rfl) (argsL := []) (rest := []) rfl rfl rfl (W := 0) (Nat.le_of_eq rfl) (by decide) (by decide) (by decide) (by decide)
    obtain ⟨rv9, M9, Kc9, Fk9_0, Fk9_1⟩ := q9
    have N9 := Fr.app N0 M9
    subst rv9
    have E_a1_9 := Exa.keep E_a1 Kc9
    have K9 := Keep.trans K0 Kc9 (own_mem1 (Or.inl (List.mem_of_getElem? (i := 0) rfl)))
    have Z9 : n0 ≤ T9.heap.size := Nat.le_trans Z0 Kc9.1
    refine Go.mp st9 ?_
    show Go p e below (T9.setTop (mkF m 8 #[.val (.ref a1), .val (.int i1), .val (.int i3), .unset, .unset] [])) _
    refine g_iloadN X9 hx (hb hby d5_8) rfl ?_
    refine g_iconst X9 hx (1 : Int32) (hb hby d5_9) (by decide) ?_
    refine g_iadd X9 hx (hb hby d5_10) ?_
    exact own_retI X9 hx hret hlk (hb hby d5_11) (by decide) (by decide) (by rw [(rfl : T9.heap = T9.heap)]; exact ⟨(by rw [f_step_ret, if_neg c1_1]), N9, K9, (by rw [f_step_a1_open, if_neg c1_1]; exact Fk9_0), (by rw [f_step_a1_holdsElement, if_neg c1_1]; exact Fk9_1)⟩)
theorem own_hd_inc {d : Int32} {i : Int} (h : 0 ≤ d.toInt ∧ d.toInt ≤ i) (hi : i < 100) : 0 ≤ (d + (1 : Int32)).toInt ∧ (d + (1 : Int32)).toInt ≤ i + 1 := by
  have := c_iadd d 1; have := rng32 (d + 1); have e : (1 : Int32).toInt = 1 := rfl
  omega
theorem own_hd_dec {d : Int32} {i : Int} (h : 0 ≤ d.toInt ∧ d.toInt ≤ i) (hi : i < 100) (hn : ¬ d = (0 : Int32)) : 0 ≤ (d - (1 : Int32)).toInt ∧ (d - (1 : Int32)).toInt ≤ i + 1 := by
  have := c_isub d 1; have := rng32 (d - 1); have e : (1 : Int32).toInt = 1 := rfl
  have : d.toInt ≠ 0 := fun q => hn (Int32.toInt_inj.mp q)
  omega
theorem own_or0 (x m b : Int32) : x &&& (m ||| b) = 0 ↔ (x &&& m = 0 ∧ x &&& b = 0) := by
  simp only [← Int32.toBitVec_inj, Int32.toBitVec_and, Int32.toBitVec_or]
  show x.toBitVec &&& (m.toBitVec ||| b.toBitVec) = 0#32 ↔ x.toBitVec &&& m.toBitVec = 0#32 ∧ x.toBitVec &&& b.toBitVec = 0#32
  constructor
  · intro h
    constructor <;> (apply BitVec.eq_of_getLsbD_eq; intro i hi; have := congrArg (fun v => v.getLsbD i) h; simp only [BitVec.getLsbD_and, BitVec.getLsbD_or] at this ⊢; cases h1 : x.toBitVec.getLsbD i <;> cases h2 : m.toBitVec.getLsbD i <;> cases h3 : b.toBitVec.getLsbD i <;> simp_all)
  · rintro ⟨h1, h2⟩
    apply BitVec.eq_of_getLsbD_eq; intro i hi
    have a := congrArg (fun v => v.getLsbD i) h1; have b := congrArg (fun v => v.getLsbD i) h2
    simp only [BitVec.getLsbD_and, BitVec.getLsbD_or] at a b ⊢; simp_all
def own_R (x m y : Int32) : Prop := (y = 0 ∧ x &&& m = 0) ∨ (y = 1 ∧ ¬ (x &&& m = 0))
theorem own_R_set {x m b y k : Int32} (h : own_R x m y) (hk : m ||| b = k) (hb : ¬ (x &&& b = 0)) : own_R x k 1 := Or.inr ⟨rfl, fun q => hb ((own_or0 x m b).mp (hk ▸ q)).2⟩
theorem own_R_not {x m b y k : Int32} (h : own_R x m y) (hk : m ||| b = k) (hb : x &&& b = 0) : own_R x k y := by
  subst hk
  rcases h with ⟨h1, h2⟩ | ⟨h1, h2⟩
  · exact Or.inl ⟨h1, (own_or0 x m b).mpr ⟨h2, hb⟩⟩
  · exact Or.inr ⟨h1, fun q => h2 ((own_or0 x m b).mp q).1⟩
theorem own_R_bit {x m y : Int32} (h : own_R x m y) : y = 0 ∨ y = 1 := h.imp And.left And.left
set_option maxRecDepth 65536 in
set_option maxHeartbeats 40000000 in
theorem seg_8 (l : Launch) (Z : State) (a0 : Array Value) (hw : ∀ d ∈ tables_1, d.before a0 Z = true) (p1 : Int32) (a1 : Addr) (d : Int32) (y : Int32) (h0 : Heap) (n0 : Nat) (Z0 : n0 ≤ h0.size) (E_a1 : Exa Z h0 a1 "com/example/tektonik/tektonik/schema/ElementText") (F_a1_open : Fld Z h0 a1 "com/example/tektonik/tektonik/schema/ElementText" "open" "I" (.int d)) (F_a1_holdsElement : Fld Z h0 a1 "com/example/tektonik/tektonik/schema/ElementText" "holdsElement" "Z" (.int y)) (g_a1 : n0 ≤ a1) (hd : 0 ≤ d.toInt ∧ d.toInt ≤ 8) (hy : own_R p1 (255 : Int32) y) {p : Program} {e : Env} {s : State} {m : MethodId} {below : List Frame} {meth : Method} {c : Code} {args : Array Value} {s₁ : State} {lo : List Loc} (hx : p.tables.exec = Jvm.exec) (hby : c.code = code) (hml : c.maxLocals = maxLocals) (hown : s.vm.findClass "com/example/tektonik/tektonik/schema/ElementTextEndElementPinLaw" = some m.cls) (hnm : meth.name = "law") (hret : meth.sig.returnType = ret) (hlk : meth.locks = false) (hZ : Z.Warmed39 s.vm) (X0 : Stand p l e room_1 s m args below meth c s₁ lo 3 23) (e0 : s₁.heap = h0) (N0 : Fr n0 lo) :
    Go p e below (s₁.setTop (mkF m 152 #[.val (.int p1), .val (.ref a1), .val (.int d), .unset] [])) (FinE s room_1.cells room_1.slots (fun v h L => v = some (.int 1) ∧ Fr n0 L)) := by
  show Go p e below (s₁.setTop (mkF m 152 #[.val (.int p1), .val (.ref a1), .val (.int d), .unset] [])) _
  refine g_iloadN X0 hx (hb hby at_152) rfl ?_
  refine g_sipush X0 hx (255 : Int32) (hb hby at_153) (by decide) ?_
  refine g_iand X0 hx (hb hby at_156) ?_
  by_cases c157_1 : (p1 &&& (255 : Int32)) = (0 : Int32)
  · refine g_ifYes X0 hx 164 (hb hby at_157) ((if0 _ _).trans (teq c157_1).1) (by decide) (by decide) ?_
    refine g_iconst X0 hx (0 : Int32) (hb hby at_164) (by decide) ?_
    refine g_istoreN X0 hx #[.val (.int p1), .val (.ref a1), .val (.int d), .val (.int (0 : Int32))] (hb hby at_165) rfl ?_
    refine g_iloadN X0 hx (hb hby at_166) rfl ?_
    have c167_2 : ¬ (d < (0 : Int32)) := by
      rw [Int32.lt_iff_toInt_lt]; have e : (0 : Int32).toInt = 0 := rfl; omega
    refine g_ifNo X0 hx (hb hby at_167) ((if0 _ _).trans (flt c167_2).1) ?_
    refine g_aloadN X0 hx (hb hby at_170) rfl rfl ?_
    obtain ⟨v3, T3, L3, X3, q3, st3⟩ := own_callV X0 hx hZ (y := (⟨"com/example/tektonik/tektonik/schema/ElementText", "holdsElement", "()Z"⟩ : MethodName)) (pc := 171) (Ls := #[.val (.int p1), .val (.ref a1), .val (.int d), .val (.int (0 : Int32))]) (st := [(.ref a1)]) hown (hw _ (List.mem_of_getElem? (i := 42) rfl)) (hw _ (List.mem_of_getElem? (i := 43) rfl)) (hw _ (List.mem_of_getElem? (i := 45) rfl)) (hw _ (List.mem_of_getElem? (i := 44) rfl)) (hw _ (List.mem_of_getElem? (i := 46) rfl)) (hw _ (List.mem_of_getElem? (i := 2) rfl)) (by decide) (rm_holdsElement l Z a0 hw a1 y h0 n0 Z0 F_a1_holdsElement (own_R_bit hy)) e0 E_a1 pd_2 (hb hby at_171) (by rw [hml]; rfl) (argsL := []) (rest := []) rfl rfl rfl (W := 0) (Nat.le_of_eq rfl) (by decide) (by decide) (by decide) (by decide)
    obtain ⟨rfl, M3, e3⟩ := q3
    have N3 := Fr.app N0 M3
    refine Go.mp st3 ?_
    show Go p e below (T3.setTop (mkF m 174 #[.val (.int p1), .val (.ref a1), .val (.int d), .val (.int (0 : Int32))] [(.int (f_holdsElement a1 y))])) _
    refine g_iloadN X3 hx (hb hby at_174) rfl ?_
    have c175_4 : (f_holdsElement a1 y) = (0 : Int32) := by
      show y = _; rcases hy with ⟨q1, q2⟩ | ⟨q1, q2⟩ <;> first | exact q1 | exact absurd q2 (by assumption) | exact absurd (by assumption) q2
    refine g_icmpNo X3 hx (hb hby at_175) (teq c175_4).2 ?_
    refine g_iconst X3 hx (1 : Int32) (hb hby at_178) (by decide) ?_
    refine g_goto X3 hx 183 (hb hby at_179) (by decide) (by decide) ?_
    exact own_retZ X3 hx hret hlk (hb hby at_183) (by decide) (by decide) (by decide) ⟨rfl, N3⟩
  · refine g_ifNo X0 hx (hb hby at_157) ((if0 _ _).trans (feq c157_1).1) ?_
    refine g_iconst X0 hx (1 : Int32) (hb hby at_160) (by decide) ?_
    refine g_goto X0 hx 165 (hb hby at_161) (by decide) (by decide) ?_
    refine g_istoreN X0 hx #[.val (.int p1), .val (.ref a1), .val (.int d), .val (.int (1 : Int32))] (hb hby at_165) rfl ?_
    refine g_iloadN X0 hx (hb hby at_166) rfl ?_
    have c167_5 : ¬ (d < (0 : Int32)) := by
      rw [Int32.lt_iff_toInt_lt]; have e : (0 : Int32).toInt = 0 := rfl; omega
    refine g_ifNo X0 hx (hb hby at_167) ((if0 _ _).trans (flt c167_5).1) ?_
    refine g_aloadN X0 hx (hb hby at_170) rfl rfl ?_
    obtain ⟨v6, T6, L6, X6, q6, st6⟩ := own_callV X0 hx hZ (y := (⟨"com/example/tektonik/tektonik/schema/ElementText", "holdsElement", "()Z"⟩ : MethodName)) (pc := 171) (Ls := #[.val (.int p1), .val (.ref a1), .val (.int d), .val (.int (1 : Int32))]) (st := [(.ref a1)]) hown (hw _ (List.mem_of_getElem? (i := 42) rfl)) (hw _ (List.mem_of_getElem? (i := 43) rfl)) (hw _ (List.mem_of_getElem? (i := 45) rfl)) (hw _ (List.mem_of_getElem? (i := 44) rfl)) (hw _ (List.mem_of_getElem? (i := 46) rfl)) (hw _ (List.mem_of_getElem? (i := 2) rfl)) (by decide) (rm_holdsElement l Z a0 hw a1 y h0 n0 Z0 F_a1_holdsElement (own_R_bit hy)) e0 E_a1 pd_2 (hb hby at_171) (by rw [hml]; rfl) (argsL := []) (rest := []) rfl rfl rfl (W := 0) (Nat.le_of_eq rfl) (by decide) (by decide) (by decide) (by decide)
    obtain ⟨rfl, M6, e6⟩ := q6
    have N6 := Fr.app N0 M6
    refine Go.mp st6 ?_
    show Go p e below (T6.setTop (mkF m 174 #[.val (.int p1), .val (.ref a1), .val (.int d), .val (.int (1 : Int32))] [(.int (f_holdsElement a1 y))])) _
    refine g_iloadN X6 hx (hb hby at_174) rfl ?_
    have c175_7 : (f_holdsElement a1 y) = (1 : Int32) := by
      show y = _; rcases hy with ⟨q1, q2⟩ | ⟨q1, q2⟩ <;> first | exact q1 | exact absurd q2 (by assumption) | exact absurd (by assumption) q2
    refine g_icmpNo X6 hx (hb hby at_175) (teq c175_7).2 ?_
    refine g_iconst X6 hx (1 : Int32) (hb hby at_178) (by decide) ?_
    refine g_goto X6 hx 183 (hb hby at_179) (by decide) (by decide) ?_
    exact own_retZ X6 hx hret hlk (hb hby at_183) (by decide) (by decide) (by decide) ⟨rfl, N6⟩
theorem pd_3 : parseMethodDescriptor "(Lcom/example/tektonik/tektonik/schema/ElementText;IZ)I" = some ⟨[(FieldType.object "com/example/tektonik/tektonik/schema/ElementText"), FieldType.int, FieldType.boolean], some FieldType.int⟩ := by decide +kernel
set_option maxRecDepth 65536 in
set_option maxHeartbeats 40000000 in
theorem seg_7 (l : Launch) (Z : State) (a0 : Array Value) (hw : ∀ d ∈ tables_1, d.before a0 Z = true) (p1 : Int32) (a1 : Addr) (d : Int32) (y : Int32) (h0 : Heap) (n0 : Nat) (Z0 : n0 ≤ h0.size) (E_a1 : Exa Z h0 a1 "com/example/tektonik/tektonik/schema/ElementText") (F_a1_open : Fld Z h0 a1 "com/example/tektonik/tektonik/schema/ElementText" "open" "I" (.int d)) (F_a1_holdsElement : Fld Z h0 a1 "com/example/tektonik/tektonik/schema/ElementText" "holdsElement" "Z" (.int y)) (g_a1 : n0 ≤ a1) (hd : 0 ≤ d.toInt ∧ d.toInt ≤ 7) (hy : own_R p1 (127 : Int32) y) {p : Program} {e : Env} {s : State} {m : MethodId} {below : List Frame} {meth : Method} {c : Code} {args : Array Value} {s₁ : State} {lo : List Loc} (hx : p.tables.exec = Jvm.exec) (hby : c.code = code) (hml : c.maxLocals = maxLocals) (hown : s.vm.findClass "com/example/tektonik/tektonik/schema/ElementTextEndElementPinLaw" = some m.cls) (hnm : meth.name = "law") (hret : meth.sig.returnType = ret) (hlk : meth.locks = false) (hZ : Z.Warmed39 s.vm) (X0 : Stand p l e room_1 s m args below meth c s₁ lo 3 23) (e0 : s₁.heap = h0) (N0 : Fr n0 lo) :
    Go p e below (s₁.setTop (mkF m 133 #[.val (.int p1), .val (.ref a1), .val (.int d), .unset] [])) (FinE s room_1.cells room_1.slots (fun v h L => v = some (.int 1) ∧ Fr n0 L)) := by
  show Go p e below (s₁.setTop (mkF m 133 #[.val (.int p1), .val (.ref a1), .val (.int d), .unset] [])) _
  refine g_aloadN X0 hx (hb hby at_133) rfl rfl ?_
  refine g_iloadN X0 hx (hb hby at_134) rfl ?_
  refine g_iloadN X0 hx (hb hby at_135) rfl ?_
  refine g_sipush X0 hx (128 : Int32) (hb hby at_136) (by decide) ?_
  refine g_iand X0 hx (hb hby at_139) ?_
  by_cases c140_1 : (p1 &&& (128 : Int32)) = (0 : Int32)
  · refine g_ifYes X0 hx 147 (hb hby at_140) ((if0 _ _).trans (teq c140_1).1) (by decide) (by decide) ?_
    refine g_iconst X0 hx (0 : Int32) (hb hby at_147) (by decide) ?_
    show Go p e below (s₁.setTop (mkF m 148 #[.val (.int p1), .val (.ref a1), .val (.int d), .unset] [(.int (0 : Int32)), (.int d), (.ref a1)])) _
    by_cases c148_2 : d = (0 : Int32)
    · subst c148_2
      obtain ⟨v3, T3, L3, X3, q3, st3⟩ := own_callS X0 hx hZ (y := (⟨"com/example/tektonik/tektonik/schema/ElementTextEndElementPinLaw", "step", "(Lcom/example/tektonik/tektonik/schema/ElementText;IZ)I"⟩ : MethodName)) (pc := 148) (Ls := #[.val (.int p1), .val (.ref a1), .val (.int (0 : Int32)), .unset]) (st := [(.int (0 : Int32)), (.int (0 : Int32)), (.ref a1)]) hown (hw _ (List.mem_of_getElem? (i := 31) rfl)) (hw _ (List.mem_of_getElem? (i := 32) rfl)) (hw _ (List.mem_of_getElem? (i := 33) rfl)) (hw _ (List.mem_of_getElem? (i := 34) rfl)) (by decide) (rm_step l Z a0 hw a1 (0 : Int32) y (0 : Int32) h0 n0 Z0 E_a1 F_a1_open F_a1_holdsElement g_a1) e0 pd_3 (hb hby at_148) (by rw [hml]; rfl) (argsL := [(.ref a1), (.int (0 : Int32)), (.int (0 : Int32))]) (rest := []) rfl rfl rfl (W := 0) (Nat.le_of_eq rfl) (by decide) (by decide) (by decide) (by decide)
      obtain ⟨rv3, M3, Kc3, Fk3_0, Fk3_1⟩ := q3
      have N3 := Fr.app N0 M3
      have r3 : (f_step_ret a1 (0 : Int32) y (0 : Int32)) = some (.int (0 : Int32)) := by rw [f_step_ret, if_pos ((by decide) : (0 : Int32) = (0 : Int32)), if_pos ((by decide) : (0 : Int32) = (0 : Int32))]
      rw [r3] at rv3
      subst rv3
      have r3_0 : (f_step_a1_open a1 (0 : Int32) y (0 : Int32)) = (.int (0 : Int32)) := by rw [f_step_a1_open, if_pos ((by decide) : (0 : Int32) = (0 : Int32)), if_pos ((by decide) : (0 : Int32) = (0 : Int32))]
      rw [r3_0] at Fk3_0
      have r3_1 : (f_step_a1_holdsElement a1 (0 : Int32) y (0 : Int32)) = (.int y) := by rw [f_step_a1_holdsElement, if_pos ((by decide) : (0 : Int32) = (0 : Int32)), if_pos ((by decide) : (0 : Int32) = (0 : Int32))]
      rw [r3_1] at Fk3_1
      have E_a1_3 := Exa.keep E_a1 Kc3
      have Z3 : n0 ≤ T3.heap.size := Nat.le_trans Z0 Kc3.1
      refine Go.mp st3 ?_
      show Go p e below (T3.setTop (mkF m 151 #[.val (.int p1), .val (.ref a1), .val (.int (0 : Int32)), .unset] [(.int (0 : Int32))])) _
      refine g_istoreN X3 hx #[.val (.int p1), .val (.ref a1), .val (.int (0 : Int32)), .unset] (hb hby at_151) rfl ?_
      show Go p e below (T3.setTop (mkF m 152 #[.val (.int p1), .val (.ref a1), .val (.int (0 : Int32)), .unset] [])) _
      exact seg_8 l Z a0 hw p1 a1 (0 : Int32) y T3.heap n0 Z3 E_a1_3 Fk3_0 Fk3_1 g_a1 (by decide) (own_R_not hy (by decide) c140_1) hx hby hml hown hnm hret hlk hZ X3 (rfl : T3.heap = T3.heap) N3
    · obtain ⟨v4, T4, L4, X4, q4, st4⟩ := own_callS X0 hx hZ (y := (⟨"com/example/tektonik/tektonik/schema/ElementTextEndElementPinLaw", "step", "(Lcom/example/tektonik/tektonik/schema/ElementText;IZ)I"⟩ : MethodName)) (pc := 148) (Ls := #[.val (.int p1), .val (.ref a1), .val (.int d), .unset]) (st := [(.int (0 : Int32)), (.int d), (.ref a1)]) hown (hw _ (List.mem_of_getElem? (i := 31) rfl)) (hw _ (List.mem_of_getElem? (i := 32) rfl)) (hw _ (List.mem_of_getElem? (i := 33) rfl)) (hw _ (List.mem_of_getElem? (i := 34) rfl)) (by decide) (rm_step l Z a0 hw a1 d y (0 : Int32) h0 n0 Z0 E_a1 F_a1_open F_a1_holdsElement g_a1) e0 pd_3 (hb hby at_148) (by rw [hml]; rfl) (argsL := [(.ref a1), (.int d), (.int (0 : Int32))]) (rest := []) rfl rfl rfl (W := 0) (Nat.le_of_eq rfl) (by decide) (by decide) (by decide) (by decide)
      obtain ⟨rv4, M4, Kc4, Fk4_0, Fk4_1⟩ := q4
      have N4 := Fr.app N0 M4
      have r4 : (f_step_ret a1 d y (0 : Int32)) = some (.int (d - (1 : Int32))) := by rw [f_step_ret, if_pos ((by decide) : (0 : Int32) = (0 : Int32)), if_neg (c148_2 : ¬ (d = (0 : Int32)))]
      rw [r4] at rv4
      subst rv4
      have r4_0 : (f_step_a1_open a1 d y (0 : Int32)) = (.int (d - (1 : Int32))) := by rw [f_step_a1_open, if_pos ((by decide) : (0 : Int32) = (0 : Int32)), if_neg (c148_2 : ¬ (d = (0 : Int32)))]
      rw [r4_0] at Fk4_0
      have r4_1 : (f_step_a1_holdsElement a1 d y (0 : Int32)) = (.int y) := by rw [f_step_a1_holdsElement, if_pos ((by decide) : (0 : Int32) = (0 : Int32)), if_neg (c148_2 : ¬ (d = (0 : Int32)))]
      rw [r4_1] at Fk4_1
      have E_a1_4 := Exa.keep E_a1 Kc4
      have Z4 : n0 ≤ T4.heap.size := Nat.le_trans Z0 Kc4.1
      refine Go.mp st4 ?_
      show Go p e below (T4.setTop (mkF m 151 #[.val (.int p1), .val (.ref a1), .val (.int d), .unset] [(.int (d - (1 : Int32)))])) _
      refine g_istoreN X4 hx #[.val (.int p1), .val (.ref a1), .val (.int (d - (1 : Int32))), .unset] (hb hby at_151) rfl ?_
      show Go p e below (T4.setTop (mkF m 152 #[.val (.int p1), .val (.ref a1), .val (.int (d - (1 : Int32))), .unset] [])) _
      exact seg_8 l Z a0 hw p1 a1 (d - (1 : Int32)) y T4.heap n0 Z4 E_a1_4 Fk4_0 Fk4_1 g_a1 (own_hd_dec hd (by decide) c148_2) (own_R_not hy (by decide) c140_1) hx hby hml hown hnm hret hlk hZ X4 (rfl : T4.heap = T4.heap) N4
  · refine g_ifNo X0 hx (hb hby at_140) ((if0 _ _).trans (feq c140_1).1) ?_
    refine g_iconst X0 hx (1 : Int32) (hb hby at_143) (by decide) ?_
    refine g_goto X0 hx 148 (hb hby at_144) (by decide) (by decide) ?_
    show Go p e below (s₁.setTop (mkF m 148 #[.val (.int p1), .val (.ref a1), .val (.int d), .unset] [(.int (1 : Int32)), (.int d), (.ref a1)])) _
    obtain ⟨v5, T5, L5, X5, q5, st5⟩ := own_callS X0 hx hZ (y := (⟨"com/example/tektonik/tektonik/schema/ElementTextEndElementPinLaw", "step", "(Lcom/example/tektonik/tektonik/schema/ElementText;IZ)I"⟩ : MethodName)) (pc := 148) (Ls := #[.val (.int p1), .val (.ref a1), .val (.int d), .unset]) (st := [(.int (1 : Int32)), (.int d), (.ref a1)]) hown (hw _ (List.mem_of_getElem? (i := 31) rfl)) (hw _ (List.mem_of_getElem? (i := 32) rfl)) (hw _ (List.mem_of_getElem? (i := 33) rfl)) (hw _ (List.mem_of_getElem? (i := 34) rfl)) (by decide) (rm_step l Z a0 hw a1 d y (1 : Int32) h0 n0 Z0 E_a1 F_a1_open F_a1_holdsElement g_a1) e0 pd_3 (hb hby at_148) (by rw [hml]; rfl) (argsL := [(.ref a1), (.int d), (.int (1 : Int32))]) (rest := []) rfl rfl rfl (W := 0) (Nat.le_of_eq rfl) (by decide) (by decide) (by decide) (by decide)
    obtain ⟨rv5, M5, Kc5, Fk5_0, Fk5_1⟩ := q5
    have N5 := Fr.app N0 M5
    have r5 : (f_step_ret a1 d y (1 : Int32)) = some (.int (d + (1 : Int32))) := by rw [f_step_ret, if_neg ((by decide) : ¬ ((1 : Int32) = (0 : Int32)))]
    rw [r5] at rv5
    subst rv5
    have r5_0 : (f_step_a1_open a1 d y (1 : Int32)) = (.int (d + (1 : Int32))) := by rw [f_step_a1_open, if_neg ((by decide) : ¬ ((1 : Int32) = (0 : Int32)))]
    rw [r5_0] at Fk5_0
    have r5_1 : (f_step_a1_holdsElement a1 d y (1 : Int32)) = (.int (1 : Int32)) := by rw [f_step_a1_holdsElement, if_neg ((by decide) : ¬ ((1 : Int32) = (0 : Int32)))]
    rw [r5_1] at Fk5_1
    have E_a1_5 := Exa.keep E_a1 Kc5
    have Z5 : n0 ≤ T5.heap.size := Nat.le_trans Z0 Kc5.1
    refine Go.mp st5 ?_
    show Go p e below (T5.setTop (mkF m 151 #[.val (.int p1), .val (.ref a1), .val (.int d), .unset] [(.int (d + (1 : Int32)))])) _
    refine g_istoreN X5 hx #[.val (.int p1), .val (.ref a1), .val (.int (d + (1 : Int32))), .unset] (hb hby at_151) rfl ?_
    show Go p e below (T5.setTop (mkF m 152 #[.val (.int p1), .val (.ref a1), .val (.int (d + (1 : Int32))), .unset] [])) _
    exact seg_8 l Z a0 hw p1 a1 (d + (1 : Int32)) (1 : Int32) T5.heap n0 Z5 E_a1_5 Fk5_0 Fk5_1 g_a1 (own_hd_inc hd (by decide)) (own_R_set hy (by decide) c140_1) hx hby hml hown hnm hret hlk hZ X5 (rfl : T5.heap = T5.heap) N5
set_option maxRecDepth 65536 in
set_option maxHeartbeats 40000000 in
theorem seg_6 (l : Launch) (Z : State) (a0 : Array Value) (hw : ∀ d ∈ tables_1, d.before a0 Z = true) (p1 : Int32) (a1 : Addr) (d : Int32) (y : Int32) (h0 : Heap) (n0 : Nat) (Z0 : n0 ≤ h0.size) (E_a1 : Exa Z h0 a1 "com/example/tektonik/tektonik/schema/ElementText") (F_a1_open : Fld Z h0 a1 "com/example/tektonik/tektonik/schema/ElementText" "open" "I" (.int d)) (F_a1_holdsElement : Fld Z h0 a1 "com/example/tektonik/tektonik/schema/ElementText" "holdsElement" "Z" (.int y)) (g_a1 : n0 ≤ a1) (hd : 0 ≤ d.toInt ∧ d.toInt ≤ 6) (hy : own_R p1 (63 : Int32) y) {p : Program} {e : Env} {s : State} {m : MethodId} {below : List Frame} {meth : Method} {c : Code} {args : Array Value} {s₁ : State} {lo : List Loc} (hx : p.tables.exec = Jvm.exec) (hby : c.code = code) (hml : c.maxLocals = maxLocals) (hown : s.vm.findClass "com/example/tektonik/tektonik/schema/ElementTextEndElementPinLaw" = some m.cls) (hnm : meth.name = "law") (hret : meth.sig.returnType = ret) (hlk : meth.locks = false) (hZ : Z.Warmed39 s.vm) (X0 : Stand p l e room_1 s m args below meth c s₁ lo 3 23) (e0 : s₁.heap = h0) (N0 : Fr n0 lo) :
    Go p e below (s₁.setTop (mkF m 115 #[.val (.int p1), .val (.ref a1), .val (.int d), .unset] [])) (FinE s room_1.cells room_1.slots (fun v h L => v = some (.int 1) ∧ Fr n0 L)) := by
  show Go p e below (s₁.setTop (mkF m 115 #[.val (.int p1), .val (.ref a1), .val (.int d), .unset] [])) _
  refine g_aloadN X0 hx (hb hby at_115) rfl rfl ?_
  refine g_iloadN X0 hx (hb hby at_116) rfl ?_
  refine g_iloadN X0 hx (hb hby at_117) rfl ?_
  refine g_bipush X0 hx (64 : Int32) (hb hby at_118) (by decide) ?_
  refine g_iand X0 hx (hb hby at_120) ?_
  by_cases c121_1 : (p1 &&& (64 : Int32)) = (0 : Int32)
  · refine g_ifYes X0 hx 128 (hb hby at_121) ((if0 _ _).trans (teq c121_1).1) (by decide) (by decide) ?_
    refine g_iconst X0 hx (0 : Int32) (hb hby at_128) (by decide) ?_
    show Go p e below (s₁.setTop (mkF m 129 #[.val (.int p1), .val (.ref a1), .val (.int d), .unset] [(.int (0 : Int32)), (.int d), (.ref a1)])) _
    by_cases c129_2 : d = (0 : Int32)
    · subst c129_2
      obtain ⟨v3, T3, L3, X3, q3, st3⟩ := own_callS X0 hx hZ (y := (⟨"com/example/tektonik/tektonik/schema/ElementTextEndElementPinLaw", "step", "(Lcom/example/tektonik/tektonik/schema/ElementText;IZ)I"⟩ : MethodName)) (pc := 129) (Ls := #[.val (.int p1), .val (.ref a1), .val (.int (0 : Int32)), .unset]) (st := [(.int (0 : Int32)), (.int (0 : Int32)), (.ref a1)]) hown (hw _ (List.mem_of_getElem? (i := 31) rfl)) (hw _ (List.mem_of_getElem? (i := 32) rfl)) (hw _ (List.mem_of_getElem? (i := 33) rfl)) (hw _ (List.mem_of_getElem? (i := 34) rfl)) (by decide) (rm_step l Z a0 hw a1 (0 : Int32) y (0 : Int32) h0 n0 Z0 E_a1 F_a1_open F_a1_holdsElement g_a1) e0 pd_3 (hb hby at_129) (by rw [hml]; rfl) (argsL := [(.ref a1), (.int (0 : Int32)), (.int (0 : Int32))]) (rest := []) rfl rfl rfl (W := 0) (Nat.le_of_eq rfl) (by decide) (by decide) (by decide) (by decide)
      obtain ⟨rv3, M3, Kc3, Fk3_0, Fk3_1⟩ := q3
      have N3 := Fr.app N0 M3
      have r3 : (f_step_ret a1 (0 : Int32) y (0 : Int32)) = some (.int (0 : Int32)) := by rw [f_step_ret, if_pos ((by decide) : (0 : Int32) = (0 : Int32)), if_pos ((by decide) : (0 : Int32) = (0 : Int32))]
      rw [r3] at rv3
      subst rv3
      have r3_0 : (f_step_a1_open a1 (0 : Int32) y (0 : Int32)) = (.int (0 : Int32)) := by rw [f_step_a1_open, if_pos ((by decide) : (0 : Int32) = (0 : Int32)), if_pos ((by decide) : (0 : Int32) = (0 : Int32))]
      rw [r3_0] at Fk3_0
      have r3_1 : (f_step_a1_holdsElement a1 (0 : Int32) y (0 : Int32)) = (.int y) := by rw [f_step_a1_holdsElement, if_pos ((by decide) : (0 : Int32) = (0 : Int32)), if_pos ((by decide) : (0 : Int32) = (0 : Int32))]
      rw [r3_1] at Fk3_1
      have E_a1_3 := Exa.keep E_a1 Kc3
      have Z3 : n0 ≤ T3.heap.size := Nat.le_trans Z0 Kc3.1
      refine Go.mp st3 ?_
      show Go p e below (T3.setTop (mkF m 132 #[.val (.int p1), .val (.ref a1), .val (.int (0 : Int32)), .unset] [(.int (0 : Int32))])) _
      refine g_istoreN X3 hx #[.val (.int p1), .val (.ref a1), .val (.int (0 : Int32)), .unset] (hb hby at_132) rfl ?_
      show Go p e below (T3.setTop (mkF m 133 #[.val (.int p1), .val (.ref a1), .val (.int (0 : Int32)), .unset] [])) _
      exact seg_7 l Z a0 hw p1 a1 (0 : Int32) y T3.heap n0 Z3 E_a1_3 Fk3_0 Fk3_1 g_a1 (by decide) (own_R_not hy (by decide) c121_1) hx hby hml hown hnm hret hlk hZ X3 (rfl : T3.heap = T3.heap) N3
    · obtain ⟨v4, T4, L4, X4, q4, st4⟩ := own_callS X0 hx hZ (y := (⟨"com/example/tektonik/tektonik/schema/ElementTextEndElementPinLaw", "step", "(Lcom/example/tektonik/tektonik/schema/ElementText;IZ)I"⟩ : MethodName)) (pc := 129) (Ls := #[.val (.int p1), .val (.ref a1), .val (.int d), .unset]) (st := [(.int (0 : Int32)), (.int d), (.ref a1)]) hown (hw _ (List.mem_of_getElem? (i := 31) rfl)) (hw _ (List.mem_of_getElem? (i := 32) rfl)) (hw _ (List.mem_of_getElem? (i := 33) rfl)) (hw _ (List.mem_of_getElem? (i := 34) rfl)) (by decide) (rm_step l Z a0 hw a1 d y (0 : Int32) h0 n0 Z0 E_a1 F_a1_open F_a1_holdsElement g_a1) e0 pd_3 (hb hby at_129) (by rw [hml]; rfl) (argsL := [(.ref a1), (.int d), (.int (0 : Int32))]) (rest := []) rfl rfl rfl (W := 0) (Nat.le_of_eq rfl) (by decide) (by decide) (by decide) (by decide)
      obtain ⟨rv4, M4, Kc4, Fk4_0, Fk4_1⟩ := q4
      have N4 := Fr.app N0 M4
      have r4 : (f_step_ret a1 d y (0 : Int32)) = some (.int (d - (1 : Int32))) := by rw [f_step_ret, if_pos ((by decide) : (0 : Int32) = (0 : Int32)), if_neg (c129_2 : ¬ (d = (0 : Int32)))]
      rw [r4] at rv4
      subst rv4
      have r4_0 : (f_step_a1_open a1 d y (0 : Int32)) = (.int (d - (1 : Int32))) := by rw [f_step_a1_open, if_pos ((by decide) : (0 : Int32) = (0 : Int32)), if_neg (c129_2 : ¬ (d = (0 : Int32)))]
      rw [r4_0] at Fk4_0
      have r4_1 : (f_step_a1_holdsElement a1 d y (0 : Int32)) = (.int y) := by rw [f_step_a1_holdsElement, if_pos ((by decide) : (0 : Int32) = (0 : Int32)), if_neg (c129_2 : ¬ (d = (0 : Int32)))]
      rw [r4_1] at Fk4_1
      have E_a1_4 := Exa.keep E_a1 Kc4
      have Z4 : n0 ≤ T4.heap.size := Nat.le_trans Z0 Kc4.1
      refine Go.mp st4 ?_
      show Go p e below (T4.setTop (mkF m 132 #[.val (.int p1), .val (.ref a1), .val (.int d), .unset] [(.int (d - (1 : Int32)))])) _
      refine g_istoreN X4 hx #[.val (.int p1), .val (.ref a1), .val (.int (d - (1 : Int32))), .unset] (hb hby at_132) rfl ?_
      show Go p e below (T4.setTop (mkF m 133 #[.val (.int p1), .val (.ref a1), .val (.int (d - (1 : Int32))), .unset] [])) _
      exact seg_7 l Z a0 hw p1 a1 (d - (1 : Int32)) y T4.heap n0 Z4 E_a1_4 Fk4_0 Fk4_1 g_a1 (own_hd_dec hd (by decide) c129_2) (own_R_not hy (by decide) c121_1) hx hby hml hown hnm hret hlk hZ X4 (rfl : T4.heap = T4.heap) N4
  · refine g_ifNo X0 hx (hb hby at_121) ((if0 _ _).trans (feq c121_1).1) ?_
    refine g_iconst X0 hx (1 : Int32) (hb hby at_124) (by decide) ?_
    refine g_goto X0 hx 129 (hb hby at_125) (by decide) (by decide) ?_
    show Go p e below (s₁.setTop (mkF m 129 #[.val (.int p1), .val (.ref a1), .val (.int d), .unset] [(.int (1 : Int32)), (.int d), (.ref a1)])) _
    obtain ⟨v5, T5, L5, X5, q5, st5⟩ := own_callS X0 hx hZ (y := (⟨"com/example/tektonik/tektonik/schema/ElementTextEndElementPinLaw", "step", "(Lcom/example/tektonik/tektonik/schema/ElementText;IZ)I"⟩ : MethodName)) (pc := 129) (Ls := #[.val (.int p1), .val (.ref a1), .val (.int d), .unset]) (st := [(.int (1 : Int32)), (.int d), (.ref a1)]) hown (hw _ (List.mem_of_getElem? (i := 31) rfl)) (hw _ (List.mem_of_getElem? (i := 32) rfl)) (hw _ (List.mem_of_getElem? (i := 33) rfl)) (hw _ (List.mem_of_getElem? (i := 34) rfl)) (by decide) (rm_step l Z a0 hw a1 d y (1 : Int32) h0 n0 Z0 E_a1 F_a1_open F_a1_holdsElement g_a1) e0 pd_3 (hb hby at_129) (by rw [hml]; rfl) (argsL := [(.ref a1), (.int d), (.int (1 : Int32))]) (rest := []) rfl rfl rfl (W := 0) (Nat.le_of_eq rfl) (by decide) (by decide) (by decide) (by decide)
    obtain ⟨rv5, M5, Kc5, Fk5_0, Fk5_1⟩ := q5
    have N5 := Fr.app N0 M5
    have r5 : (f_step_ret a1 d y (1 : Int32)) = some (.int (d + (1 : Int32))) := by rw [f_step_ret, if_neg ((by decide) : ¬ ((1 : Int32) = (0 : Int32)))]
    rw [r5] at rv5
    subst rv5
    have r5_0 : (f_step_a1_open a1 d y (1 : Int32)) = (.int (d + (1 : Int32))) := by rw [f_step_a1_open, if_neg ((by decide) : ¬ ((1 : Int32) = (0 : Int32)))]
    rw [r5_0] at Fk5_0
    have r5_1 : (f_step_a1_holdsElement a1 d y (1 : Int32)) = (.int (1 : Int32)) := by rw [f_step_a1_holdsElement, if_neg ((by decide) : ¬ ((1 : Int32) = (0 : Int32)))]
    rw [r5_1] at Fk5_1
    have E_a1_5 := Exa.keep E_a1 Kc5
    have Z5 : n0 ≤ T5.heap.size := Nat.le_trans Z0 Kc5.1
    refine Go.mp st5 ?_
    show Go p e below (T5.setTop (mkF m 132 #[.val (.int p1), .val (.ref a1), .val (.int d), .unset] [(.int (d + (1 : Int32)))])) _
    refine g_istoreN X5 hx #[.val (.int p1), .val (.ref a1), .val (.int (d + (1 : Int32))), .unset] (hb hby at_132) rfl ?_
    show Go p e below (T5.setTop (mkF m 133 #[.val (.int p1), .val (.ref a1), .val (.int (d + (1 : Int32))), .unset] [])) _
    exact seg_7 l Z a0 hw p1 a1 (d + (1 : Int32)) (1 : Int32) T5.heap n0 Z5 E_a1_5 Fk5_0 Fk5_1 g_a1 (own_hd_inc hd (by decide)) (own_R_set hy (by decide) c121_1) hx hby hml hown hnm hret hlk hZ X5 (rfl : T5.heap = T5.heap) N5
set_option maxRecDepth 65536 in
set_option maxHeartbeats 40000000 in
theorem seg_5 (l : Launch) (Z : State) (a0 : Array Value) (hw : ∀ d ∈ tables_1, d.before a0 Z = true) (p1 : Int32) (a1 : Addr) (d : Int32) (y : Int32) (h0 : Heap) (n0 : Nat) (Z0 : n0 ≤ h0.size) (E_a1 : Exa Z h0 a1 "com/example/tektonik/tektonik/schema/ElementText") (F_a1_open : Fld Z h0 a1 "com/example/tektonik/tektonik/schema/ElementText" "open" "I" (.int d)) (F_a1_holdsElement : Fld Z h0 a1 "com/example/tektonik/tektonik/schema/ElementText" "holdsElement" "Z" (.int y)) (g_a1 : n0 ≤ a1) (hd : 0 ≤ d.toInt ∧ d.toInt ≤ 5) (hy : own_R p1 (31 : Int32) y) {p : Program} {e : Env} {s : State} {m : MethodId} {below : List Frame} {meth : Method} {c : Code} {args : Array Value} {s₁ : State} {lo : List Loc} (hx : p.tables.exec = Jvm.exec) (hby : c.code = code) (hml : c.maxLocals = maxLocals) (hown : s.vm.findClass "com/example/tektonik/tektonik/schema/ElementTextEndElementPinLaw" = some m.cls) (hnm : meth.name = "law") (hret : meth.sig.returnType = ret) (hlk : meth.locks = false) (hZ : Z.Warmed39 s.vm) (X0 : Stand p l e room_1 s m args below meth c s₁ lo 3 23) (e0 : s₁.heap = h0) (N0 : Fr n0 lo) :
    Go p e below (s₁.setTop (mkF m 97 #[.val (.int p1), .val (.ref a1), .val (.int d), .unset] [])) (FinE s room_1.cells room_1.slots (fun v h L => v = some (.int 1) ∧ Fr n0 L)) := by
  show Go p e below (s₁.setTop (mkF m 97 #[.val (.int p1), .val (.ref a1), .val (.int d), .unset] [])) _
  refine g_aloadN X0 hx (hb hby at_97) rfl rfl ?_
  refine g_iloadN X0 hx (hb hby at_98) rfl ?_
  refine g_iloadN X0 hx (hb hby at_99) rfl ?_
  refine g_bipush X0 hx (32 : Int32) (hb hby at_100) (by decide) ?_
  refine g_iand X0 hx (hb hby at_102) ?_
  by_cases c103_1 : (p1 &&& (32 : Int32)) = (0 : Int32)
  · refine g_ifYes X0 hx 110 (hb hby at_103) ((if0 _ _).trans (teq c103_1).1) (by decide) (by decide) ?_
    refine g_iconst X0 hx (0 : Int32) (hb hby at_110) (by decide) ?_
    show Go p e below (s₁.setTop (mkF m 111 #[.val (.int p1), .val (.ref a1), .val (.int d), .unset] [(.int (0 : Int32)), (.int d), (.ref a1)])) _
    by_cases c111_2 : d = (0 : Int32)
    · subst c111_2
      obtain ⟨v3, T3, L3, X3, q3, st3⟩ := own_callS X0 hx hZ (y := (⟨"com/example/tektonik/tektonik/schema/ElementTextEndElementPinLaw", "step", "(Lcom/example/tektonik/tektonik/schema/ElementText;IZ)I"⟩ : MethodName)) (pc := 111) (Ls := #[.val (.int p1), .val (.ref a1), .val (.int (0 : Int32)), .unset]) (st := [(.int (0 : Int32)), (.int (0 : Int32)), (.ref a1)]) hown (hw _ (List.mem_of_getElem? (i := 31) rfl)) (hw _ (List.mem_of_getElem? (i := 32) rfl)) (hw _ (List.mem_of_getElem? (i := 33) rfl)) (hw _ (List.mem_of_getElem? (i := 34) rfl)) (by decide) (rm_step l Z a0 hw a1 (0 : Int32) y (0 : Int32) h0 n0 Z0 E_a1 F_a1_open F_a1_holdsElement g_a1) e0 pd_3 (hb hby at_111) (by rw [hml]; rfl) (argsL := [(.ref a1), (.int (0 : Int32)), (.int (0 : Int32))]) (rest := []) rfl rfl rfl (W := 0) (Nat.le_of_eq rfl) (by decide) (by decide) (by decide) (by decide)
      obtain ⟨rv3, M3, Kc3, Fk3_0, Fk3_1⟩ := q3
      have N3 := Fr.app N0 M3
      have r3 : (f_step_ret a1 (0 : Int32) y (0 : Int32)) = some (.int (0 : Int32)) := by rw [f_step_ret, if_pos ((by decide) : (0 : Int32) = (0 : Int32)), if_pos ((by decide) : (0 : Int32) = (0 : Int32))]
      rw [r3] at rv3
      subst rv3
      have r3_0 : (f_step_a1_open a1 (0 : Int32) y (0 : Int32)) = (.int (0 : Int32)) := by rw [f_step_a1_open, if_pos ((by decide) : (0 : Int32) = (0 : Int32)), if_pos ((by decide) : (0 : Int32) = (0 : Int32))]
      rw [r3_0] at Fk3_0
      have r3_1 : (f_step_a1_holdsElement a1 (0 : Int32) y (0 : Int32)) = (.int y) := by rw [f_step_a1_holdsElement, if_pos ((by decide) : (0 : Int32) = (0 : Int32)), if_pos ((by decide) : (0 : Int32) = (0 : Int32))]
      rw [r3_1] at Fk3_1
      have E_a1_3 := Exa.keep E_a1 Kc3
      have Z3 : n0 ≤ T3.heap.size := Nat.le_trans Z0 Kc3.1
      refine Go.mp st3 ?_
      show Go p e below (T3.setTop (mkF m 114 #[.val (.int p1), .val (.ref a1), .val (.int (0 : Int32)), .unset] [(.int (0 : Int32))])) _
      refine g_istoreN X3 hx #[.val (.int p1), .val (.ref a1), .val (.int (0 : Int32)), .unset] (hb hby at_114) rfl ?_
      show Go p e below (T3.setTop (mkF m 115 #[.val (.int p1), .val (.ref a1), .val (.int (0 : Int32)), .unset] [])) _
      exact seg_6 l Z a0 hw p1 a1 (0 : Int32) y T3.heap n0 Z3 E_a1_3 Fk3_0 Fk3_1 g_a1 (by decide) (own_R_not hy (by decide) c103_1) hx hby hml hown hnm hret hlk hZ X3 (rfl : T3.heap = T3.heap) N3
    · obtain ⟨v4, T4, L4, X4, q4, st4⟩ := own_callS X0 hx hZ (y := (⟨"com/example/tektonik/tektonik/schema/ElementTextEndElementPinLaw", "step", "(Lcom/example/tektonik/tektonik/schema/ElementText;IZ)I"⟩ : MethodName)) (pc := 111) (Ls := #[.val (.int p1), .val (.ref a1), .val (.int d), .unset]) (st := [(.int (0 : Int32)), (.int d), (.ref a1)]) hown (hw _ (List.mem_of_getElem? (i := 31) rfl)) (hw _ (List.mem_of_getElem? (i := 32) rfl)) (hw _ (List.mem_of_getElem? (i := 33) rfl)) (hw _ (List.mem_of_getElem? (i := 34) rfl)) (by decide) (rm_step l Z a0 hw a1 d y (0 : Int32) h0 n0 Z0 E_a1 F_a1_open F_a1_holdsElement g_a1) e0 pd_3 (hb hby at_111) (by rw [hml]; rfl) (argsL := [(.ref a1), (.int d), (.int (0 : Int32))]) (rest := []) rfl rfl rfl (W := 0) (Nat.le_of_eq rfl) (by decide) (by decide) (by decide) (by decide)
      obtain ⟨rv4, M4, Kc4, Fk4_0, Fk4_1⟩ := q4
      have N4 := Fr.app N0 M4
      have r4 : (f_step_ret a1 d y (0 : Int32)) = some (.int (d - (1 : Int32))) := by rw [f_step_ret, if_pos ((by decide) : (0 : Int32) = (0 : Int32)), if_neg (c111_2 : ¬ (d = (0 : Int32)))]
      rw [r4] at rv4
      subst rv4
      have r4_0 : (f_step_a1_open a1 d y (0 : Int32)) = (.int (d - (1 : Int32))) := by rw [f_step_a1_open, if_pos ((by decide) : (0 : Int32) = (0 : Int32)), if_neg (c111_2 : ¬ (d = (0 : Int32)))]
      rw [r4_0] at Fk4_0
      have r4_1 : (f_step_a1_holdsElement a1 d y (0 : Int32)) = (.int y) := by rw [f_step_a1_holdsElement, if_pos ((by decide) : (0 : Int32) = (0 : Int32)), if_neg (c111_2 : ¬ (d = (0 : Int32)))]
      rw [r4_1] at Fk4_1
      have E_a1_4 := Exa.keep E_a1 Kc4
      have Z4 : n0 ≤ T4.heap.size := Nat.le_trans Z0 Kc4.1
      refine Go.mp st4 ?_
      show Go p e below (T4.setTop (mkF m 114 #[.val (.int p1), .val (.ref a1), .val (.int d), .unset] [(.int (d - (1 : Int32)))])) _
      refine g_istoreN X4 hx #[.val (.int p1), .val (.ref a1), .val (.int (d - (1 : Int32))), .unset] (hb hby at_114) rfl ?_
      show Go p e below (T4.setTop (mkF m 115 #[.val (.int p1), .val (.ref a1), .val (.int (d - (1 : Int32))), .unset] [])) _
      exact seg_6 l Z a0 hw p1 a1 (d - (1 : Int32)) y T4.heap n0 Z4 E_a1_4 Fk4_0 Fk4_1 g_a1 (own_hd_dec hd (by decide) c111_2) (own_R_not hy (by decide) c103_1) hx hby hml hown hnm hret hlk hZ X4 (rfl : T4.heap = T4.heap) N4
  · refine g_ifNo X0 hx (hb hby at_103) ((if0 _ _).trans (feq c103_1).1) ?_
    refine g_iconst X0 hx (1 : Int32) (hb hby at_106) (by decide) ?_
    refine g_goto X0 hx 111 (hb hby at_107) (by decide) (by decide) ?_
    show Go p e below (s₁.setTop (mkF m 111 #[.val (.int p1), .val (.ref a1), .val (.int d), .unset] [(.int (1 : Int32)), (.int d), (.ref a1)])) _
    obtain ⟨v5, T5, L5, X5, q5, st5⟩ := own_callS X0 hx hZ (y := (⟨"com/example/tektonik/tektonik/schema/ElementTextEndElementPinLaw", "step", "(Lcom/example/tektonik/tektonik/schema/ElementText;IZ)I"⟩ : MethodName)) (pc := 111) (Ls := #[.val (.int p1), .val (.ref a1), .val (.int d), .unset]) (st := [(.int (1 : Int32)), (.int d), (.ref a1)]) hown (hw _ (List.mem_of_getElem? (i := 31) rfl)) (hw _ (List.mem_of_getElem? (i := 32) rfl)) (hw _ (List.mem_of_getElem? (i := 33) rfl)) (hw _ (List.mem_of_getElem? (i := 34) rfl)) (by decide) (rm_step l Z a0 hw a1 d y (1 : Int32) h0 n0 Z0 E_a1 F_a1_open F_a1_holdsElement g_a1) e0 pd_3 (hb hby at_111) (by rw [hml]; rfl) (argsL := [(.ref a1), (.int d), (.int (1 : Int32))]) (rest := []) rfl rfl rfl (W := 0) (Nat.le_of_eq rfl) (by decide) (by decide) (by decide) (by decide)
    obtain ⟨rv5, M5, Kc5, Fk5_0, Fk5_1⟩ := q5
    have N5 := Fr.app N0 M5
    have r5 : (f_step_ret a1 d y (1 : Int32)) = some (.int (d + (1 : Int32))) := by rw [f_step_ret, if_neg ((by decide) : ¬ ((1 : Int32) = (0 : Int32)))]
    rw [r5] at rv5
    subst rv5
    have r5_0 : (f_step_a1_open a1 d y (1 : Int32)) = (.int (d + (1 : Int32))) := by rw [f_step_a1_open, if_neg ((by decide) : ¬ ((1 : Int32) = (0 : Int32)))]
    rw [r5_0] at Fk5_0
    have r5_1 : (f_step_a1_holdsElement a1 d y (1 : Int32)) = (.int (1 : Int32)) := by rw [f_step_a1_holdsElement, if_neg ((by decide) : ¬ ((1 : Int32) = (0 : Int32)))]
    rw [r5_1] at Fk5_1
    have E_a1_5 := Exa.keep E_a1 Kc5
    have Z5 : n0 ≤ T5.heap.size := Nat.le_trans Z0 Kc5.1
    refine Go.mp st5 ?_
    show Go p e below (T5.setTop (mkF m 114 #[.val (.int p1), .val (.ref a1), .val (.int d), .unset] [(.int (d + (1 : Int32)))])) _
    refine g_istoreN X5 hx #[.val (.int p1), .val (.ref a1), .val (.int (d + (1 : Int32))), .unset] (hb hby at_114) rfl ?_
    show Go p e below (T5.setTop (mkF m 115 #[.val (.int p1), .val (.ref a1), .val (.int (d + (1 : Int32))), .unset] [])) _
    exact seg_6 l Z a0 hw p1 a1 (d + (1 : Int32)) (1 : Int32) T5.heap n0 Z5 E_a1_5 Fk5_0 Fk5_1 g_a1 (own_hd_inc hd (by decide)) (own_R_set hy (by decide) c103_1) hx hby hml hown hnm hret hlk hZ X5 (rfl : T5.heap = T5.heap) N5
set_option maxRecDepth 65536 in
set_option maxHeartbeats 40000000 in
theorem seg_4 (l : Launch) (Z : State) (a0 : Array Value) (hw : ∀ d ∈ tables_1, d.before a0 Z = true) (p1 : Int32) (a1 : Addr) (d : Int32) (y : Int32) (h0 : Heap) (n0 : Nat) (Z0 : n0 ≤ h0.size) (E_a1 : Exa Z h0 a1 "com/example/tektonik/tektonik/schema/ElementText") (F_a1_open : Fld Z h0 a1 "com/example/tektonik/tektonik/schema/ElementText" "open" "I" (.int d)) (F_a1_holdsElement : Fld Z h0 a1 "com/example/tektonik/tektonik/schema/ElementText" "holdsElement" "Z" (.int y)) (g_a1 : n0 ≤ a1) (hd : 0 ≤ d.toInt ∧ d.toInt ≤ 4) (hy : own_R p1 (15 : Int32) y) {p : Program} {e : Env} {s : State} {m : MethodId} {below : List Frame} {meth : Method} {c : Code} {args : Array Value} {s₁ : State} {lo : List Loc} (hx : p.tables.exec = Jvm.exec) (hby : c.code = code) (hml : c.maxLocals = maxLocals) (hown : s.vm.findClass "com/example/tektonik/tektonik/schema/ElementTextEndElementPinLaw" = some m.cls) (hnm : meth.name = "law") (hret : meth.sig.returnType = ret) (hlk : meth.locks = false) (hZ : Z.Warmed39 s.vm) (X0 : Stand p l e room_1 s m args below meth c s₁ lo 3 23) (e0 : s₁.heap = h0) (N0 : Fr n0 lo) :
    Go p e below (s₁.setTop (mkF m 79 #[.val (.int p1), .val (.ref a1), .val (.int d), .unset] [])) (FinE s room_1.cells room_1.slots (fun v h L => v = some (.int 1) ∧ Fr n0 L)) := by
  show Go p e below (s₁.setTop (mkF m 79 #[.val (.int p1), .val (.ref a1), .val (.int d), .unset] [])) _
  refine g_aloadN X0 hx (hb hby at_79) rfl rfl ?_
  refine g_iloadN X0 hx (hb hby at_80) rfl ?_
  refine g_iloadN X0 hx (hb hby at_81) rfl ?_
  refine g_bipush X0 hx (16 : Int32) (hb hby at_82) (by decide) ?_
  refine g_iand X0 hx (hb hby at_84) ?_
  by_cases c85_1 : (p1 &&& (16 : Int32)) = (0 : Int32)
  · refine g_ifYes X0 hx 92 (hb hby at_85) ((if0 _ _).trans (teq c85_1).1) (by decide) (by decide) ?_
    refine g_iconst X0 hx (0 : Int32) (hb hby at_92) (by decide) ?_
    show Go p e below (s₁.setTop (mkF m 93 #[.val (.int p1), .val (.ref a1), .val (.int d), .unset] [(.int (0 : Int32)), (.int d), (.ref a1)])) _
    by_cases c93_2 : d = (0 : Int32)
    · subst c93_2
      obtain ⟨v3, T3, L3, X3, q3, st3⟩ := own_callS X0 hx hZ (y := (⟨"com/example/tektonik/tektonik/schema/ElementTextEndElementPinLaw", "step", "(Lcom/example/tektonik/tektonik/schema/ElementText;IZ)I"⟩ : MethodName)) (pc := 93) (Ls := #[.val (.int p1), .val (.ref a1), .val (.int (0 : Int32)), .unset]) (st := [(.int (0 : Int32)), (.int (0 : Int32)), (.ref a1)]) hown (hw _ (List.mem_of_getElem? (i := 31) rfl)) (hw _ (List.mem_of_getElem? (i := 32) rfl)) (hw _ (List.mem_of_getElem? (i := 33) rfl)) (hw _ (List.mem_of_getElem? (i := 34) rfl)) (by decide) (rm_step l Z a0 hw a1 (0 : Int32) y (0 : Int32) h0 n0 Z0 E_a1 F_a1_open F_a1_holdsElement g_a1) e0 pd_3 (hb hby at_93) (by rw [hml]; rfl) (argsL := [(.ref a1), (.int (0 : Int32)), (.int (0 : Int32))]) (rest := []) rfl rfl rfl (W := 0) (Nat.le_of_eq rfl) (by decide) (by decide) (by decide) (by decide)
      obtain ⟨rv3, M3, Kc3, Fk3_0, Fk3_1⟩ := q3
      have N3 := Fr.app N0 M3
      have r3 : (f_step_ret a1 (0 : Int32) y (0 : Int32)) = some (.int (0 : Int32)) := by rw [f_step_ret, if_pos ((by decide) : (0 : Int32) = (0 : Int32)), if_pos ((by decide) : (0 : Int32) = (0 : Int32))]
      rw [r3] at rv3
      subst rv3
      have r3_0 : (f_step_a1_open a1 (0 : Int32) y (0 : Int32)) = (.int (0 : Int32)) := by rw [f_step_a1_open, if_pos ((by decide) : (0 : Int32) = (0 : Int32)), if_pos ((by decide) : (0 : Int32) = (0 : Int32))]
      rw [r3_0] at Fk3_0
      have r3_1 : (f_step_a1_holdsElement a1 (0 : Int32) y (0 : Int32)) = (.int y) := by rw [f_step_a1_holdsElement, if_pos ((by decide) : (0 : Int32) = (0 : Int32)), if_pos ((by decide) : (0 : Int32) = (0 : Int32))]
      rw [r3_1] at Fk3_1
      have E_a1_3 := Exa.keep E_a1 Kc3
      have Z3 : n0 ≤ T3.heap.size := Nat.le_trans Z0 Kc3.1
      refine Go.mp st3 ?_
      show Go p e below (T3.setTop (mkF m 96 #[.val (.int p1), .val (.ref a1), .val (.int (0 : Int32)), .unset] [(.int (0 : Int32))])) _
      refine g_istoreN X3 hx #[.val (.int p1), .val (.ref a1), .val (.int (0 : Int32)), .unset] (hb hby at_96) rfl ?_
      show Go p e below (T3.setTop (mkF m 97 #[.val (.int p1), .val (.ref a1), .val (.int (0 : Int32)), .unset] [])) _
      exact seg_5 l Z a0 hw p1 a1 (0 : Int32) y T3.heap n0 Z3 E_a1_3 Fk3_0 Fk3_1 g_a1 (by decide) (own_R_not hy (by decide) c85_1) hx hby hml hown hnm hret hlk hZ X3 (rfl : T3.heap = T3.heap) N3
    · obtain ⟨v4, T4, L4, X4, q4, st4⟩ := own_callS X0 hx hZ (y := (⟨"com/example/tektonik/tektonik/schema/ElementTextEndElementPinLaw", "step", "(Lcom/example/tektonik/tektonik/schema/ElementText;IZ)I"⟩ : MethodName)) (pc := 93) (Ls := #[.val (.int p1), .val (.ref a1), .val (.int d), .unset]) (st := [(.int (0 : Int32)), (.int d), (.ref a1)]) hown (hw _ (List.mem_of_getElem? (i := 31) rfl)) (hw _ (List.mem_of_getElem? (i := 32) rfl)) (hw _ (List.mem_of_getElem? (i := 33) rfl)) (hw _ (List.mem_of_getElem? (i := 34) rfl)) (by decide) (rm_step l Z a0 hw a1 d y (0 : Int32) h0 n0 Z0 E_a1 F_a1_open F_a1_holdsElement g_a1) e0 pd_3 (hb hby at_93) (by rw [hml]; rfl) (argsL := [(.ref a1), (.int d), (.int (0 : Int32))]) (rest := []) rfl rfl rfl (W := 0) (Nat.le_of_eq rfl) (by decide) (by decide) (by decide) (by decide)
      obtain ⟨rv4, M4, Kc4, Fk4_0, Fk4_1⟩ := q4
      have N4 := Fr.app N0 M4
      have r4 : (f_step_ret a1 d y (0 : Int32)) = some (.int (d - (1 : Int32))) := by rw [f_step_ret, if_pos ((by decide) : (0 : Int32) = (0 : Int32)), if_neg (c93_2 : ¬ (d = (0 : Int32)))]
      rw [r4] at rv4
      subst rv4
      have r4_0 : (f_step_a1_open a1 d y (0 : Int32)) = (.int (d - (1 : Int32))) := by rw [f_step_a1_open, if_pos ((by decide) : (0 : Int32) = (0 : Int32)), if_neg (c93_2 : ¬ (d = (0 : Int32)))]
      rw [r4_0] at Fk4_0
      have r4_1 : (f_step_a1_holdsElement a1 d y (0 : Int32)) = (.int y) := by rw [f_step_a1_holdsElement, if_pos ((by decide) : (0 : Int32) = (0 : Int32)), if_neg (c93_2 : ¬ (d = (0 : Int32)))]
      rw [r4_1] at Fk4_1
      have E_a1_4 := Exa.keep E_a1 Kc4
      have Z4 : n0 ≤ T4.heap.size := Nat.le_trans Z0 Kc4.1
      refine Go.mp st4 ?_
      show Go p e below (T4.setTop (mkF m 96 #[.val (.int p1), .val (.ref a1), .val (.int d), .unset] [(.int (d - (1 : Int32)))])) _
      refine g_istoreN X4 hx #[.val (.int p1), .val (.ref a1), .val (.int (d - (1 : Int32))), .unset] (hb hby at_96) rfl ?_
      show Go p e below (T4.setTop (mkF m 97 #[.val (.int p1), .val (.ref a1), .val (.int (d - (1 : Int32))), .unset] [])) _
      exact seg_5 l Z a0 hw p1 a1 (d - (1 : Int32)) y T4.heap n0 Z4 E_a1_4 Fk4_0 Fk4_1 g_a1 (own_hd_dec hd (by decide) c93_2) (own_R_not hy (by decide) c85_1) hx hby hml hown hnm hret hlk hZ X4 (rfl : T4.heap = T4.heap) N4
  · refine g_ifNo X0 hx (hb hby at_85) ((if0 _ _).trans (feq c85_1).1) ?_
    refine g_iconst X0 hx (1 : Int32) (hb hby at_88) (by decide) ?_
    refine g_goto X0 hx 93 (hb hby at_89) (by decide) (by decide) ?_
    show Go p e below (s₁.setTop (mkF m 93 #[.val (.int p1), .val (.ref a1), .val (.int d), .unset] [(.int (1 : Int32)), (.int d), (.ref a1)])) _
    obtain ⟨v5, T5, L5, X5, q5, st5⟩ := own_callS X0 hx hZ (y := (⟨"com/example/tektonik/tektonik/schema/ElementTextEndElementPinLaw", "step", "(Lcom/example/tektonik/tektonik/schema/ElementText;IZ)I"⟩ : MethodName)) (pc := 93) (Ls := #[.val (.int p1), .val (.ref a1), .val (.int d), .unset]) (st := [(.int (1 : Int32)), (.int d), (.ref a1)]) hown (hw _ (List.mem_of_getElem? (i := 31) rfl)) (hw _ (List.mem_of_getElem? (i := 32) rfl)) (hw _ (List.mem_of_getElem? (i := 33) rfl)) (hw _ (List.mem_of_getElem? (i := 34) rfl)) (by decide) (rm_step l Z a0 hw a1 d y (1 : Int32) h0 n0 Z0 E_a1 F_a1_open F_a1_holdsElement g_a1) e0 pd_3 (hb hby at_93) (by rw [hml]; rfl) (argsL := [(.ref a1), (.int d), (.int (1 : Int32))]) (rest := []) rfl rfl rfl (W := 0) (Nat.le_of_eq rfl) (by decide) (by decide) (by decide) (by decide)
    obtain ⟨rv5, M5, Kc5, Fk5_0, Fk5_1⟩ := q5
    have N5 := Fr.app N0 M5
    have r5 : (f_step_ret a1 d y (1 : Int32)) = some (.int (d + (1 : Int32))) := by rw [f_step_ret, if_neg ((by decide) : ¬ ((1 : Int32) = (0 : Int32)))]
    rw [r5] at rv5
    subst rv5
    have r5_0 : (f_step_a1_open a1 d y (1 : Int32)) = (.int (d + (1 : Int32))) := by rw [f_step_a1_open, if_neg ((by decide) : ¬ ((1 : Int32) = (0 : Int32)))]
    rw [r5_0] at Fk5_0
    have r5_1 : (f_step_a1_holdsElement a1 d y (1 : Int32)) = (.int (1 : Int32)) := by rw [f_step_a1_holdsElement, if_neg ((by decide) : ¬ ((1 : Int32) = (0 : Int32)))]
    rw [r5_1] at Fk5_1
    have E_a1_5 := Exa.keep E_a1 Kc5
    have Z5 : n0 ≤ T5.heap.size := Nat.le_trans Z0 Kc5.1
    refine Go.mp st5 ?_
    show Go p e below (T5.setTop (mkF m 96 #[.val (.int p1), .val (.ref a1), .val (.int d), .unset] [(.int (d + (1 : Int32)))])) _
    refine g_istoreN X5 hx #[.val (.int p1), .val (.ref a1), .val (.int (d + (1 : Int32))), .unset] (hb hby at_96) rfl ?_
    show Go p e below (T5.setTop (mkF m 97 #[.val (.int p1), .val (.ref a1), .val (.int (d + (1 : Int32))), .unset] [])) _
    exact seg_5 l Z a0 hw p1 a1 (d + (1 : Int32)) (1 : Int32) T5.heap n0 Z5 E_a1_5 Fk5_0 Fk5_1 g_a1 (own_hd_inc hd (by decide)) (own_R_set hy (by decide) c85_1) hx hby hml hown hnm hret hlk hZ X5 (rfl : T5.heap = T5.heap) N5
set_option maxRecDepth 65536 in
set_option maxHeartbeats 40000000 in
theorem seg_3 (l : Launch) (Z : State) (a0 : Array Value) (hw : ∀ d ∈ tables_1, d.before a0 Z = true) (p1 : Int32) (a1 : Addr) (d : Int32) (y : Int32) (h0 : Heap) (n0 : Nat) (Z0 : n0 ≤ h0.size) (E_a1 : Exa Z h0 a1 "com/example/tektonik/tektonik/schema/ElementText") (F_a1_open : Fld Z h0 a1 "com/example/tektonik/tektonik/schema/ElementText" "open" "I" (.int d)) (F_a1_holdsElement : Fld Z h0 a1 "com/example/tektonik/tektonik/schema/ElementText" "holdsElement" "Z" (.int y)) (g_a1 : n0 ≤ a1) (hd : 0 ≤ d.toInt ∧ d.toInt ≤ 3) (hy : own_R p1 (7 : Int32) y) {p : Program} {e : Env} {s : State} {m : MethodId} {below : List Frame} {meth : Method} {c : Code} {args : Array Value} {s₁ : State} {lo : List Loc} (hx : p.tables.exec = Jvm.exec) (hby : c.code = code) (hml : c.maxLocals = maxLocals) (hown : s.vm.findClass "com/example/tektonik/tektonik/schema/ElementTextEndElementPinLaw" = some m.cls) (hnm : meth.name = "law") (hret : meth.sig.returnType = ret) (hlk : meth.locks = false) (hZ : Z.Warmed39 s.vm) (X0 : Stand p l e room_1 s m args below meth c s₁ lo 3 23) (e0 : s₁.heap = h0) (N0 : Fr n0 lo) :
    Go p e below (s₁.setTop (mkF m 61 #[.val (.int p1), .val (.ref a1), .val (.int d), .unset] [])) (FinE s room_1.cells room_1.slots (fun v h L => v = some (.int 1) ∧ Fr n0 L)) := by
  show Go p e below (s₁.setTop (mkF m 61 #[.val (.int p1), .val (.ref a1), .val (.int d), .unset] [])) _
  refine g_aloadN X0 hx (hb hby at_61) rfl rfl ?_
  refine g_iloadN X0 hx (hb hby at_62) rfl ?_
  refine g_iloadN X0 hx (hb hby at_63) rfl ?_
  refine g_bipush X0 hx (8 : Int32) (hb hby at_64) (by decide) ?_
  refine g_iand X0 hx (hb hby at_66) ?_
  by_cases c67_1 : (p1 &&& (8 : Int32)) = (0 : Int32)
  · refine g_ifYes X0 hx 74 (hb hby at_67) ((if0 _ _).trans (teq c67_1).1) (by decide) (by decide) ?_
    refine g_iconst X0 hx (0 : Int32) (hb hby at_74) (by decide) ?_
    show Go p e below (s₁.setTop (mkF m 75 #[.val (.int p1), .val (.ref a1), .val (.int d), .unset] [(.int (0 : Int32)), (.int d), (.ref a1)])) _
    by_cases c75_2 : d = (0 : Int32)
    · subst c75_2
      obtain ⟨v3, T3, L3, X3, q3, st3⟩ := own_callS X0 hx hZ (y := (⟨"com/example/tektonik/tektonik/schema/ElementTextEndElementPinLaw", "step", "(Lcom/example/tektonik/tektonik/schema/ElementText;IZ)I"⟩ : MethodName)) (pc := 75) (Ls := #[.val (.int p1), .val (.ref a1), .val (.int (0 : Int32)), .unset]) (st := [(.int (0 : Int32)), (.int (0 : Int32)), (.ref a1)]) hown (hw _ (List.mem_of_getElem? (i := 31) rfl)) (hw _ (List.mem_of_getElem? (i := 32) rfl)) (hw _ (List.mem_of_getElem? (i := 33) rfl)) (hw _ (List.mem_of_getElem? (i := 34) rfl)) (by decide) (rm_step l Z a0 hw a1 (0 : Int32) y (0 : Int32) h0 n0 Z0 E_a1 F_a1_open F_a1_holdsElement g_a1) e0 pd_3 (hb hby at_75) (by rw [hml]; rfl) (argsL := [(.ref a1), (.int (0 : Int32)), (.int (0 : Int32))]) (rest := []) rfl rfl rfl (W := 0) (Nat.le_of_eq rfl) (by decide) (by decide) (by decide) (by decide)
      obtain ⟨rv3, M3, Kc3, Fk3_0, Fk3_1⟩ := q3
      have N3 := Fr.app N0 M3
      have r3 : (f_step_ret a1 (0 : Int32) y (0 : Int32)) = some (.int (0 : Int32)) := by rw [f_step_ret, if_pos ((by decide) : (0 : Int32) = (0 : Int32)), if_pos ((by decide) : (0 : Int32) = (0 : Int32))]
      rw [r3] at rv3
      subst rv3
      have r3_0 : (f_step_a1_open a1 (0 : Int32) y (0 : Int32)) = (.int (0 : Int32)) := by rw [f_step_a1_open, if_pos ((by decide) : (0 : Int32) = (0 : Int32)), if_pos ((by decide) : (0 : Int32) = (0 : Int32))]
      rw [r3_0] at Fk3_0
      have r3_1 : (f_step_a1_holdsElement a1 (0 : Int32) y (0 : Int32)) = (.int y) := by rw [f_step_a1_holdsElement, if_pos ((by decide) : (0 : Int32) = (0 : Int32)), if_pos ((by decide) : (0 : Int32) = (0 : Int32))]
      rw [r3_1] at Fk3_1
      have E_a1_3 := Exa.keep E_a1 Kc3
      have Z3 : n0 ≤ T3.heap.size := Nat.le_trans Z0 Kc3.1
      refine Go.mp st3 ?_
      show Go p e below (T3.setTop (mkF m 78 #[.val (.int p1), .val (.ref a1), .val (.int (0 : Int32)), .unset] [(.int (0 : Int32))])) _
      refine g_istoreN X3 hx #[.val (.int p1), .val (.ref a1), .val (.int (0 : Int32)), .unset] (hb hby at_78) rfl ?_
      show Go p e below (T3.setTop (mkF m 79 #[.val (.int p1), .val (.ref a1), .val (.int (0 : Int32)), .unset] [])) _
      exact seg_4 l Z a0 hw p1 a1 (0 : Int32) y T3.heap n0 Z3 E_a1_3 Fk3_0 Fk3_1 g_a1 (by decide) (own_R_not hy (by decide) c67_1) hx hby hml hown hnm hret hlk hZ X3 (rfl : T3.heap = T3.heap) N3
    · obtain ⟨v4, T4, L4, X4, q4, st4⟩ := own_callS X0 hx hZ (y := (⟨"com/example/tektonik/tektonik/schema/ElementTextEndElementPinLaw", "step", "(Lcom/example/tektonik/tektonik/schema/ElementText;IZ)I"⟩ : MethodName)) (pc := 75) (Ls := #[.val (.int p1), .val (.ref a1), .val (.int d), .unset]) (st := [(.int (0 : Int32)), (.int d), (.ref a1)]) hown (hw _ (List.mem_of_getElem? (i := 31) rfl)) (hw _ (List.mem_of_getElem? (i := 32) rfl)) (hw _ (List.mem_of_getElem? (i := 33) rfl)) (hw _ (List.mem_of_getElem? (i := 34) rfl)) (by decide) (rm_step l Z a0 hw a1 d y (0 : Int32) h0 n0 Z0 E_a1 F_a1_open F_a1_holdsElement g_a1) e0 pd_3 (hb hby at_75) (by rw [hml]; rfl) (argsL := [(.ref a1), (.int d), (.int (0 : Int32))]) (rest := []) rfl rfl rfl (W := 0) (Nat.le_of_eq rfl) (by decide) (by decide) (by decide) (by decide)
      obtain ⟨rv4, M4, Kc4, Fk4_0, Fk4_1⟩ := q4
      have N4 := Fr.app N0 M4
      have r4 : (f_step_ret a1 d y (0 : Int32)) = some (.int (d - (1 : Int32))) := by rw [f_step_ret, if_pos ((by decide) : (0 : Int32) = (0 : Int32)), if_neg (c75_2 : ¬ (d = (0 : Int32)))]
      rw [r4] at rv4
      subst rv4
      have r4_0 : (f_step_a1_open a1 d y (0 : Int32)) = (.int (d - (1 : Int32))) := by rw [f_step_a1_open, if_pos ((by decide) : (0 : Int32) = (0 : Int32)), if_neg (c75_2 : ¬ (d = (0 : Int32)))]
      rw [r4_0] at Fk4_0
      have r4_1 : (f_step_a1_holdsElement a1 d y (0 : Int32)) = (.int y) := by rw [f_step_a1_holdsElement, if_pos ((by decide) : (0 : Int32) = (0 : Int32)), if_neg (c75_2 : ¬ (d = (0 : Int32)))]
      rw [r4_1] at Fk4_1
      have E_a1_4 := Exa.keep E_a1 Kc4
      have Z4 : n0 ≤ T4.heap.size := Nat.le_trans Z0 Kc4.1
      refine Go.mp st4 ?_
      show Go p e below (T4.setTop (mkF m 78 #[.val (.int p1), .val (.ref a1), .val (.int d), .unset] [(.int (d - (1 : Int32)))])) _
      refine g_istoreN X4 hx #[.val (.int p1), .val (.ref a1), .val (.int (d - (1 : Int32))), .unset] (hb hby at_78) rfl ?_
      show Go p e below (T4.setTop (mkF m 79 #[.val (.int p1), .val (.ref a1), .val (.int (d - (1 : Int32))), .unset] [])) _
      exact seg_4 l Z a0 hw p1 a1 (d - (1 : Int32)) y T4.heap n0 Z4 E_a1_4 Fk4_0 Fk4_1 g_a1 (own_hd_dec hd (by decide) c75_2) (own_R_not hy (by decide) c67_1) hx hby hml hown hnm hret hlk hZ X4 (rfl : T4.heap = T4.heap) N4
  · refine g_ifNo X0 hx (hb hby at_67) ((if0 _ _).trans (feq c67_1).1) ?_
    refine g_iconst X0 hx (1 : Int32) (hb hby at_70) (by decide) ?_
    refine g_goto X0 hx 75 (hb hby at_71) (by decide) (by decide) ?_
    show Go p e below (s₁.setTop (mkF m 75 #[.val (.int p1), .val (.ref a1), .val (.int d), .unset] [(.int (1 : Int32)), (.int d), (.ref a1)])) _
    obtain ⟨v5, T5, L5, X5, q5, st5⟩ := own_callS X0 hx hZ (y := (⟨"com/example/tektonik/tektonik/schema/ElementTextEndElementPinLaw", "step", "(Lcom/example/tektonik/tektonik/schema/ElementText;IZ)I"⟩ : MethodName)) (pc := 75) (Ls := #[.val (.int p1), .val (.ref a1), .val (.int d), .unset]) (st := [(.int (1 : Int32)), (.int d), (.ref a1)]) hown (hw _ (List.mem_of_getElem? (i := 31) rfl)) (hw _ (List.mem_of_getElem? (i := 32) rfl)) (hw _ (List.mem_of_getElem? (i := 33) rfl)) (hw _ (List.mem_of_getElem? (i := 34) rfl)) (by decide) (rm_step l Z a0 hw a1 d y (1 : Int32) h0 n0 Z0 E_a1 F_a1_open F_a1_holdsElement g_a1) e0 pd_3 (hb hby at_75) (by rw [hml]; rfl) (argsL := [(.ref a1), (.int d), (.int (1 : Int32))]) (rest := []) rfl rfl rfl (W := 0) (Nat.le_of_eq rfl) (by decide) (by decide) (by decide) (by decide)
    obtain ⟨rv5, M5, Kc5, Fk5_0, Fk5_1⟩ := q5
    have N5 := Fr.app N0 M5
    have r5 : (f_step_ret a1 d y (1 : Int32)) = some (.int (d + (1 : Int32))) := by rw [f_step_ret, if_neg ((by decide) : ¬ ((1 : Int32) = (0 : Int32)))]
    rw [r5] at rv5
    subst rv5
    have r5_0 : (f_step_a1_open a1 d y (1 : Int32)) = (.int (d + (1 : Int32))) := by rw [f_step_a1_open, if_neg ((by decide) : ¬ ((1 : Int32) = (0 : Int32)))]
    rw [r5_0] at Fk5_0
    have r5_1 : (f_step_a1_holdsElement a1 d y (1 : Int32)) = (.int (1 : Int32)) := by rw [f_step_a1_holdsElement, if_neg ((by decide) : ¬ ((1 : Int32) = (0 : Int32)))]
    rw [r5_1] at Fk5_1
    have E_a1_5 := Exa.keep E_a1 Kc5
    have Z5 : n0 ≤ T5.heap.size := Nat.le_trans Z0 Kc5.1
    refine Go.mp st5 ?_
    show Go p e below (T5.setTop (mkF m 78 #[.val (.int p1), .val (.ref a1), .val (.int d), .unset] [(.int (d + (1 : Int32)))])) _
    refine g_istoreN X5 hx #[.val (.int p1), .val (.ref a1), .val (.int (d + (1 : Int32))), .unset] (hb hby at_78) rfl ?_
    show Go p e below (T5.setTop (mkF m 79 #[.val (.int p1), .val (.ref a1), .val (.int (d + (1 : Int32))), .unset] [])) _
    exact seg_4 l Z a0 hw p1 a1 (d + (1 : Int32)) (1 : Int32) T5.heap n0 Z5 E_a1_5 Fk5_0 Fk5_1 g_a1 (own_hd_inc hd (by decide)) (own_R_set hy (by decide) c67_1) hx hby hml hown hnm hret hlk hZ X5 (rfl : T5.heap = T5.heap) N5
set_option maxRecDepth 65536 in
set_option maxHeartbeats 40000000 in
theorem seg_2 (l : Launch) (Z : State) (a0 : Array Value) (hw : ∀ d ∈ tables_1, d.before a0 Z = true) (p1 : Int32) (a1 : Addr) (d : Int32) (y : Int32) (h0 : Heap) (n0 : Nat) (Z0 : n0 ≤ h0.size) (E_a1 : Exa Z h0 a1 "com/example/tektonik/tektonik/schema/ElementText") (F_a1_open : Fld Z h0 a1 "com/example/tektonik/tektonik/schema/ElementText" "open" "I" (.int d)) (F_a1_holdsElement : Fld Z h0 a1 "com/example/tektonik/tektonik/schema/ElementText" "holdsElement" "Z" (.int y)) (g_a1 : n0 ≤ a1) (hd : 0 ≤ d.toInt ∧ d.toInt ≤ 2) (hy : own_R p1 (3 : Int32) y) {p : Program} {e : Env} {s : State} {m : MethodId} {below : List Frame} {meth : Method} {c : Code} {args : Array Value} {s₁ : State} {lo : List Loc} (hx : p.tables.exec = Jvm.exec) (hby : c.code = code) (hml : c.maxLocals = maxLocals) (hown : s.vm.findClass "com/example/tektonik/tektonik/schema/ElementTextEndElementPinLaw" = some m.cls) (hnm : meth.name = "law") (hret : meth.sig.returnType = ret) (hlk : meth.locks = false) (hZ : Z.Warmed39 s.vm) (X0 : Stand p l e room_1 s m args below meth c s₁ lo 3 23) (e0 : s₁.heap = h0) (N0 : Fr n0 lo) :
    Go p e below (s₁.setTop (mkF m 44 #[.val (.int p1), .val (.ref a1), .val (.int d), .unset] [])) (FinE s room_1.cells room_1.slots (fun v h L => v = some (.int 1) ∧ Fr n0 L)) := by
  show Go p e below (s₁.setTop (mkF m 44 #[.val (.int p1), .val (.ref a1), .val (.int d), .unset] [])) _
  refine g_aloadN X0 hx (hb hby at_44) rfl rfl ?_
  refine g_iloadN X0 hx (hb hby at_45) rfl ?_
  refine g_iloadN X0 hx (hb hby at_46) rfl ?_
  refine g_iconst X0 hx (4 : Int32) (hb hby at_47) (by decide) ?_
  refine g_iand X0 hx (hb hby at_48) ?_
  by_cases c49_1 : (p1 &&& (4 : Int32)) = (0 : Int32)
  · refine g_ifYes X0 hx 56 (hb hby at_49) ((if0 _ _).trans (teq c49_1).1) (by decide) (by decide) ?_
    refine g_iconst X0 hx (0 : Int32) (hb hby at_56) (by decide) ?_
    show Go p e below (s₁.setTop (mkF m 57 #[.val (.int p1), .val (.ref a1), .val (.int d), .unset] [(.int (0 : Int32)), (.int d), (.ref a1)])) _
    by_cases c57_2 : d = (0 : Int32)
    · subst c57_2
      obtain ⟨v3, T3, L3, X3, q3, st3⟩ := own_callS X0 hx hZ (y := (⟨"com/example/tektonik/tektonik/schema/ElementTextEndElementPinLaw", "step", "(Lcom/example/tektonik/tektonik/schema/ElementText;IZ)I"⟩ : MethodName)) (pc := 57) (Ls := #[.val (.int p1), .val (.ref a1), .val (.int (0 : Int32)), .unset]) (st := [(.int (0 : Int32)), (.int (0 : Int32)), (.ref a1)]) hown (hw _ (List.mem_of_getElem? (i := 31) rfl)) (hw _ (List.mem_of_getElem? (i := 32) rfl)) (hw _ (List.mem_of_getElem? (i := 33) rfl)) (hw _ (List.mem_of_getElem? (i := 34) rfl)) (by decide) (rm_step l Z a0 hw a1 (0 : Int32) y (0 : Int32) h0 n0 Z0 E_a1 F_a1_open F_a1_holdsElement g_a1) e0 pd_3 (hb hby at_57) (by rw [hml]; rfl) (argsL := [(.ref a1), (.int (0 : Int32)), (.int (0 : Int32))]) (rest := []) rfl rfl rfl (W := 0) (Nat.le_of_eq rfl) (by decide) (by decide) (by decide) (by decide)
      obtain ⟨rv3, M3, Kc3, Fk3_0, Fk3_1⟩ := q3
      have N3 := Fr.app N0 M3
      have r3 : (f_step_ret a1 (0 : Int32) y (0 : Int32)) = some (.int (0 : Int32)) := by rw [f_step_ret, if_pos ((by decide) : (0 : Int32) = (0 : Int32)), if_pos ((by decide) : (0 : Int32) = (0 : Int32))]
      rw [r3] at rv3
      subst rv3
      have r3_0 : (f_step_a1_open a1 (0 : Int32) y (0 : Int32)) = (.int (0 : Int32)) := by rw [f_step_a1_open, if_pos ((by decide) : (0 : Int32) = (0 : Int32)), if_pos ((by decide) : (0 : Int32) = (0 : Int32))]
      rw [r3_0] at Fk3_0
      have r3_1 : (f_step_a1_holdsElement a1 (0 : Int32) y (0 : Int32)) = (.int y) := by rw [f_step_a1_holdsElement, if_pos ((by decide) : (0 : Int32) = (0 : Int32)), if_pos ((by decide) : (0 : Int32) = (0 : Int32))]
      rw [r3_1] at Fk3_1
      have E_a1_3 := Exa.keep E_a1 Kc3
      have Z3 : n0 ≤ T3.heap.size := Nat.le_trans Z0 Kc3.1
      refine Go.mp st3 ?_
      show Go p e below (T3.setTop (mkF m 60 #[.val (.int p1), .val (.ref a1), .val (.int (0 : Int32)), .unset] [(.int (0 : Int32))])) _
      refine g_istoreN X3 hx #[.val (.int p1), .val (.ref a1), .val (.int (0 : Int32)), .unset] (hb hby at_60) rfl ?_
      show Go p e below (T3.setTop (mkF m 61 #[.val (.int p1), .val (.ref a1), .val (.int (0 : Int32)), .unset] [])) _
      exact seg_3 l Z a0 hw p1 a1 (0 : Int32) y T3.heap n0 Z3 E_a1_3 Fk3_0 Fk3_1 g_a1 (by decide) (own_R_not hy (by decide) c49_1) hx hby hml hown hnm hret hlk hZ X3 (rfl : T3.heap = T3.heap) N3
    · obtain ⟨v4, T4, L4, X4, q4, st4⟩ := own_callS X0 hx hZ (y := (⟨"com/example/tektonik/tektonik/schema/ElementTextEndElementPinLaw", "step", "(Lcom/example/tektonik/tektonik/schema/ElementText;IZ)I"⟩ : MethodName)) (pc := 57) (Ls := #[.val (.int p1), .val (.ref a1), .val (.int d), .unset]) (st := [(.int (0 : Int32)), (.int d), (.ref a1)]) hown (hw _ (List.mem_of_getElem? (i := 31) rfl)) (hw _ (List.mem_of_getElem? (i := 32) rfl)) (hw _ (List.mem_of_getElem? (i := 33) rfl)) (hw _ (List.mem_of_getElem? (i := 34) rfl)) (by decide) (rm_step l Z a0 hw a1 d y (0 : Int32) h0 n0 Z0 E_a1 F_a1_open F_a1_holdsElement g_a1) e0 pd_3 (hb hby at_57) (by rw [hml]; rfl) (argsL := [(.ref a1), (.int d), (.int (0 : Int32))]) (rest := []) rfl rfl rfl (W := 0) (Nat.le_of_eq rfl) (by decide) (by decide) (by decide) (by decide)
      obtain ⟨rv4, M4, Kc4, Fk4_0, Fk4_1⟩ := q4
      have N4 := Fr.app N0 M4
      have r4 : (f_step_ret a1 d y (0 : Int32)) = some (.int (d - (1 : Int32))) := by rw [f_step_ret, if_pos ((by decide) : (0 : Int32) = (0 : Int32)), if_neg (c57_2 : ¬ (d = (0 : Int32)))]
      rw [r4] at rv4
      subst rv4
      have r4_0 : (f_step_a1_open a1 d y (0 : Int32)) = (.int (d - (1 : Int32))) := by rw [f_step_a1_open, if_pos ((by decide) : (0 : Int32) = (0 : Int32)), if_neg (c57_2 : ¬ (d = (0 : Int32)))]
      rw [r4_0] at Fk4_0
      have r4_1 : (f_step_a1_holdsElement a1 d y (0 : Int32)) = (.int y) := by rw [f_step_a1_holdsElement, if_pos ((by decide) : (0 : Int32) = (0 : Int32)), if_neg (c57_2 : ¬ (d = (0 : Int32)))]
      rw [r4_1] at Fk4_1
      have E_a1_4 := Exa.keep E_a1 Kc4
      have Z4 : n0 ≤ T4.heap.size := Nat.le_trans Z0 Kc4.1
      refine Go.mp st4 ?_
      show Go p e below (T4.setTop (mkF m 60 #[.val (.int p1), .val (.ref a1), .val (.int d), .unset] [(.int (d - (1 : Int32)))])) _
      refine g_istoreN X4 hx #[.val (.int p1), .val (.ref a1), .val (.int (d - (1 : Int32))), .unset] (hb hby at_60) rfl ?_
      show Go p e below (T4.setTop (mkF m 61 #[.val (.int p1), .val (.ref a1), .val (.int (d - (1 : Int32))), .unset] [])) _
      exact seg_3 l Z a0 hw p1 a1 (d - (1 : Int32)) y T4.heap n0 Z4 E_a1_4 Fk4_0 Fk4_1 g_a1 (own_hd_dec hd (by decide) c57_2) (own_R_not hy (by decide) c49_1) hx hby hml hown hnm hret hlk hZ X4 (rfl : T4.heap = T4.heap) N4
  · refine g_ifNo X0 hx (hb hby at_49) ((if0 _ _).trans (feq c49_1).1) ?_
    refine g_iconst X0 hx (1 : Int32) (hb hby at_52) (by decide) ?_
    refine g_goto X0 hx 57 (hb hby at_53) (by decide) (by decide) ?_
    show Go p e below (s₁.setTop (mkF m 57 #[.val (.int p1), .val (.ref a1), .val (.int d), .unset] [(.int (1 : Int32)), (.int d), (.ref a1)])) _
    obtain ⟨v5, T5, L5, X5, q5, st5⟩ := own_callS X0 hx hZ (y := (⟨"com/example/tektonik/tektonik/schema/ElementTextEndElementPinLaw", "step", "(Lcom/example/tektonik/tektonik/schema/ElementText;IZ)I"⟩ : MethodName)) (pc := 57) (Ls := #[.val (.int p1), .val (.ref a1), .val (.int d), .unset]) (st := [(.int (1 : Int32)), (.int d), (.ref a1)]) hown (hw _ (List.mem_of_getElem? (i := 31) rfl)) (hw _ (List.mem_of_getElem? (i := 32) rfl)) (hw _ (List.mem_of_getElem? (i := 33) rfl)) (hw _ (List.mem_of_getElem? (i := 34) rfl)) (by decide) (rm_step l Z a0 hw a1 d y (1 : Int32) h0 n0 Z0 E_a1 F_a1_open F_a1_holdsElement g_a1) e0 pd_3 (hb hby at_57) (by rw [hml]; rfl) (argsL := [(.ref a1), (.int d), (.int (1 : Int32))]) (rest := []) rfl rfl rfl (W := 0) (Nat.le_of_eq rfl) (by decide) (by decide) (by decide) (by decide)
    obtain ⟨rv5, M5, Kc5, Fk5_0, Fk5_1⟩ := q5
    have N5 := Fr.app N0 M5
    have r5 : (f_step_ret a1 d y (1 : Int32)) = some (.int (d + (1 : Int32))) := by rw [f_step_ret, if_neg ((by decide) : ¬ ((1 : Int32) = (0 : Int32)))]
    rw [r5] at rv5
    subst rv5
    have r5_0 : (f_step_a1_open a1 d y (1 : Int32)) = (.int (d + (1 : Int32))) := by rw [f_step_a1_open, if_neg ((by decide) : ¬ ((1 : Int32) = (0 : Int32)))]
    rw [r5_0] at Fk5_0
    have r5_1 : (f_step_a1_holdsElement a1 d y (1 : Int32)) = (.int (1 : Int32)) := by rw [f_step_a1_holdsElement, if_neg ((by decide) : ¬ ((1 : Int32) = (0 : Int32)))]
    rw [r5_1] at Fk5_1
    have E_a1_5 := Exa.keep E_a1 Kc5
    have Z5 : n0 ≤ T5.heap.size := Nat.le_trans Z0 Kc5.1
    refine Go.mp st5 ?_
    show Go p e below (T5.setTop (mkF m 60 #[.val (.int p1), .val (.ref a1), .val (.int d), .unset] [(.int (d + (1 : Int32)))])) _
    refine g_istoreN X5 hx #[.val (.int p1), .val (.ref a1), .val (.int (d + (1 : Int32))), .unset] (hb hby at_60) rfl ?_
    show Go p e below (T5.setTop (mkF m 61 #[.val (.int p1), .val (.ref a1), .val (.int (d + (1 : Int32))), .unset] [])) _
    exact seg_3 l Z a0 hw p1 a1 (d + (1 : Int32)) (1 : Int32) T5.heap n0 Z5 E_a1_5 Fk5_0 Fk5_1 g_a1 (own_hd_inc hd (by decide)) (own_R_set hy (by decide) c49_1) hx hby hml hown hnm hret hlk hZ X5 (rfl : T5.heap = T5.heap) N5
set_option maxRecDepth 65536 in
set_option maxHeartbeats 40000000 in
theorem seg_1 (l : Launch) (Z : State) (a0 : Array Value) (hw : ∀ d ∈ tables_1, d.before a0 Z = true) (p1 : Int32) (a1 : Addr) (d : Int32) (y : Int32) (h0 : Heap) (n0 : Nat) (Z0 : n0 ≤ h0.size) (E_a1 : Exa Z h0 a1 "com/example/tektonik/tektonik/schema/ElementText") (F_a1_open : Fld Z h0 a1 "com/example/tektonik/tektonik/schema/ElementText" "open" "I" (.int d)) (F_a1_holdsElement : Fld Z h0 a1 "com/example/tektonik/tektonik/schema/ElementText" "holdsElement" "Z" (.int y)) (g_a1 : n0 ≤ a1) (hd : 0 ≤ d.toInt ∧ d.toInt ≤ 1) (hy : own_R p1 (1 : Int32) y) {p : Program} {e : Env} {s : State} {m : MethodId} {below : List Frame} {meth : Method} {c : Code} {args : Array Value} {s₁ : State} {lo : List Loc} (hx : p.tables.exec = Jvm.exec) (hby : c.code = code) (hml : c.maxLocals = maxLocals) (hown : s.vm.findClass "com/example/tektonik/tektonik/schema/ElementTextEndElementPinLaw" = some m.cls) (hnm : meth.name = "law") (hret : meth.sig.returnType = ret) (hlk : meth.locks = false) (hZ : Z.Warmed39 s.vm) (X0 : Stand p l e room_1 s m args below meth c s₁ lo 3 23) (e0 : s₁.heap = h0) (N0 : Fr n0 lo) :
    Go p e below (s₁.setTop (mkF m 27 #[.val (.int p1), .val (.ref a1), .val (.int d), .unset] [])) (FinE s room_1.cells room_1.slots (fun v h L => v = some (.int 1) ∧ Fr n0 L)) := by
  show Go p e below (s₁.setTop (mkF m 27 #[.val (.int p1), .val (.ref a1), .val (.int d), .unset] [])) _
  refine g_aloadN X0 hx (hb hby at_27) rfl rfl ?_
  refine g_iloadN X0 hx (hb hby at_28) rfl ?_
  refine g_iloadN X0 hx (hb hby at_29) rfl ?_
  refine g_iconst X0 hx (2 : Int32) (hb hby at_30) (by decide) ?_
  refine g_iand X0 hx (hb hby at_31) ?_
  by_cases c32_1 : (p1 &&& (2 : Int32)) = (0 : Int32)
  · refine g_ifYes X0 hx 39 (hb hby at_32) ((if0 _ _).trans (teq c32_1).1) (by decide) (by decide) ?_
    refine g_iconst X0 hx (0 : Int32) (hb hby at_39) (by decide) ?_
    show Go p e below (s₁.setTop (mkF m 40 #[.val (.int p1), .val (.ref a1), .val (.int d), .unset] [(.int (0 : Int32)), (.int d), (.ref a1)])) _
    by_cases c40_2 : d = (0 : Int32)
    · subst c40_2
      obtain ⟨v3, T3, L3, X3, q3, st3⟩ := own_callS X0 hx hZ (y := (⟨"com/example/tektonik/tektonik/schema/ElementTextEndElementPinLaw", "step", "(Lcom/example/tektonik/tektonik/schema/ElementText;IZ)I"⟩ : MethodName)) (pc := 40) (Ls := #[.val (.int p1), .val (.ref a1), .val (.int (0 : Int32)), .unset]) (st := [(.int (0 : Int32)), (.int (0 : Int32)), (.ref a1)]) hown (hw _ (List.mem_of_getElem? (i := 31) rfl)) (hw _ (List.mem_of_getElem? (i := 32) rfl)) (hw _ (List.mem_of_getElem? (i := 33) rfl)) (hw _ (List.mem_of_getElem? (i := 34) rfl)) (by decide) (rm_step l Z a0 hw a1 (0 : Int32) y (0 : Int32) h0 n0 Z0 E_a1 F_a1_open F_a1_holdsElement g_a1) e0 pd_3 (hb hby at_40) (by rw [hml]; rfl) (argsL := [(.ref a1), (.int (0 : Int32)), (.int (0 : Int32))]) (rest := []) rfl rfl rfl (W := 0) (Nat.le_of_eq rfl) (by decide) (by decide) (by decide) (by decide)
      obtain ⟨rv3, M3, Kc3, Fk3_0, Fk3_1⟩ := q3
      have N3 := Fr.app N0 M3
      have r3 : (f_step_ret a1 (0 : Int32) y (0 : Int32)) = some (.int (0 : Int32)) := by rw [f_step_ret, if_pos ((by decide) : (0 : Int32) = (0 : Int32)), if_pos ((by decide) : (0 : Int32) = (0 : Int32))]
      rw [r3] at rv3
      subst rv3
      have r3_0 : (f_step_a1_open a1 (0 : Int32) y (0 : Int32)) = (.int (0 : Int32)) := by rw [f_step_a1_open, if_pos ((by decide) : (0 : Int32) = (0 : Int32)), if_pos ((by decide) : (0 : Int32) = (0 : Int32))]
      rw [r3_0] at Fk3_0
      have r3_1 : (f_step_a1_holdsElement a1 (0 : Int32) y (0 : Int32)) = (.int y) := by rw [f_step_a1_holdsElement, if_pos ((by decide) : (0 : Int32) = (0 : Int32)), if_pos ((by decide) : (0 : Int32) = (0 : Int32))]
      rw [r3_1] at Fk3_1
      have E_a1_3 := Exa.keep E_a1 Kc3
      have Z3 : n0 ≤ T3.heap.size := Nat.le_trans Z0 Kc3.1
      refine Go.mp st3 ?_
      show Go p e below (T3.setTop (mkF m 43 #[.val (.int p1), .val (.ref a1), .val (.int (0 : Int32)), .unset] [(.int (0 : Int32))])) _
      refine g_istoreN X3 hx #[.val (.int p1), .val (.ref a1), .val (.int (0 : Int32)), .unset] (hb hby at_43) rfl ?_
      show Go p e below (T3.setTop (mkF m 44 #[.val (.int p1), .val (.ref a1), .val (.int (0 : Int32)), .unset] [])) _
      exact seg_2 l Z a0 hw p1 a1 (0 : Int32) y T3.heap n0 Z3 E_a1_3 Fk3_0 Fk3_1 g_a1 (by decide) (own_R_not hy (by decide) c32_1) hx hby hml hown hnm hret hlk hZ X3 (rfl : T3.heap = T3.heap) N3
    · obtain ⟨v4, T4, L4, X4, q4, st4⟩ := own_callS X0 hx hZ (y := (⟨"com/example/tektonik/tektonik/schema/ElementTextEndElementPinLaw", "step", "(Lcom/example/tektonik/tektonik/schema/ElementText;IZ)I"⟩ : MethodName)) (pc := 40) (Ls := #[.val (.int p1), .val (.ref a1), .val (.int d), .unset]) (st := [(.int (0 : Int32)), (.int d), (.ref a1)]) hown (hw _ (List.mem_of_getElem? (i := 31) rfl)) (hw _ (List.mem_of_getElem? (i := 32) rfl)) (hw _ (List.mem_of_getElem? (i := 33) rfl)) (hw _ (List.mem_of_getElem? (i := 34) rfl)) (by decide) (rm_step l Z a0 hw a1 d y (0 : Int32) h0 n0 Z0 E_a1 F_a1_open F_a1_holdsElement g_a1) e0 pd_3 (hb hby at_40) (by rw [hml]; rfl) (argsL := [(.ref a1), (.int d), (.int (0 : Int32))]) (rest := []) rfl rfl rfl (W := 0) (Nat.le_of_eq rfl) (by decide) (by decide) (by decide) (by decide)
      obtain ⟨rv4, M4, Kc4, Fk4_0, Fk4_1⟩ := q4
      have N4 := Fr.app N0 M4
      have r4 : (f_step_ret a1 d y (0 : Int32)) = some (.int (d - (1 : Int32))) := by rw [f_step_ret, if_pos ((by decide) : (0 : Int32) = (0 : Int32)), if_neg (c40_2 : ¬ (d = (0 : Int32)))]
      rw [r4] at rv4
      subst rv4
      have r4_0 : (f_step_a1_open a1 d y (0 : Int32)) = (.int (d - (1 : Int32))) := by rw [f_step_a1_open, if_pos ((by decide) : (0 : Int32) = (0 : Int32)), if_neg (c40_2 : ¬ (d = (0 : Int32)))]
      rw [r4_0] at Fk4_0
      have r4_1 : (f_step_a1_holdsElement a1 d y (0 : Int32)) = (.int y) := by rw [f_step_a1_holdsElement, if_pos ((by decide) : (0 : Int32) = (0 : Int32)), if_neg (c40_2 : ¬ (d = (0 : Int32)))]
      rw [r4_1] at Fk4_1
      have E_a1_4 := Exa.keep E_a1 Kc4
      have Z4 : n0 ≤ T4.heap.size := Nat.le_trans Z0 Kc4.1
      refine Go.mp st4 ?_
      show Go p e below (T4.setTop (mkF m 43 #[.val (.int p1), .val (.ref a1), .val (.int d), .unset] [(.int (d - (1 : Int32)))])) _
      refine g_istoreN X4 hx #[.val (.int p1), .val (.ref a1), .val (.int (d - (1 : Int32))), .unset] (hb hby at_43) rfl ?_
      show Go p e below (T4.setTop (mkF m 44 #[.val (.int p1), .val (.ref a1), .val (.int (d - (1 : Int32))), .unset] [])) _
      exact seg_2 l Z a0 hw p1 a1 (d - (1 : Int32)) y T4.heap n0 Z4 E_a1_4 Fk4_0 Fk4_1 g_a1 (own_hd_dec hd (by decide) c40_2) (own_R_not hy (by decide) c32_1) hx hby hml hown hnm hret hlk hZ X4 (rfl : T4.heap = T4.heap) N4
  · refine g_ifNo X0 hx (hb hby at_32) ((if0 _ _).trans (feq c32_1).1) ?_
    refine g_iconst X0 hx (1 : Int32) (hb hby at_35) (by decide) ?_
    refine g_goto X0 hx 40 (hb hby at_36) (by decide) (by decide) ?_
    show Go p e below (s₁.setTop (mkF m 40 #[.val (.int p1), .val (.ref a1), .val (.int d), .unset] [(.int (1 : Int32)), (.int d), (.ref a1)])) _
    obtain ⟨v5, T5, L5, X5, q5, st5⟩ := own_callS X0 hx hZ (y := (⟨"com/example/tektonik/tektonik/schema/ElementTextEndElementPinLaw", "step", "(Lcom/example/tektonik/tektonik/schema/ElementText;IZ)I"⟩ : MethodName)) (pc := 40) (Ls := #[.val (.int p1), .val (.ref a1), .val (.int d), .unset]) (st := [(.int (1 : Int32)), (.int d), (.ref a1)]) hown (hw _ (List.mem_of_getElem? (i := 31) rfl)) (hw _ (List.mem_of_getElem? (i := 32) rfl)) (hw _ (List.mem_of_getElem? (i := 33) rfl)) (hw _ (List.mem_of_getElem? (i := 34) rfl)) (by decide) (rm_step l Z a0 hw a1 d y (1 : Int32) h0 n0 Z0 E_a1 F_a1_open F_a1_holdsElement g_a1) e0 pd_3 (hb hby at_40) (by rw [hml]; rfl) (argsL := [(.ref a1), (.int d), (.int (1 : Int32))]) (rest := []) rfl rfl rfl (W := 0) (Nat.le_of_eq rfl) (by decide) (by decide) (by decide) (by decide)
    obtain ⟨rv5, M5, Kc5, Fk5_0, Fk5_1⟩ := q5
    have N5 := Fr.app N0 M5
    have r5 : (f_step_ret a1 d y (1 : Int32)) = some (.int (d + (1 : Int32))) := by rw [f_step_ret, if_neg ((by decide) : ¬ ((1 : Int32) = (0 : Int32)))]
    rw [r5] at rv5
    subst rv5
    have r5_0 : (f_step_a1_open a1 d y (1 : Int32)) = (.int (d + (1 : Int32))) := by rw [f_step_a1_open, if_neg ((by decide) : ¬ ((1 : Int32) = (0 : Int32)))]
    rw [r5_0] at Fk5_0
    have r5_1 : (f_step_a1_holdsElement a1 d y (1 : Int32)) = (.int (1 : Int32)) := by rw [f_step_a1_holdsElement, if_neg ((by decide) : ¬ ((1 : Int32) = (0 : Int32)))]
    rw [r5_1] at Fk5_1
    have E_a1_5 := Exa.keep E_a1 Kc5
    have Z5 : n0 ≤ T5.heap.size := Nat.le_trans Z0 Kc5.1
    refine Go.mp st5 ?_
    show Go p e below (T5.setTop (mkF m 43 #[.val (.int p1), .val (.ref a1), .val (.int d), .unset] [(.int (d + (1 : Int32)))])) _
    refine g_istoreN X5 hx #[.val (.int p1), .val (.ref a1), .val (.int (d + (1 : Int32))), .unset] (hb hby at_43) rfl ?_
    show Go p e below (T5.setTop (mkF m 44 #[.val (.int p1), .val (.ref a1), .val (.int (d + (1 : Int32))), .unset] [])) _
    exact seg_2 l Z a0 hw p1 a1 (d + (1 : Int32)) (1 : Int32) T5.heap n0 Z5 E_a1_5 Fk5_0 Fk5_1 g_a1 (own_hd_inc hd (by decide)) (own_R_set hy (by decide) c32_1) hx hby hml hown hnm hret hlk hZ X5 (rfl : T5.heap = T5.heap) N5
set_option maxRecDepth 65536 in
set_option maxHeartbeats 40000000 in
theorem seg_0 (l : Launch) (Z : State) (a0 : Array Value) (hw : ∀ d ∈ tables_1, d.before a0 Z = true) (p1 : Int32) (a1 : Addr) (d : Int32) (y : Int32) (h0 : Heap) (n0 : Nat) (Z0 : n0 ≤ h0.size) (E_a1 : Exa Z h0 a1 "com/example/tektonik/tektonik/schema/ElementText") (F_a1_open : Fld Z h0 a1 "com/example/tektonik/tektonik/schema/ElementText" "open" "I" (.int d)) (F_a1_holdsElement : Fld Z h0 a1 "com/example/tektonik/tektonik/schema/ElementText" "holdsElement" "Z" (.int y)) (g_a1 : n0 ≤ a1) (hd : 0 ≤ d.toInt ∧ d.toInt ≤ 0) (hy : own_R p1 (0 : Int32) y) {p : Program} {e : Env} {s : State} {m : MethodId} {below : List Frame} {meth : Method} {c : Code} {args : Array Value} {s₁ : State} {lo : List Loc} (hx : p.tables.exec = Jvm.exec) (hby : c.code = code) (hml : c.maxLocals = maxLocals) (hown : s.vm.findClass "com/example/tektonik/tektonik/schema/ElementTextEndElementPinLaw" = some m.cls) (hnm : meth.name = "law") (hret : meth.sig.returnType = ret) (hlk : meth.locks = false) (hZ : Z.Warmed39 s.vm) (X0 : Stand p l e room_1 s m args below meth c s₁ lo 3 23) (e0 : s₁.heap = h0) (N0 : Fr n0 lo) :
    Go p e below (s₁.setTop (mkF m 10 #[.val (.int p1), .val (.ref a1), .val (.int d), .unset] [])) (FinE s room_1.cells room_1.slots (fun v h L => v = some (.int 1) ∧ Fr n0 L)) := by
  show Go p e below (s₁.setTop (mkF m 10 #[.val (.int p1), .val (.ref a1), .val (.int d), .unset] [])) _
  refine g_aloadN X0 hx (hb hby at_10) rfl rfl ?_
  refine g_iloadN X0 hx (hb hby at_11) rfl ?_
  refine g_iloadN X0 hx (hb hby at_12) rfl ?_
  refine g_iconst X0 hx (1 : Int32) (hb hby at_13) (by decide) ?_
  refine g_iand X0 hx (hb hby at_14) ?_
  by_cases c15_1 : (p1 &&& (1 : Int32)) = (0 : Int32)
  · refine g_ifYes X0 hx 22 (hb hby at_15) ((if0 _ _).trans (teq c15_1).1) (by decide) (by decide) ?_
    refine g_iconst X0 hx (0 : Int32) (hb hby at_22) (by decide) ?_
    show Go p e below (s₁.setTop (mkF m 23 #[.val (.int p1), .val (.ref a1), .val (.int d), .unset] [(.int (0 : Int32)), (.int d), (.ref a1)])) _
    by_cases c23_2 : d = (0 : Int32)
    · subst c23_2
      obtain ⟨v3, T3, L3, X3, q3, st3⟩ := own_callS X0 hx hZ (y := (⟨"com/example/tektonik/tektonik/schema/ElementTextEndElementPinLaw", "step", "(Lcom/example/tektonik/tektonik/schema/ElementText;IZ)I"⟩ : MethodName)) (pc := 23) (Ls := #[.val (.int p1), .val (.ref a1), .val (.int (0 : Int32)), .unset]) (st := [(.int (0 : Int32)), (.int (0 : Int32)), (.ref a1)]) hown (hw _ (List.mem_of_getElem? (i := 31) rfl)) (hw _ (List.mem_of_getElem? (i := 32) rfl)) (hw _ (List.mem_of_getElem? (i := 33) rfl)) (hw _ (List.mem_of_getElem? (i := 34) rfl)) (by decide) (rm_step l Z a0 hw a1 (0 : Int32) y (0 : Int32) h0 n0 Z0 E_a1 F_a1_open F_a1_holdsElement g_a1) e0 pd_3 (hb hby at_23) (by rw [hml]; rfl) (argsL := [(.ref a1), (.int (0 : Int32)), (.int (0 : Int32))]) (rest := []) rfl rfl rfl (W := 0) (Nat.le_of_eq rfl) (by decide) (by decide) (by decide) (by decide)
      obtain ⟨rv3, M3, Kc3, Fk3_0, Fk3_1⟩ := q3
      have N3 := Fr.app N0 M3
      have r3 : (f_step_ret a1 (0 : Int32) y (0 : Int32)) = some (.int (0 : Int32)) := by rw [f_step_ret, if_pos ((by decide) : (0 : Int32) = (0 : Int32)), if_pos ((by decide) : (0 : Int32) = (0 : Int32))]
      rw [r3] at rv3
      subst rv3
      have r3_0 : (f_step_a1_open a1 (0 : Int32) y (0 : Int32)) = (.int (0 : Int32)) := by rw [f_step_a1_open, if_pos ((by decide) : (0 : Int32) = (0 : Int32)), if_pos ((by decide) : (0 : Int32) = (0 : Int32))]
      rw [r3_0] at Fk3_0
      have r3_1 : (f_step_a1_holdsElement a1 (0 : Int32) y (0 : Int32)) = (.int y) := by rw [f_step_a1_holdsElement, if_pos ((by decide) : (0 : Int32) = (0 : Int32)), if_pos ((by decide) : (0 : Int32) = (0 : Int32))]
      rw [r3_1] at Fk3_1
      have E_a1_3 := Exa.keep E_a1 Kc3
      have Z3 : n0 ≤ T3.heap.size := Nat.le_trans Z0 Kc3.1
      refine Go.mp st3 ?_
      show Go p e below (T3.setTop (mkF m 26 #[.val (.int p1), .val (.ref a1), .val (.int (0 : Int32)), .unset] [(.int (0 : Int32))])) _
      refine g_istoreN X3 hx #[.val (.int p1), .val (.ref a1), .val (.int (0 : Int32)), .unset] (hb hby at_26) rfl ?_
      show Go p e below (T3.setTop (mkF m 27 #[.val (.int p1), .val (.ref a1), .val (.int (0 : Int32)), .unset] [])) _
      exact seg_1 l Z a0 hw p1 a1 (0 : Int32) y T3.heap n0 Z3 E_a1_3 Fk3_0 Fk3_1 g_a1 (by decide) (own_R_not hy (by decide) c15_1) hx hby hml hown hnm hret hlk hZ X3 (rfl : T3.heap = T3.heap) N3
    · obtain ⟨v4, T4, L4, X4, q4, st4⟩ := own_callS X0 hx hZ (y := (⟨"com/example/tektonik/tektonik/schema/ElementTextEndElementPinLaw", "step", "(Lcom/example/tektonik/tektonik/schema/ElementText;IZ)I"⟩ : MethodName)) (pc := 23) (Ls := #[.val (.int p1), .val (.ref a1), .val (.int d), .unset]) (st := [(.int (0 : Int32)), (.int d), (.ref a1)]) hown (hw _ (List.mem_of_getElem? (i := 31) rfl)) (hw _ (List.mem_of_getElem? (i := 32) rfl)) (hw _ (List.mem_of_getElem? (i := 33) rfl)) (hw _ (List.mem_of_getElem? (i := 34) rfl)) (by decide) (rm_step l Z a0 hw a1 d y (0 : Int32) h0 n0 Z0 E_a1 F_a1_open F_a1_holdsElement g_a1) e0 pd_3 (hb hby at_23) (by rw [hml]; rfl) (argsL := [(.ref a1), (.int d), (.int (0 : Int32))]) (rest := []) rfl rfl rfl (W := 0) (Nat.le_of_eq rfl) (by decide) (by decide) (by decide) (by decide)
      obtain ⟨rv4, M4, Kc4, Fk4_0, Fk4_1⟩ := q4
      have N4 := Fr.app N0 M4
      have r4 : (f_step_ret a1 d y (0 : Int32)) = some (.int (d - (1 : Int32))) := by rw [f_step_ret, if_pos ((by decide) : (0 : Int32) = (0 : Int32)), if_neg (c23_2 : ¬ (d = (0 : Int32)))]
      rw [r4] at rv4
      subst rv4
      have r4_0 : (f_step_a1_open a1 d y (0 : Int32)) = (.int (d - (1 : Int32))) := by rw [f_step_a1_open, if_pos ((by decide) : (0 : Int32) = (0 : Int32)), if_neg (c23_2 : ¬ (d = (0 : Int32)))]
      rw [r4_0] at Fk4_0
      have r4_1 : (f_step_a1_holdsElement a1 d y (0 : Int32)) = (.int y) := by rw [f_step_a1_holdsElement, if_pos ((by decide) : (0 : Int32) = (0 : Int32)), if_neg (c23_2 : ¬ (d = (0 : Int32)))]
      rw [r4_1] at Fk4_1
      have E_a1_4 := Exa.keep E_a1 Kc4
      have Z4 : n0 ≤ T4.heap.size := Nat.le_trans Z0 Kc4.1
      refine Go.mp st4 ?_
      show Go p e below (T4.setTop (mkF m 26 #[.val (.int p1), .val (.ref a1), .val (.int d), .unset] [(.int (d - (1 : Int32)))])) _
      refine g_istoreN X4 hx #[.val (.int p1), .val (.ref a1), .val (.int (d - (1 : Int32))), .unset] (hb hby at_26) rfl ?_
      show Go p e below (T4.setTop (mkF m 27 #[.val (.int p1), .val (.ref a1), .val (.int (d - (1 : Int32))), .unset] [])) _
      exact seg_1 l Z a0 hw p1 a1 (d - (1 : Int32)) y T4.heap n0 Z4 E_a1_4 Fk4_0 Fk4_1 g_a1 (own_hd_dec hd (by decide) c23_2) (own_R_not hy (by decide) c15_1) hx hby hml hown hnm hret hlk hZ X4 (rfl : T4.heap = T4.heap) N4
  · refine g_ifNo X0 hx (hb hby at_15) ((if0 _ _).trans (feq c15_1).1) ?_
    refine g_iconst X0 hx (1 : Int32) (hb hby at_18) (by decide) ?_
    refine g_goto X0 hx 23 (hb hby at_19) (by decide) (by decide) ?_
    show Go p e below (s₁.setTop (mkF m 23 #[.val (.int p1), .val (.ref a1), .val (.int d), .unset] [(.int (1 : Int32)), (.int d), (.ref a1)])) _
    obtain ⟨v5, T5, L5, X5, q5, st5⟩ := own_callS X0 hx hZ (y := (⟨"com/example/tektonik/tektonik/schema/ElementTextEndElementPinLaw", "step", "(Lcom/example/tektonik/tektonik/schema/ElementText;IZ)I"⟩ : MethodName)) (pc := 23) (Ls := #[.val (.int p1), .val (.ref a1), .val (.int d), .unset]) (st := [(.int (1 : Int32)), (.int d), (.ref a1)]) hown (hw _ (List.mem_of_getElem? (i := 31) rfl)) (hw _ (List.mem_of_getElem? (i := 32) rfl)) (hw _ (List.mem_of_getElem? (i := 33) rfl)) (hw _ (List.mem_of_getElem? (i := 34) rfl)) (by decide) (rm_step l Z a0 hw a1 d y (1 : Int32) h0 n0 Z0 E_a1 F_a1_open F_a1_holdsElement g_a1) e0 pd_3 (hb hby at_23) (by rw [hml]; rfl) (argsL := [(.ref a1), (.int d), (.int (1 : Int32))]) (rest := []) rfl rfl rfl (W := 0) (Nat.le_of_eq rfl) (by decide) (by decide) (by decide) (by decide)
    obtain ⟨rv5, M5, Kc5, Fk5_0, Fk5_1⟩ := q5
    have N5 := Fr.app N0 M5
    have r5 : (f_step_ret a1 d y (1 : Int32)) = some (.int (d + (1 : Int32))) := by rw [f_step_ret, if_neg ((by decide) : ¬ ((1 : Int32) = (0 : Int32)))]
    rw [r5] at rv5
    subst rv5
    have r5_0 : (f_step_a1_open a1 d y (1 : Int32)) = (.int (d + (1 : Int32))) := by rw [f_step_a1_open, if_neg ((by decide) : ¬ ((1 : Int32) = (0 : Int32)))]
    rw [r5_0] at Fk5_0
    have r5_1 : (f_step_a1_holdsElement a1 d y (1 : Int32)) = (.int (1 : Int32)) := by rw [f_step_a1_holdsElement, if_neg ((by decide) : ¬ ((1 : Int32) = (0 : Int32)))]
    rw [r5_1] at Fk5_1
    have E_a1_5 := Exa.keep E_a1 Kc5
    have Z5 : n0 ≤ T5.heap.size := Nat.le_trans Z0 Kc5.1
    refine Go.mp st5 ?_
    show Go p e below (T5.setTop (mkF m 26 #[.val (.int p1), .val (.ref a1), .val (.int d), .unset] [(.int (d + (1 : Int32)))])) _
    refine g_istoreN X5 hx #[.val (.int p1), .val (.ref a1), .val (.int (d + (1 : Int32))), .unset] (hb hby at_26) rfl ?_
    show Go p e below (T5.setTop (mkF m 27 #[.val (.int p1), .val (.ref a1), .val (.int (d + (1 : Int32))), .unset] [])) _
    exact seg_1 l Z a0 hw p1 a1 (d + (1 : Int32)) (1 : Int32) T5.heap n0 Z5 E_a1_5 Fk5_0 Fk5_1 g_a1 (own_hd_inc hd (by decide)) (own_R_set hy (by decide) c15_1) hx hby hml hown hnm hret hlk hZ X5 (rfl : T5.heap = T5.heap) N5
theorem ef_rm_law (m : MethodId) (x0 : Int32) : entryFrame m #[(.int x0)] maxLocals = mkF m 0 #[.val (.int x0), .unset, .unset, .unset] [] := by first | (simp [entryFrame, mkF, argsToLocals, Value.category, maxLocals]; done) | rfl
set_option maxRecDepth 65536 in
set_option maxHeartbeats 40000000 in
theorem rm_law (l : Launch) (Z : State) (a0 : Array Value) (hw : ∀ d ∈ tables_1, d.before a0 Z = true) (p1 : Int32) (zc : Int32) (h0 : Heap) (n0 : Nat) (Z0 : n0 ≤ h0.size) (S_COMPACT_STRINGS : Sta Z h0 "java/lang/String" "COMPACT_STRINGS" "Z" (.int zc)) (hzc : ¬ (zc = (0 : Int32))) :
    Ctr l x code maxLocals ret tables_1 room_1 Z #[(.int p1)] h0 (fun v h L => v = some (.int 1) ∧ Fr n0 L) := by
  refine own_enter pn_3 (fun p e s m below meth c s₁ hx hby hml hown hnm hret hlk hZ X0 e0 => ?_)
  have N0 := Fr.nil n0
  rw [ef_rm_law m _]
  show Go p e below (s₁.setTop (mkF m 0 #[.val (.int p1), .unset, .unset, .unset] [])) _
  obtain ⟨T1, h1, X1, e1, E1, A1, D1, -, st1⟩ := newO X0 hx hZ hown (hw _ (List.mem_of_getElem? (i := 0) rfl)) (hw _ (List.mem_of_getElem? (i := 1) rfl)) (hw _ (List.mem_of_getElem? (i := 2) rfl)) e0 (g := (mkF m 0 #[.val (.int p1), .unset, .unset, .unset] [])) rfl (hb hby at_0) (by decide) (by decide)
  obtain ⟨b1, g1⟩ : ∃ z, z = h0.size := ⟨_, rfl⟩
  rw [← g1] at A1 D1 st1
  have g_b1 : n0 ≤ b1 := Nat.le_trans Z0 (Nat.le_of_eq g1.symm)
  have Z1 : n0 ≤ h1.size := Nat.le_trans Z0 E1.1
  have S_COMPACT_STRINGS_1 := Sta.ext E1 S_COMPACT_STRINGS
  have F1_text : Fld Z h1 b1 "com/example/tektonik/tektonik/schema/ElementText" "text" "Ljava/lang/StringBuilder;" .null := D1 (Or.inr (hw _ (List.mem_of_getElem? (i := 30) rfl))) (ty := (FieldType.object "java/lang/StringBuilder")) (by decide)
  have F1_open : Fld Z h1 b1 "com/example/tektonik/tektonik/schema/ElementText" "open" "I" (.int (0 : Int32)) := D1 (Or.inl (hw _ (List.mem_of_getElem? (i := 41) rfl))) (ty := FieldType.int) (by decide)
  have F1_holdsElement : Fld Z h1 b1 "com/example/tektonik/tektonik/schema/ElementText" "holdsElement" "Z" (.int (0 : Int32)) := D1 (Or.inl (hw _ (List.mem_of_getElem? (i := 48) rfl))) (ty := FieldType.boolean) (by decide)
  refine Go.mp st1 ?_
  show Go p e below (T1.setTop (mkF m 3 #[.val (.int p1), .unset, .unset, .unset] [(.ref b1)])) _
  refine g_dup X1 hx (hb hby at_3) rfl ?_
  obtain ⟨v2, T2, L2, X2, q2, st2⟩ := own_callI X1 hx hZ (y := (⟨"com/example/tektonik/tektonik/schema/ElementText", "<init>", "()V"⟩ : MethodName)) (pc := 4) (Ls := #[.val (.int p1), .unset, .unset, .unset]) (st := [(.ref b1), (.ref b1)]) hown (hw _ (List.mem_of_getElem? (i := 3) rfl)) (hw _ (List.mem_of_getElem? (i := 4) rfl)) (hw _ (List.mem_of_getElem? (i := 5) rfl)) (hw _ (List.mem_of_getElem? (i := 2) rfl)) rfl (by decide) (rm_etInit l Z a0 hw b1 zc h1 n0 Z1 S_COMPACT_STRINGS_1 hzc A1 F1_text F1_open F1_holdsElement g_b1) e1 pd_1 (hb hby at_4) (by rw [hml]; rfl) (argsL := []) (rest := [(.ref b1)]) rfl rfl rfl (W := 1) (Nat.le_of_eq rfl) (by decide) (by decide) (by decide) (by decide)
  obtain ⟨rv2, M2, Kc2, Fk2_0, Fk2_1⟩ := q2
  have N2 := Fr.app N0 M2
  subst rv2
  have S_COMPACT_STRINGS_2 := own_sta_keep S_COMPACT_STRINGS_1 Kc2 (own_plain A1 (fun _ q => nomatch q))
  have E_b1_2 := Exa.keep A1 Kc2
  have Z2 : n0 ≤ T2.heap.size := Nat.le_trans Z1 Kc2.1
  refine Go.mp st2 ?_
  show Go p e below (T2.setTop (mkF m 7 #[.val (.int p1), .unset, .unset, .unset] [(.ref b1)])) _
  refine g_astoreN X2 hx #[.val (.int p1), .val (.ref b1), .unset, .unset] (hb hby at_7) rfl rfl ?_
  refine g_iconst X2 hx (0 : Int32) (hb hby at_8) (by decide) ?_
  refine g_istoreN X2 hx #[.val (.int p1), .val (.ref b1), .val (.int (0 : Int32)), .unset] (hb hby at_9) rfl ?_
  show Go p e below (T2.setTop (mkF m 10 #[.val (.int p1), .val (.ref b1), .val (.int (0 : Int32)), .unset] [])) _
  exact seg_0 l Z a0 hw p1 b1 (0 : Int32) (0 : Int32) T2.heap n0 Z2 E_b1_2 Fk2_0 Fk2_1 g_b1 (by decide) (Or.inl ⟨rfl, by simp⟩) hx hby hml hown hnm hret hlk hZ X2 (rfl : T2.heap = T2.heap) N2
set_option maxRecDepth 65536 in
set_option maxHeartbeats 40000000 in
theorem comes_1 {Post : Tables → Env → Array Value → State → Outcome → State → Prop} (hpost : ∀ tb e args s v u, (limb_1_1.after args s (.returned v) u = true ∧ limb_1_2.after args s (.returned v) u = true ∧ True) → FrameEnd s (.returned v) u (Jvm.fieldLocs frame_1_writes args s ++ Jvm.arrayLocs frame_1_arrays args s ++ Jvm.staticLocs frame_1_statics s) 16 128 → Post tb e args s (.returned v) u) :
    ArmFor flags0 classFile x code maxLocals ret World_1 tables_1 room_1 Calls_1 rest_1 Pre_1 Post := by
  intro l hfl _ _ p e ha hc hk s m args below hf hA hF happ hP
  obtain ⟨hcalls, hrest, hpre⟩ := hP
  obtain ⟨-, -, -, hnamed, -, -, -, hat⟩ := (Spec.applies_iff hf).mp happ
  obtain ⟨hg, hn⟩ := and_e (Cond.before_iff.mp (show (Jvm.Cond.and given_1 narrow_1).before args s = true from hpre))
  obtain ⟨hcnt, hg⟩ := and_e hg
  obtain ⟨w0, rfl⟩ : ∃ w0 : Value, args = #[w0] := by
    have hs : args.size = 1 := by simpa [Cond.value, given_1] using hcnt
    obtain ⟨L⟩ := args
    match L, hs with
    | [w0], _ => exact ⟨w0, rfl⟩
  have hw := fun d (hd : d ∈ tables_1) => atoms_spec (ws := Jvm.Cond.code x code maxLocals ret :: tables_1) hat d (List.mem_cons_of_mem _ hd)
  obtain ⟨p1, ep1⟩ := is_v hg
  obtain rfl : w0 = (.int p1) := Option.some.inj ep1
  obtain ⟨hsets, hown0⟩ := atoms_of _ (rest_1_c_eq ▸ (show rest_1_c.before _ s = true from hrest))
  obtain ⟨zc, e6⟩ := is_v (Cond.before_iff.mp (hsets _ (List.mem_of_getElem? (i := 1) rfl)))
  have S8 : Sta s s.heap "java/lang/String" "COMPACT_STRINGS" "Z" (.int zc) := Sta.start e6 (Or.inl (hsets _ (List.mem_of_getElem? (i := 0) rfl)))
  have n3 : ¬ (zc = (0 : Int32)) := gotF (Cond.eq_ints e6 (Term.int_eval (0))) (not_v (Cond.before_iff.mp (hsets _ (List.mem_of_getElem? (i := 2) rfl))))
  obtain ⟨n, o, h1, h2, h3, _, L, rfl, ⟨rfl, N⟩, hq⟩ := rm_law l s _ hw p1 zc s.heap s.heap.size (Nat.le_refl _) S8 n3 p e ha hc hk s m _ below hf ((Spec.applies_iff_loose hf).mp happ).1 ⟨rfl, State.Warmed39.refl s, rfl⟩ trivial
  refine ⟨n, _, h1, h2, h3, hpost _ _ _ _ _ _ ⟨Cond.after_iff.mpr rfl, Cond.after_iff.mpr (eq_i res_at (Term.int_eval (1)) rfl), trivial⟩ ⟨hq.1, hq.2.1, (hq.2.2.sift fun y hy => Or.inr (N y hy)).mono (by decide) (by decide)⟩⟩
theorem main_1_1 : Claimed_1_1 := comes_1 fun _ _ _ _ _ _ h hF => ⟨h.1, hF⟩
theorem main_1_2 : Claimed_1_2 := comes_1 fun _ _ _ _ _ _ h hF => ⟨h.2.1, hF⟩
end Jvm.Pilot.@@N@@
namespace Jvm.Pilot.@@N@@
open Jvm Jvm.ClassFile Sem Op Lib Jvm.Free Jvm.Stand Jvm.Pilot.@@N@@.Jvm.D
/-! MADE BY PROGRAM (witnessworld.py) out of the Statement's table words and the real class files: 20 classes; the members and pool entries that the words name. The judged class is class 1, her method 2. -/
namespace start1
open Jvm.ClassFile
def u (s : String) : CpInfo := .utf8 (stringToUtf16 s)
/-- a pool by its gaps: so many unusable entries, then the entry; so many at the end -/
def gap : Nat → List CpInfo → List CpInfo
  | 0, r => r
  | n + 1, r => .unusable :: gap n r
def poolList (es : List (Nat × CpInfo)) (last : Nat) : List CpInfo := es.foldr (fun e r => gap e.1 (e.2 :: r)) (gap last [])
def pool (es : List (Nat × CpInfo)) (last : Nat) : Array CpInfo := ⟨poolList es last⟩
def fileOf (pool : Array CpInfo) (this : Nat) (attrs : Array Attribute := #[]) (ms : Array MethodInfo := #[]) (fl : Nat := 33) (sup : Nat := 0) (ifs : Array Nat := #[]) (fds : Array FieldInfo := #[]) : ClassFile where
  minorVersion := 0
  majorVersion := 65
  constantPool := pool
  accessFlags := fl
  thisClass := this
  superClass := sup
  interfaces := ifs
  fields := fds
  methods := ms
  attributes := attrs
def plain (name : String) (sup : Option ClassId) : Class where
  name := name
  kind := .ordinary
  loader := none
  accessFlags := 33
  super := sup
  interfaces := #[]
  cf := none
  fields := #[]
  methods := #[]
  instanceTypes := #[]
  staticTypes := #[]
  resolved := #[]
  callSites := []
  init := .initialized
  statics := none
  mirror := none

def pool0 : Array CpInfo := pool [(5, u "<init>"), (0, u "()V"), (1, .class_ 10), (1, u "java/lang/Object")] 113

def k0c0 : Code := { maxStack := 0, maxLocals := 1, code := object_method_1_code, exceptionTable := #[], attributes := #[] }
def k0m0 : Method := { name := "<init>", desc := "()V", sig := { parameters := [], returnType := none }, accessFlags := 1, code := some k0c0 }
/-- java/lang/Object -/
def k0 : Class := { plain "java/lang/Object" none with
  accessFlags := 33
  interfaces := #[]
  cf := some (fileOf pool0 8 #[] #[{ accessFlags := 1, nameIndex := 5, descriptorIndex := 6, attributes := #[] }] 33 0 #[] #[])
  fields := #[]
  methods := #[k0m0]
  instanceTypes := #[]
  staticTypes := #[]
  resolved := Array.replicate 124 none
  statics := none }

def pool1 : Array CpInfo := pool [(2, .class_ 4), (0, .nameAndType 5 6), (0, u "java/lang/Object"), (0, u "<init>"), (0, u "()V"), (0, .methodref 8 9), (0, .class_ 10), (0, .nameAndType 11 6), (0, u "com/example/tektonik/tektonik/schema/ElementText"), (0, u "startElement"), (0, .methodref 8 13), (0, .nameAndType 14 15), (0, u "endElement"), (0, u "()Z"), (0, .methodref 8 3), (0, .methodref 18 19), (0, .class_ 20), (0, .nameAndType 21 22), (0, u "com/example/tektonik/tektonik/schema/ElementTextEndElementPinLaw"), (0, u "step"), (0, u "(Lcom/example/tektonik/tektonik/schema/ElementText;IZ)I"), (0, .methodref 8 24), (0, .nameAndType 25 15), (0, u "holdsElement"), (3, u "law"), (0, u "(I)Z")] 2

def k1m0 : Method := { name := "<init>", desc := "()V", sig := { parameters := [], returnType := none }, accessFlags := 1, code := none }
def k1c1 : Code := { maxStack := 2, maxLocals := 5, code := method_2_code, exceptionTable := #[], attributes := #[] }
def k1m1 : Method := { name := "step", desc := "(Lcom/example/tektonik/tektonik/schema/ElementText;IZ)I", sig := { parameters := [(.object "com/example/tektonik/tektonik/schema/ElementText"), .int, .boolean], returnType := some .int }, accessFlags := 10, code := some k1c1 }
def k1c2 : Code := { maxStack := 4, maxLocals := 4, code := code, exceptionTable := #[], attributes := #[] }
def k1m2 : Method := { name := "law", desc := "(I)Z", sig := { parameters := [.int], returnType := some .boolean }, accessFlags := 9, code := some k1c2 }
/-- com/example/tektonik/tektonik/schema/ElementTextEndElementPinLaw -/
def k1 : Class := { plain "com/example/tektonik/tektonik/schema/ElementTextEndElementPinLaw" (some 0) with
  accessFlags := 49
  interfaces := #[]
  cf := some (fileOf pool1 18 #[] #[{ accessFlags := 1, nameIndex := 5, descriptorIndex := 6, attributes := #[] }, { accessFlags := 10, nameIndex := 21, descriptorIndex := 22, attributes := #[] }, { accessFlags := 9, nameIndex := 29, descriptorIndex := 30, attributes := #[] }] 49 2 #[] #[])
  fields := #[]
  methods := #[k1m0, k1m1, k1m2]
  instanceTypes := #[]
  staticTypes := #[]
  resolved := Array.replicate 33 none
  statics := none }

def pool2 : Array CpInfo := pool [(1, .methodref 2 3), (0, .class_ 4), (0, .nameAndType 5 6), (0, u "java/lang/Object"), (0, u "<init>"), (0, u "()V"), (0, .class_ 8), (0, u "java/lang/StringBuilder"), (0, .methodref 7 3), (0, .fieldref 11 12), (0, .class_ 13), (0, .nameAndType 14 15), (0, u "com/example/tektonik/tektonik/schema/ElementText"), (0, u "text"), (0, u "Ljava/lang/StringBuilder;"), (0, .fieldref 11 17), (0, .nameAndType 18 19), (0, u "open"), (0, u "I"), (0, .fieldref 11 21), (0, .nameAndType 22 23), (0, u "holdsElement"), (0, u "Z"), (6, u "startElement"), (3, u "endElement"), (0, u "()Z")] 3

def k2c0 : Code := { maxStack := 3, maxLocals := 1, code := prog_69_method_1_code, exceptionTable := #[], attributes := #[] }
def k2m0 : Method := { name := "<init>", desc := "()V", sig := { parameters := [], returnType := none }, accessFlags := 1, code := some k2c0 }
def k2c1 : Code := { maxStack := 3, maxLocals := 1, code := prog_69_method_2_code, exceptionTable := #[], attributes := #[] }
def k2m1 : Method := { name := "startElement", desc := "()V", sig := { parameters := [], returnType := none }, accessFlags := 1, code := some k2c1 }
def k2c2 : Code := { maxStack := 3, maxLocals := 2, code := prog_69_method_4_code, exceptionTable := #[], attributes := #[] }
def k2m2 : Method := { name := "endElement", desc := "()Z", sig := { parameters := [], returnType := some .boolean }, accessFlags := 1, code := some k2c2 }
def k2c3 : Code := { maxStack := 1, maxLocals := 1, code := prog_69_method_5_code, exceptionTable := #[], attributes := #[] }
def k2m3 : Method := { name := "holdsElement", desc := "()Z", sig := { parameters := [], returnType := some .boolean }, accessFlags := 1, code := some k2c3 }
/-- com/example/tektonik/tektonik/schema/ElementText -/
def k2 : Class := { plain "com/example/tektonik/tektonik/schema/ElementText" (some 0) with
  accessFlags := 49
  interfaces := #[]
  cf := some (fileOf pool2 11 #[] #[{ accessFlags := 1, nameIndex := 5, descriptorIndex := 6, attributes := #[] }, { accessFlags := 1, nameIndex := 30, descriptorIndex := 6, attributes := #[] }, { accessFlags := 1, nameIndex := 34, descriptorIndex := 35, attributes := #[] }, { accessFlags := 1, nameIndex := 22, descriptorIndex := 35, attributes := #[] }] 49 2 #[] #[{ accessFlags := 18, nameIndex := 14, descriptorIndex := 15, attributes := #[] }, { accessFlags := 2, nameIndex := 18, descriptorIndex := 19, attributes := #[] }, { accessFlags := 2, nameIndex := 22, descriptorIndex := 23, attributes := #[] }])
  fields := #[{ name := "text", type := (.object "java/lang/StringBuilder"), accessFlags := 18, slot := 0, constantValue := 0 }, { name := "open", type := .int, accessFlags := 2, slot := 1, constantValue := 0 }, { name := "holdsElement", type := .boolean, accessFlags := 2, slot := 2, constantValue := 0 }]
  methods := #[k2m0, k2m1, k2m2, k2m3]
  instanceTypes := #[(.object "java/lang/StringBuilder"), .int, .boolean]
  staticTypes := #[]
  resolved := Array.replicate 39 none
  statics := none }

def pool3 : Array CpInfo := pool [(1, .class_ 2), (0, u "java/lang/Appendable"), (0, .class_ 4), (0, u "java/lang/Object")] 9

/-- java/lang/Appendable -/
def k3 : Class := { plain "java/lang/Appendable" (some 0) with
  accessFlags := 1537
  interfaces := #[]
  cf := some (fileOf pool3 1 #[] #[] 1537 3 #[] #[])
  fields := #[]
  methods := #[]
  instanceTypes := #[]
  staticTypes := #[]
  resolved := Array.replicate 14 none
  statics := none }

def pool4 : Array CpInfo := pool [(2, .class_ 4), (1, u "java/lang/CharSequence"), (42, .class_ 48), (0, u "java/lang/CharSequence$1CodePointIterator"), (10, .class_ 60), (0, u "java/lang/CharSequence$1CharIterator"), (5, .class_ 67), (0, u "java/lang/Object")] 63

/-- java/lang/CharSequence -/
def k4 : Class := { plain "java/lang/CharSequence" (some 0) with
  accessFlags := 1537
  interfaces := #[]
  cf := some (fileOf pool4 2 #[.nestMembers #[47, 59]] #[] 1537 66 #[] #[])
  fields := #[]
  methods := #[]
  instanceTypes := #[]
  staticTypes := #[]
  resolved := Array.replicate 131 none
  statics := none }

def pool5 : Array CpInfo := pool [(1, .class_ 2), (0, u "java/lang/String"), (0, .methodref 4 5), (0, .class_ 6), (0, .nameAndType 7 8), (0, u "java/lang/Object"), (0, u "<init>"), (0, u "()V"), (1, .class_ 12), (1, u "java/lang/AbstractStringBuilder"), (0, u "EMPTYVALUE"), (0, u "[B"), (0, .fieldref 10 16), (0, .nameAndType 17 14), (0, u "value"), (0, .fieldref 1 19), (0, .nameAndType 20 21), (0, u "COMPACT_STRINGS"), (0, u "Z"), (0, .fieldref 10 23), (0, .nameAndType 24 25), (0, u "coder"), (0, u "B"), (22, .class_ 49), (0, u "java/lang/CharSequence"), (25, u "maybeLatin1"), (5, u "count"), (0, u "I"), (20, u "(I)V"), (340, .class_ 445), (0, u "java/lang/Appendable")] 163

def k5m0 : Method := { name := "<init>", desc := "()V", sig := { parameters := [], returnType := none }, accessFlags := 0, code := none }
def k5c1 : Code := { maxStack := 2, maxLocals := 2, code := jdk_68_method_2_code, exceptionTable := #[], attributes := #[] }
def k5m1 : Method := { name := "<init>", desc := "(I)V", sig := { parameters := [.int], returnType := none }, accessFlags := 0, code := some k5c1 }
/-- java/lang/AbstractStringBuilder -/
def k5 : Class := { plain "java/lang/AbstractStringBuilder" (some 0) with
  accessFlags := 1056
  interfaces := #[3, 4]
  cf := some (fileOf pool5 10 #[] #[{ accessFlags := 0, nameIndex := 7, descriptorIndex := 8, attributes := #[] }, { accessFlags := 0, nameIndex := 7, descriptorIndex := 103, attributes := #[] }] 1056 4 #[444, 48] #[{ accessFlags := 0, nameIndex := 17, descriptorIndex := 14, attributes := #[] }, { accessFlags := 0, nameIndex := 24, descriptorIndex := 25, attributes := #[] }, { accessFlags := 0, nameIndex := 75, descriptorIndex := 21, attributes := #[] }, { accessFlags := 0, nameIndex := 81, descriptorIndex := 82, attributes := #[] }, { accessFlags := 26, nameIndex := 13, descriptorIndex := 14, attributes := #[] }])
  fields := #[{ name := "value", type := (.array .byte), accessFlags := 0, slot := 0, constantValue := 0 }, { name := "coder", type := .byte, accessFlags := 0, slot := 1, constantValue := 0 }, { name := "maybeLatin1", type := .boolean, accessFlags := 0, slot := 2, constantValue := 0 }, { name := "count", type := .int, accessFlags := 0, slot := 3, constantValue := 0 }, { name := "EMPTYVALUE", type := (.array .byte), accessFlags := 26, slot := 0, constantValue := 0 }]
  methods := #[k5m0, k5m1]
  instanceTypes := #[(.array .byte), .byte, .boolean, .int]
  staticTypes := #[(.array .byte)]
  resolved := Array.replicate 609 none
  statics := none }

def pool6 : Array CpInfo := pool [(1, .class_ 2), (0, u "java/io/Serializable"), (0, .class_ 4), (0, u "java/lang/Object")] 2

/-- java/io/Serializable -/
def k6 : Class := { plain "java/io/Serializable" (some 0) with
  accessFlags := 1537
  interfaces := #[]
  cf := some (fileOf pool6 1 #[] #[] 1537 3 #[] #[])
  fields := #[]
  methods := #[]
  instanceTypes := #[]
  staticTypes := #[]
  resolved := Array.replicate 7 none
  statics := none }

def pool7 : Array CpInfo := pool [(1, .class_ 2), (0, u "java/lang/Comparable"), (0, .class_ 4), (0, u "java/lang/Object")] 7

/-- java/lang/Comparable -/
def k7 : Class := { plain "java/lang/Comparable" (some 0) with
  accessFlags := 1537
  interfaces := #[]
  cf := some (fileOf pool7 1 #[] #[] 1537 3 #[] #[])
  fields := #[]
  methods := #[]
  instanceTypes := #[]
  staticTypes := #[]
  resolved := Array.replicate 12 none
  statics := none }

def pool8 : Array CpInfo := pool [(1, .methodref 2 3), (0, .class_ 4), (0, .nameAndType 5 6), (0, u "java/lang/AbstractStringBuilder"), (0, u "<init>"), (0, u "(I)V"), (17, .class_ 26), (1, u "java/lang/StringBuilder"), (118, u "()V"), (203, .class_ 350), (0, u "java/lang/Appendable"), (0, .class_ 352), (0, u "java/io/Serializable"), (0, .class_ 354), (0, u "java/lang/Comparable"), (0, .class_ 356), (0, u "java/lang/CharSequence"), (0, u "serialVersionUID"), (0, u "J")] 63

def k8c0 : Code := { maxStack := 2, maxLocals := 1, code := jdk_67_method_1_code, exceptionTable := #[], attributes := #[] }
def k8m0 : Method := { name := "<init>", desc := "()V", sig := { parameters := [], returnType := none }, accessFlags := 1, code := some k8c0 }
/-- java/lang/StringBuilder -/
def k8 : Class := { plain "java/lang/StringBuilder" (some 5) with
  accessFlags := 49
  interfaces := #[3, 6, 7, 4]
  cf := some (fileOf pool8 24 #[] #[{ accessFlags := 1, nameIndex := 5, descriptorIndex := 145, attributes := #[] }] 49 2 #[349, 351, 353, 355] #[{ accessFlags := 24, nameIndex := 357, descriptorIndex := 358, attributes := #[] }])
  fields := #[{ name := "serialVersionUID", type := .long, accessFlags := 24, slot := 0, constantValue := 0 }]
  methods := #[k8m0]
  instanceTypes := #[(.array .byte), .byte, .boolean, .int]
  staticTypes := #[.long]
  resolved := Array.replicate 422 none
  statics := none }

def pool9 : Array CpInfo := pool [(1, .class_ 2), (0, u "java/lang/constant/Constable"), (0, .class_ 4), (0, u "java/lang/Object")] 6

/-- java/lang/constant/Constable -/
def k9 : Class := { plain "java/lang/constant/Constable" (some 0) with
  accessFlags := 1537
  interfaces := #[]
  cf := some (fileOf pool9 1 #[] #[] 1537 3 #[] #[])
  fields := #[]
  methods := #[]
  instanceTypes := #[]
  staticTypes := #[]
  resolved := Array.replicate 11 none
  statics := none }

def pool10 : Array CpInfo := pool [(1, .class_ 2), (0, u "java/lang/constant/ConstantDesc"), (0, .class_ 4), (0, u "java/lang/Object")] 32

/-- java/lang/constant/ConstantDesc -/
def k10 : Class := { plain "java/lang/constant/ConstantDesc" (some 0) with
  accessFlags := 1537
  interfaces := #[]
  cf := some (fileOf pool10 1 #[] #[] 1537 3 #[] #[])
  fields := #[]
  methods := #[]
  instanceTypes := #[]
  staticTypes := #[]
  resolved := Array.replicate 37 none
  statics := none }

def pool11 : Array CpInfo := pool [(2, .class_ 4), (1, u "java/lang/Object"), (0, u "<init>"), (0, u "()V"), (3, .class_ 12), (1, u "java/lang/String"), (0, u "value"), (0, u "[B"), (2, u "coder"), (0, u "B"), (2, u "hash"), (0, u "I"), (2, u "hashIsZero"), (0, u "Z"), (13, u "COMPACT_STRINGS"), (534, .class_ 576), (0, u "java/lang/CharSequence"), (22, u "CASE_INSENSITIVE_ORDER"), (0, u "Ljava/util/Comparator;"), (500, u "serialPersistentFields"), (0, u "[Ljava/io/ObjectStreamField;"), (0, .class_ 1104), (0, u "java/lang/String$CaseInsensitiveComparator"), (1, .class_ 1107), (0, u "java/io/Serializable"), (0, .class_ 1109), (0, u "java/lang/Comparable"), (0, .class_ 1111), (0, u "java/lang/constant/Constable"), (0, .class_ 1113), (0, u "java/lang/constant/ConstantDesc"), (2, u "serialVersionUID"), (0, u "J"), (3, u "REPL"), (0, u "C"), (2, u "LATIN1"), (1, u "UTF16")] 323

def k11m0 : Method := { name := "<init>", desc := "()V", sig := { parameters := [], returnType := none }, accessFlags := 1, code := none }
/-- java/lang/String -/
def k11 : Class := { plain "java/lang/String" (some 0) with
  accessFlags := 49
  interfaces := #[6, 7, 4, 9, 10]
  cf := some (fileOf pool11 10 #[.nestMembers #[1103]] #[{ accessFlags := 1, nameIndex := 5, descriptorIndex := 6, attributes := #[] }] 49 2 #[1106, 1108, 575, 1110, 1112] #[{ accessFlags := 18, nameIndex := 13, descriptorIndex := 14, attributes := #[] }, { accessFlags := 18, nameIndex := 17, descriptorIndex := 18, attributes := #[] }, { accessFlags := 2, nameIndex := 21, descriptorIndex := 22, attributes := #[] }, { accessFlags := 2, nameIndex := 25, descriptorIndex := 26, attributes := #[] }, { accessFlags := 26, nameIndex := 1116, descriptorIndex := 1117, attributes := #[] }, { accessFlags := 24, nameIndex := 40, descriptorIndex := 26, attributes := #[] }, { accessFlags := 26, nameIndex := 1101, descriptorIndex := 1102, attributes := #[] }, { accessFlags := 26, nameIndex := 1121, descriptorIndex := 1122, attributes := #[] }, { accessFlags := 25, nameIndex := 599, descriptorIndex := 600, attributes := #[] }, { accessFlags := 24, nameIndex := 1125, descriptorIndex := 18, attributes := #[] }, { accessFlags := 24, nameIndex := 1127, descriptorIndex := 18, attributes := #[] }])
  fields := #[{ name := "value", type := (.array .byte), accessFlags := 18, slot := 0, constantValue := 0 }, { name := "coder", type := .byte, accessFlags := 18, slot := 1, constantValue := 0 }, { name := "hash", type := .int, accessFlags := 2, slot := 2, constantValue := 0 }, { name := "hashIsZero", type := .boolean, accessFlags := 2, slot := 3, constantValue := 0 }, { name := "serialVersionUID", type := .long, accessFlags := 26, slot := 0, constantValue := 0 }, { name := "COMPACT_STRINGS", type := .boolean, accessFlags := 24, slot := 1, constantValue := 0 }, { name := "serialPersistentFields", type := (.array (.object "java/io/ObjectStreamField")), accessFlags := 26, slot := 2, constantValue := 0 }, { name := "REPL", type := .char, accessFlags := 26, slot := 3, constantValue := 0 }, { name := "CASE_INSENSITIVE_ORDER", type := (.object "java/util/Comparator"), accessFlags := 25, slot := 4, constantValue := 0 }, { name := "LATIN1", type := .byte, accessFlags := 24, slot := 5, constantValue := 0 }, { name := "UTF16", type := .byte, accessFlags := 24, slot := 6, constantValue := 0 }]
  methods := #[k11m0]
  instanceTypes := #[(.array .byte), .byte, .int, .boolean]
  staticTypes := #[.long, .boolean, (.array (.object "java/io/ObjectStreamField")), .char, (.object "java/util/Comparator"), .byte, .byte]
  resolved := Array.replicate 1451 none
  statics := some 0 }

def pool12 : Array CpInfo := pool [(4, .class_ 6), (1, u "java/lang/Object"), (0, u "<init>"), (0, u "()V"), (5, .class_ 16), (1, u "java/lang/StringLatin1"), (104, u "$assertionsDisabled"), (0, u "Z"), (98, .class_ 223), (1, u "java/lang/StringLatin1$LinesSpliterator"), (166, .class_ 391), (0, u "java/lang/StringLatin1$CharsSpliterator")] 3

def k12m0 : Method := { name := "<init>", desc := "()V", sig := { parameters := [], returnType := none }, accessFlags := 0, code := none }
/-- java/lang/StringLatin1 -/
def k12 : Class := { plain "java/lang/StringLatin1" (some 0) with
  accessFlags := 48
  interfaces := #[]
  cf := some (fileOf pool12 14 #[.nestMembers #[390, 221]] #[{ accessFlags := 0, nameIndex := 7, descriptorIndex := 8, attributes := #[] }] 48 4 #[] #[{ accessFlags := 4120, nameIndex := 121, descriptorIndex := 122, attributes := #[] }])
  fields := #[{ name := "$assertionsDisabled", type := .boolean, accessFlags := 4120, slot := 0, constantValue := 0 }]
  methods := #[k12m0]
  instanceTypes := #[]
  staticTypes := #[.boolean]
  resolved := Array.replicate 395 none
  statics := none }

def pool13 : Array CpInfo := pool [(2, .class_ 4), (1, u "java/lang/Object"), (0, u "<init>"), (0, u "()V"), (17, .class_ 26), (1, u "jdk/internal/util/Preconditions"), (28, .class_ 56), (0, u "jdk/internal/util/Preconditions$4"), (57, .class_ 115), (0, u "jdk/internal/util/Preconditions$1"), (7, u "SIOOBE_FORMATTER"), (0, u "Ljava/util/function/BiFunction;"), (0, .class_ 126), (0, u "jdk/internal/util/Preconditions$2"), (3, u "AIOOBE_FORMATTER"), (0, .class_ 132), (0, u "jdk/internal/util/Preconditions$3"), (3, u "IOOBE_FORMATTER")] 57

def k13m0 : Method := { name := "<init>", desc := "()V", sig := { parameters := [], returnType := none }, accessFlags := 1, code := none }
/-- jdk/internal/util/Preconditions -/
def k13 : Class := { plain "jdk/internal/util/Preconditions" (some 0) with
  accessFlags := 33
  interfaces := #[]
  cf := some (fileOf pool13 24 #[.nestMembers #[55, 131, 125, 114]] #[{ accessFlags := 1, nameIndex := 5, descriptorIndex := 6, attributes := #[] }] 33 2 #[] #[{ accessFlags := 25, nameIndex := 123, descriptorIndex := 124, attributes := #[] }, { accessFlags := 25, nameIndex := 130, descriptorIndex := 124, attributes := #[] }, { accessFlags := 25, nameIndex := 136, descriptorIndex := 124, attributes := #[] }])
  fields := #[{ name := "SIOOBE_FORMATTER", type := (.object "java/util/function/BiFunction"), accessFlags := 25, slot := 0, constantValue := 0 }, { name := "AIOOBE_FORMATTER", type := (.object "java/util/function/BiFunction"), accessFlags := 25, slot := 1, constantValue := 0 }, { name := "IOOBE_FORMATTER", type := (.object "java/util/function/BiFunction"), accessFlags := 25, slot := 2, constantValue := 0 }]
  methods := #[k13m0]
  instanceTypes := #[]
  staticTypes := #[(.object "java/util/function/BiFunction"), (.object "java/util/function/BiFunction"), (.object "java/util/function/BiFunction")]
  resolved := Array.replicate 194 none
  statics := some 1 }

def pool14 : Array CpInfo := pool [(9, u "<init>"), (6, .class_ 18), (1, u "java/lang/Object"), (0, u "()V"), (1, .class_ 23), (1, u "jdk/internal/util/ArraysSupport"), (0, u "LOG2_ARRAY_LONG_INDEX_SCALE"), (0, u "I"), (2, u "U"), (0, u "Ljdk/internal/misc/Unsafe;"), (8, u "BIG_ENDIAN"), (0, u "Z"), (8, u "LOG2_BYTE_BIT_SIZE"), (4, u "LOG2_ARRAY_INT_INDEX_SCALE"), (54, u "JLA"), (0, u "Ljdk/internal/access/JavaLangAccess;"), (11, u "LOG2_ARRAY_BOOLEAN_INDEX_SCALE"), (9, u "LOG2_ARRAY_BYTE_INDEX_SCALE"), (5, u "LOG2_ARRAY_CHAR_INDEX_SCALE"), (5, u "LOG2_ARRAY_SHORT_INDEX_SCALE"), (18, u "LOG2_ARRAY_FLOAT_INDEX_SCALE"), (24, u "LOG2_ARRAY_DOUBLE_INDEX_SCALE"), (89, u "T_BOOLEAN"), (2, u "T_CHAR"), (1, u "T_FLOAT"), (1, u "T_DOUBLE"), (1, u "T_BYTE"), (1, u "T_SHORT"), (1, u "T_INT"), (1, u "T_LONG"), (1, u "SOFT_MAX_ARRAY_LENGTH")] 83

def k14m0 : Method := { name := "<init>", desc := "()V", sig := { parameters := [], returnType := none }, accessFlags := 2, code := none }
/-- jdk/internal/util/ArraysSupport -/
def k14 : Class := { plain "jdk/internal/util/ArraysSupport" (some 0) with
  accessFlags := 33
  interfaces := #[]
  cf := some (fileOf pool14 21 #[] #[{ accessFlags := 2, nameIndex := 9, descriptorIndex := 19, attributes := #[] }] 33 16 #[] #[{ accessFlags := 24, nameIndex := 28, descriptorIndex := 29, attributes := #[] }, { accessFlags := 26, nameIndex := 38, descriptorIndex := 39, attributes := #[] }, { accessFlags := 25, nameIndex := 121, descriptorIndex := 25, attributes := #[] }, { accessFlags := 25, nameIndex := 131, descriptorIndex := 25, attributes := #[] }, { accessFlags := 25, nameIndex := 137, descriptorIndex := 25, attributes := #[] }, { accessFlags := 25, nameIndex := 143, descriptorIndex := 25, attributes := #[] }, { accessFlags := 25, nameIndex := 53, descriptorIndex := 25, attributes := #[] }, { accessFlags := 25, nameIndex := 24, descriptorIndex := 25, attributes := #[] }, { accessFlags := 25, nameIndex := 162, descriptorIndex := 25, attributes := #[] }, { accessFlags := 25, nameIndex := 187, descriptorIndex := 25, attributes := #[] }, { accessFlags := 26, nameIndex := 48, descriptorIndex := 25, attributes := #[] }, { accessFlags := 25, nameIndex := 277, descriptorIndex := 25, attributes := #[] }, { accessFlags := 25, nameIndex := 280, descriptorIndex := 25, attributes := #[] }, { accessFlags := 25, nameIndex := 282, descriptorIndex := 25, attributes := #[] }, { accessFlags := 25, nameIndex := 284, descriptorIndex := 25, attributes := #[] }, { accessFlags := 25, nameIndex := 286, descriptorIndex := 25, attributes := #[] }, { accessFlags := 25, nameIndex := 288, descriptorIndex := 25, attributes := #[] }, { accessFlags := 25, nameIndex := 290, descriptorIndex := 25, attributes := #[] }, { accessFlags := 25, nameIndex := 292, descriptorIndex := 25, attributes := #[] }, { accessFlags := 26, nameIndex := 108, descriptorIndex := 109, attributes := #[] }, { accessFlags := 25, nameIndex := 294, descriptorIndex := 25, attributes := #[] }])
  fields := #[{ name := "U", type := (.object "jdk/internal/misc/Unsafe"), accessFlags := 24, slot := 0, constantValue := 0 }, { name := "BIG_ENDIAN", type := .boolean, accessFlags := 26, slot := 1, constantValue := 0 }, { name := "LOG2_ARRAY_BOOLEAN_INDEX_SCALE", type := .int, accessFlags := 25, slot := 2, constantValue := 0 }, { name := "LOG2_ARRAY_BYTE_INDEX_SCALE", type := .int, accessFlags := 25, slot := 3, constantValue := 0 }, { name := "LOG2_ARRAY_CHAR_INDEX_SCALE", type := .int, accessFlags := 25, slot := 4, constantValue := 0 }, { name := "LOG2_ARRAY_SHORT_INDEX_SCALE", type := .int, accessFlags := 25, slot := 5, constantValue := 0 }, { name := "LOG2_ARRAY_INT_INDEX_SCALE", type := .int, accessFlags := 25, slot := 6, constantValue := 0 }, { name := "LOG2_ARRAY_LONG_INDEX_SCALE", type := .int, accessFlags := 25, slot := 7, constantValue := 0 }, { name := "LOG2_ARRAY_FLOAT_INDEX_SCALE", type := .int, accessFlags := 25, slot := 8, constantValue := 0 }, { name := "LOG2_ARRAY_DOUBLE_INDEX_SCALE", type := .int, accessFlags := 25, slot := 9, constantValue := 0 }, { name := "LOG2_BYTE_BIT_SIZE", type := .int, accessFlags := 26, slot := 10, constantValue := 0 }, { name := "T_BOOLEAN", type := .int, accessFlags := 25, slot := 11, constantValue := 0 }, { name := "T_CHAR", type := .int, accessFlags := 25, slot := 12, constantValue := 0 }, { name := "T_FLOAT", type := .int, accessFlags := 25, slot := 13, constantValue := 0 }, { name := "T_DOUBLE", type := .int, accessFlags := 25, slot := 14, constantValue := 0 }, { name := "T_BYTE", type := .int, accessFlags := 25, slot := 15, constantValue := 0 }, { name := "T_SHORT", type := .int, accessFlags := 25, slot := 16, constantValue := 0 }, { name := "T_INT", type := .int, accessFlags := 25, slot := 17, constantValue := 0 }, { name := "T_LONG", type := .int, accessFlags := 25, slot := 18, constantValue := 0 }, { name := "JLA", type := (.object "jdk/internal/access/JavaLangAccess"), accessFlags := 26, slot := 19, constantValue := 0 }, { name := "SOFT_MAX_ARRAY_LENGTH", type := .int, accessFlags := 25, slot := 20, constantValue := 0 }]
  methods := #[k14m0]
  instanceTypes := #[]
  staticTypes := #[(.object "jdk/internal/misc/Unsafe"), .boolean, .int, .int, .int, .int, .int, .int, .int, .int, .int, .int, .int, .int, .int, .int, .int, .int, .int, (.object "jdk/internal/access/JavaLangAccess"), .int]
  resolved := Array.replicate 378 none
  statics := none }

def pool15 : Array CpInfo := pool [(1, u "java/lang/Cloneable"), (0, .class_ 1), (0, u "java/lang/Object"), (0, .class_ 3)] 3

/-- java/lang/Cloneable -/
def k15 : Class := { plain "java/lang/Cloneable" (some 0) with
  accessFlags := 1537
  interfaces := #[]
  cf := some (fileOf pool15 2 #[] #[] 1537 4 #[] #[])
  fields := #[]
  methods := #[]
  instanceTypes := #[]
  staticTypes := #[]
  resolved := Array.replicate 8 none
  statics := none }

/-- the primitive byte -/
def k16 : Class := { plain "byte" none with kind := .primitive 'B', accessFlags := 0x411 }
/-- [B -/
def k17 : Class := { plain "[B" (some 0) with kind := .array 16 .byte, interfaces := #[15, 6], accessFlags := 1041 }

/-- the primitive int -/
def k18 : Class := { plain "int" none with kind := .primitive 'I', accessFlags := 0x411 }
/-- [I -/
def k19 : Class := { plain "[I" (some 0) with kind := .array 18 .int, interfaces := #[15, 6], accessFlags := 1041 }

def heap : Heap := #[{ cls := 11, slots := #[.long 0, .int 1, .null, .int 0, .null, .int 0, .int 0], vm := .statics 11 },
  { cls := 13, slots := #[.null, .null, .null], vm := .statics 13 }]
def classes : Array Class := #[k0, k1, k2, k3, k4, k5, k6, k7, k8, k9, k10, k11, k12, k13, k14, k15, k16, k17, k18, k19]
def interned : List (Array UInt16 × Addr) := []
def slotsUsed : Nat := 10
def theMethod : MethodId := ⟨1, 2⟩
def args0 : Array Value := #[.int 5]
def aboutOver (below : List Frame) : State where
  vm := { classes := classes, interned := interned.toArray }
  heap := heap
  slotsUsed := slotsUsed
  threads := #[{ frames := .invoking theMethod args0 :: below }]
def below0 : List Frame := [.native { method := ⟨0, 0⟩, args := #[] }]
def about1 : State := aboutOver below0
def p0 : Program := .bare "" "" ""
def e0 : Env := launch0.env 0 0 0
theorem w_frames : about1.frames = Frame.invoking theMethod args0 :: below0 := rfl
set_option maxRecDepth 65536 in
theorem w_args : argsFit about1.vm theMethod args0 = true := by decide +kernel
set_option maxRecDepth 65536 in
theorem w_heap : heapFits about1 = true := by decide +kernel
set_option maxRecDepth 65536 in
theorem w_runnable : about1.curStatus? = some .runnable := by decide +kernel
set_option maxRecDepth 65536 in
theorem w_alone : about1.alone = true := by decide +kernel
set_option maxRecDepth 65536 in
theorem w_named : about1.methodNamed? x = some theMethod := by decide +kernel
set_option maxRecDepth 65536 in
theorem w_hears : about1.hears theMethod below0 = true := by decide +kernel
set_option maxRecDepth 65536 in
theorem w_ripe : about1.ripe theMethod args0 below0 = true := by decide +kernel
theorem w_running : about1.status = .running := rfl
set_option maxRecDepth 65536 in
theorem w_room : about1.hasRoom e0.platform room_1 = true :=
  launch0.hasRoom_least _ room_1 (by decide +kernel) (by decide +kernel) (by decide +kernel) (by decide +kernel) (by decide +kernel) (by decide +kernel)
theorem allAtoms_all (ts : List Jvm.Cond) (a : Array Jvm.Value) (st : Jvm.State) : (allAtoms ts).before a st = ts.all (fun c => c.before a st) := by
  induction ts with
  | nil => rfl
  | cons c t ih =>
    show (Jvm.Cond.and c (allAtoms t)).before a st = _
    rw [Jvm.Cond.before_and, ih, List.all_cons]
def words1 : List Jvm.Cond := Jvm.Cond.code x code maxLocals ret :: tables_1
/-- a 'code' word, met by the world's own term for the bytes: nothing is compared byte by byte -/
theorem code_word {y : MethodName} {bytes : ByteArray} {mx : Nat} {rt : Option FieldType} {a : Array Value} {s : State} {m : MethodId} {meth : Method} {c : Code} (h1 : s.methodNamed? y = some m) (h2 : s.vm.method? m = some meth) (h3 : meth.code = some c) (h4 : c.code = bytes)
    (h5 : (c.maxLocals == mx && c.exceptionTable.isEmpty && decide (c.maxStack ≤ mostOperands) && decide (meth.sig.returnType = rt) && !meth.locks && decide (parseMethodDescriptor y.desc = some meth.sig)) = true) : (Jvm.Cond.code y bytes mx rt).before a s = true := by
  simp only [Bool.and_eq_true, beq_iff_eq, Bool.not_eq_true', decide_eq_true_eq] at h5
  obtain ⟨⟨⟨⟨⟨g1, g2⟩, g3⟩, g4⟩, g5⟩, g6⟩ := h5
  simp [Cond.before, Cond.holds, Cond.value, h1, h2, h3, h4, g1, g2, g3, g4, g5, g6]
def isCode : Jvm.Cond → Bool
  | .code _ _ _ _ => true
  | _ => false
theorem all_split {L : List Jvm.Cond} {P : Jvm.Cond → Bool} (h1 : L.all (fun c => isCode c || P c) = true) (h2 : ∀ c ∈ L.filter isCode, P c = true) : L.all P = true := by
  refine List.all_eq_true.mpr fun c hc => ?_
  have h := List.all_eq_true.mp h1 c hc
  rcases Bool.eq_false_or_eq_true (isCode c) with hi | hi
  · exact h2 c (List.mem_filter.mpr ⟨hc, hi⟩)
  · simpa [hi] using h
set_option maxRecDepth 65536 in
theorem w_c0 : (Jvm.Cond.code x code maxLocals ret).before args0 about1 = true := code_word (m := ⟨1, 2⟩) (meth := k1m2) (c := k1c2) (by decide +kernel) rfl rfl rfl (by decide +kernel)
set_option maxRecDepth 65536 in
theorem w_c1 : (Jvm.Cond.code ({ cls := "com/example/tektonik/tektonik/schema/ElementText", name := "<init>", desc := "()V" } : Jvm.MethodName) prog_69_method_1_code (1 : Nat) (Option.none : Option Jvm.ClassFile.FieldType)).before args0 about1 = true := code_word (m := ⟨2, 0⟩) (meth := k2m0) (c := k2c0) (by decide +kernel) rfl rfl rfl (by decide +kernel)
set_option maxRecDepth 65536 in
theorem w_c2 : (Jvm.Cond.code ({ cls := "java/lang/Object", name := "<init>", desc := "()V" } : Jvm.MethodName) object_method_1_code (1 : Nat) (Option.none : Option Jvm.ClassFile.FieldType)).before args0 about1 = true := code_word (m := ⟨0, 0⟩) (meth := k0m0) (c := k0c0) (by decide +kernel) rfl rfl rfl (by decide +kernel)
set_option maxRecDepth 65536 in
theorem w_c3 : (Jvm.Cond.code ({ cls := "java/lang/StringBuilder", name := "<init>", desc := "()V" } : Jvm.MethodName) jdk_67_method_1_code (1 : Nat) (Option.none : Option Jvm.ClassFile.FieldType)).before args0 about1 = true := code_word (m := ⟨8, 0⟩) (meth := k8m0) (c := k8c0) (by decide +kernel) rfl rfl rfl (by decide +kernel)
set_option maxRecDepth 65536 in
theorem w_c4 : (Jvm.Cond.code ({ cls := "java/lang/AbstractStringBuilder", name := "<init>", desc := "(I)V" } : Jvm.MethodName) jdk_68_method_2_code (2 : Nat) (Option.none : Option Jvm.ClassFile.FieldType)).before args0 about1 = true := code_word (m := ⟨5, 1⟩) (meth := k5m1) (c := k5c1) (by decide +kernel) rfl rfl rfl (by decide +kernel)
set_option maxRecDepth 65536 in
theorem w_c5 : (Jvm.Cond.code ({ cls := "com/example/tektonik/tektonik/schema/ElementTextEndElementPinLaw", name := "step", desc := "(Lcom/example/tektonik/tektonik/schema/ElementText;IZ)I" } : Jvm.MethodName) method_2_code (5 : Nat) (Option.some Jvm.ClassFile.FieldType.int)).before args0 about1 = true := code_word (m := ⟨1, 1⟩) (meth := k1m1) (c := k1c1) (by decide +kernel) rfl rfl rfl (by decide +kernel)
set_option maxRecDepth 65536 in
theorem w_c6 : (Jvm.Cond.code ({ cls := "com/example/tektonik/tektonik/schema/ElementText", name := "endElement", desc := "()Z" } : Jvm.MethodName) prog_69_method_4_code (2 : Nat) (Option.some Jvm.ClassFile.FieldType.boolean)).before args0 about1 = true := code_word (m := ⟨2, 2⟩) (meth := k2m2) (c := k2c2) (by decide +kernel) rfl rfl rfl (by decide +kernel)
set_option maxRecDepth 65536 in
theorem w_c7 : (Jvm.Cond.code ({ cls := "com/example/tektonik/tektonik/schema/ElementText", name := "holdsElement", desc := "()Z" } : Jvm.MethodName) prog_69_method_5_code (1 : Nat) (Option.some Jvm.ClassFile.FieldType.boolean)).before args0 about1 = true := code_word (m := ⟨2, 3⟩) (meth := k2m3) (c := k2c3) (by decide +kernel) rfl rfl rfl (by decide +kernel)
set_option maxRecDepth 65536 in
theorem w_c8 : (Jvm.Cond.code ({ cls := "com/example/tektonik/tektonik/schema/ElementText", name := "startElement", desc := "()V" } : Jvm.MethodName) prog_69_method_2_code (1 : Nat) (Option.none : Option Jvm.ClassFile.FieldType)).before args0 about1 = true := code_word (m := ⟨2, 1⟩) (meth := k2m1) (c := k2c1) (by decide +kernel) rfl rfl rfl (by decide +kernel)
def codes1 : List Jvm.Cond := [Jvm.Cond.code x code maxLocals ret, Jvm.Cond.code ({ cls := "com/example/tektonik/tektonik/schema/ElementText", name := "<init>", desc := "()V" } : Jvm.MethodName) prog_69_method_1_code (1 : Nat) (Option.none : Option Jvm.ClassFile.FieldType), Jvm.Cond.code ({ cls := "java/lang/Object", name := "<init>", desc := "()V" } : Jvm.MethodName) object_method_1_code (1 : Nat) (Option.none : Option Jvm.ClassFile.FieldType), Jvm.Cond.code ({ cls := "java/lang/StringBuilder", name := "<init>", desc := "()V" } : Jvm.MethodName) jdk_67_method_1_code (1 : Nat) (Option.none : Option Jvm.ClassFile.FieldType), Jvm.Cond.code ({ cls := "java/lang/AbstractStringBuilder", name := "<init>", desc := "(I)V" } : Jvm.MethodName) jdk_68_method_2_code (2 : Nat) (Option.none : Option Jvm.ClassFile.FieldType), Jvm.Cond.code ({ cls := "com/example/tektonik/tektonik/schema/ElementTextEndElementPinLaw", name := "step", desc := "(Lcom/example/tektonik/tektonik/schema/ElementText;IZ)I" } : Jvm.MethodName) method_2_code (5 : Nat) (Option.some Jvm.ClassFile.FieldType.int), Jvm.Cond.code ({ cls := "com/example/tektonik/tektonik/schema/ElementText", name := "endElement", desc := "()Z" } : Jvm.MethodName) prog_69_method_4_code (2 : Nat) (Option.some Jvm.ClassFile.FieldType.boolean), Jvm.Cond.code ({ cls := "com/example/tektonik/tektonik/schema/ElementText", name := "holdsElement", desc := "()Z" } : Jvm.MethodName) prog_69_method_5_code (1 : Nat) (Option.some Jvm.ClassFile.FieldType.boolean), Jvm.Cond.code ({ cls := "com/example/tektonik/tektonik/schema/ElementText", name := "startElement", desc := "()V" } : Jvm.MethodName) prog_69_method_2_code (1 : Nat) (Option.none : Option Jvm.ClassFile.FieldType)]
set_option maxRecDepth 65536 in
theorem codes_eq : words1.filter isCode = codes1 := rfl
theorem w_codes : ∀ c ∈ words1.filter isCode, c.before args0 about1 = true := by
  rw [codes_eq]
  intro c hc
  simp only [codes1, List.mem_cons, List.not_mem_nil, or_false] at hc
  rcases hc with rfl | rfl | rfl | rfl | rfl | rfl | rfl | rfl | rfl
  · exact w_c0
  · exact w_c1
  · exact w_c2
  · exact w_c3
  · exact w_c4
  · exact w_c5
  · exact w_c6
  · exact w_c7
  · exact w_c8
set_option maxRecDepth 65536 in
theorem w_t1 : (words1.take 24).all (fun c => isCode c || c.before args0 about1) = true := by decide +kernel
set_option maxRecDepth 65536 in
theorem w_t2 : ((words1.drop 24).take 24).all (fun c => isCode c || c.before args0 about1) = true := by decide +kernel
set_option maxRecDepth 65536 in
theorem w_t3 : ((words1.drop 24).drop 24).all (fun c => isCode c || c.before args0 about1) = true := by decide +kernel
theorem w_tables : (allAtoms (Jvm.Cond.code x code maxLocals ret :: tables_1)).before args0 about1 = true := by
  rw [allAtoms_all]
  show words1.all (fun c => c.before args0 about1) = true
  refine all_split ?_ w_codes
  rw [← List.take_append_drop 24 words1, List.all_append, w_t1, ← List.take_append_drop 24 (words1.drop 24), List.all_append, w_t2, w_t3]
  rfl
set_option maxRecDepth 65536 in
theorem w_rest : rest_1_c.before args0 about1 = true := by decide +kernel
set_option maxRecDepth 65536 in
theorem w_case : (Jvm.Cond.and given_1 narrow_1).before args0 about1 = true := by decide +kernel
theorem w_applies : (headSpec (Jvm.Cond.code x code maxLocals ret :: tables_1) room_1).applies x e0.platform about1 = true :=
  (Spec.applies_iff w_frames).mpr ⟨w_running, w_runnable, w_alone, w_named, w_hears, w_ripe, w_room, w_tables⟩
theorem atStart : AtStart classFile x code maxLocals ret World_1 tables_1 room_1 Calls_1 rest_1 Pre_1 launch0 p0 e0 about1 theMethod args0 below0 :=
  ⟨lists_1, trivial, launch0.admits_env _ _ _, launch0.least_env, fairChoices_fair.cas, fairChoices_fair.clock, w_frames, w_args, w_heap, w_applies, trivial, w_rest, w_case⟩
end start1
theorem witness_1 : WitnessClaimed_1 := ⟨start1.p0, start1.e0, start1.about1, start1.theMethod, start1.args0, start1.below0, start1.atStart⟩
end Jvm.Pilot.@@N@@
