import JvmDerived
import JvmDerived.Pilot.@@N@@Statement
import JvmDerived.Pilot.@@N@@Code
set_option linter.unusedVariables false
set_option linter.unusedSimpArgs false
namespace Jvm.Pilot.@@N@@
open Jvm Jvm.ClassFile Sem Op Lib Jvm.Free Jvm.Stand Jvm.LawKit Jvm.RoadKit Bundle Jvm.Pilot.@@N@@.Jvm.D
/-! own kit: the walk in continuation form: 'Go': from this point the body comes to its end with what Q says -/
section OwnGo
variable {p : Program} {l : Launch} {e : Env} {R : Room} {s : State} {m : MethodId} {args : Array Value} {below : List Frame} {meth : Method} {c : Code} {T : State} {locs : List Loc} {cells slots : Nat} {Z : State} {a0 : Array Value} {h : Heap} {Q : Option Value → Heap → List Loc → Prop} {C S : Nat} {End : Outcome → State → List Loc → Prop}
def Go (p : Program) (e : Env) (below : List Frame) (End : Outcome → State → List Loc → Prop) (Q : Option Value → Heap → List Loc → Prop) (T : State) (f : JFrame) : Prop :=
  ∃ s₂ o, Steps p.tables e below (T.setTop f) s₂ ∧ s₂.status = .running ∧ Ended s₂ below o ∧ ∃ v L, o = .returned v ∧ Q v s₂.heap L ∧ End o s₂ L
/-- the end of a walk that leaves the table of strings alone, and of one that may not -/
def EndN (s : State) (C S : Nat) : Outcome → State → List Loc → Prop := fun o t L => FrameEnd s o t L C S
def EndW (s : State) (C S : Nat) : Outcome → State → List Loc → Prop := fun o t L => ReturnedEndW s o t L C S
def OwnP (val : Option Value) (h0 : Heap) (n0 : Nat) (v : Option Value) (h : Heap) (L : List Loc) : Prop := v = val ∧ Fr n0 L ∧ h = h0
def OwnR (val : Option Value) (n0 : Nat) (v : Option Value) (h : Heap) (L : List Loc) : Prop := v = val ∧ Fr n0 L
abbrev OwnMet (l : Launch) (Z : State) (y : MethodName) (bytes : ByteArray) (maxL : Nat) (ret : Option FieldType) (ws : List Jvm.Cond) (rm : Room) (as' : Array Value) (h0 : Heap) (Q : Option Value → Heap → List Loc → Prop) : Prop :=
  MetFree l y (head1 (Jvm.Cond.code y bytes maxL ret :: ws) rm) (fun a U => a = as' ∧ Z.Warmed39 U.vm ∧ U.heap = h0) (fun _ _ _ _ _ => True) (fun _ U o U' => ∃ v L, o = .returned v ∧ Q v U'.heap L ∧ FrameEnd U o U' L rm.cells rm.slots)
theorem own_body {y : MethodName} {bytes : ByteArray} {maxL : Nat} {ret : Option FieldType} {ws : List Jvm.Cond} {rm : Room} {as' : Array Value} {h0 : Heap} (hpl : plainFor y = true)
    (k : ∀ (p : Program) (e : Env) (s : State) (m : MethodId) (below : List Frame) (meth : Method) (c : Code) (s₁ : State), Stand p l e rm s m as' below meth c s₁ [] 0 0 → p.tables.exec = Jvm.exec → c.code = bytes → c.maxLocals = maxL → meth.sig.returnType = ret → meth.locks = false → s.vm.findClass y.cls = some m.cls → meth.name = y.name → Z.Warmed39 s.vm → s₁.heap = h0 → s.heap = h0 → Go p e below (EndN s rm.cells rm.slots) Q s₁ (entryFrame m as' maxL)) :
    OwnMet l Z y bytes maxL ret ws rm as' h0 Q := by
  refine MetFree.of_bodySF hpl hisR ?_
  intro p e s m args below meth c s₁ Bd hml0 hP hK
  obtain ⟨rfl, hZ, hh⟩ := hP
  exact k p e s m below meth c s₁ (Stand.of_body Bd) Bd.exec Bd.bytes hml0 Bd.returns Bd.notSynchronized (findClass_of_methodNamed Bd.named) (name_of_methodNamed Bd.named Bd.method).1 hZ (by rw [← hh, Bd.state]; rfl) hh
theorem own_go {T' : State} {f f' : JFrame} (k : ∀ t, Steps p.tables e below (T'.setTop f') t → Steps p.tables e below (T.setTop f) t) (G : Go p e below End Q T' f') : Go p e below End Q T f := by
  obtain ⟨s₂, o, hs, r⟩ := G
  exact ⟨s₂, o, k _ hs, r⟩
theorem own_entry {f : JFrame} {f' : JFrame} (q : f = f') (G : Go p e below End Q T f') : Go p e below End Q T f := q ▸ G
/-- the method can be left here -/
def Leaves (e : Env) (below : List Frame) (m : MethodId) (meth : Method) (T : State) (locs : List Loc) (End : Outcome → State → List Loc → Prop) : Prop :=
  ∀ v : Option Value, (meth.sig.returnType = none → v = none) → ∃ fs, (∀ (f : JFrame) (acts : List Action), f.method = m → f.locked = none → f.entered = [] → (doReturn e (T.setTop f) acts v).1 = T.setFrames fs) ∧ (T.setFrames fs).status = .running ∧ Ended (T.setFrames fs) below (.returned v) ∧ End (.returned v) (T.setFrames fs) locs
theorem own_lvN (X : Stand p l e R s m args below meth c T locs cells slots) (hlk : meth.locks = false) (hC : cells ≤ C) (hS : slots ≤ S) : Leaves e below m meth T locs (EndN s C S) := fun v hv => by
  obtain ⟨fs, hr, hrun, hended, hW, hsame⟩ := X.leave hv hlk
  exact ⟨fs, hr, hrun, hended, ⟨_, rfl⟩, hW, hsame.mono hC hS⟩
theorem own_leave {v : Option Value} (LV : Leaves e below m meth T locs End) (hv : meth.sig.returnType = none → v = none) {f : JFrame}
    (st : ∀ fs, (∀ (f : JFrame) (acts : List Action), f.method = m → f.locked = none → f.entered = [] → (doReturn e (T.setTop f) acts v).1 = T.setFrames fs) → Steps p.tables e below (T.setTop f) (T.setFrames fs))
    (hQ : Q v T.heap locs) : Go p e below End Q T f := by
  obtain ⟨fs, hr, hrun, hended, hE⟩ := LV v hv
  exact ⟨_, _, st fs hr, hrun, hended, _, _, rfl, hQ, hE⟩
theorem own_retN (X : Stand p l e R s m args below meth c T locs cells slots) (hx : p.tables.exec = Jvm.exec) (LV : Leaves e below m meth T locs End) {pc : Nat} {Ls : Array Slot} {z : Int32} {t : FieldType} {rest : List Value} (hret : meth.sig.returnType = some t) (ht : t = .boolean ∨ t = .byte ∨ t = .char ∨ t = .short)
    (hd : decode c.code pc = .ok (.ireturn, 1)) (hQ : Q (some (.int (nar t z))) T.heap locs) : Go p e below End Q T (mkF m pc Ls (.int z :: rest)) :=
  own_leave LV (fun h => by rw [hret] at h; cases h) (fun fs hr => retN X hx hret ht hd hr) hQ
theorem own_retO (X : Stand p l e R s m args below meth c T locs cells slots) (hx : p.tables.exec = Jvm.exec) (LV : Leaves e below m meth T locs End) {pc : Nat} {Ls : Array Slot} {w : Value} {t : FieldType} {i : Instr} {rest : List Value} (hret : meth.sig.returnType = some t) (hn : narrow t w = w)
    (hi : (i = .ireturn ∧ (t = .int ∨ t = .boolean ∨ t = .byte ∨ t = .char ∨ t = .short) ∧ ∃ z, w = .int z) ∨ (i = .lreturn ∧ t = .long ∧ ∃ z, w = .long z) ∨ (i = .dreturn ∧ t = .double ∧ ∃ z, w = .double z) ∨ (i = .freturn ∧ t = .float ∧ ∃ z, w = .float z) ∨ (i = .areturn ∧ t.isReference = true ∧ w.isRef = true))
    (hd : decode c.code pc = .ok (i, 1)) (hQ : Q (some w) T.heap locs) : Go p e below End Q T (mkF m pc Ls (w :: rest)) :=
  own_leave LV (fun h => by rw [hret] at h; cases h) (fun fs hr => retOut X hx hret hn hi hd hr) hQ
theorem own_retI (X : Stand p l e R s m args below meth c T locs cells slots) (hx : p.tables.exec = Jvm.exec) (LV : Leaves e below m meth T locs End) {pc : Nat} {Ls : Array Slot} {z : Int32} {rest : List Value} (hret : meth.sig.returnType = some .int)
    (hd : decode c.code pc = .ok (.ireturn, 1)) (hQ : Q (some (.int z)) T.heap locs) : Go p e below End Q T (mkF m pc Ls (.int z :: rest)) :=
  own_retO X hx LV hret rfl (Or.inl ⟨rfl, Or.inl rfl, z, rfl⟩) hd hQ
theorem own_retL (X : Stand p l e R s m args below meth c T locs cells slots) (hx : p.tables.exec = Jvm.exec) (LV : Leaves e below m meth T locs End) {pc : Nat} {Ls : Array Slot} {z : Int64} {rest : List Value} (hret : meth.sig.returnType = some .long)
    (hd : decode c.code pc = .ok (.lreturn, 1)) (hQ : Q (some (.long z)) T.heap locs) : Go p e below End Q T (mkF m pc Ls (.long z :: rest)) :=
  own_retO X hx LV hret rfl (Or.inr (Or.inl ⟨rfl, rfl, z, rfl⟩)) hd hQ
theorem own_retA (X : Stand p l e R s m args below meth c T locs cells slots) (hx : p.tables.exec = Jvm.exec) (LV : Leaves e below m meth T locs End) {pc : Nat} {Ls : Array Slot} {w : Value} {t : FieldType} {rest : List Value} (hret : meth.sig.returnType = some t) (ht : t.isReference = true) (hw : w.isRef = true)
    (hd : decode c.code pc = .ok (.areturn, 1)) (hQ : Q (some w) T.heap locs) : Go p e below End Q T (mkF m pc Ls (w :: rest)) :=
  own_retO X hx LV hret (by cases t <;> first | (cases w <;> first | rfl | cases hw) | cases ht) (Or.inr (Or.inr (Or.inr (Or.inr ⟨rfl, ht, hw⟩)))) hd hQ
theorem own_retV (X : Stand p l e R s m args below meth c T locs cells slots) (hx : p.tables.exec = Jvm.exec) (LV : Leaves e below m meth T locs End) {pc : Nat} {Ls : Array Slot} (hret : meth.sig.returnType = none)
    (hd : decode c.code pc = .ok (.return_, 1)) (hQ : Q none T.heap locs) : Go p e below End Q T (mkF m pc Ls []) :=
  own_leave LV (fun _ => rfl) (fun fs hr => X.returnOut hx hret hd hr) hQ
/-- a branch: taken where P -/
theorem own_icmpP (P : Prop) [Decidable P] (X : Stand p l e R s m args below meth c T locs cells slots) (hx : p.tables.exec = Jvm.exec) {cd : ClassFile.Cond} {x y : Int32} {rest : List Value} {o : Int} {pc pc' : Nat} {Ls : Array Slot} (hd : decode c.code pc = .ok (.if_icmp cd o, 3)) (hP : if_icmp.holds cd x y = decide P) (ho : 0 ≤ (pc : Int) + o) (hp : ((pc : Int) + o).toNat = pc')
    (h1 : P → Go p e below End Q T (mkF m pc' Ls rest)) (h2 : ¬ P → Go p e below End Q T (mkF m (pc + 3) Ls rest)) : Go p e below End Q T (mkF m pc Ls (.int y :: .int x :: rest)) := by
  by_cases q : P
  · exact own_go (fun t k => XS.icmpYes X.here hx rfl (pc0 := pc) (pc' := pc') rfl hd rfl (by rw [hP]; exact decide_eq_true q) ho hp k) (h1 q)
  · exact own_go (fun t k => XS.icmpNo X.here hx rfl hd rfl (by rw [hP]; exact decide_eq_false q) k) (h2 q)
/-- a branch: taken where not P -/
theorem own_icmpM (P : Prop) [Decidable P] (X : Stand p l e R s m args below meth c T locs cells slots) (hx : p.tables.exec = Jvm.exec) {cd : ClassFile.Cond} {x y : Int32} {rest : List Value} {o : Int} {pc pc' : Nat} {Ls : Array Slot} (hd : decode c.code pc = .ok (.if_icmp cd o, 3)) (hP : if_icmp.holds cd x y = !decide P) (ho : 0 ≤ (pc : Int) + o) (hp : ((pc : Int) + o).toNat = pc')
    (h1 : ¬ P → Go p e below End Q T (mkF m pc' Ls rest)) (h2 : P → Go p e below End Q T (mkF m (pc + 3) Ls rest)) : Go p e below End Q T (mkF m pc Ls (.int y :: .int x :: rest)) := by
  by_cases q : P
  · exact own_go (fun t k => XS.icmpNo X.here hx rfl hd rfl (by rw [hP]; simp [q]) k) (h2 q)
  · exact own_go (fun t k => XS.icmpYes X.here hx rfl (pc0 := pc) (pc' := pc') rfl hd rfl (by rw [hP]; simp [q]) ho hp k) (h1 q)
theorem own_ifP (P : Prop) [Decidable P] (X : Stand p l e R s m args below meth c T locs cells slots) (hx : p.tables.exec = Jvm.exec) {cd : ClassFile.Cond} {x : Int32} {rest : List Value} {o : Int} {pc pc' : Nat} {Ls : Array Slot} (hd : decode c.code pc = .ok (.ifCond cd o, 3)) (hP : if_icmp.holds cd x 0 = decide P) (ho : 0 ≤ (pc : Int) + o) (hp : ((pc : Int) + o).toNat = pc')
    (h1 : P → Go p e below End Q T (mkF m pc' Ls rest)) (h2 : ¬ P → Go p e below End Q T (mkF m (pc + 3) Ls rest)) : Go p e below End Q T (mkF m pc Ls (.int x :: rest)) := by
  by_cases q : P
  · exact own_go (fun t k => XS.ifYes X.here hx rfl (pc0 := pc) (pc' := pc') rfl hd rfl (by rw [if0, hP]; exact decide_eq_true q) ho hp k) (h1 q)
  · exact own_go (fun t k => XS.ifNo X.here hx rfl hd rfl (by rw [if0, hP]; exact decide_eq_false q) k) (h2 q)
theorem own_ifM (P : Prop) [Decidable P] (X : Stand p l e R s m args below meth c T locs cells slots) (hx : p.tables.exec = Jvm.exec) {cd : ClassFile.Cond} {x : Int32} {rest : List Value} {o : Int} {pc pc' : Nat} {Ls : Array Slot} (hd : decode c.code pc = .ok (.ifCond cd o, 3)) (hP : if_icmp.holds cd x 0 = !decide P) (ho : 0 ≤ (pc : Int) + o) (hp : ((pc : Int) + o).toNat = pc')
    (h1 : ¬ P → Go p e below End Q T (mkF m pc' Ls rest)) (h2 : P → Go p e below End Q T (mkF m (pc + 3) Ls rest)) : Go p e below End Q T (mkF m pc Ls (.int x :: rest)) := by
  by_cases q : P
  · exact own_go (fun t k => XS.ifNo X.here hx rfl hd rfl (by rw [if0, hP]; simp [q]) k) (h2 q)
  · exact own_go (fun t k => XS.ifYes X.here hx rfl (pc0 := pc) (pc' := pc') rfl hd rfl (by rw [if0, hP]; simp [q]) ho hp k) (h1 q)
theorem own_eq (x y : Int32) : if_icmp.holds .eq x y = decide (x = y) := by by_cases q : x = y <;> simp [if_icmp.holds, q]
theorem own_ne (x y : Int32) : if_icmp.holds .ne x y = !decide (x = y) := by by_cases q : x = y <;> simp [if_icmp.holds, q]
theorem own_lt (x y : Int32) : if_icmp.holds .lt x y = decide (x < y) := by by_cases q : x < y <;> simp [if_icmp.holds, q]
theorem own_ge (x y : Int32) : if_icmp.holds .ge x y = !decide (x < y) := by
  by_cases q : x < y
  · rw [(tlt q).2.1]; simp [q]
  · rw [(flt q).2.1]; simp [q]
theorem own_gt (x y : Int32) : if_icmp.holds .gt x y = decide (y < x) := by
  by_cases q : y < x
  · rw [(tlt q).2.2.1]; simp [q]
  · rw [(flt q).2.2.1]; simp [q]
theorem own_le (x y : Int32) : if_icmp.holds .le x y = !decide (y < x) := by
  by_cases q : y < x
  · rw [(tlt q).2.2.2]; simp [q]
  · rw [(flt q).2.2.2]; simp [q]
theorem own_acmp (P : Prop) [Decidable P] (X : Stand p l e R s m args below meth c T locs cells slots) (hx : p.tables.exec = Jvm.exec) {cd : ACond} {x y : Value} {rest : List Value} {o : Int} {pc : Nat} {Ls : Array Slot} (h1 : x.isRef = true) (h2 : y.isRef = true) (hP : (x = y) ↔ P) (hd : decode c.code pc = .ok (.if_acmp cd o, 3)) (ho : 0 ≤ (pc : Int) + o) {pcE pcN : Nat}
    (hE : pcE = if acV cd true = true then ((pc : Int) + o).toNat else pc + 3) (hN : pcN = if acV cd false = true then ((pc : Int) + o).toNat else pc + 3)
    (k1 : P → Go p e below End Q T (mkF m pcE Ls rest)) (k2 : ¬ P → Go p e below End Q T (mkF m pcN Ls rest)) : Go p e below End Q T (mkF m pc Ls (y :: x :: rest)) := by
  by_cases q : P
  · exact own_go (fun t k => Jvm.RoadKit.acmp (g := mkF m pc Ls (y :: x :: rest)) X hx rfl h1 h2 (pc0 := pc) (pc' := pcE) (same := true) rfl hd rfl (decide_eq_true (hP.mpr q)) ho hE k) (k1 q)
  · exact own_go (fun t k => Jvm.RoadKit.acmp (g := mkF m pc Ls (y :: x :: rest)) X hx rfl h1 h2 (pc0 := pc) (pc' := pcN) (same := false) rfl hd rfl (decide_eq_false fun z => q (hP.mp z)) ho hN k) (k2 q)
theorem own_ref (a b : Addr) : (Value.ref a = Value.ref b) ↔ (a = b) := ⟨Value.ref.inj, congrArg Value.ref⟩
theorem own_callS (X : Stand p l e R s m args below meth c T locs cells slots) (hx : p.tables.exec = Jvm.exec) (hZ : Z.Warmed39 s.vm) {own : String} {index : Nat} {y : MethodName} {bytes : ByteArray} {maxL : Nat} {ret : Option FieldType} {rm : Room} {as' : Array Value} {Qc : Option Value → Heap → List Loc → Prop}
    (hown : s.vm.findClass own = some m.cls) (wl : (Cond.methodLink own index y).before a0 Z = true) (wst : (Cond.static y).before a0 Z = true) (wi : (Cond.initialized y.cls).before a0 Z = true) (wc : (Cond.code y bytes maxL ret).before a0 Z = true)
    (hy : y.cls ≠ "java/lang/invoke/MethodHandle" ∧ y.cls ≠ "java/lang/invoke/VarHandle")
    (hM : MetFree l y (head1 [Cond.code y bytes maxL ret] rm) (fun a U => a = as' ∧ Z.Warmed39 U.vm ∧ U.heap = h) (fun _ _ _ _ _ => True) (fun _ U o U' => ∃ v L, o = .returned v ∧ Qc v U'.heap L ∧ FrameEnd U o U' L rm.cells rm.slots))
    (eT : T.heap = h) {pc : Nat} {Ls : Array Slot} (hsize : Ls.size = c.maxLocals) {argsL rest stk : List Value} (hst : stk = argsL.reverse ++ rest) (ha : argsL.toArray = as') (hlen : ∀ sig, parseMethodDescriptor y.desc = some sig → argsL.length = sig.parameters.length) {W : Nat} (hW : (rest.map fun v => v.category).sum ≤ W)
    (hf : rm.frames + 1 ≤ R.frames) (hl : W + (maxL + 11) + rm.locals ≤ R.locals) (hd : decode c.code pc = .ok (.invokestatic index, 3)) (hc : cells + rm.cells ≤ R.cells) (hs : slots + rm.slots ≤ R.slots)
    (k : ∀ (v : Option Value) (T' : State) (L : List Loc), Stand p l e R s m args below meth c T' (locs ++ L) (cells + rm.cells) (slots + rm.slots) → Qc v T'.heap L → Go p e below End Q T' (mkF m (pc + 3) Ls (v.toList ++ rest))) :
    Go p e below End Q T (mkF m pc Ls stk) := by
  subst hst
  obtain ⟨v, _, ⟨T', L', k', n'⟩, -, X', ⟨Lc, hQ, l1, y1, z1⟩, st⟩ := Jvm.LawKit.callS X hx (y := y) hown (mvT hZ wl) (mvT hZ wst) (mvT hZ wi) (mvT hZ wc) hy (backOf (W := W) hM hZ wc wi hf hl) (g := mkF m pc Ls (argsL.reverse ++ rest)) rfl hsize (argsL := argsL) (rest := rest) hlen rfl (by show 2 * 0 + _ ≤ _; rw [Nat.mul_zero, Nat.zero_add]; exact hW) hd (fun _ _ => ⟨ha, eT, hc, hs⟩)
  dsimp only [Pt.U, Pt.locs, Pt.cells, Pt.slots] at X' l1 y1 z1 st hQ
  subst l1 y1 z1
  exact own_go (fun t q => st _ q) (k v T' Lc X' hQ)
theorem own_callV (X : Stand p l e R s m args below meth c T locs cells slots) (hx : p.tables.exec = Jvm.exec) (hZ : Z.Warmed39 s.vm) {own Cn : String} {index : Nat} {y : MethodName} {bytes : ByteArray} {maxL : Nat} {ret : Option FieldType} {rm : Room} {as' : Array Value} {Qc : Option Value → Heap → List Loc → Prop}
    (hown : s.vm.findClass own = some m.cls) (wl : (Cond.methodLink own index y).before a0 Z = true) (wd : (Cond.declares y).before a0 Z = true) (wsel : (Cond.selects Cn y y).before a0 Z = true) (win : (Cond.instanceMethod y).before a0 Z = true) (wc : (Cond.code y bytes maxL ret).before a0 Z = true) (wi : (Cond.initialized y.cls).before a0 Z = true)
    (hy : y.cls ≠ "java/lang/invoke/MethodHandle" ∧ y.cls ≠ "java/lang/invoke/VarHandle")
    (hM : MetFree l y (head1 [Cond.code y bytes maxL ret] rm) (fun a U => a = as' ∧ Z.Warmed39 U.vm ∧ U.heap = h) (fun _ _ _ _ _ => True) (fun _ U o U' => ∃ v L, o = .returned v ∧ Qc v U'.heap L ∧ FrameEnd U o U' L rm.cells rm.slots))
    (eT : T.heap = h) {b : Addr} (E : Exa Z h b Cn) {pc : Nat} {Ls : Array Slot} (hsize : Ls.size = c.maxLocals) {argsL rest stk : List Value} (hst : stk = argsL.reverse ++ .ref b :: rest) (ha : (.ref b :: argsL).toArray = as') (hlen : ∀ sig, parseMethodDescriptor y.desc = some sig → argsL.length = sig.parameters.length) {W : Nat} (hW : (rest.map fun v => v.category).sum ≤ W)
    (hf : rm.frames + 1 ≤ R.frames) (hl : W + (maxL + 11) + rm.locals ≤ R.locals) (hd : decode c.code pc = .ok (.invokevirtual index, 3)) (hc : cells + rm.cells ≤ R.cells) (hs : slots + rm.slots ≤ R.slots)
    (k : ∀ (v : Option Value) (T' : State) (L : List Loc), Stand p l e R s m args below meth c T' (locs ++ L) (cells + rm.cells) (slots + rm.slots) → Qc v T'.heap L → Go p e below End Q T' (mkF m (pc + 3) Ls (v.toList ++ rest))) :
    Go p e below End Q T (mkF m pc Ls stk) := by
  subst hst
  obtain ⟨cq, kq, qa, qb, qc⟩ := isOf hZ eT E
  obtain ⟨v, _, ⟨T', L', k', n'⟩, -, X', ⟨Lc, hQ, l1, y1, z1⟩, st⟩ := X.virtualBack hx (y := y) (z := y) hown (mvT hZ wl) (mvT hZ wd) (notFace_of_selects (args := #[]) (mvT hZ wsel)) (mvT hZ wsel) (mvT hZ win) hy (backOf (W := W) hM hZ wc wi hf hl) qa qc (g := mkF m pc Ls (argsL.reverse ++ .ref b :: rest)) rfl hsize (Steps.refl _) (argsL := argsL) (rest := rest) hlen rfl (by show 2 * 0 + _ ≤ _; rw [Nat.mul_zero, Nat.zero_add]; exact hW) hd (fun _ _ => ⟨ha, eT, hc, hs⟩)
  dsimp only [Pt.U, Pt.locs, Pt.cells, Pt.slots] at X' l1 y1 z1 st hQ
  subst l1 y1 z1
  exact own_go (fun t q => st.trans q) (k v T' Lc X' hQ)
theorem own_callU (X : Stand p l e R s m args below meth c T locs cells slots) (hx : p.tables.exec = Jvm.exec) (hZ : Z.Warmed39 s.vm) {own Cn owner : String} {index : Nat} {y z : MethodName} {bytes : ByteArray} {maxL : Nat} {ret : Option FieldType} {rm : Room} {as' : Array Value} {Qc : Option Value → Heap → List Loc → Prop}
    (hown : s.vm.findClass own = some m.cls) (wl : (Cond.methodLink own index y).before a0 Z = true) (wsm : (Cond.sameMethod y.cls owner y.name y.desc).before a0 Z = true) (wd : (Cond.declares ⟨owner, y.name, y.desc⟩).before a0 Z = true) (wsel : (Cond.selects Cn y z).before a0 Z = true) (win : (Cond.instanceMethod z).before a0 Z = true) (wc : (Cond.code z bytes maxL ret).before a0 Z = true) (wi : (Cond.initialized z.cls).before a0 Z = true)
    (hy : owner ≠ "java/lang/invoke/MethodHandle" ∧ owner ≠ "java/lang/invoke/VarHandle")
    (hM : MetFree l z (head1 [Cond.code z bytes maxL ret] rm) (fun a U => a = as' ∧ Z.Warmed39 U.vm ∧ U.heap = h) (fun _ _ _ _ _ => True) (fun _ U o U' => ∃ v L, o = .returned v ∧ Qc v U'.heap L ∧ FrameEnd U o U' L rm.cells rm.slots))
    (eT : T.heap = h) {b : Addr} (E : Exa Z h b Cn) {pc : Nat} {Ls : Array Slot} (hsize : Ls.size = c.maxLocals) {argsL rest stk : List Value} (hst : stk = argsL.reverse ++ .ref b :: rest) (ha : (.ref b :: argsL).toArray = as') (hlen : ∀ sig, parseMethodDescriptor y.desc = some sig → argsL.length = sig.parameters.length) {W : Nat} (hW : (rest.map fun v => v.category).sum ≤ W)
    (hf : rm.frames + 1 ≤ R.frames) (hl : W + (maxL + 11) + rm.locals ≤ R.locals) (hd : decode c.code pc = .ok (.invokevirtual index, 3)) (hc : cells + rm.cells ≤ R.cells) (hs : slots + rm.slots ≤ R.slots)
    (k : ∀ (v : Option Value) (T' : State) (L : List Loc), Stand p l e R s m args below meth c T' (locs ++ L) (cells + rm.cells) (slots + rm.slots) → Qc v T'.heap L → Go p e below End Q T' (mkF m (pc + 3) Ls (v.toList ++ rest))) :
    Go p e below End Q T (mkF m pc Ls stk) := by
  subst hst
  obtain ⟨cq, kq, qa, qb, qc⟩ := isOf hZ eT E
  obtain ⟨v, _, ⟨T', L', k', n'⟩, -, X', ⟨Lc, hQ, l1, y1, z1⟩, st⟩ := X.virtualBackUp hx (x := y) (y := z) hown (mvT hZ wl) (mvT hZ wsm) (mvT hZ wd) hy (mvT hZ wsel) (mvT hZ win) (backOf (W := W) hM hZ wc wi hf hl) qa qc (g := mkF m pc Ls (argsL.reverse ++ .ref b :: rest)) rfl hsize (Steps.refl _) (argsL := argsL) (rest := rest) hlen rfl (by show 2 * 0 + _ ≤ _; rw [Nat.mul_zero, Nat.zero_add]; exact hW) hd (fun _ _ => ⟨ha, eT, hc, hs⟩)
  dsimp only [Pt.U, Pt.locs, Pt.cells, Pt.slots] at X' l1 y1 z1 st hQ
  subst l1 y1 z1
  exact own_go (fun t q => st.trans q) (k v T' Lc X' hQ)
theorem own_callI (X : Stand p l e R s m args below meth c T locs cells slots) (hx : p.tables.exec = Jvm.exec) (hZ : Z.Warmed39 s.vm) {own : String} {index : Nat} {y : MethodName} {bytes : ByteArray} {maxL : Nat} {rm : Room} {as' : Array Value} {Qc : Option Value → Heap → List Loc → Prop} (hy1 : y.name = "<init>")
    (hown : s.vm.findClass own = some m.cls) (wl : (Cond.methodLink own index y).before a0 Z = true) (win : (Cond.instanceMethod y).before a0 Z = true) (wc : (Cond.code y bytes maxL none).before a0 Z = true) (wi : (Cond.initialized y.cls).before a0 Z = true)
    (hy : y.cls ≠ "java/lang/invoke/MethodHandle" ∧ y.cls ≠ "java/lang/invoke/VarHandle")
    (hM : MetFree l y (head1 [Cond.code y bytes maxL none] rm) (fun a U => a = as' ∧ Z.Warmed39 U.vm ∧ U.heap = h) (fun _ _ _ _ _ => True) (fun _ U o U' => ∃ v L, o = .returned v ∧ Qc v U'.heap L ∧ FrameEnd U o U' L rm.cells rm.slots))
    (eT : T.heap = h) {b : Addr} {pc : Nat} {Ls : Array Slot} (hsize : Ls.size = c.maxLocals) {argsL rest stk : List Value} (hst : stk = argsL.reverse ++ .ref b :: rest) (ha : (.ref b :: argsL).toArray = as') (hlen : ∀ sig, parseMethodDescriptor y.desc = some sig → argsL.length = sig.parameters.length) {W : Nat} (hW : (rest.map fun v => v.category).sum ≤ W)
    (hf : rm.frames + 1 ≤ R.frames) (hl : W + (maxL + 11) + rm.locals ≤ R.locals) (hd : decode c.code pc = .ok (.invokespecial index, 3)) (hc : cells + rm.cells ≤ R.cells) (hs : slots + rm.slots ≤ R.slots)
    (k : ∀ (v : Option Value) (T' : State) (L : List Loc), Stand p l e R s m args below meth c T' (locs ++ L) (cells + rm.cells) (slots + rm.slots) → Qc v T'.heap L → Go p e below End Q T' (mkF m (pc + 3) Ls (v.toList ++ rest))) :
    Go p e below End Q T (mkF m pc Ls stk) := by
  subst hst
  obtain ⟨v, _, ⟨T', L', k', n'⟩, -, X', ⟨Lc, hQ, l1, y1, z1⟩, st⟩ := X.specialBack hx (y := y) hy1 hown (mvT hZ wl) (mvT hZ win) (mvT hZ wc) hy (backOf (W := W) hM hZ wc wi hf hl) (g := mkF m pc Ls (argsL.reverse ++ .ref b :: rest)) rfl hsize (Steps.refl _) (a := b) (argsL := argsL) (rest := rest) hlen rfl (by show 2 * 0 + _ ≤ _; rw [Nat.mul_zero, Nat.zero_add]; exact hW) hd (fun _ _ => ⟨ha, eT, hc, hs⟩)
  dsimp only [Pt.U, Pt.locs, Pt.cells, Pt.slots] at X' l1 y1 z1 st hQ
  subst l1 y1 z1
  exact own_go (fun t q => st.trans q) (k v T' Lc X' hQ)
theorem own_eqI {ar : Array Value} {t : Term} {k : Int32} (hx : (Cond.eq t (.int k)).value ar Z none Z [] = some true) : t.eval ar Z none [] Z = some (.int k) := by
  obtain ⟨x, y, e1, e2, k1, -⟩ := cmp_v (Or.inl hx)
  have e3 : y = .int k := Option.some.inj (e2.symm.trans (Term.int_eval k))
  subst e3
  cases x with
  | int z =>
    have := gotT (Cond.eq_ints e1 e2) hx
    subst this
    exact e1
  | _ => simp [Kin, Value.isRef] at k1
theorem own_fld {ar : Array Value} {t : Term} {w : Addr} {O n d : String} {k : Int32} (ev : t.eval ar Z none [] Z = some (.ref w)) (hx : (Cond.eq (.field t O n d) (.int k)).value ar Z none Z [] = some true) : Fld Z Z.heap w O n d (.int k) :=
  Fld.start ((fld_at (C := O) (n := n) (dd := d) ev).symm.trans (own_eqI hx))
theorem own_len {ar : Array Value} {t : Term} {a : Addr} {cl : Cell} {k : Int32} {n : Nat} (ev : t.eval ar Z none [] Z = some (.ref a)) (hat : Z.arrayAt? a = some cl) (hL : (Cond.eq (.length t) (.int k)).value ar Z none Z [] = some true) (hk : k.toInt = n) : cl.slots.size = n ∧ cl.slots.size < 2 ^ 31 := by
  by_cases hs : cl.slots.size < 2 ^ 31
  · have e1 := len_f (t := t) ev hat hs
    have e2 := own_eqI hL
    have e3 : cl.slots.size.toInt32 = k := Value.int.inj (Option.some.inj (e1.symm.trans e2))
    have e4 := len_toInt hs
    rw [e3, hk] at e4
    exact ⟨by omega, hs⟩
  · have e2 := own_eqI hL
    simp [Term.eval, ev, hat, hs] at e2
theorem own_ne_fld {a b : Addr} {Cn n d : String} {v w : Value} (F : Fld Z h a Cn n d v) (G : Fld Z h b Cn n d w) (hn : v ≠ w) : ¬ a = b := by
  rintro rfl
  obtain ⟨c1, cf1, k1, i1, f1, h1, h2, -, -, -, -, h7⟩ := F
  obtain ⟨c2, cf2, k2, i2, f2, g1, g2, -, -, -, -, g7⟩ := G
  cases h1.symm.trans g1
  cases h2.symm.trans g2
  cases h7.symm.trans g7
  exact hn rfl
theorem own_sta_keep {h h' : Heap} {ws : List Addr} {Cn n d : String} {v : Value} (F : Sta Z h Cn n d v) (K : Keep h h' ws) (hws : ∀ a ∈ ws, ∃ C', Exa Z h a C') : Sta Z h' Cn n d v := by
  obtain ⟨cf, i, k, f, st, cell, h1, h2, h3, h4, h5, h6, h7⟩ := F
  refine ⟨cf, i, k, f, st, cell, h1, h2, h3, h4, K.2.1 st cell h5 (fun q => ?_), h6, h7⟩
  obtain ⟨C', cell', k', e1, -, -, e4, -⟩ := hws st q
  cases h5.symm.trans e1
  rw [h6] at e4; cases e4
/-- the class named c has no superclass named K (itself neither) -/
def OwnNsub (Z : State) (c K : String) : Prop := ∀ (ci ki : ClassId), Z.vm.findClass c = some ci → Z.vm.findClass K = some ki → ∀ fuel, Z.vm.isSubclassAux fuel ci ki = false
theorem own_id_ne {c K : String} {ci ki : ClassId} (h1 : Z.vm.findClass c = some ci) (h2 : Z.vm.findClass K = some ki) (hn : c ≠ K) : (ci == ki) = false := by
  rw [beq_eq_false_iff_ne]
  rintro rfl
  obtain ⟨k1, a1, b1⟩ := Vm.findClass_spec h1
  obtain ⟨k2, a2, b2⟩ := Vm.findClass_spec h2
  cases a1.symm.trans a2
  exact hn (b1.symm.trans b2)
theorem own_nsub_root {c K : String} (w : (Cond.noSuperclass c).before a0 Z = true) (hn : c ≠ K) : OwnNsub Z c K := by
  intro ci ki h1 h2 fuel
  cases fuel with
  | zero => rfl
  | succ n =>
    obtain ⟨k1, a1, b1⟩ := Vm.findClass_spec h1
    have hs := Cond.noSuperclass_root w ci k1 h1 a1
    simp [Vm.isSubclassAux, own_id_ne h1 h2 hn, a1, hs]
theorem own_nsub_up {c d K : String} (w : (Cond.superclass c d).before a0 Z = true) (hn : c ≠ K) (N : OwnNsub Z d K) : OwnNsub Z c K := by
  intro ci ki h1 h2 fuel
  cases fuel with
  | zero => rfl
  | succ n =>
    obtain ⟨pi, k, kp, g1, g2, g3, g4, -⟩ := Cond.superclass_spec h1 w
    simp [Vm.isSubclassAux, own_id_ne h1 h2 hn, g2, g4, N pi ki g1 h2 n]
theorem own_nins {a : Addr} {c d K : String} {kk : Nat} (E : Exa Z h a c) (wi : (Cond.instantiable K kk).before a0 Z = true) (wsup : (Cond.superclass c d).before a0 Z = true) (hn : c ≠ K) (N : OwnNsub Z c K) : Ins Z h a K false := by
  obtain ⟨cell, k, h1, h2, h3, h4, -⟩ := E
  obtain ⟨ki, kt, i1, i2, i3, i4, -⟩ := Cond.instantiable_spec wi
  obtain ⟨pi, k', kp, g1, g2, g3, g4, g5, -⟩ := Cond.superclass_spec h2 wsup
  cases h3.symm.trans g2
  refine ⟨cell, ki, h1, i1, ?_⟩
  have hif : kt.isInterface = false := by simp only [Bool.or_eq_false_iff] at i4; exact i4.1
  simp [h4, Vm.assignable, Vm.assignableAux, own_id_ne h2 i1 hn, h3, i2, g5, i3, hif, Vm.isSubclass, N cell.cls ki h2 i1]
end OwnGo
theorem own_int {i j : Int32} (h : i.toInt = j.toInt) : i = j := Int32.toInt_inj.mp h
theorem own_and3 (x : Int32) : (x &&& (3 : Int32)) = 0 ∨ (x &&& (3 : Int32)) = 1 ∨ (x &&& (3 : Int32)) = 2 ∨ (x &&& (3 : Int32)) = 3 := by
  have h := c_and x (3 : Int32) (by decide)
  have h3 : (3 : Int32).toInt = 3 := by decide
  rw [h3] at h
  generalize (x &&& (3 : Int32)) = i at h
  have q : i.toInt = 0 ∨ i.toInt = 1 ∨ i.toInt = 2 ∨ i.toInt = 3 := by omega
  rcases q with q | q | q | q
  · exact Or.inl (own_int q)
  · exact Or.inr (Or.inl (own_int q))
  · exact Or.inr (Or.inr (Or.inl (own_int q)))
  · exact Or.inr (Or.inr (Or.inr (own_int q)))
theorem own_and1 (x : Int32) : (x &&& (1 : Int32)) = 0 ∨ (x &&& (1 : Int32)) = 1 := by
  have h := c_and x (1 : Int32) (by decide)
  have h3 : (1 : Int32).toInt = 1 := by decide
  rw [h3] at h
  generalize (x &&& (1 : Int32)) = i at h
  have q : i.toInt = 0 ∨ i.toInt = 1 := by omega
  rcases q with q | q
  · exact Or.inl (own_int q)
  · exact Or.inr (own_int q)
theorem own_rem6 (x : Int32) : ((x &&& (2147483647 : Int32)) % (6 : Int32)) = 0 ∨ ((x &&& (2147483647 : Int32)) % (6 : Int32)) = 1 ∨ ((x &&& (2147483647 : Int32)) % (6 : Int32)) = 2 ∨ ((x &&& (2147483647 : Int32)) % (6 : Int32)) = 3 ∨ ((x &&& (2147483647 : Int32)) % (6 : Int32)) = 4 ∨ ((x &&& (2147483647 : Int32)) % (6 : Int32)) = 5 := by
  have h := (c_and x (2147483647 : Int32) (by decide)).1
  generalize (x &&& (2147483647 : Int32)) = y at h
  have h2 := (c_irem y (6 : Int32) 6 (by decide)).1 h
  generalize (y % (6 : Int32)) = i at h2
  have q : i.toInt = 0 ∨ i.toInt = 1 ∨ i.toInt = 2 ∨ i.toInt = 3 ∨ i.toInt = 4 ∨ i.toInt = 5 := by omega
  rcases q with q | q | q | q | q | q
  · exact Or.inl (own_int q)
  · exact Or.inr (Or.inl (own_int q))
  · exact Or.inr (Or.inr (Or.inl (own_int q)))
  · exact Or.inr (Or.inr (Or.inr (Or.inl (own_int q))))
  · exact Or.inr (Or.inr (Or.inr (Or.inr (Or.inl (own_int q)))))
  · exact Or.inr (Or.inr (Or.inr (Or.inr (Or.inr (own_int q)))))
theorem own_rem5 (x : Int32) : ((x &&& (2147483647 : Int32)) % (5 : Int32)) = 0 ∨ ((x &&& (2147483647 : Int32)) % (5 : Int32)) = 1 ∨ ((x &&& (2147483647 : Int32)) % (5 : Int32)) = 2 ∨ ((x &&& (2147483647 : Int32)) % (5 : Int32)) = 3 ∨ ((x &&& (2147483647 : Int32)) % (5 : Int32)) = 4 := by
  have h := (c_and x (2147483647 : Int32) (by decide)).1
  generalize (x &&& (2147483647 : Int32)) = y at h
  have h2 := (c_irem y (5 : Int32) 5 (by decide)).1 h
  generalize (y % (5 : Int32)) = i at h2
  have q : i.toInt = 0 ∨ i.toInt = 1 ∨ i.toInt = 2 ∨ i.toInt = 3 ∨ i.toInt = 4 := by omega
  rcases q with q | q | q | q | q
  · exact Or.inl (own_int q)
  · exact Or.inr (Or.inl (own_int q))
  · exact Or.inr (Or.inr (Or.inl (own_int q)))
  · exact Or.inr (Or.inr (Or.inr (Or.inl (own_int q))))
  · exact Or.inr (Or.inr (Or.inr (Or.inr (own_int q))))
theorem own_and2 (x : Int32) : (x &&& (2 : Int32)) = 0 ∨ (x &&& (2 : Int32)) = 2 := by
  have h : (x &&& (2 : Int32)) = (x &&& (3 : Int32)) &&& (2 : Int32) := by rw [Int32.and_assoc]; rfl
  rw [h]
  rcases own_and3 x with q | q | q | q <;> rw [q] <;> decide

section OwnV
variable {p : Program} {l : Launch} {e : Env} {R : Room} {s : State} {m : MethodId} {args : Array Value} {below : List Frame} {meth : Method} {c : Code} {T : State} {locs : List Loc} {cells slots : Nat} {Z : State} {a0 : Array Value} {h : Heap}
def OwnMir (Z : State) (C : String) (mir : Addr) : Prop := ∃ (ci : ClassId) (k : Class), Z.vm.findClass C = some ci ∧ Z.vm.classes[ci]? = some k ∧ k.mirror = some mir
theorem own_getClass (X : Stand p l e R s m args below meth c T locs cells slots) (hx : p.tables.exec = Jvm.exec) (hZ : Z.Warmed39 s.vm) {own C : String} {index : Nat} (hown : s.vm.findClass own = some m.cls)
    (w1 : (Cond.methodLink own index ⟨"java/lang/Object", "getClass", "()Ljava/lang/Class;"⟩).before a0 Z = true) (w2 : (Cond.declares ⟨"java/lang/Object", "getClass", "()Ljava/lang/Class;"⟩).before a0 Z = true)
    (w3 : (Cond.selects C ⟨"java/lang/Object", "getClass", "()Ljava/lang/Class;"⟩ ⟨"java/lang/Object", "getClass", "()Ljava/lang/Class;"⟩).before a0 Z = true) (w4 : (Cond.instanceMethod ⟨"java/lang/Object", "getClass", "()Ljava/lang/Class;"⟩).before a0 Z = true) (w5 : (Cond.native ⟨"java/lang/Object", "getClass", "()Ljava/lang/Class;"⟩).before a0 Z = true)
    (eT : T.heap = h) {b mir : Addr} (E : Exa Z h b C) (M : OwnMir Z C mir) {g : JFrame} (hg : g.method = m) (hsize : g.locals.size = c.maxLocals) {rest : List Value} (hstack : g.stack = .ref b :: rest) (hd : decode c.code g.pc = .ok (.invokevirtual index, 3))
    (hf : 1 ≤ R.frames) (hl : 2 * g.monitorRoom + (rest.map fun v => v.category).sum + (nativeFrameWords "java/lang/Object" "getClass" 1 + 11) ≤ R.locals) :
    ∃ T', Stand p l e R s m args below meth c T' locs cells slots ∧ T'.heap = h ∧ ∀ target, Steps p.tables e below (T'.setTop { g with pc := g.pc + 3, stack := .ref mir :: rest }) target → Steps p.tables e below (T.setTop g) target := by
  obtain ⟨cB, kB, q1, q2, q3⟩ := isOf hZ eT E
  obtain ⟨ci, k, m1, m2, m3⟩ := M
  rw [← hZ.alike.findClass] at m1
  cases q1.symm.trans m1
  obtain ⟨k', r1, r2⟩ := hZ.alike.2.2 _ _ m2
  obtain ⟨vm₁, X', st⟩ := X.getClassOf hx hown (mvT hZ w1) (mvT hZ w2) (notFace_of_selects (args := #[]) (mvT hZ w3)) (mvT hZ w3) (mvT hZ w4) (mvT hZ w5) q1 q3 r1 (mir := mir) (by rw [r2]; exact m3) hg hsize hstack hd hf hl
  exact ⟨_, X', eT, st⟩
theorem own_vals {ar : Array Value} {C n d K : String} {va w0 w1 w2 : Addr} {t0 t1 t2 : Term} (hfit : Fit Z) (ev : (Term.static C n d).eval ar Z none [] Z = some (.ref va)) (hA : (Cond.arrayOf (Term.static C n d) (.object K)).value ar Z none Z [] = some true)
    (hL : (Cond.eq (.length (Term.static C n d)) (.int 3)).value ar Z none Z [] = some true) (e0 : t0.eval ar Z none [] Z = some (.ref w0)) (e1 : t1.eval ar Z none [] Z = some (.ref w1)) (e2 : t2.eval ar Z none [] Z = some (.ref w2))
    (h0 : (Cond.eq (.elem (Term.static C n d) (.int 0)) t0).value ar Z none Z [] = some true) (h1 : (Cond.eq (.elem (Term.static C n d) (.int 1)) t1).value ar Z none Z [] = some true) (h2 : (Cond.eq (.elem (Term.static C n d) (.int 2)) t2).value ar Z none Z [] = some true) :
    ∃ k, Arv Z Z.heap va k (.object K) (3 : Int32) [(.ref w0), (.ref w1), (.ref w2)] .null := by
  obtain ⟨cl, A⟩ := Arr.start ev hA
  have hat : Z.arrayAt? va = some cl := Arr.fin (Vm.Alike.refl _) A
  obtain ⟨hsz, hs2⟩ := own_len (n := 3) ev hat hL (by decide)
  have el : ∀ {j : Int32} {t : Term} {w : Addr}, t.eval ar Z none [] Z = some (.ref w) → (Cond.eq (.elem (Term.static C n d) (.int j)) t).value ar Z none Z [] = some true → cl.slots[j.toNatClampNeg]? = some (.ref w) := by
    intro j t w et hq
    obtain ⟨x, y, q1, q2, k1, k2⟩ := cmp_v (Or.inl hq)
    cases et.symm.trans q2
    have hx : x.isRef = true := by cases x <;> simp [Kin, Value.isRef] at k1 ⊢
    have := gotT (eq_R q1 q2 hx rfl) hq
    subst this
    exact (elem_in q1 ev (Term.int_eval j) A.1).2
  refine ⟨cl.cls, Arv.start hfit A hs2 (by rw [hsz]; rfl) (by decide) rfl ⟨el e0 h0, el e1 h1, el e2 h2, trivial⟩⟩
end OwnV

theorem d_prog_98_method_4_0 : Jvm.ClassFile.decode prog_98_method_4_code 0 = .ok (.iload_n 0, 1) := by decide +kernel
theorem d_prog_98_method_4_1 : Jvm.ClassFile.decode prog_98_method_4_code 1 = .ok (.ifCond .eq 9, 3) := by decide +kernel
theorem d_prog_98_method_4_10 : Jvm.ClassFile.decode prog_98_method_4_code 10 = .ok (.getstatic 3, 3) := by decide +kernel
theorem d_prog_98_method_4_13 : Jvm.ClassFile.decode prog_98_method_4_code 13 = .ok (.areturn, 1) := by decide +kernel
theorem d_prog_98_method_4_4 : Jvm.ClassFile.decode prog_98_method_4_code 4 = .ok (.getstatic 10, 3) := by decide +kernel
theorem d_prog_98_method_4_7 : Jvm.ClassFile.decode prog_98_method_4_code 7 = .ok (.goto 6, 3) := by decide +kernel
def own_f_rm1 (p1 : Int32) (w_FALSE : Addr) (w_TRUE : Addr) : Value := (if p1 = (0 : Int32) then (.ref w_FALSE : Value) else (.ref w_TRUE : Value))
theorem own_pn0 : plainName "com/example/ground0/ground0/refutation/Satisfaction$Truth" = true := by first | (simp [plainName, overriddenIn]; done) | decide +kernel
theorem own_ef_rm1 (m : MethodId) (x0 : Int32) : entryFrame m #[(.int x0)] 1 = mkF m 0 #[.val (.int x0)] [] := by first | (simp [entryFrame, mkF, argsToLocals, Value.category]; done) | rfl
set_option maxRecDepth 65536 in
set_option maxHeartbeats 40000000 in
theorem rm1 (l : Launch) (Z : State) (a0 : Array Value) (hw : ∀ d ∈ tables_1, d.before a0 Z = true) (ws : List Jvm.Cond) (p1 : Int32) (w_FALSE : Addr) (w_UNKNOWN : Addr) (w_TRUE : Addr) (r : Value) (h0 : Heap) (n0 : Nat) (hn0 : n0 ≤ h0.size) (S_FALSE : Sta Z h0 "com/example/ground0/ground0/refutation/Satisfaction$Truth" "FALSE" "Lcom/example/ground0/ground0/refutation/Satisfaction$Truth;" (.ref w_FALSE)) (S_UNKNOWN : Sta Z h0 "com/example/ground0/ground0/refutation/Satisfaction$Truth" "UNKNOWN" "Lcom/example/ground0/ground0/refutation/Satisfaction$Truth;" (.ref w_UNKNOWN)) (S_TRUE : Sta Z h0 "com/example/ground0/ground0/refutation/Satisfaction$Truth" "TRUE" "Lcom/example/ground0/ground0/refutation/Satisfaction$Truth;" (.ref w_TRUE)) (hr : own_f_rm1 p1 w_FALSE w_TRUE = r) :
    OwnMet l Z (⟨"com/example/ground0/ground0/refutation/Satisfaction$Truth", "of", "(Z)Lcom/example/ground0/ground0/refutation/Satisfaction$Truth;"⟩ : MethodName) prog_98_method_4_code 1 (some (.object "com/example/ground0/ground0/refutation/Satisfaction$Truth")) ws ({ frames := 0, cells := 0, slots := 0, locals := 0 } : Room) #[(.int p1)] h0 (OwnP (some r) h0 n0) := by
  refine own_body (plainFor_of_name own_pn0) ?_
  intro p e s m below meth c s₁ X0 hx hby hml hret hlk hown0 hnm hZ e0 hs0
  have hown : s.vm.findClass "com/example/ground0/ground0/refutation/Satisfaction$Truth" = some m.cls := hown0
  have N0 := Fr.nil n0
  refine own_entry (own_ef_rm1 m p1) ?_
  show Go _ _ _ _ _ s₁ (mkF m 0 #[.val (.int p1)] [])
  refine own_go (fun t k => XS.iloadN X0.here hx rfl (hb hby d_prog_98_method_4_0) rfl k) ?_
  show Go _ _ _ _ _ s₁ (mkF m 1 #[.val (.int p1)] [(.int p1)])
  refine own_ifP (p1 = (0 : Int32)) X0 hx (hb hby d_prog_98_method_4_1) (own_eq _ _) (by decide) (by decide) (pc' := 10) (fun hc4 => ?_) (fun hc4 => ?_)
  · skip
    show Go _ _ _ _ _ s₁ (mkF m 10 #[.val (.int p1)] [])
    obtain ⟨T5, X5, e5, st5⟩ := getS2 X0 hx hZ hown (host := "") (Or.inl (hw _ (List.mem_of_getElem? (i := 4) rfl))) Via.refl e0 S_FALSE (g := (mkF m 10 #[.val (.int p1)] [])) rfl (hb hby d_prog_98_method_4_10)
    refine own_go (fun t k => st5 t k) ?_
    show Go _ _ _ _ _ T5 (mkF m 13 #[.val (.int p1)] [(.ref w_FALSE)])
    refine own_retA X5 hx (own_lvN X5 hlk (by decide) (by decide)) hret rfl rfl (hb hby d_prog_98_method_4_13) ?_
    exact ⟨(by rw [← hr, own_f_rm1, if_pos hc4]; try rfl), N0, e5⟩
  · skip
    show Go _ _ _ _ _ s₁ (mkF m 4 #[.val (.int p1)] [])
    obtain ⟨T6, X6, e6, st6⟩ := getS2 X0 hx hZ hown (host := "") (Or.inl (hw _ (List.mem_of_getElem? (i := 8) rfl))) Via.refl e0 S_TRUE (g := (mkF m 4 #[.val (.int p1)] [])) rfl (hb hby d_prog_98_method_4_4)
    refine own_go (fun t k => st6 t k) ?_
    show Go _ _ _ _ _ T6 (mkF m 7 #[.val (.int p1)] [(.ref w_TRUE)])
    refine own_go (fun t k => XS.goto X6.here hx rfl (pc0 := 7) (pc' := 13) rfl (hb hby d_prog_98_method_4_7) (by decide) (by decide) k) ?_
    show Go _ _ _ _ _ T6 (mkF m 13 #[.val (.int p1)] [(.ref w_TRUE)])
    refine own_retA X6 hx (own_lvN X6 hlk (by decide) (by decide)) hret rfl rfl (hb hby d_prog_98_method_4_13) ?_
    exact ⟨(by rw [← hr, own_f_rm1, if_neg hc4]; try rfl), N0, e6⟩
theorem d_jdk_37_method_2_0 : Jvm.ClassFile.decode jdk_37_method_2_code 0 = .ok (.aload_n 0, 1) := by decide +kernel
theorem d_jdk_37_method_2_1 : Jvm.ClassFile.decode jdk_37_method_2_code 1 = .ok (.getfield 7, 3) := by decide +kernel
theorem d_jdk_37_method_2_4 : Jvm.ClassFile.decode jdk_37_method_2_code 4 = .ok (.ireturn, 1) := by decide +kernel
def own_f_rm4 (k1 : Int32) : Int32 := k1
theorem own_pn1 : plainName "java/lang/Enum" = true := by first | (simp [plainName, overriddenIn]; done) | decide +kernel
theorem own_ef_rm4 (m : MethodId) (x0 : Addr) : entryFrame m #[(.ref x0)] 1 = mkF m 0 #[.val (.ref x0)] [] := by first | (simp [entryFrame, mkF, argsToLocals, Value.category]; done) | rfl
set_option maxRecDepth 65536 in
set_option maxHeartbeats 40000000 in
theorem rm4 (l : Launch) (Z : State) (a0 : Array Value) (hw : ∀ d ∈ tables_1, d.before a0 Z = true) (ws : List Jvm.Cond) (a1 : Addr) (k1 : Int32) (r : Int32) (h0 : Heap) (n0 : Nat) (hn0 : n0 ≤ h0.size) (F : Fld Z h0 a1 "java/lang/Enum" "ordinal" "I" (.int k1)) (hr : own_f_rm4 k1 = r) :
    OwnMet l Z (⟨"java/lang/Enum", "ordinal", "()I"⟩ : MethodName) jdk_37_method_2_code 1 (some .int) ws ({ frames := 0, cells := 0, slots := 0, locals := 0 } : Room) #[(.ref a1)] h0 (OwnP (some (.int r)) h0 n0) := by
  refine own_body (plainFor_of_name own_pn1) ?_
  intro p e s m below meth c s₁ X0 hx hby hml hret hlk hown0 hnm hZ e0 hs0
  have hown : s.vm.findClass "java/lang/Enum" = some m.cls := hown0
  have N0 := Fr.nil n0
  refine own_entry (own_ef_rm4 m a1) ?_
  show Go _ _ _ _ _ s₁ (mkF m 0 #[.val (.ref a1)] [])
  refine own_go (fun t k => XS.aloadN X0.here hx rfl (hb hby d_jdk_37_method_2_0) rfl rfl k) ?_
  show Go _ _ _ _ _ s₁ (mkF m 1 #[.val (.ref a1)] [(.ref a1)])
  obtain ⟨T8, X8, e8, st8⟩ := getF X0 hx hZ hown (host := "") (Or.inl (hw _ (List.mem_of_getElem? (i := 37) rfl))) Via.refl e0 F (g := (mkF m 1 #[.val (.ref a1)] [(.ref a1)])) rfl rfl (hb hby d_jdk_37_method_2_1)
  refine own_go (fun t k => st8 t k) ?_
  show Go _ _ _ _ _ T8 (mkF m 4 #[.val (.ref a1)] [(.int k1)])
  refine own_retI X8 hx (own_lvN X8 hlk (by decide) (by decide)) hret (hb hby d_jdk_37_method_2_4) ?_
  exact ⟨(by rw [← hr, own_f_rm4]; try rfl), N0, e8⟩
def OwnQ_val (Z : State) (kv : ClassId) (w_FALSE : Addr) (w_UNKNOWN : Addr) (w_TRUE : Addr) (h0 : Heap) (n0 : Nat) (v : Option Value) (h : Heap) (L : List Loc) : Prop := ∃ b, v = some (.ref b) ∧ Fr n0 L ∧ Keep h0 h [] ∧ h0.size ≤ b ∧ Arv Z h b kv (.object "com/example/ground0/ground0/refutation/Satisfaction$Truth") (3 : Int32) [(.ref w_FALSE), (.ref w_UNKNOWN), (.ref w_TRUE)] .null
theorem d_prog_98_method_1_0 : Jvm.ClassFile.decode prog_98_method_1_code 0 = .ok (.getstatic 13, 3) := by decide +kernel
theorem d_prog_98_method_1_3 : Jvm.ClassFile.decode prog_98_method_1_code 3 = .ok (.invokevirtual 17, 3) := by decide +kernel
theorem d_prog_98_method_1_6 : Jvm.ClassFile.decode prog_98_method_1_code 6 = .ok (.checkcast 18, 3) := by decide +kernel
theorem d_prog_98_method_1_9 : Jvm.ClassFile.decode prog_98_method_1_code 9 = .ok (.areturn, 1) := by decide +kernel
theorem own_ef_rm_val (m : MethodId)  : entryFrame m #[] 0 = mkF m 0 #[] [] := by first | (simp [entryFrame, mkF, argsToLocals, Value.category]; done) | rfl
set_option maxRecDepth 65536 in
set_option maxHeartbeats 40000000 in
theorem rm_val (l : Launch) (Z : State) (a0 : Array Value) (hw : ∀ d ∈ tables_1, d.before a0 Z = true) (ws : List Jvm.Cond) (w__VALUES : Addr) (kv : ClassId) (w_FALSE : Addr) (w_UNKNOWN : Addr) (w_TRUE : Addr) (h0 : Heap) (n0 : Nat) (hn0 : n0 ≤ h0.size) (S__VALUES : Sta Z h0 "com/example/ground0/ground0/refutation/Satisfaction$Truth" "$VALUES" "[Lcom/example/ground0/ground0/refutation/Satisfaction$Truth;" (.ref w__VALUES)) (E__VALUES : Exa Z h0 w__VALUES "[Lcom/example/ground0/ground0/refutation/Satisfaction$Truth;") (V_v : Arv Z h0 w__VALUES kv (.object "com/example/ground0/ground0/refutation/Satisfaction$Truth") (3 : Int32) [(.ref w_FALSE), (.ref w_UNKNOWN), (.ref w_TRUE)] .null) :
    OwnMet l Z (⟨"com/example/ground0/ground0/refutation/Satisfaction$Truth", "values", "()[Lcom/example/ground0/ground0/refutation/Satisfaction$Truth;"⟩ : MethodName) prog_98_method_1_code 0 (some (.array (.object "com/example/ground0/ground0/refutation/Satisfaction$Truth"))) ws ({ frames := 1, cells := 1, slots := 3, locals := 14 } : Room) #[] h0 (OwnQ_val Z kv w_FALSE w_UNKNOWN w_TRUE h0 n0) := by
  refine own_body (plainFor_of_name own_pn0) ?_
  intro p e s m below meth c s₁ X0 hx hby hml hret hlk hown0 hnm hZ e0 hs0
  have hown : s.vm.findClass "com/example/ground0/ground0/refutation/Satisfaction$Truth" = some m.cls := hown0
  have N0 := Fr.nil n0
  refine own_entry (own_ef_rm_val m ) ?_
  have K0 := Keep.refl h0 []
  show Go _ _ _ _ _ s₁ (mkF m 0 #[] [])
  obtain ⟨T9, X9, e9, st9⟩ := getS2 X0 hx hZ hown (host := "") (Or.inl (hw _ (List.mem_of_getElem? (i := 18) rfl))) Via.refl e0 S__VALUES (g := (mkF m 0 #[] [])) rfl (hb hby d_prog_98_method_1_0)
  refine own_go (fun t k => st9 t k) ?_
  show Go _ _ _ _ _ T9 (mkF m 3 #[] [(.ref w__VALUES)])
  obtain ⟨T10, h10, X10, e10, E10, A10, Y10, st10⟩ := cloneH X9 hx hZ hown (hw _ (List.mem_of_getElem? (i := 20) rfl)) (hw _ (List.mem_of_getElem? (i := 21) rfl)) (hw _ (List.mem_of_getElem? (i := 25) rfl)) (hw _ (List.mem_of_getElem? (i := 23) rfl)) (hw _ (List.mem_of_getElem? (i := 24) rfl)) (hw _ (List.mem_of_getElem? (i := 26) rfl)) e9 V_v.arh E__VALUES (g := (mkF m 3 #[] [(.ref w__VALUES)])) rfl (by rw [hml]; rfl) rfl (hb hby d_prog_98_method_1_3) (by decide) (W := 0) (by show 2 * 0 + _ ≤ _; exact Nat.le_of_eq rfl) (by decide) (cap := 3) (by decide) (by decide) (by decide)
  obtain ⟨b10, g10⟩ : ∃ z, z = h0.size := ⟨_, rfl⟩
  rw [← g10] at A10 Y10 st10
  have ne_w__VALUES_b10 : ¬ w__VALUES = b10 := Nat.ne_of_lt (by rw [g10]; exact E__VALUES.lt)
  replace S__VALUES := S__VALUES.ext E10
  replace E__VALUES := E__VALUES.ext E10
  replace V_v := V_v.ext E10
  have g_b10 : n0 ≤ b10 := by rw [g10]; exact hn0
  have hn10 : n0 ≤ h10.size := Nat.le_trans hn0 E10.1
  have sz_b10 : h0.size ≤ b10 := by rw [g10]; exact K0.1
  have K10 := K0.ext E10
  refine own_go (fun t k => st10 t k) ?_
  have V10 : Arv Z h10 b10 kv (.object "com/example/ground0/ground0/refutation/Satisfaction$Truth") (3 : Int32) [(.ref w_FALSE), (.ref w_UNKNOWN), (.ref w_TRUE)] .null := A10
  show Go _ _ _ _ _ T10 (mkF m 6 #[] [(.ref b10)])
  obtain ⟨T11, X11, e11, st11⟩ := castY X10 hx hZ hown (hw _ (List.mem_of_getElem? (i := 28) rfl)) e10 (Ins.self Y10) (g := (mkF m 6 #[] [(.ref b10)])) rfl rfl (hb hby d_prog_98_method_1_6)
  refine own_go (fun t k => st11 t k) ?_
  show Go _ _ _ _ _ T11 (mkF m 9 #[] [(.ref b10)])
  refine own_retA X11 hx (own_lvN X11 hlk (by decide) (by decide)) hret rfl rfl (hb hby d_prog_98_method_1_9) ?_
  rw [e11]
  exact ⟨_, rfl, N0, K10, sz_b10, V10⟩
def OwnQ_not (r : Addr) (h0 : Heap) (n0 : Nat) (v : Option Value) (h : Heap) (L : List Loc) : Prop := v = some (.ref r) ∧ Fr n0 L ∧ Keep h0 h []
theorem d_prog_98_method_5_0 : Jvm.ClassFile.decode prog_98_method_5_code 0 = .ok (.invokestatic 32, 3) := by decide +kernel
theorem own_pd0 : parseMethodDescriptor "()[Lcom/example/ground0/ground0/refutation/Satisfaction$Truth;" = some ⟨[], some (.array (.object "com/example/ground0/ground0/refutation/Satisfaction$Truth"))⟩ := by decide +kernel
theorem d_prog_98_method_5_3 : Jvm.ClassFile.decode prog_98_method_5_code 3 = .ok (.iconst 2, 1) := by decide +kernel
theorem d_prog_98_method_5_4 : Jvm.ClassFile.decode prog_98_method_5_code 4 = .ok (.aload_n 0, 1) := by decide +kernel
theorem d_prog_98_method_5_5 : Jvm.ClassFile.decode prog_98_method_5_code 5 = .ok (.invokevirtual 36, 3) := by decide +kernel
theorem own_pd1 : parseMethodDescriptor "()I" = some ⟨[], some .int⟩ := by decide +kernel
theorem d_prog_98_method_5_8 : Jvm.ClassFile.decode prog_98_method_5_code 8 = .ok (.isub, 1) := by decide +kernel
theorem d_prog_98_method_5_9 : Jvm.ClassFile.decode prog_98_method_5_code 9 = .ok (.aaload, 1) := by decide +kernel
theorem d_prog_98_method_5_10 : Jvm.ClassFile.decode prog_98_method_5_code 10 = .ok (.areturn, 1) := by decide +kernel
theorem own_ef_rm_not_0 (m : MethodId) (x0 : Addr) : entryFrame m #[(.ref x0)] 1 = mkF m 0 #[.val (.ref x0)] [] := by first | (simp [entryFrame, mkF, argsToLocals, Value.category]; done) | rfl
set_option maxRecDepth 65536 in
set_option maxHeartbeats 40000000 in
theorem rm_not_0 (l : Launch) (Z : State) (a0 : Array Value) (hw : ∀ d ∈ tables_1, d.before a0 Z = true) (ws : List Jvm.Cond) (a1 : Addr) (w__VALUES : Addr) (kv : ClassId) (w_FALSE : Addr) (w_UNKNOWN : Addr) (w_TRUE : Addr) (h0 : Heap) (n0 : Nat) (hn0 : n0 ≤ h0.size) (S__VALUES : Sta Z h0 "com/example/ground0/ground0/refutation/Satisfaction$Truth" "$VALUES" "[Lcom/example/ground0/ground0/refutation/Satisfaction$Truth;" (.ref w__VALUES)) (E__VALUES : Exa Z h0 w__VALUES "[Lcom/example/ground0/ground0/refutation/Satisfaction$Truth;") (V_v : Arv Z h0 w__VALUES kv (.object "com/example/ground0/ground0/refutation/Satisfaction$Truth") (3 : Int32) [(.ref w_FALSE), (.ref w_UNKNOWN), (.ref w_TRUE)] .null) (E_a1 : Exa Z h0 a1 "com/example/ground0/ground0/refutation/Satisfaction$Truth") (F_a1 : Fld Z h0 a1 "java/lang/Enum" "ordinal" "I" (.int (0 : Int32))) :
    OwnMet l Z (⟨"com/example/ground0/ground0/refutation/Satisfaction$Truth", "not", "()Lcom/example/ground0/ground0/refutation/Satisfaction$Truth;"⟩ : MethodName) prog_98_method_5_code 1 (some (.object "com/example/ground0/ground0/refutation/Satisfaction$Truth")) ws ({ frames := 2, cells := 1, slots := 3, locals := 25 } : Room) #[(.ref a1)] h0 (OwnQ_not w_TRUE h0 n0) := by
  refine own_body (plainFor_of_name own_pn0) ?_
  intro p e s m below meth c s₁ X0 hx hby hml hret hlk hown0 hnm hZ e0 hs0
  have hown : s.vm.findClass "com/example/ground0/ground0/refutation/Satisfaction$Truth" = some m.cls := hown0
  have N0 := Fr.nil n0
  refine own_entry (own_ef_rm_not_0 m a1) ?_
  have K0 := Keep.refl h0 []
  show Go _ _ _ _ _ s₁ (mkF m 0 #[.val (.ref a1)] [])
  refine own_callS X0 hx hZ (y := (⟨"com/example/ground0/ground0/refutation/Satisfaction$Truth", "values", "()[Lcom/example/ground0/ground0/refutation/Satisfaction$Truth;"⟩ : MethodName)) hown (hw _ (List.mem_of_getElem? (i := 15) rfl)) (hw _ (List.mem_of_getElem? (i := 16) rfl)) (hw _ (List.mem_of_getElem? (i := 2) rfl)) (hw _ (List.mem_of_getElem? (i := 17) rfl)) (by decide) (rm_val l Z a0 hw [] w__VALUES kv w_FALSE w_UNKNOWN w_TRUE h0 n0 hn0 S__VALUES E__VALUES V_v) e0 (by rw [hml]; rfl) (argsL := []) (rest := []) rfl rfl (lenOf own_pd0 rfl) (W := 0) (Nat.le_of_eq rfl) (by decide) (by decide) (hb hby d_prog_98_method_5_0) (by decide) (by decide) ?_
  intro v12 T12 L12 X12 q12
  obtain ⟨b12, rfl, N12q, K12, hb12, V12⟩ := q12
  have N12 := Fr.app N0 N12q
  replace S__VALUES := own_sta_keep S__VALUES K12 all0
  replace F_a1 := F_a1.keep K12 nin0
  replace V_v := V_v.keep K12 nin0
  replace E__VALUES := E__VALUES.keep K12
  replace E_a1 := E_a1.keep K12
  have hn12 : n0 ≤ T12.heap.size := Nat.le_trans hn0 K12.1
  have KK12 := K0.trans K12 all0
  show Go _ _ _ _ _ T12 (mkF m 3 #[.val (.ref a1)] [(.ref b12)])
  refine own_go (fun t k => XS.iconst X12.here hx rfl (hb hby d_prog_98_method_5_3) k) ?_
  show Go _ _ _ _ _ T12 (mkF m 4 #[.val (.ref a1)] [(.int (2 : Int32)), (.ref b12)])
  refine own_go (fun t k => XS.aloadN X12.here hx rfl (hb hby d_prog_98_method_5_4) rfl rfl k) ?_
  show Go _ _ _ _ _ T12 (mkF m 5 #[.val (.ref a1)] [(.ref a1), (.int (2 : Int32)), (.ref b12)])
  refine own_callU X12 hx hZ (owner := "java/lang/Enum") (y := (⟨"com/example/ground0/ground0/refutation/Satisfaction$Truth", "ordinal", "()I"⟩ : MethodName)) (z := (⟨"java/lang/Enum", "ordinal", "()I"⟩ : MethodName)) hown (hw _ (List.mem_of_getElem? (i := 30) rfl)) (hw _ (List.mem_of_getElem? (i := 31) rfl)) (hw _ (List.mem_of_getElem? (i := 32) rfl)) (hw _ (List.mem_of_getElem? (i := 34) rfl)) (hw _ (List.mem_of_getElem? (i := 33) rfl)) (hw _ (List.mem_of_getElem? (i := 36) rfl)) (hw _ (List.mem_of_getElem? (i := 35) rfl)) (by decide) (rm4 l Z a0 hw [] a1 (0 : Int32) (0 : Int32) T12.heap n0 hn12 F_a1 (by rw [own_f_rm4]; try first | rfl | decide)) rfl E_a1 (by rw [hml]; rfl) (argsL := []) (rest := [(.int (2 : Int32)), (.ref b12)]) rfl rfl (lenOf own_pd1 rfl) (W := 2) (Nat.le_of_eq rfl) (by decide) (by decide) (hb hby d_prog_98_method_5_5) (by decide) (by decide) ?_
  intro v13 T13 L13 X13 q13
  obtain ⟨rfl, N13q, e13⟩ := q13
  have N13 := Fr.app N12 N13q
  show Go _ _ _ _ _ T13 (mkF m 8 #[.val (.ref a1)] [(.int (0 : Int32)), (.int (2 : Int32)), (.ref b12)])
  refine own_go (fun t k => XS.isub X13.here hx rfl (hb hby d_prog_98_method_5_8) rfl k) ?_
  show Go _ _ _ _ _ T13 (mkF m 9 #[.val (.ref a1)] [(.int (2 : Int32)), (.ref b12)])
  obtain ⟨cl14, Ar14, q14, S14, N14z, H14, G14⟩ := id V12
  have hin14 := inb_of S14 (j := (2 : Int32)) (z := (3 : Int32)) ⟨by decide, by decide⟩
  have hat14 : cl14.slots[((2 : Int32)).toNatClampNeg]? = some (.ref w_TRUE) := H14 _ (Nat.lt_of_not_le fun q => hin14 (Or.inr q))
  refine own_go (fun t k => X13.aaload hx (j := (2 : Int32)) (v := (.ref w_TRUE)) (by rw [e13]; exact Ar14.1) (State.isArrayOf_alike hZ.alike Ar14.2.1) rfl Ar14.2.2 hin14 hat14 (g := (mkF m 9 #[.val (.ref a1)] [(.int (2 : Int32)), (.ref b12)])) rfl rfl (hb hby d_prog_98_method_5_9) _ k) ?_
  show Go _ _ _ _ _ T13 (mkF m 10 #[.val (.ref a1)] [(.ref w_TRUE)])
  refine own_retA X13 hx (own_lvN X13 hlk (by decide) (by decide)) hret rfl rfl (hb hby d_prog_98_method_5_10) ?_
  rw [e13]
  exact ⟨rfl, N13, KK12⟩
theorem own_ef_rm_not_2 (m : MethodId) (x0 : Addr) : entryFrame m #[(.ref x0)] 1 = mkF m 0 #[.val (.ref x0)] [] := by first | (simp [entryFrame, mkF, argsToLocals, Value.category]; done) | rfl
set_option maxRecDepth 65536 in
set_option maxHeartbeats 40000000 in
theorem rm_not_2 (l : Launch) (Z : State) (a0 : Array Value) (hw : ∀ d ∈ tables_1, d.before a0 Z = true) (ws : List Jvm.Cond) (a1 : Addr) (w__VALUES : Addr) (kv : ClassId) (w_FALSE : Addr) (w_UNKNOWN : Addr) (w_TRUE : Addr) (h0 : Heap) (n0 : Nat) (hn0 : n0 ≤ h0.size) (S__VALUES : Sta Z h0 "com/example/ground0/ground0/refutation/Satisfaction$Truth" "$VALUES" "[Lcom/example/ground0/ground0/refutation/Satisfaction$Truth;" (.ref w__VALUES)) (E__VALUES : Exa Z h0 w__VALUES "[Lcom/example/ground0/ground0/refutation/Satisfaction$Truth;") (V_v : Arv Z h0 w__VALUES kv (.object "com/example/ground0/ground0/refutation/Satisfaction$Truth") (3 : Int32) [(.ref w_FALSE), (.ref w_UNKNOWN), (.ref w_TRUE)] .null) (E_a1 : Exa Z h0 a1 "com/example/ground0/ground0/refutation/Satisfaction$Truth") (F_a1 : Fld Z h0 a1 "java/lang/Enum" "ordinal" "I" (.int (2 : Int32))) :
    OwnMet l Z (⟨"com/example/ground0/ground0/refutation/Satisfaction$Truth", "not", "()Lcom/example/ground0/ground0/refutation/Satisfaction$Truth;"⟩ : MethodName) prog_98_method_5_code 1 (some (.object "com/example/ground0/ground0/refutation/Satisfaction$Truth")) ws ({ frames := 2, cells := 1, slots := 3, locals := 25 } : Room) #[(.ref a1)] h0 (OwnQ_not w_FALSE h0 n0) := by
  refine own_body (plainFor_of_name own_pn0) ?_
  intro p e s m below meth c s₁ X0 hx hby hml hret hlk hown0 hnm hZ e0 hs0
  have hown : s.vm.findClass "com/example/ground0/ground0/refutation/Satisfaction$Truth" = some m.cls := hown0
  have N0 := Fr.nil n0
  refine own_entry (own_ef_rm_not_2 m a1) ?_
  have K0 := Keep.refl h0 []
  show Go _ _ _ _ _ s₁ (mkF m 0 #[.val (.ref a1)] [])
  refine own_callS X0 hx hZ (y := (⟨"com/example/ground0/ground0/refutation/Satisfaction$Truth", "values", "()[Lcom/example/ground0/ground0/refutation/Satisfaction$Truth;"⟩ : MethodName)) hown (hw _ (List.mem_of_getElem? (i := 15) rfl)) (hw _ (List.mem_of_getElem? (i := 16) rfl)) (hw _ (List.mem_of_getElem? (i := 2) rfl)) (hw _ (List.mem_of_getElem? (i := 17) rfl)) (by decide) (rm_val l Z a0 hw [] w__VALUES kv w_FALSE w_UNKNOWN w_TRUE h0 n0 hn0 S__VALUES E__VALUES V_v) e0 (by rw [hml]; rfl) (argsL := []) (rest := []) rfl rfl (lenOf own_pd0 rfl) (W := 0) (Nat.le_of_eq rfl) (by decide) (by decide) (hb hby d_prog_98_method_5_0) (by decide) (by decide) ?_
  intro v15 T15 L15 X15 q15
  obtain ⟨b15, rfl, N15q, K15, hb15, V15⟩ := q15
  have N15 := Fr.app N0 N15q
  replace S__VALUES := own_sta_keep S__VALUES K15 all0
  replace F_a1 := F_a1.keep K15 nin0
  replace V_v := V_v.keep K15 nin0
  replace E__VALUES := E__VALUES.keep K15
  replace E_a1 := E_a1.keep K15
  have hn15 : n0 ≤ T15.heap.size := Nat.le_trans hn0 K15.1
  have KK15 := K0.trans K15 all0
  show Go _ _ _ _ _ T15 (mkF m 3 #[.val (.ref a1)] [(.ref b15)])
  refine own_go (fun t k => XS.iconst X15.here hx rfl (hb hby d_prog_98_method_5_3) k) ?_
  show Go _ _ _ _ _ T15 (mkF m 4 #[.val (.ref a1)] [(.int (2 : Int32)), (.ref b15)])
  refine own_go (fun t k => XS.aloadN X15.here hx rfl (hb hby d_prog_98_method_5_4) rfl rfl k) ?_
  show Go _ _ _ _ _ T15 (mkF m 5 #[.val (.ref a1)] [(.ref a1), (.int (2 : Int32)), (.ref b15)])
  refine own_callU X15 hx hZ (owner := "java/lang/Enum") (y := (⟨"com/example/ground0/ground0/refutation/Satisfaction$Truth", "ordinal", "()I"⟩ : MethodName)) (z := (⟨"java/lang/Enum", "ordinal", "()I"⟩ : MethodName)) hown (hw _ (List.mem_of_getElem? (i := 30) rfl)) (hw _ (List.mem_of_getElem? (i := 31) rfl)) (hw _ (List.mem_of_getElem? (i := 32) rfl)) (hw _ (List.mem_of_getElem? (i := 34) rfl)) (hw _ (List.mem_of_getElem? (i := 33) rfl)) (hw _ (List.mem_of_getElem? (i := 36) rfl)) (hw _ (List.mem_of_getElem? (i := 35) rfl)) (by decide) (rm4 l Z a0 hw [] a1 (2 : Int32) (2 : Int32) T15.heap n0 hn15 F_a1 (by rw [own_f_rm4]; try first | rfl | decide)) rfl E_a1 (by rw [hml]; rfl) (argsL := []) (rest := [(.int (2 : Int32)), (.ref b15)]) rfl rfl (lenOf own_pd1 rfl) (W := 2) (Nat.le_of_eq rfl) (by decide) (by decide) (hb hby d_prog_98_method_5_5) (by decide) (by decide) ?_
  intro v16 T16 L16 X16 q16
  obtain ⟨rfl, N16q, e16⟩ := q16
  have N16 := Fr.app N15 N16q
  show Go _ _ _ _ _ T16 (mkF m 8 #[.val (.ref a1)] [(.int (2 : Int32)), (.int (2 : Int32)), (.ref b15)])
  refine own_go (fun t k => XS.isub X16.here hx rfl (hb hby d_prog_98_method_5_8) rfl k) ?_
  show Go _ _ _ _ _ T16 (mkF m 9 #[.val (.ref a1)] [(.int (0 : Int32)), (.ref b15)])
  obtain ⟨cl17, Ar17, q17, S17, N17z, H17, G17⟩ := id V15
  have hin17 := inb_of S17 (j := (0 : Int32)) (z := (3 : Int32)) ⟨by decide, by decide⟩
  have hat17 : cl17.slots[((0 : Int32)).toNatClampNeg]? = some (.ref w_FALSE) := H17 _ (Nat.lt_of_not_le fun q => hin17 (Or.inr q))
  refine own_go (fun t k => X16.aaload hx (j := (0 : Int32)) (v := (.ref w_FALSE)) (by rw [e16]; exact Ar17.1) (State.isArrayOf_alike hZ.alike Ar17.2.1) rfl Ar17.2.2 hin17 hat17 (g := (mkF m 9 #[.val (.ref a1)] [(.int (0 : Int32)), (.ref b15)])) rfl rfl (hb hby d_prog_98_method_5_9) _ k) ?_
  show Go _ _ _ _ _ T16 (mkF m 10 #[.val (.ref a1)] [(.ref w_FALSE)])
  refine own_retA X16 hx (own_lvN X16 hlk (by decide) (by decide)) hret rfl rfl (hb hby d_prog_98_method_5_10) ?_
  rw [e16]
  exact ⟨rfl, N16, KK15⟩
theorem d_jdk_37_method_8_0 : Jvm.ClassFile.decode jdk_37_method_8_code 0 = .ok (.aload_n 1, 1) := by decide +kernel
theorem d_jdk_37_method_8_1 : Jvm.ClassFile.decode jdk_37_method_8_code 1 = .ok (.astore_n 2, 1) := by decide +kernel
theorem d_jdk_37_method_8_2 : Jvm.ClassFile.decode jdk_37_method_8_code 2 = .ok (.aload_n 0, 1) := by decide +kernel
theorem d_jdk_37_method_8_3 : Jvm.ClassFile.decode jdk_37_method_8_code 3 = .ok (.astore_n 3, 1) := by decide +kernel
theorem d_jdk_37_method_8_4 : Jvm.ClassFile.decode jdk_37_method_8_code 4 = .ok (.aload_n 3, 1) := by decide +kernel
theorem d_jdk_37_method_8_5 : Jvm.ClassFile.decode jdk_37_method_8_code 5 = .ok (.invokevirtual 29, 3) := by decide +kernel
theorem d_jdk_37_method_8_8 : Jvm.ClassFile.decode jdk_37_method_8_code 8 = .ok (.aload_n 2, 1) := by decide +kernel
theorem d_jdk_37_method_8_9 : Jvm.ClassFile.decode jdk_37_method_8_code 9 = .ok (.invokevirtual 29, 3) := by decide +kernel
theorem d_jdk_37_method_8_12 : Jvm.ClassFile.decode jdk_37_method_8_code 12 = .ok (.if_acmp .eq 22, 3) := by decide +kernel
theorem d_jdk_37_method_8_34 : Jvm.ClassFile.decode jdk_37_method_8_code 34 = .ok (.aload_n 3, 1) := by decide +kernel
theorem d_jdk_37_method_8_35 : Jvm.ClassFile.decode jdk_37_method_8_code 35 = .ok (.getfield 7, 3) := by decide +kernel
theorem d_jdk_37_method_8_38 : Jvm.ClassFile.decode jdk_37_method_8_code 38 = .ok (.aload_n 2, 1) := by decide +kernel
theorem d_jdk_37_method_8_39 : Jvm.ClassFile.decode jdk_37_method_8_code 39 = .ok (.getfield 7, 3) := by decide +kernel
theorem d_jdk_37_method_8_42 : Jvm.ClassFile.decode jdk_37_method_8_code 42 = .ok (.isub, 1) := by decide +kernel
theorem d_jdk_37_method_8_43 : Jvm.ClassFile.decode jdk_37_method_8_code 43 = .ok (.ireturn, 1) := by decide +kernel
def own_f_rm_cmp (k1 : Int32) (k2 : Int32) : Int32 := (k1 - k2)
theorem own_ef_rm_cmp (m : MethodId) (x0 : Addr) (x1 : Addr) : entryFrame m #[(.ref x0), (.ref x1)] 4 = mkF m 0 #[.val (.ref x0), .val (.ref x1), .unset, .unset] [] := by first | (simp [entryFrame, mkF, argsToLocals, Value.category]; done) | rfl
set_option maxRecDepth 65536 in
set_option maxHeartbeats 40000000 in
theorem rm_cmp (l : Launch) (Z : State) (a0 : Array Value) (hw : ∀ d ∈ tables_1, d.before a0 Z = true) (ws : List Jvm.Cond) (a1 : Addr) (a2 : Addr) (k1 : Int32) (k2 : Int32) (mir : Addr) (r : Int32) (h0 : Heap) (n0 : Nat) (hn0 : n0 ≤ h0.size) (Mir : OwnMir Z "com/example/ground0/ground0/refutation/Satisfaction$Truth" mir) (E_a1 : Exa Z h0 a1 "com/example/ground0/ground0/refutation/Satisfaction$Truth") (F_a1 : Fld Z h0 a1 "java/lang/Enum" "ordinal" "I" (.int k1)) (E_a2 : Exa Z h0 a2 "com/example/ground0/ground0/refutation/Satisfaction$Truth") (F_a2 : Fld Z h0 a2 "java/lang/Enum" "ordinal" "I" (.int k2)) (hr : own_f_rm_cmp k1 k2 = r) :
    OwnMet l Z (⟨"java/lang/Enum", "compareTo", "(Ljava/lang/Enum;)I"⟩ : MethodName) jdk_37_method_8_code 4 (some .int) ws ({ frames := 1, cells := 0, slots := 0, locals := 15 } : Room) #[(.ref a1), (.ref a2)] h0 (OwnP (some (.int r)) h0 n0) := by
  refine own_body (plainFor_of_name own_pn1) ?_
  intro p e s m below meth c s₁ X0 hx hby hml hret hlk hown0 hnm hZ e0 hs0
  have hown : s.vm.findClass "java/lang/Enum" = some m.cls := hown0
  have N0 := Fr.nil n0
  refine own_entry (own_ef_rm_cmp m a1 a2) ?_
  show Go _ _ _ _ _ s₁ (mkF m 0 #[.val (.ref a1), .val (.ref a2), .unset, .unset] [])
  refine own_go (fun t k => XS.aloadN X0.here hx rfl (hb hby d_jdk_37_method_8_0) rfl rfl k) ?_
  show Go _ _ _ _ _ s₁ (mkF m 1 #[.val (.ref a1), .val (.ref a2), .unset, .unset] [(.ref a2)])
  refine own_go (fun t k => XS.astoreN X0.here hx rfl (hb hby d_jdk_37_method_8_1) rfl rfl (l' := #[.val (.ref a1), .val (.ref a2), .val (.ref a2), .unset]) rfl k) ?_
  show Go _ _ _ _ _ s₁ (mkF m 2 #[.val (.ref a1), .val (.ref a2), .val (.ref a2), .unset] [])
  refine own_go (fun t k => XS.aloadN X0.here hx rfl (hb hby d_jdk_37_method_8_2) rfl rfl k) ?_
  show Go _ _ _ _ _ s₁ (mkF m 3 #[.val (.ref a1), .val (.ref a2), .val (.ref a2), .unset] [(.ref a1)])
  refine own_go (fun t k => XS.astoreN X0.here hx rfl (hb hby d_jdk_37_method_8_3) rfl rfl (l' := #[.val (.ref a1), .val (.ref a2), .val (.ref a2), .val (.ref a1)]) rfl k) ?_
  show Go _ _ _ _ _ s₁ (mkF m 4 #[.val (.ref a1), .val (.ref a2), .val (.ref a2), .val (.ref a1)] [])
  refine own_go (fun t k => XS.aloadN X0.here hx rfl (hb hby d_jdk_37_method_8_4) rfl rfl k) ?_
  show Go _ _ _ _ _ s₁ (mkF m 5 #[.val (.ref a1), .val (.ref a2), .val (.ref a2), .val (.ref a1)] [(.ref a1)])
  obtain ⟨T22, X22, e22, st22⟩ := own_getClass X0 hx hZ hown (hw _ (List.mem_of_getElem? (i := 50) rfl)) (hw _ (List.mem_of_getElem? (i := 51) rfl)) (hw _ (List.mem_of_getElem? (i := 53) rfl)) (hw _ (List.mem_of_getElem? (i := 52) rfl)) (hw _ (List.mem_of_getElem? (i := 54) rfl)) e0 E_a1 Mir (g := (mkF m 5 #[.val (.ref a1), .val (.ref a2), .val (.ref a2), .val (.ref a1)] [(.ref a1)])) rfl (by rw [hml]; rfl) rfl (hb hby d_jdk_37_method_8_5) (by decide) (by show 2 * 0 + 0 + (nativeFrameWords "java/lang/Object" "getClass" 1 + 11) ≤ _; decide)
  refine own_go (fun t k => st22 t k) ?_
  show Go _ _ _ _ _ T22 (mkF m 8 #[.val (.ref a1), .val (.ref a2), .val (.ref a2), .val (.ref a1)] [(.ref mir)])
  refine own_go (fun t k => XS.aloadN X22.here hx rfl (hb hby d_jdk_37_method_8_8) rfl rfl k) ?_
  show Go _ _ _ _ _ T22 (mkF m 9 #[.val (.ref a1), .val (.ref a2), .val (.ref a2), .val (.ref a1)] [(.ref a2), (.ref mir)])
  obtain ⟨T23, X23, e23, st23⟩ := own_getClass X22 hx hZ hown (hw _ (List.mem_of_getElem? (i := 50) rfl)) (hw _ (List.mem_of_getElem? (i := 51) rfl)) (hw _ (List.mem_of_getElem? (i := 53) rfl)) (hw _ (List.mem_of_getElem? (i := 52) rfl)) (hw _ (List.mem_of_getElem? (i := 54) rfl)) e22 E_a2 Mir (g := (mkF m 9 #[.val (.ref a1), .val (.ref a2), .val (.ref a2), .val (.ref a1)] [(.ref a2), (.ref mir)])) rfl (by rw [hml]; rfl) rfl (hb hby d_jdk_37_method_8_9) (by decide) (by show 2 * 0 + 1 + (nativeFrameWords "java/lang/Object" "getClass" 1 + 11) ≤ _; decide)
  refine own_go (fun t k => st23 t k) ?_
  show Go _ _ _ _ _ T23 (mkF m 12 #[.val (.ref a1), .val (.ref a2), .val (.ref a2), .val (.ref a1)] [(.ref mir), (.ref mir)])
  refine own_go (fun t k => Jvm.RoadKit.acmp (g := (mkF m 12 #[.val (.ref a1), .val (.ref a2), .val (.ref a2), .val (.ref a1)] [(.ref mir), (.ref mir)])) X23 hx rfl rfl rfl (pc0 := 12) (pc' := 34) (same := true) rfl (hb hby d_jdk_37_method_8_12) rfl (decide_eq_true rfl) (by decide) (by decide) k) ?_
  show Go _ _ _ _ _ T23 (mkF m 34 #[.val (.ref a1), .val (.ref a2), .val (.ref a2), .val (.ref a1)] [])
  refine own_go (fun t k => XS.aloadN X23.here hx rfl (hb hby d_jdk_37_method_8_34) rfl rfl k) ?_
  show Go _ _ _ _ _ T23 (mkF m 35 #[.val (.ref a1), .val (.ref a2), .val (.ref a2), .val (.ref a1)] [(.ref a1)])
  obtain ⟨T24, X24, e24, st24⟩ := getF X23 hx hZ hown (host := "") (Or.inl (hw _ (List.mem_of_getElem? (i := 37) rfl))) Via.refl e23 F_a1 (g := (mkF m 35 #[.val (.ref a1), .val (.ref a2), .val (.ref a2), .val (.ref a1)] [(.ref a1)])) rfl rfl (hb hby d_jdk_37_method_8_35)
  refine own_go (fun t k => st24 t k) ?_
  show Go _ _ _ _ _ T24 (mkF m 38 #[.val (.ref a1), .val (.ref a2), .val (.ref a2), .val (.ref a1)] [(.int k1)])
  refine own_go (fun t k => XS.aloadN X24.here hx rfl (hb hby d_jdk_37_method_8_38) rfl rfl k) ?_
  show Go _ _ _ _ _ T24 (mkF m 39 #[.val (.ref a1), .val (.ref a2), .val (.ref a2), .val (.ref a1)] [(.ref a2), (.int k1)])
  obtain ⟨T25, X25, e25, st25⟩ := getF X24 hx hZ hown (host := "") (Or.inl (hw _ (List.mem_of_getElem? (i := 37) rfl))) Via.refl e24 F_a2 (g := (mkF m 39 #[.val (.ref a1), .val (.ref a2), .val (.ref a2), .val (.ref a1)] [(.ref a2), (.int k1)])) rfl rfl (hb hby d_jdk_37_method_8_39)
  refine own_go (fun t k => st25 t k) ?_
  show Go _ _ _ _ _ T25 (mkF m 42 #[.val (.ref a1), .val (.ref a2), .val (.ref a2), .val (.ref a1)] [(.int k2), (.int k1)])
  refine own_go (fun t k => XS.isub X25.here hx rfl (hb hby d_jdk_37_method_8_42) rfl k) ?_
  show Go _ _ _ _ _ T25 (mkF m 43 #[.val (.ref a1), .val (.ref a2), .val (.ref a2), .val (.ref a1)] [(.int (k1 - k2))])
  refine own_retI X25 hx (own_lvN X25 hlk (by decide) (by decide)) hret (hb hby d_jdk_37_method_8_43) ?_
  exact ⟨(by rw [← hr, own_f_rm_cmp]; try rfl), N0, e25⟩
theorem d_prog_98_method_6_0 : Jvm.ClassFile.decode prog_98_method_6_code 0 = .ok (.aload_n 0, 1) := by decide +kernel
theorem d_prog_98_method_6_1 : Jvm.ClassFile.decode prog_98_method_6_code 1 = .ok (.aload_n 1, 1) := by decide +kernel
theorem d_prog_98_method_6_2 : Jvm.ClassFile.decode prog_98_method_6_code 2 = .ok (.invokevirtual 40, 3) := by decide +kernel
theorem own_pd2 : parseMethodDescriptor "(Ljava/lang/Enum;)I" = some ⟨[(.object "java/lang/Enum")], some .int⟩ := by decide +kernel
theorem d_prog_98_method_6_5 : Jvm.ClassFile.decode prog_98_method_6_code 5 = .ok (.ifCond .gt 7, 3) := by decide +kernel
theorem d_prog_98_method_6_12 : Jvm.ClassFile.decode prog_98_method_6_code 12 = .ok (.aload_n 1, 1) := by decide +kernel
theorem d_prog_98_method_6_13 : Jvm.ClassFile.decode prog_98_method_6_code 13 = .ok (.areturn, 1) := by decide +kernel
theorem d_prog_98_method_6_8 : Jvm.ClassFile.decode prog_98_method_6_code 8 = .ok (.aload_n 0, 1) := by decide +kernel
theorem d_prog_98_method_6_9 : Jvm.ClassFile.decode prog_98_method_6_code 9 = .ok (.goto 4, 3) := by decide +kernel
def own_f_rm_and (a1 : Addr) (a2 : Addr) (k1 : Int32) (k2 : Int32) : Value := (if (0 : Int32) < (k1 - k2) then (.ref a2 : Value) else (.ref a1 : Value))
theorem own_ef_rm_and (m : MethodId) (x0 : Addr) (x1 : Addr) : entryFrame m #[(.ref x0), (.ref x1)] 2 = mkF m 0 #[.val (.ref x0), .val (.ref x1)] [] := by first | (simp [entryFrame, mkF, argsToLocals, Value.category]; done) | rfl
set_option maxRecDepth 65536 in
set_option maxHeartbeats 40000000 in
theorem rm_and (l : Launch) (Z : State) (a0 : Array Value) (hw : ∀ d ∈ tables_1, d.before a0 Z = true) (ws : List Jvm.Cond) (a1 : Addr) (a2 : Addr) (k1 : Int32) (k2 : Int32) (mir : Addr) (r : Value) (h0 : Heap) (n0 : Nat) (hn0 : n0 ≤ h0.size) (Mir : OwnMir Z "com/example/ground0/ground0/refutation/Satisfaction$Truth" mir) (E_a1 : Exa Z h0 a1 "com/example/ground0/ground0/refutation/Satisfaction$Truth") (F_a1 : Fld Z h0 a1 "java/lang/Enum" "ordinal" "I" (.int k1)) (E_a2 : Exa Z h0 a2 "com/example/ground0/ground0/refutation/Satisfaction$Truth") (F_a2 : Fld Z h0 a2 "java/lang/Enum" "ordinal" "I" (.int k2)) (hr : own_f_rm_and a1 a2 k1 k2 = r) :
    OwnMet l Z (⟨"com/example/ground0/ground0/refutation/Satisfaction$Truth", "and", "(Lcom/example/ground0/ground0/refutation/Satisfaction$Truth;)Lcom/example/ground0/ground0/refutation/Satisfaction$Truth;"⟩ : MethodName) prog_98_method_6_code 2 (some (.object "com/example/ground0/ground0/refutation/Satisfaction$Truth")) ws ({ frames := 2, cells := 0, slots := 0, locals := 30 } : Room) #[(.ref a1), (.ref a2)] h0 (OwnP (some r) h0 n0) := by
  refine own_body (plainFor_of_name own_pn0) ?_
  intro p e s m below meth c s₁ X0 hx hby hml hret hlk hown0 hnm hZ e0 hs0
  have hown : s.vm.findClass "com/example/ground0/ground0/refutation/Satisfaction$Truth" = some m.cls := hown0
  have N0 := Fr.nil n0
  refine own_entry (own_ef_rm_and m a1 a2) ?_
  show Go _ _ _ _ _ s₁ (mkF m 0 #[.val (.ref a1), .val (.ref a2)] [])
  refine own_go (fun t k => XS.aloadN X0.here hx rfl (hb hby d_prog_98_method_6_0) rfl rfl k) ?_
  show Go _ _ _ _ _ s₁ (mkF m 1 #[.val (.ref a1), .val (.ref a2)] [(.ref a1)])
  refine own_go (fun t k => XS.aloadN X0.here hx rfl (hb hby d_prog_98_method_6_1) rfl rfl k) ?_
  show Go _ _ _ _ _ s₁ (mkF m 2 #[.val (.ref a1), .val (.ref a2)] [(.ref a2), (.ref a1)])
  refine own_callU X0 hx hZ (owner := "java/lang/Enum") (y := (⟨"com/example/ground0/ground0/refutation/Satisfaction$Truth", "compareTo", "(Ljava/lang/Enum;)I"⟩ : MethodName)) (z := (⟨"java/lang/Enum", "compareTo", "(Ljava/lang/Enum;)I"⟩ : MethodName)) hown (hw _ (List.mem_of_getElem? (i := 44) rfl)) (hw _ (List.mem_of_getElem? (i := 45) rfl)) (hw _ (List.mem_of_getElem? (i := 46) rfl)) (hw _ (List.mem_of_getElem? (i := 48) rfl)) (hw _ (List.mem_of_getElem? (i := 47) rfl)) (hw _ (List.mem_of_getElem? (i := 49) rfl)) (hw _ (List.mem_of_getElem? (i := 35) rfl)) (by decide) (rm_cmp l Z a0 hw [] a1 a2 k1 k2 mir (k1 - k2) h0 n0 hn0 Mir E_a1 F_a1 E_a2 F_a2 (by rw [own_f_rm_cmp]; try first | rfl | decide)) e0 E_a1 (by rw [hml]; rfl) (argsL := [(.ref a2)]) (rest := []) rfl rfl (lenOf own_pd2 rfl) (W := 0) (Nat.le_of_eq rfl) (by decide) (by decide) (hb hby d_prog_98_method_6_2) (by decide) (by decide) ?_
  intro v28 T28 L28 X28 q28
  obtain ⟨rfl, N28q, e28⟩ := q28
  have N28 := Fr.app N0 N28q
  show Go _ _ _ _ _ T28 (mkF m 5 #[.val (.ref a1), .val (.ref a2)] [(.int (k1 - k2))])
  refine own_ifP ((0 : Int32) < (k1 - k2)) X28 hx (hb hby d_prog_98_method_6_5) (own_gt _ _) (by decide) (by decide) (pc' := 12) (fun hc29 => ?_) (fun hc29 => ?_)
  · skip
    show Go _ _ _ _ _ T28 (mkF m 12 #[.val (.ref a1), .val (.ref a2)] [])
    refine own_go (fun t k => XS.aloadN X28.here hx rfl (hb hby d_prog_98_method_6_12) rfl rfl k) ?_
    show Go _ _ _ _ _ T28 (mkF m 13 #[.val (.ref a1), .val (.ref a2)] [(.ref a2)])
    refine own_retA X28 hx (own_lvN X28 hlk (by decide) (by decide)) hret rfl rfl (hb hby d_prog_98_method_6_13) ?_
    exact ⟨(by rw [← hr, own_f_rm_and, if_pos hc29]; try rfl), N28, e28⟩
  · skip
    show Go _ _ _ _ _ T28 (mkF m 8 #[.val (.ref a1), .val (.ref a2)] [])
    refine own_go (fun t k => XS.aloadN X28.here hx rfl (hb hby d_prog_98_method_6_8) rfl rfl k) ?_
    show Go _ _ _ _ _ T28 (mkF m 9 #[.val (.ref a1), .val (.ref a2)] [(.ref a1)])
    refine own_go (fun t k => XS.goto X28.here hx rfl (pc0 := 9) (pc' := 13) rfl (hb hby d_prog_98_method_6_9) (by decide) (by decide) k) ?_
    show Go _ _ _ _ _ T28 (mkF m 13 #[.val (.ref a1), .val (.ref a2)] [(.ref a1)])
    refine own_retA X28 hx (own_lvN X28 hlk (by decide) (by decide)) hret rfl rfl (hb hby d_prog_98_method_6_13) ?_
    exact ⟨(by rw [← hr, own_f_rm_and, if_neg hc29]; try rfl), N28, e28⟩
theorem d_prog_98_method_7_0 : Jvm.ClassFile.decode prog_98_method_7_code 0 = .ok (.aload_n 0, 1) := by decide +kernel
theorem d_prog_98_method_7_1 : Jvm.ClassFile.decode prog_98_method_7_code 1 = .ok (.aload_n 1, 1) := by decide +kernel
theorem d_prog_98_method_7_2 : Jvm.ClassFile.decode prog_98_method_7_code 2 = .ok (.invokevirtual 40, 3) := by decide +kernel
theorem d_prog_98_method_7_5 : Jvm.ClassFile.decode prog_98_method_7_code 5 = .ok (.ifCond .lt 7, 3) := by decide +kernel
theorem d_prog_98_method_7_12 : Jvm.ClassFile.decode prog_98_method_7_code 12 = .ok (.aload_n 1, 1) := by decide +kernel
theorem d_prog_98_method_7_13 : Jvm.ClassFile.decode prog_98_method_7_code 13 = .ok (.areturn, 1) := by decide +kernel
theorem d_prog_98_method_7_8 : Jvm.ClassFile.decode prog_98_method_7_code 8 = .ok (.aload_n 0, 1) := by decide +kernel
theorem d_prog_98_method_7_9 : Jvm.ClassFile.decode prog_98_method_7_code 9 = .ok (.goto 4, 3) := by decide +kernel
def own_f_rm_or (a1 : Addr) (a2 : Addr) (k1 : Int32) (k2 : Int32) : Value := (if (k1 - k2) < (0 : Int32) then (.ref a2 : Value) else (.ref a1 : Value))
theorem own_ef_rm_or (m : MethodId) (x0 : Addr) (x1 : Addr) : entryFrame m #[(.ref x0), (.ref x1)] 2 = mkF m 0 #[.val (.ref x0), .val (.ref x1)] [] := by first | (simp [entryFrame, mkF, argsToLocals, Value.category]; done) | rfl
set_option maxRecDepth 65536 in
set_option maxHeartbeats 40000000 in
theorem rm_or (l : Launch) (Z : State) (a0 : Array Value) (hw : ∀ d ∈ tables_1, d.before a0 Z = true) (ws : List Jvm.Cond) (a1 : Addr) (a2 : Addr) (k1 : Int32) (k2 : Int32) (mir : Addr) (r : Value) (h0 : Heap) (n0 : Nat) (hn0 : n0 ≤ h0.size) (Mir : OwnMir Z "com/example/ground0/ground0/refutation/Satisfaction$Truth" mir) (E_a1 : Exa Z h0 a1 "com/example/ground0/ground0/refutation/Satisfaction$Truth") (F_a1 : Fld Z h0 a1 "java/lang/Enum" "ordinal" "I" (.int k1)) (E_a2 : Exa Z h0 a2 "com/example/ground0/ground0/refutation/Satisfaction$Truth") (F_a2 : Fld Z h0 a2 "java/lang/Enum" "ordinal" "I" (.int k2)) (hr : own_f_rm_or a1 a2 k1 k2 = r) :
    OwnMet l Z (⟨"com/example/ground0/ground0/refutation/Satisfaction$Truth", "or", "(Lcom/example/ground0/ground0/refutation/Satisfaction$Truth;)Lcom/example/ground0/ground0/refutation/Satisfaction$Truth;"⟩ : MethodName) prog_98_method_7_code 2 (some (.object "com/example/ground0/ground0/refutation/Satisfaction$Truth")) ws ({ frames := 2, cells := 0, slots := 0, locals := 30 } : Room) #[(.ref a1), (.ref a2)] h0 (OwnP (some r) h0 n0) := by
  refine own_body (plainFor_of_name own_pn0) ?_
  intro p e s m below meth c s₁ X0 hx hby hml hret hlk hown0 hnm hZ e0 hs0
  have hown : s.vm.findClass "com/example/ground0/ground0/refutation/Satisfaction$Truth" = some m.cls := hown0
  have N0 := Fr.nil n0
  refine own_entry (own_ef_rm_or m a1 a2) ?_
  show Go _ _ _ _ _ s₁ (mkF m 0 #[.val (.ref a1), .val (.ref a2)] [])
  refine own_go (fun t k => XS.aloadN X0.here hx rfl (hb hby d_prog_98_method_7_0) rfl rfl k) ?_
  show Go _ _ _ _ _ s₁ (mkF m 1 #[.val (.ref a1), .val (.ref a2)] [(.ref a1)])
  refine own_go (fun t k => XS.aloadN X0.here hx rfl (hb hby d_prog_98_method_7_1) rfl rfl k) ?_
  show Go _ _ _ _ _ s₁ (mkF m 2 #[.val (.ref a1), .val (.ref a2)] [(.ref a2), (.ref a1)])
  refine own_callU X0 hx hZ (owner := "java/lang/Enum") (y := (⟨"com/example/ground0/ground0/refutation/Satisfaction$Truth", "compareTo", "(Ljava/lang/Enum;)I"⟩ : MethodName)) (z := (⟨"java/lang/Enum", "compareTo", "(Ljava/lang/Enum;)I"⟩ : MethodName)) hown (hw _ (List.mem_of_getElem? (i := 44) rfl)) (hw _ (List.mem_of_getElem? (i := 45) rfl)) (hw _ (List.mem_of_getElem? (i := 46) rfl)) (hw _ (List.mem_of_getElem? (i := 48) rfl)) (hw _ (List.mem_of_getElem? (i := 47) rfl)) (hw _ (List.mem_of_getElem? (i := 49) rfl)) (hw _ (List.mem_of_getElem? (i := 35) rfl)) (by decide) (rm_cmp l Z a0 hw [] a1 a2 k1 k2 mir (k1 - k2) h0 n0 hn0 Mir E_a1 F_a1 E_a2 F_a2 (by rw [own_f_rm_cmp]; try first | rfl | decide)) e0 E_a1 (by rw [hml]; rfl) (argsL := [(.ref a2)]) (rest := []) rfl rfl (lenOf own_pd2 rfl) (W := 0) (Nat.le_of_eq rfl) (by decide) (by decide) (hb hby d_prog_98_method_7_2) (by decide) (by decide) ?_
  intro v32 T32 L32 X32 q32
  obtain ⟨rfl, N32q, e32⟩ := q32
  have N32 := Fr.app N0 N32q
  show Go _ _ _ _ _ T32 (mkF m 5 #[.val (.ref a1), .val (.ref a2)] [(.int (k1 - k2))])
  refine own_ifP ((k1 - k2) < (0 : Int32)) X32 hx (hb hby d_prog_98_method_7_5) (own_lt _ _) (by decide) (by decide) (pc' := 12) (fun hc33 => ?_) (fun hc33 => ?_)
  · skip
    show Go _ _ _ _ _ T32 (mkF m 12 #[.val (.ref a1), .val (.ref a2)] [])
    refine own_go (fun t k => XS.aloadN X32.here hx rfl (hb hby d_prog_98_method_7_12) rfl rfl k) ?_
    show Go _ _ _ _ _ T32 (mkF m 13 #[.val (.ref a1), .val (.ref a2)] [(.ref a2)])
    refine own_retA X32 hx (own_lvN X32 hlk (by decide) (by decide)) hret rfl rfl (hb hby d_prog_98_method_7_13) ?_
    exact ⟨(by rw [← hr, own_f_rm_or, if_pos hc33]; try rfl), N32, e32⟩
  · skip
    show Go _ _ _ _ _ T32 (mkF m 8 #[.val (.ref a1), .val (.ref a2)] [])
    refine own_go (fun t k => XS.aloadN X32.here hx rfl (hb hby d_prog_98_method_7_8) rfl rfl k) ?_
    show Go _ _ _ _ _ T32 (mkF m 9 #[.val (.ref a1), .val (.ref a2)] [(.ref a1)])
    refine own_go (fun t k => XS.goto X32.here hx rfl (pc0 := 9) (pc' := 13) rfl (hb hby d_prog_98_method_7_9) (by decide) (by decide) k) ?_
    show Go _ _ _ _ _ T32 (mkF m 13 #[.val (.ref a1), .val (.ref a2)] [(.ref a1)])
    refine own_retA X32 hx (own_lvN X32 hlk (by decide) (by decide)) hret rfl rfl (hb hby d_prog_98_method_7_13) ?_
    exact ⟨(by rw [← hr, own_f_rm_or, if_neg hc33]; try rfl), N32, e32⟩
theorem own_pd3 : parseMethodDescriptor "(Z)Lcom/example/ground0/ground0/refutation/Satisfaction$Truth;" = some ⟨[.boolean], some (.object "com/example/ground0/ground0/refutation/Satisfaction$Truth")⟩ := by decide +kernel
theorem own_pd4 : parseMethodDescriptor "()Lcom/example/ground0/ground0/refutation/Satisfaction$Truth;" = some ⟨[], some (.object "com/example/ground0/ground0/refutation/Satisfaction$Truth")⟩ := by decide +kernel
theorem own_pd5 : parseMethodDescriptor "(Lcom/example/ground0/ground0/refutation/Satisfaction$Truth;)Lcom/example/ground0/ground0/refutation/Satisfaction$Truth;" = some ⟨[(.object "com/example/ground0/ground0/refutation/Satisfaction$Truth")], some (.object "com/example/ground0/ground0/refutation/Satisfaction$Truth")⟩ := by decide +kernel
theorem own_pn2 : plainName "com/example/ground0/ground0/refutation/SatisfactionOfPinLaw" = true := by first | (simp [plainName, overriddenIn]; done) | decide +kernel
theorem own_ef_rm0 (m : MethodId) (x0 : Int32) : entryFrame m #[(.int x0)] maxLocals = mkF m 0 #[.val (.int x0), .unset, .unset, .unset, .unset, .unset, .unset, .unset, .unset, .unset] [] := by first | (simp [entryFrame, mkF, argsToLocals, Value.category, maxLocals]; done) | rfl
set_option maxRecDepth 65536 in
set_option maxHeartbeats 40000000 in
theorem rm0 (l : Launch) (Z : State) (a0 : Array Value) (hw : ∀ d ∈ tables_1, d.before a0 Z = true) (ws : List Jvm.Cond) (p1 : Int32) (w_FALSE : Addr) (w_UNKNOWN : Addr) (w_TRUE : Addr) (w__VALUES : Addr) (kv : ClassId) (mir : Addr) (h0 : Heap) (n0 : Nat) (hn0 : n0 ≤ h0.size) (S_FALSE : Sta Z h0 "com/example/ground0/ground0/refutation/Satisfaction$Truth" "FALSE" "Lcom/example/ground0/ground0/refutation/Satisfaction$Truth;" (.ref w_FALSE)) (E_FALSE : Exa Z h0 w_FALSE "com/example/ground0/ground0/refutation/Satisfaction$Truth") (O_FALSE_ordinal : Fld Z h0 w_FALSE "java/lang/Enum" "ordinal" "I" (.int (0 : Int32))) (S_UNKNOWN : Sta Z h0 "com/example/ground0/ground0/refutation/Satisfaction$Truth" "UNKNOWN" "Lcom/example/ground0/ground0/refutation/Satisfaction$Truth;" (.ref w_UNKNOWN)) (E_UNKNOWN : Exa Z h0 w_UNKNOWN "com/example/ground0/ground0/refutation/Satisfaction$Truth") (O_UNKNOWN_ordinal : Fld Z h0 w_UNKNOWN "java/lang/Enum" "ordinal" "I" (.int (1 : Int32))) (S_TRUE : Sta Z h0 "com/example/ground0/ground0/refutation/Satisfaction$Truth" "TRUE" "Lcom/example/ground0/ground0/refutation/Satisfaction$Truth;" (.ref w_TRUE)) (E_TRUE : Exa Z h0 w_TRUE "com/example/ground0/ground0/refutation/Satisfaction$Truth") (O_TRUE_ordinal : Fld Z h0 w_TRUE "java/lang/Enum" "ordinal" "I" (.int (2 : Int32))) (S__VALUES : Sta Z h0 "com/example/ground0/ground0/refutation/Satisfaction$Truth" "$VALUES" "[Lcom/example/ground0/ground0/refutation/Satisfaction$Truth;" (.ref w__VALUES)) (E__VALUES : Exa Z h0 w__VALUES "[Lcom/example/ground0/ground0/refutation/Satisfaction$Truth;") (V_v : Arv Z h0 w__VALUES kv (.object "com/example/ground0/ground0/refutation/Satisfaction$Truth") (3 : Int32) [(.ref w_FALSE), (.ref w_UNKNOWN), (.ref w_TRUE)] .null) (Mir : OwnMir Z "com/example/ground0/ground0/refutation/Satisfaction$Truth" mir) :
    OwnMet l Z x code maxLocals ret ws room_1 #[(.int p1)] h0 (OwnR (some (.int 1)) n0) := by
  refine own_body (plainFor_of_name own_pn2) ?_
  intro p e s m below meth c s₁ X0 hx hby hml hret hlk hown0 hnm hZ e0 hs0
  have hown : s.vm.findClass "com/example/ground0/ground0/refutation/SatisfactionOfPinLaw" = some m.cls := hown0
  have N0 := Fr.nil n0
  refine own_entry (own_ef_rm0 m p1) ?_
  have D_w_FALSE_w_UNKNOWN : ¬ w_FALSE = w_UNKNOWN := own_ne_fld O_FALSE_ordinal O_UNKNOWN_ordinal (by decide)
  have D_w_FALSE_w_TRUE : ¬ w_FALSE = w_TRUE := own_ne_fld O_FALSE_ordinal O_TRUE_ordinal (by decide)
  have D_w_UNKNOWN_w_TRUE : ¬ w_UNKNOWN = w_TRUE := own_ne_fld O_UNKNOWN_ordinal O_TRUE_ordinal (by decide)
  show Go _ _ _ _ _ s₁ (mkF m 0 #[.val (.int p1), .unset, .unset, .unset, .unset, .unset, .unset, .unset, .unset, .unset] [])
  refine own_go (fun t k => XS.iloadN X0.here hx rfl (hb hby at_0) rfl k) ?_
  show Go _ _ _ _ _ s₁ (mkF m 1 #[.val (.int p1), .unset, .unset, .unset, .unset, .unset, .unset, .unset, .unset, .unset] [(.int p1)])
  refine own_go (fun t k => XS.iconst X0.here hx rfl (hb hby at_1) k) ?_
  show Go _ _ _ _ _ s₁ (mkF m 2 #[.val (.int p1), .unset, .unset, .unset, .unset, .unset, .unset, .unset, .unset, .unset] [(.int (1 : Int32)), (.int p1)])
  refine own_go (fun t k => XS.iand X0.here hx rfl (hb hby at_2) rfl k) ?_
  have hi := own_and1 p1
  generalize (p1 &&& (1 : Int32)) = i at hi ⊢
  rcases hi with rfl | rfl
  · skip
    show Go _ _ _ _ _ s₁ (mkF m 3 #[.val (.int p1), .unset, .unset, .unset, .unset, .unset, .unset, .unset, .unset, .unset] [(.int (0 : Int32))])
    refine own_go (fun t k => XS.ifYes X0.here hx rfl (pc0 := 3) (pc' := 10) rfl (hb hby at_3) rfl (by decide) (by decide) (by decide) k) ?_
    show Go _ _ _ _ _ s₁ (mkF m 10 #[.val (.int p1), .unset, .unset, .unset, .unset, .unset, .unset, .unset, .unset, .unset] [])
    refine own_go (fun t k => XS.iconst X0.here hx rfl (hb hby at_10) k) ?_
    show Go _ _ _ _ _ s₁ (mkF m 11 #[.val (.int p1), .unset, .unset, .unset, .unset, .unset, .unset, .unset, .unset, .unset] [(.int (0 : Int32))])
    refine own_go (fun t k => XS.istoreN X0.here hx rfl (hb hby at_11) rfl (l' := #[.val (.int p1), .val (.int (0 : Int32)), .unset, .unset, .unset, .unset, .unset, .unset, .unset, .unset]) rfl k) ?_
    show Go _ _ _ _ _ s₁ (mkF m 12 #[.val (.int p1), .val (.int (0 : Int32)), .unset, .unset, .unset, .unset, .unset, .unset, .unset, .unset] [])
    refine own_go (fun t k => XS.iloadN X0.here hx rfl (hb hby at_12) rfl k) ?_
    show Go _ _ _ _ _ s₁ (mkF m 13 #[.val (.int p1), .val (.int (0 : Int32)), .unset, .unset, .unset, .unset, .unset, .unset, .unset, .unset] [(.int p1)])
    refine own_go (fun t k => XS.iconst X0.here hx rfl (hb hby at_13) k) ?_
    show Go _ _ _ _ _ s₁ (mkF m 14 #[.val (.int p1), .val (.int (0 : Int32)), .unset, .unset, .unset, .unset, .unset, .unset, .unset, .unset] [(.int (2 : Int32)), (.int p1)])
    refine own_go (fun t k => XS.iand X0.here hx rfl (hb hby at_14) rfl k) ?_
    have hi := own_and2 p1
    generalize (p1 &&& (2 : Int32)) = i at hi ⊢
    rcases hi with rfl | rfl
    · skip
      show Go _ _ _ _ _ s₁ (mkF m 15 #[.val (.int p1), .val (.int (0 : Int32)), .unset, .unset, .unset, .unset, .unset, .unset, .unset, .unset] [(.int (0 : Int32))])
      refine own_go (fun t k => XS.ifYes X0.here hx rfl (pc0 := 15) (pc' := 22) rfl (hb hby at_15) rfl (by decide) (by decide) (by decide) k) ?_
      show Go _ _ _ _ _ s₁ (mkF m 22 #[.val (.int p1), .val (.int (0 : Int32)), .unset, .unset, .unset, .unset, .unset, .unset, .unset, .unset] [])
      refine own_go (fun t k => XS.iconst X0.here hx rfl (hb hby at_22) k) ?_
      show Go _ _ _ _ _ s₁ (mkF m 23 #[.val (.int p1), .val (.int (0 : Int32)), .unset, .unset, .unset, .unset, .unset, .unset, .unset, .unset] [(.int (0 : Int32))])
      refine own_go (fun t k => XS.istoreN X0.here hx rfl (hb hby at_23) rfl (l' := #[.val (.int p1), .val (.int (0 : Int32)), .val (.int (0 : Int32)), .unset, .unset, .unset, .unset, .unset, .unset, .unset]) rfl k) ?_
      show Go _ _ _ _ _ s₁ (mkF m 24 #[.val (.int p1), .val (.int (0 : Int32)), .val (.int (0 : Int32)), .unset, .unset, .unset, .unset, .unset, .unset, .unset] [])
      refine own_go (fun t k => XS.iloadN X0.here hx rfl (hb hby at_24) rfl k) ?_
      show Go _ _ _ _ _ s₁ (mkF m 25 #[.val (.int p1), .val (.int (0 : Int32)), .val (.int (0 : Int32)), .unset, .unset, .unset, .unset, .unset, .unset, .unset] [(.int (0 : Int32))])
      refine own_callS X0 hx hZ (y := (⟨"com/example/ground0/ground0/refutation/Satisfaction$Truth", "of", "(Z)Lcom/example/ground0/ground0/refutation/Satisfaction$Truth;"⟩ : MethodName)) hown (hw _ (List.mem_of_getElem? (i := 0) rfl)) (hw _ (List.mem_of_getElem? (i := 1) rfl)) (hw _ (List.mem_of_getElem? (i := 2) rfl)) (hw _ (List.mem_of_getElem? (i := 3) rfl)) (by decide) (rm1 l Z a0 hw [] (0 : Int32) w_FALSE w_UNKNOWN w_TRUE (.ref w_FALSE) h0 n0 hn0 S_FALSE S_UNKNOWN S_TRUE (by rw [own_f_rm1, if_pos (show (0 : Int32) = (0 : Int32) from rfl)]; try first | rfl | decide)) e0 (by rw [hml]; rfl) (argsL := [(.int (0 : Int32))]) (rest := []) rfl rfl (lenOf own_pd3 rfl) (W := 0) (Nat.le_of_eq rfl) (by decide) (by decide) (hb hby at_25) (by decide) (by decide) ?_
      intro v34 T34 L34 X34 q34
      obtain ⟨rfl, N34q, e34⟩ := q34
      have N34 := Fr.app N0 N34q
      show Go _ _ _ _ _ T34 (mkF m 28 #[.val (.int p1), .val (.int (0 : Int32)), .val (.int (0 : Int32)), .unset, .unset, .unset, .unset, .unset, .unset, .unset] [(.ref w_FALSE)])
      refine own_go (fun t k => XS.astoreN X34.here hx rfl (hb hby at_28) rfl rfl (l' := #[.val (.int p1), .val (.int (0 : Int32)), .val (.int (0 : Int32)), .val (.ref w_FALSE), .unset, .unset, .unset, .unset, .unset, .unset]) rfl k) ?_
      show Go _ _ _ _ _ T34 (mkF m 29 #[.val (.int p1), .val (.int (0 : Int32)), .val (.int (0 : Int32)), .val (.ref w_FALSE), .unset, .unset, .unset, .unset, .unset, .unset] [])
      refine own_go (fun t k => XS.iloadN X34.here hx rfl (hb hby at_29) rfl k) ?_
      show Go _ _ _ _ _ T34 (mkF m 30 #[.val (.int p1), .val (.int (0 : Int32)), .val (.int (0 : Int32)), .val (.ref w_FALSE), .unset, .unset, .unset, .unset, .unset, .unset] [(.int (0 : Int32))])
      refine own_callS X34 hx hZ (y := (⟨"com/example/ground0/ground0/refutation/Satisfaction$Truth", "of", "(Z)Lcom/example/ground0/ground0/refutation/Satisfaction$Truth;"⟩ : MethodName)) hown (hw _ (List.mem_of_getElem? (i := 0) rfl)) (hw _ (List.mem_of_getElem? (i := 1) rfl)) (hw _ (List.mem_of_getElem? (i := 2) rfl)) (hw _ (List.mem_of_getElem? (i := 3) rfl)) (by decide) (rm1 l Z a0 hw [] (0 : Int32) w_FALSE w_UNKNOWN w_TRUE (.ref w_FALSE) h0 n0 hn0 S_FALSE S_UNKNOWN S_TRUE (by rw [own_f_rm1, if_pos (show (0 : Int32) = (0 : Int32) from rfl)]; try first | rfl | decide)) e34 (by rw [hml]; rfl) (argsL := [(.int (0 : Int32))]) (rest := []) rfl rfl (lenOf own_pd3 rfl) (W := 0) (Nat.le_of_eq rfl) (by decide) (by decide) (hb hby at_30) (by decide) (by decide) ?_
      intro v35 T35 L35 X35 q35
      obtain ⟨rfl, N35q, e35⟩ := q35
      have N35 := Fr.app N34 N35q
      show Go _ _ _ _ _ T35 (mkF m 33 #[.val (.int p1), .val (.int (0 : Int32)), .val (.int (0 : Int32)), .val (.ref w_FALSE), .unset, .unset, .unset, .unset, .unset, .unset] [(.ref w_FALSE)])
      refine own_go (fun t k => XS.astore X35.here hx rfl (hb hby at_33) rfl rfl (l' := #[.val (.int p1), .val (.int (0 : Int32)), .val (.int (0 : Int32)), .val (.ref w_FALSE), .val (.ref w_FALSE), .unset, .unset, .unset, .unset, .unset]) rfl k) ?_
      show Go _ _ _ _ _ T35 (mkF m 35 #[.val (.int p1), .val (.int (0 : Int32)), .val (.int (0 : Int32)), .val (.ref w_FALSE), .val (.ref w_FALSE), .unset, .unset, .unset, .unset, .unset] [])
      refine own_go (fun t k => XS.aloadN X35.here hx rfl (hb hby at_35) rfl rfl k) ?_
      show Go _ _ _ _ _ T35 (mkF m 36 #[.val (.int p1), .val (.int (0 : Int32)), .val (.int (0 : Int32)), .val (.ref w_FALSE), .val (.ref w_FALSE), .unset, .unset, .unset, .unset, .unset] [(.ref w_FALSE)])
      obtain ⟨T36, X36, e36, st36⟩ := getS2 X35 hx hZ hown (host := "") (Or.inl (hw _ (List.mem_of_getElem? (i := 6) rfl))) Via.refl e35 S_UNKNOWN (g := (mkF m 36 #[.val (.int p1), .val (.int (0 : Int32)), .val (.int (0 : Int32)), .val (.ref w_FALSE), .val (.ref w_FALSE), .unset, .unset, .unset, .unset, .unset] [(.ref w_FALSE)])) rfl (hb hby at_36)
      refine own_go (fun t k => st36 t k) ?_
      show Go _ _ _ _ _ T36 (mkF m 39 #[.val (.int p1), .val (.int (0 : Int32)), .val (.int (0 : Int32)), .val (.ref w_FALSE), .val (.ref w_FALSE), .unset, .unset, .unset, .unset, .unset] [(.ref w_UNKNOWN), (.ref w_FALSE)])
      refine own_go (fun t k => Jvm.RoadKit.acmp (g := (mkF m 39 #[.val (.int p1), .val (.int (0 : Int32)), .val (.int (0 : Int32)), .val (.ref w_FALSE), .val (.ref w_FALSE), .unset, .unset, .unset, .unset, .unset] [(.ref w_UNKNOWN), (.ref w_FALSE)])) X36 hx rfl rfl rfl (pc0 := 39) (pc' := 42) (same := false) rfl (hb hby at_39) rfl (decide_eq_false fun q => D_w_FALSE_w_UNKNOWN (Value.ref.inj q)) (by decide) (by decide) k) ?_
      show Go _ _ _ _ _ T36 (mkF m 42 #[.val (.int p1), .val (.int (0 : Int32)), .val (.int (0 : Int32)), .val (.ref w_FALSE), .val (.ref w_FALSE), .unset, .unset, .unset, .unset, .unset] [])
      refine own_go (fun t k => XS.iconst X36.here hx rfl (hb hby at_42) k) ?_
      show Go _ _ _ _ _ T36 (mkF m 43 #[.val (.int p1), .val (.int (0 : Int32)), .val (.int (0 : Int32)), .val (.ref w_FALSE), .val (.ref w_FALSE), .unset, .unset, .unset, .unset, .unset] [(.int (1 : Int32))])
      refine own_go (fun t k => XS.goto X36.here hx rfl (pc0 := 43) (pc' := 47) rfl (hb hby at_43) (by decide) (by decide) k) ?_
      show Go _ _ _ _ _ T36 (mkF m 47 #[.val (.int p1), .val (.int (0 : Int32)), .val (.int (0 : Int32)), .val (.ref w_FALSE), .val (.ref w_FALSE), .unset, .unset, .unset, .unset, .unset] [(.int (1 : Int32))])
      refine own_go (fun t k => XS.istore X36.here hx rfl (hb hby at_47) rfl (l' := #[.val (.int p1), .val (.int (0 : Int32)), .val (.int (0 : Int32)), .val (.ref w_FALSE), .val (.ref w_FALSE), .val (.int (1 : Int32)), .unset, .unset, .unset, .unset]) rfl k) ?_
      show Go _ _ _ _ _ T36 (mkF m 49 #[.val (.int p1), .val (.int (0 : Int32)), .val (.int (0 : Int32)), .val (.ref w_FALSE), .val (.ref w_FALSE), .val (.int (1 : Int32)), .unset, .unset, .unset, .unset] [])
      refine own_go (fun t k => XS.iconst X36.here hx rfl (hb hby at_49) k) ?_
      show Go _ _ _ _ _ T36 (mkF m 50 #[.val (.int p1), .val (.int (0 : Int32)), .val (.int (0 : Int32)), .val (.ref w_FALSE), .val (.ref w_FALSE), .val (.int (1 : Int32)), .unset, .unset, .unset, .unset] [(.int (1 : Int32))])
      refine own_callS X36 hx hZ (y := (⟨"com/example/ground0/ground0/refutation/Satisfaction$Truth", "of", "(Z)Lcom/example/ground0/ground0/refutation/Satisfaction$Truth;"⟩ : MethodName)) hown (hw _ (List.mem_of_getElem? (i := 0) rfl)) (hw _ (List.mem_of_getElem? (i := 1) rfl)) (hw _ (List.mem_of_getElem? (i := 2) rfl)) (hw _ (List.mem_of_getElem? (i := 3) rfl)) (by decide) (rm1 l Z a0 hw [] (1 : Int32) w_FALSE w_UNKNOWN w_TRUE (.ref w_TRUE) h0 n0 hn0 S_FALSE S_UNKNOWN S_TRUE (by rw [own_f_rm1, if_neg (show ¬ ((1 : Int32) = (0 : Int32)) by decide)]; try first | rfl | decide)) e36 (by rw [hml]; rfl) (argsL := [(.int (1 : Int32))]) (rest := []) rfl rfl (lenOf own_pd3 rfl) (W := 0) (Nat.le_of_eq rfl) (by decide) (by decide) (hb hby at_50) (by decide) (by decide) ?_
      intro v37 T37 L37 X37 q37
      obtain ⟨rfl, N37q, e37⟩ := q37
      have N37 := Fr.app N35 N37q
      show Go _ _ _ _ _ T37 (mkF m 53 #[.val (.int p1), .val (.int (0 : Int32)), .val (.int (0 : Int32)), .val (.ref w_FALSE), .val (.ref w_FALSE), .val (.int (1 : Int32)), .unset, .unset, .unset, .unset] [(.ref w_TRUE)])
      refine own_go (fun t k => XS.iconst X37.here hx rfl (hb hby at_53) k) ?_
      show Go _ _ _ _ _ T37 (mkF m 54 #[.val (.int p1), .val (.int (0 : Int32)), .val (.int (0 : Int32)), .val (.ref w_FALSE), .val (.ref w_FALSE), .val (.int (1 : Int32)), .unset, .unset, .unset, .unset] [(.int (0 : Int32)), (.ref w_TRUE)])
      refine own_callS X37 hx hZ (y := (⟨"com/example/ground0/ground0/refutation/Satisfaction$Truth", "of", "(Z)Lcom/example/ground0/ground0/refutation/Satisfaction$Truth;"⟩ : MethodName)) hown (hw _ (List.mem_of_getElem? (i := 0) rfl)) (hw _ (List.mem_of_getElem? (i := 1) rfl)) (hw _ (List.mem_of_getElem? (i := 2) rfl)) (hw _ (List.mem_of_getElem? (i := 3) rfl)) (by decide) (rm1 l Z a0 hw [] (0 : Int32) w_FALSE w_UNKNOWN w_TRUE (.ref w_FALSE) h0 n0 hn0 S_FALSE S_UNKNOWN S_TRUE (by rw [own_f_rm1, if_pos (show (0 : Int32) = (0 : Int32) from rfl)]; try first | rfl | decide)) e37 (by rw [hml]; rfl) (argsL := [(.int (0 : Int32))]) (rest := [(.ref w_TRUE)]) rfl rfl (lenOf own_pd3 rfl) (W := 1) (Nat.le_of_eq rfl) (by decide) (by decide) (hb hby at_54) (by decide) (by decide) ?_
      intro v38 T38 L38 X38 q38
      obtain ⟨rfl, N38q, e38⟩ := q38
      have N38 := Fr.app N37 N38q
      show Go _ _ _ _ _ T38 (mkF m 57 #[.val (.int p1), .val (.int (0 : Int32)), .val (.int (0 : Int32)), .val (.ref w_FALSE), .val (.ref w_FALSE), .val (.int (1 : Int32)), .unset, .unset, .unset, .unset] [(.ref w_FALSE), (.ref w_TRUE)])
      refine own_go (fun t k => Jvm.RoadKit.acmp (g := (mkF m 57 #[.val (.int p1), .val (.int (0 : Int32)), .val (.int (0 : Int32)), .val (.ref w_FALSE), .val (.ref w_FALSE), .val (.int (1 : Int32)), .unset, .unset, .unset, .unset] [(.ref w_FALSE), (.ref w_TRUE)])) X38 hx rfl rfl rfl (pc0 := 57) (pc' := 60) (same := false) rfl (hb hby at_57) rfl (decide_eq_false fun q => D_w_FALSE_w_TRUE (Value.ref.inj q).symm) (by decide) (by decide) k) ?_
      show Go _ _ _ _ _ T38 (mkF m 60 #[.val (.int p1), .val (.int (0 : Int32)), .val (.int (0 : Int32)), .val (.ref w_FALSE), .val (.ref w_FALSE), .val (.int (1 : Int32)), .unset, .unset, .unset, .unset] [])
      refine own_go (fun t k => XS.iconst X38.here hx rfl (hb hby at_60) k) ?_
      show Go _ _ _ _ _ T38 (mkF m 61 #[.val (.int p1), .val (.int (0 : Int32)), .val (.int (0 : Int32)), .val (.ref w_FALSE), .val (.ref w_FALSE), .val (.int (1 : Int32)), .unset, .unset, .unset, .unset] [(.int (1 : Int32))])
      refine own_go (fun t k => XS.goto X38.here hx rfl (pc0 := 61) (pc' := 65) rfl (hb hby at_61) (by decide) (by decide) k) ?_
      show Go _ _ _ _ _ T38 (mkF m 65 #[.val (.int p1), .val (.int (0 : Int32)), .val (.int (0 : Int32)), .val (.ref w_FALSE), .val (.ref w_FALSE), .val (.int (1 : Int32)), .unset, .unset, .unset, .unset] [(.int (1 : Int32))])
      refine own_go (fun t k => XS.istore X38.here hx rfl (hb hby at_65) rfl (l' := #[.val (.int p1), .val (.int (0 : Int32)), .val (.int (0 : Int32)), .val (.ref w_FALSE), .val (.ref w_FALSE), .val (.int (1 : Int32)), .val (.int (1 : Int32)), .unset, .unset, .unset]) rfl k) ?_
      show Go _ _ _ _ _ T38 (mkF m 67 #[.val (.int p1), .val (.int (0 : Int32)), .val (.int (0 : Int32)), .val (.ref w_FALSE), .val (.ref w_FALSE), .val (.int (1 : Int32)), .val (.int (1 : Int32)), .unset, .unset, .unset] [])
      refine own_go (fun t k => XS.aloadN X38.here hx rfl (hb hby at_67) rfl rfl k) ?_
      show Go _ _ _ _ _ T38 (mkF m 68 #[.val (.int p1), .val (.int (0 : Int32)), .val (.int (0 : Int32)), .val (.ref w_FALSE), .val (.ref w_FALSE), .val (.int (1 : Int32)), .val (.int (1 : Int32)), .unset, .unset, .unset] [(.ref w_FALSE)])
      refine own_callV X38 hx hZ (y := (⟨"com/example/ground0/ground0/refutation/Satisfaction$Truth", "not", "()Lcom/example/ground0/ground0/refutation/Satisfaction$Truth;"⟩ : MethodName)) hown (hw _ (List.mem_of_getElem? (i := 10) rfl)) (hw _ (List.mem_of_getElem? (i := 11) rfl)) (hw _ (List.mem_of_getElem? (i := 13) rfl)) (hw _ (List.mem_of_getElem? (i := 12) rfl)) (hw _ (List.mem_of_getElem? (i := 14) rfl)) (hw _ (List.mem_of_getElem? (i := 2) rfl)) (by decide) (rm_not_0 l Z a0 hw [] w_FALSE w__VALUES kv w_FALSE w_UNKNOWN w_TRUE h0 n0 hn0 S__VALUES E__VALUES V_v E_FALSE O_FALSE_ordinal) e38 E_FALSE (by rw [hml]; rfl) (argsL := []) (rest := []) rfl rfl (lenOf own_pd4 rfl) (W := 0) (Nat.le_of_eq rfl) (by decide) (by decide) (hb hby at_68) (by decide) (by decide) ?_
      intro v39 T39 L39 X39 q39
      obtain ⟨rfl, N39q, K39⟩ := q39
      have N39 := Fr.app N38 N39q
      replace S_FALSE := own_sta_keep S_FALSE K39 all0
      replace S_UNKNOWN := own_sta_keep S_UNKNOWN K39 all0
      replace S_TRUE := own_sta_keep S_TRUE K39 all0
      replace S__VALUES := own_sta_keep S__VALUES K39 all0
      replace O_FALSE_ordinal := O_FALSE_ordinal.keep K39 nin0
      replace O_UNKNOWN_ordinal := O_UNKNOWN_ordinal.keep K39 nin0
      replace O_TRUE_ordinal := O_TRUE_ordinal.keep K39 nin0
      replace V_v := V_v.keep K39 nin0
      replace E_FALSE := E_FALSE.keep K39
      replace E_UNKNOWN := E_UNKNOWN.keep K39
      replace E_TRUE := E_TRUE.keep K39
      replace E__VALUES := E__VALUES.keep K39
      have hn39 : n0 ≤ T39.heap.size := Nat.le_trans hn0 K39.1
      show Go _ _ _ _ _ T39 (mkF m 71 #[.val (.int p1), .val (.int (0 : Int32)), .val (.int (0 : Int32)), .val (.ref w_FALSE), .val (.ref w_FALSE), .val (.int (1 : Int32)), .val (.int (1 : Int32)), .unset, .unset, .unset] [(.ref w_TRUE)])
      refine own_go (fun t k => XS.iloadN X39.here hx rfl (hb hby at_71) rfl k) ?_
      show Go _ _ _ _ _ T39 (mkF m 72 #[.val (.int p1), .val (.int (0 : Int32)), .val (.int (0 : Int32)), .val (.ref w_FALSE), .val (.ref w_FALSE), .val (.int (1 : Int32)), .val (.int (1 : Int32)), .unset, .unset, .unset] [(.int (0 : Int32)), (.ref w_TRUE)])
      refine own_go (fun t k => XS.ifNo X39.here hx rfl (hb hby at_72) rfl (by decide) k) ?_
      show Go _ _ _ _ _ T39 (mkF m 75 #[.val (.int p1), .val (.int (0 : Int32)), .val (.int (0 : Int32)), .val (.ref w_FALSE), .val (.ref w_FALSE), .val (.int (1 : Int32)), .val (.int (1 : Int32)), .unset, .unset, .unset] [(.ref w_TRUE)])
      refine own_go (fun t k => XS.iconst X39.here hx rfl (hb hby at_75) k) ?_
      show Go _ _ _ _ _ T39 (mkF m 76 #[.val (.int p1), .val (.int (0 : Int32)), .val (.int (0 : Int32)), .val (.ref w_FALSE), .val (.ref w_FALSE), .val (.int (1 : Int32)), .val (.int (1 : Int32)), .unset, .unset, .unset] [(.int (1 : Int32)), (.ref w_TRUE)])
      refine own_go (fun t k => XS.goto X39.here hx rfl (pc0 := 76) (pc' := 80) rfl (hb hby at_76) (by decide) (by decide) k) ?_
      show Go _ _ _ _ _ T39 (mkF m 80 #[.val (.int p1), .val (.int (0 : Int32)), .val (.int (0 : Int32)), .val (.ref w_FALSE), .val (.ref w_FALSE), .val (.int (1 : Int32)), .val (.int (1 : Int32)), .unset, .unset, .unset] [(.int (1 : Int32)), (.ref w_TRUE)])
      refine own_callS X39 hx hZ (y := (⟨"com/example/ground0/ground0/refutation/Satisfaction$Truth", "of", "(Z)Lcom/example/ground0/ground0/refutation/Satisfaction$Truth;"⟩ : MethodName)) hown (hw _ (List.mem_of_getElem? (i := 0) rfl)) (hw _ (List.mem_of_getElem? (i := 1) rfl)) (hw _ (List.mem_of_getElem? (i := 2) rfl)) (hw _ (List.mem_of_getElem? (i := 3) rfl)) (by decide) (rm1 l Z a0 hw [] (1 : Int32) w_FALSE w_UNKNOWN w_TRUE (.ref w_TRUE) T39.heap n0 hn39 S_FALSE S_UNKNOWN S_TRUE (by rw [own_f_rm1, if_neg (show ¬ ((1 : Int32) = (0 : Int32)) by decide)]; try first | rfl | decide)) rfl (by rw [hml]; rfl) (argsL := [(.int (1 : Int32))]) (rest := [(.ref w_TRUE)]) rfl rfl (lenOf own_pd3 rfl) (W := 1) (Nat.le_of_eq rfl) (by decide) (by decide) (hb hby at_80) (by decide) (by decide) ?_
      intro v40 T40 L40 X40 q40
      obtain ⟨rfl, N40q, e40⟩ := q40
      have N40 := Fr.app N39 N40q
      show Go _ _ _ _ _ T40 (mkF m 83 #[.val (.int p1), .val (.int (0 : Int32)), .val (.int (0 : Int32)), .val (.ref w_FALSE), .val (.ref w_FALSE), .val (.int (1 : Int32)), .val (.int (1 : Int32)), .unset, .unset, .unset] [(.ref w_TRUE), (.ref w_TRUE)])
      refine own_go (fun t k => Jvm.RoadKit.acmp (g := (mkF m 83 #[.val (.int p1), .val (.int (0 : Int32)), .val (.int (0 : Int32)), .val (.ref w_FALSE), .val (.ref w_FALSE), .val (.int (1 : Int32)), .val (.int (1 : Int32)), .unset, .unset, .unset] [(.ref w_TRUE), (.ref w_TRUE)])) X40 hx rfl rfl rfl (pc0 := 83) (pc' := 86) (same := true) rfl (hb hby at_83) rfl (decide_eq_true rfl) (by decide) (by decide) k) ?_
      show Go _ _ _ _ _ T40 (mkF m 86 #[.val (.int p1), .val (.int (0 : Int32)), .val (.int (0 : Int32)), .val (.ref w_FALSE), .val (.ref w_FALSE), .val (.int (1 : Int32)), .val (.int (1 : Int32)), .unset, .unset, .unset] [])
      refine own_go (fun t k => XS.iconst X40.here hx rfl (hb hby at_86) k) ?_
      show Go _ _ _ _ _ T40 (mkF m 87 #[.val (.int p1), .val (.int (0 : Int32)), .val (.int (0 : Int32)), .val (.ref w_FALSE), .val (.ref w_FALSE), .val (.int (1 : Int32)), .val (.int (1 : Int32)), .unset, .unset, .unset] [(.int (1 : Int32))])
      refine own_go (fun t k => XS.goto X40.here hx rfl (pc0 := 87) (pc' := 91) rfl (hb hby at_87) (by decide) (by decide) k) ?_
      show Go _ _ _ _ _ T40 (mkF m 91 #[.val (.int p1), .val (.int (0 : Int32)), .val (.int (0 : Int32)), .val (.ref w_FALSE), .val (.ref w_FALSE), .val (.int (1 : Int32)), .val (.int (1 : Int32)), .unset, .unset, .unset] [(.int (1 : Int32))])
      refine own_go (fun t k => XS.istore X40.here hx rfl (hb hby at_91) rfl (l' := #[.val (.int p1), .val (.int (0 : Int32)), .val (.int (0 : Int32)), .val (.ref w_FALSE), .val (.ref w_FALSE), .val (.int (1 : Int32)), .val (.int (1 : Int32)), .val (.int (1 : Int32)), .unset, .unset]) rfl k) ?_
      show Go _ _ _ _ _ T40 (mkF m 93 #[.val (.int p1), .val (.int (0 : Int32)), .val (.int (0 : Int32)), .val (.ref w_FALSE), .val (.ref w_FALSE), .val (.int (1 : Int32)), .val (.int (1 : Int32)), .val (.int (1 : Int32)), .unset, .unset] [])
      refine own_go (fun t k => XS.aloadN X40.here hx rfl (hb hby at_93) rfl rfl k) ?_
      show Go _ _ _ _ _ T40 (mkF m 94 #[.val (.int p1), .val (.int (0 : Int32)), .val (.int (0 : Int32)), .val (.ref w_FALSE), .val (.ref w_FALSE), .val (.int (1 : Int32)), .val (.int (1 : Int32)), .val (.int (1 : Int32)), .unset, .unset] [(.ref w_FALSE)])
      refine own_go (fun t k => XS.aload X40.here hx rfl (hb hby at_94) rfl rfl k) ?_
      show Go _ _ _ _ _ T40 (mkF m 96 #[.val (.int p1), .val (.int (0 : Int32)), .val (.int (0 : Int32)), .val (.ref w_FALSE), .val (.ref w_FALSE), .val (.int (1 : Int32)), .val (.int (1 : Int32)), .val (.int (1 : Int32)), .unset, .unset] [(.ref w_FALSE), (.ref w_FALSE)])
      refine own_callV X40 hx hZ (y := (⟨"com/example/ground0/ground0/refutation/Satisfaction$Truth", "and", "(Lcom/example/ground0/ground0/refutation/Satisfaction$Truth;)Lcom/example/ground0/ground0/refutation/Satisfaction$Truth;"⟩ : MethodName)) hown (hw _ (List.mem_of_getElem? (i := 39) rfl)) (hw _ (List.mem_of_getElem? (i := 40) rfl)) (hw _ (List.mem_of_getElem? (i := 42) rfl)) (hw _ (List.mem_of_getElem? (i := 41) rfl)) (hw _ (List.mem_of_getElem? (i := 43) rfl)) (hw _ (List.mem_of_getElem? (i := 2) rfl)) (by decide) (rm_and l Z a0 hw [] w_FALSE w_FALSE (0 : Int32) (0 : Int32) mir (.ref w_FALSE) T39.heap n0 hn39 Mir E_FALSE O_FALSE_ordinal E_FALSE O_FALSE_ordinal (by rw [own_f_rm_and, if_neg (show ¬ ((0 : Int32) < ((0 : Int32) - (0 : Int32))) by decide)]; try first | rfl | decide)) e40 E_FALSE (by rw [hml]; rfl) (argsL := [(.ref w_FALSE)]) (rest := []) rfl rfl (lenOf own_pd5 rfl) (W := 0) (Nat.le_of_eq rfl) (by decide) (by decide) (hb hby at_96) (by decide) (by decide) ?_
      intro v41 T41 L41 X41 q41
      obtain ⟨rfl, N41q, e41⟩ := q41
      have N41 := Fr.app N40 N41q
      show Go _ _ _ _ _ T41 (mkF m 99 #[.val (.int p1), .val (.int (0 : Int32)), .val (.int (0 : Int32)), .val (.ref w_FALSE), .val (.ref w_FALSE), .val (.int (1 : Int32)), .val (.int (1 : Int32)), .val (.int (1 : Int32)), .unset, .unset] [(.ref w_FALSE)])
      refine own_go (fun t k => XS.iloadN X41.here hx rfl (hb hby at_99) rfl k) ?_
      show Go _ _ _ _ _ T41 (mkF m 100 #[.val (.int p1), .val (.int (0 : Int32)), .val (.int (0 : Int32)), .val (.ref w_FALSE), .val (.ref w_FALSE), .val (.int (1 : Int32)), .val (.int (1 : Int32)), .val (.int (1 : Int32)), .unset, .unset] [(.int (0 : Int32)), (.ref w_FALSE)])
      refine own_go (fun t k => XS.ifYes X41.here hx rfl (pc0 := 100) (pc' := 111) rfl (hb hby at_100) rfl (by decide) (by decide) (by decide) k) ?_
      show Go _ _ _ _ _ T41 (mkF m 111 #[.val (.int p1), .val (.int (0 : Int32)), .val (.int (0 : Int32)), .val (.ref w_FALSE), .val (.ref w_FALSE), .val (.int (1 : Int32)), .val (.int (1 : Int32)), .val (.int (1 : Int32)), .unset, .unset] [(.ref w_FALSE)])
      refine own_go (fun t k => XS.iconst X41.here hx rfl (hb hby at_111) k) ?_
      show Go _ _ _ _ _ T41 (mkF m 112 #[.val (.int p1), .val (.int (0 : Int32)), .val (.int (0 : Int32)), .val (.ref w_FALSE), .val (.ref w_FALSE), .val (.int (1 : Int32)), .val (.int (1 : Int32)), .val (.int (1 : Int32)), .unset, .unset] [(.int (0 : Int32)), (.ref w_FALSE)])
      refine own_callS X41 hx hZ (y := (⟨"com/example/ground0/ground0/refutation/Satisfaction$Truth", "of", "(Z)Lcom/example/ground0/ground0/refutation/Satisfaction$Truth;"⟩ : MethodName)) hown (hw _ (List.mem_of_getElem? (i := 0) rfl)) (hw _ (List.mem_of_getElem? (i := 1) rfl)) (hw _ (List.mem_of_getElem? (i := 2) rfl)) (hw _ (List.mem_of_getElem? (i := 3) rfl)) (by decide) (rm1 l Z a0 hw [] (0 : Int32) w_FALSE w_UNKNOWN w_TRUE (.ref w_FALSE) T39.heap n0 hn39 S_FALSE S_UNKNOWN S_TRUE (by rw [own_f_rm1, if_pos (show (0 : Int32) = (0 : Int32) from rfl)]; try first | rfl | decide)) e41 (by rw [hml]; rfl) (argsL := [(.int (0 : Int32))]) (rest := [(.ref w_FALSE)]) rfl rfl (lenOf own_pd3 rfl) (W := 1) (Nat.le_of_eq rfl) (by decide) (by decide) (hb hby at_112) (by decide) (by decide) ?_
      intro v42 T42 L42 X42 q42
      obtain ⟨rfl, N42q, e42⟩ := q42
      have N42 := Fr.app N41 N42q
      show Go _ _ _ _ _ T42 (mkF m 115 #[.val (.int p1), .val (.int (0 : Int32)), .val (.int (0 : Int32)), .val (.ref w_FALSE), .val (.ref w_FALSE), .val (.int (1 : Int32)), .val (.int (1 : Int32)), .val (.int (1 : Int32)), .unset, .unset] [(.ref w_FALSE), (.ref w_FALSE)])
      refine own_go (fun t k => Jvm.RoadKit.acmp (g := (mkF m 115 #[.val (.int p1), .val (.int (0 : Int32)), .val (.int (0 : Int32)), .val (.ref w_FALSE), .val (.ref w_FALSE), .val (.int (1 : Int32)), .val (.int (1 : Int32)), .val (.int (1 : Int32)), .unset, .unset] [(.ref w_FALSE), (.ref w_FALSE)])) X42 hx rfl rfl rfl (pc0 := 115) (pc' := 118) (same := true) rfl (hb hby at_115) rfl (decide_eq_true rfl) (by decide) (by decide) k) ?_
      show Go _ _ _ _ _ T42 (mkF m 118 #[.val (.int p1), .val (.int (0 : Int32)), .val (.int (0 : Int32)), .val (.ref w_FALSE), .val (.ref w_FALSE), .val (.int (1 : Int32)), .val (.int (1 : Int32)), .val (.int (1 : Int32)), .unset, .unset] [])
      refine own_go (fun t k => XS.iconst X42.here hx rfl (hb hby at_118) k) ?_
      show Go _ _ _ _ _ T42 (mkF m 119 #[.val (.int p1), .val (.int (0 : Int32)), .val (.int (0 : Int32)), .val (.ref w_FALSE), .val (.ref w_FALSE), .val (.int (1 : Int32)), .val (.int (1 : Int32)), .val (.int (1 : Int32)), .unset, .unset] [(.int (1 : Int32))])
      refine own_go (fun t k => XS.goto X42.here hx rfl (pc0 := 119) (pc' := 123) rfl (hb hby at_119) (by decide) (by decide) k) ?_
      show Go _ _ _ _ _ T42 (mkF m 123 #[.val (.int p1), .val (.int (0 : Int32)), .val (.int (0 : Int32)), .val (.ref w_FALSE), .val (.ref w_FALSE), .val (.int (1 : Int32)), .val (.int (1 : Int32)), .val (.int (1 : Int32)), .unset, .unset] [(.int (1 : Int32))])
      refine own_go (fun t k => XS.istore X42.here hx rfl (hb hby at_123) rfl (l' := #[.val (.int p1), .val (.int (0 : Int32)), .val (.int (0 : Int32)), .val (.ref w_FALSE), .val (.ref w_FALSE), .val (.int (1 : Int32)), .val (.int (1 : Int32)), .val (.int (1 : Int32)), .val (.int (1 : Int32)), .unset]) rfl k) ?_
      show Go _ _ _ _ _ T42 (mkF m 125 #[.val (.int p1), .val (.int (0 : Int32)), .val (.int (0 : Int32)), .val (.ref w_FALSE), .val (.ref w_FALSE), .val (.int (1 : Int32)), .val (.int (1 : Int32)), .val (.int (1 : Int32)), .val (.int (1 : Int32)), .unset] [])
      refine own_go (fun t k => XS.aloadN X42.here hx rfl (hb hby at_125) rfl rfl k) ?_
      show Go _ _ _ _ _ T42 (mkF m 126 #[.val (.int p1), .val (.int (0 : Int32)), .val (.int (0 : Int32)), .val (.ref w_FALSE), .val (.ref w_FALSE), .val (.int (1 : Int32)), .val (.int (1 : Int32)), .val (.int (1 : Int32)), .val (.int (1 : Int32)), .unset] [(.ref w_FALSE)])
      refine own_go (fun t k => XS.aload X42.here hx rfl (hb hby at_126) rfl rfl k) ?_
      show Go _ _ _ _ _ T42 (mkF m 128 #[.val (.int p1), .val (.int (0 : Int32)), .val (.int (0 : Int32)), .val (.ref w_FALSE), .val (.ref w_FALSE), .val (.int (1 : Int32)), .val (.int (1 : Int32)), .val (.int (1 : Int32)), .val (.int (1 : Int32)), .unset] [(.ref w_FALSE), (.ref w_FALSE)])
      refine own_callV X42 hx hZ (y := (⟨"com/example/ground0/ground0/refutation/Satisfaction$Truth", "or", "(Lcom/example/ground0/ground0/refutation/Satisfaction$Truth;)Lcom/example/ground0/ground0/refutation/Satisfaction$Truth;"⟩ : MethodName)) hown (hw _ (List.mem_of_getElem? (i := 56) rfl)) (hw _ (List.mem_of_getElem? (i := 57) rfl)) (hw _ (List.mem_of_getElem? (i := 59) rfl)) (hw _ (List.mem_of_getElem? (i := 58) rfl)) (hw _ (List.mem_of_getElem? (i := 60) rfl)) (hw _ (List.mem_of_getElem? (i := 2) rfl)) (by decide) (rm_or l Z a0 hw [] w_FALSE w_FALSE (0 : Int32) (0 : Int32) mir (.ref w_FALSE) T39.heap n0 hn39 Mir E_FALSE O_FALSE_ordinal E_FALSE O_FALSE_ordinal (by rw [own_f_rm_or, if_neg (show ¬ (((0 : Int32) - (0 : Int32)) < (0 : Int32)) by decide)]; try first | rfl | decide)) e42 E_FALSE (by rw [hml]; rfl) (argsL := [(.ref w_FALSE)]) (rest := []) rfl rfl (lenOf own_pd5 rfl) (W := 0) (Nat.le_of_eq rfl) (by decide) (by decide) (hb hby at_128) (by decide) (by decide) ?_
      intro v43 T43 L43 X43 q43
      obtain ⟨rfl, N43q, e43⟩ := q43
      have N43 := Fr.app N42 N43q
      show Go _ _ _ _ _ T43 (mkF m 131 #[.val (.int p1), .val (.int (0 : Int32)), .val (.int (0 : Int32)), .val (.ref w_FALSE), .val (.ref w_FALSE), .val (.int (1 : Int32)), .val (.int (1 : Int32)), .val (.int (1 : Int32)), .val (.int (1 : Int32)), .unset] [(.ref w_FALSE)])
      refine own_go (fun t k => XS.iloadN X43.here hx rfl (hb hby at_131) rfl k) ?_
      show Go _ _ _ _ _ T43 (mkF m 132 #[.val (.int p1), .val (.int (0 : Int32)), .val (.int (0 : Int32)), .val (.ref w_FALSE), .val (.ref w_FALSE), .val (.int (1 : Int32)), .val (.int (1 : Int32)), .val (.int (1 : Int32)), .val (.int (1 : Int32)), .unset] [(.int (0 : Int32)), (.ref w_FALSE)])
      refine own_go (fun t k => XS.ifNo X43.here hx rfl (hb hby at_132) rfl (by decide) k) ?_
      show Go _ _ _ _ _ T43 (mkF m 135 #[.val (.int p1), .val (.int (0 : Int32)), .val (.int (0 : Int32)), .val (.ref w_FALSE), .val (.ref w_FALSE), .val (.int (1 : Int32)), .val (.int (1 : Int32)), .val (.int (1 : Int32)), .val (.int (1 : Int32)), .unset] [(.ref w_FALSE)])
      refine own_go (fun t k => XS.iloadN X43.here hx rfl (hb hby at_135) rfl k) ?_
      show Go _ _ _ _ _ T43 (mkF m 136 #[.val (.int p1), .val (.int (0 : Int32)), .val (.int (0 : Int32)), .val (.ref w_FALSE), .val (.ref w_FALSE), .val (.int (1 : Int32)), .val (.int (1 : Int32)), .val (.int (1 : Int32)), .val (.int (1 : Int32)), .unset] [(.int (0 : Int32)), (.ref w_FALSE)])
      refine own_go (fun t k => XS.ifYes X43.here hx rfl (pc0 := 136) (pc' := 143) rfl (hb hby at_136) rfl (by decide) (by decide) (by decide) k) ?_
      show Go _ _ _ _ _ T43 (mkF m 143 #[.val (.int p1), .val (.int (0 : Int32)), .val (.int (0 : Int32)), .val (.ref w_FALSE), .val (.ref w_FALSE), .val (.int (1 : Int32)), .val (.int (1 : Int32)), .val (.int (1 : Int32)), .val (.int (1 : Int32)), .unset] [(.ref w_FALSE)])
      refine own_go (fun t k => XS.iconst X43.here hx rfl (hb hby at_143) k) ?_
      show Go _ _ _ _ _ T43 (mkF m 144 #[.val (.int p1), .val (.int (0 : Int32)), .val (.int (0 : Int32)), .val (.ref w_FALSE), .val (.ref w_FALSE), .val (.int (1 : Int32)), .val (.int (1 : Int32)), .val (.int (1 : Int32)), .val (.int (1 : Int32)), .unset] [(.int (0 : Int32)), (.ref w_FALSE)])
      refine own_callS X43 hx hZ (y := (⟨"com/example/ground0/ground0/refutation/Satisfaction$Truth", "of", "(Z)Lcom/example/ground0/ground0/refutation/Satisfaction$Truth;"⟩ : MethodName)) hown (hw _ (List.mem_of_getElem? (i := 0) rfl)) (hw _ (List.mem_of_getElem? (i := 1) rfl)) (hw _ (List.mem_of_getElem? (i := 2) rfl)) (hw _ (List.mem_of_getElem? (i := 3) rfl)) (by decide) (rm1 l Z a0 hw [] (0 : Int32) w_FALSE w_UNKNOWN w_TRUE (.ref w_FALSE) T39.heap n0 hn39 S_FALSE S_UNKNOWN S_TRUE (by rw [own_f_rm1, if_pos (show (0 : Int32) = (0 : Int32) from rfl)]; try first | rfl | decide)) e43 (by rw [hml]; rfl) (argsL := [(.int (0 : Int32))]) (rest := [(.ref w_FALSE)]) rfl rfl (lenOf own_pd3 rfl) (W := 1) (Nat.le_of_eq rfl) (by decide) (by decide) (hb hby at_144) (by decide) (by decide) ?_
      intro v44 T44 L44 X44 q44
      obtain ⟨rfl, N44q, e44⟩ := q44
      have N44 := Fr.app N43 N44q
      show Go _ _ _ _ _ T44 (mkF m 147 #[.val (.int p1), .val (.int (0 : Int32)), .val (.int (0 : Int32)), .val (.ref w_FALSE), .val (.ref w_FALSE), .val (.int (1 : Int32)), .val (.int (1 : Int32)), .val (.int (1 : Int32)), .val (.int (1 : Int32)), .unset] [(.ref w_FALSE), (.ref w_FALSE)])
      refine own_go (fun t k => Jvm.RoadKit.acmp (g := (mkF m 147 #[.val (.int p1), .val (.int (0 : Int32)), .val (.int (0 : Int32)), .val (.ref w_FALSE), .val (.ref w_FALSE), .val (.int (1 : Int32)), .val (.int (1 : Int32)), .val (.int (1 : Int32)), .val (.int (1 : Int32)), .unset] [(.ref w_FALSE), (.ref w_FALSE)])) X44 hx rfl rfl rfl (pc0 := 147) (pc' := 150) (same := true) rfl (hb hby at_147) rfl (decide_eq_true rfl) (by decide) (by decide) k) ?_
      show Go _ _ _ _ _ T44 (mkF m 150 #[.val (.int p1), .val (.int (0 : Int32)), .val (.int (0 : Int32)), .val (.ref w_FALSE), .val (.ref w_FALSE), .val (.int (1 : Int32)), .val (.int (1 : Int32)), .val (.int (1 : Int32)), .val (.int (1 : Int32)), .unset] [])
      refine own_go (fun t k => XS.iconst X44.here hx rfl (hb hby at_150) k) ?_
      show Go _ _ _ _ _ T44 (mkF m 151 #[.val (.int p1), .val (.int (0 : Int32)), .val (.int (0 : Int32)), .val (.ref w_FALSE), .val (.ref w_FALSE), .val (.int (1 : Int32)), .val (.int (1 : Int32)), .val (.int (1 : Int32)), .val (.int (1 : Int32)), .unset] [(.int (1 : Int32))])
      refine own_go (fun t k => XS.goto X44.here hx rfl (pc0 := 151) (pc' := 155) rfl (hb hby at_151) (by decide) (by decide) k) ?_
      show Go _ _ _ _ _ T44 (mkF m 155 #[.val (.int p1), .val (.int (0 : Int32)), .val (.int (0 : Int32)), .val (.ref w_FALSE), .val (.ref w_FALSE), .val (.int (1 : Int32)), .val (.int (1 : Int32)), .val (.int (1 : Int32)), .val (.int (1 : Int32)), .unset] [(.int (1 : Int32))])
      refine own_go (fun t k => XS.istore X44.here hx rfl (hb hby at_155) rfl (l' := #[.val (.int p1), .val (.int (0 : Int32)), .val (.int (0 : Int32)), .val (.ref w_FALSE), .val (.ref w_FALSE), .val (.int (1 : Int32)), .val (.int (1 : Int32)), .val (.int (1 : Int32)), .val (.int (1 : Int32)), .val (.int (1 : Int32))]) rfl k) ?_
      show Go _ _ _ _ _ T44 (mkF m 157 #[.val (.int p1), .val (.int (0 : Int32)), .val (.int (0 : Int32)), .val (.ref w_FALSE), .val (.ref w_FALSE), .val (.int (1 : Int32)), .val (.int (1 : Int32)), .val (.int (1 : Int32)), .val (.int (1 : Int32)), .val (.int (1 : Int32))] [])
      refine own_go (fun t k => XS.iload X44.here hx rfl (hb hby at_157) rfl k) ?_
      show Go _ _ _ _ _ T44 (mkF m 159 #[.val (.int p1), .val (.int (0 : Int32)), .val (.int (0 : Int32)), .val (.ref w_FALSE), .val (.ref w_FALSE), .val (.int (1 : Int32)), .val (.int (1 : Int32)), .val (.int (1 : Int32)), .val (.int (1 : Int32)), .val (.int (1 : Int32))] [(.int (1 : Int32))])
      refine own_go (fun t k => XS.ifNo X44.here hx rfl (hb hby at_159) rfl (by decide) k) ?_
      show Go _ _ _ _ _ T44 (mkF m 162 #[.val (.int p1), .val (.int (0 : Int32)), .val (.int (0 : Int32)), .val (.ref w_FALSE), .val (.ref w_FALSE), .val (.int (1 : Int32)), .val (.int (1 : Int32)), .val (.int (1 : Int32)), .val (.int (1 : Int32)), .val (.int (1 : Int32))] [])
      refine own_go (fun t k => XS.iload X44.here hx rfl (hb hby at_162) rfl k) ?_
      show Go _ _ _ _ _ T44 (mkF m 164 #[.val (.int p1), .val (.int (0 : Int32)), .val (.int (0 : Int32)), .val (.ref w_FALSE), .val (.ref w_FALSE), .val (.int (1 : Int32)), .val (.int (1 : Int32)), .val (.int (1 : Int32)), .val (.int (1 : Int32)), .val (.int (1 : Int32))] [(.int (1 : Int32))])
      refine own_go (fun t k => XS.ifNo X44.here hx rfl (hb hby at_164) rfl (by decide) k) ?_
      show Go _ _ _ _ _ T44 (mkF m 167 #[.val (.int p1), .val (.int (0 : Int32)), .val (.int (0 : Int32)), .val (.ref w_FALSE), .val (.ref w_FALSE), .val (.int (1 : Int32)), .val (.int (1 : Int32)), .val (.int (1 : Int32)), .val (.int (1 : Int32)), .val (.int (1 : Int32))] [])
      refine own_go (fun t k => XS.iload X44.here hx rfl (hb hby at_167) rfl k) ?_
      show Go _ _ _ _ _ T44 (mkF m 169 #[.val (.int p1), .val (.int (0 : Int32)), .val (.int (0 : Int32)), .val (.ref w_FALSE), .val (.ref w_FALSE), .val (.int (1 : Int32)), .val (.int (1 : Int32)), .val (.int (1 : Int32)), .val (.int (1 : Int32)), .val (.int (1 : Int32))] [(.int (1 : Int32))])
      refine own_go (fun t k => XS.ifNo X44.here hx rfl (hb hby at_169) rfl (by decide) k) ?_
      show Go _ _ _ _ _ T44 (mkF m 172 #[.val (.int p1), .val (.int (0 : Int32)), .val (.int (0 : Int32)), .val (.ref w_FALSE), .val (.ref w_FALSE), .val (.int (1 : Int32)), .val (.int (1 : Int32)), .val (.int (1 : Int32)), .val (.int (1 : Int32)), .val (.int (1 : Int32))] [])
      refine own_go (fun t k => XS.iload X44.here hx rfl (hb hby at_172) rfl k) ?_
      show Go _ _ _ _ _ T44 (mkF m 174 #[.val (.int p1), .val (.int (0 : Int32)), .val (.int (0 : Int32)), .val (.ref w_FALSE), .val (.ref w_FALSE), .val (.int (1 : Int32)), .val (.int (1 : Int32)), .val (.int (1 : Int32)), .val (.int (1 : Int32)), .val (.int (1 : Int32))] [(.int (1 : Int32))])
      refine own_go (fun t k => XS.ifNo X44.here hx rfl (hb hby at_174) rfl (by decide) k) ?_
      show Go _ _ _ _ _ T44 (mkF m 177 #[.val (.int p1), .val (.int (0 : Int32)), .val (.int (0 : Int32)), .val (.ref w_FALSE), .val (.ref w_FALSE), .val (.int (1 : Int32)), .val (.int (1 : Int32)), .val (.int (1 : Int32)), .val (.int (1 : Int32)), .val (.int (1 : Int32))] [])
      refine own_go (fun t k => XS.iload X44.here hx rfl (hb hby at_177) rfl k) ?_
      show Go _ _ _ _ _ T44 (mkF m 179 #[.val (.int p1), .val (.int (0 : Int32)), .val (.int (0 : Int32)), .val (.ref w_FALSE), .val (.ref w_FALSE), .val (.int (1 : Int32)), .val (.int (1 : Int32)), .val (.int (1 : Int32)), .val (.int (1 : Int32)), .val (.int (1 : Int32))] [(.int (1 : Int32))])
      refine own_go (fun t k => XS.ifNo X44.here hx rfl (hb hby at_179) rfl (by decide) k) ?_
      show Go _ _ _ _ _ T44 (mkF m 182 #[.val (.int p1), .val (.int (0 : Int32)), .val (.int (0 : Int32)), .val (.ref w_FALSE), .val (.ref w_FALSE), .val (.int (1 : Int32)), .val (.int (1 : Int32)), .val (.int (1 : Int32)), .val (.int (1 : Int32)), .val (.int (1 : Int32))] [])
      refine own_go (fun t k => XS.iconst X44.here hx rfl (hb hby at_182) k) ?_
      show Go _ _ _ _ _ T44 (mkF m 183 #[.val (.int p1), .val (.int (0 : Int32)), .val (.int (0 : Int32)), .val (.ref w_FALSE), .val (.ref w_FALSE), .val (.int (1 : Int32)), .val (.int (1 : Int32)), .val (.int (1 : Int32)), .val (.int (1 : Int32)), .val (.int (1 : Int32))] [(.int (1 : Int32))])
      refine own_go (fun t k => XS.goto X44.here hx rfl (pc0 := 183) (pc' := 187) rfl (hb hby at_183) (by decide) (by decide) k) ?_
      show Go _ _ _ _ _ T44 (mkF m 187 #[.val (.int p1), .val (.int (0 : Int32)), .val (.int (0 : Int32)), .val (.ref w_FALSE), .val (.ref w_FALSE), .val (.int (1 : Int32)), .val (.int (1 : Int32)), .val (.int (1 : Int32)), .val (.int (1 : Int32)), .val (.int (1 : Int32))] [(.int (1 : Int32))])
      refine own_retN X44 hx (own_lvN X44 hlk (by decide) (by decide)) (t := .boolean) hret (by simp) (hb hby at_187) ?_
      exact ⟨rfl, N44⟩
    · skip
      show Go _ _ _ _ _ s₁ (mkF m 15 #[.val (.int p1), .val (.int (0 : Int32)), .unset, .unset, .unset, .unset, .unset, .unset, .unset, .unset] [(.int (2 : Int32))])
      refine own_go (fun t k => XS.ifNo X0.here hx rfl (hb hby at_15) rfl (by decide) k) ?_
      show Go _ _ _ _ _ s₁ (mkF m 18 #[.val (.int p1), .val (.int (0 : Int32)), .unset, .unset, .unset, .unset, .unset, .unset, .unset, .unset] [])
      refine own_go (fun t k => XS.iconst X0.here hx rfl (hb hby at_18) k) ?_
      show Go _ _ _ _ _ s₁ (mkF m 19 #[.val (.int p1), .val (.int (0 : Int32)), .unset, .unset, .unset, .unset, .unset, .unset, .unset, .unset] [(.int (1 : Int32))])
      refine own_go (fun t k => XS.goto X0.here hx rfl (pc0 := 19) (pc' := 23) rfl (hb hby at_19) (by decide) (by decide) k) ?_
      show Go _ _ _ _ _ s₁ (mkF m 23 #[.val (.int p1), .val (.int (0 : Int32)), .unset, .unset, .unset, .unset, .unset, .unset, .unset, .unset] [(.int (1 : Int32))])
      refine own_go (fun t k => XS.istoreN X0.here hx rfl (hb hby at_23) rfl (l' := #[.val (.int p1), .val (.int (0 : Int32)), .val (.int (1 : Int32)), .unset, .unset, .unset, .unset, .unset, .unset, .unset]) rfl k) ?_
      show Go _ _ _ _ _ s₁ (mkF m 24 #[.val (.int p1), .val (.int (0 : Int32)), .val (.int (1 : Int32)), .unset, .unset, .unset, .unset, .unset, .unset, .unset] [])
      refine own_go (fun t k => XS.iloadN X0.here hx rfl (hb hby at_24) rfl k) ?_
      show Go _ _ _ _ _ s₁ (mkF m 25 #[.val (.int p1), .val (.int (0 : Int32)), .val (.int (1 : Int32)), .unset, .unset, .unset, .unset, .unset, .unset, .unset] [(.int (0 : Int32))])
      refine own_callS X0 hx hZ (y := (⟨"com/example/ground0/ground0/refutation/Satisfaction$Truth", "of", "(Z)Lcom/example/ground0/ground0/refutation/Satisfaction$Truth;"⟩ : MethodName)) hown (hw _ (List.mem_of_getElem? (i := 0) rfl)) (hw _ (List.mem_of_getElem? (i := 1) rfl)) (hw _ (List.mem_of_getElem? (i := 2) rfl)) (hw _ (List.mem_of_getElem? (i := 3) rfl)) (by decide) (rm1 l Z a0 hw [] (0 : Int32) w_FALSE w_UNKNOWN w_TRUE (.ref w_FALSE) h0 n0 hn0 S_FALSE S_UNKNOWN S_TRUE (by rw [own_f_rm1, if_pos (show (0 : Int32) = (0 : Int32) from rfl)]; try first | rfl | decide)) e0 (by rw [hml]; rfl) (argsL := [(.int (0 : Int32))]) (rest := []) rfl rfl (lenOf own_pd3 rfl) (W := 0) (Nat.le_of_eq rfl) (by decide) (by decide) (hb hby at_25) (by decide) (by decide) ?_
      intro v45 T45 L45 X45 q45
      obtain ⟨rfl, N45q, e45⟩ := q45
      have N45 := Fr.app N0 N45q
      show Go _ _ _ _ _ T45 (mkF m 28 #[.val (.int p1), .val (.int (0 : Int32)), .val (.int (1 : Int32)), .unset, .unset, .unset, .unset, .unset, .unset, .unset] [(.ref w_FALSE)])
      refine own_go (fun t k => XS.astoreN X45.here hx rfl (hb hby at_28) rfl rfl (l' := #[.val (.int p1), .val (.int (0 : Int32)), .val (.int (1 : Int32)), .val (.ref w_FALSE), .unset, .unset, .unset, .unset, .unset, .unset]) rfl k) ?_
      show Go _ _ _ _ _ T45 (mkF m 29 #[.val (.int p1), .val (.int (0 : Int32)), .val (.int (1 : Int32)), .val (.ref w_FALSE), .unset, .unset, .unset, .unset, .unset, .unset] [])
      refine own_go (fun t k => XS.iloadN X45.here hx rfl (hb hby at_29) rfl k) ?_
      show Go _ _ _ _ _ T45 (mkF m 30 #[.val (.int p1), .val (.int (0 : Int32)), .val (.int (1 : Int32)), .val (.ref w_FALSE), .unset, .unset, .unset, .unset, .unset, .unset] [(.int (1 : Int32))])
      refine own_callS X45 hx hZ (y := (⟨"com/example/ground0/ground0/refutation/Satisfaction$Truth", "of", "(Z)Lcom/example/ground0/ground0/refutation/Satisfaction$Truth;"⟩ : MethodName)) hown (hw _ (List.mem_of_getElem? (i := 0) rfl)) (hw _ (List.mem_of_getElem? (i := 1) rfl)) (hw _ (List.mem_of_getElem? (i := 2) rfl)) (hw _ (List.mem_of_getElem? (i := 3) rfl)) (by decide) (rm1 l Z a0 hw [] (1 : Int32) w_FALSE w_UNKNOWN w_TRUE (.ref w_TRUE) h0 n0 hn0 S_FALSE S_UNKNOWN S_TRUE (by rw [own_f_rm1, if_neg (show ¬ ((1 : Int32) = (0 : Int32)) by decide)]; try first | rfl | decide)) e45 (by rw [hml]; rfl) (argsL := [(.int (1 : Int32))]) (rest := []) rfl rfl (lenOf own_pd3 rfl) (W := 0) (Nat.le_of_eq rfl) (by decide) (by decide) (hb hby at_30) (by decide) (by decide) ?_
      intro v46 T46 L46 X46 q46
      obtain ⟨rfl, N46q, e46⟩ := q46
      have N46 := Fr.app N45 N46q
      show Go _ _ _ _ _ T46 (mkF m 33 #[.val (.int p1), .val (.int (0 : Int32)), .val (.int (1 : Int32)), .val (.ref w_FALSE), .unset, .unset, .unset, .unset, .unset, .unset] [(.ref w_TRUE)])
      refine own_go (fun t k => XS.astore X46.here hx rfl (hb hby at_33) rfl rfl (l' := #[.val (.int p1), .val (.int (0 : Int32)), .val (.int (1 : Int32)), .val (.ref w_FALSE), .val (.ref w_TRUE), .unset, .unset, .unset, .unset, .unset]) rfl k) ?_
      show Go _ _ _ _ _ T46 (mkF m 35 #[.val (.int p1), .val (.int (0 : Int32)), .val (.int (1 : Int32)), .val (.ref w_FALSE), .val (.ref w_TRUE), .unset, .unset, .unset, .unset, .unset] [])
      refine own_go (fun t k => XS.aloadN X46.here hx rfl (hb hby at_35) rfl rfl k) ?_
      show Go _ _ _ _ _ T46 (mkF m 36 #[.val (.int p1), .val (.int (0 : Int32)), .val (.int (1 : Int32)), .val (.ref w_FALSE), .val (.ref w_TRUE), .unset, .unset, .unset, .unset, .unset] [(.ref w_FALSE)])
      obtain ⟨T47, X47, e47, st47⟩ := getS2 X46 hx hZ hown (host := "") (Or.inl (hw _ (List.mem_of_getElem? (i := 6) rfl))) Via.refl e46 S_UNKNOWN (g := (mkF m 36 #[.val (.int p1), .val (.int (0 : Int32)), .val (.int (1 : Int32)), .val (.ref w_FALSE), .val (.ref w_TRUE), .unset, .unset, .unset, .unset, .unset] [(.ref w_FALSE)])) rfl (hb hby at_36)
      refine own_go (fun t k => st47 t k) ?_
      show Go _ _ _ _ _ T47 (mkF m 39 #[.val (.int p1), .val (.int (0 : Int32)), .val (.int (1 : Int32)), .val (.ref w_FALSE), .val (.ref w_TRUE), .unset, .unset, .unset, .unset, .unset] [(.ref w_UNKNOWN), (.ref w_FALSE)])
      refine own_go (fun t k => Jvm.RoadKit.acmp (g := (mkF m 39 #[.val (.int p1), .val (.int (0 : Int32)), .val (.int (1 : Int32)), .val (.ref w_FALSE), .val (.ref w_TRUE), .unset, .unset, .unset, .unset, .unset] [(.ref w_UNKNOWN), (.ref w_FALSE)])) X47 hx rfl rfl rfl (pc0 := 39) (pc' := 42) (same := false) rfl (hb hby at_39) rfl (decide_eq_false fun q => D_w_FALSE_w_UNKNOWN (Value.ref.inj q)) (by decide) (by decide) k) ?_
      show Go _ _ _ _ _ T47 (mkF m 42 #[.val (.int p1), .val (.int (0 : Int32)), .val (.int (1 : Int32)), .val (.ref w_FALSE), .val (.ref w_TRUE), .unset, .unset, .unset, .unset, .unset] [])
      refine own_go (fun t k => XS.iconst X47.here hx rfl (hb hby at_42) k) ?_
      show Go _ _ _ _ _ T47 (mkF m 43 #[.val (.int p1), .val (.int (0 : Int32)), .val (.int (1 : Int32)), .val (.ref w_FALSE), .val (.ref w_TRUE), .unset, .unset, .unset, .unset, .unset] [(.int (1 : Int32))])
      refine own_go (fun t k => XS.goto X47.here hx rfl (pc0 := 43) (pc' := 47) rfl (hb hby at_43) (by decide) (by decide) k) ?_
      show Go _ _ _ _ _ T47 (mkF m 47 #[.val (.int p1), .val (.int (0 : Int32)), .val (.int (1 : Int32)), .val (.ref w_FALSE), .val (.ref w_TRUE), .unset, .unset, .unset, .unset, .unset] [(.int (1 : Int32))])
      refine own_go (fun t k => XS.istore X47.here hx rfl (hb hby at_47) rfl (l' := #[.val (.int p1), .val (.int (0 : Int32)), .val (.int (1 : Int32)), .val (.ref w_FALSE), .val (.ref w_TRUE), .val (.int (1 : Int32)), .unset, .unset, .unset, .unset]) rfl k) ?_
      show Go _ _ _ _ _ T47 (mkF m 49 #[.val (.int p1), .val (.int (0 : Int32)), .val (.int (1 : Int32)), .val (.ref w_FALSE), .val (.ref w_TRUE), .val (.int (1 : Int32)), .unset, .unset, .unset, .unset] [])
      refine own_go (fun t k => XS.iconst X47.here hx rfl (hb hby at_49) k) ?_
      show Go _ _ _ _ _ T47 (mkF m 50 #[.val (.int p1), .val (.int (0 : Int32)), .val (.int (1 : Int32)), .val (.ref w_FALSE), .val (.ref w_TRUE), .val (.int (1 : Int32)), .unset, .unset, .unset, .unset] [(.int (1 : Int32))])
      refine own_callS X47 hx hZ (y := (⟨"com/example/ground0/ground0/refutation/Satisfaction$Truth", "of", "(Z)Lcom/example/ground0/ground0/refutation/Satisfaction$Truth;"⟩ : MethodName)) hown (hw _ (List.mem_of_getElem? (i := 0) rfl)) (hw _ (List.mem_of_getElem? (i := 1) rfl)) (hw _ (List.mem_of_getElem? (i := 2) rfl)) (hw _ (List.mem_of_getElem? (i := 3) rfl)) (by decide) (rm1 l Z a0 hw [] (1 : Int32) w_FALSE w_UNKNOWN w_TRUE (.ref w_TRUE) h0 n0 hn0 S_FALSE S_UNKNOWN S_TRUE (by rw [own_f_rm1, if_neg (show ¬ ((1 : Int32) = (0 : Int32)) by decide)]; try first | rfl | decide)) e47 (by rw [hml]; rfl) (argsL := [(.int (1 : Int32))]) (rest := []) rfl rfl (lenOf own_pd3 rfl) (W := 0) (Nat.le_of_eq rfl) (by decide) (by decide) (hb hby at_50) (by decide) (by decide) ?_
      intro v48 T48 L48 X48 q48
      obtain ⟨rfl, N48q, e48⟩ := q48
      have N48 := Fr.app N46 N48q
      show Go _ _ _ _ _ T48 (mkF m 53 #[.val (.int p1), .val (.int (0 : Int32)), .val (.int (1 : Int32)), .val (.ref w_FALSE), .val (.ref w_TRUE), .val (.int (1 : Int32)), .unset, .unset, .unset, .unset] [(.ref w_TRUE)])
      refine own_go (fun t k => XS.iconst X48.here hx rfl (hb hby at_53) k) ?_
      show Go _ _ _ _ _ T48 (mkF m 54 #[.val (.int p1), .val (.int (0 : Int32)), .val (.int (1 : Int32)), .val (.ref w_FALSE), .val (.ref w_TRUE), .val (.int (1 : Int32)), .unset, .unset, .unset, .unset] [(.int (0 : Int32)), (.ref w_TRUE)])
      refine own_callS X48 hx hZ (y := (⟨"com/example/ground0/ground0/refutation/Satisfaction$Truth", "of", "(Z)Lcom/example/ground0/ground0/refutation/Satisfaction$Truth;"⟩ : MethodName)) hown (hw _ (List.mem_of_getElem? (i := 0) rfl)) (hw _ (List.mem_of_getElem? (i := 1) rfl)) (hw _ (List.mem_of_getElem? (i := 2) rfl)) (hw _ (List.mem_of_getElem? (i := 3) rfl)) (by decide) (rm1 l Z a0 hw [] (0 : Int32) w_FALSE w_UNKNOWN w_TRUE (.ref w_FALSE) h0 n0 hn0 S_FALSE S_UNKNOWN S_TRUE (by rw [own_f_rm1, if_pos (show (0 : Int32) = (0 : Int32) from rfl)]; try first | rfl | decide)) e48 (by rw [hml]; rfl) (argsL := [(.int (0 : Int32))]) (rest := [(.ref w_TRUE)]) rfl rfl (lenOf own_pd3 rfl) (W := 1) (Nat.le_of_eq rfl) (by decide) (by decide) (hb hby at_54) (by decide) (by decide) ?_
      intro v49 T49 L49 X49 q49
      obtain ⟨rfl, N49q, e49⟩ := q49
      have N49 := Fr.app N48 N49q
      show Go _ _ _ _ _ T49 (mkF m 57 #[.val (.int p1), .val (.int (0 : Int32)), .val (.int (1 : Int32)), .val (.ref w_FALSE), .val (.ref w_TRUE), .val (.int (1 : Int32)), .unset, .unset, .unset, .unset] [(.ref w_FALSE), (.ref w_TRUE)])
      refine own_go (fun t k => Jvm.RoadKit.acmp (g := (mkF m 57 #[.val (.int p1), .val (.int (0 : Int32)), .val (.int (1 : Int32)), .val (.ref w_FALSE), .val (.ref w_TRUE), .val (.int (1 : Int32)), .unset, .unset, .unset, .unset] [(.ref w_FALSE), (.ref w_TRUE)])) X49 hx rfl rfl rfl (pc0 := 57) (pc' := 60) (same := false) rfl (hb hby at_57) rfl (decide_eq_false fun q => D_w_FALSE_w_TRUE (Value.ref.inj q).symm) (by decide) (by decide) k) ?_
      show Go _ _ _ _ _ T49 (mkF m 60 #[.val (.int p1), .val (.int (0 : Int32)), .val (.int (1 : Int32)), .val (.ref w_FALSE), .val (.ref w_TRUE), .val (.int (1 : Int32)), .unset, .unset, .unset, .unset] [])
      refine own_go (fun t k => XS.iconst X49.here hx rfl (hb hby at_60) k) ?_
      show Go _ _ _ _ _ T49 (mkF m 61 #[.val (.int p1), .val (.int (0 : Int32)), .val (.int (1 : Int32)), .val (.ref w_FALSE), .val (.ref w_TRUE), .val (.int (1 : Int32)), .unset, .unset, .unset, .unset] [(.int (1 : Int32))])
      refine own_go (fun t k => XS.goto X49.here hx rfl (pc0 := 61) (pc' := 65) rfl (hb hby at_61) (by decide) (by decide) k) ?_
      show Go _ _ _ _ _ T49 (mkF m 65 #[.val (.int p1), .val (.int (0 : Int32)), .val (.int (1 : Int32)), .val (.ref w_FALSE), .val (.ref w_TRUE), .val (.int (1 : Int32)), .unset, .unset, .unset, .unset] [(.int (1 : Int32))])
      refine own_go (fun t k => XS.istore X49.here hx rfl (hb hby at_65) rfl (l' := #[.val (.int p1), .val (.int (0 : Int32)), .val (.int (1 : Int32)), .val (.ref w_FALSE), .val (.ref w_TRUE), .val (.int (1 : Int32)), .val (.int (1 : Int32)), .unset, .unset, .unset]) rfl k) ?_
      show Go _ _ _ _ _ T49 (mkF m 67 #[.val (.int p1), .val (.int (0 : Int32)), .val (.int (1 : Int32)), .val (.ref w_FALSE), .val (.ref w_TRUE), .val (.int (1 : Int32)), .val (.int (1 : Int32)), .unset, .unset, .unset] [])
      refine own_go (fun t k => XS.aloadN X49.here hx rfl (hb hby at_67) rfl rfl k) ?_
      show Go _ _ _ _ _ T49 (mkF m 68 #[.val (.int p1), .val (.int (0 : Int32)), .val (.int (1 : Int32)), .val (.ref w_FALSE), .val (.ref w_TRUE), .val (.int (1 : Int32)), .val (.int (1 : Int32)), .unset, .unset, .unset] [(.ref w_FALSE)])
      refine own_callV X49 hx hZ (y := (⟨"com/example/ground0/ground0/refutation/Satisfaction$Truth", "not", "()Lcom/example/ground0/ground0/refutation/Satisfaction$Truth;"⟩ : MethodName)) hown (hw _ (List.mem_of_getElem? (i := 10) rfl)) (hw _ (List.mem_of_getElem? (i := 11) rfl)) (hw _ (List.mem_of_getElem? (i := 13) rfl)) (hw _ (List.mem_of_getElem? (i := 12) rfl)) (hw _ (List.mem_of_getElem? (i := 14) rfl)) (hw _ (List.mem_of_getElem? (i := 2) rfl)) (by decide) (rm_not_0 l Z a0 hw [] w_FALSE w__VALUES kv w_FALSE w_UNKNOWN w_TRUE h0 n0 hn0 S__VALUES E__VALUES V_v E_FALSE O_FALSE_ordinal) e49 E_FALSE (by rw [hml]; rfl) (argsL := []) (rest := []) rfl rfl (lenOf own_pd4 rfl) (W := 0) (Nat.le_of_eq rfl) (by decide) (by decide) (hb hby at_68) (by decide) (by decide) ?_
      intro v50 T50 L50 X50 q50
      obtain ⟨rfl, N50q, K50⟩ := q50
      have N50 := Fr.app N49 N50q
      replace S_FALSE := own_sta_keep S_FALSE K50 all0
      replace S_UNKNOWN := own_sta_keep S_UNKNOWN K50 all0
      replace S_TRUE := own_sta_keep S_TRUE K50 all0
      replace S__VALUES := own_sta_keep S__VALUES K50 all0
      replace O_FALSE_ordinal := O_FALSE_ordinal.keep K50 nin0
      replace O_UNKNOWN_ordinal := O_UNKNOWN_ordinal.keep K50 nin0
      replace O_TRUE_ordinal := O_TRUE_ordinal.keep K50 nin0
      replace V_v := V_v.keep K50 nin0
      replace E_FALSE := E_FALSE.keep K50
      replace E_UNKNOWN := E_UNKNOWN.keep K50
      replace E_TRUE := E_TRUE.keep K50
      replace E__VALUES := E__VALUES.keep K50
      have hn50 : n0 ≤ T50.heap.size := Nat.le_trans hn0 K50.1
      show Go _ _ _ _ _ T50 (mkF m 71 #[.val (.int p1), .val (.int (0 : Int32)), .val (.int (1 : Int32)), .val (.ref w_FALSE), .val (.ref w_TRUE), .val (.int (1 : Int32)), .val (.int (1 : Int32)), .unset, .unset, .unset] [(.ref w_TRUE)])
      refine own_go (fun t k => XS.iloadN X50.here hx rfl (hb hby at_71) rfl k) ?_
      show Go _ _ _ _ _ T50 (mkF m 72 #[.val (.int p1), .val (.int (0 : Int32)), .val (.int (1 : Int32)), .val (.ref w_FALSE), .val (.ref w_TRUE), .val (.int (1 : Int32)), .val (.int (1 : Int32)), .unset, .unset, .unset] [(.int (0 : Int32)), (.ref w_TRUE)])
      refine own_go (fun t k => XS.ifNo X50.here hx rfl (hb hby at_72) rfl (by decide) k) ?_
      show Go _ _ _ _ _ T50 (mkF m 75 #[.val (.int p1), .val (.int (0 : Int32)), .val (.int (1 : Int32)), .val (.ref w_FALSE), .val (.ref w_TRUE), .val (.int (1 : Int32)), .val (.int (1 : Int32)), .unset, .unset, .unset] [(.ref w_TRUE)])
      refine own_go (fun t k => XS.iconst X50.here hx rfl (hb hby at_75) k) ?_
      show Go _ _ _ _ _ T50 (mkF m 76 #[.val (.int p1), .val (.int (0 : Int32)), .val (.int (1 : Int32)), .val (.ref w_FALSE), .val (.ref w_TRUE), .val (.int (1 : Int32)), .val (.int (1 : Int32)), .unset, .unset, .unset] [(.int (1 : Int32)), (.ref w_TRUE)])
      refine own_go (fun t k => XS.goto X50.here hx rfl (pc0 := 76) (pc' := 80) rfl (hb hby at_76) (by decide) (by decide) k) ?_
      show Go _ _ _ _ _ T50 (mkF m 80 #[.val (.int p1), .val (.int (0 : Int32)), .val (.int (1 : Int32)), .val (.ref w_FALSE), .val (.ref w_TRUE), .val (.int (1 : Int32)), .val (.int (1 : Int32)), .unset, .unset, .unset] [(.int (1 : Int32)), (.ref w_TRUE)])
      refine own_callS X50 hx hZ (y := (⟨"com/example/ground0/ground0/refutation/Satisfaction$Truth", "of", "(Z)Lcom/example/ground0/ground0/refutation/Satisfaction$Truth;"⟩ : MethodName)) hown (hw _ (List.mem_of_getElem? (i := 0) rfl)) (hw _ (List.mem_of_getElem? (i := 1) rfl)) (hw _ (List.mem_of_getElem? (i := 2) rfl)) (hw _ (List.mem_of_getElem? (i := 3) rfl)) (by decide) (rm1 l Z a0 hw [] (1 : Int32) w_FALSE w_UNKNOWN w_TRUE (.ref w_TRUE) T50.heap n0 hn50 S_FALSE S_UNKNOWN S_TRUE (by rw [own_f_rm1, if_neg (show ¬ ((1 : Int32) = (0 : Int32)) by decide)]; try first | rfl | decide)) rfl (by rw [hml]; rfl) (argsL := [(.int (1 : Int32))]) (rest := [(.ref w_TRUE)]) rfl rfl (lenOf own_pd3 rfl) (W := 1) (Nat.le_of_eq rfl) (by decide) (by decide) (hb hby at_80) (by decide) (by decide) ?_
      intro v51 T51 L51 X51 q51
      obtain ⟨rfl, N51q, e51⟩ := q51
      have N51 := Fr.app N50 N51q
      show Go _ _ _ _ _ T51 (mkF m 83 #[.val (.int p1), .val (.int (0 : Int32)), .val (.int (1 : Int32)), .val (.ref w_FALSE), .val (.ref w_TRUE), .val (.int (1 : Int32)), .val (.int (1 : Int32)), .unset, .unset, .unset] [(.ref w_TRUE), (.ref w_TRUE)])
      refine own_go (fun t k => Jvm.RoadKit.acmp (g := (mkF m 83 #[.val (.int p1), .val (.int (0 : Int32)), .val (.int (1 : Int32)), .val (.ref w_FALSE), .val (.ref w_TRUE), .val (.int (1 : Int32)), .val (.int (1 : Int32)), .unset, .unset, .unset] [(.ref w_TRUE), (.ref w_TRUE)])) X51 hx rfl rfl rfl (pc0 := 83) (pc' := 86) (same := true) rfl (hb hby at_83) rfl (decide_eq_true rfl) (by decide) (by decide) k) ?_
      show Go _ _ _ _ _ T51 (mkF m 86 #[.val (.int p1), .val (.int (0 : Int32)), .val (.int (1 : Int32)), .val (.ref w_FALSE), .val (.ref w_TRUE), .val (.int (1 : Int32)), .val (.int (1 : Int32)), .unset, .unset, .unset] [])
      refine own_go (fun t k => XS.iconst X51.here hx rfl (hb hby at_86) k) ?_
      show Go _ _ _ _ _ T51 (mkF m 87 #[.val (.int p1), .val (.int (0 : Int32)), .val (.int (1 : Int32)), .val (.ref w_FALSE), .val (.ref w_TRUE), .val (.int (1 : Int32)), .val (.int (1 : Int32)), .unset, .unset, .unset] [(.int (1 : Int32))])
      refine own_go (fun t k => XS.goto X51.here hx rfl (pc0 := 87) (pc' := 91) rfl (hb hby at_87) (by decide) (by decide) k) ?_
      show Go _ _ _ _ _ T51 (mkF m 91 #[.val (.int p1), .val (.int (0 : Int32)), .val (.int (1 : Int32)), .val (.ref w_FALSE), .val (.ref w_TRUE), .val (.int (1 : Int32)), .val (.int (1 : Int32)), .unset, .unset, .unset] [(.int (1 : Int32))])
      refine own_go (fun t k => XS.istore X51.here hx rfl (hb hby at_91) rfl (l' := #[.val (.int p1), .val (.int (0 : Int32)), .val (.int (1 : Int32)), .val (.ref w_FALSE), .val (.ref w_TRUE), .val (.int (1 : Int32)), .val (.int (1 : Int32)), .val (.int (1 : Int32)), .unset, .unset]) rfl k) ?_
      show Go _ _ _ _ _ T51 (mkF m 93 #[.val (.int p1), .val (.int (0 : Int32)), .val (.int (1 : Int32)), .val (.ref w_FALSE), .val (.ref w_TRUE), .val (.int (1 : Int32)), .val (.int (1 : Int32)), .val (.int (1 : Int32)), .unset, .unset] [])
      refine own_go (fun t k => XS.aloadN X51.here hx rfl (hb hby at_93) rfl rfl k) ?_
      show Go _ _ _ _ _ T51 (mkF m 94 #[.val (.int p1), .val (.int (0 : Int32)), .val (.int (1 : Int32)), .val (.ref w_FALSE), .val (.ref w_TRUE), .val (.int (1 : Int32)), .val (.int (1 : Int32)), .val (.int (1 : Int32)), .unset, .unset] [(.ref w_FALSE)])
      refine own_go (fun t k => XS.aload X51.here hx rfl (hb hby at_94) rfl rfl k) ?_
      show Go _ _ _ _ _ T51 (mkF m 96 #[.val (.int p1), .val (.int (0 : Int32)), .val (.int (1 : Int32)), .val (.ref w_FALSE), .val (.ref w_TRUE), .val (.int (1 : Int32)), .val (.int (1 : Int32)), .val (.int (1 : Int32)), .unset, .unset] [(.ref w_TRUE), (.ref w_FALSE)])
      refine own_callV X51 hx hZ (y := (⟨"com/example/ground0/ground0/refutation/Satisfaction$Truth", "and", "(Lcom/example/ground0/ground0/refutation/Satisfaction$Truth;)Lcom/example/ground0/ground0/refutation/Satisfaction$Truth;"⟩ : MethodName)) hown (hw _ (List.mem_of_getElem? (i := 39) rfl)) (hw _ (List.mem_of_getElem? (i := 40) rfl)) (hw _ (List.mem_of_getElem? (i := 42) rfl)) (hw _ (List.mem_of_getElem? (i := 41) rfl)) (hw _ (List.mem_of_getElem? (i := 43) rfl)) (hw _ (List.mem_of_getElem? (i := 2) rfl)) (by decide) (rm_and l Z a0 hw [] w_FALSE w_TRUE (0 : Int32) (2 : Int32) mir (.ref w_FALSE) T50.heap n0 hn50 Mir E_FALSE O_FALSE_ordinal E_TRUE O_TRUE_ordinal (by rw [own_f_rm_and, if_neg (show ¬ ((0 : Int32) < ((0 : Int32) - (2 : Int32))) by decide)]; try first | rfl | decide)) e51 E_FALSE (by rw [hml]; rfl) (argsL := [(.ref w_TRUE)]) (rest := []) rfl rfl (lenOf own_pd5 rfl) (W := 0) (Nat.le_of_eq rfl) (by decide) (by decide) (hb hby at_96) (by decide) (by decide) ?_
      intro v52 T52 L52 X52 q52
      obtain ⟨rfl, N52q, e52⟩ := q52
      have N52 := Fr.app N51 N52q
      show Go _ _ _ _ _ T52 (mkF m 99 #[.val (.int p1), .val (.int (0 : Int32)), .val (.int (1 : Int32)), .val (.ref w_FALSE), .val (.ref w_TRUE), .val (.int (1 : Int32)), .val (.int (1 : Int32)), .val (.int (1 : Int32)), .unset, .unset] [(.ref w_FALSE)])
      refine own_go (fun t k => XS.iloadN X52.here hx rfl (hb hby at_99) rfl k) ?_
      show Go _ _ _ _ _ T52 (mkF m 100 #[.val (.int p1), .val (.int (0 : Int32)), .val (.int (1 : Int32)), .val (.ref w_FALSE), .val (.ref w_TRUE), .val (.int (1 : Int32)), .val (.int (1 : Int32)), .val (.int (1 : Int32)), .unset, .unset] [(.int (0 : Int32)), (.ref w_FALSE)])
      refine own_go (fun t k => XS.ifYes X52.here hx rfl (pc0 := 100) (pc' := 111) rfl (hb hby at_100) rfl (by decide) (by decide) (by decide) k) ?_
      show Go _ _ _ _ _ T52 (mkF m 111 #[.val (.int p1), .val (.int (0 : Int32)), .val (.int (1 : Int32)), .val (.ref w_FALSE), .val (.ref w_TRUE), .val (.int (1 : Int32)), .val (.int (1 : Int32)), .val (.int (1 : Int32)), .unset, .unset] [(.ref w_FALSE)])
      refine own_go (fun t k => XS.iconst X52.here hx rfl (hb hby at_111) k) ?_
      show Go _ _ _ _ _ T52 (mkF m 112 #[.val (.int p1), .val (.int (0 : Int32)), .val (.int (1 : Int32)), .val (.ref w_FALSE), .val (.ref w_TRUE), .val (.int (1 : Int32)), .val (.int (1 : Int32)), .val (.int (1 : Int32)), .unset, .unset] [(.int (0 : Int32)), (.ref w_FALSE)])
      refine own_callS X52 hx hZ (y := (⟨"com/example/ground0/ground0/refutation/Satisfaction$Truth", "of", "(Z)Lcom/example/ground0/ground0/refutation/Satisfaction$Truth;"⟩ : MethodName)) hown (hw _ (List.mem_of_getElem? (i := 0) rfl)) (hw _ (List.mem_of_getElem? (i := 1) rfl)) (hw _ (List.mem_of_getElem? (i := 2) rfl)) (hw _ (List.mem_of_getElem? (i := 3) rfl)) (by decide) (rm1 l Z a0 hw [] (0 : Int32) w_FALSE w_UNKNOWN w_TRUE (.ref w_FALSE) T50.heap n0 hn50 S_FALSE S_UNKNOWN S_TRUE (by rw [own_f_rm1, if_pos (show (0 : Int32) = (0 : Int32) from rfl)]; try first | rfl | decide)) e52 (by rw [hml]; rfl) (argsL := [(.int (0 : Int32))]) (rest := [(.ref w_FALSE)]) rfl rfl (lenOf own_pd3 rfl) (W := 1) (Nat.le_of_eq rfl) (by decide) (by decide) (hb hby at_112) (by decide) (by decide) ?_
      intro v53 T53 L53 X53 q53
      obtain ⟨rfl, N53q, e53⟩ := q53
      have N53 := Fr.app N52 N53q
      show Go _ _ _ _ _ T53 (mkF m 115 #[.val (.int p1), .val (.int (0 : Int32)), .val (.int (1 : Int32)), .val (.ref w_FALSE), .val (.ref w_TRUE), .val (.int (1 : Int32)), .val (.int (1 : Int32)), .val (.int (1 : Int32)), .unset, .unset] [(.ref w_FALSE), (.ref w_FALSE)])
      refine own_go (fun t k => Jvm.RoadKit.acmp (g := (mkF m 115 #[.val (.int p1), .val (.int (0 : Int32)), .val (.int (1 : Int32)), .val (.ref w_FALSE), .val (.ref w_TRUE), .val (.int (1 : Int32)), .val (.int (1 : Int32)), .val (.int (1 : Int32)), .unset, .unset] [(.ref w_FALSE), (.ref w_FALSE)])) X53 hx rfl rfl rfl (pc0 := 115) (pc' := 118) (same := true) rfl (hb hby at_115) rfl (decide_eq_true rfl) (by decide) (by decide) k) ?_
      show Go _ _ _ _ _ T53 (mkF m 118 #[.val (.int p1), .val (.int (0 : Int32)), .val (.int (1 : Int32)), .val (.ref w_FALSE), .val (.ref w_TRUE), .val (.int (1 : Int32)), .val (.int (1 : Int32)), .val (.int (1 : Int32)), .unset, .unset] [])
      refine own_go (fun t k => XS.iconst X53.here hx rfl (hb hby at_118) k) ?_
      show Go _ _ _ _ _ T53 (mkF m 119 #[.val (.int p1), .val (.int (0 : Int32)), .val (.int (1 : Int32)), .val (.ref w_FALSE), .val (.ref w_TRUE), .val (.int (1 : Int32)), .val (.int (1 : Int32)), .val (.int (1 : Int32)), .unset, .unset] [(.int (1 : Int32))])
      refine own_go (fun t k => XS.goto X53.here hx rfl (pc0 := 119) (pc' := 123) rfl (hb hby at_119) (by decide) (by decide) k) ?_
      show Go _ _ _ _ _ T53 (mkF m 123 #[.val (.int p1), .val (.int (0 : Int32)), .val (.int (1 : Int32)), .val (.ref w_FALSE), .val (.ref w_TRUE), .val (.int (1 : Int32)), .val (.int (1 : Int32)), .val (.int (1 : Int32)), .unset, .unset] [(.int (1 : Int32))])
      refine own_go (fun t k => XS.istore X53.here hx rfl (hb hby at_123) rfl (l' := #[.val (.int p1), .val (.int (0 : Int32)), .val (.int (1 : Int32)), .val (.ref w_FALSE), .val (.ref w_TRUE), .val (.int (1 : Int32)), .val (.int (1 : Int32)), .val (.int (1 : Int32)), .val (.int (1 : Int32)), .unset]) rfl k) ?_
      show Go _ _ _ _ _ T53 (mkF m 125 #[.val (.int p1), .val (.int (0 : Int32)), .val (.int (1 : Int32)), .val (.ref w_FALSE), .val (.ref w_TRUE), .val (.int (1 : Int32)), .val (.int (1 : Int32)), .val (.int (1 : Int32)), .val (.int (1 : Int32)), .unset] [])
      refine own_go (fun t k => XS.aloadN X53.here hx rfl (hb hby at_125) rfl rfl k) ?_
      show Go _ _ _ _ _ T53 (mkF m 126 #[.val (.int p1), .val (.int (0 : Int32)), .val (.int (1 : Int32)), .val (.ref w_FALSE), .val (.ref w_TRUE), .val (.int (1 : Int32)), .val (.int (1 : Int32)), .val (.int (1 : Int32)), .val (.int (1 : Int32)), .unset] [(.ref w_FALSE)])
      refine own_go (fun t k => XS.aload X53.here hx rfl (hb hby at_126) rfl rfl k) ?_
      show Go _ _ _ _ _ T53 (mkF m 128 #[.val (.int p1), .val (.int (0 : Int32)), .val (.int (1 : Int32)), .val (.ref w_FALSE), .val (.ref w_TRUE), .val (.int (1 : Int32)), .val (.int (1 : Int32)), .val (.int (1 : Int32)), .val (.int (1 : Int32)), .unset] [(.ref w_TRUE), (.ref w_FALSE)])
      refine own_callV X53 hx hZ (y := (⟨"com/example/ground0/ground0/refutation/Satisfaction$Truth", "or", "(Lcom/example/ground0/ground0/refutation/Satisfaction$Truth;)Lcom/example/ground0/ground0/refutation/Satisfaction$Truth;"⟩ : MethodName)) hown (hw _ (List.mem_of_getElem? (i := 56) rfl)) (hw _ (List.mem_of_getElem? (i := 57) rfl)) (hw _ (List.mem_of_getElem? (i := 59) rfl)) (hw _ (List.mem_of_getElem? (i := 58) rfl)) (hw _ (List.mem_of_getElem? (i := 60) rfl)) (hw _ (List.mem_of_getElem? (i := 2) rfl)) (by decide) (rm_or l Z a0 hw [] w_FALSE w_TRUE (0 : Int32) (2 : Int32) mir (.ref w_TRUE) T50.heap n0 hn50 Mir E_FALSE O_FALSE_ordinal E_TRUE O_TRUE_ordinal (by rw [own_f_rm_or, if_pos (show ((0 : Int32) - (2 : Int32)) < (0 : Int32) by decide)]; try first | rfl | decide)) e53 E_FALSE (by rw [hml]; rfl) (argsL := [(.ref w_TRUE)]) (rest := []) rfl rfl (lenOf own_pd5 rfl) (W := 0) (Nat.le_of_eq rfl) (by decide) (by decide) (hb hby at_128) (by decide) (by decide) ?_
      intro v54 T54 L54 X54 q54
      obtain ⟨rfl, N54q, e54⟩ := q54
      have N54 := Fr.app N53 N54q
      show Go _ _ _ _ _ T54 (mkF m 131 #[.val (.int p1), .val (.int (0 : Int32)), .val (.int (1 : Int32)), .val (.ref w_FALSE), .val (.ref w_TRUE), .val (.int (1 : Int32)), .val (.int (1 : Int32)), .val (.int (1 : Int32)), .val (.int (1 : Int32)), .unset] [(.ref w_TRUE)])
      refine own_go (fun t k => XS.iloadN X54.here hx rfl (hb hby at_131) rfl k) ?_
      show Go _ _ _ _ _ T54 (mkF m 132 #[.val (.int p1), .val (.int (0 : Int32)), .val (.int (1 : Int32)), .val (.ref w_FALSE), .val (.ref w_TRUE), .val (.int (1 : Int32)), .val (.int (1 : Int32)), .val (.int (1 : Int32)), .val (.int (1 : Int32)), .unset] [(.int (0 : Int32)), (.ref w_TRUE)])
      refine own_go (fun t k => XS.ifNo X54.here hx rfl (hb hby at_132) rfl (by decide) k) ?_
      show Go _ _ _ _ _ T54 (mkF m 135 #[.val (.int p1), .val (.int (0 : Int32)), .val (.int (1 : Int32)), .val (.ref w_FALSE), .val (.ref w_TRUE), .val (.int (1 : Int32)), .val (.int (1 : Int32)), .val (.int (1 : Int32)), .val (.int (1 : Int32)), .unset] [(.ref w_TRUE)])
      refine own_go (fun t k => XS.iloadN X54.here hx rfl (hb hby at_135) rfl k) ?_
      show Go _ _ _ _ _ T54 (mkF m 136 #[.val (.int p1), .val (.int (0 : Int32)), .val (.int (1 : Int32)), .val (.ref w_FALSE), .val (.ref w_TRUE), .val (.int (1 : Int32)), .val (.int (1 : Int32)), .val (.int (1 : Int32)), .val (.int (1 : Int32)), .unset] [(.int (1 : Int32)), (.ref w_TRUE)])
      refine own_go (fun t k => XS.ifNo X54.here hx rfl (hb hby at_136) rfl (by decide) k) ?_
      show Go _ _ _ _ _ T54 (mkF m 139 #[.val (.int p1), .val (.int (0 : Int32)), .val (.int (1 : Int32)), .val (.ref w_FALSE), .val (.ref w_TRUE), .val (.int (1 : Int32)), .val (.int (1 : Int32)), .val (.int (1 : Int32)), .val (.int (1 : Int32)), .unset] [(.ref w_TRUE)])
      refine own_go (fun t k => XS.iconst X54.here hx rfl (hb hby at_139) k) ?_
      show Go _ _ _ _ _ T54 (mkF m 140 #[.val (.int p1), .val (.int (0 : Int32)), .val (.int (1 : Int32)), .val (.ref w_FALSE), .val (.ref w_TRUE), .val (.int (1 : Int32)), .val (.int (1 : Int32)), .val (.int (1 : Int32)), .val (.int (1 : Int32)), .unset] [(.int (1 : Int32)), (.ref w_TRUE)])
      refine own_go (fun t k => XS.goto X54.here hx rfl (pc0 := 140) (pc' := 144) rfl (hb hby at_140) (by decide) (by decide) k) ?_
      show Go _ _ _ _ _ T54 (mkF m 144 #[.val (.int p1), .val (.int (0 : Int32)), .val (.int (1 : Int32)), .val (.ref w_FALSE), .val (.ref w_TRUE), .val (.int (1 : Int32)), .val (.int (1 : Int32)), .val (.int (1 : Int32)), .val (.int (1 : Int32)), .unset] [(.int (1 : Int32)), (.ref w_TRUE)])
      refine own_callS X54 hx hZ (y := (⟨"com/example/ground0/ground0/refutation/Satisfaction$Truth", "of", "(Z)Lcom/example/ground0/ground0/refutation/Satisfaction$Truth;"⟩ : MethodName)) hown (hw _ (List.mem_of_getElem? (i := 0) rfl)) (hw _ (List.mem_of_getElem? (i := 1) rfl)) (hw _ (List.mem_of_getElem? (i := 2) rfl)) (hw _ (List.mem_of_getElem? (i := 3) rfl)) (by decide) (rm1 l Z a0 hw [] (1 : Int32) w_FALSE w_UNKNOWN w_TRUE (.ref w_TRUE) T50.heap n0 hn50 S_FALSE S_UNKNOWN S_TRUE (by rw [own_f_rm1, if_neg (show ¬ ((1 : Int32) = (0 : Int32)) by decide)]; try first | rfl | decide)) e54 (by rw [hml]; rfl) (argsL := [(.int (1 : Int32))]) (rest := [(.ref w_TRUE)]) rfl rfl (lenOf own_pd3 rfl) (W := 1) (Nat.le_of_eq rfl) (by decide) (by decide) (hb hby at_144) (by decide) (by decide) ?_
      intro v55 T55 L55 X55 q55
      obtain ⟨rfl, N55q, e55⟩ := q55
      have N55 := Fr.app N54 N55q
      show Go _ _ _ _ _ T55 (mkF m 147 #[.val (.int p1), .val (.int (0 : Int32)), .val (.int (1 : Int32)), .val (.ref w_FALSE), .val (.ref w_TRUE), .val (.int (1 : Int32)), .val (.int (1 : Int32)), .val (.int (1 : Int32)), .val (.int (1 : Int32)), .unset] [(.ref w_TRUE), (.ref w_TRUE)])
      refine own_go (fun t k => Jvm.RoadKit.acmp (g := (mkF m 147 #[.val (.int p1), .val (.int (0 : Int32)), .val (.int (1 : Int32)), .val (.ref w_FALSE), .val (.ref w_TRUE), .val (.int (1 : Int32)), .val (.int (1 : Int32)), .val (.int (1 : Int32)), .val (.int (1 : Int32)), .unset] [(.ref w_TRUE), (.ref w_TRUE)])) X55 hx rfl rfl rfl (pc0 := 147) (pc' := 150) (same := true) rfl (hb hby at_147) rfl (decide_eq_true rfl) (by decide) (by decide) k) ?_
      show Go _ _ _ _ _ T55 (mkF m 150 #[.val (.int p1), .val (.int (0 : Int32)), .val (.int (1 : Int32)), .val (.ref w_FALSE), .val (.ref w_TRUE), .val (.int (1 : Int32)), .val (.int (1 : Int32)), .val (.int (1 : Int32)), .val (.int (1 : Int32)), .unset] [])
      refine own_go (fun t k => XS.iconst X55.here hx rfl (hb hby at_150) k) ?_
      show Go _ _ _ _ _ T55 (mkF m 151 #[.val (.int p1), .val (.int (0 : Int32)), .val (.int (1 : Int32)), .val (.ref w_FALSE), .val (.ref w_TRUE), .val (.int (1 : Int32)), .val (.int (1 : Int32)), .val (.int (1 : Int32)), .val (.int (1 : Int32)), .unset] [(.int (1 : Int32))])
      refine own_go (fun t k => XS.goto X55.here hx rfl (pc0 := 151) (pc' := 155) rfl (hb hby at_151) (by decide) (by decide) k) ?_
      show Go _ _ _ _ _ T55 (mkF m 155 #[.val (.int p1), .val (.int (0 : Int32)), .val (.int (1 : Int32)), .val (.ref w_FALSE), .val (.ref w_TRUE), .val (.int (1 : Int32)), .val (.int (1 : Int32)), .val (.int (1 : Int32)), .val (.int (1 : Int32)), .unset] [(.int (1 : Int32))])
      refine own_go (fun t k => XS.istore X55.here hx rfl (hb hby at_155) rfl (l' := #[.val (.int p1), .val (.int (0 : Int32)), .val (.int (1 : Int32)), .val (.ref w_FALSE), .val (.ref w_TRUE), .val (.int (1 : Int32)), .val (.int (1 : Int32)), .val (.int (1 : Int32)), .val (.int (1 : Int32)), .val (.int (1 : Int32))]) rfl k) ?_
      show Go _ _ _ _ _ T55 (mkF m 157 #[.val (.int p1), .val (.int (0 : Int32)), .val (.int (1 : Int32)), .val (.ref w_FALSE), .val (.ref w_TRUE), .val (.int (1 : Int32)), .val (.int (1 : Int32)), .val (.int (1 : Int32)), .val (.int (1 : Int32)), .val (.int (1 : Int32))] [])
      refine own_go (fun t k => XS.iload X55.here hx rfl (hb hby at_157) rfl k) ?_
      show Go _ _ _ _ _ T55 (mkF m 159 #[.val (.int p1), .val (.int (0 : Int32)), .val (.int (1 : Int32)), .val (.ref w_FALSE), .val (.ref w_TRUE), .val (.int (1 : Int32)), .val (.int (1 : Int32)), .val (.int (1 : Int32)), .val (.int (1 : Int32)), .val (.int (1 : Int32))] [(.int (1 : Int32))])
      refine own_go (fun t k => XS.ifNo X55.here hx rfl (hb hby at_159) rfl (by decide) k) ?_
      show Go _ _ _ _ _ T55 (mkF m 162 #[.val (.int p1), .val (.int (0 : Int32)), .val (.int (1 : Int32)), .val (.ref w_FALSE), .val (.ref w_TRUE), .val (.int (1 : Int32)), .val (.int (1 : Int32)), .val (.int (1 : Int32)), .val (.int (1 : Int32)), .val (.int (1 : Int32))] [])
      refine own_go (fun t k => XS.iload X55.here hx rfl (hb hby at_162) rfl k) ?_
      show Go _ _ _ _ _ T55 (mkF m 164 #[.val (.int p1), .val (.int (0 : Int32)), .val (.int (1 : Int32)), .val (.ref w_FALSE), .val (.ref w_TRUE), .val (.int (1 : Int32)), .val (.int (1 : Int32)), .val (.int (1 : Int32)), .val (.int (1 : Int32)), .val (.int (1 : Int32))] [(.int (1 : Int32))])
      refine own_go (fun t k => XS.ifNo X55.here hx rfl (hb hby at_164) rfl (by decide) k) ?_
      show Go _ _ _ _ _ T55 (mkF m 167 #[.val (.int p1), .val (.int (0 : Int32)), .val (.int (1 : Int32)), .val (.ref w_FALSE), .val (.ref w_TRUE), .val (.int (1 : Int32)), .val (.int (1 : Int32)), .val (.int (1 : Int32)), .val (.int (1 : Int32)), .val (.int (1 : Int32))] [])
      refine own_go (fun t k => XS.iload X55.here hx rfl (hb hby at_167) rfl k) ?_
      show Go _ _ _ _ _ T55 (mkF m 169 #[.val (.int p1), .val (.int (0 : Int32)), .val (.int (1 : Int32)), .val (.ref w_FALSE), .val (.ref w_TRUE), .val (.int (1 : Int32)), .val (.int (1 : Int32)), .val (.int (1 : Int32)), .val (.int (1 : Int32)), .val (.int (1 : Int32))] [(.int (1 : Int32))])
      refine own_go (fun t k => XS.ifNo X55.here hx rfl (hb hby at_169) rfl (by decide) k) ?_
      show Go _ _ _ _ _ T55 (mkF m 172 #[.val (.int p1), .val (.int (0 : Int32)), .val (.int (1 : Int32)), .val (.ref w_FALSE), .val (.ref w_TRUE), .val (.int (1 : Int32)), .val (.int (1 : Int32)), .val (.int (1 : Int32)), .val (.int (1 : Int32)), .val (.int (1 : Int32))] [])
      refine own_go (fun t k => XS.iload X55.here hx rfl (hb hby at_172) rfl k) ?_
      show Go _ _ _ _ _ T55 (mkF m 174 #[.val (.int p1), .val (.int (0 : Int32)), .val (.int (1 : Int32)), .val (.ref w_FALSE), .val (.ref w_TRUE), .val (.int (1 : Int32)), .val (.int (1 : Int32)), .val (.int (1 : Int32)), .val (.int (1 : Int32)), .val (.int (1 : Int32))] [(.int (1 : Int32))])
      refine own_go (fun t k => XS.ifNo X55.here hx rfl (hb hby at_174) rfl (by decide) k) ?_
      show Go _ _ _ _ _ T55 (mkF m 177 #[.val (.int p1), .val (.int (0 : Int32)), .val (.int (1 : Int32)), .val (.ref w_FALSE), .val (.ref w_TRUE), .val (.int (1 : Int32)), .val (.int (1 : Int32)), .val (.int (1 : Int32)), .val (.int (1 : Int32)), .val (.int (1 : Int32))] [])
      refine own_go (fun t k => XS.iload X55.here hx rfl (hb hby at_177) rfl k) ?_
      show Go _ _ _ _ _ T55 (mkF m 179 #[.val (.int p1), .val (.int (0 : Int32)), .val (.int (1 : Int32)), .val (.ref w_FALSE), .val (.ref w_TRUE), .val (.int (1 : Int32)), .val (.int (1 : Int32)), .val (.int (1 : Int32)), .val (.int (1 : Int32)), .val (.int (1 : Int32))] [(.int (1 : Int32))])
      refine own_go (fun t k => XS.ifNo X55.here hx rfl (hb hby at_179) rfl (by decide) k) ?_
      show Go _ _ _ _ _ T55 (mkF m 182 #[.val (.int p1), .val (.int (0 : Int32)), .val (.int (1 : Int32)), .val (.ref w_FALSE), .val (.ref w_TRUE), .val (.int (1 : Int32)), .val (.int (1 : Int32)), .val (.int (1 : Int32)), .val (.int (1 : Int32)), .val (.int (1 : Int32))] [])
      refine own_go (fun t k => XS.iconst X55.here hx rfl (hb hby at_182) k) ?_
      show Go _ _ _ _ _ T55 (mkF m 183 #[.val (.int p1), .val (.int (0 : Int32)), .val (.int (1 : Int32)), .val (.ref w_FALSE), .val (.ref w_TRUE), .val (.int (1 : Int32)), .val (.int (1 : Int32)), .val (.int (1 : Int32)), .val (.int (1 : Int32)), .val (.int (1 : Int32))] [(.int (1 : Int32))])
      refine own_go (fun t k => XS.goto X55.here hx rfl (pc0 := 183) (pc' := 187) rfl (hb hby at_183) (by decide) (by decide) k) ?_
      show Go _ _ _ _ _ T55 (mkF m 187 #[.val (.int p1), .val (.int (0 : Int32)), .val (.int (1 : Int32)), .val (.ref w_FALSE), .val (.ref w_TRUE), .val (.int (1 : Int32)), .val (.int (1 : Int32)), .val (.int (1 : Int32)), .val (.int (1 : Int32)), .val (.int (1 : Int32))] [(.int (1 : Int32))])
      refine own_retN X55 hx (own_lvN X55 hlk (by decide) (by decide)) (t := .boolean) hret (by simp) (hb hby at_187) ?_
      exact ⟨rfl, N55⟩
  · skip
    show Go _ _ _ _ _ s₁ (mkF m 3 #[.val (.int p1), .unset, .unset, .unset, .unset, .unset, .unset, .unset, .unset, .unset] [(.int (1 : Int32))])
    refine own_go (fun t k => XS.ifNo X0.here hx rfl (hb hby at_3) rfl (by decide) k) ?_
    show Go _ _ _ _ _ s₁ (mkF m 6 #[.val (.int p1), .unset, .unset, .unset, .unset, .unset, .unset, .unset, .unset, .unset] [])
    refine own_go (fun t k => XS.iconst X0.here hx rfl (hb hby at_6) k) ?_
    show Go _ _ _ _ _ s₁ (mkF m 7 #[.val (.int p1), .unset, .unset, .unset, .unset, .unset, .unset, .unset, .unset, .unset] [(.int (1 : Int32))])
    refine own_go (fun t k => XS.goto X0.here hx rfl (pc0 := 7) (pc' := 11) rfl (hb hby at_7) (by decide) (by decide) k) ?_
    show Go _ _ _ _ _ s₁ (mkF m 11 #[.val (.int p1), .unset, .unset, .unset, .unset, .unset, .unset, .unset, .unset, .unset] [(.int (1 : Int32))])
    refine own_go (fun t k => XS.istoreN X0.here hx rfl (hb hby at_11) rfl (l' := #[.val (.int p1), .val (.int (1 : Int32)), .unset, .unset, .unset, .unset, .unset, .unset, .unset, .unset]) rfl k) ?_
    show Go _ _ _ _ _ s₁ (mkF m 12 #[.val (.int p1), .val (.int (1 : Int32)), .unset, .unset, .unset, .unset, .unset, .unset, .unset, .unset] [])
    refine own_go (fun t k => XS.iloadN X0.here hx rfl (hb hby at_12) rfl k) ?_
    show Go _ _ _ _ _ s₁ (mkF m 13 #[.val (.int p1), .val (.int (1 : Int32)), .unset, .unset, .unset, .unset, .unset, .unset, .unset, .unset] [(.int p1)])
    refine own_go (fun t k => XS.iconst X0.here hx rfl (hb hby at_13) k) ?_
    show Go _ _ _ _ _ s₁ (mkF m 14 #[.val (.int p1), .val (.int (1 : Int32)), .unset, .unset, .unset, .unset, .unset, .unset, .unset, .unset] [(.int (2 : Int32)), (.int p1)])
    refine own_go (fun t k => XS.iand X0.here hx rfl (hb hby at_14) rfl k) ?_
    have hi := own_and2 p1
    generalize (p1 &&& (2 : Int32)) = i at hi ⊢
    rcases hi with rfl | rfl
    · skip
      show Go _ _ _ _ _ s₁ (mkF m 15 #[.val (.int p1), .val (.int (1 : Int32)), .unset, .unset, .unset, .unset, .unset, .unset, .unset, .unset] [(.int (0 : Int32))])
      refine own_go (fun t k => XS.ifYes X0.here hx rfl (pc0 := 15) (pc' := 22) rfl (hb hby at_15) rfl (by decide) (by decide) (by decide) k) ?_
      show Go _ _ _ _ _ s₁ (mkF m 22 #[.val (.int p1), .val (.int (1 : Int32)), .unset, .unset, .unset, .unset, .unset, .unset, .unset, .unset] [])
      refine own_go (fun t k => XS.iconst X0.here hx rfl (hb hby at_22) k) ?_
      show Go _ _ _ _ _ s₁ (mkF m 23 #[.val (.int p1), .val (.int (1 : Int32)), .unset, .unset, .unset, .unset, .unset, .unset, .unset, .unset] [(.int (0 : Int32))])
      refine own_go (fun t k => XS.istoreN X0.here hx rfl (hb hby at_23) rfl (l' := #[.val (.int p1), .val (.int (1 : Int32)), .val (.int (0 : Int32)), .unset, .unset, .unset, .unset, .unset, .unset, .unset]) rfl k) ?_
      show Go _ _ _ _ _ s₁ (mkF m 24 #[.val (.int p1), .val (.int (1 : Int32)), .val (.int (0 : Int32)), .unset, .unset, .unset, .unset, .unset, .unset, .unset] [])
      refine own_go (fun t k => XS.iloadN X0.here hx rfl (hb hby at_24) rfl k) ?_
      show Go _ _ _ _ _ s₁ (mkF m 25 #[.val (.int p1), .val (.int (1 : Int32)), .val (.int (0 : Int32)), .unset, .unset, .unset, .unset, .unset, .unset, .unset] [(.int (1 : Int32))])
      refine own_callS X0 hx hZ (y := (⟨"com/example/ground0/ground0/refutation/Satisfaction$Truth", "of", "(Z)Lcom/example/ground0/ground0/refutation/Satisfaction$Truth;"⟩ : MethodName)) hown (hw _ (List.mem_of_getElem? (i := 0) rfl)) (hw _ (List.mem_of_getElem? (i := 1) rfl)) (hw _ (List.mem_of_getElem? (i := 2) rfl)) (hw _ (List.mem_of_getElem? (i := 3) rfl)) (by decide) (rm1 l Z a0 hw [] (1 : Int32) w_FALSE w_UNKNOWN w_TRUE (.ref w_TRUE) h0 n0 hn0 S_FALSE S_UNKNOWN S_TRUE (by rw [own_f_rm1, if_neg (show ¬ ((1 : Int32) = (0 : Int32)) by decide)]; try first | rfl | decide)) e0 (by rw [hml]; rfl) (argsL := [(.int (1 : Int32))]) (rest := []) rfl rfl (lenOf own_pd3 rfl) (W := 0) (Nat.le_of_eq rfl) (by decide) (by decide) (hb hby at_25) (by decide) (by decide) ?_
      intro v56 T56 L56 X56 q56
      obtain ⟨rfl, N56q, e56⟩ := q56
      have N56 := Fr.app N0 N56q
      show Go _ _ _ _ _ T56 (mkF m 28 #[.val (.int p1), .val (.int (1 : Int32)), .val (.int (0 : Int32)), .unset, .unset, .unset, .unset, .unset, .unset, .unset] [(.ref w_TRUE)])
      refine own_go (fun t k => XS.astoreN X56.here hx rfl (hb hby at_28) rfl rfl (l' := #[.val (.int p1), .val (.int (1 : Int32)), .val (.int (0 : Int32)), .val (.ref w_TRUE), .unset, .unset, .unset, .unset, .unset, .unset]) rfl k) ?_
      show Go _ _ _ _ _ T56 (mkF m 29 #[.val (.int p1), .val (.int (1 : Int32)), .val (.int (0 : Int32)), .val (.ref w_TRUE), .unset, .unset, .unset, .unset, .unset, .unset] [])
      refine own_go (fun t k => XS.iloadN X56.here hx rfl (hb hby at_29) rfl k) ?_
      show Go _ _ _ _ _ T56 (mkF m 30 #[.val (.int p1), .val (.int (1 : Int32)), .val (.int (0 : Int32)), .val (.ref w_TRUE), .unset, .unset, .unset, .unset, .unset, .unset] [(.int (0 : Int32))])
      refine own_callS X56 hx hZ (y := (⟨"com/example/ground0/ground0/refutation/Satisfaction$Truth", "of", "(Z)Lcom/example/ground0/ground0/refutation/Satisfaction$Truth;"⟩ : MethodName)) hown (hw _ (List.mem_of_getElem? (i := 0) rfl)) (hw _ (List.mem_of_getElem? (i := 1) rfl)) (hw _ (List.mem_of_getElem? (i := 2) rfl)) (hw _ (List.mem_of_getElem? (i := 3) rfl)) (by decide) (rm1 l Z a0 hw [] (0 : Int32) w_FALSE w_UNKNOWN w_TRUE (.ref w_FALSE) h0 n0 hn0 S_FALSE S_UNKNOWN S_TRUE (by rw [own_f_rm1, if_pos (show (0 : Int32) = (0 : Int32) from rfl)]; try first | rfl | decide)) e56 (by rw [hml]; rfl) (argsL := [(.int (0 : Int32))]) (rest := []) rfl rfl (lenOf own_pd3 rfl) (W := 0) (Nat.le_of_eq rfl) (by decide) (by decide) (hb hby at_30) (by decide) (by decide) ?_
      intro v57 T57 L57 X57 q57
      obtain ⟨rfl, N57q, e57⟩ := q57
      have N57 := Fr.app N56 N57q
      show Go _ _ _ _ _ T57 (mkF m 33 #[.val (.int p1), .val (.int (1 : Int32)), .val (.int (0 : Int32)), .val (.ref w_TRUE), .unset, .unset, .unset, .unset, .unset, .unset] [(.ref w_FALSE)])
      refine own_go (fun t k => XS.astore X57.here hx rfl (hb hby at_33) rfl rfl (l' := #[.val (.int p1), .val (.int (1 : Int32)), .val (.int (0 : Int32)), .val (.ref w_TRUE), .val (.ref w_FALSE), .unset, .unset, .unset, .unset, .unset]) rfl k) ?_
      show Go _ _ _ _ _ T57 (mkF m 35 #[.val (.int p1), .val (.int (1 : Int32)), .val (.int (0 : Int32)), .val (.ref w_TRUE), .val (.ref w_FALSE), .unset, .unset, .unset, .unset, .unset] [])
      refine own_go (fun t k => XS.aloadN X57.here hx rfl (hb hby at_35) rfl rfl k) ?_
      show Go _ _ _ _ _ T57 (mkF m 36 #[.val (.int p1), .val (.int (1 : Int32)), .val (.int (0 : Int32)), .val (.ref w_TRUE), .val (.ref w_FALSE), .unset, .unset, .unset, .unset, .unset] [(.ref w_TRUE)])
      obtain ⟨T58, X58, e58, st58⟩ := getS2 X57 hx hZ hown (host := "") (Or.inl (hw _ (List.mem_of_getElem? (i := 6) rfl))) Via.refl e57 S_UNKNOWN (g := (mkF m 36 #[.val (.int p1), .val (.int (1 : Int32)), .val (.int (0 : Int32)), .val (.ref w_TRUE), .val (.ref w_FALSE), .unset, .unset, .unset, .unset, .unset] [(.ref w_TRUE)])) rfl (hb hby at_36)
      refine own_go (fun t k => st58 t k) ?_
      show Go _ _ _ _ _ T58 (mkF m 39 #[.val (.int p1), .val (.int (1 : Int32)), .val (.int (0 : Int32)), .val (.ref w_TRUE), .val (.ref w_FALSE), .unset, .unset, .unset, .unset, .unset] [(.ref w_UNKNOWN), (.ref w_TRUE)])
      refine own_go (fun t k => Jvm.RoadKit.acmp (g := (mkF m 39 #[.val (.int p1), .val (.int (1 : Int32)), .val (.int (0 : Int32)), .val (.ref w_TRUE), .val (.ref w_FALSE), .unset, .unset, .unset, .unset, .unset] [(.ref w_UNKNOWN), (.ref w_TRUE)])) X58 hx rfl rfl rfl (pc0 := 39) (pc' := 42) (same := false) rfl (hb hby at_39) rfl (decide_eq_false fun q => D_w_UNKNOWN_w_TRUE (Value.ref.inj q).symm) (by decide) (by decide) k) ?_
      show Go _ _ _ _ _ T58 (mkF m 42 #[.val (.int p1), .val (.int (1 : Int32)), .val (.int (0 : Int32)), .val (.ref w_TRUE), .val (.ref w_FALSE), .unset, .unset, .unset, .unset, .unset] [])
      refine own_go (fun t k => XS.iconst X58.here hx rfl (hb hby at_42) k) ?_
      show Go _ _ _ _ _ T58 (mkF m 43 #[.val (.int p1), .val (.int (1 : Int32)), .val (.int (0 : Int32)), .val (.ref w_TRUE), .val (.ref w_FALSE), .unset, .unset, .unset, .unset, .unset] [(.int (1 : Int32))])
      refine own_go (fun t k => XS.goto X58.here hx rfl (pc0 := 43) (pc' := 47) rfl (hb hby at_43) (by decide) (by decide) k) ?_
      show Go _ _ _ _ _ T58 (mkF m 47 #[.val (.int p1), .val (.int (1 : Int32)), .val (.int (0 : Int32)), .val (.ref w_TRUE), .val (.ref w_FALSE), .unset, .unset, .unset, .unset, .unset] [(.int (1 : Int32))])
      refine own_go (fun t k => XS.istore X58.here hx rfl (hb hby at_47) rfl (l' := #[.val (.int p1), .val (.int (1 : Int32)), .val (.int (0 : Int32)), .val (.ref w_TRUE), .val (.ref w_FALSE), .val (.int (1 : Int32)), .unset, .unset, .unset, .unset]) rfl k) ?_
      show Go _ _ _ _ _ T58 (mkF m 49 #[.val (.int p1), .val (.int (1 : Int32)), .val (.int (0 : Int32)), .val (.ref w_TRUE), .val (.ref w_FALSE), .val (.int (1 : Int32)), .unset, .unset, .unset, .unset] [])
      refine own_go (fun t k => XS.iconst X58.here hx rfl (hb hby at_49) k) ?_
      show Go _ _ _ _ _ T58 (mkF m 50 #[.val (.int p1), .val (.int (1 : Int32)), .val (.int (0 : Int32)), .val (.ref w_TRUE), .val (.ref w_FALSE), .val (.int (1 : Int32)), .unset, .unset, .unset, .unset] [(.int (1 : Int32))])
      refine own_callS X58 hx hZ (y := (⟨"com/example/ground0/ground0/refutation/Satisfaction$Truth", "of", "(Z)Lcom/example/ground0/ground0/refutation/Satisfaction$Truth;"⟩ : MethodName)) hown (hw _ (List.mem_of_getElem? (i := 0) rfl)) (hw _ (List.mem_of_getElem? (i := 1) rfl)) (hw _ (List.mem_of_getElem? (i := 2) rfl)) (hw _ (List.mem_of_getElem? (i := 3) rfl)) (by decide) (rm1 l Z a0 hw [] (1 : Int32) w_FALSE w_UNKNOWN w_TRUE (.ref w_TRUE) h0 n0 hn0 S_FALSE S_UNKNOWN S_TRUE (by rw [own_f_rm1, if_neg (show ¬ ((1 : Int32) = (0 : Int32)) by decide)]; try first | rfl | decide)) e58 (by rw [hml]; rfl) (argsL := [(.int (1 : Int32))]) (rest := []) rfl rfl (lenOf own_pd3 rfl) (W := 0) (Nat.le_of_eq rfl) (by decide) (by decide) (hb hby at_50) (by decide) (by decide) ?_
      intro v59 T59 L59 X59 q59
      obtain ⟨rfl, N59q, e59⟩ := q59
      have N59 := Fr.app N57 N59q
      show Go _ _ _ _ _ T59 (mkF m 53 #[.val (.int p1), .val (.int (1 : Int32)), .val (.int (0 : Int32)), .val (.ref w_TRUE), .val (.ref w_FALSE), .val (.int (1 : Int32)), .unset, .unset, .unset, .unset] [(.ref w_TRUE)])
      refine own_go (fun t k => XS.iconst X59.here hx rfl (hb hby at_53) k) ?_
      show Go _ _ _ _ _ T59 (mkF m 54 #[.val (.int p1), .val (.int (1 : Int32)), .val (.int (0 : Int32)), .val (.ref w_TRUE), .val (.ref w_FALSE), .val (.int (1 : Int32)), .unset, .unset, .unset, .unset] [(.int (0 : Int32)), (.ref w_TRUE)])
      refine own_callS X59 hx hZ (y := (⟨"com/example/ground0/ground0/refutation/Satisfaction$Truth", "of", "(Z)Lcom/example/ground0/ground0/refutation/Satisfaction$Truth;"⟩ : MethodName)) hown (hw _ (List.mem_of_getElem? (i := 0) rfl)) (hw _ (List.mem_of_getElem? (i := 1) rfl)) (hw _ (List.mem_of_getElem? (i := 2) rfl)) (hw _ (List.mem_of_getElem? (i := 3) rfl)) (by decide) (rm1 l Z a0 hw [] (0 : Int32) w_FALSE w_UNKNOWN w_TRUE (.ref w_FALSE) h0 n0 hn0 S_FALSE S_UNKNOWN S_TRUE (by rw [own_f_rm1, if_pos (show (0 : Int32) = (0 : Int32) from rfl)]; try first | rfl | decide)) e59 (by rw [hml]; rfl) (argsL := [(.int (0 : Int32))]) (rest := [(.ref w_TRUE)]) rfl rfl (lenOf own_pd3 rfl) (W := 1) (Nat.le_of_eq rfl) (by decide) (by decide) (hb hby at_54) (by decide) (by decide) ?_
      intro v60 T60 L60 X60 q60
      obtain ⟨rfl, N60q, e60⟩ := q60
      have N60 := Fr.app N59 N60q
      show Go _ _ _ _ _ T60 (mkF m 57 #[.val (.int p1), .val (.int (1 : Int32)), .val (.int (0 : Int32)), .val (.ref w_TRUE), .val (.ref w_FALSE), .val (.int (1 : Int32)), .unset, .unset, .unset, .unset] [(.ref w_FALSE), (.ref w_TRUE)])
      refine own_go (fun t k => Jvm.RoadKit.acmp (g := (mkF m 57 #[.val (.int p1), .val (.int (1 : Int32)), .val (.int (0 : Int32)), .val (.ref w_TRUE), .val (.ref w_FALSE), .val (.int (1 : Int32)), .unset, .unset, .unset, .unset] [(.ref w_FALSE), (.ref w_TRUE)])) X60 hx rfl rfl rfl (pc0 := 57) (pc' := 60) (same := false) rfl (hb hby at_57) rfl (decide_eq_false fun q => D_w_FALSE_w_TRUE (Value.ref.inj q).symm) (by decide) (by decide) k) ?_
      show Go _ _ _ _ _ T60 (mkF m 60 #[.val (.int p1), .val (.int (1 : Int32)), .val (.int (0 : Int32)), .val (.ref w_TRUE), .val (.ref w_FALSE), .val (.int (1 : Int32)), .unset, .unset, .unset, .unset] [])
      refine own_go (fun t k => XS.iconst X60.here hx rfl (hb hby at_60) k) ?_
      show Go _ _ _ _ _ T60 (mkF m 61 #[.val (.int p1), .val (.int (1 : Int32)), .val (.int (0 : Int32)), .val (.ref w_TRUE), .val (.ref w_FALSE), .val (.int (1 : Int32)), .unset, .unset, .unset, .unset] [(.int (1 : Int32))])
      refine own_go (fun t k => XS.goto X60.here hx rfl (pc0 := 61) (pc' := 65) rfl (hb hby at_61) (by decide) (by decide) k) ?_
      show Go _ _ _ _ _ T60 (mkF m 65 #[.val (.int p1), .val (.int (1 : Int32)), .val (.int (0 : Int32)), .val (.ref w_TRUE), .val (.ref w_FALSE), .val (.int (1 : Int32)), .unset, .unset, .unset, .unset] [(.int (1 : Int32))])
      refine own_go (fun t k => XS.istore X60.here hx rfl (hb hby at_65) rfl (l' := #[.val (.int p1), .val (.int (1 : Int32)), .val (.int (0 : Int32)), .val (.ref w_TRUE), .val (.ref w_FALSE), .val (.int (1 : Int32)), .val (.int (1 : Int32)), .unset, .unset, .unset]) rfl k) ?_
      show Go _ _ _ _ _ T60 (mkF m 67 #[.val (.int p1), .val (.int (1 : Int32)), .val (.int (0 : Int32)), .val (.ref w_TRUE), .val (.ref w_FALSE), .val (.int (1 : Int32)), .val (.int (1 : Int32)), .unset, .unset, .unset] [])
      refine own_go (fun t k => XS.aloadN X60.here hx rfl (hb hby at_67) rfl rfl k) ?_
      show Go _ _ _ _ _ T60 (mkF m 68 #[.val (.int p1), .val (.int (1 : Int32)), .val (.int (0 : Int32)), .val (.ref w_TRUE), .val (.ref w_FALSE), .val (.int (1 : Int32)), .val (.int (1 : Int32)), .unset, .unset, .unset] [(.ref w_TRUE)])
      refine own_callV X60 hx hZ (y := (⟨"com/example/ground0/ground0/refutation/Satisfaction$Truth", "not", "()Lcom/example/ground0/ground0/refutation/Satisfaction$Truth;"⟩ : MethodName)) hown (hw _ (List.mem_of_getElem? (i := 10) rfl)) (hw _ (List.mem_of_getElem? (i := 11) rfl)) (hw _ (List.mem_of_getElem? (i := 13) rfl)) (hw _ (List.mem_of_getElem? (i := 12) rfl)) (hw _ (List.mem_of_getElem? (i := 14) rfl)) (hw _ (List.mem_of_getElem? (i := 2) rfl)) (by decide) (rm_not_2 l Z a0 hw [] w_TRUE w__VALUES kv w_FALSE w_UNKNOWN w_TRUE h0 n0 hn0 S__VALUES E__VALUES V_v E_TRUE O_TRUE_ordinal) e60 E_TRUE (by rw [hml]; rfl) (argsL := []) (rest := []) rfl rfl (lenOf own_pd4 rfl) (W := 0) (Nat.le_of_eq rfl) (by decide) (by decide) (hb hby at_68) (by decide) (by decide) ?_
      intro v61 T61 L61 X61 q61
      obtain ⟨rfl, N61q, K61⟩ := q61
      have N61 := Fr.app N60 N61q
      replace S_FALSE := own_sta_keep S_FALSE K61 all0
      replace S_UNKNOWN := own_sta_keep S_UNKNOWN K61 all0
      replace S_TRUE := own_sta_keep S_TRUE K61 all0
      replace S__VALUES := own_sta_keep S__VALUES K61 all0
      replace O_FALSE_ordinal := O_FALSE_ordinal.keep K61 nin0
      replace O_UNKNOWN_ordinal := O_UNKNOWN_ordinal.keep K61 nin0
      replace O_TRUE_ordinal := O_TRUE_ordinal.keep K61 nin0
      replace V_v := V_v.keep K61 nin0
      replace E_FALSE := E_FALSE.keep K61
      replace E_UNKNOWN := E_UNKNOWN.keep K61
      replace E_TRUE := E_TRUE.keep K61
      replace E__VALUES := E__VALUES.keep K61
      have hn61 : n0 ≤ T61.heap.size := Nat.le_trans hn0 K61.1
      show Go _ _ _ _ _ T61 (mkF m 71 #[.val (.int p1), .val (.int (1 : Int32)), .val (.int (0 : Int32)), .val (.ref w_TRUE), .val (.ref w_FALSE), .val (.int (1 : Int32)), .val (.int (1 : Int32)), .unset, .unset, .unset] [(.ref w_FALSE)])
      refine own_go (fun t k => XS.iloadN X61.here hx rfl (hb hby at_71) rfl k) ?_
      show Go _ _ _ _ _ T61 (mkF m 72 #[.val (.int p1), .val (.int (1 : Int32)), .val (.int (0 : Int32)), .val (.ref w_TRUE), .val (.ref w_FALSE), .val (.int (1 : Int32)), .val (.int (1 : Int32)), .unset, .unset, .unset] [(.int (1 : Int32)), (.ref w_FALSE)])
      refine own_go (fun t k => XS.ifYes X61.here hx rfl (pc0 := 72) (pc' := 79) rfl (hb hby at_72) rfl (by decide) (by decide) (by decide) k) ?_
      show Go _ _ _ _ _ T61 (mkF m 79 #[.val (.int p1), .val (.int (1 : Int32)), .val (.int (0 : Int32)), .val (.ref w_TRUE), .val (.ref w_FALSE), .val (.int (1 : Int32)), .val (.int (1 : Int32)), .unset, .unset, .unset] [(.ref w_FALSE)])
      refine own_go (fun t k => XS.iconst X61.here hx rfl (hb hby at_79) k) ?_
      show Go _ _ _ _ _ T61 (mkF m 80 #[.val (.int p1), .val (.int (1 : Int32)), .val (.int (0 : Int32)), .val (.ref w_TRUE), .val (.ref w_FALSE), .val (.int (1 : Int32)), .val (.int (1 : Int32)), .unset, .unset, .unset] [(.int (0 : Int32)), (.ref w_FALSE)])
      refine own_callS X61 hx hZ (y := (⟨"com/example/ground0/ground0/refutation/Satisfaction$Truth", "of", "(Z)Lcom/example/ground0/ground0/refutation/Satisfaction$Truth;"⟩ : MethodName)) hown (hw _ (List.mem_of_getElem? (i := 0) rfl)) (hw _ (List.mem_of_getElem? (i := 1) rfl)) (hw _ (List.mem_of_getElem? (i := 2) rfl)) (hw _ (List.mem_of_getElem? (i := 3) rfl)) (by decide) (rm1 l Z a0 hw [] (0 : Int32) w_FALSE w_UNKNOWN w_TRUE (.ref w_FALSE) T61.heap n0 hn61 S_FALSE S_UNKNOWN S_TRUE (by rw [own_f_rm1, if_pos (show (0 : Int32) = (0 : Int32) from rfl)]; try first | rfl | decide)) rfl (by rw [hml]; rfl) (argsL := [(.int (0 : Int32))]) (rest := [(.ref w_FALSE)]) rfl rfl (lenOf own_pd3 rfl) (W := 1) (Nat.le_of_eq rfl) (by decide) (by decide) (hb hby at_80) (by decide) (by decide) ?_
      intro v62 T62 L62 X62 q62
      obtain ⟨rfl, N62q, e62⟩ := q62
      have N62 := Fr.app N61 N62q
      show Go _ _ _ _ _ T62 (mkF m 83 #[.val (.int p1), .val (.int (1 : Int32)), .val (.int (0 : Int32)), .val (.ref w_TRUE), .val (.ref w_FALSE), .val (.int (1 : Int32)), .val (.int (1 : Int32)), .unset, .unset, .unset] [(.ref w_FALSE), (.ref w_FALSE)])
      refine own_go (fun t k => Jvm.RoadKit.acmp (g := (mkF m 83 #[.val (.int p1), .val (.int (1 : Int32)), .val (.int (0 : Int32)), .val (.ref w_TRUE), .val (.ref w_FALSE), .val (.int (1 : Int32)), .val (.int (1 : Int32)), .unset, .unset, .unset] [(.ref w_FALSE), (.ref w_FALSE)])) X62 hx rfl rfl rfl (pc0 := 83) (pc' := 86) (same := true) rfl (hb hby at_83) rfl (decide_eq_true rfl) (by decide) (by decide) k) ?_
      show Go _ _ _ _ _ T62 (mkF m 86 #[.val (.int p1), .val (.int (1 : Int32)), .val (.int (0 : Int32)), .val (.ref w_TRUE), .val (.ref w_FALSE), .val (.int (1 : Int32)), .val (.int (1 : Int32)), .unset, .unset, .unset] [])
      refine own_go (fun t k => XS.iconst X62.here hx rfl (hb hby at_86) k) ?_
      show Go _ _ _ _ _ T62 (mkF m 87 #[.val (.int p1), .val (.int (1 : Int32)), .val (.int (0 : Int32)), .val (.ref w_TRUE), .val (.ref w_FALSE), .val (.int (1 : Int32)), .val (.int (1 : Int32)), .unset, .unset, .unset] [(.int (1 : Int32))])
      refine own_go (fun t k => XS.goto X62.here hx rfl (pc0 := 87) (pc' := 91) rfl (hb hby at_87) (by decide) (by decide) k) ?_
      show Go _ _ _ _ _ T62 (mkF m 91 #[.val (.int p1), .val (.int (1 : Int32)), .val (.int (0 : Int32)), .val (.ref w_TRUE), .val (.ref w_FALSE), .val (.int (1 : Int32)), .val (.int (1 : Int32)), .unset, .unset, .unset] [(.int (1 : Int32))])
      refine own_go (fun t k => XS.istore X62.here hx rfl (hb hby at_91) rfl (l' := #[.val (.int p1), .val (.int (1 : Int32)), .val (.int (0 : Int32)), .val (.ref w_TRUE), .val (.ref w_FALSE), .val (.int (1 : Int32)), .val (.int (1 : Int32)), .val (.int (1 : Int32)), .unset, .unset]) rfl k) ?_
      show Go _ _ _ _ _ T62 (mkF m 93 #[.val (.int p1), .val (.int (1 : Int32)), .val (.int (0 : Int32)), .val (.ref w_TRUE), .val (.ref w_FALSE), .val (.int (1 : Int32)), .val (.int (1 : Int32)), .val (.int (1 : Int32)), .unset, .unset] [])
      refine own_go (fun t k => XS.aloadN X62.here hx rfl (hb hby at_93) rfl rfl k) ?_
      show Go _ _ _ _ _ T62 (mkF m 94 #[.val (.int p1), .val (.int (1 : Int32)), .val (.int (0 : Int32)), .val (.ref w_TRUE), .val (.ref w_FALSE), .val (.int (1 : Int32)), .val (.int (1 : Int32)), .val (.int (1 : Int32)), .unset, .unset] [(.ref w_TRUE)])
      refine own_go (fun t k => XS.aload X62.here hx rfl (hb hby at_94) rfl rfl k) ?_
      show Go _ _ _ _ _ T62 (mkF m 96 #[.val (.int p1), .val (.int (1 : Int32)), .val (.int (0 : Int32)), .val (.ref w_TRUE), .val (.ref w_FALSE), .val (.int (1 : Int32)), .val (.int (1 : Int32)), .val (.int (1 : Int32)), .unset, .unset] [(.ref w_FALSE), (.ref w_TRUE)])
      refine own_callV X62 hx hZ (y := (⟨"com/example/ground0/ground0/refutation/Satisfaction$Truth", "and", "(Lcom/example/ground0/ground0/refutation/Satisfaction$Truth;)Lcom/example/ground0/ground0/refutation/Satisfaction$Truth;"⟩ : MethodName)) hown (hw _ (List.mem_of_getElem? (i := 39) rfl)) (hw _ (List.mem_of_getElem? (i := 40) rfl)) (hw _ (List.mem_of_getElem? (i := 42) rfl)) (hw _ (List.mem_of_getElem? (i := 41) rfl)) (hw _ (List.mem_of_getElem? (i := 43) rfl)) (hw _ (List.mem_of_getElem? (i := 2) rfl)) (by decide) (rm_and l Z a0 hw [] w_TRUE w_FALSE (2 : Int32) (0 : Int32) mir (.ref w_FALSE) T61.heap n0 hn61 Mir E_TRUE O_TRUE_ordinal E_FALSE O_FALSE_ordinal (by rw [own_f_rm_and, if_pos (show (0 : Int32) < ((2 : Int32) - (0 : Int32)) by decide)]; try first | rfl | decide)) e62 E_TRUE (by rw [hml]; rfl) (argsL := [(.ref w_FALSE)]) (rest := []) rfl rfl (lenOf own_pd5 rfl) (W := 0) (Nat.le_of_eq rfl) (by decide) (by decide) (hb hby at_96) (by decide) (by decide) ?_
      intro v63 T63 L63 X63 q63
      obtain ⟨rfl, N63q, e63⟩ := q63
      have N63 := Fr.app N62 N63q
      show Go _ _ _ _ _ T63 (mkF m 99 #[.val (.int p1), .val (.int (1 : Int32)), .val (.int (0 : Int32)), .val (.ref w_TRUE), .val (.ref w_FALSE), .val (.int (1 : Int32)), .val (.int (1 : Int32)), .val (.int (1 : Int32)), .unset, .unset] [(.ref w_FALSE)])
      refine own_go (fun t k => XS.iloadN X63.here hx rfl (hb hby at_99) rfl k) ?_
      show Go _ _ _ _ _ T63 (mkF m 100 #[.val (.int p1), .val (.int (1 : Int32)), .val (.int (0 : Int32)), .val (.ref w_TRUE), .val (.ref w_FALSE), .val (.int (1 : Int32)), .val (.int (1 : Int32)), .val (.int (1 : Int32)), .unset, .unset] [(.int (1 : Int32)), (.ref w_FALSE)])
      refine own_go (fun t k => XS.ifNo X63.here hx rfl (hb hby at_100) rfl (by decide) k) ?_
      show Go _ _ _ _ _ T63 (mkF m 103 #[.val (.int p1), .val (.int (1 : Int32)), .val (.int (0 : Int32)), .val (.ref w_TRUE), .val (.ref w_FALSE), .val (.int (1 : Int32)), .val (.int (1 : Int32)), .val (.int (1 : Int32)), .unset, .unset] [(.ref w_FALSE)])
      refine own_go (fun t k => XS.iloadN X63.here hx rfl (hb hby at_103) rfl k) ?_
      show Go _ _ _ _ _ T63 (mkF m 104 #[.val (.int p1), .val (.int (1 : Int32)), .val (.int (0 : Int32)), .val (.ref w_TRUE), .val (.ref w_FALSE), .val (.int (1 : Int32)), .val (.int (1 : Int32)), .val (.int (1 : Int32)), .unset, .unset] [(.int (0 : Int32)), (.ref w_FALSE)])
      refine own_go (fun t k => XS.ifYes X63.here hx rfl (pc0 := 104) (pc' := 111) rfl (hb hby at_104) rfl (by decide) (by decide) (by decide) k) ?_
      show Go _ _ _ _ _ T63 (mkF m 111 #[.val (.int p1), .val (.int (1 : Int32)), .val (.int (0 : Int32)), .val (.ref w_TRUE), .val (.ref w_FALSE), .val (.int (1 : Int32)), .val (.int (1 : Int32)), .val (.int (1 : Int32)), .unset, .unset] [(.ref w_FALSE)])
      refine own_go (fun t k => XS.iconst X63.here hx rfl (hb hby at_111) k) ?_
      show Go _ _ _ _ _ T63 (mkF m 112 #[.val (.int p1), .val (.int (1 : Int32)), .val (.int (0 : Int32)), .val (.ref w_TRUE), .val (.ref w_FALSE), .val (.int (1 : Int32)), .val (.int (1 : Int32)), .val (.int (1 : Int32)), .unset, .unset] [(.int (0 : Int32)), (.ref w_FALSE)])
      refine own_callS X63 hx hZ (y := (⟨"com/example/ground0/ground0/refutation/Satisfaction$Truth", "of", "(Z)Lcom/example/ground0/ground0/refutation/Satisfaction$Truth;"⟩ : MethodName)) hown (hw _ (List.mem_of_getElem? (i := 0) rfl)) (hw _ (List.mem_of_getElem? (i := 1) rfl)) (hw _ (List.mem_of_getElem? (i := 2) rfl)) (hw _ (List.mem_of_getElem? (i := 3) rfl)) (by decide) (rm1 l Z a0 hw [] (0 : Int32) w_FALSE w_UNKNOWN w_TRUE (.ref w_FALSE) T61.heap n0 hn61 S_FALSE S_UNKNOWN S_TRUE (by rw [own_f_rm1, if_pos (show (0 : Int32) = (0 : Int32) from rfl)]; try first | rfl | decide)) e63 (by rw [hml]; rfl) (argsL := [(.int (0 : Int32))]) (rest := [(.ref w_FALSE)]) rfl rfl (lenOf own_pd3 rfl) (W := 1) (Nat.le_of_eq rfl) (by decide) (by decide) (hb hby at_112) (by decide) (by decide) ?_
      intro v64 T64 L64 X64 q64
      obtain ⟨rfl, N64q, e64⟩ := q64
      have N64 := Fr.app N63 N64q
      show Go _ _ _ _ _ T64 (mkF m 115 #[.val (.int p1), .val (.int (1 : Int32)), .val (.int (0 : Int32)), .val (.ref w_TRUE), .val (.ref w_FALSE), .val (.int (1 : Int32)), .val (.int (1 : Int32)), .val (.int (1 : Int32)), .unset, .unset] [(.ref w_FALSE), (.ref w_FALSE)])
      refine own_go (fun t k => Jvm.RoadKit.acmp (g := (mkF m 115 #[.val (.int p1), .val (.int (1 : Int32)), .val (.int (0 : Int32)), .val (.ref w_TRUE), .val (.ref w_FALSE), .val (.int (1 : Int32)), .val (.int (1 : Int32)), .val (.int (1 : Int32)), .unset, .unset] [(.ref w_FALSE), (.ref w_FALSE)])) X64 hx rfl rfl rfl (pc0 := 115) (pc' := 118) (same := true) rfl (hb hby at_115) rfl (decide_eq_true rfl) (by decide) (by decide) k) ?_
      show Go _ _ _ _ _ T64 (mkF m 118 #[.val (.int p1), .val (.int (1 : Int32)), .val (.int (0 : Int32)), .val (.ref w_TRUE), .val (.ref w_FALSE), .val (.int (1 : Int32)), .val (.int (1 : Int32)), .val (.int (1 : Int32)), .unset, .unset] [])
      refine own_go (fun t k => XS.iconst X64.here hx rfl (hb hby at_118) k) ?_
      show Go _ _ _ _ _ T64 (mkF m 119 #[.val (.int p1), .val (.int (1 : Int32)), .val (.int (0 : Int32)), .val (.ref w_TRUE), .val (.ref w_FALSE), .val (.int (1 : Int32)), .val (.int (1 : Int32)), .val (.int (1 : Int32)), .unset, .unset] [(.int (1 : Int32))])
      refine own_go (fun t k => XS.goto X64.here hx rfl (pc0 := 119) (pc' := 123) rfl (hb hby at_119) (by decide) (by decide) k) ?_
      show Go _ _ _ _ _ T64 (mkF m 123 #[.val (.int p1), .val (.int (1 : Int32)), .val (.int (0 : Int32)), .val (.ref w_TRUE), .val (.ref w_FALSE), .val (.int (1 : Int32)), .val (.int (1 : Int32)), .val (.int (1 : Int32)), .unset, .unset] [(.int (1 : Int32))])
      refine own_go (fun t k => XS.istore X64.here hx rfl (hb hby at_123) rfl (l' := #[.val (.int p1), .val (.int (1 : Int32)), .val (.int (0 : Int32)), .val (.ref w_TRUE), .val (.ref w_FALSE), .val (.int (1 : Int32)), .val (.int (1 : Int32)), .val (.int (1 : Int32)), .val (.int (1 : Int32)), .unset]) rfl k) ?_
      show Go _ _ _ _ _ T64 (mkF m 125 #[.val (.int p1), .val (.int (1 : Int32)), .val (.int (0 : Int32)), .val (.ref w_TRUE), .val (.ref w_FALSE), .val (.int (1 : Int32)), .val (.int (1 : Int32)), .val (.int (1 : Int32)), .val (.int (1 : Int32)), .unset] [])
      refine own_go (fun t k => XS.aloadN X64.here hx rfl (hb hby at_125) rfl rfl k) ?_
      show Go _ _ _ _ _ T64 (mkF m 126 #[.val (.int p1), .val (.int (1 : Int32)), .val (.int (0 : Int32)), .val (.ref w_TRUE), .val (.ref w_FALSE), .val (.int (1 : Int32)), .val (.int (1 : Int32)), .val (.int (1 : Int32)), .val (.int (1 : Int32)), .unset] [(.ref w_TRUE)])
      refine own_go (fun t k => XS.aload X64.here hx rfl (hb hby at_126) rfl rfl k) ?_
      show Go _ _ _ _ _ T64 (mkF m 128 #[.val (.int p1), .val (.int (1 : Int32)), .val (.int (0 : Int32)), .val (.ref w_TRUE), .val (.ref w_FALSE), .val (.int (1 : Int32)), .val (.int (1 : Int32)), .val (.int (1 : Int32)), .val (.int (1 : Int32)), .unset] [(.ref w_FALSE), (.ref w_TRUE)])
      refine own_callV X64 hx hZ (y := (⟨"com/example/ground0/ground0/refutation/Satisfaction$Truth", "or", "(Lcom/example/ground0/ground0/refutation/Satisfaction$Truth;)Lcom/example/ground0/ground0/refutation/Satisfaction$Truth;"⟩ : MethodName)) hown (hw _ (List.mem_of_getElem? (i := 56) rfl)) (hw _ (List.mem_of_getElem? (i := 57) rfl)) (hw _ (List.mem_of_getElem? (i := 59) rfl)) (hw _ (List.mem_of_getElem? (i := 58) rfl)) (hw _ (List.mem_of_getElem? (i := 60) rfl)) (hw _ (List.mem_of_getElem? (i := 2) rfl)) (by decide) (rm_or l Z a0 hw [] w_TRUE w_FALSE (2 : Int32) (0 : Int32) mir (.ref w_TRUE) T61.heap n0 hn61 Mir E_TRUE O_TRUE_ordinal E_FALSE O_FALSE_ordinal (by rw [own_f_rm_or, if_neg (show ¬ (((2 : Int32) - (0 : Int32)) < (0 : Int32)) by decide)]; try first | rfl | decide)) e64 E_TRUE (by rw [hml]; rfl) (argsL := [(.ref w_FALSE)]) (rest := []) rfl rfl (lenOf own_pd5 rfl) (W := 0) (Nat.le_of_eq rfl) (by decide) (by decide) (hb hby at_128) (by decide) (by decide) ?_
      intro v65 T65 L65 X65 q65
      obtain ⟨rfl, N65q, e65⟩ := q65
      have N65 := Fr.app N64 N65q
      show Go _ _ _ _ _ T65 (mkF m 131 #[.val (.int p1), .val (.int (1 : Int32)), .val (.int (0 : Int32)), .val (.ref w_TRUE), .val (.ref w_FALSE), .val (.int (1 : Int32)), .val (.int (1 : Int32)), .val (.int (1 : Int32)), .val (.int (1 : Int32)), .unset] [(.ref w_TRUE)])
      refine own_go (fun t k => XS.iloadN X65.here hx rfl (hb hby at_131) rfl k) ?_
      show Go _ _ _ _ _ T65 (mkF m 132 #[.val (.int p1), .val (.int (1 : Int32)), .val (.int (0 : Int32)), .val (.ref w_TRUE), .val (.ref w_FALSE), .val (.int (1 : Int32)), .val (.int (1 : Int32)), .val (.int (1 : Int32)), .val (.int (1 : Int32)), .unset] [(.int (1 : Int32)), (.ref w_TRUE)])
      refine own_go (fun t k => XS.ifYes X65.here hx rfl (pc0 := 132) (pc' := 139) rfl (hb hby at_132) rfl (by decide) (by decide) (by decide) k) ?_
      show Go _ _ _ _ _ T65 (mkF m 139 #[.val (.int p1), .val (.int (1 : Int32)), .val (.int (0 : Int32)), .val (.ref w_TRUE), .val (.ref w_FALSE), .val (.int (1 : Int32)), .val (.int (1 : Int32)), .val (.int (1 : Int32)), .val (.int (1 : Int32)), .unset] [(.ref w_TRUE)])
      refine own_go (fun t k => XS.iconst X65.here hx rfl (hb hby at_139) k) ?_
      show Go _ _ _ _ _ T65 (mkF m 140 #[.val (.int p1), .val (.int (1 : Int32)), .val (.int (0 : Int32)), .val (.ref w_TRUE), .val (.ref w_FALSE), .val (.int (1 : Int32)), .val (.int (1 : Int32)), .val (.int (1 : Int32)), .val (.int (1 : Int32)), .unset] [(.int (1 : Int32)), (.ref w_TRUE)])
      refine own_go (fun t k => XS.goto X65.here hx rfl (pc0 := 140) (pc' := 144) rfl (hb hby at_140) (by decide) (by decide) k) ?_
      show Go _ _ _ _ _ T65 (mkF m 144 #[.val (.int p1), .val (.int (1 : Int32)), .val (.int (0 : Int32)), .val (.ref w_TRUE), .val (.ref w_FALSE), .val (.int (1 : Int32)), .val (.int (1 : Int32)), .val (.int (1 : Int32)), .val (.int (1 : Int32)), .unset] [(.int (1 : Int32)), (.ref w_TRUE)])
      refine own_callS X65 hx hZ (y := (⟨"com/example/ground0/ground0/refutation/Satisfaction$Truth", "of", "(Z)Lcom/example/ground0/ground0/refutation/Satisfaction$Truth;"⟩ : MethodName)) hown (hw _ (List.mem_of_getElem? (i := 0) rfl)) (hw _ (List.mem_of_getElem? (i := 1) rfl)) (hw _ (List.mem_of_getElem? (i := 2) rfl)) (hw _ (List.mem_of_getElem? (i := 3) rfl)) (by decide) (rm1 l Z a0 hw [] (1 : Int32) w_FALSE w_UNKNOWN w_TRUE (.ref w_TRUE) T61.heap n0 hn61 S_FALSE S_UNKNOWN S_TRUE (by rw [own_f_rm1, if_neg (show ¬ ((1 : Int32) = (0 : Int32)) by decide)]; try first | rfl | decide)) e65 (by rw [hml]; rfl) (argsL := [(.int (1 : Int32))]) (rest := [(.ref w_TRUE)]) rfl rfl (lenOf own_pd3 rfl) (W := 1) (Nat.le_of_eq rfl) (by decide) (by decide) (hb hby at_144) (by decide) (by decide) ?_
      intro v66 T66 L66 X66 q66
      obtain ⟨rfl, N66q, e66⟩ := q66
      have N66 := Fr.app N65 N66q
      show Go _ _ _ _ _ T66 (mkF m 147 #[.val (.int p1), .val (.int (1 : Int32)), .val (.int (0 : Int32)), .val (.ref w_TRUE), .val (.ref w_FALSE), .val (.int (1 : Int32)), .val (.int (1 : Int32)), .val (.int (1 : Int32)), .val (.int (1 : Int32)), .unset] [(.ref w_TRUE), (.ref w_TRUE)])
      refine own_go (fun t k => Jvm.RoadKit.acmp (g := (mkF m 147 #[.val (.int p1), .val (.int (1 : Int32)), .val (.int (0 : Int32)), .val (.ref w_TRUE), .val (.ref w_FALSE), .val (.int (1 : Int32)), .val (.int (1 : Int32)), .val (.int (1 : Int32)), .val (.int (1 : Int32)), .unset] [(.ref w_TRUE), (.ref w_TRUE)])) X66 hx rfl rfl rfl (pc0 := 147) (pc' := 150) (same := true) rfl (hb hby at_147) rfl (decide_eq_true rfl) (by decide) (by decide) k) ?_
      show Go _ _ _ _ _ T66 (mkF m 150 #[.val (.int p1), .val (.int (1 : Int32)), .val (.int (0 : Int32)), .val (.ref w_TRUE), .val (.ref w_FALSE), .val (.int (1 : Int32)), .val (.int (1 : Int32)), .val (.int (1 : Int32)), .val (.int (1 : Int32)), .unset] [])
      refine own_go (fun t k => XS.iconst X66.here hx rfl (hb hby at_150) k) ?_
      show Go _ _ _ _ _ T66 (mkF m 151 #[.val (.int p1), .val (.int (1 : Int32)), .val (.int (0 : Int32)), .val (.ref w_TRUE), .val (.ref w_FALSE), .val (.int (1 : Int32)), .val (.int (1 : Int32)), .val (.int (1 : Int32)), .val (.int (1 : Int32)), .unset] [(.int (1 : Int32))])
      refine own_go (fun t k => XS.goto X66.here hx rfl (pc0 := 151) (pc' := 155) rfl (hb hby at_151) (by decide) (by decide) k) ?_
      show Go _ _ _ _ _ T66 (mkF m 155 #[.val (.int p1), .val (.int (1 : Int32)), .val (.int (0 : Int32)), .val (.ref w_TRUE), .val (.ref w_FALSE), .val (.int (1 : Int32)), .val (.int (1 : Int32)), .val (.int (1 : Int32)), .val (.int (1 : Int32)), .unset] [(.int (1 : Int32))])
      refine own_go (fun t k => XS.istore X66.here hx rfl (hb hby at_155) rfl (l' := #[.val (.int p1), .val (.int (1 : Int32)), .val (.int (0 : Int32)), .val (.ref w_TRUE), .val (.ref w_FALSE), .val (.int (1 : Int32)), .val (.int (1 : Int32)), .val (.int (1 : Int32)), .val (.int (1 : Int32)), .val (.int (1 : Int32))]) rfl k) ?_
      show Go _ _ _ _ _ T66 (mkF m 157 #[.val (.int p1), .val (.int (1 : Int32)), .val (.int (0 : Int32)), .val (.ref w_TRUE), .val (.ref w_FALSE), .val (.int (1 : Int32)), .val (.int (1 : Int32)), .val (.int (1 : Int32)), .val (.int (1 : Int32)), .val (.int (1 : Int32))] [])
      refine own_go (fun t k => XS.iload X66.here hx rfl (hb hby at_157) rfl k) ?_
      show Go _ _ _ _ _ T66 (mkF m 159 #[.val (.int p1), .val (.int (1 : Int32)), .val (.int (0 : Int32)), .val (.ref w_TRUE), .val (.ref w_FALSE), .val (.int (1 : Int32)), .val (.int (1 : Int32)), .val (.int (1 : Int32)), .val (.int (1 : Int32)), .val (.int (1 : Int32))] [(.int (1 : Int32))])
      refine own_go (fun t k => XS.ifNo X66.here hx rfl (hb hby at_159) rfl (by decide) k) ?_
      show Go _ _ _ _ _ T66 (mkF m 162 #[.val (.int p1), .val (.int (1 : Int32)), .val (.int (0 : Int32)), .val (.ref w_TRUE), .val (.ref w_FALSE), .val (.int (1 : Int32)), .val (.int (1 : Int32)), .val (.int (1 : Int32)), .val (.int (1 : Int32)), .val (.int (1 : Int32))] [])
      refine own_go (fun t k => XS.iload X66.here hx rfl (hb hby at_162) rfl k) ?_
      show Go _ _ _ _ _ T66 (mkF m 164 #[.val (.int p1), .val (.int (1 : Int32)), .val (.int (0 : Int32)), .val (.ref w_TRUE), .val (.ref w_FALSE), .val (.int (1 : Int32)), .val (.int (1 : Int32)), .val (.int (1 : Int32)), .val (.int (1 : Int32)), .val (.int (1 : Int32))] [(.int (1 : Int32))])
      refine own_go (fun t k => XS.ifNo X66.here hx rfl (hb hby at_164) rfl (by decide) k) ?_
      show Go _ _ _ _ _ T66 (mkF m 167 #[.val (.int p1), .val (.int (1 : Int32)), .val (.int (0 : Int32)), .val (.ref w_TRUE), .val (.ref w_FALSE), .val (.int (1 : Int32)), .val (.int (1 : Int32)), .val (.int (1 : Int32)), .val (.int (1 : Int32)), .val (.int (1 : Int32))] [])
      refine own_go (fun t k => XS.iload X66.here hx rfl (hb hby at_167) rfl k) ?_
      show Go _ _ _ _ _ T66 (mkF m 169 #[.val (.int p1), .val (.int (1 : Int32)), .val (.int (0 : Int32)), .val (.ref w_TRUE), .val (.ref w_FALSE), .val (.int (1 : Int32)), .val (.int (1 : Int32)), .val (.int (1 : Int32)), .val (.int (1 : Int32)), .val (.int (1 : Int32))] [(.int (1 : Int32))])
      refine own_go (fun t k => XS.ifNo X66.here hx rfl (hb hby at_169) rfl (by decide) k) ?_
      show Go _ _ _ _ _ T66 (mkF m 172 #[.val (.int p1), .val (.int (1 : Int32)), .val (.int (0 : Int32)), .val (.ref w_TRUE), .val (.ref w_FALSE), .val (.int (1 : Int32)), .val (.int (1 : Int32)), .val (.int (1 : Int32)), .val (.int (1 : Int32)), .val (.int (1 : Int32))] [])
      refine own_go (fun t k => XS.iload X66.here hx rfl (hb hby at_172) rfl k) ?_
      show Go _ _ _ _ _ T66 (mkF m 174 #[.val (.int p1), .val (.int (1 : Int32)), .val (.int (0 : Int32)), .val (.ref w_TRUE), .val (.ref w_FALSE), .val (.int (1 : Int32)), .val (.int (1 : Int32)), .val (.int (1 : Int32)), .val (.int (1 : Int32)), .val (.int (1 : Int32))] [(.int (1 : Int32))])
      refine own_go (fun t k => XS.ifNo X66.here hx rfl (hb hby at_174) rfl (by decide) k) ?_
      show Go _ _ _ _ _ T66 (mkF m 177 #[.val (.int p1), .val (.int (1 : Int32)), .val (.int (0 : Int32)), .val (.ref w_TRUE), .val (.ref w_FALSE), .val (.int (1 : Int32)), .val (.int (1 : Int32)), .val (.int (1 : Int32)), .val (.int (1 : Int32)), .val (.int (1 : Int32))] [])
      refine own_go (fun t k => XS.iload X66.here hx rfl (hb hby at_177) rfl k) ?_
      show Go _ _ _ _ _ T66 (mkF m 179 #[.val (.int p1), .val (.int (1 : Int32)), .val (.int (0 : Int32)), .val (.ref w_TRUE), .val (.ref w_FALSE), .val (.int (1 : Int32)), .val (.int (1 : Int32)), .val (.int (1 : Int32)), .val (.int (1 : Int32)), .val (.int (1 : Int32))] [(.int (1 : Int32))])
      refine own_go (fun t k => XS.ifNo X66.here hx rfl (hb hby at_179) rfl (by decide) k) ?_
      show Go _ _ _ _ _ T66 (mkF m 182 #[.val (.int p1), .val (.int (1 : Int32)), .val (.int (0 : Int32)), .val (.ref w_TRUE), .val (.ref w_FALSE), .val (.int (1 : Int32)), .val (.int (1 : Int32)), .val (.int (1 : Int32)), .val (.int (1 : Int32)), .val (.int (1 : Int32))] [])
      refine own_go (fun t k => XS.iconst X66.here hx rfl (hb hby at_182) k) ?_
      show Go _ _ _ _ _ T66 (mkF m 183 #[.val (.int p1), .val (.int (1 : Int32)), .val (.int (0 : Int32)), .val (.ref w_TRUE), .val (.ref w_FALSE), .val (.int (1 : Int32)), .val (.int (1 : Int32)), .val (.int (1 : Int32)), .val (.int (1 : Int32)), .val (.int (1 : Int32))] [(.int (1 : Int32))])
      refine own_go (fun t k => XS.goto X66.here hx rfl (pc0 := 183) (pc' := 187) rfl (hb hby at_183) (by decide) (by decide) k) ?_
      show Go _ _ _ _ _ T66 (mkF m 187 #[.val (.int p1), .val (.int (1 : Int32)), .val (.int (0 : Int32)), .val (.ref w_TRUE), .val (.ref w_FALSE), .val (.int (1 : Int32)), .val (.int (1 : Int32)), .val (.int (1 : Int32)), .val (.int (1 : Int32)), .val (.int (1 : Int32))] [(.int (1 : Int32))])
      refine own_retN X66 hx (own_lvN X66 hlk (by decide) (by decide)) (t := .boolean) hret (by simp) (hb hby at_187) ?_
      exact ⟨rfl, N66⟩
    · skip
      show Go _ _ _ _ _ s₁ (mkF m 15 #[.val (.int p1), .val (.int (1 : Int32)), .unset, .unset, .unset, .unset, .unset, .unset, .unset, .unset] [(.int (2 : Int32))])
      refine own_go (fun t k => XS.ifNo X0.here hx rfl (hb hby at_15) rfl (by decide) k) ?_
      show Go _ _ _ _ _ s₁ (mkF m 18 #[.val (.int p1), .val (.int (1 : Int32)), .unset, .unset, .unset, .unset, .unset, .unset, .unset, .unset] [])
      refine own_go (fun t k => XS.iconst X0.here hx rfl (hb hby at_18) k) ?_
      show Go _ _ _ _ _ s₁ (mkF m 19 #[.val (.int p1), .val (.int (1 : Int32)), .unset, .unset, .unset, .unset, .unset, .unset, .unset, .unset] [(.int (1 : Int32))])
      refine own_go (fun t k => XS.goto X0.here hx rfl (pc0 := 19) (pc' := 23) rfl (hb hby at_19) (by decide) (by decide) k) ?_
      show Go _ _ _ _ _ s₁ (mkF m 23 #[.val (.int p1), .val (.int (1 : Int32)), .unset, .unset, .unset, .unset, .unset, .unset, .unset, .unset] [(.int (1 : Int32))])
      refine own_go (fun t k => XS.istoreN X0.here hx rfl (hb hby at_23) rfl (l' := #[.val (.int p1), .val (.int (1 : Int32)), .val (.int (1 : Int32)), .unset, .unset, .unset, .unset, .unset, .unset, .unset]) rfl k) ?_
      show Go _ _ _ _ _ s₁ (mkF m 24 #[.val (.int p1), .val (.int (1 : Int32)), .val (.int (1 : Int32)), .unset, .unset, .unset, .unset, .unset, .unset, .unset] [])
      refine own_go (fun t k => XS.iloadN X0.here hx rfl (hb hby at_24) rfl k) ?_
      show Go _ _ _ _ _ s₁ (mkF m 25 #[.val (.int p1), .val (.int (1 : Int32)), .val (.int (1 : Int32)), .unset, .unset, .unset, .unset, .unset, .unset, .unset] [(.int (1 : Int32))])
      refine own_callS X0 hx hZ (y := (⟨"com/example/ground0/ground0/refutation/Satisfaction$Truth", "of", "(Z)Lcom/example/ground0/ground0/refutation/Satisfaction$Truth;"⟩ : MethodName)) hown (hw _ (List.mem_of_getElem? (i := 0) rfl)) (hw _ (List.mem_of_getElem? (i := 1) rfl)) (hw _ (List.mem_of_getElem? (i := 2) rfl)) (hw _ (List.mem_of_getElem? (i := 3) rfl)) (by decide) (rm1 l Z a0 hw [] (1 : Int32) w_FALSE w_UNKNOWN w_TRUE (.ref w_TRUE) h0 n0 hn0 S_FALSE S_UNKNOWN S_TRUE (by rw [own_f_rm1, if_neg (show ¬ ((1 : Int32) = (0 : Int32)) by decide)]; try first | rfl | decide)) e0 (by rw [hml]; rfl) (argsL := [(.int (1 : Int32))]) (rest := []) rfl rfl (lenOf own_pd3 rfl) (W := 0) (Nat.le_of_eq rfl) (by decide) (by decide) (hb hby at_25) (by decide) (by decide) ?_
      intro v67 T67 L67 X67 q67
      obtain ⟨rfl, N67q, e67⟩ := q67
      have N67 := Fr.app N0 N67q
      show Go _ _ _ _ _ T67 (mkF m 28 #[.val (.int p1), .val (.int (1 : Int32)), .val (.int (1 : Int32)), .unset, .unset, .unset, .unset, .unset, .unset, .unset] [(.ref w_TRUE)])
      refine own_go (fun t k => XS.astoreN X67.here hx rfl (hb hby at_28) rfl rfl (l' := #[.val (.int p1), .val (.int (1 : Int32)), .val (.int (1 : Int32)), .val (.ref w_TRUE), .unset, .unset, .unset, .unset, .unset, .unset]) rfl k) ?_
      show Go _ _ _ _ _ T67 (mkF m 29 #[.val (.int p1), .val (.int (1 : Int32)), .val (.int (1 : Int32)), .val (.ref w_TRUE), .unset, .unset, .unset, .unset, .unset, .unset] [])
      refine own_go (fun t k => XS.iloadN X67.here hx rfl (hb hby at_29) rfl k) ?_
      show Go _ _ _ _ _ T67 (mkF m 30 #[.val (.int p1), .val (.int (1 : Int32)), .val (.int (1 : Int32)), .val (.ref w_TRUE), .unset, .unset, .unset, .unset, .unset, .unset] [(.int (1 : Int32))])
      refine own_callS X67 hx hZ (y := (⟨"com/example/ground0/ground0/refutation/Satisfaction$Truth", "of", "(Z)Lcom/example/ground0/ground0/refutation/Satisfaction$Truth;"⟩ : MethodName)) hown (hw _ (List.mem_of_getElem? (i := 0) rfl)) (hw _ (List.mem_of_getElem? (i := 1) rfl)) (hw _ (List.mem_of_getElem? (i := 2) rfl)) (hw _ (List.mem_of_getElem? (i := 3) rfl)) (by decide) (rm1 l Z a0 hw [] (1 : Int32) w_FALSE w_UNKNOWN w_TRUE (.ref w_TRUE) h0 n0 hn0 S_FALSE S_UNKNOWN S_TRUE (by rw [own_f_rm1, if_neg (show ¬ ((1 : Int32) = (0 : Int32)) by decide)]; try first | rfl | decide)) e67 (by rw [hml]; rfl) (argsL := [(.int (1 : Int32))]) (rest := []) rfl rfl (lenOf own_pd3 rfl) (W := 0) (Nat.le_of_eq rfl) (by decide) (by decide) (hb hby at_30) (by decide) (by decide) ?_
      intro v68 T68 L68 X68 q68
      obtain ⟨rfl, N68q, e68⟩ := q68
      have N68 := Fr.app N67 N68q
      show Go _ _ _ _ _ T68 (mkF m 33 #[.val (.int p1), .val (.int (1 : Int32)), .val (.int (1 : Int32)), .val (.ref w_TRUE), .unset, .unset, .unset, .unset, .unset, .unset] [(.ref w_TRUE)])
      refine own_go (fun t k => XS.astore X68.here hx rfl (hb hby at_33) rfl rfl (l' := #[.val (.int p1), .val (.int (1 : Int32)), .val (.int (1 : Int32)), .val (.ref w_TRUE), .val (.ref w_TRUE), .unset, .unset, .unset, .unset, .unset]) rfl k) ?_
      show Go _ _ _ _ _ T68 (mkF m 35 #[.val (.int p1), .val (.int (1 : Int32)), .val (.int (1 : Int32)), .val (.ref w_TRUE), .val (.ref w_TRUE), .unset, .unset, .unset, .unset, .unset] [])
      refine own_go (fun t k => XS.aloadN X68.here hx rfl (hb hby at_35) rfl rfl k) ?_
      show Go _ _ _ _ _ T68 (mkF m 36 #[.val (.int p1), .val (.int (1 : Int32)), .val (.int (1 : Int32)), .val (.ref w_TRUE), .val (.ref w_TRUE), .unset, .unset, .unset, .unset, .unset] [(.ref w_TRUE)])
      obtain ⟨T69, X69, e69, st69⟩ := getS2 X68 hx hZ hown (host := "") (Or.inl (hw _ (List.mem_of_getElem? (i := 6) rfl))) Via.refl e68 S_UNKNOWN (g := (mkF m 36 #[.val (.int p1), .val (.int (1 : Int32)), .val (.int (1 : Int32)), .val (.ref w_TRUE), .val (.ref w_TRUE), .unset, .unset, .unset, .unset, .unset] [(.ref w_TRUE)])) rfl (hb hby at_36)
      refine own_go (fun t k => st69 t k) ?_
      show Go _ _ _ _ _ T69 (mkF m 39 #[.val (.int p1), .val (.int (1 : Int32)), .val (.int (1 : Int32)), .val (.ref w_TRUE), .val (.ref w_TRUE), .unset, .unset, .unset, .unset, .unset] [(.ref w_UNKNOWN), (.ref w_TRUE)])
      refine own_go (fun t k => Jvm.RoadKit.acmp (g := (mkF m 39 #[.val (.int p1), .val (.int (1 : Int32)), .val (.int (1 : Int32)), .val (.ref w_TRUE), .val (.ref w_TRUE), .unset, .unset, .unset, .unset, .unset] [(.ref w_UNKNOWN), (.ref w_TRUE)])) X69 hx rfl rfl rfl (pc0 := 39) (pc' := 42) (same := false) rfl (hb hby at_39) rfl (decide_eq_false fun q => D_w_UNKNOWN_w_TRUE (Value.ref.inj q).symm) (by decide) (by decide) k) ?_
      show Go _ _ _ _ _ T69 (mkF m 42 #[.val (.int p1), .val (.int (1 : Int32)), .val (.int (1 : Int32)), .val (.ref w_TRUE), .val (.ref w_TRUE), .unset, .unset, .unset, .unset, .unset] [])
      refine own_go (fun t k => XS.iconst X69.here hx rfl (hb hby at_42) k) ?_
      show Go _ _ _ _ _ T69 (mkF m 43 #[.val (.int p1), .val (.int (1 : Int32)), .val (.int (1 : Int32)), .val (.ref w_TRUE), .val (.ref w_TRUE), .unset, .unset, .unset, .unset, .unset] [(.int (1 : Int32))])
      refine own_go (fun t k => XS.goto X69.here hx rfl (pc0 := 43) (pc' := 47) rfl (hb hby at_43) (by decide) (by decide) k) ?_
      show Go _ _ _ _ _ T69 (mkF m 47 #[.val (.int p1), .val (.int (1 : Int32)), .val (.int (1 : Int32)), .val (.ref w_TRUE), .val (.ref w_TRUE), .unset, .unset, .unset, .unset, .unset] [(.int (1 : Int32))])
      refine own_go (fun t k => XS.istore X69.here hx rfl (hb hby at_47) rfl (l' := #[.val (.int p1), .val (.int (1 : Int32)), .val (.int (1 : Int32)), .val (.ref w_TRUE), .val (.ref w_TRUE), .val (.int (1 : Int32)), .unset, .unset, .unset, .unset]) rfl k) ?_
      show Go _ _ _ _ _ T69 (mkF m 49 #[.val (.int p1), .val (.int (1 : Int32)), .val (.int (1 : Int32)), .val (.ref w_TRUE), .val (.ref w_TRUE), .val (.int (1 : Int32)), .unset, .unset, .unset, .unset] [])
      refine own_go (fun t k => XS.iconst X69.here hx rfl (hb hby at_49) k) ?_
      show Go _ _ _ _ _ T69 (mkF m 50 #[.val (.int p1), .val (.int (1 : Int32)), .val (.int (1 : Int32)), .val (.ref w_TRUE), .val (.ref w_TRUE), .val (.int (1 : Int32)), .unset, .unset, .unset, .unset] [(.int (1 : Int32))])
      refine own_callS X69 hx hZ (y := (⟨"com/example/ground0/ground0/refutation/Satisfaction$Truth", "of", "(Z)Lcom/example/ground0/ground0/refutation/Satisfaction$Truth;"⟩ : MethodName)) hown (hw _ (List.mem_of_getElem? (i := 0) rfl)) (hw _ (List.mem_of_getElem? (i := 1) rfl)) (hw _ (List.mem_of_getElem? (i := 2) rfl)) (hw _ (List.mem_of_getElem? (i := 3) rfl)) (by decide) (rm1 l Z a0 hw [] (1 : Int32) w_FALSE w_UNKNOWN w_TRUE (.ref w_TRUE) h0 n0 hn0 S_FALSE S_UNKNOWN S_TRUE (by rw [own_f_rm1, if_neg (show ¬ ((1 : Int32) = (0 : Int32)) by decide)]; try first | rfl | decide)) e69 (by rw [hml]; rfl) (argsL := [(.int (1 : Int32))]) (rest := []) rfl rfl (lenOf own_pd3 rfl) (W := 0) (Nat.le_of_eq rfl) (by decide) (by decide) (hb hby at_50) (by decide) (by decide) ?_
      intro v70 T70 L70 X70 q70
      obtain ⟨rfl, N70q, e70⟩ := q70
      have N70 := Fr.app N68 N70q
      show Go _ _ _ _ _ T70 (mkF m 53 #[.val (.int p1), .val (.int (1 : Int32)), .val (.int (1 : Int32)), .val (.ref w_TRUE), .val (.ref w_TRUE), .val (.int (1 : Int32)), .unset, .unset, .unset, .unset] [(.ref w_TRUE)])
      refine own_go (fun t k => XS.iconst X70.here hx rfl (hb hby at_53) k) ?_
      show Go _ _ _ _ _ T70 (mkF m 54 #[.val (.int p1), .val (.int (1 : Int32)), .val (.int (1 : Int32)), .val (.ref w_TRUE), .val (.ref w_TRUE), .val (.int (1 : Int32)), .unset, .unset, .unset, .unset] [(.int (0 : Int32)), (.ref w_TRUE)])
      refine own_callS X70 hx hZ (y := (⟨"com/example/ground0/ground0/refutation/Satisfaction$Truth", "of", "(Z)Lcom/example/ground0/ground0/refutation/Satisfaction$Truth;"⟩ : MethodName)) hown (hw _ (List.mem_of_getElem? (i := 0) rfl)) (hw _ (List.mem_of_getElem? (i := 1) rfl)) (hw _ (List.mem_of_getElem? (i := 2) rfl)) (hw _ (List.mem_of_getElem? (i := 3) rfl)) (by decide) (rm1 l Z a0 hw [] (0 : Int32) w_FALSE w_UNKNOWN w_TRUE (.ref w_FALSE) h0 n0 hn0 S_FALSE S_UNKNOWN S_TRUE (by rw [own_f_rm1, if_pos (show (0 : Int32) = (0 : Int32) from rfl)]; try first | rfl | decide)) e70 (by rw [hml]; rfl) (argsL := [(.int (0 : Int32))]) (rest := [(.ref w_TRUE)]) rfl rfl (lenOf own_pd3 rfl) (W := 1) (Nat.le_of_eq rfl) (by decide) (by decide) (hb hby at_54) (by decide) (by decide) ?_
      intro v71 T71 L71 X71 q71
      obtain ⟨rfl, N71q, e71⟩ := q71
      have N71 := Fr.app N70 N71q
      show Go _ _ _ _ _ T71 (mkF m 57 #[.val (.int p1), .val (.int (1 : Int32)), .val (.int (1 : Int32)), .val (.ref w_TRUE), .val (.ref w_TRUE), .val (.int (1 : Int32)), .unset, .unset, .unset, .unset] [(.ref w_FALSE), (.ref w_TRUE)])
      refine own_go (fun t k => Jvm.RoadKit.acmp (g := (mkF m 57 #[.val (.int p1), .val (.int (1 : Int32)), .val (.int (1 : Int32)), .val (.ref w_TRUE), .val (.ref w_TRUE), .val (.int (1 : Int32)), .unset, .unset, .unset, .unset] [(.ref w_FALSE), (.ref w_TRUE)])) X71 hx rfl rfl rfl (pc0 := 57) (pc' := 60) (same := false) rfl (hb hby at_57) rfl (decide_eq_false fun q => D_w_FALSE_w_TRUE (Value.ref.inj q).symm) (by decide) (by decide) k) ?_
      show Go _ _ _ _ _ T71 (mkF m 60 #[.val (.int p1), .val (.int (1 : Int32)), .val (.int (1 : Int32)), .val (.ref w_TRUE), .val (.ref w_TRUE), .val (.int (1 : Int32)), .unset, .unset, .unset, .unset] [])
      refine own_go (fun t k => XS.iconst X71.here hx rfl (hb hby at_60) k) ?_
      show Go _ _ _ _ _ T71 (mkF m 61 #[.val (.int p1), .val (.int (1 : Int32)), .val (.int (1 : Int32)), .val (.ref w_TRUE), .val (.ref w_TRUE), .val (.int (1 : Int32)), .unset, .unset, .unset, .unset] [(.int (1 : Int32))])
      refine own_go (fun t k => XS.goto X71.here hx rfl (pc0 := 61) (pc' := 65) rfl (hb hby at_61) (by decide) (by decide) k) ?_
      show Go _ _ _ _ _ T71 (mkF m 65 #[.val (.int p1), .val (.int (1 : Int32)), .val (.int (1 : Int32)), .val (.ref w_TRUE), .val (.ref w_TRUE), .val (.int (1 : Int32)), .unset, .unset, .unset, .unset] [(.int (1 : Int32))])
      refine own_go (fun t k => XS.istore X71.here hx rfl (hb hby at_65) rfl (l' := #[.val (.int p1), .val (.int (1 : Int32)), .val (.int (1 : Int32)), .val (.ref w_TRUE), .val (.ref w_TRUE), .val (.int (1 : Int32)), .val (.int (1 : Int32)), .unset, .unset, .unset]) rfl k) ?_
      show Go _ _ _ _ _ T71 (mkF m 67 #[.val (.int p1), .val (.int (1 : Int32)), .val (.int (1 : Int32)), .val (.ref w_TRUE), .val (.ref w_TRUE), .val (.int (1 : Int32)), .val (.int (1 : Int32)), .unset, .unset, .unset] [])
      refine own_go (fun t k => XS.aloadN X71.here hx rfl (hb hby at_67) rfl rfl k) ?_
      show Go _ _ _ _ _ T71 (mkF m 68 #[.val (.int p1), .val (.int (1 : Int32)), .val (.int (1 : Int32)), .val (.ref w_TRUE), .val (.ref w_TRUE), .val (.int (1 : Int32)), .val (.int (1 : Int32)), .unset, .unset, .unset] [(.ref w_TRUE)])
      refine own_callV X71 hx hZ (y := (⟨"com/example/ground0/ground0/refutation/Satisfaction$Truth", "not", "()Lcom/example/ground0/ground0/refutation/Satisfaction$Truth;"⟩ : MethodName)) hown (hw _ (List.mem_of_getElem? (i := 10) rfl)) (hw _ (List.mem_of_getElem? (i := 11) rfl)) (hw _ (List.mem_of_getElem? (i := 13) rfl)) (hw _ (List.mem_of_getElem? (i := 12) rfl)) (hw _ (List.mem_of_getElem? (i := 14) rfl)) (hw _ (List.mem_of_getElem? (i := 2) rfl)) (by decide) (rm_not_2 l Z a0 hw [] w_TRUE w__VALUES kv w_FALSE w_UNKNOWN w_TRUE h0 n0 hn0 S__VALUES E__VALUES V_v E_TRUE O_TRUE_ordinal) e71 E_TRUE (by rw [hml]; rfl) (argsL := []) (rest := []) rfl rfl (lenOf own_pd4 rfl) (W := 0) (Nat.le_of_eq rfl) (by decide) (by decide) (hb hby at_68) (by decide) (by decide) ?_
      intro v72 T72 L72 X72 q72
      obtain ⟨rfl, N72q, K72⟩ := q72
      have N72 := Fr.app N71 N72q
      replace S_FALSE := own_sta_keep S_FALSE K72 all0
      replace S_UNKNOWN := own_sta_keep S_UNKNOWN K72 all0
      replace S_TRUE := own_sta_keep S_TRUE K72 all0
      replace S__VALUES := own_sta_keep S__VALUES K72 all0
      replace O_FALSE_ordinal := O_FALSE_ordinal.keep K72 nin0
      replace O_UNKNOWN_ordinal := O_UNKNOWN_ordinal.keep K72 nin0
      replace O_TRUE_ordinal := O_TRUE_ordinal.keep K72 nin0
      replace V_v := V_v.keep K72 nin0
      replace E_FALSE := E_FALSE.keep K72
      replace E_UNKNOWN := E_UNKNOWN.keep K72
      replace E_TRUE := E_TRUE.keep K72
      replace E__VALUES := E__VALUES.keep K72
      have hn72 : n0 ≤ T72.heap.size := Nat.le_trans hn0 K72.1
      show Go _ _ _ _ _ T72 (mkF m 71 #[.val (.int p1), .val (.int (1 : Int32)), .val (.int (1 : Int32)), .val (.ref w_TRUE), .val (.ref w_TRUE), .val (.int (1 : Int32)), .val (.int (1 : Int32)), .unset, .unset, .unset] [(.ref w_FALSE)])
      refine own_go (fun t k => XS.iloadN X72.here hx rfl (hb hby at_71) rfl k) ?_
      show Go _ _ _ _ _ T72 (mkF m 72 #[.val (.int p1), .val (.int (1 : Int32)), .val (.int (1 : Int32)), .val (.ref w_TRUE), .val (.ref w_TRUE), .val (.int (1 : Int32)), .val (.int (1 : Int32)), .unset, .unset, .unset] [(.int (1 : Int32)), (.ref w_FALSE)])
      refine own_go (fun t k => XS.ifYes X72.here hx rfl (pc0 := 72) (pc' := 79) rfl (hb hby at_72) rfl (by decide) (by decide) (by decide) k) ?_
      show Go _ _ _ _ _ T72 (mkF m 79 #[.val (.int p1), .val (.int (1 : Int32)), .val (.int (1 : Int32)), .val (.ref w_TRUE), .val (.ref w_TRUE), .val (.int (1 : Int32)), .val (.int (1 : Int32)), .unset, .unset, .unset] [(.ref w_FALSE)])
      refine own_go (fun t k => XS.iconst X72.here hx rfl (hb hby at_79) k) ?_
      show Go _ _ _ _ _ T72 (mkF m 80 #[.val (.int p1), .val (.int (1 : Int32)), .val (.int (1 : Int32)), .val (.ref w_TRUE), .val (.ref w_TRUE), .val (.int (1 : Int32)), .val (.int (1 : Int32)), .unset, .unset, .unset] [(.int (0 : Int32)), (.ref w_FALSE)])
      refine own_callS X72 hx hZ (y := (⟨"com/example/ground0/ground0/refutation/Satisfaction$Truth", "of", "(Z)Lcom/example/ground0/ground0/refutation/Satisfaction$Truth;"⟩ : MethodName)) hown (hw _ (List.mem_of_getElem? (i := 0) rfl)) (hw _ (List.mem_of_getElem? (i := 1) rfl)) (hw _ (List.mem_of_getElem? (i := 2) rfl)) (hw _ (List.mem_of_getElem? (i := 3) rfl)) (by decide) (rm1 l Z a0 hw [] (0 : Int32) w_FALSE w_UNKNOWN w_TRUE (.ref w_FALSE) T72.heap n0 hn72 S_FALSE S_UNKNOWN S_TRUE (by rw [own_f_rm1, if_pos (show (0 : Int32) = (0 : Int32) from rfl)]; try first | rfl | decide)) rfl (by rw [hml]; rfl) (argsL := [(.int (0 : Int32))]) (rest := [(.ref w_FALSE)]) rfl rfl (lenOf own_pd3 rfl) (W := 1) (Nat.le_of_eq rfl) (by decide) (by decide) (hb hby at_80) (by decide) (by decide) ?_
      intro v73 T73 L73 X73 q73
      obtain ⟨rfl, N73q, e73⟩ := q73
      have N73 := Fr.app N72 N73q
      show Go _ _ _ _ _ T73 (mkF m 83 #[.val (.int p1), .val (.int (1 : Int32)), .val (.int (1 : Int32)), .val (.ref w_TRUE), .val (.ref w_TRUE), .val (.int (1 : Int32)), .val (.int (1 : Int32)), .unset, .unset, .unset] [(.ref w_FALSE), (.ref w_FALSE)])
      refine own_go (fun t k => Jvm.RoadKit.acmp (g := (mkF m 83 #[.val (.int p1), .val (.int (1 : Int32)), .val (.int (1 : Int32)), .val (.ref w_TRUE), .val (.ref w_TRUE), .val (.int (1 : Int32)), .val (.int (1 : Int32)), .unset, .unset, .unset] [(.ref w_FALSE), (.ref w_FALSE)])) X73 hx rfl rfl rfl (pc0 := 83) (pc' := 86) (same := true) rfl (hb hby at_83) rfl (decide_eq_true rfl) (by decide) (by decide) k) ?_
      show Go _ _ _ _ _ T73 (mkF m 86 #[.val (.int p1), .val (.int (1 : Int32)), .val (.int (1 : Int32)), .val (.ref w_TRUE), .val (.ref w_TRUE), .val (.int (1 : Int32)), .val (.int (1 : Int32)), .unset, .unset, .unset] [])
      refine own_go (fun t k => XS.iconst X73.here hx rfl (hb hby at_86) k) ?_
      show Go _ _ _ _ _ T73 (mkF m 87 #[.val (.int p1), .val (.int (1 : Int32)), .val (.int (1 : Int32)), .val (.ref w_TRUE), .val (.ref w_TRUE), .val (.int (1 : Int32)), .val (.int (1 : Int32)), .unset, .unset, .unset] [(.int (1 : Int32))])
      refine own_go (fun t k => XS.goto X73.here hx rfl (pc0 := 87) (pc' := 91) rfl (hb hby at_87) (by decide) (by decide) k) ?_
      show Go _ _ _ _ _ T73 (mkF m 91 #[.val (.int p1), .val (.int (1 : Int32)), .val (.int (1 : Int32)), .val (.ref w_TRUE), .val (.ref w_TRUE), .val (.int (1 : Int32)), .val (.int (1 : Int32)), .unset, .unset, .unset] [(.int (1 : Int32))])
      refine own_go (fun t k => XS.istore X73.here hx rfl (hb hby at_91) rfl (l' := #[.val (.int p1), .val (.int (1 : Int32)), .val (.int (1 : Int32)), .val (.ref w_TRUE), .val (.ref w_TRUE), .val (.int (1 : Int32)), .val (.int (1 : Int32)), .val (.int (1 : Int32)), .unset, .unset]) rfl k) ?_
      show Go _ _ _ _ _ T73 (mkF m 93 #[.val (.int p1), .val (.int (1 : Int32)), .val (.int (1 : Int32)), .val (.ref w_TRUE), .val (.ref w_TRUE), .val (.int (1 : Int32)), .val (.int (1 : Int32)), .val (.int (1 : Int32)), .unset, .unset] [])
      refine own_go (fun t k => XS.aloadN X73.here hx rfl (hb hby at_93) rfl rfl k) ?_
      show Go _ _ _ _ _ T73 (mkF m 94 #[.val (.int p1), .val (.int (1 : Int32)), .val (.int (1 : Int32)), .val (.ref w_TRUE), .val (.ref w_TRUE), .val (.int (1 : Int32)), .val (.int (1 : Int32)), .val (.int (1 : Int32)), .unset, .unset] [(.ref w_TRUE)])
      refine own_go (fun t k => XS.aload X73.here hx rfl (hb hby at_94) rfl rfl k) ?_
      show Go _ _ _ _ _ T73 (mkF m 96 #[.val (.int p1), .val (.int (1 : Int32)), .val (.int (1 : Int32)), .val (.ref w_TRUE), .val (.ref w_TRUE), .val (.int (1 : Int32)), .val (.int (1 : Int32)), .val (.int (1 : Int32)), .unset, .unset] [(.ref w_TRUE), (.ref w_TRUE)])
      refine own_callV X73 hx hZ (y := (⟨"com/example/ground0/ground0/refutation/Satisfaction$Truth", "and", "(Lcom/example/ground0/ground0/refutation/Satisfaction$Truth;)Lcom/example/ground0/ground0/refutation/Satisfaction$Truth;"⟩ : MethodName)) hown (hw _ (List.mem_of_getElem? (i := 39) rfl)) (hw _ (List.mem_of_getElem? (i := 40) rfl)) (hw _ (List.mem_of_getElem? (i := 42) rfl)) (hw _ (List.mem_of_getElem? (i := 41) rfl)) (hw _ (List.mem_of_getElem? (i := 43) rfl)) (hw _ (List.mem_of_getElem? (i := 2) rfl)) (by decide) (rm_and l Z a0 hw [] w_TRUE w_TRUE (2 : Int32) (2 : Int32) mir (.ref w_TRUE) T72.heap n0 hn72 Mir E_TRUE O_TRUE_ordinal E_TRUE O_TRUE_ordinal (by rw [own_f_rm_and, if_neg (show ¬ ((0 : Int32) < ((2 : Int32) - (2 : Int32))) by decide)]; try first | rfl | decide)) e73 E_TRUE (by rw [hml]; rfl) (argsL := [(.ref w_TRUE)]) (rest := []) rfl rfl (lenOf own_pd5 rfl) (W := 0) (Nat.le_of_eq rfl) (by decide) (by decide) (hb hby at_96) (by decide) (by decide) ?_
      intro v74 T74 L74 X74 q74
      obtain ⟨rfl, N74q, e74⟩ := q74
      have N74 := Fr.app N73 N74q
      show Go _ _ _ _ _ T74 (mkF m 99 #[.val (.int p1), .val (.int (1 : Int32)), .val (.int (1 : Int32)), .val (.ref w_TRUE), .val (.ref w_TRUE), .val (.int (1 : Int32)), .val (.int (1 : Int32)), .val (.int (1 : Int32)), .unset, .unset] [(.ref w_TRUE)])
      refine own_go (fun t k => XS.iloadN X74.here hx rfl (hb hby at_99) rfl k) ?_
      show Go _ _ _ _ _ T74 (mkF m 100 #[.val (.int p1), .val (.int (1 : Int32)), .val (.int (1 : Int32)), .val (.ref w_TRUE), .val (.ref w_TRUE), .val (.int (1 : Int32)), .val (.int (1 : Int32)), .val (.int (1 : Int32)), .unset, .unset] [(.int (1 : Int32)), (.ref w_TRUE)])
      refine own_go (fun t k => XS.ifNo X74.here hx rfl (hb hby at_100) rfl (by decide) k) ?_
      show Go _ _ _ _ _ T74 (mkF m 103 #[.val (.int p1), .val (.int (1 : Int32)), .val (.int (1 : Int32)), .val (.ref w_TRUE), .val (.ref w_TRUE), .val (.int (1 : Int32)), .val (.int (1 : Int32)), .val (.int (1 : Int32)), .unset, .unset] [(.ref w_TRUE)])
      refine own_go (fun t k => XS.iloadN X74.here hx rfl (hb hby at_103) rfl k) ?_
      show Go _ _ _ _ _ T74 (mkF m 104 #[.val (.int p1), .val (.int (1 : Int32)), .val (.int (1 : Int32)), .val (.ref w_TRUE), .val (.ref w_TRUE), .val (.int (1 : Int32)), .val (.int (1 : Int32)), .val (.int (1 : Int32)), .unset, .unset] [(.int (1 : Int32)), (.ref w_TRUE)])
      refine own_go (fun t k => XS.ifNo X74.here hx rfl (hb hby at_104) rfl (by decide) k) ?_
      show Go _ _ _ _ _ T74 (mkF m 107 #[.val (.int p1), .val (.int (1 : Int32)), .val (.int (1 : Int32)), .val (.ref w_TRUE), .val (.ref w_TRUE), .val (.int (1 : Int32)), .val (.int (1 : Int32)), .val (.int (1 : Int32)), .unset, .unset] [(.ref w_TRUE)])
      refine own_go (fun t k => XS.iconst X74.here hx rfl (hb hby at_107) k) ?_
      show Go _ _ _ _ _ T74 (mkF m 108 #[.val (.int p1), .val (.int (1 : Int32)), .val (.int (1 : Int32)), .val (.ref w_TRUE), .val (.ref w_TRUE), .val (.int (1 : Int32)), .val (.int (1 : Int32)), .val (.int (1 : Int32)), .unset, .unset] [(.int (1 : Int32)), (.ref w_TRUE)])
      refine own_go (fun t k => XS.goto X74.here hx rfl (pc0 := 108) (pc' := 112) rfl (hb hby at_108) (by decide) (by decide) k) ?_
      show Go _ _ _ _ _ T74 (mkF m 112 #[.val (.int p1), .val (.int (1 : Int32)), .val (.int (1 : Int32)), .val (.ref w_TRUE), .val (.ref w_TRUE), .val (.int (1 : Int32)), .val (.int (1 : Int32)), .val (.int (1 : Int32)), .unset, .unset] [(.int (1 : Int32)), (.ref w_TRUE)])
      refine own_callS X74 hx hZ (y := (⟨"com/example/ground0/ground0/refutation/Satisfaction$Truth", "of", "(Z)Lcom/example/ground0/ground0/refutation/Satisfaction$Truth;"⟩ : MethodName)) hown (hw _ (List.mem_of_getElem? (i := 0) rfl)) (hw _ (List.mem_of_getElem? (i := 1) rfl)) (hw _ (List.mem_of_getElem? (i := 2) rfl)) (hw _ (List.mem_of_getElem? (i := 3) rfl)) (by decide) (rm1 l Z a0 hw [] (1 : Int32) w_FALSE w_UNKNOWN w_TRUE (.ref w_TRUE) T72.heap n0 hn72 S_FALSE S_UNKNOWN S_TRUE (by rw [own_f_rm1, if_neg (show ¬ ((1 : Int32) = (0 : Int32)) by decide)]; try first | rfl | decide)) e74 (by rw [hml]; rfl) (argsL := [(.int (1 : Int32))]) (rest := [(.ref w_TRUE)]) rfl rfl (lenOf own_pd3 rfl) (W := 1) (Nat.le_of_eq rfl) (by decide) (by decide) (hb hby at_112) (by decide) (by decide) ?_
      intro v75 T75 L75 X75 q75
      obtain ⟨rfl, N75q, e75⟩ := q75
      have N75 := Fr.app N74 N75q
      show Go _ _ _ _ _ T75 (mkF m 115 #[.val (.int p1), .val (.int (1 : Int32)), .val (.int (1 : Int32)), .val (.ref w_TRUE), .val (.ref w_TRUE), .val (.int (1 : Int32)), .val (.int (1 : Int32)), .val (.int (1 : Int32)), .unset, .unset] [(.ref w_TRUE), (.ref w_TRUE)])
      refine own_go (fun t k => Jvm.RoadKit.acmp (g := (mkF m 115 #[.val (.int p1), .val (.int (1 : Int32)), .val (.int (1 : Int32)), .val (.ref w_TRUE), .val (.ref w_TRUE), .val (.int (1 : Int32)), .val (.int (1 : Int32)), .val (.int (1 : Int32)), .unset, .unset] [(.ref w_TRUE), (.ref w_TRUE)])) X75 hx rfl rfl rfl (pc0 := 115) (pc' := 118) (same := true) rfl (hb hby at_115) rfl (decide_eq_true rfl) (by decide) (by decide) k) ?_
      show Go _ _ _ _ _ T75 (mkF m 118 #[.val (.int p1), .val (.int (1 : Int32)), .val (.int (1 : Int32)), .val (.ref w_TRUE), .val (.ref w_TRUE), .val (.int (1 : Int32)), .val (.int (1 : Int32)), .val (.int (1 : Int32)), .unset, .unset] [])
      refine own_go (fun t k => XS.iconst X75.here hx rfl (hb hby at_118) k) ?_
      show Go _ _ _ _ _ T75 (mkF m 119 #[.val (.int p1), .val (.int (1 : Int32)), .val (.int (1 : Int32)), .val (.ref w_TRUE), .val (.ref w_TRUE), .val (.int (1 : Int32)), .val (.int (1 : Int32)), .val (.int (1 : Int32)), .unset, .unset] [(.int (1 : Int32))])
      refine own_go (fun t k => XS.goto X75.here hx rfl (pc0 := 119) (pc' := 123) rfl (hb hby at_119) (by decide) (by decide) k) ?_
      show Go _ _ _ _ _ T75 (mkF m 123 #[.val (.int p1), .val (.int (1 : Int32)), .val (.int (1 : Int32)), .val (.ref w_TRUE), .val (.ref w_TRUE), .val (.int (1 : Int32)), .val (.int (1 : Int32)), .val (.int (1 : Int32)), .unset, .unset] [(.int (1 : Int32))])
      refine own_go (fun t k => XS.istore X75.here hx rfl (hb hby at_123) rfl (l' := #[.val (.int p1), .val (.int (1 : Int32)), .val (.int (1 : Int32)), .val (.ref w_TRUE), .val (.ref w_TRUE), .val (.int (1 : Int32)), .val (.int (1 : Int32)), .val (.int (1 : Int32)), .val (.int (1 : Int32)), .unset]) rfl k) ?_
      show Go _ _ _ _ _ T75 (mkF m 125 #[.val (.int p1), .val (.int (1 : Int32)), .val (.int (1 : Int32)), .val (.ref w_TRUE), .val (.ref w_TRUE), .val (.int (1 : Int32)), .val (.int (1 : Int32)), .val (.int (1 : Int32)), .val (.int (1 : Int32)), .unset] [])
      refine own_go (fun t k => XS.aloadN X75.here hx rfl (hb hby at_125) rfl rfl k) ?_
      show Go _ _ _ _ _ T75 (mkF m 126 #[.val (.int p1), .val (.int (1 : Int32)), .val (.int (1 : Int32)), .val (.ref w_TRUE), .val (.ref w_TRUE), .val (.int (1 : Int32)), .val (.int (1 : Int32)), .val (.int (1 : Int32)), .val (.int (1 : Int32)), .unset] [(.ref w_TRUE)])
      refine own_go (fun t k => XS.aload X75.here hx rfl (hb hby at_126) rfl rfl k) ?_
      show Go _ _ _ _ _ T75 (mkF m 128 #[.val (.int p1), .val (.int (1 : Int32)), .val (.int (1 : Int32)), .val (.ref w_TRUE), .val (.ref w_TRUE), .val (.int (1 : Int32)), .val (.int (1 : Int32)), .val (.int (1 : Int32)), .val (.int (1 : Int32)), .unset] [(.ref w_TRUE), (.ref w_TRUE)])
      refine own_callV X75 hx hZ (y := (⟨"com/example/ground0/ground0/refutation/Satisfaction$Truth", "or", "(Lcom/example/ground0/ground0/refutation/Satisfaction$Truth;)Lcom/example/ground0/ground0/refutation/Satisfaction$Truth;"⟩ : MethodName)) hown (hw _ (List.mem_of_getElem? (i := 56) rfl)) (hw _ (List.mem_of_getElem? (i := 57) rfl)) (hw _ (List.mem_of_getElem? (i := 59) rfl)) (hw _ (List.mem_of_getElem? (i := 58) rfl)) (hw _ (List.mem_of_getElem? (i := 60) rfl)) (hw _ (List.mem_of_getElem? (i := 2) rfl)) (by decide) (rm_or l Z a0 hw [] w_TRUE w_TRUE (2 : Int32) (2 : Int32) mir (.ref w_TRUE) T72.heap n0 hn72 Mir E_TRUE O_TRUE_ordinal E_TRUE O_TRUE_ordinal (by rw [own_f_rm_or, if_neg (show ¬ (((2 : Int32) - (2 : Int32)) < (0 : Int32)) by decide)]; try first | rfl | decide)) e75 E_TRUE (by rw [hml]; rfl) (argsL := [(.ref w_TRUE)]) (rest := []) rfl rfl (lenOf own_pd5 rfl) (W := 0) (Nat.le_of_eq rfl) (by decide) (by decide) (hb hby at_128) (by decide) (by decide) ?_
      intro v76 T76 L76 X76 q76
      obtain ⟨rfl, N76q, e76⟩ := q76
      have N76 := Fr.app N75 N76q
      show Go _ _ _ _ _ T76 (mkF m 131 #[.val (.int p1), .val (.int (1 : Int32)), .val (.int (1 : Int32)), .val (.ref w_TRUE), .val (.ref w_TRUE), .val (.int (1 : Int32)), .val (.int (1 : Int32)), .val (.int (1 : Int32)), .val (.int (1 : Int32)), .unset] [(.ref w_TRUE)])
      refine own_go (fun t k => XS.iloadN X76.here hx rfl (hb hby at_131) rfl k) ?_
      show Go _ _ _ _ _ T76 (mkF m 132 #[.val (.int p1), .val (.int (1 : Int32)), .val (.int (1 : Int32)), .val (.ref w_TRUE), .val (.ref w_TRUE), .val (.int (1 : Int32)), .val (.int (1 : Int32)), .val (.int (1 : Int32)), .val (.int (1 : Int32)), .unset] [(.int (1 : Int32)), (.ref w_TRUE)])
      refine own_go (fun t k => XS.ifYes X76.here hx rfl (pc0 := 132) (pc' := 139) rfl (hb hby at_132) rfl (by decide) (by decide) (by decide) k) ?_
      show Go _ _ _ _ _ T76 (mkF m 139 #[.val (.int p1), .val (.int (1 : Int32)), .val (.int (1 : Int32)), .val (.ref w_TRUE), .val (.ref w_TRUE), .val (.int (1 : Int32)), .val (.int (1 : Int32)), .val (.int (1 : Int32)), .val (.int (1 : Int32)), .unset] [(.ref w_TRUE)])
      refine own_go (fun t k => XS.iconst X76.here hx rfl (hb hby at_139) k) ?_
      show Go _ _ _ _ _ T76 (mkF m 140 #[.val (.int p1), .val (.int (1 : Int32)), .val (.int (1 : Int32)), .val (.ref w_TRUE), .val (.ref w_TRUE), .val (.int (1 : Int32)), .val (.int (1 : Int32)), .val (.int (1 : Int32)), .val (.int (1 : Int32)), .unset] [(.int (1 : Int32)), (.ref w_TRUE)])
      refine own_go (fun t k => XS.goto X76.here hx rfl (pc0 := 140) (pc' := 144) rfl (hb hby at_140) (by decide) (by decide) k) ?_
      show Go _ _ _ _ _ T76 (mkF m 144 #[.val (.int p1), .val (.int (1 : Int32)), .val (.int (1 : Int32)), .val (.ref w_TRUE), .val (.ref w_TRUE), .val (.int (1 : Int32)), .val (.int (1 : Int32)), .val (.int (1 : Int32)), .val (.int (1 : Int32)), .unset] [(.int (1 : Int32)), (.ref w_TRUE)])
      refine own_callS X76 hx hZ (y := (⟨"com/example/ground0/ground0/refutation/Satisfaction$Truth", "of", "(Z)Lcom/example/ground0/ground0/refutation/Satisfaction$Truth;"⟩ : MethodName)) hown (hw _ (List.mem_of_getElem? (i := 0) rfl)) (hw _ (List.mem_of_getElem? (i := 1) rfl)) (hw _ (List.mem_of_getElem? (i := 2) rfl)) (hw _ (List.mem_of_getElem? (i := 3) rfl)) (by decide) (rm1 l Z a0 hw [] (1 : Int32) w_FALSE w_UNKNOWN w_TRUE (.ref w_TRUE) T72.heap n0 hn72 S_FALSE S_UNKNOWN S_TRUE (by rw [own_f_rm1, if_neg (show ¬ ((1 : Int32) = (0 : Int32)) by decide)]; try first | rfl | decide)) e76 (by rw [hml]; rfl) (argsL := [(.int (1 : Int32))]) (rest := [(.ref w_TRUE)]) rfl rfl (lenOf own_pd3 rfl) (W := 1) (Nat.le_of_eq rfl) (by decide) (by decide) (hb hby at_144) (by decide) (by decide) ?_
      intro v77 T77 L77 X77 q77
      obtain ⟨rfl, N77q, e77⟩ := q77
      have N77 := Fr.app N76 N77q
      show Go _ _ _ _ _ T77 (mkF m 147 #[.val (.int p1), .val (.int (1 : Int32)), .val (.int (1 : Int32)), .val (.ref w_TRUE), .val (.ref w_TRUE), .val (.int (1 : Int32)), .val (.int (1 : Int32)), .val (.int (1 : Int32)), .val (.int (1 : Int32)), .unset] [(.ref w_TRUE), (.ref w_TRUE)])
      refine own_go (fun t k => Jvm.RoadKit.acmp (g := (mkF m 147 #[.val (.int p1), .val (.int (1 : Int32)), .val (.int (1 : Int32)), .val (.ref w_TRUE), .val (.ref w_TRUE), .val (.int (1 : Int32)), .val (.int (1 : Int32)), .val (.int (1 : Int32)), .val (.int (1 : Int32)), .unset] [(.ref w_TRUE), (.ref w_TRUE)])) X77 hx rfl rfl rfl (pc0 := 147) (pc' := 150) (same := true) rfl (hb hby at_147) rfl (decide_eq_true rfl) (by decide) (by decide) k) ?_
      show Go _ _ _ _ _ T77 (mkF m 150 #[.val (.int p1), .val (.int (1 : Int32)), .val (.int (1 : Int32)), .val (.ref w_TRUE), .val (.ref w_TRUE), .val (.int (1 : Int32)), .val (.int (1 : Int32)), .val (.int (1 : Int32)), .val (.int (1 : Int32)), .unset] [])
      refine own_go (fun t k => XS.iconst X77.here hx rfl (hb hby at_150) k) ?_
      show Go _ _ _ _ _ T77 (mkF m 151 #[.val (.int p1), .val (.int (1 : Int32)), .val (.int (1 : Int32)), .val (.ref w_TRUE), .val (.ref w_TRUE), .val (.int (1 : Int32)), .val (.int (1 : Int32)), .val (.int (1 : Int32)), .val (.int (1 : Int32)), .unset] [(.int (1 : Int32))])
      refine own_go (fun t k => XS.goto X77.here hx rfl (pc0 := 151) (pc' := 155) rfl (hb hby at_151) (by decide) (by decide) k) ?_
      show Go _ _ _ _ _ T77 (mkF m 155 #[.val (.int p1), .val (.int (1 : Int32)), .val (.int (1 : Int32)), .val (.ref w_TRUE), .val (.ref w_TRUE), .val (.int (1 : Int32)), .val (.int (1 : Int32)), .val (.int (1 : Int32)), .val (.int (1 : Int32)), .unset] [(.int (1 : Int32))])
      refine own_go (fun t k => XS.istore X77.here hx rfl (hb hby at_155) rfl (l' := #[.val (.int p1), .val (.int (1 : Int32)), .val (.int (1 : Int32)), .val (.ref w_TRUE), .val (.ref w_TRUE), .val (.int (1 : Int32)), .val (.int (1 : Int32)), .val (.int (1 : Int32)), .val (.int (1 : Int32)), .val (.int (1 : Int32))]) rfl k) ?_
      show Go _ _ _ _ _ T77 (mkF m 157 #[.val (.int p1), .val (.int (1 : Int32)), .val (.int (1 : Int32)), .val (.ref w_TRUE), .val (.ref w_TRUE), .val (.int (1 : Int32)), .val (.int (1 : Int32)), .val (.int (1 : Int32)), .val (.int (1 : Int32)), .val (.int (1 : Int32))] [])
      refine own_go (fun t k => XS.iload X77.here hx rfl (hb hby at_157) rfl k) ?_
      show Go _ _ _ _ _ T77 (mkF m 159 #[.val (.int p1), .val (.int (1 : Int32)), .val (.int (1 : Int32)), .val (.ref w_TRUE), .val (.ref w_TRUE), .val (.int (1 : Int32)), .val (.int (1 : Int32)), .val (.int (1 : Int32)), .val (.int (1 : Int32)), .val (.int (1 : Int32))] [(.int (1 : Int32))])
      refine own_go (fun t k => XS.ifNo X77.here hx rfl (hb hby at_159) rfl (by decide) k) ?_
      show Go _ _ _ _ _ T77 (mkF m 162 #[.val (.int p1), .val (.int (1 : Int32)), .val (.int (1 : Int32)), .val (.ref w_TRUE), .val (.ref w_TRUE), .val (.int (1 : Int32)), .val (.int (1 : Int32)), .val (.int (1 : Int32)), .val (.int (1 : Int32)), .val (.int (1 : Int32))] [])
      refine own_go (fun t k => XS.iload X77.here hx rfl (hb hby at_162) rfl k) ?_
      show Go _ _ _ _ _ T77 (mkF m 164 #[.val (.int p1), .val (.int (1 : Int32)), .val (.int (1 : Int32)), .val (.ref w_TRUE), .val (.ref w_TRUE), .val (.int (1 : Int32)), .val (.int (1 : Int32)), .val (.int (1 : Int32)), .val (.int (1 : Int32)), .val (.int (1 : Int32))] [(.int (1 : Int32))])
      refine own_go (fun t k => XS.ifNo X77.here hx rfl (hb hby at_164) rfl (by decide) k) ?_
      show Go _ _ _ _ _ T77 (mkF m 167 #[.val (.int p1), .val (.int (1 : Int32)), .val (.int (1 : Int32)), .val (.ref w_TRUE), .val (.ref w_TRUE), .val (.int (1 : Int32)), .val (.int (1 : Int32)), .val (.int (1 : Int32)), .val (.int (1 : Int32)), .val (.int (1 : Int32))] [])
      refine own_go (fun t k => XS.iload X77.here hx rfl (hb hby at_167) rfl k) ?_
      show Go _ _ _ _ _ T77 (mkF m 169 #[.val (.int p1), .val (.int (1 : Int32)), .val (.int (1 : Int32)), .val (.ref w_TRUE), .val (.ref w_TRUE), .val (.int (1 : Int32)), .val (.int (1 : Int32)), .val (.int (1 : Int32)), .val (.int (1 : Int32)), .val (.int (1 : Int32))] [(.int (1 : Int32))])
      refine own_go (fun t k => XS.ifNo X77.here hx rfl (hb hby at_169) rfl (by decide) k) ?_
      show Go _ _ _ _ _ T77 (mkF m 172 #[.val (.int p1), .val (.int (1 : Int32)), .val (.int (1 : Int32)), .val (.ref w_TRUE), .val (.ref w_TRUE), .val (.int (1 : Int32)), .val (.int (1 : Int32)), .val (.int (1 : Int32)), .val (.int (1 : Int32)), .val (.int (1 : Int32))] [])
      refine own_go (fun t k => XS.iload X77.here hx rfl (hb hby at_172) rfl k) ?_
      show Go _ _ _ _ _ T77 (mkF m 174 #[.val (.int p1), .val (.int (1 : Int32)), .val (.int (1 : Int32)), .val (.ref w_TRUE), .val (.ref w_TRUE), .val (.int (1 : Int32)), .val (.int (1 : Int32)), .val (.int (1 : Int32)), .val (.int (1 : Int32)), .val (.int (1 : Int32))] [(.int (1 : Int32))])
      refine own_go (fun t k => XS.ifNo X77.here hx rfl (hb hby at_174) rfl (by decide) k) ?_
      show Go _ _ _ _ _ T77 (mkF m 177 #[.val (.int p1), .val (.int (1 : Int32)), .val (.int (1 : Int32)), .val (.ref w_TRUE), .val (.ref w_TRUE), .val (.int (1 : Int32)), .val (.int (1 : Int32)), .val (.int (1 : Int32)), .val (.int (1 : Int32)), .val (.int (1 : Int32))] [])
      refine own_go (fun t k => XS.iload X77.here hx rfl (hb hby at_177) rfl k) ?_
      show Go _ _ _ _ _ T77 (mkF m 179 #[.val (.int p1), .val (.int (1 : Int32)), .val (.int (1 : Int32)), .val (.ref w_TRUE), .val (.ref w_TRUE), .val (.int (1 : Int32)), .val (.int (1 : Int32)), .val (.int (1 : Int32)), .val (.int (1 : Int32)), .val (.int (1 : Int32))] [(.int (1 : Int32))])
      refine own_go (fun t k => XS.ifNo X77.here hx rfl (hb hby at_179) rfl (by decide) k) ?_
      show Go _ _ _ _ _ T77 (mkF m 182 #[.val (.int p1), .val (.int (1 : Int32)), .val (.int (1 : Int32)), .val (.ref w_TRUE), .val (.ref w_TRUE), .val (.int (1 : Int32)), .val (.int (1 : Int32)), .val (.int (1 : Int32)), .val (.int (1 : Int32)), .val (.int (1 : Int32))] [])
      refine own_go (fun t k => XS.iconst X77.here hx rfl (hb hby at_182) k) ?_
      show Go _ _ _ _ _ T77 (mkF m 183 #[.val (.int p1), .val (.int (1 : Int32)), .val (.int (1 : Int32)), .val (.ref w_TRUE), .val (.ref w_TRUE), .val (.int (1 : Int32)), .val (.int (1 : Int32)), .val (.int (1 : Int32)), .val (.int (1 : Int32)), .val (.int (1 : Int32))] [(.int (1 : Int32))])
      refine own_go (fun t k => XS.goto X77.here hx rfl (pc0 := 183) (pc' := 187) rfl (hb hby at_183) (by decide) (by decide) k) ?_
      show Go _ _ _ _ _ T77 (mkF m 187 #[.val (.int p1), .val (.int (1 : Int32)), .val (.int (1 : Int32)), .val (.ref w_TRUE), .val (.ref w_TRUE), .val (.int (1 : Int32)), .val (.int (1 : Int32)), .val (.int (1 : Int32)), .val (.int (1 : Int32)), .val (.int (1 : Int32))] [(.int (1 : Int32))])
      refine own_retN X77 hx (own_lvN X77 hlk (by decide) (by decide)) (t := .boolean) hret (by simp) (hb hby at_187) ?_
      exact ⟨rfl, N77⟩
set_option maxRecDepth 65536 in
set_option maxHeartbeats 40000000 in
theorem comes_1 {Post : Tables → Env → Array Value → State → Outcome → State → Prop} (hpost : ∀ tb e args s v u, (limb_1_1.after args s (.returned v) u = true ∧ limb_1_2.after args s (.returned v) u = true ∧ True) → FrameEnd s (.returned v) u (Jvm.fieldLocs frame_1_writes args s ++ Jvm.arrayLocs frame_1_arrays args s ++ Jvm.staticLocs frame_1_statics s) 16 128 → Post tb e args s (.returned v) u) :
    ArmFor flags0 classFile x code maxLocals ret World_1 tables_1 room_1 Calls_1 rest_1 Pre_1 Post := by
  intro l hfl _ _ p e ha hc hk s m args below hf hA hF happ hP
  obtain ⟨hcalls, hrest, hpre⟩ := hP
  obtain ⟨-, -, -, hnamed, -, -, -, hat⟩ := (Spec.applies_iff hf).mp happ
  obtain ⟨hg, hn⟩ := and_e (Cond.before_iff.mp (show (Jvm.Cond.and given_1 narrow_1).before args s = true from hpre))
  obtain ⟨g1, g2⟩ := and_e hg
  obtain ⟨w0, rfl⟩ : ∃ w0 : Value, args = #[w0] := by
    have hs : args.size = 1 := by simpa [Cond.value, given_1] using g1
    obtain ⟨L⟩ := args
    match L, hs with
    | [w0], _ => exact ⟨w0, rfl⟩
  have hw := fun d (hd : d ∈ tables_1) => atoms_spec (ws := Jvm.Cond.code x code maxLocals ret :: tables_1) hat d (List.mem_cons_of_mem _ hd)
  obtain ⟨i0, ei0⟩ := is_v g2
  obtain rfl : w0 = (.int i0) := Option.some.inj ei0
  obtain ⟨g3, g4⟩ := and_e hn
  obtain ⟨g5, g6⟩ := and_e g4
  obtain ⟨g7, g8⟩ := and_e g6
  obtain ⟨g9, g10⟩ := and_e g8
  obtain ⟨g11, g12⟩ := and_e g10
  obtain ⟨g13, g14⟩ := and_e g12
  obtain ⟨g15, g16⟩ := and_e g14
  obtain ⟨g17, g18⟩ := and_e g16
  obtain ⟨g19, g20⟩ := and_e g18
  obtain ⟨g21, g22⟩ := and_e g20
  obtain ⟨g23, g24⟩ := and_e g22
  obtain ⟨w_FALSE, ew_FALSE⟩ := exa_v g3
  have S_FALSE : Sta s s.heap "com/example/ground0/ground0/refutation/Satisfaction$Truth" "FALSE" "Lcom/example/ground0/ground0/refutation/Satisfaction$Truth;" (.ref w_FALSE) := Sta.start ew_FALSE (Or.inr ⟨(hw _ (List.mem_of_getElem? (i := 2) rfl)), (hw _ (List.mem_of_getElem? (i := 5) rfl))⟩)
  have E_FALSE : Exa s s.heap w_FALSE "com/example/ground0/ground0/refutation/Satisfaction$Truth" := Exa.start ew_FALSE g3
  have O_FALSE_ordinal : Fld s s.heap w_FALSE "java/lang/Enum" "ordinal" "I" (.int (0 : Int32)) := own_fld ew_FALSE g7
  obtain ⟨w_UNKNOWN, ew_UNKNOWN⟩ := exa_v g5
  have S_UNKNOWN : Sta s s.heap "com/example/ground0/ground0/refutation/Satisfaction$Truth" "UNKNOWN" "Lcom/example/ground0/ground0/refutation/Satisfaction$Truth;" (.ref w_UNKNOWN) := Sta.start ew_UNKNOWN (Or.inr ⟨(hw _ (List.mem_of_getElem? (i := 2) rfl)), (hw _ (List.mem_of_getElem? (i := 7) rfl))⟩)
  have E_UNKNOWN : Exa s s.heap w_UNKNOWN "com/example/ground0/ground0/refutation/Satisfaction$Truth" := Exa.start ew_UNKNOWN g5
  have O_UNKNOWN_ordinal : Fld s s.heap w_UNKNOWN "java/lang/Enum" "ordinal" "I" (.int (1 : Int32)) := own_fld ew_UNKNOWN g9
  obtain ⟨w_TRUE, ew_TRUE⟩ := exa_v g11
  have S_TRUE : Sta s s.heap "com/example/ground0/ground0/refutation/Satisfaction$Truth" "TRUE" "Lcom/example/ground0/ground0/refutation/Satisfaction$Truth;" (.ref w_TRUE) := Sta.start ew_TRUE (Or.inr ⟨(hw _ (List.mem_of_getElem? (i := 2) rfl)), (hw _ (List.mem_of_getElem? (i := 9) rfl))⟩)
  have E_TRUE : Exa s s.heap w_TRUE "com/example/ground0/ground0/refutation/Satisfaction$Truth" := Exa.start ew_TRUE g11
  have O_TRUE_ordinal : Fld s s.heap w_TRUE "java/lang/Enum" "ordinal" "I" (.int (2 : Int32)) := own_fld ew_TRUE g13
  obtain ⟨w__VALUES, ew__VALUES⟩ := exa_v g17
  have S__VALUES : Sta s s.heap "com/example/ground0/ground0/refutation/Satisfaction$Truth" "$VALUES" "[Lcom/example/ground0/ground0/refutation/Satisfaction$Truth;" (.ref w__VALUES) := Sta.start ew__VALUES (Or.inl (hw _ (List.mem_of_getElem? (i := 27) rfl)))
  have E__VALUES : Exa s s.heap w__VALUES "[Lcom/example/ground0/ground0/refutation/Satisfaction$Truth;" := Exa.start ew__VALUES g17
  have hfit : Fit s := fun {y c} hc i hi => by
    obtain ⟨ha, rfl⟩ := Array.getElem?_eq_some_iff.mp hc
    have q := List.all_eq_true.mp ((Array.all_eq_true_iff_forall_mem.mp hF) _ (Array.getElem_mem ha)) i (List.mem_range.mpr hi)
    simpa [Array.getElem?_eq_getElem hi] using q
  obtain ⟨kv, V_v⟩ := own_vals hfit ew__VALUES g15 g19 ew_FALSE ew_UNKNOWN ew_TRUE g21 g23 g24
  obtain ⟨ci, kk, mir, m1, m2, m3, -⟩ := (show Jvm.D.MirrorMade s "com/example/ground0/ground0/refutation/Satisfaction$Truth" from hcalls.1)
  have Mir : OwnMir s "com/example/ground0/ground0/refutation/Satisfaction$Truth" mir := ⟨ci, kk, m1, m2, m3⟩
  obtain ⟨n, o, h1, h2, h3, _, L, rfl, ⟨rfl, N⟩, hq⟩ := rm0 l s _ hw tables_1 i0 w_FALSE w_UNKNOWN w_TRUE w__VALUES kv mir s.heap s.heap.size (Nat.le_refl _) S_FALSE E_FALSE O_FALSE_ordinal S_UNKNOWN E_UNKNOWN O_UNKNOWN_ordinal S_TRUE E_TRUE O_TRUE_ordinal S__VALUES E__VALUES V_v Mir p e ha hc hk s m _ below hf ((Spec.applies_iff_loose hf).mp happ).1 ⟨rfl, State.Warmed39.refl s, rfl⟩ trivial
  refine ⟨n, _, h1, h2, h3, hpost _ _ _ _ _ _ ⟨Cond.after_iff.mpr rfl, Cond.after_iff.mpr (eq_i res_at (Term.int_eval (1)) rfl), trivial⟩ ⟨hq.1, hq.2.1, (hq.2.2.sift fun y hy => Or.inr (N y hy)).mono (by decide) (by decide)⟩⟩
theorem main_1_1 : Claimed_1_1 := comes_1 fun _ _ _ _ _ _ h hF => ⟨h.1, hF⟩
theorem main_1_2 : Claimed_1_2 := comes_1 fun _ _ _ _ _ _ h hF => ⟨h.2.1, hF⟩
end Jvm.Pilot.@@N@@
namespace Jvm.Pilot.@@N@@
open Jvm Jvm.ClassFile Sem Op Lib Jvm.Free Jvm.Stand Jvm.Pilot.@@N@@.Jvm.D
/-! MADE BY PROGRAM (witnessworld.py) out of the Statement's table words and the real class files: 14 classes; the members and pool entries that the words name. The judged class is class 1, her method 1. -/
namespace start1
open Jvm.ClassFile
def u (s : String) : CpInfo := .utf8 (stringToUtf16 s)
/-- a pool by its gaps: so many unusable entries, then the entry; so many at the end -/
def gap : Nat → List CpInfo → List CpInfo
  | 0, r => r
  | n + 1, r => .unusable :: gap n r
def poolList (es : List (Nat × CpInfo)) (last : Nat) : List CpInfo := es.foldr (fun e r => gap e.1 (e.2 :: r)) (gap last [])
def pool (es : List (Nat × CpInfo)) (last : Nat) : Array CpInfo := ⟨poolList es last⟩
def fileOf (pool : Array CpInfo) (this : Nat) (attrs : Array Attribute := #[]) (ms : Array MethodInfo := #[]) (fl : Nat := 33) (sup : Nat := 0) (ifs : Array Nat := #[]) (fds : Array FieldInfo := #[]) : ClassFile where
  minorVersion := 0
  majorVersion := 65
  constantPool := pool
  accessFlags := fl
  thisClass := this
  superClass := sup
  interfaces := ifs
  fields := fds
  methods := ms
  attributes := attrs
def plain (name : String) (sup : Option ClassId) : Class where
  name := name
  kind := .ordinary
  loader := none
  accessFlags := 33
  super := sup
  interfaces := #[]
  cf := none
  fields := #[]
  methods := #[]
  instanceTypes := #[]
  staticTypes := #[]
  resolved := #[]
  callSites := []
  init := .initialized
  statics := none
  mirror := none

def pool0 : Array CpInfo := pool [(5, u "<init>"), (0, u "()V"), (1, .class_ 10), (1, u "java/lang/Object"), (0, u "getClass"), (0, u "()Ljava/lang/Class;"), (83, u "clone"), (0, u "()Ljava/lang/Object;")] 26

def k0m0 : Method := { name := "<init>", desc := "()V", sig := { parameters := [], returnType := none }, accessFlags := 1, code := none }
def k0m1 : Method := { name := "getClass", desc := "()Ljava/lang/Class;", sig := { parameters := [], returnType := some (.object "java/lang/Class") }, accessFlags := 273, code := none }
def k0m2 : Method := { name := "clone", desc := "()Ljava/lang/Object;", sig := { parameters := [], returnType := some (.object "java/lang/Object") }, accessFlags := 260, code := none }
/-- java/lang/Object -/
def k0 : Class := { plain "java/lang/Object" none with
  accessFlags := 33
  interfaces := #[]
  cf := some (fileOf pool0 8 #[] #[{ accessFlags := 1, nameIndex := 5, descriptorIndex := 6, attributes := #[] }, { accessFlags := 273, nameIndex := 11, descriptorIndex := 12, attributes := #[] }, { accessFlags := 260, nameIndex := 96, descriptorIndex := 97, attributes := #[] }] 33 0 #[] #[])
  fields := #[]
  methods := #[k0m0, k0m1, k0m2]
  instanceTypes := #[]
  staticTypes := #[]
  resolved := Array.replicate 124 none
  statics := none }

def pool1 : Array CpInfo := pool [(2, .class_ 4), (1, u "java/lang/Object"), (0, u "<init>"), (0, u "()V"), (0, .methodref 8 9), (0, .class_ 10), (0, .nameAndType 11 12), (0, u "com/example/ground0/ground0/refutation/Satisfaction$Truth"), (0, u "of"), (0, u "(Z)Lcom/example/ground0/ground0/refutation/Satisfaction$Truth;"), (0, .fieldref 8 14), (0, .nameAndType 15 16), (0, u "UNKNOWN"), (0, u "Lcom/example/ground0/ground0/refutation/Satisfaction$Truth;"), (0, .methodref 8 18), (0, .nameAndType 19 20), (0, u "not"), (0, u "()Lcom/example/ground0/ground0/refutation/Satisfaction$Truth;"), (0, .methodref 8 22), (0, .nameAndType 23 24), (0, u "and"), (0, u "(Lcom/example/ground0/ground0/refutation/Satisfaction$Truth;)Lcom/example/ground0/ground0/refutation/Satisfaction$Truth;"), (0, .methodref 8 26), (0, .nameAndType 27 24), (0, u "or"), (0, .class_ 29), (0, u "com/example/ground0/ground0/refutation/SatisfactionOfPinLaw"), (2, u "law"), (0, u "(I)Z")] 7

def k1m0 : Method := { name := "<init>", desc := "()V", sig := { parameters := [], returnType := none }, accessFlags := 1, code := none }
def k1c1 : Code := { maxStack := 2, maxLocals := 10, code := code, exceptionTable := #[], attributes := #[] }
def k1m1 : Method := { name := "law", desc := "(I)Z", sig := { parameters := [.int], returnType := some .boolean }, accessFlags := 9, code := some k1c1 }
/-- com/example/ground0/ground0/refutation/SatisfactionOfPinLaw -/
def k1 : Class := { plain "com/example/ground0/ground0/refutation/SatisfactionOfPinLaw" (some 0) with
  accessFlags := 49
  interfaces := #[]
  cf := some (fileOf pool1 28 #[] #[{ accessFlags := 1, nameIndex := 5, descriptorIndex := 6, attributes := #[] }, { accessFlags := 9, nameIndex := 32, descriptorIndex := 33, attributes := #[] }] 49 2 #[] #[])
  fields := #[]
  methods := #[k1m0, k1m1]
  instanceTypes := #[]
  staticTypes := #[]
  resolved := Array.replicate 41 none
  statics := none }

def pool2 : Array CpInfo := pool [(1, .class_ 2), (0, u "java/lang/constant/Constable"), (0, .class_ 4), (0, u "java/lang/Object")] 6

/-- java/lang/constant/Constable -/
def k2 : Class := { plain "java/lang/constant/Constable" (some 0) with
  accessFlags := 1537
  interfaces := #[]
  cf := some (fileOf pool2 1 #[] #[] 1537 3 #[] #[])
  fields := #[]
  methods := #[]
  instanceTypes := #[]
  staticTypes := #[]
  resolved := Array.replicate 11 none
  statics := none }

def pool3 : Array CpInfo := pool [(1, .class_ 2), (0, u "java/lang/Comparable"), (0, .class_ 4), (0, u "java/lang/Object")] 7

/-- java/lang/Comparable -/
def k3 : Class := { plain "java/lang/Comparable" (some 0) with
  accessFlags := 1537
  interfaces := #[]
  cf := some (fileOf pool3 1 #[] #[] 1537 3 #[] #[])
  fields := #[]
  methods := #[]
  instanceTypes := #[]
  staticTypes := #[]
  resolved := Array.replicate 12 none
  statics := none }

def pool4 : Array CpInfo := pool [(1, .class_ 2), (0, u "java/io/Serializable"), (0, .class_ 4), (0, u "java/lang/Object")] 2

/-- java/io/Serializable -/
def k4 : Class := { plain "java/io/Serializable" (some 0) with
  accessFlags := 1537
  interfaces := #[]
  cf := some (fileOf pool4 1 #[] #[] 1537 3 #[] #[])
  fields := #[]
  methods := #[]
  instanceTypes := #[]
  staticTypes := #[]
  resolved := Array.replicate 7 none
  statics := none }

def pool5 : Array CpInfo := pool [(2, .class_ 4), (1, u "java/lang/Enum"), (0, u "name"), (0, u "Ljava/lang/String;"), (0, .fieldref 2 8), (0, .nameAndType 9 10), (0, u "ordinal"), (0, u "I"), (1, .class_ 14), (1, u "java/lang/Object"), (4, u "hash"), (9, .methodref 12 30), (0, .nameAndType 31 32), (0, u "getClass"), (0, u "()Ljava/lang/Class;"), (70, u "compareTo"), (0, u "(Ljava/lang/Enum;)I"), (1, .class_ 108), (1, u "java/lang/Enum$EnumDesc"), (2, .class_ 112), (0, u "java/lang/constant/Constable"), (0, .class_ 114), (0, u "java/lang/Comparable"), (0, .class_ 116), (0, u "java/io/Serializable"), (9, u "()I")] 77

def k5c0 : Code := { maxStack := 1, maxLocals := 1, code := jdk_37_method_2_code, exceptionTable := #[], attributes := #[] }
def k5m0 : Method := { name := "ordinal", desc := "()I", sig := { parameters := [], returnType := some .int }, accessFlags := 17, code := some k5c0 }
def k5c1 : Code := { maxStack := 2, maxLocals := 4, code := jdk_37_method_8_code, exceptionTable := #[], attributes := #[] }
def k5m1 : Method := { name := "compareTo", desc := "(Ljava/lang/Enum;)I", sig := { parameters := [(.object "java/lang/Enum")], returnType := some .int }, accessFlags := 17, code := some k5c1 }
/-- java/lang/Enum -/
def k5 : Class := { plain "java/lang/Enum" (some 0) with
  accessFlags := 1057
  interfaces := #[2, 3, 4]
  cf := some (fileOf pool5 2 #[.nestMembers #[106]] #[{ accessFlags := 17, nameIndex := 9, descriptorIndex := 126, attributes := #[] }, { accessFlags := 17, nameIndex := 103, descriptorIndex := 104, attributes := #[] }] 1057 12 #[111, 113, 115] #[{ accessFlags := 18, nameIndex := 5, descriptorIndex := 6, attributes := #[] }, { accessFlags := 18, nameIndex := 9, descriptorIndex := 10, attributes := #[] }, { accessFlags := 2, nameIndex := 19, descriptorIndex := 10, attributes := #[] }])
  fields := #[{ name := "name", type := (.object "java/lang/String"), accessFlags := 18, slot := 0, constantValue := 0 }, { name := "ordinal", type := .int, accessFlags := 18, slot := 1, constantValue := 0 }, { name := "hash", type := .int, accessFlags := 2, slot := 2, constantValue := 0 }]
  methods := #[k5m0, k5m1]
  instanceTypes := #[(.object "java/lang/String"), .int, .int]
  staticTypes := #[]
  resolved := Array.replicate 204 none
  statics := none }

def pool6 : Array CpInfo := pool [(1, .class_ 2), (0, u "com/example/ground0/ground0/refutation/Satisfaction$Truth"), (0, .fieldref 1 4), (0, .nameAndType 5 6), (0, u "FALSE"), (0, u "Lcom/example/ground0/ground0/refutation/Satisfaction$Truth;"), (2, u "UNKNOWN"), (0, .fieldref 1 11), (0, .nameAndType 12 6), (0, u "TRUE"), (0, .fieldref 1 14), (0, .nameAndType 15 16), (0, u "$VALUES"), (0, u "[Lcom/example/ground0/ground0/refutation/Satisfaction$Truth;"), (0, .methodref 18 19), (0, .class_ 16), (0, .nameAndType 20 21), (0, u "clone"), (0, u "()Ljava/lang/Object;"), (1, .class_ 25), (1, u "java/lang/Enum"), (6, .methodref 1 33), (0, .nameAndType 34 35), (0, u "values"), (0, u "()[Lcom/example/ground0/ground0/refutation/Satisfaction$Truth;"), (0, .methodref 1 37), (0, .nameAndType 38 39), (0, u "ordinal"), (0, u "()I"), (0, .methodref 1 41), (0, .nameAndType 42 43), (0, u "compareTo"), (0, u "(Ljava/lang/Enum;)I"), (13, u "of"), (0, u "(Z)Lcom/example/ground0/ground0/refutation/Satisfaction$Truth;"), (1, u "not"), (0, u "()Lcom/example/ground0/ground0/refutation/Satisfaction$Truth;"), (0, u "and"), (0, u "(Lcom/example/ground0/ground0/refutation/Satisfaction$Truth;)Lcom/example/ground0/ground0/refutation/Satisfaction$Truth;"), (0, u "or"), (5, .class_ 71), (0, u "com/example/ground0/ground0/refutation/Satisfaction")] 2

def k6c0 : Code := { maxStack := 1, maxLocals := 0, code := prog_98_method_1_code, exceptionTable := #[], attributes := #[] }
def k6m0 : Method := { name := "values", desc := "()[Lcom/example/ground0/ground0/refutation/Satisfaction$Truth;", sig := { parameters := [], returnType := some (.array (.object "com/example/ground0/ground0/refutation/Satisfaction$Truth")) }, accessFlags := 9, code := some k6c0 }
def k6c1 : Code := { maxStack := 1, maxLocals := 1, code := prog_98_method_4_code, exceptionTable := #[], attributes := #[] }
def k6m1 : Method := { name := "of", desc := "(Z)Lcom/example/ground0/ground0/refutation/Satisfaction$Truth;", sig := { parameters := [.boolean], returnType := some (.object "com/example/ground0/ground0/refutation/Satisfaction$Truth") }, accessFlags := 8, code := some k6c1 }
def k6c2 : Code := { maxStack := 3, maxLocals := 1, code := prog_98_method_5_code, exceptionTable := #[], attributes := #[] }
def k6m2 : Method := { name := "not", desc := "()Lcom/example/ground0/ground0/refutation/Satisfaction$Truth;", sig := { parameters := [], returnType := some (.object "com/example/ground0/ground0/refutation/Satisfaction$Truth") }, accessFlags := 0, code := some k6c2 }
def k6c3 : Code := { maxStack := 2, maxLocals := 2, code := prog_98_method_6_code, exceptionTable := #[], attributes := #[] }
def k6m3 : Method := { name := "and", desc := "(Lcom/example/ground0/ground0/refutation/Satisfaction$Truth;)Lcom/example/ground0/ground0/refutation/Satisfaction$Truth;", sig := { parameters := [(.object "com/example/ground0/ground0/refutation/Satisfaction$Truth")], returnType := some (.object "com/example/ground0/ground0/refutation/Satisfaction$Truth") }, accessFlags := 0, code := some k6c3 }
def k6c4 : Code := { maxStack := 2, maxLocals := 2, code := prog_98_method_7_code, exceptionTable := #[], attributes := #[] }
def k6m4 : Method := { name := "or", desc := "(Lcom/example/ground0/ground0/refutation/Satisfaction$Truth;)Lcom/example/ground0/ground0/refutation/Satisfaction$Truth;", sig := { parameters := [(.object "com/example/ground0/ground0/refutation/Satisfaction$Truth")], returnType := some (.object "com/example/ground0/ground0/refutation/Satisfaction$Truth") }, accessFlags := 0, code := some k6c4 }
/-- com/example/ground0/ground0/refutation/Satisfaction$Truth -/
def k6 : Class := { plain "com/example/ground0/ground0/refutation/Satisfaction$Truth" (some 5) with
  accessFlags := 16432
  interfaces := #[]
  cf := some (fileOf pool6 1 #[.nestHost 70] #[{ accessFlags := 9, nameIndex := 34, descriptorIndex := 35, attributes := #[] }, { accessFlags := 8, nameIndex := 57, descriptorIndex := 58, attributes := #[] }, { accessFlags := 0, nameIndex := 60, descriptorIndex := 61, attributes := #[] }, { accessFlags := 0, nameIndex := 62, descriptorIndex := 63, attributes := #[] }, { accessFlags := 0, nameIndex := 64, descriptorIndex := 63, attributes := #[] }] 16432 23 #[] #[{ accessFlags := 16409, nameIndex := 5, descriptorIndex := 6, attributes := #[] }, { accessFlags := 16409, nameIndex := 9, descriptorIndex := 6, attributes := #[] }, { accessFlags := 16409, nameIndex := 12, descriptorIndex := 6, attributes := #[] }, { accessFlags := 4122, nameIndex := 15, descriptorIndex := 16, attributes := #[] }])
  fields := #[{ name := "FALSE", type := (.object "com/example/ground0/ground0/refutation/Satisfaction$Truth"), accessFlags := 16409, slot := 0, constantValue := 0 }, { name := "UNKNOWN", type := (.object "com/example/ground0/ground0/refutation/Satisfaction$Truth"), accessFlags := 16409, slot := 1, constantValue := 0 }, { name := "TRUE", type := (.object "com/example/ground0/ground0/refutation/Satisfaction$Truth"), accessFlags := 16409, slot := 2, constantValue := 0 }, { name := "$VALUES", type := (.array (.object "com/example/ground0/ground0/refutation/Satisfaction$Truth")), accessFlags := 4122, slot := 3, constantValue := 0 }]
  methods := #[k6m0, k6m1, k6m2, k6m3, k6m4]
  instanceTypes := #[(.object "java/lang/String"), .int, .int]
  staticTypes := #[(.object "com/example/ground0/ground0/refutation/Satisfaction$Truth"), (.object "com/example/ground0/ground0/refutation/Satisfaction$Truth"), (.object "com/example/ground0/ground0/refutation/Satisfaction$Truth"), (.array (.object "com/example/ground0/ground0/refutation/Satisfaction$Truth"))]
  resolved := Array.replicate 74 none
  mirror := some 1
  statics := some 0 }

def pool7 : Array CpInfo := pool [(1, .class_ 2), (0, u "java/lang/Cloneable"), (0, .class_ 4), (0, u "java/lang/Object")] 2

/-- java/lang/Cloneable -/
def k7 : Class := { plain "java/lang/Cloneable" (some 0) with
  accessFlags := 1537
  interfaces := #[]
  cf := some (fileOf pool7 1 #[] #[] 1537 3 #[] #[])
  fields := #[]
  methods := #[]
  instanceTypes := #[]
  staticTypes := #[]
  resolved := Array.replicate 7 none
  statics := none }

def pool8 : Array CpInfo := pool [(1, u "java/lang/Class"), (0, .class_ 1), (0, u "java/lang/Object"), (0, .class_ 3)] 3

/-- java/lang/Class -/
def k8 : Class := { plain "java/lang/Class" (some 0) with
  accessFlags := 49
  interfaces := #[]
  cf := some (fileOf pool8 2 #[] #[] 49 4 #[] #[])
  fields := #[]
  methods := #[]
  instanceTypes := #[]
  staticTypes := #[]
  resolved := Array.replicate 8 none
  statics := none }

/-- the primitive byte -/
def k9 : Class := { plain "byte" none with kind := .primitive 'B', accessFlags := 0x411 }
/-- [B -/
def k10 : Class := { plain "[B" (some 0) with kind := .array 9 .byte, interfaces := #[7, 4], accessFlags := 1041 }

/-- the primitive int -/
def k11 : Class := { plain "int" none with kind := .primitive 'I', accessFlags := 0x411 }
/-- [I -/
def k12 : Class := { plain "[I" (some 0) with kind := .array 11 .int, interfaces := #[7, 4], accessFlags := 1041 }

/-- [Lcom/example/ground0/ground0/refutation/Satisfaction$Truth; -/
def k13 : Class := { plain "[Lcom/example/ground0/ground0/refutation/Satisfaction$Truth;" (some 0) with kind := .array 6 (.object "com/example/ground0/ground0/refutation/Satisfaction$Truth"), interfaces := #[7, 4], accessFlags := 1041 }

def heap : Heap := #[{ cls := 6, slots := #[.ref 3, .ref 4, .ref 5, .ref 2], vm := .statics 6 },
  { cls := 8, slots := #[], vm := .mirror 6 },
  { cls := 13, slots := #[.ref 3, .ref 4, .ref 5], vm := .none },
  { cls := 6, slots := #[.null, .int 0, .int 0], vm := .none },
  { cls := 6, slots := #[.null, .int 1, .int 0], vm := .none },
  { cls := 6, slots := #[.null, .int 2, .int 0], vm := .none }]
def classes : Array Class := #[k0, k1, k2, k3, k4, k5, k6, k7, k8, k9, k10, k11, k12, k13]
def interned : List (Array UInt16 × Addr) := []
def slotsUsed : Nat := 16
def theMethod : MethodId := ⟨1, 1⟩
def args0 : Array Value := #[.int 5]
def aboutOver (below : List Frame) : State where
  vm := { classes := classes, interned := interned.toArray }
  heap := heap
  slotsUsed := slotsUsed
  threads := #[{ frames := .invoking theMethod args0 :: below }]
def below0 : List Frame := [.native { method := ⟨0, 0⟩, args := #[] }]
def about1 : State := aboutOver below0
def p0 : Program := .bare "" "" ""
def e0 : Env := launch0.env 0 0 0
theorem w_frames : about1.frames = Frame.invoking theMethod args0 :: below0 := rfl
set_option maxRecDepth 65536 in
theorem w_args : argsFit about1.vm theMethod args0 = true := by decide +kernel
set_option maxRecDepth 65536 in
theorem w_heap : heapFits about1 = true := by decide +kernel
set_option maxRecDepth 65536 in
theorem w_runnable : about1.curStatus? = some .runnable := by decide +kernel
set_option maxRecDepth 65536 in
theorem w_alone : about1.alone = true := by decide +kernel
set_option maxRecDepth 65536 in
theorem w_named : about1.methodNamed? x = some theMethod := by decide +kernel
set_option maxRecDepth 65536 in
theorem w_hears : about1.hears theMethod below0 = true := by decide +kernel
set_option maxRecDepth 65536 in
theorem w_ripe : about1.ripe theMethod args0 below0 = true := by decide +kernel
theorem w_running : about1.status = .running := rfl
set_option maxRecDepth 65536 in
theorem w_room : about1.hasRoom e0.platform room_1 = true :=
  launch0.hasRoom_least _ room_1 (by decide +kernel) (by decide +kernel) (by decide +kernel) (by decide +kernel) (by decide +kernel) (by decide +kernel)
theorem allAtoms_all (ts : List Jvm.Cond) (a : Array Jvm.Value) (st : Jvm.State) : (allAtoms ts).before a st = ts.all (fun c => c.before a st) := by
  induction ts with
  | nil => rfl
  | cons c t ih =>
    show (Jvm.Cond.and c (allAtoms t)).before a st = _
    rw [Jvm.Cond.before_and, ih, List.all_cons]
def words1 : List Jvm.Cond := Jvm.Cond.code x code maxLocals ret :: tables_1
/-- a 'code' word, met by the world's own term for the bytes: nothing is compared byte by byte -/
theorem code_word {y : MethodName} {bytes : ByteArray} {mx : Nat} {rt : Option FieldType} {a : Array Value} {s : State} {m : MethodId} {meth : Method} {c : Code} (h1 : s.methodNamed? y = some m) (h2 : s.vm.method? m = some meth) (h3 : meth.code = some c) (h4 : c.code = bytes)
    (h5 : (c.maxLocals == mx && c.exceptionTable.isEmpty && decide (c.maxStack ≤ mostOperands) && decide (meth.sig.returnType = rt) && !meth.locks && decide (parseMethodDescriptor y.desc = some meth.sig)) = true) : (Jvm.Cond.code y bytes mx rt).before a s = true := by
  simp only [Bool.and_eq_true, beq_iff_eq, Bool.not_eq_true', decide_eq_true_eq] at h5
  obtain ⟨⟨⟨⟨⟨g1, g2⟩, g3⟩, g4⟩, g5⟩, g6⟩ := h5
  simp [Cond.before, Cond.holds, Cond.value, h1, h2, h3, h4, g1, g2, g3, g4, g5, g6]
def isCode : Jvm.Cond → Bool
  | .code _ _ _ _ => true
  | _ => false
theorem all_split {L : List Jvm.Cond} {P : Jvm.Cond → Bool} (h1 : L.all (fun c => isCode c || P c) = true) (h2 : ∀ c ∈ L.filter isCode, P c = true) : L.all P = true := by
  refine List.all_eq_true.mpr fun c hc => ?_
  have h := List.all_eq_true.mp h1 c hc
  rcases Bool.eq_false_or_eq_true (isCode c) with hi | hi
  · exact h2 c (List.mem_filter.mpr ⟨hc, hi⟩)
  · simpa [hi] using h
set_option maxRecDepth 65536 in
theorem w_c0 : (Jvm.Cond.code x code maxLocals ret).before args0 about1 = true := code_word (m := ⟨1, 1⟩) (meth := k1m1) (c := k1c1) (by decide +kernel) rfl rfl rfl (by decide +kernel)
set_option maxRecDepth 65536 in
theorem w_c1 : (Jvm.Cond.code ({ cls := "com/example/ground0/ground0/refutation/Satisfaction$Truth", name := "of", desc := "(Z)Lcom/example/ground0/ground0/refutation/Satisfaction$Truth;" } : Jvm.MethodName) prog_98_method_4_code (1 : Nat) (Option.some (Jvm.ClassFile.FieldType.object "com/example/ground0/ground0/refutation/Satisfaction$Truth"))).before args0 about1 = true := code_word (m := ⟨6, 1⟩) (meth := k6m1) (c := k6c1) (by decide +kernel) rfl rfl rfl (by decide +kernel)
set_option maxRecDepth 65536 in
theorem w_c2 : (Jvm.Cond.code ({ cls := "com/example/ground0/ground0/refutation/Satisfaction$Truth", name := "not", desc := "()Lcom/example/ground0/ground0/refutation/Satisfaction$Truth;" } : Jvm.MethodName) prog_98_method_5_code (1 : Nat) (Option.some (Jvm.ClassFile.FieldType.object "com/example/ground0/ground0/refutation/Satisfaction$Truth"))).before args0 about1 = true := code_word (m := ⟨6, 2⟩) (meth := k6m2) (c := k6c2) (by decide +kernel) rfl rfl rfl (by decide +kernel)
set_option maxRecDepth 65536 in
theorem w_c3 : (Jvm.Cond.code ({ cls := "com/example/ground0/ground0/refutation/Satisfaction$Truth", name := "values", desc := "()[Lcom/example/ground0/ground0/refutation/Satisfaction$Truth;" } : Jvm.MethodName) prog_98_method_1_code (0 : Nat) (Option.some (Jvm.ClassFile.FieldType.array (Jvm.ClassFile.FieldType.object "com/example/ground0/ground0/refutation/Satisfaction$Truth")))).before args0 about1 = true := code_word (m := ⟨6, 0⟩) (meth := k6m0) (c := k6c0) (by decide +kernel) rfl rfl rfl (by decide +kernel)
set_option maxRecDepth 65536 in
theorem w_c4 : (Jvm.Cond.code ({ cls := "java/lang/Enum", name := "ordinal", desc := "()I" } : Jvm.MethodName) jdk_37_method_2_code (1 : Nat) (Option.some Jvm.ClassFile.FieldType.int)).before args0 about1 = true := code_word (m := ⟨5, 0⟩) (meth := k5m0) (c := k5c0) (by decide +kernel) rfl rfl rfl (by decide +kernel)
set_option maxRecDepth 65536 in
theorem w_c5 : (Jvm.Cond.code ({ cls := "com/example/ground0/ground0/refutation/Satisfaction$Truth", name := "and", desc := "(Lcom/example/ground0/ground0/refutation/Satisfaction$Truth;)Lcom/example/ground0/ground0/refutation/Satisfaction$Truth;" } : Jvm.MethodName) prog_98_method_6_code (2 : Nat) (Option.some (Jvm.ClassFile.FieldType.object "com/example/ground0/ground0/refutation/Satisfaction$Truth"))).before args0 about1 = true := code_word (m := ⟨6, 3⟩) (meth := k6m3) (c := k6c3) (by decide +kernel) rfl rfl rfl (by decide +kernel)
set_option maxRecDepth 65536 in
theorem w_c6 : (Jvm.Cond.code ({ cls := "java/lang/Enum", name := "compareTo", desc := "(Ljava/lang/Enum;)I" } : Jvm.MethodName) jdk_37_method_8_code (4 : Nat) (Option.some Jvm.ClassFile.FieldType.int)).before args0 about1 = true := code_word (m := ⟨5, 1⟩) (meth := k5m1) (c := k5c1) (by decide +kernel) rfl rfl rfl (by decide +kernel)
set_option maxRecDepth 65536 in
theorem w_c7 : (Jvm.Cond.code ({ cls := "com/example/ground0/ground0/refutation/Satisfaction$Truth", name := "or", desc := "(Lcom/example/ground0/ground0/refutation/Satisfaction$Truth;)Lcom/example/ground0/ground0/refutation/Satisfaction$Truth;" } : Jvm.MethodName) prog_98_method_7_code (2 : Nat) (Option.some (Jvm.ClassFile.FieldType.object "com/example/ground0/ground0/refutation/Satisfaction$Truth"))).before args0 about1 = true := code_word (m := ⟨6, 4⟩) (meth := k6m4) (c := k6c4) (by decide +kernel) rfl rfl rfl (by decide +kernel)
def codes1 : List Jvm.Cond := [Jvm.Cond.code x code maxLocals ret, Jvm.Cond.code ({ cls := "com/example/ground0/ground0/refutation/Satisfaction$Truth", name := "of", desc := "(Z)Lcom/example/ground0/ground0/refutation/Satisfaction$Truth;" } : Jvm.MethodName) prog_98_method_4_code (1 : Nat) (Option.some (Jvm.ClassFile.FieldType.object "com/example/ground0/ground0/refutation/Satisfaction$Truth")), Jvm.Cond.code ({ cls := "com/example/ground0/ground0/refutation/Satisfaction$Truth", name := "not", desc := "()Lcom/example/ground0/ground0/refutation/Satisfaction$Truth;" } : Jvm.MethodName) prog_98_method_5_code (1 : Nat) (Option.some (Jvm.ClassFile.FieldType.object "com/example/ground0/ground0/refutation/Satisfaction$Truth")), Jvm.Cond.code ({ cls := "com/example/ground0/ground0/refutation/Satisfaction$Truth", name := "values", desc := "()[Lcom/example/ground0/ground0/refutation/Satisfaction$Truth;" } : Jvm.MethodName) prog_98_method_1_code (0 : Nat) (Option.some (Jvm.ClassFile.FieldType.array (Jvm.ClassFile.FieldType.object "com/example/ground0/ground0/refutation/Satisfaction$Truth"))), Jvm.Cond.code ({ cls := "java/lang/Enum", name := "ordinal", desc := "()I" } : Jvm.MethodName) jdk_37_method_2_code (1 : Nat) (Option.some Jvm.ClassFile.FieldType.int), Jvm.Cond.code ({ cls := "com/example/ground0/ground0/refutation/Satisfaction$Truth", name := "and", desc := "(Lcom/example/ground0/ground0/refutation/Satisfaction$Truth;)Lcom/example/ground0/ground0/refutation/Satisfaction$Truth;" } : Jvm.MethodName) prog_98_method_6_code (2 : Nat) (Option.some (Jvm.ClassFile.FieldType.object "com/example/ground0/ground0/refutation/Satisfaction$Truth")), Jvm.Cond.code ({ cls := "java/lang/Enum", name := "compareTo", desc := "(Ljava/lang/Enum;)I" } : Jvm.MethodName) jdk_37_method_8_code (4 : Nat) (Option.some Jvm.ClassFile.FieldType.int), Jvm.Cond.code ({ cls := "com/example/ground0/ground0/refutation/Satisfaction$Truth", name := "or", desc := "(Lcom/example/ground0/ground0/refutation/Satisfaction$Truth;)Lcom/example/ground0/ground0/refutation/Satisfaction$Truth;" } : Jvm.MethodName) prog_98_method_7_code (2 : Nat) (Option.some (Jvm.ClassFile.FieldType.object "com/example/ground0/ground0/refutation/Satisfaction$Truth"))]
set_option maxRecDepth 65536 in
theorem codes_eq : words1.filter isCode = codes1 := rfl
theorem w_codes : ∀ c ∈ words1.filter isCode, c.before args0 about1 = true := by
  rw [codes_eq]
  intro c hc
  simp only [codes1, List.mem_cons, List.not_mem_nil, or_false] at hc
  rcases hc with rfl | rfl | rfl | rfl | rfl | rfl | rfl | rfl
  · exact w_c0
  · exact w_c1
  · exact w_c2
  · exact w_c3
  · exact w_c4
  · exact w_c5
  · exact w_c6
  · exact w_c7
set_option maxRecDepth 65536 in
theorem w_t1 : (words1.take 24).all (fun c => isCode c || c.before args0 about1) = true := by decide +kernel
set_option maxRecDepth 65536 in
theorem w_t2 : ((words1.drop 24).take 24).all (fun c => isCode c || c.before args0 about1) = true := by decide +kernel
set_option maxRecDepth 65536 in
theorem w_t3 : ((words1.drop 24).drop 24).all (fun c => isCode c || c.before args0 about1) = true := by decide +kernel
theorem w_tables : (allAtoms (Jvm.Cond.code x code maxLocals ret :: tables_1)).before args0 about1 = true := by
  rw [allAtoms_all]
  show words1.all (fun c => c.before args0 about1) = true
  refine all_split ?_ w_codes
  rw [← List.take_append_drop 24 words1, List.all_append, w_t1, ← List.take_append_drop 24 (words1.drop 24), List.all_append, w_t2, w_t3]
  rfl
set_option maxRecDepth 65536 in
theorem w_case : (Jvm.Cond.and given_1 narrow_1).before args0 about1 = true := by decide +kernel
theorem w_applies : (headSpec (Jvm.Cond.code x code maxLocals ret :: tables_1) room_1).applies x e0.platform about1 = true :=
  (Spec.applies_iff w_frames).mpr ⟨w_running, w_runnable, w_alone, w_named, w_hears, w_ripe, w_room, w_tables⟩
theorem atStart : AtStart classFile x code maxLocals ret World_1 tables_1 room_1 Calls_1 rest_1 Pre_1 launch0 p0 e0 about1 theMethod args0 below0 :=
  ⟨lists_1, trivial, launch0.admits_env _ _ _, launch0.least_env, fairChoices_fair.cas, fairChoices_fair.clock, w_frames, w_args, w_heap, w_applies, ⟨⟨6, k6, 1, by decide +kernel, rfl, rfl, _, rfl, rfl⟩, trivial⟩, trivial, w_case⟩
end start1
theorem witness_1 : WitnessClaimed_1 := ⟨start1.p0, start1.e0, start1.about1, start1.theMethod, start1.args0, start1.below0, start1.atStart⟩
end Jvm.Pilot.@@N@@
