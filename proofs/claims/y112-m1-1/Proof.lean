import JvmDerived
import JvmDerived.Pilot.@@N@@Statement
import JvmDerived.Pilot.@@N@@Code
set_option linter.unusedVariables false
set_option linter.unusedSimpArgs false
namespace Jvm.Pilot.@@N@@
open Jvm Jvm.ClassFile Sem Op Lib Jvm.Free Jvm.Stand Jvm.LawKit Jvm.RoadKit Bundle Jvm.Pilot.@@N@@.Jvm.D
/-! own kit: the walk in continuation form: 'Go': from this point the body comes to its end with what Q says -/
section OwnGo
variable {p : Program} {l : Launch} {e : Env} {R : Room} {s : State} {m : MethodId} {args : Array Value} {below : List Frame} {meth : Method} {c : Code} {T : State} {locs : List Loc} {cells slots : Nat} {Z : State} {a0 : Array Value} {h : Heap} {Q : Option Value → Heap → List Loc → Prop} {C S : Nat} {End : Outcome → State → List Loc → Prop}
def Go (p : Program) (e : Env) (below : List Frame) (End : Outcome → State → List Loc → Prop) (Q : Option Value → Heap → List Loc → Prop) (T : State) (f : JFrame) : Prop :=
  ∃ s₂ o, Steps p.tables e below (T.setTop f) s₂ ∧ s₂.status = .running ∧ Ended s₂ below o ∧ ∃ v L, o = .returned v ∧ Q v s₂.heap L ∧ End o s₂ L
/-- the end of a walk that leaves the table of strings alone, and of one that may not -/
def EndN (s : State) (C S : Nat) : Outcome → State → List Loc → Prop := fun o t L => FrameEnd s o t L C S
def EndW (s : State) (C S : Nat) : Outcome → State → List Loc → Prop := fun o t L => ReturnedEndW s o t L C S
def OwnP (val : Option Value) (h0 : Heap) (n0 : Nat) (v : Option Value) (h : Heap) (L : List Loc) : Prop := v = val ∧ Fr n0 L ∧ h = h0
def OwnR (val : Option Value) (n0 : Nat) (v : Option Value) (h : Heap) (L : List Loc) : Prop := v = val ∧ Fr n0 L
abbrev OwnMet (l : Launch) (Z : State) (y : MethodName) (bytes : ByteArray) (maxL : Nat) (ret : Option FieldType) (ws : List Jvm.Cond) (rm : Room) (as' : Array Value) (h0 : Heap) (Q : Option Value → Heap → List Loc → Prop) : Prop :=
  MetFree l y (head1 (Jvm.Cond.code y bytes maxL ret :: ws) rm) (fun a U => a = as' ∧ Z.Warmed39 U.vm ∧ U.heap = h0) (fun _ _ _ _ _ => True) (fun _ U o U' => ∃ v L, o = .returned v ∧ Q v U'.heap L ∧ FrameEnd U o U' L rm.cells rm.slots)
theorem own_body {y : MethodName} {bytes : ByteArray} {maxL : Nat} {ret : Option FieldType} {ws : List Jvm.Cond} {rm : Room} {as' : Array Value} {h0 : Heap} (hpl : plainFor y = true)
    (k : ∀ (p : Program) (e : Env) (s : State) (m : MethodId) (below : List Frame) (meth : Method) (c : Code) (s₁ : State), Stand p l e rm s m as' below meth c s₁ [] 0 0 → p.tables.exec = Jvm.exec → c.code = bytes → c.maxLocals = maxL → meth.sig.returnType = ret → meth.locks = false → s.vm.findClass y.cls = some m.cls → meth.name = y.name → Z.Warmed39 s.vm → s₁.heap = h0 → s.heap = h0 → Go p e below (EndN s rm.cells rm.slots) Q s₁ (entryFrame m as' maxL)) :
    OwnMet l Z y bytes maxL ret ws rm as' h0 Q := by
  refine MetFree.of_bodySF hpl hisR ?_
  intro p e s m args below meth c s₁ Bd hml0 hP hK
  obtain ⟨rfl, hZ, hh⟩ := hP
  exact k p e s m below meth c s₁ (Stand.of_body Bd) Bd.exec Bd.bytes hml0 Bd.returns Bd.notSynchronized (findClass_of_methodNamed Bd.named) (name_of_methodNamed Bd.named Bd.method).1 hZ (by rw [← hh, Bd.state]; rfl) hh
theorem own_go {T' : State} {f f' : JFrame} (k : ∀ t, Steps p.tables e below (T'.setTop f') t → Steps p.tables e below (T.setTop f) t) (G : Go p e below End Q T' f') : Go p e below End Q T f := by
  obtain ⟨s₂, o, hs, r⟩ := G
  exact ⟨s₂, o, k _ hs, r⟩
theorem own_entry {f : JFrame} {f' : JFrame} (q : f = f') (G : Go p e below End Q T f') : Go p e below End Q T f := q ▸ G
/-- the method can be left here -/
def Leaves (e : Env) (below : List Frame) (m : MethodId) (meth : Method) (T : State) (locs : List Loc) (End : Outcome → State → List Loc → Prop) : Prop :=
  ∀ v : Option Value, (meth.sig.returnType = none → v = none) → ∃ fs, (∀ (f : JFrame) (acts : List Action), f.method = m → f.locked = none → f.entered = [] → (doReturn e (T.setTop f) acts v).1 = T.setFrames fs) ∧ (T.setFrames fs).status = .running ∧ Ended (T.setFrames fs) below (.returned v) ∧ End (.returned v) (T.setFrames fs) locs
theorem own_lvN (X : Stand p l e R s m args below meth c T locs cells slots) (hlk : meth.locks = false) (hC : cells ≤ C) (hS : slots ≤ S) : Leaves e below m meth T locs (EndN s C S) := fun v hv => by
  obtain ⟨fs, hr, hrun, hended, hW, hsame⟩ := X.leave hv hlk
  exact ⟨fs, hr, hrun, hended, ⟨_, rfl⟩, hW, hsame.mono hC hS⟩
theorem own_leave {v : Option Value} (LV : Leaves e below m meth T locs End) (hv : meth.sig.returnType = none → v = none) {f : JFrame}
    (st : ∀ fs, (∀ (f : JFrame) (acts : List Action), f.method = m → f.locked = none → f.entered = [] → (doReturn e (T.setTop f) acts v).1 = T.setFrames fs) → Steps p.tables e below (T.setTop f) (T.setFrames fs))
    (hQ : Q v T.heap locs) : Go p e below End Q T f := by
  obtain ⟨fs, hr, hrun, hended, hE⟩ := LV v hv
  exact ⟨_, _, st fs hr, hrun, hended, _, _, rfl, hQ, hE⟩
theorem own_retN (X : Stand p l e R s m args below meth c T locs cells slots) (hx : p.tables.exec = Jvm.exec) (LV : Leaves e below m meth T locs End) {pc : Nat} {Ls : Array Slot} {z : Int32} {t : FieldType} {rest : List Value} (hret : meth.sig.returnType = some t) (ht : t = .boolean ∨ t = .byte ∨ t = .char ∨ t = .short)
    (hd : decode c.code pc = .ok (.ireturn, 1)) (hQ : Q (some (.int (nar t z))) T.heap locs) : Go p e below End Q T (mkF m pc Ls (.int z :: rest)) :=
  own_leave LV (fun h => by rw [hret] at h; cases h) (fun fs hr => retN X hx hret ht hd hr) hQ
theorem own_retO (X : Stand p l e R s m args below meth c T locs cells slots) (hx : p.tables.exec = Jvm.exec) (LV : Leaves e below m meth T locs End) {pc : Nat} {Ls : Array Slot} {w : Value} {t : FieldType} {i : Instr} {rest : List Value} (hret : meth.sig.returnType = some t) (hn : narrow t w = w)
    (hi : (i = .ireturn ∧ (t = .int ∨ t = .boolean ∨ t = .byte ∨ t = .char ∨ t = .short) ∧ ∃ z, w = .int z) ∨ (i = .lreturn ∧ t = .long ∧ ∃ z, w = .long z) ∨ (i = .dreturn ∧ t = .double ∧ ∃ z, w = .double z) ∨ (i = .freturn ∧ t = .float ∧ ∃ z, w = .float z) ∨ (i = .areturn ∧ t.isReference = true ∧ w.isRef = true))
    (hd : decode c.code pc = .ok (i, 1)) (hQ : Q (some w) T.heap locs) : Go p e below End Q T (mkF m pc Ls (w :: rest)) :=
  own_leave LV (fun h => by rw [hret] at h; cases h) (fun fs hr => retOut X hx hret hn hi hd hr) hQ
theorem own_retI (X : Stand p l e R s m args below meth c T locs cells slots) (hx : p.tables.exec = Jvm.exec) (LV : Leaves e below m meth T locs End) {pc : Nat} {Ls : Array Slot} {z : Int32} {rest : List Value} (hret : meth.sig.returnType = some .int)
    (hd : decode c.code pc = .ok (.ireturn, 1)) (hQ : Q (some (.int z)) T.heap locs) : Go p e below End Q T (mkF m pc Ls (.int z :: rest)) :=
  own_retO X hx LV hret rfl (Or.inl ⟨rfl, Or.inl rfl, z, rfl⟩) hd hQ
theorem own_retL (X : Stand p l e R s m args below meth c T locs cells slots) (hx : p.tables.exec = Jvm.exec) (LV : Leaves e below m meth T locs End) {pc : Nat} {Ls : Array Slot} {z : Int64} {rest : List Value} (hret : meth.sig.returnType = some .long)
    (hd : decode c.code pc = .ok (.lreturn, 1)) (hQ : Q (some (.long z)) T.heap locs) : Go p e below End Q T (mkF m pc Ls (.long z :: rest)) :=
  own_retO X hx LV hret rfl (Or.inr (Or.inl ⟨rfl, rfl, z, rfl⟩)) hd hQ
theorem own_retA (X : Stand p l e R s m args below meth c T locs cells slots) (hx : p.tables.exec = Jvm.exec) (LV : Leaves e below m meth T locs End) {pc : Nat} {Ls : Array Slot} {w : Value} {t : FieldType} {rest : List Value} (hret : meth.sig.returnType = some t) (ht : t.isReference = true) (hw : w.isRef = true)
    (hd : decode c.code pc = .ok (.areturn, 1)) (hQ : Q (some w) T.heap locs) : Go p e below End Q T (mkF m pc Ls (w :: rest)) :=
  own_retO X hx LV hret (by cases t <;> first | (cases w <;> first | rfl | cases hw) | cases ht) (Or.inr (Or.inr (Or.inr (Or.inr ⟨rfl, ht, hw⟩)))) hd hQ
theorem own_retV (X : Stand p l e R s m args below meth c T locs cells slots) (hx : p.tables.exec = Jvm.exec) (LV : Leaves e below m meth T locs End) {pc : Nat} {Ls : Array Slot} (hret : meth.sig.returnType = none)
    (hd : decode c.code pc = .ok (.return_, 1)) (hQ : Q none T.heap locs) : Go p e below End Q T (mkF m pc Ls []) :=
  own_leave LV (fun _ => rfl) (fun fs hr => X.returnOut hx hret hd hr) hQ
/-- a branch: taken where P -/
theorem own_icmpP (P : Prop) [Decidable P] (X : Stand p l e R s m args below meth c T locs cells slots) (hx : p.tables.exec = Jvm.exec) {cd : ClassFile.Cond} {x y : Int32} {rest : List Value} {o : Int} {pc pc' : Nat} {Ls : Array Slot} (hd : decode c.code pc = .ok (.if_icmp cd o, 3)) (hP : if_icmp.holds cd x y = decide P) (ho : 0 ≤ (pc : Int) + o) (hp : ((pc : Int) + o).toNat = pc')
    (h1 : P → Go p e below End Q T (mkF m pc' Ls rest)) (h2 : ¬ P → Go p e below End Q T (mkF m (pc + 3) Ls rest)) : Go p e below End Q T (mkF m pc Ls (.int y :: .int x :: rest)) := by
  by_cases q : P
  · exact own_go (fun t k => XS.icmpYes X.here hx rfl (pc0 := pc) (pc' := pc') rfl hd rfl (by rw [hP]; exact decide_eq_true q) ho hp k) (h1 q)
  · exact own_go (fun t k => XS.icmpNo X.here hx rfl hd rfl (by rw [hP]; exact decide_eq_false q) k) (h2 q)
/-- a branch: taken where not P -/
theorem own_icmpM (P : Prop) [Decidable P] (X : Stand p l e R s m args below meth c T locs cells slots) (hx : p.tables.exec = Jvm.exec) {cd : ClassFile.Cond} {x y : Int32} {rest : List Value} {o : Int} {pc pc' : Nat} {Ls : Array Slot} (hd : decode c.code pc = .ok (.if_icmp cd o, 3)) (hP : if_icmp.holds cd x y = !decide P) (ho : 0 ≤ (pc : Int) + o) (hp : ((pc : Int) + o).toNat = pc')
    (h1 : ¬ P → Go p e below End Q T (mkF m pc' Ls rest)) (h2 : P → Go p e below End Q T (mkF m (pc + 3) Ls rest)) : Go p e below End Q T (mkF m pc Ls (.int y :: .int x :: rest)) := by
  by_cases q : P
  · exact own_go (fun t k => XS.icmpNo X.here hx rfl hd rfl (by rw [hP]; simp [q]) k) (h2 q)
  · exact own_go (fun t k => XS.icmpYes X.here hx rfl (pc0 := pc) (pc' := pc') rfl hd rfl (by rw [hP]; simp [q]) ho hp k) (h1 q)
theorem own_ifP (P : Prop) [Decidable P] (X : Stand p l e R s m args below meth c T locs cells slots) (hx : p.tables.exec = Jvm.exec) {cd : ClassFile.Cond} {x : Int32} {rest : List Value} {o : Int} {pc pc' : Nat} {Ls : Array Slot} (hd : decode c.code pc = .ok (.ifCond cd o, 3)) (hP : if_icmp.holds cd x 0 = decide P) (ho : 0 ≤ (pc : Int) + o) (hp : ((pc : Int) + o).toNat = pc')
    (h1 : P → Go p e below End Q T (mkF m pc' Ls rest)) (h2 : ¬ P → Go p e below End Q T (mkF m (pc + 3) Ls rest)) : Go p e below End Q T (mkF m pc Ls (.int x :: rest)) := by
  by_cases q : P
  · exact own_go (fun t k => XS.ifYes X.here hx rfl (pc0 := pc) (pc' := pc') rfl hd rfl (by rw [if0, hP]; exact decide_eq_true q) ho hp k) (h1 q)
  · exact own_go (fun t k => XS.ifNo X.here hx rfl hd rfl (by rw [if0, hP]; exact decide_eq_false q) k) (h2 q)
theorem own_ifM (P : Prop) [Decidable P] (X : Stand p l e R s m args below meth c T locs cells slots) (hx : p.tables.exec = Jvm.exec) {cd : ClassFile.Cond} {x : Int32} {rest : List Value} {o : Int} {pc pc' : Nat} {Ls : Array Slot} (hd : decode c.code pc = .ok (.ifCond cd o, 3)) (hP : if_icmp.holds cd x 0 = !decide P) (ho : 0 ≤ (pc : Int) + o) (hp : ((pc : Int) + o).toNat = pc')
    (h1 : ¬ P → Go p e below End Q T (mkF m pc' Ls rest)) (h2 : P → Go p e below End Q T (mkF m (pc + 3) Ls rest)) : Go p e below End Q T (mkF m pc Ls (.int x :: rest)) := by
  by_cases q : P
  · exact own_go (fun t k => XS.ifNo X.here hx rfl hd rfl (by rw [if0, hP]; simp [q]) k) (h2 q)
  · exact own_go (fun t k => XS.ifYes X.here hx rfl (pc0 := pc) (pc' := pc') rfl hd rfl (by rw [if0, hP]; simp [q]) ho hp k) (h1 q)
theorem own_eq (x y : Int32) : if_icmp.holds .eq x y = decide (x = y) := by by_cases q : x = y <;> simp [if_icmp.holds, q]
theorem own_ne (x y : Int32) : if_icmp.holds .ne x y = !decide (x = y) := by by_cases q : x = y <;> simp [if_icmp.holds, q]
theorem own_lt (x y : Int32) : if_icmp.holds .lt x y = decide (x < y) := by by_cases q : x < y <;> simp [if_icmp.holds, q]
theorem own_ge (x y : Int32) : if_icmp.holds .ge x y = !decide (x < y) := by
  by_cases q : x < y
  · rw [(tlt q).2.1]; simp [q]
  · rw [(flt q).2.1]; simp [q]
theorem own_gt (x y : Int32) : if_icmp.holds .gt x y = decide (y < x) := by
  by_cases q : y < x
  · rw [(tlt q).2.2.1]; simp [q]
  · rw [(flt q).2.2.1]; simp [q]
theorem own_le (x y : Int32) : if_icmp.holds .le x y = !decide (y < x) := by
  by_cases q : y < x
  · rw [(tlt q).2.2.2]; simp [q]
  · rw [(flt q).2.2.2]; simp [q]
theorem own_acmp (P : Prop) [Decidable P] (X : Stand p l e R s m args below meth c T locs cells slots) (hx : p.tables.exec = Jvm.exec) {cd : ACond} {x y : Value} {rest : List Value} {o : Int} {pc : Nat} {Ls : Array Slot} (h1 : x.isRef = true) (h2 : y.isRef = true) (hP : (x = y) ↔ P) (hd : decode c.code pc = .ok (.if_acmp cd o, 3)) (ho : 0 ≤ (pc : Int) + o) {pcE pcN : Nat}
    (hE : pcE = if acV cd true = true then ((pc : Int) + o).toNat else pc + 3) (hN : pcN = if acV cd false = true then ((pc : Int) + o).toNat else pc + 3)
    (k1 : P → Go p e below End Q T (mkF m pcE Ls rest)) (k2 : ¬ P → Go p e below End Q T (mkF m pcN Ls rest)) : Go p e below End Q T (mkF m pc Ls (y :: x :: rest)) := by
  by_cases q : P
  · exact own_go (fun t k => Jvm.RoadKit.acmp (g := mkF m pc Ls (y :: x :: rest)) X hx rfl h1 h2 (pc0 := pc) (pc' := pcE) (same := true) rfl hd rfl (decide_eq_true (hP.mpr q)) ho hE k) (k1 q)
  · exact own_go (fun t k => Jvm.RoadKit.acmp (g := mkF m pc Ls (y :: x :: rest)) X hx rfl h1 h2 (pc0 := pc) (pc' := pcN) (same := false) rfl hd rfl (decide_eq_false fun z => q (hP.mp z)) ho hN k) (k2 q)
theorem own_ref (a b : Addr) : (Value.ref a = Value.ref b) ↔ (a = b) := ⟨Value.ref.inj, congrArg Value.ref⟩
theorem own_callS (X : Stand p l e R s m args below meth c T locs cells slots) (hx : p.tables.exec = Jvm.exec) (hZ : Z.Warmed39 s.vm) {own : String} {index : Nat} {y : MethodName} {bytes : ByteArray} {maxL : Nat} {ret : Option FieldType} {rm : Room} {as' : Array Value} {Qc : Option Value → Heap → List Loc → Prop}
    (hown : s.vm.findClass own = some m.cls) (wl : (Cond.methodLink own index y).before a0 Z = true) (wst : (Cond.static y).before a0 Z = true) (wi : (Cond.initialized y.cls).before a0 Z = true) (wc : (Cond.code y bytes maxL ret).before a0 Z = true)
    (hy : y.cls ≠ "java/lang/invoke/MethodHandle" ∧ y.cls ≠ "java/lang/invoke/VarHandle")
    (hM : MetFree l y (head1 [Cond.code y bytes maxL ret] rm) (fun a U => a = as' ∧ Z.Warmed39 U.vm ∧ U.heap = h) (fun _ _ _ _ _ => True) (fun _ U o U' => ∃ v L, o = .returned v ∧ Qc v U'.heap L ∧ FrameEnd U o U' L rm.cells rm.slots))
    (eT : T.heap = h) {pc : Nat} {Ls : Array Slot} (hsize : Ls.size = c.maxLocals) {argsL rest stk : List Value} (hst : stk = argsL.reverse ++ rest) (ha : argsL.toArray = as') (hlen : ∀ sig, parseMethodDescriptor y.desc = some sig → argsL.length = sig.parameters.length) {W : Nat} (hW : (rest.map fun v => v.category).sum ≤ W)
    (hf : rm.frames + 1 ≤ R.frames) (hl : W + (maxL + 11) + rm.locals ≤ R.locals) (hd : decode c.code pc = .ok (.invokestatic index, 3)) (hc : cells + rm.cells ≤ R.cells) (hs : slots + rm.slots ≤ R.slots)
    (k : ∀ (v : Option Value) (T' : State) (L : List Loc), Stand p l e R s m args below meth c T' (locs ++ L) (cells + rm.cells) (slots + rm.slots) → Qc v T'.heap L → Go p e below End Q T' (mkF m (pc + 3) Ls (v.toList ++ rest))) :
    Go p e below End Q T (mkF m pc Ls stk) := by
  subst hst
  obtain ⟨v, _, ⟨T', L', k', n'⟩, -, X', ⟨Lc, hQ, l1, y1, z1⟩, st⟩ := Jvm.LawKit.callS X hx (y := y) hown (mvT hZ wl) (mvT hZ wst) (mvT hZ wi) (mvT hZ wc) hy (backOf (W := W) hM hZ wc wi hf hl) (g := mkF m pc Ls (argsL.reverse ++ rest)) rfl hsize (argsL := argsL) (rest := rest) hlen rfl (by show 2 * 0 + _ ≤ _; rw [Nat.mul_zero, Nat.zero_add]; exact hW) hd (fun _ _ => ⟨ha, eT, hc, hs⟩)
  dsimp only [Pt.U, Pt.locs, Pt.cells, Pt.slots] at X' l1 y1 z1 st hQ
  subst l1 y1 z1
  exact own_go (fun t q => st _ q) (k v T' Lc X' hQ)
theorem own_callV (X : Stand p l e R s m args below meth c T locs cells slots) (hx : p.tables.exec = Jvm.exec) (hZ : Z.Warmed39 s.vm) {own Cn : String} {index : Nat} {y : MethodName} {bytes : ByteArray} {maxL : Nat} {ret : Option FieldType} {rm : Room} {as' : Array Value} {Qc : Option Value → Heap → List Loc → Prop}
    (hown : s.vm.findClass own = some m.cls) (wl : (Cond.methodLink own index y).before a0 Z = true) (wd : (Cond.declares y).before a0 Z = true) (wsel : (Cond.selects Cn y y).before a0 Z = true) (win : (Cond.instanceMethod y).before a0 Z = true) (wc : (Cond.code y bytes maxL ret).before a0 Z = true) (wi : (Cond.initialized y.cls).before a0 Z = true)
    (hy : y.cls ≠ "java/lang/invoke/MethodHandle" ∧ y.cls ≠ "java/lang/invoke/VarHandle")
    (hM : MetFree l y (head1 [Cond.code y bytes maxL ret] rm) (fun a U => a = as' ∧ Z.Warmed39 U.vm ∧ U.heap = h) (fun _ _ _ _ _ => True) (fun _ U o U' => ∃ v L, o = .returned v ∧ Qc v U'.heap L ∧ FrameEnd U o U' L rm.cells rm.slots))
    (eT : T.heap = h) {b : Addr} (E : Exa Z h b Cn) {pc : Nat} {Ls : Array Slot} (hsize : Ls.size = c.maxLocals) {argsL rest stk : List Value} (hst : stk = argsL.reverse ++ .ref b :: rest) (ha : (.ref b :: argsL).toArray = as') (hlen : ∀ sig, parseMethodDescriptor y.desc = some sig → argsL.length = sig.parameters.length) {W : Nat} (hW : (rest.map fun v => v.category).sum ≤ W)
    (hf : rm.frames + 1 ≤ R.frames) (hl : W + (maxL + 11) + rm.locals ≤ R.locals) (hd : decode c.code pc = .ok (.invokevirtual index, 3)) (hc : cells + rm.cells ≤ R.cells) (hs : slots + rm.slots ≤ R.slots)
    (k : ∀ (v : Option Value) (T' : State) (L : List Loc), Stand p l e R s m args below meth c T' (locs ++ L) (cells + rm.cells) (slots + rm.slots) → Qc v T'.heap L → Go p e below End Q T' (mkF m (pc + 3) Ls (v.toList ++ rest))) :
    Go p e below End Q T (mkF m pc Ls stk) := by
  subst hst
  obtain ⟨cq, kq, qa, qb, qc⟩ := isOf hZ eT E
  obtain ⟨v, _, ⟨T', L', k', n'⟩, -, X', ⟨Lc, hQ, l1, y1, z1⟩, st⟩ := X.virtualBack hx (y := y) (z := y) hown (mvT hZ wl) (mvT hZ wd) (notFace_of_selects (args := #[]) (mvT hZ wsel)) (mvT hZ wsel) (mvT hZ win) hy (backOf (W := W) hM hZ wc wi hf hl) qa qc (g := mkF m pc Ls (argsL.reverse ++ .ref b :: rest)) rfl hsize (Steps.refl _) (argsL := argsL) (rest := rest) hlen rfl (by show 2 * 0 + _ ≤ _; rw [Nat.mul_zero, Nat.zero_add]; exact hW) hd (fun _ _ => ⟨ha, eT, hc, hs⟩)
  dsimp only [Pt.U, Pt.locs, Pt.cells, Pt.slots] at X' l1 y1 z1 st hQ
  subst l1 y1 z1
  exact own_go (fun t q => st.trans q) (k v T' Lc X' hQ)
theorem own_callU (X : Stand p l e R s m args below meth c T locs cells slots) (hx : p.tables.exec = Jvm.exec) (hZ : Z.Warmed39 s.vm) {own Cn owner : String} {index : Nat} {y z : MethodName} {bytes : ByteArray} {maxL : Nat} {ret : Option FieldType} {rm : Room} {as' : Array Value} {Qc : Option Value → Heap → List Loc → Prop}
    (hown : s.vm.findClass own = some m.cls) (wl : (Cond.methodLink own index y).before a0 Z = true) (wsm : (Cond.sameMethod y.cls owner y.name y.desc).before a0 Z = true) (wd : (Cond.declares ⟨owner, y.name, y.desc⟩).before a0 Z = true) (wsel : (Cond.selects Cn y z).before a0 Z = true) (win : (Cond.instanceMethod z).before a0 Z = true) (wc : (Cond.code z bytes maxL ret).before a0 Z = true) (wi : (Cond.initialized z.cls).before a0 Z = true)
    (hy : owner ≠ "java/lang/invoke/MethodHandle" ∧ owner ≠ "java/lang/invoke/VarHandle")
    (hM : MetFree l z (head1 [Cond.code z bytes maxL ret] rm) (fun a U => a = as' ∧ Z.Warmed39 U.vm ∧ U.heap = h) (fun _ _ _ _ _ => True) (fun _ U o U' => ∃ v L, o = .returned v ∧ Qc v U'.heap L ∧ FrameEnd U o U' L rm.cells rm.slots))
    (eT : T.heap = h) {b : Addr} (E : Exa Z h b Cn) {pc : Nat} {Ls : Array Slot} (hsize : Ls.size = c.maxLocals) {argsL rest stk : List Value} (hst : stk = argsL.reverse ++ .ref b :: rest) (ha : (.ref b :: argsL).toArray = as') (hlen : ∀ sig, parseMethodDescriptor y.desc = some sig → argsL.length = sig.parameters.length) {W : Nat} (hW : (rest.map fun v => v.category).sum ≤ W)
    (hf : rm.frames + 1 ≤ R.frames) (hl : W + (maxL + 11) + rm.locals ≤ R.locals) (hd : decode c.code pc = .ok (.invokevirtual index, 3)) (hc : cells + rm.cells ≤ R.cells) (hs : slots + rm.slots ≤ R.slots)
    (k : ∀ (v : Option Value) (T' : State) (L : List Loc), Stand p l e R s m args below meth c T' (locs ++ L) (cells + rm.cells) (slots + rm.slots) → Qc v T'.heap L → Go p e below End Q T' (mkF m (pc + 3) Ls (v.toList ++ rest))) :
    Go p e below End Q T (mkF m pc Ls stk) := by
  subst hst
  obtain ⟨cq, kq, qa, qb, qc⟩ := isOf hZ eT E
  obtain ⟨v, _, ⟨T', L', k', n'⟩, -, X', ⟨Lc, hQ, l1, y1, z1⟩, st⟩ := X.virtualBackUp hx (x := y) (y := z) hown (mvT hZ wl) (mvT hZ wsm) (mvT hZ wd) hy (mvT hZ wsel) (mvT hZ win) (backOf (W := W) hM hZ wc wi hf hl) qa qc (g := mkF m pc Ls (argsL.reverse ++ .ref b :: rest)) rfl hsize (Steps.refl _) (argsL := argsL) (rest := rest) hlen rfl (by show 2 * 0 + _ ≤ _; rw [Nat.mul_zero, Nat.zero_add]; exact hW) hd (fun _ _ => ⟨ha, eT, hc, hs⟩)
  dsimp only [Pt.U, Pt.locs, Pt.cells, Pt.slots] at X' l1 y1 z1 st hQ
  subst l1 y1 z1
  exact own_go (fun t q => st.trans q) (k v T' Lc X' hQ)
theorem own_callI (X : Stand p l e R s m args below meth c T locs cells slots) (hx : p.tables.exec = Jvm.exec) (hZ : Z.Warmed39 s.vm) {own : String} {index : Nat} {y : MethodName} {bytes : ByteArray} {maxL : Nat} {rm : Room} {as' : Array Value} {Qc : Option Value → Heap → List Loc → Prop} (hy1 : y.name = "<init>")
    (hown : s.vm.findClass own = some m.cls) (wl : (Cond.methodLink own index y).before a0 Z = true) (win : (Cond.instanceMethod y).before a0 Z = true) (wc : (Cond.code y bytes maxL none).before a0 Z = true) (wi : (Cond.initialized y.cls).before a0 Z = true)
    (hy : y.cls ≠ "java/lang/invoke/MethodHandle" ∧ y.cls ≠ "java/lang/invoke/VarHandle")
    (hM : MetFree l y (head1 [Cond.code y bytes maxL none] rm) (fun a U => a = as' ∧ Z.Warmed39 U.vm ∧ U.heap = h) (fun _ _ _ _ _ => True) (fun _ U o U' => ∃ v L, o = .returned v ∧ Qc v U'.heap L ∧ FrameEnd U o U' L rm.cells rm.slots))
    (eT : T.heap = h) {b : Addr} {pc : Nat} {Ls : Array Slot} (hsize : Ls.size = c.maxLocals) {argsL rest stk : List Value} (hst : stk = argsL.reverse ++ .ref b :: rest) (ha : (.ref b :: argsL).toArray = as') (hlen : ∀ sig, parseMethodDescriptor y.desc = some sig → argsL.length = sig.parameters.length) {W : Nat} (hW : (rest.map fun v => v.category).sum ≤ W)
    (hf : rm.frames + 1 ≤ R.frames) (hl : W + (maxL + 11) + rm.locals ≤ R.locals) (hd : decode c.code pc = .ok (.invokespecial index, 3)) (hc : cells + rm.cells ≤ R.cells) (hs : slots + rm.slots ≤ R.slots)
    (k : ∀ (v : Option Value) (T' : State) (L : List Loc), Stand p l e R s m args below meth c T' (locs ++ L) (cells + rm.cells) (slots + rm.slots) → Qc v T'.heap L → Go p e below End Q T' (mkF m (pc + 3) Ls (v.toList ++ rest))) :
    Go p e below End Q T (mkF m pc Ls stk) := by
  subst hst
  obtain ⟨v, _, ⟨T', L', k', n'⟩, -, X', ⟨Lc, hQ, l1, y1, z1⟩, st⟩ := X.specialBack hx (y := y) hy1 hown (mvT hZ wl) (mvT hZ win) (mvT hZ wc) hy (backOf (W := W) hM hZ wc wi hf hl) (g := mkF m pc Ls (argsL.reverse ++ .ref b :: rest)) rfl hsize (Steps.refl _) (a := b) (argsL := argsL) (rest := rest) hlen rfl (by show 2 * 0 + _ ≤ _; rw [Nat.mul_zero, Nat.zero_add]; exact hW) hd (fun _ _ => ⟨ha, eT, hc, hs⟩)
  dsimp only [Pt.U, Pt.locs, Pt.cells, Pt.slots] at X' l1 y1 z1 st hQ
  subst l1 y1 z1
  exact own_go (fun t q => st.trans q) (k v T' Lc X' hQ)
theorem own_eqI {ar : Array Value} {t : Term} {k : Int32} (hx : (Cond.eq t (.int k)).value ar Z none Z [] = some true) : t.eval ar Z none [] Z = some (.int k) := by
  obtain ⟨x, y, e1, e2, k1, -⟩ := cmp_v (Or.inl hx)
  have e3 : y = .int k := Option.some.inj (e2.symm.trans (Term.int_eval k))
  subst e3
  cases x with
  | int z =>
    have := gotT (Cond.eq_ints e1 e2) hx
    subst this
    exact e1
  | _ => simp [Kin, Value.isRef] at k1
theorem own_fld {ar : Array Value} {t : Term} {w : Addr} {O n d : String} {k : Int32} (ev : t.eval ar Z none [] Z = some (.ref w)) (hx : (Cond.eq (.field t O n d) (.int k)).value ar Z none Z [] = some true) : Fld Z Z.heap w O n d (.int k) :=
  Fld.start ((fld_at (C := O) (n := n) (dd := d) ev).symm.trans (own_eqI hx))
theorem own_len {ar : Array Value} {t : Term} {a : Addr} {cl : Cell} {k : Int32} {n : Nat} (ev : t.eval ar Z none [] Z = some (.ref a)) (hat : Z.arrayAt? a = some cl) (hL : (Cond.eq (.length t) (.int k)).value ar Z none Z [] = some true) (hk : k.toInt = n) : cl.slots.size = n ∧ cl.slots.size < 2 ^ 31 := by
  by_cases hs : cl.slots.size < 2 ^ 31
  · have e1 := len_f (t := t) ev hat hs
    have e2 := own_eqI hL
    have e3 : cl.slots.size.toInt32 = k := Value.int.inj (Option.some.inj (e1.symm.trans e2))
    have e4 := len_toInt hs
    rw [e3, hk] at e4
    exact ⟨by omega, hs⟩
  · have e2 := own_eqI hL
    simp [Term.eval, ev, hat, hs] at e2
theorem own_ne_fld {a b : Addr} {Cn n d : String} {v w : Value} (F : Fld Z h a Cn n d v) (G : Fld Z h b Cn n d w) (hn : v ≠ w) : ¬ a = b := by
  rintro rfl
  obtain ⟨c1, cf1, k1, i1, f1, h1, h2, -, -, -, -, h7⟩ := F
  obtain ⟨c2, cf2, k2, i2, f2, g1, g2, -, -, -, -, g7⟩ := G
  cases h1.symm.trans g1
  cases h2.symm.trans g2
  cases h7.symm.trans g7
  exact hn rfl
theorem own_sta_keep {h h' : Heap} {ws : List Addr} {Cn n d : String} {v : Value} (F : Sta Z h Cn n d v) (K : Keep h h' ws) (hws : ∀ a ∈ ws, ∃ C', Exa Z h a C') : Sta Z h' Cn n d v := by
  obtain ⟨cf, i, k, f, st, cell, h1, h2, h3, h4, h5, h6, h7⟩ := F
  refine ⟨cf, i, k, f, st, cell, h1, h2, h3, h4, K.2.1 st cell h5 (fun q => ?_), h6, h7⟩
  obtain ⟨C', cell', k', e1, -, -, e4, -⟩ := hws st q
  cases h5.symm.trans e1
  rw [h6] at e4; cases e4
/-- the class named c has no superclass named K (itself neither) -/
def OwnNsub (Z : State) (c K : String) : Prop := ∀ (ci ki : ClassId), Z.vm.findClass c = some ci → Z.vm.findClass K = some ki → ∀ fuel, Z.vm.isSubclassAux fuel ci ki = false
theorem own_id_ne {c K : String} {ci ki : ClassId} (h1 : Z.vm.findClass c = some ci) (h2 : Z.vm.findClass K = some ki) (hn : c ≠ K) : (ci == ki) = false := by
  rw [beq_eq_false_iff_ne]
  rintro rfl
  obtain ⟨k1, a1, b1⟩ := Vm.findClass_spec h1
  obtain ⟨k2, a2, b2⟩ := Vm.findClass_spec h2
  cases a1.symm.trans a2
  exact hn (b1.symm.trans b2)
theorem own_nsub_root {c K : String} (w : (Cond.noSuperclass c).before a0 Z = true) (hn : c ≠ K) : OwnNsub Z c K := by
  intro ci ki h1 h2 fuel
  cases fuel with
  | zero => rfl
  | succ n =>
    obtain ⟨k1, a1, b1⟩ := Vm.findClass_spec h1
    have hs := Cond.noSuperclass_root w ci k1 h1 a1
    simp [Vm.isSubclassAux, own_id_ne h1 h2 hn, a1, hs]
theorem own_nsub_up {c d K : String} (w : (Cond.superclass c d).before a0 Z = true) (hn : c ≠ K) (N : OwnNsub Z d K) : OwnNsub Z c K := by
  intro ci ki h1 h2 fuel
  cases fuel with
  | zero => rfl
  | succ n =>
    obtain ⟨pi, k, kp, g1, g2, g3, g4, -⟩ := Cond.superclass_spec h1 w
    simp [Vm.isSubclassAux, own_id_ne h1 h2 hn, g2, g4, N pi ki g1 h2 n]
theorem own_nins {a : Addr} {c d K : String} {kk : Nat} (E : Exa Z h a c) (wi : (Cond.instantiable K kk).before a0 Z = true) (wsup : (Cond.superclass c d).before a0 Z = true) (hn : c ≠ K) (N : OwnNsub Z c K) : Ins Z h a K false := by
  obtain ⟨cell, k, h1, h2, h3, h4, -⟩ := E
  obtain ⟨ki, kt, i1, i2, i3, i4, -⟩ := Cond.instantiable_spec wi
  obtain ⟨pi, k', kp, g1, g2, g3, g4, g5, -⟩ := Cond.superclass_spec h2 wsup
  cases h3.symm.trans g2
  refine ⟨cell, ki, h1, i1, ?_⟩
  have hif : kt.isInterface = false := by simp only [Bool.or_eq_false_iff] at i4; exact i4.1
  simp [h4, Vm.assignable, Vm.assignableAux, own_id_ne h2 i1 hn, h3, i2, g5, i3, hif, Vm.isSubclass, N cell.cls ki h2 i1]
end OwnGo
theorem own_int {i j : Int32} (h : i.toInt = j.toInt) : i = j := Int32.toInt_inj.mp h
theorem own_and3 (x : Int32) : (x &&& (3 : Int32)) = 0 ∨ (x &&& (3 : Int32)) = 1 ∨ (x &&& (3 : Int32)) = 2 ∨ (x &&& (3 : Int32)) = 3 := by
  have h := c_and x (3 : Int32) (by decide)
  have h3 : (3 : Int32).toInt = 3 := by decide
  rw [h3] at h
  generalize (x &&& (3 : Int32)) = i at h
  have q : i.toInt = 0 ∨ i.toInt = 1 ∨ i.toInt = 2 ∨ i.toInt = 3 := by omega
  rcases q with q | q | q | q
  · exact Or.inl (own_int q)
  · exact Or.inr (Or.inl (own_int q))
  · exact Or.inr (Or.inr (Or.inl (own_int q)))
  · exact Or.inr (Or.inr (Or.inr (own_int q)))
theorem own_and1 (x : Int32) : (x &&& (1 : Int32)) = 0 ∨ (x &&& (1 : Int32)) = 1 := by
  have h := c_and x (1 : Int32) (by decide)
  have h3 : (1 : Int32).toInt = 1 := by decide
  rw [h3] at h
  generalize (x &&& (1 : Int32)) = i at h
  have q : i.toInt = 0 ∨ i.toInt = 1 := by omega
  rcases q with q | q
  · exact Or.inl (own_int q)
  · exact Or.inr (own_int q)
theorem own_rem6 (x : Int32) : ((x &&& (2147483647 : Int32)) % (6 : Int32)) = 0 ∨ ((x &&& (2147483647 : Int32)) % (6 : Int32)) = 1 ∨ ((x &&& (2147483647 : Int32)) % (6 : Int32)) = 2 ∨ ((x &&& (2147483647 : Int32)) % (6 : Int32)) = 3 ∨ ((x &&& (2147483647 : Int32)) % (6 : Int32)) = 4 ∨ ((x &&& (2147483647 : Int32)) % (6 : Int32)) = 5 := by
  have h := (c_and x (2147483647 : Int32) (by decide)).1
  generalize (x &&& (2147483647 : Int32)) = y at h
  have h2 := (c_irem y (6 : Int32) 6 (by decide)).1 h
  generalize (y % (6 : Int32)) = i at h2
  have q : i.toInt = 0 ∨ i.toInt = 1 ∨ i.toInt = 2 ∨ i.toInt = 3 ∨ i.toInt = 4 ∨ i.toInt = 5 := by omega
  rcases q with q | q | q | q | q | q
  · exact Or.inl (own_int q)
  · exact Or.inr (Or.inl (own_int q))
  · exact Or.inr (Or.inr (Or.inl (own_int q)))
  · exact Or.inr (Or.inr (Or.inr (Or.inl (own_int q))))
  · exact Or.inr (Or.inr (Or.inr (Or.inr (Or.inl (own_int q)))))
  · exact Or.inr (Or.inr (Or.inr (Or.inr (Or.inr (own_int q)))))
theorem own_rem5 (x : Int32) : ((x &&& (2147483647 : Int32)) % (5 : Int32)) = 0 ∨ ((x &&& (2147483647 : Int32)) % (5 : Int32)) = 1 ∨ ((x &&& (2147483647 : Int32)) % (5 : Int32)) = 2 ∨ ((x &&& (2147483647 : Int32)) % (5 : Int32)) = 3 ∨ ((x &&& (2147483647 : Int32)) % (5 : Int32)) = 4 := by
  have h := (c_and x (2147483647 : Int32) (by decide)).1
  generalize (x &&& (2147483647 : Int32)) = y at h
  have h2 := (c_irem y (5 : Int32) 5 (by decide)).1 h
  generalize (y % (5 : Int32)) = i at h2
  have q : i.toInt = 0 ∨ i.toInt = 1 ∨ i.toInt = 2 ∨ i.toInt = 3 ∨ i.toInt = 4 := by omega
  rcases q with q | q | q | q | q
  · exact Or.inl (own_int q)
  · exact Or.inr (Or.inl (own_int q))
  · exact Or.inr (Or.inr (Or.inl (own_int q)))
  · exact Or.inr (Or.inr (Or.inr (Or.inl (own_int q))))
  · exact Or.inr (Or.inr (Or.inr (Or.inr (own_int q))))
theorem own_and2 (x : Int32) : (x &&& (2 : Int32)) = 0 ∨ (x &&& (2 : Int32)) = 2 := by
  have h : (x &&& (2 : Int32)) = (x &&& (3 : Int32)) &&& (2 : Int32) := by rw [Int32.and_assoc]; rfl
  rw [h]
  rcases own_and3 x with q | q | q | q <;> rw [q] <;> decide

theorem d_method_2_0 : Jvm.ClassFile.decode method_2_code 0 = .ok (.iload_n 0, 1) := by decide +kernel
theorem d_method_2_1 : Jvm.ClassFile.decode method_2_code 1 = .ok (.ifCond .ne 7, 3) := by decide +kernel
theorem d_method_2_8 : Jvm.ClassFile.decode method_2_code 8 = .ok (.iload_n 0, 1) := by decide +kernel
theorem d_method_2_9 : Jvm.ClassFile.decode method_2_code 9 = .ok (.iconst 1, 1) := by decide +kernel
theorem d_method_2_10 : Jvm.ClassFile.decode method_2_code 10 = .ok (.if_icmp .ne 7, 3) := by decide +kernel
theorem d_method_2_17 : Jvm.ClassFile.decode method_2_code 17 = .ok (.iload_n 0, 1) := by decide +kernel
theorem d_method_2_18 : Jvm.ClassFile.decode method_2_code 18 = .ok (.iconst 2, 1) := by decide +kernel
theorem d_method_2_19 : Jvm.ClassFile.decode method_2_code 19 = .ok (.if_icmp .ne 7, 3) := by decide +kernel
theorem d_method_2_26 : Jvm.ClassFile.decode method_2_code 26 = .ok (.iload_n 0, 1) := by decide +kernel
theorem d_method_2_27 : Jvm.ClassFile.decode method_2_code 27 = .ok (.iconst 3, 1) := by decide +kernel
theorem d_method_2_28 : Jvm.ClassFile.decode method_2_code 28 = .ok (.if_icmp .ne 7, 3) := by decide +kernel
theorem d_method_2_35 : Jvm.ClassFile.decode method_2_code 35 = .ok (.iload_n 0, 1) := by decide +kernel
theorem d_method_2_36 : Jvm.ClassFile.decode method_2_code 36 = .ok (.iconst 4, 1) := by decide +kernel
theorem d_method_2_37 : Jvm.ClassFile.decode method_2_code 37 = .ok (.if_icmp .ne 7, 3) := by decide +kernel
theorem d_method_2_44 : Jvm.ClassFile.decode method_2_code 44 = .ok (.getstatic 25, 3) := by decide +kernel
theorem d_method_2_47 : Jvm.ClassFile.decode method_2_code 47 = .ok (.areturn, 1) := by decide +kernel
theorem d_method_2_40 : Jvm.ClassFile.decode method_2_code 40 = .ok (.getstatic 22, 3) := by decide +kernel
theorem d_method_2_43 : Jvm.ClassFile.decode method_2_code 43 = .ok (.areturn, 1) := by decide +kernel
theorem d_method_2_31 : Jvm.ClassFile.decode method_2_code 31 = .ok (.getstatic 19, 3) := by decide +kernel
theorem d_method_2_34 : Jvm.ClassFile.decode method_2_code 34 = .ok (.areturn, 1) := by decide +kernel
theorem d_method_2_22 : Jvm.ClassFile.decode method_2_code 22 = .ok (.getstatic 16, 3) := by decide +kernel
theorem d_method_2_25 : Jvm.ClassFile.decode method_2_code 25 = .ok (.areturn, 1) := by decide +kernel
theorem d_method_2_13 : Jvm.ClassFile.decode method_2_code 13 = .ok (.getstatic 13, 3) := by decide +kernel
theorem d_method_2_16 : Jvm.ClassFile.decode method_2_code 16 = .ok (.areturn, 1) := by decide +kernel
theorem d_method_2_4 : Jvm.ClassFile.decode method_2_code 4 = .ok (.getstatic 7, 3) := by decide +kernel
theorem d_method_2_7 : Jvm.ClassFile.decode method_2_code 7 = .ok (.areturn, 1) := by decide +kernel
def own_f_rm1 (p1 : Int32) (w_EQUAL : Addr) (w_LESS_OR_EQUAL : Addr) (w_NOT_EQUAL : Addr) (w_LESS : Addr) (w_GREATER_OR_EQUAL : Addr) (w_GREATER : Addr) : Value := (if p1 = (0 : Int32) then (.ref w_EQUAL : Value) else (if p1 = (1 : Int32) then (.ref w_NOT_EQUAL : Value) else (if p1 = (2 : Int32) then (.ref w_LESS : Value) else (if p1 = (3 : Int32) then (.ref w_LESS_OR_EQUAL : Value) else (if p1 = (4 : Int32) then (.ref w_GREATER : Value) else (.ref w_GREATER_OR_EQUAL : Value))))))
theorem own_pn0 : plainName "com/example/edict/edict/OperatorOrdersPinLaw" = true := by first | (simp [plainName, overriddenIn]; done) | decide +kernel
theorem own_ef_rm1 (m : MethodId) (x0 : Int32) : entryFrame m #[(.int x0)] 1 = mkF m 0 #[.val (.int x0)] [] := by first | (simp [entryFrame, mkF, argsToLocals, Value.category]; done) | rfl
set_option maxRecDepth 65536 in
set_option maxHeartbeats 40000000 in
theorem rm1 (l : Launch) (Z : State) (a0 : Array Value) (hw : ∀ d ∈ tables_1, d.before a0 Z = true) (ws : List Jvm.Cond) (p1 : Int32) (w_EQUAL : Addr) (w_LESS_OR_EQUAL : Addr) (w_NOT_EQUAL : Addr) (w_LESS : Addr) (w_GREATER_OR_EQUAL : Addr) (w_GREATER : Addr) (r : Value) (h0 : Heap) (n0 : Nat) (hn0 : n0 ≤ h0.size) (S_EQUAL : Sta Z h0 "com/example/edict/edict/Operator" "EQUAL" "Lcom/example/edict/edict/Operator;" (.ref w_EQUAL)) (S_LESS_OR_EQUAL : Sta Z h0 "com/example/edict/edict/Operator" "LESS_OR_EQUAL" "Lcom/example/edict/edict/Operator;" (.ref w_LESS_OR_EQUAL)) (S_NOT_EQUAL : Sta Z h0 "com/example/edict/edict/Operator" "NOT_EQUAL" "Lcom/example/edict/edict/Operator;" (.ref w_NOT_EQUAL)) (S_LESS : Sta Z h0 "com/example/edict/edict/Operator" "LESS" "Lcom/example/edict/edict/Operator;" (.ref w_LESS)) (S_GREATER_OR_EQUAL : Sta Z h0 "com/example/edict/edict/Operator" "GREATER_OR_EQUAL" "Lcom/example/edict/edict/Operator;" (.ref w_GREATER_OR_EQUAL)) (S_GREATER : Sta Z h0 "com/example/edict/edict/Operator" "GREATER" "Lcom/example/edict/edict/Operator;" (.ref w_GREATER)) (hr : own_f_rm1 p1 w_EQUAL w_LESS_OR_EQUAL w_NOT_EQUAL w_LESS w_GREATER_OR_EQUAL w_GREATER = r) :
    OwnMet l Z (⟨"com/example/edict/edict/OperatorOrdersPinLaw", "pick", "(I)Lcom/example/edict/edict/Operator;"⟩ : MethodName) method_2_code 1 (some (.object "com/example/edict/edict/Operator")) ws ({ frames := 0, cells := 0, slots := 0, locals := 0 } : Room) #[(.int p1)] h0 (OwnP (some r) h0 n0) := by
  refine own_body (plainFor_of_name own_pn0) ?_
  intro p e s m below meth c s₁ X0 hx hby hml hret hlk hown0 hnm hZ e0 hs0
  have hown : s.vm.findClass "com/example/edict/edict/OperatorOrdersPinLaw" = some m.cls := hown0
  have N0 := Fr.nil n0
  refine own_entry (own_ef_rm1 m p1) ?_
  show Go _ _ _ _ _ s₁ (mkF m 0 #[.val (.int p1)] [])
  refine own_go (fun t k => XS.iloadN X0.here hx rfl (hb hby d_method_2_0) rfl k) ?_
  show Go _ _ _ _ _ s₁ (mkF m 1 #[.val (.int p1)] [(.int p1)])
  refine own_ifM (p1 = (0 : Int32)) X0 hx (hb hby d_method_2_1) (own_ne _ _) (by decide) (by decide) (pc' := 8) (fun hc12 => ?_) (fun hc12 => ?_)
  · skip
    show Go _ _ _ _ _ s₁ (mkF m 8 #[.val (.int p1)] [])
    refine own_go (fun t k => XS.iloadN X0.here hx rfl (hb hby d_method_2_8) rfl k) ?_
    show Go _ _ _ _ _ s₁ (mkF m 9 #[.val (.int p1)] [(.int p1)])
    refine own_go (fun t k => XS.iconst X0.here hx rfl (hb hby d_method_2_9) k) ?_
    show Go _ _ _ _ _ s₁ (mkF m 10 #[.val (.int p1)] [(.int (1 : Int32)), (.int p1)])
    refine own_icmpM (p1 = (1 : Int32)) X0 hx (hb hby d_method_2_10) (own_ne _ _) (by decide) (by decide) (pc' := 17) (fun hc13 => ?_) (fun hc13 => ?_)
    · skip
      show Go _ _ _ _ _ s₁ (mkF m 17 #[.val (.int p1)] [])
      refine own_go (fun t k => XS.iloadN X0.here hx rfl (hb hby d_method_2_17) rfl k) ?_
      show Go _ _ _ _ _ s₁ (mkF m 18 #[.val (.int p1)] [(.int p1)])
      refine own_go (fun t k => XS.iconst X0.here hx rfl (hb hby d_method_2_18) k) ?_
      show Go _ _ _ _ _ s₁ (mkF m 19 #[.val (.int p1)] [(.int (2 : Int32)), (.int p1)])
      refine own_icmpM (p1 = (2 : Int32)) X0 hx (hb hby d_method_2_19) (own_ne _ _) (by decide) (by decide) (pc' := 26) (fun hc14 => ?_) (fun hc14 => ?_)
      · skip
        show Go _ _ _ _ _ s₁ (mkF m 26 #[.val (.int p1)] [])
        refine own_go (fun t k => XS.iloadN X0.here hx rfl (hb hby d_method_2_26) rfl k) ?_
        show Go _ _ _ _ _ s₁ (mkF m 27 #[.val (.int p1)] [(.int p1)])
        refine own_go (fun t k => XS.iconst X0.here hx rfl (hb hby d_method_2_27) k) ?_
        show Go _ _ _ _ _ s₁ (mkF m 28 #[.val (.int p1)] [(.int (3 : Int32)), (.int p1)])
        refine own_icmpM (p1 = (3 : Int32)) X0 hx (hb hby d_method_2_28) (own_ne _ _) (by decide) (by decide) (pc' := 35) (fun hc15 => ?_) (fun hc15 => ?_)
        · skip
          show Go _ _ _ _ _ s₁ (mkF m 35 #[.val (.int p1)] [])
          refine own_go (fun t k => XS.iloadN X0.here hx rfl (hb hby d_method_2_35) rfl k) ?_
          show Go _ _ _ _ _ s₁ (mkF m 36 #[.val (.int p1)] [(.int p1)])
          refine own_go (fun t k => XS.iconst X0.here hx rfl (hb hby d_method_2_36) k) ?_
          show Go _ _ _ _ _ s₁ (mkF m 37 #[.val (.int p1)] [(.int (4 : Int32)), (.int p1)])
          refine own_icmpM (p1 = (4 : Int32)) X0 hx (hb hby d_method_2_37) (own_ne _ _) (by decide) (by decide) (pc' := 44) (fun hc16 => ?_) (fun hc16 => ?_)
          · skip
            show Go _ _ _ _ _ s₁ (mkF m 44 #[.val (.int p1)] [])
            obtain ⟨T17, X17, e17, st17⟩ := getS2 X0 hx hZ hown (host := "") (Or.inl (hw _ (List.mem_of_getElem? (i := 35) rfl))) Via.refl e0 S_GREATER_OR_EQUAL (g := (mkF m 44 #[.val (.int p1)] [])) rfl (hb hby d_method_2_44)
            refine own_go (fun t k => st17 t k) ?_
            show Go _ _ _ _ _ T17 (mkF m 47 #[.val (.int p1)] [(.ref w_GREATER_OR_EQUAL)])
            refine own_retA X17 hx (own_lvN X17 hlk (by decide) (by decide)) hret rfl rfl (hb hby d_method_2_47) ?_
            exact ⟨(by rw [← hr, own_f_rm1, if_neg hc12, if_neg hc13, if_neg hc14, if_neg hc15, if_neg hc16]; try rfl), N0, e17⟩
          · skip
            show Go _ _ _ _ _ s₁ (mkF m 40 #[.val (.int p1)] [])
            obtain ⟨T18, X18, e18, st18⟩ := getS2 X0 hx hZ hown (host := "") (Or.inl (hw _ (List.mem_of_getElem? (i := 37) rfl))) Via.refl e0 S_GREATER (g := (mkF m 40 #[.val (.int p1)] [])) rfl (hb hby d_method_2_40)
            refine own_go (fun t k => st18 t k) ?_
            show Go _ _ _ _ _ T18 (mkF m 43 #[.val (.int p1)] [(.ref w_GREATER)])
            refine own_retA X18 hx (own_lvN X18 hlk (by decide) (by decide)) hret rfl rfl (hb hby d_method_2_43) ?_
            exact ⟨(by rw [← hr, own_f_rm1, if_neg hc12, if_neg hc13, if_neg hc14, if_neg hc15, if_pos hc16]; try rfl), N0, e18⟩
        · skip
          show Go _ _ _ _ _ s₁ (mkF m 31 #[.val (.int p1)] [])
          obtain ⟨T19, X19, e19, st19⟩ := getS2 X0 hx hZ hown (host := "") (Or.inl (hw _ (List.mem_of_getElem? (i := 28) rfl))) Via.refl e0 S_LESS_OR_EQUAL (g := (mkF m 31 #[.val (.int p1)] [])) rfl (hb hby d_method_2_31)
          refine own_go (fun t k => st19 t k) ?_
          show Go _ _ _ _ _ T19 (mkF m 34 #[.val (.int p1)] [(.ref w_LESS_OR_EQUAL)])
          refine own_retA X19 hx (own_lvN X19 hlk (by decide) (by decide)) hret rfl rfl (hb hby d_method_2_34) ?_
          exact ⟨(by rw [← hr, own_f_rm1, if_neg hc12, if_neg hc13, if_neg hc14, if_pos hc15]; try rfl), N0, e19⟩
      · skip
        show Go _ _ _ _ _ s₁ (mkF m 22 #[.val (.int p1)] [])
        obtain ⟨T20, X20, e20, st20⟩ := getS2 X0 hx hZ hown (host := "") (Or.inl (hw _ (List.mem_of_getElem? (i := 32) rfl))) Via.refl e0 S_LESS (g := (mkF m 22 #[.val (.int p1)] [])) rfl (hb hby d_method_2_22)
        refine own_go (fun t k => st20 t k) ?_
        show Go _ _ _ _ _ T20 (mkF m 25 #[.val (.int p1)] [(.ref w_LESS)])
        refine own_retA X20 hx (own_lvN X20 hlk (by decide) (by decide)) hret rfl rfl (hb hby d_method_2_25) ?_
        exact ⟨(by rw [← hr, own_f_rm1, if_neg hc12, if_neg hc13, if_pos hc14]; try rfl), N0, e20⟩
    · skip
      show Go _ _ _ _ _ s₁ (mkF m 13 #[.val (.int p1)] [])
      obtain ⟨T21, X21, e21, st21⟩ := getS2 X0 hx hZ hown (host := "") (Or.inl (hw _ (List.mem_of_getElem? (i := 34) rfl))) Via.refl e0 S_NOT_EQUAL (g := (mkF m 13 #[.val (.int p1)] [])) rfl (hb hby d_method_2_13)
      refine own_go (fun t k => st21 t k) ?_
      show Go _ _ _ _ _ T21 (mkF m 16 #[.val (.int p1)] [(.ref w_NOT_EQUAL)])
      refine own_retA X21 hx (own_lvN X21 hlk (by decide) (by decide)) hret rfl rfl (hb hby d_method_2_16) ?_
      exact ⟨(by rw [← hr, own_f_rm1, if_neg hc12, if_pos hc13]; try rfl), N0, e21⟩
  · skip
    show Go _ _ _ _ _ s₁ (mkF m 4 #[.val (.int p1)] [])
    obtain ⟨T22, X22, e22, st22⟩ := getS2 X0 hx hZ hown (host := "") (Or.inl (hw _ (List.mem_of_getElem? (i := 5) rfl))) Via.refl e0 S_EQUAL (g := (mkF m 4 #[.val (.int p1)] [])) rfl (hb hby d_method_2_4)
    refine own_go (fun t k => st22 t k) ?_
    show Go _ _ _ _ _ T22 (mkF m 7 #[.val (.int p1)] [(.ref w_EQUAL)])
    refine own_retA X22 hx (own_lvN X22 hlk (by decide) (by decide)) hret rfl rfl (hb hby d_method_2_7) ?_
    exact ⟨(by rw [← hr, own_f_rm1, if_pos hc12]; try rfl), N0, e22⟩
theorem d_prog_17_method_6_0 : Jvm.ClassFile.decode prog_17_method_6_code 0 = .ok (.aload_n 0, 1) := by decide +kernel
theorem d_prog_17_method_6_1 : Jvm.ClassFile.decode prog_17_method_6_code 1 = .ok (.getstatic 3, 3) := by decide +kernel
theorem d_prog_17_method_6_4 : Jvm.ClassFile.decode prog_17_method_6_code 4 = .ok (.if_acmp .eq 14, 3) := by decide +kernel
theorem d_prog_17_method_6_18 : Jvm.ClassFile.decode prog_17_method_6_code 18 = .ok (.iconst 0, 1) := by decide +kernel
theorem d_prog_17_method_6_19 : Jvm.ClassFile.decode prog_17_method_6_code 19 = .ok (.ireturn, 1) := by decide +kernel
theorem d_prog_17_method_6_7 : Jvm.ClassFile.decode prog_17_method_6_code 7 = .ok (.aload_n 0, 1) := by decide +kernel
theorem d_prog_17_method_6_8 : Jvm.ClassFile.decode prog_17_method_6_code 8 = .ok (.getstatic 7, 3) := by decide +kernel
theorem d_prog_17_method_6_11 : Jvm.ClassFile.decode prog_17_method_6_code 11 = .ok (.if_acmp .eq 7, 3) := by decide +kernel
theorem d_prog_17_method_6_14 : Jvm.ClassFile.decode prog_17_method_6_code 14 = .ok (.iconst 1, 1) := by decide +kernel
theorem d_prog_17_method_6_15 : Jvm.ClassFile.decode prog_17_method_6_code 15 = .ok (.goto 4, 3) := by decide +kernel
def own_f_rm2 (a1 : Addr) (w_EQUAL : Addr) (w_NOT_EQUAL : Addr) : Int32 := (if a1 = w_EQUAL then (0 : Int32) else (if a1 = w_NOT_EQUAL then (0 : Int32) else (1 : Int32)))
theorem own_pn1 : plainName "com/example/edict/edict/Operator" = true := by first | (simp [plainName, overriddenIn]; done) | decide +kernel
theorem own_ef_rm2 (m : MethodId) (x0 : Addr) : entryFrame m #[(.ref x0)] 1 = mkF m 0 #[.val (.ref x0)] [] := by first | (simp [entryFrame, mkF, argsToLocals, Value.category]; done) | rfl
set_option maxRecDepth 65536 in
set_option maxHeartbeats 40000000 in
theorem rm2 (l : Launch) (Z : State) (a0 : Array Value) (hw : ∀ d ∈ tables_1, d.before a0 Z = true) (ws : List Jvm.Cond) (a1 : Addr) (w_EQUAL : Addr) (w_LESS_OR_EQUAL : Addr) (w_NOT_EQUAL : Addr) (w_LESS : Addr) (w_GREATER_OR_EQUAL : Addr) (w_GREATER : Addr) (r : Int32) (h0 : Heap) (n0 : Nat) (hn0 : n0 ≤ h0.size) (S_EQUAL : Sta Z h0 "com/example/edict/edict/Operator" "EQUAL" "Lcom/example/edict/edict/Operator;" (.ref w_EQUAL)) (S_LESS_OR_EQUAL : Sta Z h0 "com/example/edict/edict/Operator" "LESS_OR_EQUAL" "Lcom/example/edict/edict/Operator;" (.ref w_LESS_OR_EQUAL)) (S_NOT_EQUAL : Sta Z h0 "com/example/edict/edict/Operator" "NOT_EQUAL" "Lcom/example/edict/edict/Operator;" (.ref w_NOT_EQUAL)) (S_LESS : Sta Z h0 "com/example/edict/edict/Operator" "LESS" "Lcom/example/edict/edict/Operator;" (.ref w_LESS)) (S_GREATER_OR_EQUAL : Sta Z h0 "com/example/edict/edict/Operator" "GREATER_OR_EQUAL" "Lcom/example/edict/edict/Operator;" (.ref w_GREATER_OR_EQUAL)) (S_GREATER : Sta Z h0 "com/example/edict/edict/Operator" "GREATER" "Lcom/example/edict/edict/Operator;" (.ref w_GREATER)) (hr : own_f_rm2 a1 w_EQUAL w_NOT_EQUAL = r) :
    OwnMet l Z (⟨"com/example/edict/edict/Operator", "orders", "()Z"⟩ : MethodName) prog_17_method_6_code 1 (some .boolean) ws ({ frames := 0, cells := 0, slots := 0, locals := 0 } : Room) #[(.ref a1)] h0 (OwnP (some (.int r)) h0 n0) := by
  refine own_body (plainFor_of_name own_pn1) ?_
  intro p e s m below meth c s₁ X0 hx hby hml hret hlk hown0 hnm hZ e0 hs0
  have hown : s.vm.findClass "com/example/edict/edict/Operator" = some m.cls := hown0
  have N0 := Fr.nil n0
  refine own_entry (own_ef_rm2 m a1) ?_
  show Go _ _ _ _ _ s₁ (mkF m 0 #[.val (.ref a1)] [])
  refine own_go (fun t k => XS.aloadN X0.here hx rfl (hb hby d_prog_17_method_6_0) rfl rfl k) ?_
  show Go _ _ _ _ _ s₁ (mkF m 1 #[.val (.ref a1)] [(.ref a1)])
  obtain ⟨T27, X27, e27, st27⟩ := getS2 X0 hx hZ hown (host := "") (Or.inl (hw _ (List.mem_of_getElem? (i := 13) rfl))) Via.refl e0 S_EQUAL (g := (mkF m 1 #[.val (.ref a1)] [(.ref a1)])) rfl (hb hby d_prog_17_method_6_1)
  refine own_go (fun t k => st27 t k) ?_
  show Go _ _ _ _ _ T27 (mkF m 4 #[.val (.ref a1)] [(.ref w_EQUAL), (.ref a1)])
  refine own_acmp (a1 = w_EQUAL) X27 hx rfl rfl (own_ref _ _) (hb hby d_prog_17_method_6_4) (by decide) (pcE := 18) (pcN := 7) (by decide) (by decide) (fun ha28 => ?_) (fun ha28 => ?_)
  · skip
    show Go _ _ _ _ _ T27 (mkF m 18 #[.val (.ref a1)] [])
    refine own_go (fun t k => XS.iconst X27.here hx rfl (hb hby d_prog_17_method_6_18) k) ?_
    show Go _ _ _ _ _ T27 (mkF m 19 #[.val (.ref a1)] [(.int (0 : Int32))])
    refine own_retN X27 hx (own_lvN X27 hlk (by decide) (by decide)) (t := .boolean) hret (by simp) (hb hby d_prog_17_method_6_19) ?_
    exact ⟨(by rw [← hr, own_f_rm2, if_pos ha28]; try rfl), N0, e27⟩
  · skip
    show Go _ _ _ _ _ T27 (mkF m 7 #[.val (.ref a1)] [])
    refine own_go (fun t k => XS.aloadN X27.here hx rfl (hb hby d_prog_17_method_6_7) rfl rfl k) ?_
    show Go _ _ _ _ _ T27 (mkF m 8 #[.val (.ref a1)] [(.ref a1)])
    obtain ⟨T29, X29, e29, st29⟩ := getS2 X27 hx hZ hown (host := "") (Or.inl (hw _ (List.mem_of_getElem? (i := 30) rfl))) Via.refl e27 S_NOT_EQUAL (g := (mkF m 8 #[.val (.ref a1)] [(.ref a1)])) rfl (hb hby d_prog_17_method_6_8)
    refine own_go (fun t k => st29 t k) ?_
    show Go _ _ _ _ _ T29 (mkF m 11 #[.val (.ref a1)] [(.ref w_NOT_EQUAL), (.ref a1)])
    refine own_acmp (a1 = w_NOT_EQUAL) X29 hx rfl rfl (own_ref _ _) (hb hby d_prog_17_method_6_11) (by decide) (pcE := 18) (pcN := 14) (by decide) (by decide) (fun ha30 => ?_) (fun ha30 => ?_)
    · skip
      show Go _ _ _ _ _ T29 (mkF m 18 #[.val (.ref a1)] [])
      refine own_go (fun t k => XS.iconst X29.here hx rfl (hb hby d_prog_17_method_6_18) k) ?_
      show Go _ _ _ _ _ T29 (mkF m 19 #[.val (.ref a1)] [(.int (0 : Int32))])
      refine own_retN X29 hx (own_lvN X29 hlk (by decide) (by decide)) (t := .boolean) hret (by simp) (hb hby d_prog_17_method_6_19) ?_
      exact ⟨(by rw [← hr, own_f_rm2, if_neg ha28, if_pos ha30]; try rfl), N0, e29⟩
    · skip
      show Go _ _ _ _ _ T29 (mkF m 14 #[.val (.ref a1)] [])
      refine own_go (fun t k => XS.iconst X29.here hx rfl (hb hby d_prog_17_method_6_14) k) ?_
      show Go _ _ _ _ _ T29 (mkF m 15 #[.val (.ref a1)] [(.int (1 : Int32))])
      refine own_go (fun t k => XS.goto X29.here hx rfl (pc0 := 15) (pc' := 19) rfl (hb hby d_prog_17_method_6_15) (by decide) (by decide) k) ?_
      show Go _ _ _ _ _ T29 (mkF m 19 #[.val (.ref a1)] [(.int (1 : Int32))])
      refine own_retN X29 hx (own_lvN X29 hlk (by decide) (by decide)) (t := .boolean) hret (by simp) (hb hby d_prog_17_method_6_19) ?_
      exact ⟨(by rw [← hr, own_f_rm2, if_neg ha28, if_neg ha30]; try rfl), N0, e29⟩
theorem d_jdk_37_method_2_0 : Jvm.ClassFile.decode jdk_37_method_2_code 0 = .ok (.aload_n 0, 1) := by decide +kernel
theorem d_jdk_37_method_2_1 : Jvm.ClassFile.decode jdk_37_method_2_code 1 = .ok (.getfield 7, 3) := by decide +kernel
theorem d_jdk_37_method_2_4 : Jvm.ClassFile.decode jdk_37_method_2_code 4 = .ok (.ireturn, 1) := by decide +kernel
def own_f_rm4 (k1 : Int32) : Int32 := k1
theorem own_pn2 : plainName "java/lang/Enum" = true := by first | (simp [plainName, overriddenIn]; done) | decide +kernel
theorem own_ef_rm4 (m : MethodId) (x0 : Addr) : entryFrame m #[(.ref x0)] 1 = mkF m 0 #[.val (.ref x0)] [] := by first | (simp [entryFrame, mkF, argsToLocals, Value.category]; done) | rfl
set_option maxRecDepth 65536 in
set_option maxHeartbeats 40000000 in
theorem rm4 (l : Launch) (Z : State) (a0 : Array Value) (hw : ∀ d ∈ tables_1, d.before a0 Z = true) (ws : List Jvm.Cond) (a1 : Addr) (k1 : Int32) (r : Int32) (h0 : Heap) (n0 : Nat) (hn0 : n0 ≤ h0.size) (F : Fld Z h0 a1 "java/lang/Enum" "ordinal" "I" (.int k1)) (hr : own_f_rm4 k1 = r) :
    OwnMet l Z (⟨"java/lang/Enum", "ordinal", "()I"⟩ : MethodName) jdk_37_method_2_code 1 (some .int) ws ({ frames := 0, cells := 0, slots := 0, locals := 0 } : Room) #[(.ref a1)] h0 (OwnP (some (.int r)) h0 n0) := by
  refine own_body (plainFor_of_name own_pn2) ?_
  intro p e s m below meth c s₁ X0 hx hby hml hret hlk hown0 hnm hZ e0 hs0
  have hown : s.vm.findClass "java/lang/Enum" = some m.cls := hown0
  have N0 := Fr.nil n0
  refine own_entry (own_ef_rm4 m a1) ?_
  show Go _ _ _ _ _ s₁ (mkF m 0 #[.val (.ref a1)] [])
  refine own_go (fun t k => XS.aloadN X0.here hx rfl (hb hby d_jdk_37_method_2_0) rfl rfl k) ?_
  show Go _ _ _ _ _ s₁ (mkF m 1 #[.val (.ref a1)] [(.ref a1)])
  obtain ⟨T32, X32, e32, st32⟩ := getF X0 hx hZ hown (host := "") (Or.inl (hw _ (List.mem_of_getElem? (i := 26) rfl))) Via.refl e0 F (g := (mkF m 1 #[.val (.ref a1)] [(.ref a1)])) rfl rfl (hb hby d_jdk_37_method_2_1)
  refine own_go (fun t k => st32 t k) ?_
  show Go _ _ _ _ _ T32 (mkF m 4 #[.val (.ref a1)] [(.int k1)])
  refine own_retI X32 hx (own_lvN X32 hlk (by decide) (by decide)) hret (hb hby d_jdk_37_method_2_4) ?_
  exact ⟨(by rw [← hr, own_f_rm4]; try rfl), N0, e32⟩
theorem d_prog_17_method_7_0 : Jvm.ClassFile.decode prog_17_method_7_code 0 = .ok (.aload_n 0, 1) := by decide +kernel
theorem d_prog_17_method_7_1 : Jvm.ClassFile.decode prog_17_method_7_code 1 = .ok (.invokevirtual 55, 3) := by decide +kernel
theorem own_pd0 : parseMethodDescriptor "()I" = some ⟨[], some .int⟩ := by decide +kernel
theorem d_prog_17_method_7_4 : Jvm.ClassFile.decode prog_17_method_7_code 4 = .ok (.tableswitch 100 0 5 #[40, 50, 60, 70, 80, 90], 40) := by decide +kernel
theorem d_prog_17_method_7_44 : Jvm.ClassFile.decode prog_17_method_7_code 44 = .ok (.iload_n 1, 1) := by decide +kernel
theorem d_prog_17_method_7_45 : Jvm.ClassFile.decode prog_17_method_7_code 45 = .ok (.ifCond .ne 7, 3) := by decide +kernel
theorem d_prog_17_method_7_52 : Jvm.ClassFile.decode prog_17_method_7_code 52 = .ok (.iconst 0, 1) := by decide +kernel
theorem d_prog_17_method_7_53 : Jvm.ClassFile.decode prog_17_method_7_code 53 = .ok (.ireturn, 1) := by decide +kernel
theorem d_prog_17_method_7_48 : Jvm.ClassFile.decode prog_17_method_7_code 48 = .ok (.iconst 1, 1) := by decide +kernel
theorem d_prog_17_method_7_49 : Jvm.ClassFile.decode prog_17_method_7_code 49 = .ok (.goto 4, 3) := by decide +kernel
def own_f_rm_holds_0 (p1 : Int32) : Int32 := (if p1 = (0 : Int32) then (1 : Int32) else (0 : Int32))
theorem own_ef_rm_holds_0 (m : MethodId) (x0 : Addr) (x1 : Int32) : entryFrame m #[(.ref x0), (.int x1)] 2 = mkF m 0 #[.val (.ref x0), .val (.int x1)] [] := by first | (simp [entryFrame, mkF, argsToLocals, Value.category]; done) | rfl
set_option maxRecDepth 65536 in
set_option maxHeartbeats 40000000 in
theorem rm_holds_0 (l : Launch) (Z : State) (a0 : Array Value) (hw : ∀ d ∈ tables_1, d.before a0 Z = true) (ws : List Jvm.Cond) (a1 : Addr) (p1 : Int32) (r : Int32) (h0 : Heap) (n0 : Nat) (hn0 : n0 ≤ h0.size) (E : Exa Z h0 a1 "com/example/edict/edict/Operator") (F : Fld Z h0 a1 "java/lang/Enum" "ordinal" "I" (.int (0 : Int32))) (hr : own_f_rm_holds_0 p1 = r) :
    OwnMet l Z (⟨"com/example/edict/edict/Operator", "holds", "(I)Z"⟩ : MethodName) prog_17_method_7_code 2 (some .boolean) ws ({ frames := 1, cells := 0, slots := 0, locals := 12 } : Room) #[(.ref a1), (.int p1)] h0 (OwnP (some (.int r)) h0 n0) := by
  refine own_body (plainFor_of_name own_pn1) ?_
  intro p e s m below meth c s₁ X0 hx hby hml hret hlk hown0 hnm hZ e0 hs0
  have hown : s.vm.findClass "com/example/edict/edict/Operator" = some m.cls := hown0
  have N0 := Fr.nil n0
  refine own_entry (own_ef_rm_holds_0 m a1 p1) ?_
  show Go _ _ _ _ _ s₁ (mkF m 0 #[.val (.ref a1), .val (.int p1)] [])
  refine own_go (fun t k => XS.aloadN X0.here hx rfl (hb hby d_prog_17_method_7_0) rfl rfl k) ?_
  show Go _ _ _ _ _ s₁ (mkF m 1 #[.val (.ref a1), .val (.int p1)] [(.ref a1)])
  refine own_callU X0 hx hZ (owner := "java/lang/Enum") (y := (⟨"com/example/edict/edict/Operator", "ordinal", "()I"⟩ : MethodName)) (z := (⟨"java/lang/Enum", "ordinal", "()I"⟩ : MethodName)) hown (hw _ (List.mem_of_getElem? (i := 19) rfl)) (hw _ (List.mem_of_getElem? (i := 20) rfl)) (hw _ (List.mem_of_getElem? (i := 21) rfl)) (hw _ (List.mem_of_getElem? (i := 23) rfl)) (hw _ (List.mem_of_getElem? (i := 22) rfl)) (hw _ (List.mem_of_getElem? (i := 25) rfl)) (hw _ (List.mem_of_getElem? (i := 24) rfl)) (by decide) (rm4 l Z a0 hw [] a1 (0 : Int32) (0 : Int32) h0 n0 hn0 F (by rw [own_f_rm4]; try first | rfl | decide)) e0 E (by rw [hml]; rfl) (argsL := []) (rest := []) rfl rfl (lenOf own_pd0 rfl) (W := 0) (Nat.le_of_eq rfl) (by decide) (by decide) (hb hby d_prog_17_method_7_1) (by decide) (by decide) ?_
  intro v35 T35 L35 X35 q35
  obtain ⟨rfl, N35q, e35⟩ := q35
  have N35 := Fr.app N0 N35q
  show Go _ _ _ _ _ T35 (mkF m 4 #[.val (.ref a1), .val (.int p1)] [(.int (0 : Int32))])
  refine own_go (fun t k => XS.tswIn X35.here hx rfl (pc0 := 4) (pc' := 44) rfl (hb hby d_prog_17_method_7_4) rfl (by decide) (o := 40) (by decide) (by decide) (by decide) k) ?_
  show Go _ _ _ _ _ T35 (mkF m 44 #[.val (.ref a1), .val (.int p1)] [])
  refine own_go (fun t k => XS.iloadN X35.here hx rfl (hb hby d_prog_17_method_7_44) rfl k) ?_
  show Go _ _ _ _ _ T35 (mkF m 45 #[.val (.ref a1), .val (.int p1)] [(.int p1)])
  refine own_ifM (p1 = (0 : Int32)) X35 hx (hb hby d_prog_17_method_7_45) (own_ne _ _) (by decide) (by decide) (pc' := 52) (fun hc36 => ?_) (fun hc36 => ?_)
  · skip
    show Go _ _ _ _ _ T35 (mkF m 52 #[.val (.ref a1), .val (.int p1)] [])
    refine own_go (fun t k => XS.iconst X35.here hx rfl (hb hby d_prog_17_method_7_52) k) ?_
    show Go _ _ _ _ _ T35 (mkF m 53 #[.val (.ref a1), .val (.int p1)] [(.int (0 : Int32))])
    refine own_retN X35 hx (own_lvN X35 hlk (by decide) (by decide)) (t := .boolean) hret (by simp) (hb hby d_prog_17_method_7_53) ?_
    exact ⟨(by rw [← hr, own_f_rm_holds_0, if_neg hc36]; try rfl), N35, e35⟩
  · skip
    show Go _ _ _ _ _ T35 (mkF m 48 #[.val (.ref a1), .val (.int p1)] [])
    refine own_go (fun t k => XS.iconst X35.here hx rfl (hb hby d_prog_17_method_7_48) k) ?_
    show Go _ _ _ _ _ T35 (mkF m 49 #[.val (.ref a1), .val (.int p1)] [(.int (1 : Int32))])
    refine own_go (fun t k => XS.goto X35.here hx rfl (pc0 := 49) (pc' := 53) rfl (hb hby d_prog_17_method_7_49) (by decide) (by decide) k) ?_
    show Go _ _ _ _ _ T35 (mkF m 53 #[.val (.ref a1), .val (.int p1)] [(.int (1 : Int32))])
    refine own_retN X35 hx (own_lvN X35 hlk (by decide) (by decide)) (t := .boolean) hret (by simp) (hb hby d_prog_17_method_7_53) ?_
    exact ⟨(by rw [← hr, own_f_rm_holds_0, if_pos hc36]; try rfl), N35, e35⟩
theorem d_prog_17_method_7_54 : Jvm.ClassFile.decode prog_17_method_7_code 54 = .ok (.iload_n 1, 1) := by decide +kernel
theorem d_prog_17_method_7_55 : Jvm.ClassFile.decode prog_17_method_7_code 55 = .ok (.ifCond .eq 7, 3) := by decide +kernel
theorem d_prog_17_method_7_62 : Jvm.ClassFile.decode prog_17_method_7_code 62 = .ok (.iconst 0, 1) := by decide +kernel
theorem d_prog_17_method_7_63 : Jvm.ClassFile.decode prog_17_method_7_code 63 = .ok (.ireturn, 1) := by decide +kernel
theorem d_prog_17_method_7_58 : Jvm.ClassFile.decode prog_17_method_7_code 58 = .ok (.iconst 1, 1) := by decide +kernel
theorem d_prog_17_method_7_59 : Jvm.ClassFile.decode prog_17_method_7_code 59 = .ok (.goto 4, 3) := by decide +kernel
def own_f_rm_holds_1 (p1 : Int32) : Int32 := (if p1 = (0 : Int32) then (0 : Int32) else (1 : Int32))
theorem own_ef_rm_holds_1 (m : MethodId) (x0 : Addr) (x1 : Int32) : entryFrame m #[(.ref x0), (.int x1)] 2 = mkF m 0 #[.val (.ref x0), .val (.int x1)] [] := by first | (simp [entryFrame, mkF, argsToLocals, Value.category]; done) | rfl
set_option maxRecDepth 65536 in
set_option maxHeartbeats 40000000 in
theorem rm_holds_1 (l : Launch) (Z : State) (a0 : Array Value) (hw : ∀ d ∈ tables_1, d.before a0 Z = true) (ws : List Jvm.Cond) (a1 : Addr) (p1 : Int32) (r : Int32) (h0 : Heap) (n0 : Nat) (hn0 : n0 ≤ h0.size) (E : Exa Z h0 a1 "com/example/edict/edict/Operator") (F : Fld Z h0 a1 "java/lang/Enum" "ordinal" "I" (.int (1 : Int32))) (hr : own_f_rm_holds_1 p1 = r) :
    OwnMet l Z (⟨"com/example/edict/edict/Operator", "holds", "(I)Z"⟩ : MethodName) prog_17_method_7_code 2 (some .boolean) ws ({ frames := 1, cells := 0, slots := 0, locals := 12 } : Room) #[(.ref a1), (.int p1)] h0 (OwnP (some (.int r)) h0 n0) := by
  refine own_body (plainFor_of_name own_pn1) ?_
  intro p e s m below meth c s₁ X0 hx hby hml hret hlk hown0 hnm hZ e0 hs0
  have hown : s.vm.findClass "com/example/edict/edict/Operator" = some m.cls := hown0
  have N0 := Fr.nil n0
  refine own_entry (own_ef_rm_holds_1 m a1 p1) ?_
  show Go _ _ _ _ _ s₁ (mkF m 0 #[.val (.ref a1), .val (.int p1)] [])
  refine own_go (fun t k => XS.aloadN X0.here hx rfl (hb hby d_prog_17_method_7_0) rfl rfl k) ?_
  show Go _ _ _ _ _ s₁ (mkF m 1 #[.val (.ref a1), .val (.int p1)] [(.ref a1)])
  refine own_callU X0 hx hZ (owner := "java/lang/Enum") (y := (⟨"com/example/edict/edict/Operator", "ordinal", "()I"⟩ : MethodName)) (z := (⟨"java/lang/Enum", "ordinal", "()I"⟩ : MethodName)) hown (hw _ (List.mem_of_getElem? (i := 19) rfl)) (hw _ (List.mem_of_getElem? (i := 20) rfl)) (hw _ (List.mem_of_getElem? (i := 21) rfl)) (hw _ (List.mem_of_getElem? (i := 23) rfl)) (hw _ (List.mem_of_getElem? (i := 22) rfl)) (hw _ (List.mem_of_getElem? (i := 25) rfl)) (hw _ (List.mem_of_getElem? (i := 24) rfl)) (by decide) (rm4 l Z a0 hw [] a1 (1 : Int32) (1 : Int32) h0 n0 hn0 F (by rw [own_f_rm4]; try first | rfl | decide)) e0 E (by rw [hml]; rfl) (argsL := []) (rest := []) rfl rfl (lenOf own_pd0 rfl) (W := 0) (Nat.le_of_eq rfl) (by decide) (by decide) (hb hby d_prog_17_method_7_1) (by decide) (by decide) ?_
  intro v39 T39 L39 X39 q39
  obtain ⟨rfl, N39q, e39⟩ := q39
  have N39 := Fr.app N0 N39q
  show Go _ _ _ _ _ T39 (mkF m 4 #[.val (.ref a1), .val (.int p1)] [(.int (1 : Int32))])
  refine own_go (fun t k => XS.tswIn X39.here hx rfl (pc0 := 4) (pc' := 54) rfl (hb hby d_prog_17_method_7_4) rfl (by decide) (o := 50) (by decide) (by decide) (by decide) k) ?_
  show Go _ _ _ _ _ T39 (mkF m 54 #[.val (.ref a1), .val (.int p1)] [])
  refine own_go (fun t k => XS.iloadN X39.here hx rfl (hb hby d_prog_17_method_7_54) rfl k) ?_
  show Go _ _ _ _ _ T39 (mkF m 55 #[.val (.ref a1), .val (.int p1)] [(.int p1)])
  refine own_ifP (p1 = (0 : Int32)) X39 hx (hb hby d_prog_17_method_7_55) (own_eq _ _) (by decide) (by decide) (pc' := 62) (fun hc40 => ?_) (fun hc40 => ?_)
  · skip
    show Go _ _ _ _ _ T39 (mkF m 62 #[.val (.ref a1), .val (.int p1)] [])
    refine own_go (fun t k => XS.iconst X39.here hx rfl (hb hby d_prog_17_method_7_62) k) ?_
    show Go _ _ _ _ _ T39 (mkF m 63 #[.val (.ref a1), .val (.int p1)] [(.int (0 : Int32))])
    refine own_retN X39 hx (own_lvN X39 hlk (by decide) (by decide)) (t := .boolean) hret (by simp) (hb hby d_prog_17_method_7_63) ?_
    exact ⟨(by rw [← hr, own_f_rm_holds_1, if_pos hc40]; try rfl), N39, e39⟩
  · skip
    show Go _ _ _ _ _ T39 (mkF m 58 #[.val (.ref a1), .val (.int p1)] [])
    refine own_go (fun t k => XS.iconst X39.here hx rfl (hb hby d_prog_17_method_7_58) k) ?_
    show Go _ _ _ _ _ T39 (mkF m 59 #[.val (.ref a1), .val (.int p1)] [(.int (1 : Int32))])
    refine own_go (fun t k => XS.goto X39.here hx rfl (pc0 := 59) (pc' := 63) rfl (hb hby d_prog_17_method_7_59) (by decide) (by decide) k) ?_
    show Go _ _ _ _ _ T39 (mkF m 63 #[.val (.ref a1), .val (.int p1)] [(.int (1 : Int32))])
    refine own_retN X39 hx (own_lvN X39 hlk (by decide) (by decide)) (t := .boolean) hret (by simp) (hb hby d_prog_17_method_7_63) ?_
    exact ⟨(by rw [← hr, own_f_rm_holds_1, if_neg hc40]; try rfl), N39, e39⟩
theorem d_prog_17_method_7_64 : Jvm.ClassFile.decode prog_17_method_7_code 64 = .ok (.iload_n 1, 1) := by decide +kernel
theorem d_prog_17_method_7_65 : Jvm.ClassFile.decode prog_17_method_7_code 65 = .ok (.ifCond .ge 7, 3) := by decide +kernel
theorem d_prog_17_method_7_72 : Jvm.ClassFile.decode prog_17_method_7_code 72 = .ok (.iconst 0, 1) := by decide +kernel
theorem d_prog_17_method_7_73 : Jvm.ClassFile.decode prog_17_method_7_code 73 = .ok (.ireturn, 1) := by decide +kernel
theorem d_prog_17_method_7_68 : Jvm.ClassFile.decode prog_17_method_7_code 68 = .ok (.iconst 1, 1) := by decide +kernel
theorem d_prog_17_method_7_69 : Jvm.ClassFile.decode prog_17_method_7_code 69 = .ok (.goto 4, 3) := by decide +kernel
def own_f_rm_holds_2 (p1 : Int32) : Int32 := (if p1 < (0 : Int32) then (1 : Int32) else (0 : Int32))
theorem own_ef_rm_holds_2 (m : MethodId) (x0 : Addr) (x1 : Int32) : entryFrame m #[(.ref x0), (.int x1)] 2 = mkF m 0 #[.val (.ref x0), .val (.int x1)] [] := by first | (simp [entryFrame, mkF, argsToLocals, Value.category]; done) | rfl
set_option maxRecDepth 65536 in
set_option maxHeartbeats 40000000 in
theorem rm_holds_2 (l : Launch) (Z : State) (a0 : Array Value) (hw : ∀ d ∈ tables_1, d.before a0 Z = true) (ws : List Jvm.Cond) (a1 : Addr) (p1 : Int32) (r : Int32) (h0 : Heap) (n0 : Nat) (hn0 : n0 ≤ h0.size) (E : Exa Z h0 a1 "com/example/edict/edict/Operator") (F : Fld Z h0 a1 "java/lang/Enum" "ordinal" "I" (.int (2 : Int32))) (hr : own_f_rm_holds_2 p1 = r) :
    OwnMet l Z (⟨"com/example/edict/edict/Operator", "holds", "(I)Z"⟩ : MethodName) prog_17_method_7_code 2 (some .boolean) ws ({ frames := 1, cells := 0, slots := 0, locals := 12 } : Room) #[(.ref a1), (.int p1)] h0 (OwnP (some (.int r)) h0 n0) := by
  refine own_body (plainFor_of_name own_pn1) ?_
  intro p e s m below meth c s₁ X0 hx hby hml hret hlk hown0 hnm hZ e0 hs0
  have hown : s.vm.findClass "com/example/edict/edict/Operator" = some m.cls := hown0
  have N0 := Fr.nil n0
  refine own_entry (own_ef_rm_holds_2 m a1 p1) ?_
  show Go _ _ _ _ _ s₁ (mkF m 0 #[.val (.ref a1), .val (.int p1)] [])
  refine own_go (fun t k => XS.aloadN X0.here hx rfl (hb hby d_prog_17_method_7_0) rfl rfl k) ?_
  show Go _ _ _ _ _ s₁ (mkF m 1 #[.val (.ref a1), .val (.int p1)] [(.ref a1)])
  refine own_callU X0 hx hZ (owner := "java/lang/Enum") (y := (⟨"com/example/edict/edict/Operator", "ordinal", "()I"⟩ : MethodName)) (z := (⟨"java/lang/Enum", "ordinal", "()I"⟩ : MethodName)) hown (hw _ (List.mem_of_getElem? (i := 19) rfl)) (hw _ (List.mem_of_getElem? (i := 20) rfl)) (hw _ (List.mem_of_getElem? (i := 21) rfl)) (hw _ (List.mem_of_getElem? (i := 23) rfl)) (hw _ (List.mem_of_getElem? (i := 22) rfl)) (hw _ (List.mem_of_getElem? (i := 25) rfl)) (hw _ (List.mem_of_getElem? (i := 24) rfl)) (by decide) (rm4 l Z a0 hw [] a1 (2 : Int32) (2 : Int32) h0 n0 hn0 F (by rw [own_f_rm4]; try first | rfl | decide)) e0 E (by rw [hml]; rfl) (argsL := []) (rest := []) rfl rfl (lenOf own_pd0 rfl) (W := 0) (Nat.le_of_eq rfl) (by decide) (by decide) (hb hby d_prog_17_method_7_1) (by decide) (by decide) ?_
  intro v43 T43 L43 X43 q43
  obtain ⟨rfl, N43q, e43⟩ := q43
  have N43 := Fr.app N0 N43q
  show Go _ _ _ _ _ T43 (mkF m 4 #[.val (.ref a1), .val (.int p1)] [(.int (2 : Int32))])
  refine own_go (fun t k => XS.tswIn X43.here hx rfl (pc0 := 4) (pc' := 64) rfl (hb hby d_prog_17_method_7_4) rfl (by decide) (o := 60) (by decide) (by decide) (by decide) k) ?_
  show Go _ _ _ _ _ T43 (mkF m 64 #[.val (.ref a1), .val (.int p1)] [])
  refine own_go (fun t k => XS.iloadN X43.here hx rfl (hb hby d_prog_17_method_7_64) rfl k) ?_
  show Go _ _ _ _ _ T43 (mkF m 65 #[.val (.ref a1), .val (.int p1)] [(.int p1)])
  refine own_ifM (p1 < (0 : Int32)) X43 hx (hb hby d_prog_17_method_7_65) (own_ge _ _) (by decide) (by decide) (pc' := 72) (fun hc44 => ?_) (fun hc44 => ?_)
  · skip
    show Go _ _ _ _ _ T43 (mkF m 72 #[.val (.ref a1), .val (.int p1)] [])
    refine own_go (fun t k => XS.iconst X43.here hx rfl (hb hby d_prog_17_method_7_72) k) ?_
    show Go _ _ _ _ _ T43 (mkF m 73 #[.val (.ref a1), .val (.int p1)] [(.int (0 : Int32))])
    refine own_retN X43 hx (own_lvN X43 hlk (by decide) (by decide)) (t := .boolean) hret (by simp) (hb hby d_prog_17_method_7_73) ?_
    exact ⟨(by rw [← hr, own_f_rm_holds_2, if_neg hc44]; try rfl), N43, e43⟩
  · skip
    show Go _ _ _ _ _ T43 (mkF m 68 #[.val (.ref a1), .val (.int p1)] [])
    refine own_go (fun t k => XS.iconst X43.here hx rfl (hb hby d_prog_17_method_7_68) k) ?_
    show Go _ _ _ _ _ T43 (mkF m 69 #[.val (.ref a1), .val (.int p1)] [(.int (1 : Int32))])
    refine own_go (fun t k => XS.goto X43.here hx rfl (pc0 := 69) (pc' := 73) rfl (hb hby d_prog_17_method_7_69) (by decide) (by decide) k) ?_
    show Go _ _ _ _ _ T43 (mkF m 73 #[.val (.ref a1), .val (.int p1)] [(.int (1 : Int32))])
    refine own_retN X43 hx (own_lvN X43 hlk (by decide) (by decide)) (t := .boolean) hret (by simp) (hb hby d_prog_17_method_7_73) ?_
    exact ⟨(by rw [← hr, own_f_rm_holds_2, if_pos hc44]; try rfl), N43, e43⟩
theorem d_prog_17_method_7_74 : Jvm.ClassFile.decode prog_17_method_7_code 74 = .ok (.iload_n 1, 1) := by decide +kernel
theorem d_prog_17_method_7_75 : Jvm.ClassFile.decode prog_17_method_7_code 75 = .ok (.ifCond .gt 7, 3) := by decide +kernel
theorem d_prog_17_method_7_82 : Jvm.ClassFile.decode prog_17_method_7_code 82 = .ok (.iconst 0, 1) := by decide +kernel
theorem d_prog_17_method_7_83 : Jvm.ClassFile.decode prog_17_method_7_code 83 = .ok (.ireturn, 1) := by decide +kernel
theorem d_prog_17_method_7_78 : Jvm.ClassFile.decode prog_17_method_7_code 78 = .ok (.iconst 1, 1) := by decide +kernel
theorem d_prog_17_method_7_79 : Jvm.ClassFile.decode prog_17_method_7_code 79 = .ok (.goto 4, 3) := by decide +kernel
def own_f_rm_holds_3 (p1 : Int32) : Int32 := (if (0 : Int32) < p1 then (0 : Int32) else (1 : Int32))
theorem own_ef_rm_holds_3 (m : MethodId) (x0 : Addr) (x1 : Int32) : entryFrame m #[(.ref x0), (.int x1)] 2 = mkF m 0 #[.val (.ref x0), .val (.int x1)] [] := by first | (simp [entryFrame, mkF, argsToLocals, Value.category]; done) | rfl
set_option maxRecDepth 65536 in
set_option maxHeartbeats 40000000 in
theorem rm_holds_3 (l : Launch) (Z : State) (a0 : Array Value) (hw : ∀ d ∈ tables_1, d.before a0 Z = true) (ws : List Jvm.Cond) (a1 : Addr) (p1 : Int32) (r : Int32) (h0 : Heap) (n0 : Nat) (hn0 : n0 ≤ h0.size) (E : Exa Z h0 a1 "com/example/edict/edict/Operator") (F : Fld Z h0 a1 "java/lang/Enum" "ordinal" "I" (.int (3 : Int32))) (hr : own_f_rm_holds_3 p1 = r) :
    OwnMet l Z (⟨"com/example/edict/edict/Operator", "holds", "(I)Z"⟩ : MethodName) prog_17_method_7_code 2 (some .boolean) ws ({ frames := 1, cells := 0, slots := 0, locals := 12 } : Room) #[(.ref a1), (.int p1)] h0 (OwnP (some (.int r)) h0 n0) := by
  refine own_body (plainFor_of_name own_pn1) ?_
  intro p e s m below meth c s₁ X0 hx hby hml hret hlk hown0 hnm hZ e0 hs0
  have hown : s.vm.findClass "com/example/edict/edict/Operator" = some m.cls := hown0
  have N0 := Fr.nil n0
  refine own_entry (own_ef_rm_holds_3 m a1 p1) ?_
  show Go _ _ _ _ _ s₁ (mkF m 0 #[.val (.ref a1), .val (.int p1)] [])
  refine own_go (fun t k => XS.aloadN X0.here hx rfl (hb hby d_prog_17_method_7_0) rfl rfl k) ?_
  show Go _ _ _ _ _ s₁ (mkF m 1 #[.val (.ref a1), .val (.int p1)] [(.ref a1)])
  refine own_callU X0 hx hZ (owner := "java/lang/Enum") (y := (⟨"com/example/edict/edict/Operator", "ordinal", "()I"⟩ : MethodName)) (z := (⟨"java/lang/Enum", "ordinal", "()I"⟩ : MethodName)) hown (hw _ (List.mem_of_getElem? (i := 19) rfl)) (hw _ (List.mem_of_getElem? (i := 20) rfl)) (hw _ (List.mem_of_getElem? (i := 21) rfl)) (hw _ (List.mem_of_getElem? (i := 23) rfl)) (hw _ (List.mem_of_getElem? (i := 22) rfl)) (hw _ (List.mem_of_getElem? (i := 25) rfl)) (hw _ (List.mem_of_getElem? (i := 24) rfl)) (by decide) (rm4 l Z a0 hw [] a1 (3 : Int32) (3 : Int32) h0 n0 hn0 F (by rw [own_f_rm4]; try first | rfl | decide)) e0 E (by rw [hml]; rfl) (argsL := []) (rest := []) rfl rfl (lenOf own_pd0 rfl) (W := 0) (Nat.le_of_eq rfl) (by decide) (by decide) (hb hby d_prog_17_method_7_1) (by decide) (by decide) ?_
  intro v47 T47 L47 X47 q47
  obtain ⟨rfl, N47q, e47⟩ := q47
  have N47 := Fr.app N0 N47q
  show Go _ _ _ _ _ T47 (mkF m 4 #[.val (.ref a1), .val (.int p1)] [(.int (3 : Int32))])
  refine own_go (fun t k => XS.tswIn X47.here hx rfl (pc0 := 4) (pc' := 74) rfl (hb hby d_prog_17_method_7_4) rfl (by decide) (o := 70) (by decide) (by decide) (by decide) k) ?_
  show Go _ _ _ _ _ T47 (mkF m 74 #[.val (.ref a1), .val (.int p1)] [])
  refine own_go (fun t k => XS.iloadN X47.here hx rfl (hb hby d_prog_17_method_7_74) rfl k) ?_
  show Go _ _ _ _ _ T47 (mkF m 75 #[.val (.ref a1), .val (.int p1)] [(.int p1)])
  refine own_ifP ((0 : Int32) < p1) X47 hx (hb hby d_prog_17_method_7_75) (own_gt _ _) (by decide) (by decide) (pc' := 82) (fun hc48 => ?_) (fun hc48 => ?_)
  · skip
    show Go _ _ _ _ _ T47 (mkF m 82 #[.val (.ref a1), .val (.int p1)] [])
    refine own_go (fun t k => XS.iconst X47.here hx rfl (hb hby d_prog_17_method_7_82) k) ?_
    show Go _ _ _ _ _ T47 (mkF m 83 #[.val (.ref a1), .val (.int p1)] [(.int (0 : Int32))])
    refine own_retN X47 hx (own_lvN X47 hlk (by decide) (by decide)) (t := .boolean) hret (by simp) (hb hby d_prog_17_method_7_83) ?_
    exact ⟨(by rw [← hr, own_f_rm_holds_3, if_pos hc48]; try rfl), N47, e47⟩
  · skip
    show Go _ _ _ _ _ T47 (mkF m 78 #[.val (.ref a1), .val (.int p1)] [])
    refine own_go (fun t k => XS.iconst X47.here hx rfl (hb hby d_prog_17_method_7_78) k) ?_
    show Go _ _ _ _ _ T47 (mkF m 79 #[.val (.ref a1), .val (.int p1)] [(.int (1 : Int32))])
    refine own_go (fun t k => XS.goto X47.here hx rfl (pc0 := 79) (pc' := 83) rfl (hb hby d_prog_17_method_7_79) (by decide) (by decide) k) ?_
    show Go _ _ _ _ _ T47 (mkF m 83 #[.val (.ref a1), .val (.int p1)] [(.int (1 : Int32))])
    refine own_retN X47 hx (own_lvN X47 hlk (by decide) (by decide)) (t := .boolean) hret (by simp) (hb hby d_prog_17_method_7_83) ?_
    exact ⟨(by rw [← hr, own_f_rm_holds_3, if_neg hc48]; try rfl), N47, e47⟩
theorem d_prog_17_method_7_84 : Jvm.ClassFile.decode prog_17_method_7_code 84 = .ok (.iload_n 1, 1) := by decide +kernel
theorem d_prog_17_method_7_85 : Jvm.ClassFile.decode prog_17_method_7_code 85 = .ok (.ifCond .le 7, 3) := by decide +kernel
theorem d_prog_17_method_7_92 : Jvm.ClassFile.decode prog_17_method_7_code 92 = .ok (.iconst 0, 1) := by decide +kernel
theorem d_prog_17_method_7_93 : Jvm.ClassFile.decode prog_17_method_7_code 93 = .ok (.ireturn, 1) := by decide +kernel
theorem d_prog_17_method_7_88 : Jvm.ClassFile.decode prog_17_method_7_code 88 = .ok (.iconst 1, 1) := by decide +kernel
theorem d_prog_17_method_7_89 : Jvm.ClassFile.decode prog_17_method_7_code 89 = .ok (.goto 4, 3) := by decide +kernel
def own_f_rm_holds_4 (p1 : Int32) : Int32 := (if (0 : Int32) < p1 then (1 : Int32) else (0 : Int32))
theorem own_ef_rm_holds_4 (m : MethodId) (x0 : Addr) (x1 : Int32) : entryFrame m #[(.ref x0), (.int x1)] 2 = mkF m 0 #[.val (.ref x0), .val (.int x1)] [] := by first | (simp [entryFrame, mkF, argsToLocals, Value.category]; done) | rfl
set_option maxRecDepth 65536 in
set_option maxHeartbeats 40000000 in
theorem rm_holds_4 (l : Launch) (Z : State) (a0 : Array Value) (hw : ∀ d ∈ tables_1, d.before a0 Z = true) (ws : List Jvm.Cond) (a1 : Addr) (p1 : Int32) (r : Int32) (h0 : Heap) (n0 : Nat) (hn0 : n0 ≤ h0.size) (E : Exa Z h0 a1 "com/example/edict/edict/Operator") (F : Fld Z h0 a1 "java/lang/Enum" "ordinal" "I" (.int (4 : Int32))) (hr : own_f_rm_holds_4 p1 = r) :
    OwnMet l Z (⟨"com/example/edict/edict/Operator", "holds", "(I)Z"⟩ : MethodName) prog_17_method_7_code 2 (some .boolean) ws ({ frames := 1, cells := 0, slots := 0, locals := 12 } : Room) #[(.ref a1), (.int p1)] h0 (OwnP (some (.int r)) h0 n0) := by
  refine own_body (plainFor_of_name own_pn1) ?_
  intro p e s m below meth c s₁ X0 hx hby hml hret hlk hown0 hnm hZ e0 hs0
  have hown : s.vm.findClass "com/example/edict/edict/Operator" = some m.cls := hown0
  have N0 := Fr.nil n0
  refine own_entry (own_ef_rm_holds_4 m a1 p1) ?_
  show Go _ _ _ _ _ s₁ (mkF m 0 #[.val (.ref a1), .val (.int p1)] [])
  refine own_go (fun t k => XS.aloadN X0.here hx rfl (hb hby d_prog_17_method_7_0) rfl rfl k) ?_
  show Go _ _ _ _ _ s₁ (mkF m 1 #[.val (.ref a1), .val (.int p1)] [(.ref a1)])
  refine own_callU X0 hx hZ (owner := "java/lang/Enum") (y := (⟨"com/example/edict/edict/Operator", "ordinal", "()I"⟩ : MethodName)) (z := (⟨"java/lang/Enum", "ordinal", "()I"⟩ : MethodName)) hown (hw _ (List.mem_of_getElem? (i := 19) rfl)) (hw _ (List.mem_of_getElem? (i := 20) rfl)) (hw _ (List.mem_of_getElem? (i := 21) rfl)) (hw _ (List.mem_of_getElem? (i := 23) rfl)) (hw _ (List.mem_of_getElem? (i := 22) rfl)) (hw _ (List.mem_of_getElem? (i := 25) rfl)) (hw _ (List.mem_of_getElem? (i := 24) rfl)) (by decide) (rm4 l Z a0 hw [] a1 (4 : Int32) (4 : Int32) h0 n0 hn0 F (by rw [own_f_rm4]; try first | rfl | decide)) e0 E (by rw [hml]; rfl) (argsL := []) (rest := []) rfl rfl (lenOf own_pd0 rfl) (W := 0) (Nat.le_of_eq rfl) (by decide) (by decide) (hb hby d_prog_17_method_7_1) (by decide) (by decide) ?_
  intro v51 T51 L51 X51 q51
  obtain ⟨rfl, N51q, e51⟩ := q51
  have N51 := Fr.app N0 N51q
  show Go _ _ _ _ _ T51 (mkF m 4 #[.val (.ref a1), .val (.int p1)] [(.int (4 : Int32))])
  refine own_go (fun t k => XS.tswIn X51.here hx rfl (pc0 := 4) (pc' := 84) rfl (hb hby d_prog_17_method_7_4) rfl (by decide) (o := 80) (by decide) (by decide) (by decide) k) ?_
  show Go _ _ _ _ _ T51 (mkF m 84 #[.val (.ref a1), .val (.int p1)] [])
  refine own_go (fun t k => XS.iloadN X51.here hx rfl (hb hby d_prog_17_method_7_84) rfl k) ?_
  show Go _ _ _ _ _ T51 (mkF m 85 #[.val (.ref a1), .val (.int p1)] [(.int p1)])
  refine own_ifM ((0 : Int32) < p1) X51 hx (hb hby d_prog_17_method_7_85) (own_le _ _) (by decide) (by decide) (pc' := 92) (fun hc52 => ?_) (fun hc52 => ?_)
  · skip
    show Go _ _ _ _ _ T51 (mkF m 92 #[.val (.ref a1), .val (.int p1)] [])
    refine own_go (fun t k => XS.iconst X51.here hx rfl (hb hby d_prog_17_method_7_92) k) ?_
    show Go _ _ _ _ _ T51 (mkF m 93 #[.val (.ref a1), .val (.int p1)] [(.int (0 : Int32))])
    refine own_retN X51 hx (own_lvN X51 hlk (by decide) (by decide)) (t := .boolean) hret (by simp) (hb hby d_prog_17_method_7_93) ?_
    exact ⟨(by rw [← hr, own_f_rm_holds_4, if_neg hc52]; try rfl), N51, e51⟩
  · skip
    show Go _ _ _ _ _ T51 (mkF m 88 #[.val (.ref a1), .val (.int p1)] [])
    refine own_go (fun t k => XS.iconst X51.here hx rfl (hb hby d_prog_17_method_7_88) k) ?_
    show Go _ _ _ _ _ T51 (mkF m 89 #[.val (.ref a1), .val (.int p1)] [(.int (1 : Int32))])
    refine own_go (fun t k => XS.goto X51.here hx rfl (pc0 := 89) (pc' := 93) rfl (hb hby d_prog_17_method_7_89) (by decide) (by decide) k) ?_
    show Go _ _ _ _ _ T51 (mkF m 93 #[.val (.ref a1), .val (.int p1)] [(.int (1 : Int32))])
    refine own_retN X51 hx (own_lvN X51 hlk (by decide) (by decide)) (t := .boolean) hret (by simp) (hb hby d_prog_17_method_7_93) ?_
    exact ⟨(by rw [← hr, own_f_rm_holds_4, if_pos hc52]; try rfl), N51, e51⟩
theorem d_prog_17_method_7_94 : Jvm.ClassFile.decode prog_17_method_7_code 94 = .ok (.iload_n 1, 1) := by decide +kernel
theorem d_prog_17_method_7_95 : Jvm.ClassFile.decode prog_17_method_7_code 95 = .ok (.ifCond .lt 7, 3) := by decide +kernel
theorem d_prog_17_method_7_102 : Jvm.ClassFile.decode prog_17_method_7_code 102 = .ok (.iconst 0, 1) := by decide +kernel
theorem d_prog_17_method_7_103 : Jvm.ClassFile.decode prog_17_method_7_code 103 = .ok (.ireturn, 1) := by decide +kernel
theorem d_prog_17_method_7_98 : Jvm.ClassFile.decode prog_17_method_7_code 98 = .ok (.iconst 1, 1) := by decide +kernel
theorem d_prog_17_method_7_99 : Jvm.ClassFile.decode prog_17_method_7_code 99 = .ok (.goto 4, 3) := by decide +kernel
def own_f_rm_holds_5 (p1 : Int32) : Int32 := (if p1 < (0 : Int32) then (0 : Int32) else (1 : Int32))
theorem own_ef_rm_holds_5 (m : MethodId) (x0 : Addr) (x1 : Int32) : entryFrame m #[(.ref x0), (.int x1)] 2 = mkF m 0 #[.val (.ref x0), .val (.int x1)] [] := by first | (simp [entryFrame, mkF, argsToLocals, Value.category]; done) | rfl
set_option maxRecDepth 65536 in
set_option maxHeartbeats 40000000 in
theorem rm_holds_5 (l : Launch) (Z : State) (a0 : Array Value) (hw : ∀ d ∈ tables_1, d.before a0 Z = true) (ws : List Jvm.Cond) (a1 : Addr) (p1 : Int32) (r : Int32) (h0 : Heap) (n0 : Nat) (hn0 : n0 ≤ h0.size) (E : Exa Z h0 a1 "com/example/edict/edict/Operator") (F : Fld Z h0 a1 "java/lang/Enum" "ordinal" "I" (.int (5 : Int32))) (hr : own_f_rm_holds_5 p1 = r) :
    OwnMet l Z (⟨"com/example/edict/edict/Operator", "holds", "(I)Z"⟩ : MethodName) prog_17_method_7_code 2 (some .boolean) ws ({ frames := 1, cells := 0, slots := 0, locals := 12 } : Room) #[(.ref a1), (.int p1)] h0 (OwnP (some (.int r)) h0 n0) := by
  refine own_body (plainFor_of_name own_pn1) ?_
  intro p e s m below meth c s₁ X0 hx hby hml hret hlk hown0 hnm hZ e0 hs0
  have hown : s.vm.findClass "com/example/edict/edict/Operator" = some m.cls := hown0
  have N0 := Fr.nil n0
  refine own_entry (own_ef_rm_holds_5 m a1 p1) ?_
  show Go _ _ _ _ _ s₁ (mkF m 0 #[.val (.ref a1), .val (.int p1)] [])
  refine own_go (fun t k => XS.aloadN X0.here hx rfl (hb hby d_prog_17_method_7_0) rfl rfl k) ?_
  show Go _ _ _ _ _ s₁ (mkF m 1 #[.val (.ref a1), .val (.int p1)] [(.ref a1)])
  refine own_callU X0 hx hZ (owner := "java/lang/Enum") (y := (⟨"com/example/edict/edict/Operator", "ordinal", "()I"⟩ : MethodName)) (z := (⟨"java/lang/Enum", "ordinal", "()I"⟩ : MethodName)) hown (hw _ (List.mem_of_getElem? (i := 19) rfl)) (hw _ (List.mem_of_getElem? (i := 20) rfl)) (hw _ (List.mem_of_getElem? (i := 21) rfl)) (hw _ (List.mem_of_getElem? (i := 23) rfl)) (hw _ (List.mem_of_getElem? (i := 22) rfl)) (hw _ (List.mem_of_getElem? (i := 25) rfl)) (hw _ (List.mem_of_getElem? (i := 24) rfl)) (by decide) (rm4 l Z a0 hw [] a1 (5 : Int32) (5 : Int32) h0 n0 hn0 F (by rw [own_f_rm4]; try first | rfl | decide)) e0 E (by rw [hml]; rfl) (argsL := []) (rest := []) rfl rfl (lenOf own_pd0 rfl) (W := 0) (Nat.le_of_eq rfl) (by decide) (by decide) (hb hby d_prog_17_method_7_1) (by decide) (by decide) ?_
  intro v55 T55 L55 X55 q55
  obtain ⟨rfl, N55q, e55⟩ := q55
  have N55 := Fr.app N0 N55q
  show Go _ _ _ _ _ T55 (mkF m 4 #[.val (.ref a1), .val (.int p1)] [(.int (5 : Int32))])
  refine own_go (fun t k => XS.tswIn X55.here hx rfl (pc0 := 4) (pc' := 94) rfl (hb hby d_prog_17_method_7_4) rfl (by decide) (o := 90) (by decide) (by decide) (by decide) k) ?_
  show Go _ _ _ _ _ T55 (mkF m 94 #[.val (.ref a1), .val (.int p1)] [])
  refine own_go (fun t k => XS.iloadN X55.here hx rfl (hb hby d_prog_17_method_7_94) rfl k) ?_
  show Go _ _ _ _ _ T55 (mkF m 95 #[.val (.ref a1), .val (.int p1)] [(.int p1)])
  refine own_ifP (p1 < (0 : Int32)) X55 hx (hb hby d_prog_17_method_7_95) (own_lt _ _) (by decide) (by decide) (pc' := 102) (fun hc56 => ?_) (fun hc56 => ?_)
  · skip
    show Go _ _ _ _ _ T55 (mkF m 102 #[.val (.ref a1), .val (.int p1)] [])
    refine own_go (fun t k => XS.iconst X55.here hx rfl (hb hby d_prog_17_method_7_102) k) ?_
    show Go _ _ _ _ _ T55 (mkF m 103 #[.val (.ref a1), .val (.int p1)] [(.int (0 : Int32))])
    refine own_retN X55 hx (own_lvN X55 hlk (by decide) (by decide)) (t := .boolean) hret (by simp) (hb hby d_prog_17_method_7_103) ?_
    exact ⟨(by rw [← hr, own_f_rm_holds_5, if_pos hc56]; try rfl), N55, e55⟩
  · skip
    show Go _ _ _ _ _ T55 (mkF m 98 #[.val (.ref a1), .val (.int p1)] [])
    refine own_go (fun t k => XS.iconst X55.here hx rfl (hb hby d_prog_17_method_7_98) k) ?_
    show Go _ _ _ _ _ T55 (mkF m 99 #[.val (.ref a1), .val (.int p1)] [(.int (1 : Int32))])
    refine own_go (fun t k => XS.goto X55.here hx rfl (pc0 := 99) (pc' := 103) rfl (hb hby d_prog_17_method_7_99) (by decide) (by decide) k) ?_
    show Go _ _ _ _ _ T55 (mkF m 103 #[.val (.ref a1), .val (.int p1)] [(.int (1 : Int32))])
    refine own_retN X55 hx (own_lvN X55 hlk (by decide) (by decide)) (t := .boolean) hret (by simp) (hb hby d_prog_17_method_7_103) ?_
    exact ⟨(by rw [← hr, own_f_rm_holds_5, if_neg hc56]; try rfl), N55, e55⟩
theorem own_pd1 : parseMethodDescriptor "(I)Lcom/example/edict/edict/Operator;" = some ⟨[.int], some (.object "com/example/edict/edict/Operator")⟩ := by decide +kernel
theorem own_pd2 : parseMethodDescriptor "()Z" = some ⟨[], some .boolean⟩ := by decide +kernel
theorem own_pd3 : parseMethodDescriptor "(I)Z" = some ⟨[.int], some .boolean⟩ := by decide +kernel
theorem own_ef_rm0 (m : MethodId) (x0 : Int32) : entryFrame m #[(.int x0)] maxLocals = mkF m 0 #[.val (.int x0), .unset, .unset, .unset, .unset, .unset] [] := by first | (simp [entryFrame, mkF, argsToLocals, Value.category, maxLocals]; done) | rfl
set_option maxRecDepth 65536 in
set_option maxHeartbeats 40000000 in
theorem rm0 (l : Launch) (Z : State) (a0 : Array Value) (hw : ∀ d ∈ tables_1, d.before a0 Z = true) (ws : List Jvm.Cond) (p1 : Int32) (w_EQUAL : Addr) (w_LESS_OR_EQUAL : Addr) (w_NOT_EQUAL : Addr) (w_LESS : Addr) (w_GREATER_OR_EQUAL : Addr) (w_GREATER : Addr) (h0 : Heap) (n0 : Nat) (hn0 : n0 ≤ h0.size) (S_EQUAL : Sta Z h0 "com/example/edict/edict/Operator" "EQUAL" "Lcom/example/edict/edict/Operator;" (.ref w_EQUAL)) (E_EQUAL : Exa Z h0 w_EQUAL "com/example/edict/edict/Operator") (O_EQUAL_ordinal : Fld Z h0 w_EQUAL "java/lang/Enum" "ordinal" "I" (.int (0 : Int32))) (S_LESS_OR_EQUAL : Sta Z h0 "com/example/edict/edict/Operator" "LESS_OR_EQUAL" "Lcom/example/edict/edict/Operator;" (.ref w_LESS_OR_EQUAL)) (E_LESS_OR_EQUAL : Exa Z h0 w_LESS_OR_EQUAL "com/example/edict/edict/Operator") (O_LESS_OR_EQUAL_ordinal : Fld Z h0 w_LESS_OR_EQUAL "java/lang/Enum" "ordinal" "I" (.int (3 : Int32))) (S_NOT_EQUAL : Sta Z h0 "com/example/edict/edict/Operator" "NOT_EQUAL" "Lcom/example/edict/edict/Operator;" (.ref w_NOT_EQUAL)) (E_NOT_EQUAL : Exa Z h0 w_NOT_EQUAL "com/example/edict/edict/Operator") (O_NOT_EQUAL_ordinal : Fld Z h0 w_NOT_EQUAL "java/lang/Enum" "ordinal" "I" (.int (1 : Int32))) (S_LESS : Sta Z h0 "com/example/edict/edict/Operator" "LESS" "Lcom/example/edict/edict/Operator;" (.ref w_LESS)) (E_LESS : Exa Z h0 w_LESS "com/example/edict/edict/Operator") (O_LESS_ordinal : Fld Z h0 w_LESS "java/lang/Enum" "ordinal" "I" (.int (2 : Int32))) (S_GREATER_OR_EQUAL : Sta Z h0 "com/example/edict/edict/Operator" "GREATER_OR_EQUAL" "Lcom/example/edict/edict/Operator;" (.ref w_GREATER_OR_EQUAL)) (E_GREATER_OR_EQUAL : Exa Z h0 w_GREATER_OR_EQUAL "com/example/edict/edict/Operator") (O_GREATER_OR_EQUAL_ordinal : Fld Z h0 w_GREATER_OR_EQUAL "java/lang/Enum" "ordinal" "I" (.int (5 : Int32))) (S_GREATER : Sta Z h0 "com/example/edict/edict/Operator" "GREATER" "Lcom/example/edict/edict/Operator;" (.ref w_GREATER)) (E_GREATER : Exa Z h0 w_GREATER "com/example/edict/edict/Operator") (O_GREATER_ordinal : Fld Z h0 w_GREATER "java/lang/Enum" "ordinal" "I" (.int (4 : Int32))) :
    OwnMet l Z x code maxLocals ret ws room_1 #[(.int p1)] h0 (OwnR (some (.int 1)) n0) := by
  refine own_body (plainFor_of_name own_pn0) ?_
  intro p e s m below meth c s₁ X0 hx hby hml hret hlk hown0 hnm hZ e0 hs0
  have hown : s.vm.findClass "com/example/edict/edict/OperatorOrdersPinLaw" = some m.cls := hown0
  have N0 := Fr.nil n0
  refine own_entry (own_ef_rm0 m p1) ?_
  have D_w_EQUAL_w_LESS_OR_EQUAL : ¬ w_EQUAL = w_LESS_OR_EQUAL := own_ne_fld O_EQUAL_ordinal O_LESS_OR_EQUAL_ordinal (by decide)
  have D_w_EQUAL_w_NOT_EQUAL : ¬ w_EQUAL = w_NOT_EQUAL := own_ne_fld O_EQUAL_ordinal O_NOT_EQUAL_ordinal (by decide)
  have D_w_EQUAL_w_LESS : ¬ w_EQUAL = w_LESS := own_ne_fld O_EQUAL_ordinal O_LESS_ordinal (by decide)
  have D_w_EQUAL_w_GREATER_OR_EQUAL : ¬ w_EQUAL = w_GREATER_OR_EQUAL := own_ne_fld O_EQUAL_ordinal O_GREATER_OR_EQUAL_ordinal (by decide)
  have D_w_EQUAL_w_GREATER : ¬ w_EQUAL = w_GREATER := own_ne_fld O_EQUAL_ordinal O_GREATER_ordinal (by decide)
  have D_w_LESS_OR_EQUAL_w_NOT_EQUAL : ¬ w_LESS_OR_EQUAL = w_NOT_EQUAL := own_ne_fld O_LESS_OR_EQUAL_ordinal O_NOT_EQUAL_ordinal (by decide)
  have D_w_LESS_OR_EQUAL_w_LESS : ¬ w_LESS_OR_EQUAL = w_LESS := own_ne_fld O_LESS_OR_EQUAL_ordinal O_LESS_ordinal (by decide)
  have D_w_LESS_OR_EQUAL_w_GREATER_OR_EQUAL : ¬ w_LESS_OR_EQUAL = w_GREATER_OR_EQUAL := own_ne_fld O_LESS_OR_EQUAL_ordinal O_GREATER_OR_EQUAL_ordinal (by decide)
  have D_w_LESS_OR_EQUAL_w_GREATER : ¬ w_LESS_OR_EQUAL = w_GREATER := own_ne_fld O_LESS_OR_EQUAL_ordinal O_GREATER_ordinal (by decide)
  have D_w_NOT_EQUAL_w_LESS : ¬ w_NOT_EQUAL = w_LESS := own_ne_fld O_NOT_EQUAL_ordinal O_LESS_ordinal (by decide)
  have D_w_NOT_EQUAL_w_GREATER_OR_EQUAL : ¬ w_NOT_EQUAL = w_GREATER_OR_EQUAL := own_ne_fld O_NOT_EQUAL_ordinal O_GREATER_OR_EQUAL_ordinal (by decide)
  have D_w_NOT_EQUAL_w_GREATER : ¬ w_NOT_EQUAL = w_GREATER := own_ne_fld O_NOT_EQUAL_ordinal O_GREATER_ordinal (by decide)
  have D_w_LESS_w_GREATER_OR_EQUAL : ¬ w_LESS = w_GREATER_OR_EQUAL := own_ne_fld O_LESS_ordinal O_GREATER_OR_EQUAL_ordinal (by decide)
  have D_w_LESS_w_GREATER : ¬ w_LESS = w_GREATER := own_ne_fld O_LESS_ordinal O_GREATER_ordinal (by decide)
  have D_w_GREATER_OR_EQUAL_w_GREATER : ¬ w_GREATER_OR_EQUAL = w_GREATER := own_ne_fld O_GREATER_OR_EQUAL_ordinal O_GREATER_ordinal (by decide)
  show Go _ _ _ _ _ s₁ (mkF m 0 #[.val (.int p1), .unset, .unset, .unset, .unset, .unset] [])
  refine own_go (fun t k => XS.iloadN X0.here hx rfl (hb hby at_0) rfl k) ?_
  show Go _ _ _ _ _ s₁ (mkF m 1 #[.val (.int p1), .unset, .unset, .unset, .unset, .unset] [(.int p1)])
  refine own_go (fun t k => X0.ldcInt hx hown (mvT hZ (hw _ (List.mem_of_getElem? (i := 0) rfl))) (g := (mkF m 1 #[.val (.int p1), .unset, .unset, .unset, .unset, .unset] [(.int p1)])) rfl (hb hby at_1) _ k) ?_
  show Go _ _ _ _ _ s₁ (mkF m 3 #[.val (.int p1), .unset, .unset, .unset, .unset, .unset] [(.int (2147483647 : Int32)), (.int p1)])
  refine own_go (fun t k => XS.iand X0.here hx rfl (hb hby at_3) rfl k) ?_
  show Go _ _ _ _ _ s₁ (mkF m 4 #[.val (.int p1), .unset, .unset, .unset, .unset, .unset] [(.int (p1 &&& (2147483647 : Int32)))])
  refine own_go (fun t k => XS.bipush X0.here hx rfl (hb hby at_4) k) ?_
  show Go _ _ _ _ _ s₁ (mkF m 6 #[.val (.int p1), .unset, .unset, .unset, .unset, .unset] [(.int (6 : Int32)), (.int (p1 &&& (2147483647 : Int32)))])
  refine own_go (fun t k => iremM X0 hx rfl (hb hby at_6) rfl (by decide) k) ?_
  show Go _ _ _ _ _ s₁ (mkF m 7 #[.val (.int p1), .unset, .unset, .unset, .unset, .unset] [(.int ((p1 &&& (2147483647 : Int32)) % (6 : Int32)))])
  refine own_go (fun t k => XS.istoreN X0.here hx rfl (hb hby at_7) rfl (l' := #[.val (.int p1), .val (.int ((p1 &&& (2147483647 : Int32)) % (6 : Int32))), .unset, .unset, .unset, .unset]) rfl k) ?_
  have hi := own_rem6 p1
  generalize ((p1 &&& (2147483647 : Int32)) % (6 : Int32)) = i at hi ⊢
  rcases hi with rfl | rfl | rfl | rfl | rfl | rfl
  · skip
    show Go _ _ _ _ _ s₁ (mkF m 8 #[.val (.int p1), .val (.int (0 : Int32)), .unset, .unset, .unset, .unset] [])
    refine own_go (fun t k => XS.iloadN X0.here hx rfl (hb hby at_8) rfl k) ?_
    show Go _ _ _ _ _ s₁ (mkF m 9 #[.val (.int p1), .val (.int (0 : Int32)), .unset, .unset, .unset, .unset] [(.int (0 : Int32))])
    refine own_callS X0 hx hZ (y := (⟨"com/example/edict/edict/OperatorOrdersPinLaw", "pick", "(I)Lcom/example/edict/edict/Operator;"⟩ : MethodName)) hown (hw _ (List.mem_of_getElem? (i := 1) rfl)) (hw _ (List.mem_of_getElem? (i := 2) rfl)) (hw _ (List.mem_of_getElem? (i := 3) rfl)) (hw _ (List.mem_of_getElem? (i := 4) rfl)) (by decide) (rm1 l Z a0 hw [] (0 : Int32) w_EQUAL w_LESS_OR_EQUAL w_NOT_EQUAL w_LESS w_GREATER_OR_EQUAL w_GREATER (.ref w_EQUAL) h0 n0 hn0 S_EQUAL S_LESS_OR_EQUAL S_NOT_EQUAL S_LESS S_GREATER_OR_EQUAL S_GREATER (by rw [own_f_rm1, if_pos (show (0 : Int32) = (0 : Int32) from rfl)]; try first | rfl | decide)) e0 (by rw [hml]; rfl) (argsL := [(.int (0 : Int32))]) (rest := []) rfl rfl (lenOf own_pd1 rfl) (W := 0) (Nat.le_of_eq rfl) (by decide) (by decide) (hb hby at_9) (by decide) (by decide) ?_
    intro v57 T57 L57 X57 q57
    obtain ⟨rfl, N57q, e57⟩ := q57
    have N57 := Fr.app N0 N57q
    show Go _ _ _ _ _ T57 (mkF m 12 #[.val (.int p1), .val (.int (0 : Int32)), .unset, .unset, .unset, .unset] [(.ref w_EQUAL)])
    refine own_go (fun t k => XS.astoreN X57.here hx rfl (hb hby at_12) rfl rfl (l' := #[.val (.int p1), .val (.int (0 : Int32)), .val (.ref w_EQUAL), .unset, .unset, .unset]) rfl k) ?_
    show Go _ _ _ _ _ T57 (mkF m 13 #[.val (.int p1), .val (.int (0 : Int32)), .val (.ref w_EQUAL), .unset, .unset, .unset] [])
    refine own_go (fun t k => XS.iloadN X57.here hx rfl (hb hby at_13) rfl k) ?_
    show Go _ _ _ _ _ T57 (mkF m 14 #[.val (.int p1), .val (.int (0 : Int32)), .val (.ref w_EQUAL), .unset, .unset, .unset] [(.int (0 : Int32))])
    refine own_go (fun t k => XS.iconst X57.here hx rfl (hb hby at_14) k) ?_
    show Go _ _ _ _ _ T57 (mkF m 15 #[.val (.int p1), .val (.int (0 : Int32)), .val (.ref w_EQUAL), .unset, .unset, .unset] [(.int (2 : Int32)), (.int (0 : Int32))])
    refine own_go (fun t k => XS.icmpYes X57.here hx rfl (pc0 := 15) (pc' := 22) rfl (hb hby at_15) rfl (by decide) (by decide) (by decide) k) ?_
    show Go _ _ _ _ _ T57 (mkF m 22 #[.val (.int p1), .val (.int (0 : Int32)), .val (.ref w_EQUAL), .unset, .unset, .unset] [])
    refine own_go (fun t k => XS.iconst X57.here hx rfl (hb hby at_22) k) ?_
    show Go _ _ _ _ _ T57 (mkF m 23 #[.val (.int p1), .val (.int (0 : Int32)), .val (.ref w_EQUAL), .unset, .unset, .unset] [(.int (0 : Int32))])
    refine own_go (fun t k => XS.istoreN X57.here hx rfl (hb hby at_23) rfl (l' := #[.val (.int p1), .val (.int (0 : Int32)), .val (.ref w_EQUAL), .val (.int (0 : Int32)), .unset, .unset]) rfl k) ?_
    show Go _ _ _ _ _ T57 (mkF m 24 #[.val (.int p1), .val (.int (0 : Int32)), .val (.ref w_EQUAL), .val (.int (0 : Int32)), .unset, .unset] [])
    refine own_go (fun t k => XS.aloadN X57.here hx rfl (hb hby at_24) rfl rfl k) ?_
    show Go _ _ _ _ _ T57 (mkF m 25 #[.val (.int p1), .val (.int (0 : Int32)), .val (.ref w_EQUAL), .val (.int (0 : Int32)), .unset, .unset] [(.ref w_EQUAL)])
    refine own_callV X57 hx hZ (y := (⟨"com/example/edict/edict/Operator", "orders", "()Z"⟩ : MethodName)) hown (hw _ (List.mem_of_getElem? (i := 8) rfl)) (hw _ (List.mem_of_getElem? (i := 9) rfl)) (hw _ (List.mem_of_getElem? (i := 11) rfl)) (hw _ (List.mem_of_getElem? (i := 10) rfl)) (hw _ (List.mem_of_getElem? (i := 12) rfl)) (hw _ (List.mem_of_getElem? (i := 6) rfl)) (by decide) (rm2 l Z a0 hw [] w_EQUAL w_EQUAL w_LESS_OR_EQUAL w_NOT_EQUAL w_LESS w_GREATER_OR_EQUAL w_GREATER (0 : Int32) h0 n0 hn0 S_EQUAL S_LESS_OR_EQUAL S_NOT_EQUAL S_LESS S_GREATER_OR_EQUAL S_GREATER (by rw [own_f_rm2, if_pos (show w_EQUAL = w_EQUAL from rfl)]; try first | rfl | decide)) e57 E_EQUAL (by rw [hml]; rfl) (argsL := []) (rest := []) rfl rfl (lenOf own_pd2 rfl) (W := 0) (Nat.le_of_eq rfl) (by decide) (by decide) (hb hby at_25) (by decide) (by decide) ?_
    intro v58 T58 L58 X58 q58
    obtain ⟨rfl, N58q, e58⟩ := q58
    have N58 := Fr.app N57 N58q
    show Go _ _ _ _ _ T58 (mkF m 28 #[.val (.int p1), .val (.int (0 : Int32)), .val (.ref w_EQUAL), .val (.int (0 : Int32)), .unset, .unset] [(.int (0 : Int32))])
    refine own_go (fun t k => XS.istore X58.here hx rfl (hb hby at_28) rfl (l' := #[.val (.int p1), .val (.int (0 : Int32)), .val (.ref w_EQUAL), .val (.int (0 : Int32)), .val (.int (0 : Int32)), .unset]) rfl k) ?_
    show Go _ _ _ _ _ T58 (mkF m 30 #[.val (.int p1), .val (.int (0 : Int32)), .val (.ref w_EQUAL), .val (.int (0 : Int32)), .val (.int (0 : Int32)), .unset] [])
    refine own_go (fun t k => XS.aloadN X58.here hx rfl (hb hby at_30) rfl rfl k) ?_
    show Go _ _ _ _ _ T58 (mkF m 31 #[.val (.int p1), .val (.int (0 : Int32)), .val (.ref w_EQUAL), .val (.int (0 : Int32)), .val (.int (0 : Int32)), .unset] [(.ref w_EQUAL)])
    refine own_go (fun t k => XS.iconst X58.here hx rfl (hb hby at_31) k) ?_
    show Go _ _ _ _ _ T58 (mkF m 32 #[.val (.int p1), .val (.int (0 : Int32)), .val (.ref w_EQUAL), .val (.int (0 : Int32)), .val (.int (0 : Int32)), .unset] [(.int (-1 : Int32)), (.ref w_EQUAL)])
    refine own_callV X58 hx hZ (y := (⟨"com/example/edict/edict/Operator", "holds", "(I)Z"⟩ : MethodName)) hown (hw _ (List.mem_of_getElem? (i := 14) rfl)) (hw _ (List.mem_of_getElem? (i := 15) rfl)) (hw _ (List.mem_of_getElem? (i := 17) rfl)) (hw _ (List.mem_of_getElem? (i := 16) rfl)) (hw _ (List.mem_of_getElem? (i := 18) rfl)) (hw _ (List.mem_of_getElem? (i := 6) rfl)) (by decide) (rm_holds_0 l Z a0 hw [] w_EQUAL (-1 : Int32) (0 : Int32) h0 n0 hn0 E_EQUAL O_EQUAL_ordinal (by rw [own_f_rm_holds_0, if_neg (show ¬ ((-1 : Int32) = (0 : Int32)) by decide)]; try first | rfl | decide)) e58 E_EQUAL (by rw [hml]; rfl) (argsL := [(.int (-1 : Int32))]) (rest := []) rfl rfl (lenOf own_pd3 rfl) (W := 0) (Nat.le_of_eq rfl) (by decide) (by decide) (hb hby at_32) (by decide) (by decide) ?_
    intro v59 T59 L59 X59 q59
    obtain ⟨rfl, N59q, e59⟩ := q59
    have N59 := Fr.app N58 N59q
    show Go _ _ _ _ _ T59 (mkF m 35 #[.val (.int p1), .val (.int (0 : Int32)), .val (.ref w_EQUAL), .val (.int (0 : Int32)), .val (.int (0 : Int32)), .unset] [(.int (0 : Int32))])
    refine own_go (fun t k => XS.aloadN X59.here hx rfl (hb hby at_35) rfl rfl k) ?_
    show Go _ _ _ _ _ T59 (mkF m 36 #[.val (.int p1), .val (.int (0 : Int32)), .val (.ref w_EQUAL), .val (.int (0 : Int32)), .val (.int (0 : Int32)), .unset] [(.ref w_EQUAL), (.int (0 : Int32))])
    refine own_go (fun t k => XS.iconst X59.here hx rfl (hb hby at_36) k) ?_
    show Go _ _ _ _ _ T59 (mkF m 37 #[.val (.int p1), .val (.int (0 : Int32)), .val (.ref w_EQUAL), .val (.int (0 : Int32)), .val (.int (0 : Int32)), .unset] [(.int (1 : Int32)), (.ref w_EQUAL), (.int (0 : Int32))])
    refine own_callV X59 hx hZ (y := (⟨"com/example/edict/edict/Operator", "holds", "(I)Z"⟩ : MethodName)) hown (hw _ (List.mem_of_getElem? (i := 14) rfl)) (hw _ (List.mem_of_getElem? (i := 15) rfl)) (hw _ (List.mem_of_getElem? (i := 17) rfl)) (hw _ (List.mem_of_getElem? (i := 16) rfl)) (hw _ (List.mem_of_getElem? (i := 18) rfl)) (hw _ (List.mem_of_getElem? (i := 6) rfl)) (by decide) (rm_holds_0 l Z a0 hw [] w_EQUAL (1 : Int32) (0 : Int32) h0 n0 hn0 E_EQUAL O_EQUAL_ordinal (by rw [own_f_rm_holds_0, if_neg (show ¬ ((1 : Int32) = (0 : Int32)) by decide)]; try first | rfl | decide)) e59 E_EQUAL (by rw [hml]; rfl) (argsL := [(.int (1 : Int32))]) (rest := [(.int (0 : Int32))]) rfl rfl (lenOf own_pd3 rfl) (W := 1) (Nat.le_of_eq rfl) (by decide) (by decide) (hb hby at_37) (by decide) (by decide) ?_
    intro v60 T60 L60 X60 q60
    obtain ⟨rfl, N60q, e60⟩ := q60
    have N60 := Fr.app N59 N60q
    show Go _ _ _ _ _ T60 (mkF m 40 #[.val (.int p1), .val (.int (0 : Int32)), .val (.ref w_EQUAL), .val (.int (0 : Int32)), .val (.int (0 : Int32)), .unset] [(.int (0 : Int32)), (.int (0 : Int32))])
    refine own_go (fun t k => XS.icmpYes X60.here hx rfl (pc0 := 40) (pc' := 47) rfl (hb hby at_40) rfl (by decide) (by decide) (by decide) k) ?_
    show Go _ _ _ _ _ T60 (mkF m 47 #[.val (.int p1), .val (.int (0 : Int32)), .val (.ref w_EQUAL), .val (.int (0 : Int32)), .val (.int (0 : Int32)), .unset] [])
    refine own_go (fun t k => XS.iconst X60.here hx rfl (hb hby at_47) k) ?_
    show Go _ _ _ _ _ T60 (mkF m 48 #[.val (.int p1), .val (.int (0 : Int32)), .val (.ref w_EQUAL), .val (.int (0 : Int32)), .val (.int (0 : Int32)), .unset] [(.int (0 : Int32))])
    refine own_go (fun t k => XS.istore X60.here hx rfl (hb hby at_48) rfl (l' := #[.val (.int p1), .val (.int (0 : Int32)), .val (.ref w_EQUAL), .val (.int (0 : Int32)), .val (.int (0 : Int32)), .val (.int (0 : Int32))]) rfl k) ?_
    show Go _ _ _ _ _ T60 (mkF m 50 #[.val (.int p1), .val (.int (0 : Int32)), .val (.ref w_EQUAL), .val (.int (0 : Int32)), .val (.int (0 : Int32)), .val (.int (0 : Int32))] [])
    refine own_go (fun t k => XS.iload X60.here hx rfl (hb hby at_50) rfl k) ?_
    show Go _ _ _ _ _ T60 (mkF m 52 #[.val (.int p1), .val (.int (0 : Int32)), .val (.ref w_EQUAL), .val (.int (0 : Int32)), .val (.int (0 : Int32)), .val (.int (0 : Int32))] [(.int (0 : Int32))])
    refine own_go (fun t k => XS.iloadN X60.here hx rfl (hb hby at_52) rfl k) ?_
    show Go _ _ _ _ _ T60 (mkF m 53 #[.val (.int p1), .val (.int (0 : Int32)), .val (.ref w_EQUAL), .val (.int (0 : Int32)), .val (.int (0 : Int32)), .val (.int (0 : Int32))] [(.int (0 : Int32)), (.int (0 : Int32))])
    refine own_go (fun t k => XS.icmpNo X60.here hx rfl (hb hby at_53) rfl (by decide) k) ?_
    show Go _ _ _ _ _ T60 (mkF m 56 #[.val (.int p1), .val (.int (0 : Int32)), .val (.ref w_EQUAL), .val (.int (0 : Int32)), .val (.int (0 : Int32)), .val (.int (0 : Int32))] [])
    refine own_go (fun t k => XS.iload X60.here hx rfl (hb hby at_56) rfl k) ?_
    show Go _ _ _ _ _ T60 (mkF m 58 #[.val (.int p1), .val (.int (0 : Int32)), .val (.ref w_EQUAL), .val (.int (0 : Int32)), .val (.int (0 : Int32)), .val (.int (0 : Int32))] [(.int (0 : Int32))])
    refine own_go (fun t k => XS.iload X60.here hx rfl (hb hby at_58) rfl k) ?_
    show Go _ _ _ _ _ T60 (mkF m 60 #[.val (.int p1), .val (.int (0 : Int32)), .val (.ref w_EQUAL), .val (.int (0 : Int32)), .val (.int (0 : Int32)), .val (.int (0 : Int32))] [(.int (0 : Int32)), (.int (0 : Int32))])
    refine own_go (fun t k => XS.icmpNo X60.here hx rfl (hb hby at_60) rfl (by decide) k) ?_
    show Go _ _ _ _ _ T60 (mkF m 63 #[.val (.int p1), .val (.int (0 : Int32)), .val (.ref w_EQUAL), .val (.int (0 : Int32)), .val (.int (0 : Int32)), .val (.int (0 : Int32))] [])
    refine own_go (fun t k => XS.iconst X60.here hx rfl (hb hby at_63) k) ?_
    show Go _ _ _ _ _ T60 (mkF m 64 #[.val (.int p1), .val (.int (0 : Int32)), .val (.ref w_EQUAL), .val (.int (0 : Int32)), .val (.int (0 : Int32)), .val (.int (0 : Int32))] [(.int (1 : Int32))])
    refine own_go (fun t k => XS.goto X60.here hx rfl (pc0 := 64) (pc' := 68) rfl (hb hby at_64) (by decide) (by decide) k) ?_
    show Go _ _ _ _ _ T60 (mkF m 68 #[.val (.int p1), .val (.int (0 : Int32)), .val (.ref w_EQUAL), .val (.int (0 : Int32)), .val (.int (0 : Int32)), .val (.int (0 : Int32))] [(.int (1 : Int32))])
    refine own_retN X60 hx (own_lvN X60 hlk (by decide) (by decide)) (t := .boolean) hret (by simp) (hb hby at_68) ?_
    exact ⟨rfl, N60⟩
  · skip
    show Go _ _ _ _ _ s₁ (mkF m 8 #[.val (.int p1), .val (.int (1 : Int32)), .unset, .unset, .unset, .unset] [])
    refine own_go (fun t k => XS.iloadN X0.here hx rfl (hb hby at_8) rfl k) ?_
    show Go _ _ _ _ _ s₁ (mkF m 9 #[.val (.int p1), .val (.int (1 : Int32)), .unset, .unset, .unset, .unset] [(.int (1 : Int32))])
    refine own_callS X0 hx hZ (y := (⟨"com/example/edict/edict/OperatorOrdersPinLaw", "pick", "(I)Lcom/example/edict/edict/Operator;"⟩ : MethodName)) hown (hw _ (List.mem_of_getElem? (i := 1) rfl)) (hw _ (List.mem_of_getElem? (i := 2) rfl)) (hw _ (List.mem_of_getElem? (i := 3) rfl)) (hw _ (List.mem_of_getElem? (i := 4) rfl)) (by decide) (rm1 l Z a0 hw [] (1 : Int32) w_EQUAL w_LESS_OR_EQUAL w_NOT_EQUAL w_LESS w_GREATER_OR_EQUAL w_GREATER (.ref w_NOT_EQUAL) h0 n0 hn0 S_EQUAL S_LESS_OR_EQUAL S_NOT_EQUAL S_LESS S_GREATER_OR_EQUAL S_GREATER (by rw [own_f_rm1, if_neg (show ¬ ((1 : Int32) = (0 : Int32)) by decide), if_pos (show (1 : Int32) = (1 : Int32) from rfl)]; try first | rfl | decide)) e0 (by rw [hml]; rfl) (argsL := [(.int (1 : Int32))]) (rest := []) rfl rfl (lenOf own_pd1 rfl) (W := 0) (Nat.le_of_eq rfl) (by decide) (by decide) (hb hby at_9) (by decide) (by decide) ?_
    intro v61 T61 L61 X61 q61
    obtain ⟨rfl, N61q, e61⟩ := q61
    have N61 := Fr.app N0 N61q
    show Go _ _ _ _ _ T61 (mkF m 12 #[.val (.int p1), .val (.int (1 : Int32)), .unset, .unset, .unset, .unset] [(.ref w_NOT_EQUAL)])
    refine own_go (fun t k => XS.astoreN X61.here hx rfl (hb hby at_12) rfl rfl (l' := #[.val (.int p1), .val (.int (1 : Int32)), .val (.ref w_NOT_EQUAL), .unset, .unset, .unset]) rfl k) ?_
    show Go _ _ _ _ _ T61 (mkF m 13 #[.val (.int p1), .val (.int (1 : Int32)), .val (.ref w_NOT_EQUAL), .unset, .unset, .unset] [])
    refine own_go (fun t k => XS.iloadN X61.here hx rfl (hb hby at_13) rfl k) ?_
    show Go _ _ _ _ _ T61 (mkF m 14 #[.val (.int p1), .val (.int (1 : Int32)), .val (.ref w_NOT_EQUAL), .unset, .unset, .unset] [(.int (1 : Int32))])
    refine own_go (fun t k => XS.iconst X61.here hx rfl (hb hby at_14) k) ?_
    show Go _ _ _ _ _ T61 (mkF m 15 #[.val (.int p1), .val (.int (1 : Int32)), .val (.ref w_NOT_EQUAL), .unset, .unset, .unset] [(.int (2 : Int32)), (.int (1 : Int32))])
    refine own_go (fun t k => XS.icmpYes X61.here hx rfl (pc0 := 15) (pc' := 22) rfl (hb hby at_15) rfl (by decide) (by decide) (by decide) k) ?_
    show Go _ _ _ _ _ T61 (mkF m 22 #[.val (.int p1), .val (.int (1 : Int32)), .val (.ref w_NOT_EQUAL), .unset, .unset, .unset] [])
    refine own_go (fun t k => XS.iconst X61.here hx rfl (hb hby at_22) k) ?_
    show Go _ _ _ _ _ T61 (mkF m 23 #[.val (.int p1), .val (.int (1 : Int32)), .val (.ref w_NOT_EQUAL), .unset, .unset, .unset] [(.int (0 : Int32))])
    refine own_go (fun t k => XS.istoreN X61.here hx rfl (hb hby at_23) rfl (l' := #[.val (.int p1), .val (.int (1 : Int32)), .val (.ref w_NOT_EQUAL), .val (.int (0 : Int32)), .unset, .unset]) rfl k) ?_
    show Go _ _ _ _ _ T61 (mkF m 24 #[.val (.int p1), .val (.int (1 : Int32)), .val (.ref w_NOT_EQUAL), .val (.int (0 : Int32)), .unset, .unset] [])
    refine own_go (fun t k => XS.aloadN X61.here hx rfl (hb hby at_24) rfl rfl k) ?_
    show Go _ _ _ _ _ T61 (mkF m 25 #[.val (.int p1), .val (.int (1 : Int32)), .val (.ref w_NOT_EQUAL), .val (.int (0 : Int32)), .unset, .unset] [(.ref w_NOT_EQUAL)])
    refine own_callV X61 hx hZ (y := (⟨"com/example/edict/edict/Operator", "orders", "()Z"⟩ : MethodName)) hown (hw _ (List.mem_of_getElem? (i := 8) rfl)) (hw _ (List.mem_of_getElem? (i := 9) rfl)) (hw _ (List.mem_of_getElem? (i := 11) rfl)) (hw _ (List.mem_of_getElem? (i := 10) rfl)) (hw _ (List.mem_of_getElem? (i := 12) rfl)) (hw _ (List.mem_of_getElem? (i := 6) rfl)) (by decide) (rm2 l Z a0 hw [] w_NOT_EQUAL w_EQUAL w_LESS_OR_EQUAL w_NOT_EQUAL w_LESS w_GREATER_OR_EQUAL w_GREATER (0 : Int32) h0 n0 hn0 S_EQUAL S_LESS_OR_EQUAL S_NOT_EQUAL S_LESS S_GREATER_OR_EQUAL S_GREATER (by rw [own_f_rm2, if_neg (fun q => D_w_EQUAL_w_NOT_EQUAL q.symm), if_pos (show w_NOT_EQUAL = w_NOT_EQUAL from rfl)]; try first | rfl | decide)) e61 E_NOT_EQUAL (by rw [hml]; rfl) (argsL := []) (rest := []) rfl rfl (lenOf own_pd2 rfl) (W := 0) (Nat.le_of_eq rfl) (by decide) (by decide) (hb hby at_25) (by decide) (by decide) ?_
    intro v62 T62 L62 X62 q62
    obtain ⟨rfl, N62q, e62⟩ := q62
    have N62 := Fr.app N61 N62q
    show Go _ _ _ _ _ T62 (mkF m 28 #[.val (.int p1), .val (.int (1 : Int32)), .val (.ref w_NOT_EQUAL), .val (.int (0 : Int32)), .unset, .unset] [(.int (0 : Int32))])
    refine own_go (fun t k => XS.istore X62.here hx rfl (hb hby at_28) rfl (l' := #[.val (.int p1), .val (.int (1 : Int32)), .val (.ref w_NOT_EQUAL), .val (.int (0 : Int32)), .val (.int (0 : Int32)), .unset]) rfl k) ?_
    show Go _ _ _ _ _ T62 (mkF m 30 #[.val (.int p1), .val (.int (1 : Int32)), .val (.ref w_NOT_EQUAL), .val (.int (0 : Int32)), .val (.int (0 : Int32)), .unset] [])
    refine own_go (fun t k => XS.aloadN X62.here hx rfl (hb hby at_30) rfl rfl k) ?_
    show Go _ _ _ _ _ T62 (mkF m 31 #[.val (.int p1), .val (.int (1 : Int32)), .val (.ref w_NOT_EQUAL), .val (.int (0 : Int32)), .val (.int (0 : Int32)), .unset] [(.ref w_NOT_EQUAL)])
    refine own_go (fun t k => XS.iconst X62.here hx rfl (hb hby at_31) k) ?_
    show Go _ _ _ _ _ T62 (mkF m 32 #[.val (.int p1), .val (.int (1 : Int32)), .val (.ref w_NOT_EQUAL), .val (.int (0 : Int32)), .val (.int (0 : Int32)), .unset] [(.int (-1 : Int32)), (.ref w_NOT_EQUAL)])
    refine own_callV X62 hx hZ (y := (⟨"com/example/edict/edict/Operator", "holds", "(I)Z"⟩ : MethodName)) hown (hw _ (List.mem_of_getElem? (i := 14) rfl)) (hw _ (List.mem_of_getElem? (i := 15) rfl)) (hw _ (List.mem_of_getElem? (i := 17) rfl)) (hw _ (List.mem_of_getElem? (i := 16) rfl)) (hw _ (List.mem_of_getElem? (i := 18) rfl)) (hw _ (List.mem_of_getElem? (i := 6) rfl)) (by decide) (rm_holds_1 l Z a0 hw [] w_NOT_EQUAL (-1 : Int32) (1 : Int32) h0 n0 hn0 E_NOT_EQUAL O_NOT_EQUAL_ordinal (by rw [own_f_rm_holds_1, if_neg (show ¬ ((-1 : Int32) = (0 : Int32)) by decide)]; try first | rfl | decide)) e62 E_NOT_EQUAL (by rw [hml]; rfl) (argsL := [(.int (-1 : Int32))]) (rest := []) rfl rfl (lenOf own_pd3 rfl) (W := 0) (Nat.le_of_eq rfl) (by decide) (by decide) (hb hby at_32) (by decide) (by decide) ?_
    intro v63 T63 L63 X63 q63
    obtain ⟨rfl, N63q, e63⟩ := q63
    have N63 := Fr.app N62 N63q
    show Go _ _ _ _ _ T63 (mkF m 35 #[.val (.int p1), .val (.int (1 : Int32)), .val (.ref w_NOT_EQUAL), .val (.int (0 : Int32)), .val (.int (0 : Int32)), .unset] [(.int (1 : Int32))])
    refine own_go (fun t k => XS.aloadN X63.here hx rfl (hb hby at_35) rfl rfl k) ?_
    show Go _ _ _ _ _ T63 (mkF m 36 #[.val (.int p1), .val (.int (1 : Int32)), .val (.ref w_NOT_EQUAL), .val (.int (0 : Int32)), .val (.int (0 : Int32)), .unset] [(.ref w_NOT_EQUAL), (.int (1 : Int32))])
    refine own_go (fun t k => XS.iconst X63.here hx rfl (hb hby at_36) k) ?_
    show Go _ _ _ _ _ T63 (mkF m 37 #[.val (.int p1), .val (.int (1 : Int32)), .val (.ref w_NOT_EQUAL), .val (.int (0 : Int32)), .val (.int (0 : Int32)), .unset] [(.int (1 : Int32)), (.ref w_NOT_EQUAL), (.int (1 : Int32))])
    refine own_callV X63 hx hZ (y := (⟨"com/example/edict/edict/Operator", "holds", "(I)Z"⟩ : MethodName)) hown (hw _ (List.mem_of_getElem? (i := 14) rfl)) (hw _ (List.mem_of_getElem? (i := 15) rfl)) (hw _ (List.mem_of_getElem? (i := 17) rfl)) (hw _ (List.mem_of_getElem? (i := 16) rfl)) (hw _ (List.mem_of_getElem? (i := 18) rfl)) (hw _ (List.mem_of_getElem? (i := 6) rfl)) (by decide) (rm_holds_1 l Z a0 hw [] w_NOT_EQUAL (1 : Int32) (1 : Int32) h0 n0 hn0 E_NOT_EQUAL O_NOT_EQUAL_ordinal (by rw [own_f_rm_holds_1, if_neg (show ¬ ((1 : Int32) = (0 : Int32)) by decide)]; try first | rfl | decide)) e63 E_NOT_EQUAL (by rw [hml]; rfl) (argsL := [(.int (1 : Int32))]) (rest := [(.int (1 : Int32))]) rfl rfl (lenOf own_pd3 rfl) (W := 1) (Nat.le_of_eq rfl) (by decide) (by decide) (hb hby at_37) (by decide) (by decide) ?_
    intro v64 T64 L64 X64 q64
    obtain ⟨rfl, N64q, e64⟩ := q64
    have N64 := Fr.app N63 N64q
    show Go _ _ _ _ _ T64 (mkF m 40 #[.val (.int p1), .val (.int (1 : Int32)), .val (.ref w_NOT_EQUAL), .val (.int (0 : Int32)), .val (.int (0 : Int32)), .unset] [(.int (1 : Int32)), (.int (1 : Int32))])
    refine own_go (fun t k => XS.icmpYes X64.here hx rfl (pc0 := 40) (pc' := 47) rfl (hb hby at_40) rfl (by decide) (by decide) (by decide) k) ?_
    show Go _ _ _ _ _ T64 (mkF m 47 #[.val (.int p1), .val (.int (1 : Int32)), .val (.ref w_NOT_EQUAL), .val (.int (0 : Int32)), .val (.int (0 : Int32)), .unset] [])
    refine own_go (fun t k => XS.iconst X64.here hx rfl (hb hby at_47) k) ?_
    show Go _ _ _ _ _ T64 (mkF m 48 #[.val (.int p1), .val (.int (1 : Int32)), .val (.ref w_NOT_EQUAL), .val (.int (0 : Int32)), .val (.int (0 : Int32)), .unset] [(.int (0 : Int32))])
    refine own_go (fun t k => XS.istore X64.here hx rfl (hb hby at_48) rfl (l' := #[.val (.int p1), .val (.int (1 : Int32)), .val (.ref w_NOT_EQUAL), .val (.int (0 : Int32)), .val (.int (0 : Int32)), .val (.int (0 : Int32))]) rfl k) ?_
    show Go _ _ _ _ _ T64 (mkF m 50 #[.val (.int p1), .val (.int (1 : Int32)), .val (.ref w_NOT_EQUAL), .val (.int (0 : Int32)), .val (.int (0 : Int32)), .val (.int (0 : Int32))] [])
    refine own_go (fun t k => XS.iload X64.here hx rfl (hb hby at_50) rfl k) ?_
    show Go _ _ _ _ _ T64 (mkF m 52 #[.val (.int p1), .val (.int (1 : Int32)), .val (.ref w_NOT_EQUAL), .val (.int (0 : Int32)), .val (.int (0 : Int32)), .val (.int (0 : Int32))] [(.int (0 : Int32))])
    refine own_go (fun t k => XS.iloadN X64.here hx rfl (hb hby at_52) rfl k) ?_
    show Go _ _ _ _ _ T64 (mkF m 53 #[.val (.int p1), .val (.int (1 : Int32)), .val (.ref w_NOT_EQUAL), .val (.int (0 : Int32)), .val (.int (0 : Int32)), .val (.int (0 : Int32))] [(.int (0 : Int32)), (.int (0 : Int32))])
    refine own_go (fun t k => XS.icmpNo X64.here hx rfl (hb hby at_53) rfl (by decide) k) ?_
    show Go _ _ _ _ _ T64 (mkF m 56 #[.val (.int p1), .val (.int (1 : Int32)), .val (.ref w_NOT_EQUAL), .val (.int (0 : Int32)), .val (.int (0 : Int32)), .val (.int (0 : Int32))] [])
    refine own_go (fun t k => XS.iload X64.here hx rfl (hb hby at_56) rfl k) ?_
    show Go _ _ _ _ _ T64 (mkF m 58 #[.val (.int p1), .val (.int (1 : Int32)), .val (.ref w_NOT_EQUAL), .val (.int (0 : Int32)), .val (.int (0 : Int32)), .val (.int (0 : Int32))] [(.int (0 : Int32))])
    refine own_go (fun t k => XS.iload X64.here hx rfl (hb hby at_58) rfl k) ?_
    show Go _ _ _ _ _ T64 (mkF m 60 #[.val (.int p1), .val (.int (1 : Int32)), .val (.ref w_NOT_EQUAL), .val (.int (0 : Int32)), .val (.int (0 : Int32)), .val (.int (0 : Int32))] [(.int (0 : Int32)), (.int (0 : Int32))])
    refine own_go (fun t k => XS.icmpNo X64.here hx rfl (hb hby at_60) rfl (by decide) k) ?_
    show Go _ _ _ _ _ T64 (mkF m 63 #[.val (.int p1), .val (.int (1 : Int32)), .val (.ref w_NOT_EQUAL), .val (.int (0 : Int32)), .val (.int (0 : Int32)), .val (.int (0 : Int32))] [])
    refine own_go (fun t k => XS.iconst X64.here hx rfl (hb hby at_63) k) ?_
    show Go _ _ _ _ _ T64 (mkF m 64 #[.val (.int p1), .val (.int (1 : Int32)), .val (.ref w_NOT_EQUAL), .val (.int (0 : Int32)), .val (.int (0 : Int32)), .val (.int (0 : Int32))] [(.int (1 : Int32))])
    refine own_go (fun t k => XS.goto X64.here hx rfl (pc0 := 64) (pc' := 68) rfl (hb hby at_64) (by decide) (by decide) k) ?_
    show Go _ _ _ _ _ T64 (mkF m 68 #[.val (.int p1), .val (.int (1 : Int32)), .val (.ref w_NOT_EQUAL), .val (.int (0 : Int32)), .val (.int (0 : Int32)), .val (.int (0 : Int32))] [(.int (1 : Int32))])
    refine own_retN X64 hx (own_lvN X64 hlk (by decide) (by decide)) (t := .boolean) hret (by simp) (hb hby at_68) ?_
    exact ⟨rfl, N64⟩
  · skip
    show Go _ _ _ _ _ s₁ (mkF m 8 #[.val (.int p1), .val (.int (2 : Int32)), .unset, .unset, .unset, .unset] [])
    refine own_go (fun t k => XS.iloadN X0.here hx rfl (hb hby at_8) rfl k) ?_
    show Go _ _ _ _ _ s₁ (mkF m 9 #[.val (.int p1), .val (.int (2 : Int32)), .unset, .unset, .unset, .unset] [(.int (2 : Int32))])
    refine own_callS X0 hx hZ (y := (⟨"com/example/edict/edict/OperatorOrdersPinLaw", "pick", "(I)Lcom/example/edict/edict/Operator;"⟩ : MethodName)) hown (hw _ (List.mem_of_getElem? (i := 1) rfl)) (hw _ (List.mem_of_getElem? (i := 2) rfl)) (hw _ (List.mem_of_getElem? (i := 3) rfl)) (hw _ (List.mem_of_getElem? (i := 4) rfl)) (by decide) (rm1 l Z a0 hw [] (2 : Int32) w_EQUAL w_LESS_OR_EQUAL w_NOT_EQUAL w_LESS w_GREATER_OR_EQUAL w_GREATER (.ref w_LESS) h0 n0 hn0 S_EQUAL S_LESS_OR_EQUAL S_NOT_EQUAL S_LESS S_GREATER_OR_EQUAL S_GREATER (by rw [own_f_rm1, if_neg (show ¬ ((2 : Int32) = (0 : Int32)) by decide), if_neg (show ¬ ((2 : Int32) = (1 : Int32)) by decide), if_pos (show (2 : Int32) = (2 : Int32) from rfl)]; try first | rfl | decide)) e0 (by rw [hml]; rfl) (argsL := [(.int (2 : Int32))]) (rest := []) rfl rfl (lenOf own_pd1 rfl) (W := 0) (Nat.le_of_eq rfl) (by decide) (by decide) (hb hby at_9) (by decide) (by decide) ?_
    intro v65 T65 L65 X65 q65
    obtain ⟨rfl, N65q, e65⟩ := q65
    have N65 := Fr.app N0 N65q
    show Go _ _ _ _ _ T65 (mkF m 12 #[.val (.int p1), .val (.int (2 : Int32)), .unset, .unset, .unset, .unset] [(.ref w_LESS)])
    refine own_go (fun t k => XS.astoreN X65.here hx rfl (hb hby at_12) rfl rfl (l' := #[.val (.int p1), .val (.int (2 : Int32)), .val (.ref w_LESS), .unset, .unset, .unset]) rfl k) ?_
    show Go _ _ _ _ _ T65 (mkF m 13 #[.val (.int p1), .val (.int (2 : Int32)), .val (.ref w_LESS), .unset, .unset, .unset] [])
    refine own_go (fun t k => XS.iloadN X65.here hx rfl (hb hby at_13) rfl k) ?_
    show Go _ _ _ _ _ T65 (mkF m 14 #[.val (.int p1), .val (.int (2 : Int32)), .val (.ref w_LESS), .unset, .unset, .unset] [(.int (2 : Int32))])
    refine own_go (fun t k => XS.iconst X65.here hx rfl (hb hby at_14) k) ?_
    show Go _ _ _ _ _ T65 (mkF m 15 #[.val (.int p1), .val (.int (2 : Int32)), .val (.ref w_LESS), .unset, .unset, .unset] [(.int (2 : Int32)), (.int (2 : Int32))])
    refine own_go (fun t k => XS.icmpNo X65.here hx rfl (hb hby at_15) rfl (by decide) k) ?_
    show Go _ _ _ _ _ T65 (mkF m 18 #[.val (.int p1), .val (.int (2 : Int32)), .val (.ref w_LESS), .unset, .unset, .unset] [])
    refine own_go (fun t k => XS.iconst X65.here hx rfl (hb hby at_18) k) ?_
    show Go _ _ _ _ _ T65 (mkF m 19 #[.val (.int p1), .val (.int (2 : Int32)), .val (.ref w_LESS), .unset, .unset, .unset] [(.int (1 : Int32))])
    refine own_go (fun t k => XS.goto X65.here hx rfl (pc0 := 19) (pc' := 23) rfl (hb hby at_19) (by decide) (by decide) k) ?_
    show Go _ _ _ _ _ T65 (mkF m 23 #[.val (.int p1), .val (.int (2 : Int32)), .val (.ref w_LESS), .unset, .unset, .unset] [(.int (1 : Int32))])
    refine own_go (fun t k => XS.istoreN X65.here hx rfl (hb hby at_23) rfl (l' := #[.val (.int p1), .val (.int (2 : Int32)), .val (.ref w_LESS), .val (.int (1 : Int32)), .unset, .unset]) rfl k) ?_
    show Go _ _ _ _ _ T65 (mkF m 24 #[.val (.int p1), .val (.int (2 : Int32)), .val (.ref w_LESS), .val (.int (1 : Int32)), .unset, .unset] [])
    refine own_go (fun t k => XS.aloadN X65.here hx rfl (hb hby at_24) rfl rfl k) ?_
    show Go _ _ _ _ _ T65 (mkF m 25 #[.val (.int p1), .val (.int (2 : Int32)), .val (.ref w_LESS), .val (.int (1 : Int32)), .unset, .unset] [(.ref w_LESS)])
    refine own_callV X65 hx hZ (y := (⟨"com/example/edict/edict/Operator", "orders", "()Z"⟩ : MethodName)) hown (hw _ (List.mem_of_getElem? (i := 8) rfl)) (hw _ (List.mem_of_getElem? (i := 9) rfl)) (hw _ (List.mem_of_getElem? (i := 11) rfl)) (hw _ (List.mem_of_getElem? (i := 10) rfl)) (hw _ (List.mem_of_getElem? (i := 12) rfl)) (hw _ (List.mem_of_getElem? (i := 6) rfl)) (by decide) (rm2 l Z a0 hw [] w_LESS w_EQUAL w_LESS_OR_EQUAL w_NOT_EQUAL w_LESS w_GREATER_OR_EQUAL w_GREATER (1 : Int32) h0 n0 hn0 S_EQUAL S_LESS_OR_EQUAL S_NOT_EQUAL S_LESS S_GREATER_OR_EQUAL S_GREATER (by rw [own_f_rm2, if_neg (fun q => D_w_EQUAL_w_LESS q.symm), if_neg (fun q => D_w_NOT_EQUAL_w_LESS q.symm)]; try first | rfl | decide)) e65 E_LESS (by rw [hml]; rfl) (argsL := []) (rest := []) rfl rfl (lenOf own_pd2 rfl) (W := 0) (Nat.le_of_eq rfl) (by decide) (by decide) (hb hby at_25) (by decide) (by decide) ?_
    intro v66 T66 L66 X66 q66
    obtain ⟨rfl, N66q, e66⟩ := q66
    have N66 := Fr.app N65 N66q
    show Go _ _ _ _ _ T66 (mkF m 28 #[.val (.int p1), .val (.int (2 : Int32)), .val (.ref w_LESS), .val (.int (1 : Int32)), .unset, .unset] [(.int (1 : Int32))])
    refine own_go (fun t k => XS.istore X66.here hx rfl (hb hby at_28) rfl (l' := #[.val (.int p1), .val (.int (2 : Int32)), .val (.ref w_LESS), .val (.int (1 : Int32)), .val (.int (1 : Int32)), .unset]) rfl k) ?_
    show Go _ _ _ _ _ T66 (mkF m 30 #[.val (.int p1), .val (.int (2 : Int32)), .val (.ref w_LESS), .val (.int (1 : Int32)), .val (.int (1 : Int32)), .unset] [])
    refine own_go (fun t k => XS.aloadN X66.here hx rfl (hb hby at_30) rfl rfl k) ?_
    show Go _ _ _ _ _ T66 (mkF m 31 #[.val (.int p1), .val (.int (2 : Int32)), .val (.ref w_LESS), .val (.int (1 : Int32)), .val (.int (1 : Int32)), .unset] [(.ref w_LESS)])
    refine own_go (fun t k => XS.iconst X66.here hx rfl (hb hby at_31) k) ?_
    show Go _ _ _ _ _ T66 (mkF m 32 #[.val (.int p1), .val (.int (2 : Int32)), .val (.ref w_LESS), .val (.int (1 : Int32)), .val (.int (1 : Int32)), .unset] [(.int (-1 : Int32)), (.ref w_LESS)])
    refine own_callV X66 hx hZ (y := (⟨"com/example/edict/edict/Operator", "holds", "(I)Z"⟩ : MethodName)) hown (hw _ (List.mem_of_getElem? (i := 14) rfl)) (hw _ (List.mem_of_getElem? (i := 15) rfl)) (hw _ (List.mem_of_getElem? (i := 17) rfl)) (hw _ (List.mem_of_getElem? (i := 16) rfl)) (hw _ (List.mem_of_getElem? (i := 18) rfl)) (hw _ (List.mem_of_getElem? (i := 6) rfl)) (by decide) (rm_holds_2 l Z a0 hw [] w_LESS (-1 : Int32) (1 : Int32) h0 n0 hn0 E_LESS O_LESS_ordinal (by rw [own_f_rm_holds_2, if_pos (show (-1 : Int32) < (0 : Int32) by decide)]; try first | rfl | decide)) e66 E_LESS (by rw [hml]; rfl) (argsL := [(.int (-1 : Int32))]) (rest := []) rfl rfl (lenOf own_pd3 rfl) (W := 0) (Nat.le_of_eq rfl) (by decide) (by decide) (hb hby at_32) (by decide) (by decide) ?_
    intro v67 T67 L67 X67 q67
    obtain ⟨rfl, N67q, e67⟩ := q67
    have N67 := Fr.app N66 N67q
    show Go _ _ _ _ _ T67 (mkF m 35 #[.val (.int p1), .val (.int (2 : Int32)), .val (.ref w_LESS), .val (.int (1 : Int32)), .val (.int (1 : Int32)), .unset] [(.int (1 : Int32))])
    refine own_go (fun t k => XS.aloadN X67.here hx rfl (hb hby at_35) rfl rfl k) ?_
    show Go _ _ _ _ _ T67 (mkF m 36 #[.val (.int p1), .val (.int (2 : Int32)), .val (.ref w_LESS), .val (.int (1 : Int32)), .val (.int (1 : Int32)), .unset] [(.ref w_LESS), (.int (1 : Int32))])
    refine own_go (fun t k => XS.iconst X67.here hx rfl (hb hby at_36) k) ?_
    show Go _ _ _ _ _ T67 (mkF m 37 #[.val (.int p1), .val (.int (2 : Int32)), .val (.ref w_LESS), .val (.int (1 : Int32)), .val (.int (1 : Int32)), .unset] [(.int (1 : Int32)), (.ref w_LESS), (.int (1 : Int32))])
    refine own_callV X67 hx hZ (y := (⟨"com/example/edict/edict/Operator", "holds", "(I)Z"⟩ : MethodName)) hown (hw _ (List.mem_of_getElem? (i := 14) rfl)) (hw _ (List.mem_of_getElem? (i := 15) rfl)) (hw _ (List.mem_of_getElem? (i := 17) rfl)) (hw _ (List.mem_of_getElem? (i := 16) rfl)) (hw _ (List.mem_of_getElem? (i := 18) rfl)) (hw _ (List.mem_of_getElem? (i := 6) rfl)) (by decide) (rm_holds_2 l Z a0 hw [] w_LESS (1 : Int32) (0 : Int32) h0 n0 hn0 E_LESS O_LESS_ordinal (by rw [own_f_rm_holds_2, if_neg (show ¬ ((1 : Int32) < (0 : Int32)) by decide)]; try first | rfl | decide)) e67 E_LESS (by rw [hml]; rfl) (argsL := [(.int (1 : Int32))]) (rest := [(.int (1 : Int32))]) rfl rfl (lenOf own_pd3 rfl) (W := 1) (Nat.le_of_eq rfl) (by decide) (by decide) (hb hby at_37) (by decide) (by decide) ?_
    intro v68 T68 L68 X68 q68
    obtain ⟨rfl, N68q, e68⟩ := q68
    have N68 := Fr.app N67 N68q
    show Go _ _ _ _ _ T68 (mkF m 40 #[.val (.int p1), .val (.int (2 : Int32)), .val (.ref w_LESS), .val (.int (1 : Int32)), .val (.int (1 : Int32)), .unset] [(.int (0 : Int32)), (.int (1 : Int32))])
    refine own_go (fun t k => XS.icmpNo X68.here hx rfl (hb hby at_40) rfl (by decide) k) ?_
    show Go _ _ _ _ _ T68 (mkF m 43 #[.val (.int p1), .val (.int (2 : Int32)), .val (.ref w_LESS), .val (.int (1 : Int32)), .val (.int (1 : Int32)), .unset] [])
    refine own_go (fun t k => XS.iconst X68.here hx rfl (hb hby at_43) k) ?_
    show Go _ _ _ _ _ T68 (mkF m 44 #[.val (.int p1), .val (.int (2 : Int32)), .val (.ref w_LESS), .val (.int (1 : Int32)), .val (.int (1 : Int32)), .unset] [(.int (1 : Int32))])
    refine own_go (fun t k => XS.goto X68.here hx rfl (pc0 := 44) (pc' := 48) rfl (hb hby at_44) (by decide) (by decide) k) ?_
    show Go _ _ _ _ _ T68 (mkF m 48 #[.val (.int p1), .val (.int (2 : Int32)), .val (.ref w_LESS), .val (.int (1 : Int32)), .val (.int (1 : Int32)), .unset] [(.int (1 : Int32))])
    refine own_go (fun t k => XS.istore X68.here hx rfl (hb hby at_48) rfl (l' := #[.val (.int p1), .val (.int (2 : Int32)), .val (.ref w_LESS), .val (.int (1 : Int32)), .val (.int (1 : Int32)), .val (.int (1 : Int32))]) rfl k) ?_
    show Go _ _ _ _ _ T68 (mkF m 50 #[.val (.int p1), .val (.int (2 : Int32)), .val (.ref w_LESS), .val (.int (1 : Int32)), .val (.int (1 : Int32)), .val (.int (1 : Int32))] [])
    refine own_go (fun t k => XS.iload X68.here hx rfl (hb hby at_50) rfl k) ?_
    show Go _ _ _ _ _ T68 (mkF m 52 #[.val (.int p1), .val (.int (2 : Int32)), .val (.ref w_LESS), .val (.int (1 : Int32)), .val (.int (1 : Int32)), .val (.int (1 : Int32))] [(.int (1 : Int32))])
    refine own_go (fun t k => XS.iloadN X68.here hx rfl (hb hby at_52) rfl k) ?_
    show Go _ _ _ _ _ T68 (mkF m 53 #[.val (.int p1), .val (.int (2 : Int32)), .val (.ref w_LESS), .val (.int (1 : Int32)), .val (.int (1 : Int32)), .val (.int (1 : Int32))] [(.int (1 : Int32)), (.int (1 : Int32))])
    refine own_go (fun t k => XS.icmpNo X68.here hx rfl (hb hby at_53) rfl (by decide) k) ?_
    show Go _ _ _ _ _ T68 (mkF m 56 #[.val (.int p1), .val (.int (2 : Int32)), .val (.ref w_LESS), .val (.int (1 : Int32)), .val (.int (1 : Int32)), .val (.int (1 : Int32))] [])
    refine own_go (fun t k => XS.iload X68.here hx rfl (hb hby at_56) rfl k) ?_
    show Go _ _ _ _ _ T68 (mkF m 58 #[.val (.int p1), .val (.int (2 : Int32)), .val (.ref w_LESS), .val (.int (1 : Int32)), .val (.int (1 : Int32)), .val (.int (1 : Int32))] [(.int (1 : Int32))])
    refine own_go (fun t k => XS.iload X68.here hx rfl (hb hby at_58) rfl k) ?_
    show Go _ _ _ _ _ T68 (mkF m 60 #[.val (.int p1), .val (.int (2 : Int32)), .val (.ref w_LESS), .val (.int (1 : Int32)), .val (.int (1 : Int32)), .val (.int (1 : Int32))] [(.int (1 : Int32)), (.int (1 : Int32))])
    refine own_go (fun t k => XS.icmpNo X68.here hx rfl (hb hby at_60) rfl (by decide) k) ?_
    show Go _ _ _ _ _ T68 (mkF m 63 #[.val (.int p1), .val (.int (2 : Int32)), .val (.ref w_LESS), .val (.int (1 : Int32)), .val (.int (1 : Int32)), .val (.int (1 : Int32))] [])
    refine own_go (fun t k => XS.iconst X68.here hx rfl (hb hby at_63) k) ?_
    show Go _ _ _ _ _ T68 (mkF m 64 #[.val (.int p1), .val (.int (2 : Int32)), .val (.ref w_LESS), .val (.int (1 : Int32)), .val (.int (1 : Int32)), .val (.int (1 : Int32))] [(.int (1 : Int32))])
    refine own_go (fun t k => XS.goto X68.here hx rfl (pc0 := 64) (pc' := 68) rfl (hb hby at_64) (by decide) (by decide) k) ?_
    show Go _ _ _ _ _ T68 (mkF m 68 #[.val (.int p1), .val (.int (2 : Int32)), .val (.ref w_LESS), .val (.int (1 : Int32)), .val (.int (1 : Int32)), .val (.int (1 : Int32))] [(.int (1 : Int32))])
    refine own_retN X68 hx (own_lvN X68 hlk (by decide) (by decide)) (t := .boolean) hret (by simp) (hb hby at_68) ?_
    exact ⟨rfl, N68⟩
  · skip
    show Go _ _ _ _ _ s₁ (mkF m 8 #[.val (.int p1), .val (.int (3 : Int32)), .unset, .unset, .unset, .unset] [])
    refine own_go (fun t k => XS.iloadN X0.here hx rfl (hb hby at_8) rfl k) ?_
    show Go _ _ _ _ _ s₁ (mkF m 9 #[.val (.int p1), .val (.int (3 : Int32)), .unset, .unset, .unset, .unset] [(.int (3 : Int32))])
    refine own_callS X0 hx hZ (y := (⟨"com/example/edict/edict/OperatorOrdersPinLaw", "pick", "(I)Lcom/example/edict/edict/Operator;"⟩ : MethodName)) hown (hw _ (List.mem_of_getElem? (i := 1) rfl)) (hw _ (List.mem_of_getElem? (i := 2) rfl)) (hw _ (List.mem_of_getElem? (i := 3) rfl)) (hw _ (List.mem_of_getElem? (i := 4) rfl)) (by decide) (rm1 l Z a0 hw [] (3 : Int32) w_EQUAL w_LESS_OR_EQUAL w_NOT_EQUAL w_LESS w_GREATER_OR_EQUAL w_GREATER (.ref w_LESS_OR_EQUAL) h0 n0 hn0 S_EQUAL S_LESS_OR_EQUAL S_NOT_EQUAL S_LESS S_GREATER_OR_EQUAL S_GREATER (by rw [own_f_rm1, if_neg (show ¬ ((3 : Int32) = (0 : Int32)) by decide), if_neg (show ¬ ((3 : Int32) = (1 : Int32)) by decide), if_neg (show ¬ ((3 : Int32) = (2 : Int32)) by decide), if_pos (show (3 : Int32) = (3 : Int32) from rfl)]; try first | rfl | decide)) e0 (by rw [hml]; rfl) (argsL := [(.int (3 : Int32))]) (rest := []) rfl rfl (lenOf own_pd1 rfl) (W := 0) (Nat.le_of_eq rfl) (by decide) (by decide) (hb hby at_9) (by decide) (by decide) ?_
    intro v69 T69 L69 X69 q69
    obtain ⟨rfl, N69q, e69⟩ := q69
    have N69 := Fr.app N0 N69q
    show Go _ _ _ _ _ T69 (mkF m 12 #[.val (.int p1), .val (.int (3 : Int32)), .unset, .unset, .unset, .unset] [(.ref w_LESS_OR_EQUAL)])
    refine own_go (fun t k => XS.astoreN X69.here hx rfl (hb hby at_12) rfl rfl (l' := #[.val (.int p1), .val (.int (3 : Int32)), .val (.ref w_LESS_OR_EQUAL), .unset, .unset, .unset]) rfl k) ?_
    show Go _ _ _ _ _ T69 (mkF m 13 #[.val (.int p1), .val (.int (3 : Int32)), .val (.ref w_LESS_OR_EQUAL), .unset, .unset, .unset] [])
    refine own_go (fun t k => XS.iloadN X69.here hx rfl (hb hby at_13) rfl k) ?_
    show Go _ _ _ _ _ T69 (mkF m 14 #[.val (.int p1), .val (.int (3 : Int32)), .val (.ref w_LESS_OR_EQUAL), .unset, .unset, .unset] [(.int (3 : Int32))])
    refine own_go (fun t k => XS.iconst X69.here hx rfl (hb hby at_14) k) ?_
    show Go _ _ _ _ _ T69 (mkF m 15 #[.val (.int p1), .val (.int (3 : Int32)), .val (.ref w_LESS_OR_EQUAL), .unset, .unset, .unset] [(.int (2 : Int32)), (.int (3 : Int32))])
    refine own_go (fun t k => XS.icmpNo X69.here hx rfl (hb hby at_15) rfl (by decide) k) ?_
    show Go _ _ _ _ _ T69 (mkF m 18 #[.val (.int p1), .val (.int (3 : Int32)), .val (.ref w_LESS_OR_EQUAL), .unset, .unset, .unset] [])
    refine own_go (fun t k => XS.iconst X69.here hx rfl (hb hby at_18) k) ?_
    show Go _ _ _ _ _ T69 (mkF m 19 #[.val (.int p1), .val (.int (3 : Int32)), .val (.ref w_LESS_OR_EQUAL), .unset, .unset, .unset] [(.int (1 : Int32))])
    refine own_go (fun t k => XS.goto X69.here hx rfl (pc0 := 19) (pc' := 23) rfl (hb hby at_19) (by decide) (by decide) k) ?_
    show Go _ _ _ _ _ T69 (mkF m 23 #[.val (.int p1), .val (.int (3 : Int32)), .val (.ref w_LESS_OR_EQUAL), .unset, .unset, .unset] [(.int (1 : Int32))])
    refine own_go (fun t k => XS.istoreN X69.here hx rfl (hb hby at_23) rfl (l' := #[.val (.int p1), .val (.int (3 : Int32)), .val (.ref w_LESS_OR_EQUAL), .val (.int (1 : Int32)), .unset, .unset]) rfl k) ?_
    show Go _ _ _ _ _ T69 (mkF m 24 #[.val (.int p1), .val (.int (3 : Int32)), .val (.ref w_LESS_OR_EQUAL), .val (.int (1 : Int32)), .unset, .unset] [])
    refine own_go (fun t k => XS.aloadN X69.here hx rfl (hb hby at_24) rfl rfl k) ?_
    show Go _ _ _ _ _ T69 (mkF m 25 #[.val (.int p1), .val (.int (3 : Int32)), .val (.ref w_LESS_OR_EQUAL), .val (.int (1 : Int32)), .unset, .unset] [(.ref w_LESS_OR_EQUAL)])
    refine own_callV X69 hx hZ (y := (⟨"com/example/edict/edict/Operator", "orders", "()Z"⟩ : MethodName)) hown (hw _ (List.mem_of_getElem? (i := 8) rfl)) (hw _ (List.mem_of_getElem? (i := 9) rfl)) (hw _ (List.mem_of_getElem? (i := 11) rfl)) (hw _ (List.mem_of_getElem? (i := 10) rfl)) (hw _ (List.mem_of_getElem? (i := 12) rfl)) (hw _ (List.mem_of_getElem? (i := 6) rfl)) (by decide) (rm2 l Z a0 hw [] w_LESS_OR_EQUAL w_EQUAL w_LESS_OR_EQUAL w_NOT_EQUAL w_LESS w_GREATER_OR_EQUAL w_GREATER (1 : Int32) h0 n0 hn0 S_EQUAL S_LESS_OR_EQUAL S_NOT_EQUAL S_LESS S_GREATER_OR_EQUAL S_GREATER (by rw [own_f_rm2, if_neg (fun q => D_w_EQUAL_w_LESS_OR_EQUAL q.symm), if_neg D_w_LESS_OR_EQUAL_w_NOT_EQUAL]; try first | rfl | decide)) e69 E_LESS_OR_EQUAL (by rw [hml]; rfl) (argsL := []) (rest := []) rfl rfl (lenOf own_pd2 rfl) (W := 0) (Nat.le_of_eq rfl) (by decide) (by decide) (hb hby at_25) (by decide) (by decide) ?_
    intro v70 T70 L70 X70 q70
    obtain ⟨rfl, N70q, e70⟩ := q70
    have N70 := Fr.app N69 N70q
    show Go _ _ _ _ _ T70 (mkF m 28 #[.val (.int p1), .val (.int (3 : Int32)), .val (.ref w_LESS_OR_EQUAL), .val (.int (1 : Int32)), .unset, .unset] [(.int (1 : Int32))])
    refine own_go (fun t k => XS.istore X70.here hx rfl (hb hby at_28) rfl (l' := #[.val (.int p1), .val (.int (3 : Int32)), .val (.ref w_LESS_OR_EQUAL), .val (.int (1 : Int32)), .val (.int (1 : Int32)), .unset]) rfl k) ?_
    show Go _ _ _ _ _ T70 (mkF m 30 #[.val (.int p1), .val (.int (3 : Int32)), .val (.ref w_LESS_OR_EQUAL), .val (.int (1 : Int32)), .val (.int (1 : Int32)), .unset] [])
    refine own_go (fun t k => XS.aloadN X70.here hx rfl (hb hby at_30) rfl rfl k) ?_
    show Go _ _ _ _ _ T70 (mkF m 31 #[.val (.int p1), .val (.int (3 : Int32)), .val (.ref w_LESS_OR_EQUAL), .val (.int (1 : Int32)), .val (.int (1 : Int32)), .unset] [(.ref w_LESS_OR_EQUAL)])
    refine own_go (fun t k => XS.iconst X70.here hx rfl (hb hby at_31) k) ?_
    show Go _ _ _ _ _ T70 (mkF m 32 #[.val (.int p1), .val (.int (3 : Int32)), .val (.ref w_LESS_OR_EQUAL), .val (.int (1 : Int32)), .val (.int (1 : Int32)), .unset] [(.int (-1 : Int32)), (.ref w_LESS_OR_EQUAL)])
    refine own_callV X70 hx hZ (y := (⟨"com/example/edict/edict/Operator", "holds", "(I)Z"⟩ : MethodName)) hown (hw _ (List.mem_of_getElem? (i := 14) rfl)) (hw _ (List.mem_of_getElem? (i := 15) rfl)) (hw _ (List.mem_of_getElem? (i := 17) rfl)) (hw _ (List.mem_of_getElem? (i := 16) rfl)) (hw _ (List.mem_of_getElem? (i := 18) rfl)) (hw _ (List.mem_of_getElem? (i := 6) rfl)) (by decide) (rm_holds_3 l Z a0 hw [] w_LESS_OR_EQUAL (-1 : Int32) (1 : Int32) h0 n0 hn0 E_LESS_OR_EQUAL O_LESS_OR_EQUAL_ordinal (by rw [own_f_rm_holds_3, if_neg (show ¬ ((0 : Int32) < (-1 : Int32)) by decide)]; try first | rfl | decide)) e70 E_LESS_OR_EQUAL (by rw [hml]; rfl) (argsL := [(.int (-1 : Int32))]) (rest := []) rfl rfl (lenOf own_pd3 rfl) (W := 0) (Nat.le_of_eq rfl) (by decide) (by decide) (hb hby at_32) (by decide) (by decide) ?_
    intro v71 T71 L71 X71 q71
    obtain ⟨rfl, N71q, e71⟩ := q71
    have N71 := Fr.app N70 N71q
    show Go _ _ _ _ _ T71 (mkF m 35 #[.val (.int p1), .val (.int (3 : Int32)), .val (.ref w_LESS_OR_EQUAL), .val (.int (1 : Int32)), .val (.int (1 : Int32)), .unset] [(.int (1 : Int32))])
    refine own_go (fun t k => XS.aloadN X71.here hx rfl (hb hby at_35) rfl rfl k) ?_
    show Go _ _ _ _ _ T71 (mkF m 36 #[.val (.int p1), .val (.int (3 : Int32)), .val (.ref w_LESS_OR_EQUAL), .val (.int (1 : Int32)), .val (.int (1 : Int32)), .unset] [(.ref w_LESS_OR_EQUAL), (.int (1 : Int32))])
    refine own_go (fun t k => XS.iconst X71.here hx rfl (hb hby at_36) k) ?_
    show Go _ _ _ _ _ T71 (mkF m 37 #[.val (.int p1), .val (.int (3 : Int32)), .val (.ref w_LESS_OR_EQUAL), .val (.int (1 : Int32)), .val (.int (1 : Int32)), .unset] [(.int (1 : Int32)), (.ref w_LESS_OR_EQUAL), (.int (1 : Int32))])
    refine own_callV X71 hx hZ (y := (⟨"com/example/edict/edict/Operator", "holds", "(I)Z"⟩ : MethodName)) hown (hw _ (List.mem_of_getElem? (i := 14) rfl)) (hw _ (List.mem_of_getElem? (i := 15) rfl)) (hw _ (List.mem_of_getElem? (i := 17) rfl)) (hw _ (List.mem_of_getElem? (i := 16) rfl)) (hw _ (List.mem_of_getElem? (i := 18) rfl)) (hw _ (List.mem_of_getElem? (i := 6) rfl)) (by decide) (rm_holds_3 l Z a0 hw [] w_LESS_OR_EQUAL (1 : Int32) (0 : Int32) h0 n0 hn0 E_LESS_OR_EQUAL O_LESS_OR_EQUAL_ordinal (by rw [own_f_rm_holds_3, if_pos (show (0 : Int32) < (1 : Int32) by decide)]; try first | rfl | decide)) e71 E_LESS_OR_EQUAL (by rw [hml]; rfl) (argsL := [(.int (1 : Int32))]) (rest := [(.int (1 : Int32))]) rfl rfl (lenOf own_pd3 rfl) (W := 1) (Nat.le_of_eq rfl) (by decide) (by decide) (hb hby at_37) (by decide) (by decide) ?_
    intro v72 T72 L72 X72 q72
    obtain ⟨rfl, N72q, e72⟩ := q72
    have N72 := Fr.app N71 N72q
    show Go _ _ _ _ _ T72 (mkF m 40 #[.val (.int p1), .val (.int (3 : Int32)), .val (.ref w_LESS_OR_EQUAL), .val (.int (1 : Int32)), .val (.int (1 : Int32)), .unset] [(.int (0 : Int32)), (.int (1 : Int32))])
    refine own_go (fun t k => XS.icmpNo X72.here hx rfl (hb hby at_40) rfl (by decide) k) ?_
    show Go _ _ _ _ _ T72 (mkF m 43 #[.val (.int p1), .val (.int (3 : Int32)), .val (.ref w_LESS_OR_EQUAL), .val (.int (1 : Int32)), .val (.int (1 : Int32)), .unset] [])
    refine own_go (fun t k => XS.iconst X72.here hx rfl (hb hby at_43) k) ?_
    show Go _ _ _ _ _ T72 (mkF m 44 #[.val (.int p1), .val (.int (3 : Int32)), .val (.ref w_LESS_OR_EQUAL), .val (.int (1 : Int32)), .val (.int (1 : Int32)), .unset] [(.int (1 : Int32))])
    refine own_go (fun t k => XS.goto X72.here hx rfl (pc0 := 44) (pc' := 48) rfl (hb hby at_44) (by decide) (by decide) k) ?_
    show Go _ _ _ _ _ T72 (mkF m 48 #[.val (.int p1), .val (.int (3 : Int32)), .val (.ref w_LESS_OR_EQUAL), .val (.int (1 : Int32)), .val (.int (1 : Int32)), .unset] [(.int (1 : Int32))])
    refine own_go (fun t k => XS.istore X72.here hx rfl (hb hby at_48) rfl (l' := #[.val (.int p1), .val (.int (3 : Int32)), .val (.ref w_LESS_OR_EQUAL), .val (.int (1 : Int32)), .val (.int (1 : Int32)), .val (.int (1 : Int32))]) rfl k) ?_
    show Go _ _ _ _ _ T72 (mkF m 50 #[.val (.int p1), .val (.int (3 : Int32)), .val (.ref w_LESS_OR_EQUAL), .val (.int (1 : Int32)), .val (.int (1 : Int32)), .val (.int (1 : Int32))] [])
    refine own_go (fun t k => XS.iload X72.here hx rfl (hb hby at_50) rfl k) ?_
    show Go _ _ _ _ _ T72 (mkF m 52 #[.val (.int p1), .val (.int (3 : Int32)), .val (.ref w_LESS_OR_EQUAL), .val (.int (1 : Int32)), .val (.int (1 : Int32)), .val (.int (1 : Int32))] [(.int (1 : Int32))])
    refine own_go (fun t k => XS.iloadN X72.here hx rfl (hb hby at_52) rfl k) ?_
    show Go _ _ _ _ _ T72 (mkF m 53 #[.val (.int p1), .val (.int (3 : Int32)), .val (.ref w_LESS_OR_EQUAL), .val (.int (1 : Int32)), .val (.int (1 : Int32)), .val (.int (1 : Int32))] [(.int (1 : Int32)), (.int (1 : Int32))])
    refine own_go (fun t k => XS.icmpNo X72.here hx rfl (hb hby at_53) rfl (by decide) k) ?_
    show Go _ _ _ _ _ T72 (mkF m 56 #[.val (.int p1), .val (.int (3 : Int32)), .val (.ref w_LESS_OR_EQUAL), .val (.int (1 : Int32)), .val (.int (1 : Int32)), .val (.int (1 : Int32))] [])
    refine own_go (fun t k => XS.iload X72.here hx rfl (hb hby at_56) rfl k) ?_
    show Go _ _ _ _ _ T72 (mkF m 58 #[.val (.int p1), .val (.int (3 : Int32)), .val (.ref w_LESS_OR_EQUAL), .val (.int (1 : Int32)), .val (.int (1 : Int32)), .val (.int (1 : Int32))] [(.int (1 : Int32))])
    refine own_go (fun t k => XS.iload X72.here hx rfl (hb hby at_58) rfl k) ?_
    show Go _ _ _ _ _ T72 (mkF m 60 #[.val (.int p1), .val (.int (3 : Int32)), .val (.ref w_LESS_OR_EQUAL), .val (.int (1 : Int32)), .val (.int (1 : Int32)), .val (.int (1 : Int32))] [(.int (1 : Int32)), (.int (1 : Int32))])
    refine own_go (fun t k => XS.icmpNo X72.here hx rfl (hb hby at_60) rfl (by decide) k) ?_
    show Go _ _ _ _ _ T72 (mkF m 63 #[.val (.int p1), .val (.int (3 : Int32)), .val (.ref w_LESS_OR_EQUAL), .val (.int (1 : Int32)), .val (.int (1 : Int32)), .val (.int (1 : Int32))] [])
    refine own_go (fun t k => XS.iconst X72.here hx rfl (hb hby at_63) k) ?_
    show Go _ _ _ _ _ T72 (mkF m 64 #[.val (.int p1), .val (.int (3 : Int32)), .val (.ref w_LESS_OR_EQUAL), .val (.int (1 : Int32)), .val (.int (1 : Int32)), .val (.int (1 : Int32))] [(.int (1 : Int32))])
    refine own_go (fun t k => XS.goto X72.here hx rfl (pc0 := 64) (pc' := 68) rfl (hb hby at_64) (by decide) (by decide) k) ?_
    show Go _ _ _ _ _ T72 (mkF m 68 #[.val (.int p1), .val (.int (3 : Int32)), .val (.ref w_LESS_OR_EQUAL), .val (.int (1 : Int32)), .val (.int (1 : Int32)), .val (.int (1 : Int32))] [(.int (1 : Int32))])
    refine own_retN X72 hx (own_lvN X72 hlk (by decide) (by decide)) (t := .boolean) hret (by simp) (hb hby at_68) ?_
    exact ⟨rfl, N72⟩
  · skip
    show Go _ _ _ _ _ s₁ (mkF m 8 #[.val (.int p1), .val (.int (4 : Int32)), .unset, .unset, .unset, .unset] [])
    refine own_go (fun t k => XS.iloadN X0.here hx rfl (hb hby at_8) rfl k) ?_
    show Go _ _ _ _ _ s₁ (mkF m 9 #[.val (.int p1), .val (.int (4 : Int32)), .unset, .unset, .unset, .unset] [(.int (4 : Int32))])
    refine own_callS X0 hx hZ (y := (⟨"com/example/edict/edict/OperatorOrdersPinLaw", "pick", "(I)Lcom/example/edict/edict/Operator;"⟩ : MethodName)) hown (hw _ (List.mem_of_getElem? (i := 1) rfl)) (hw _ (List.mem_of_getElem? (i := 2) rfl)) (hw _ (List.mem_of_getElem? (i := 3) rfl)) (hw _ (List.mem_of_getElem? (i := 4) rfl)) (by decide) (rm1 l Z a0 hw [] (4 : Int32) w_EQUAL w_LESS_OR_EQUAL w_NOT_EQUAL w_LESS w_GREATER_OR_EQUAL w_GREATER (.ref w_GREATER) h0 n0 hn0 S_EQUAL S_LESS_OR_EQUAL S_NOT_EQUAL S_LESS S_GREATER_OR_EQUAL S_GREATER (by rw [own_f_rm1, if_neg (show ¬ ((4 : Int32) = (0 : Int32)) by decide), if_neg (show ¬ ((4 : Int32) = (1 : Int32)) by decide), if_neg (show ¬ ((4 : Int32) = (2 : Int32)) by decide), if_neg (show ¬ ((4 : Int32) = (3 : Int32)) by decide), if_pos (show (4 : Int32) = (4 : Int32) from rfl)]; try first | rfl | decide)) e0 (by rw [hml]; rfl) (argsL := [(.int (4 : Int32))]) (rest := []) rfl rfl (lenOf own_pd1 rfl) (W := 0) (Nat.le_of_eq rfl) (by decide) (by decide) (hb hby at_9) (by decide) (by decide) ?_
    intro v73 T73 L73 X73 q73
    obtain ⟨rfl, N73q, e73⟩ := q73
    have N73 := Fr.app N0 N73q
    show Go _ _ _ _ _ T73 (mkF m 12 #[.val (.int p1), .val (.int (4 : Int32)), .unset, .unset, .unset, .unset] [(.ref w_GREATER)])
    refine own_go (fun t k => XS.astoreN X73.here hx rfl (hb hby at_12) rfl rfl (l' := #[.val (.int p1), .val (.int (4 : Int32)), .val (.ref w_GREATER), .unset, .unset, .unset]) rfl k) ?_
    show Go _ _ _ _ _ T73 (mkF m 13 #[.val (.int p1), .val (.int (4 : Int32)), .val (.ref w_GREATER), .unset, .unset, .unset] [])
    refine own_go (fun t k => XS.iloadN X73.here hx rfl (hb hby at_13) rfl k) ?_
    show Go _ _ _ _ _ T73 (mkF m 14 #[.val (.int p1), .val (.int (4 : Int32)), .val (.ref w_GREATER), .unset, .unset, .unset] [(.int (4 : Int32))])
    refine own_go (fun t k => XS.iconst X73.here hx rfl (hb hby at_14) k) ?_
    show Go _ _ _ _ _ T73 (mkF m 15 #[.val (.int p1), .val (.int (4 : Int32)), .val (.ref w_GREATER), .unset, .unset, .unset] [(.int (2 : Int32)), (.int (4 : Int32))])
    refine own_go (fun t k => XS.icmpNo X73.here hx rfl (hb hby at_15) rfl (by decide) k) ?_
    show Go _ _ _ _ _ T73 (mkF m 18 #[.val (.int p1), .val (.int (4 : Int32)), .val (.ref w_GREATER), .unset, .unset, .unset] [])
    refine own_go (fun t k => XS.iconst X73.here hx rfl (hb hby at_18) k) ?_
    show Go _ _ _ _ _ T73 (mkF m 19 #[.val (.int p1), .val (.int (4 : Int32)), .val (.ref w_GREATER), .unset, .unset, .unset] [(.int (1 : Int32))])
    refine own_go (fun t k => XS.goto X73.here hx rfl (pc0 := 19) (pc' := 23) rfl (hb hby at_19) (by decide) (by decide) k) ?_
    show Go _ _ _ _ _ T73 (mkF m 23 #[.val (.int p1), .val (.int (4 : Int32)), .val (.ref w_GREATER), .unset, .unset, .unset] [(.int (1 : Int32))])
    refine own_go (fun t k => XS.istoreN X73.here hx rfl (hb hby at_23) rfl (l' := #[.val (.int p1), .val (.int (4 : Int32)), .val (.ref w_GREATER), .val (.int (1 : Int32)), .unset, .unset]) rfl k) ?_
    show Go _ _ _ _ _ T73 (mkF m 24 #[.val (.int p1), .val (.int (4 : Int32)), .val (.ref w_GREATER), .val (.int (1 : Int32)), .unset, .unset] [])
    refine own_go (fun t k => XS.aloadN X73.here hx rfl (hb hby at_24) rfl rfl k) ?_
    show Go _ _ _ _ _ T73 (mkF m 25 #[.val (.int p1), .val (.int (4 : Int32)), .val (.ref w_GREATER), .val (.int (1 : Int32)), .unset, .unset] [(.ref w_GREATER)])
    refine own_callV X73 hx hZ (y := (⟨"com/example/edict/edict/Operator", "orders", "()Z"⟩ : MethodName)) hown (hw _ (List.mem_of_getElem? (i := 8) rfl)) (hw _ (List.mem_of_getElem? (i := 9) rfl)) (hw _ (List.mem_of_getElem? (i := 11) rfl)) (hw _ (List.mem_of_getElem? (i := 10) rfl)) (hw _ (List.mem_of_getElem? (i := 12) rfl)) (hw _ (List.mem_of_getElem? (i := 6) rfl)) (by decide) (rm2 l Z a0 hw [] w_GREATER w_EQUAL w_LESS_OR_EQUAL w_NOT_EQUAL w_LESS w_GREATER_OR_EQUAL w_GREATER (1 : Int32) h0 n0 hn0 S_EQUAL S_LESS_OR_EQUAL S_NOT_EQUAL S_LESS S_GREATER_OR_EQUAL S_GREATER (by rw [own_f_rm2, if_neg (fun q => D_w_EQUAL_w_GREATER q.symm), if_neg (fun q => D_w_NOT_EQUAL_w_GREATER q.symm)]; try first | rfl | decide)) e73 E_GREATER (by rw [hml]; rfl) (argsL := []) (rest := []) rfl rfl (lenOf own_pd2 rfl) (W := 0) (Nat.le_of_eq rfl) (by decide) (by decide) (hb hby at_25) (by decide) (by decide) ?_
    intro v74 T74 L74 X74 q74
    obtain ⟨rfl, N74q, e74⟩ := q74
    have N74 := Fr.app N73 N74q
    show Go _ _ _ _ _ T74 (mkF m 28 #[.val (.int p1), .val (.int (4 : Int32)), .val (.ref w_GREATER), .val (.int (1 : Int32)), .unset, .unset] [(.int (1 : Int32))])
    refine own_go (fun t k => XS.istore X74.here hx rfl (hb hby at_28) rfl (l' := #[.val (.int p1), .val (.int (4 : Int32)), .val (.ref w_GREATER), .val (.int (1 : Int32)), .val (.int (1 : Int32)), .unset]) rfl k) ?_
    show Go _ _ _ _ _ T74 (mkF m 30 #[.val (.int p1), .val (.int (4 : Int32)), .val (.ref w_GREATER), .val (.int (1 : Int32)), .val (.int (1 : Int32)), .unset] [])
    refine own_go (fun t k => XS.aloadN X74.here hx rfl (hb hby at_30) rfl rfl k) ?_
    show Go _ _ _ _ _ T74 (mkF m 31 #[.val (.int p1), .val (.int (4 : Int32)), .val (.ref w_GREATER), .val (.int (1 : Int32)), .val (.int (1 : Int32)), .unset] [(.ref w_GREATER)])
    refine own_go (fun t k => XS.iconst X74.here hx rfl (hb hby at_31) k) ?_
    show Go _ _ _ _ _ T74 (mkF m 32 #[.val (.int p1), .val (.int (4 : Int32)), .val (.ref w_GREATER), .val (.int (1 : Int32)), .val (.int (1 : Int32)), .unset] [(.int (-1 : Int32)), (.ref w_GREATER)])
    refine own_callV X74 hx hZ (y := (⟨"com/example/edict/edict/Operator", "holds", "(I)Z"⟩ : MethodName)) hown (hw _ (List.mem_of_getElem? (i := 14) rfl)) (hw _ (List.mem_of_getElem? (i := 15) rfl)) (hw _ (List.mem_of_getElem? (i := 17) rfl)) (hw _ (List.mem_of_getElem? (i := 16) rfl)) (hw _ (List.mem_of_getElem? (i := 18) rfl)) (hw _ (List.mem_of_getElem? (i := 6) rfl)) (by decide) (rm_holds_4 l Z a0 hw [] w_GREATER (-1 : Int32) (0 : Int32) h0 n0 hn0 E_GREATER O_GREATER_ordinal (by rw [own_f_rm_holds_4, if_neg (show ¬ ((0 : Int32) < (-1 : Int32)) by decide)]; try first | rfl | decide)) e74 E_GREATER (by rw [hml]; rfl) (argsL := [(.int (-1 : Int32))]) (rest := []) rfl rfl (lenOf own_pd3 rfl) (W := 0) (Nat.le_of_eq rfl) (by decide) (by decide) (hb hby at_32) (by decide) (by decide) ?_
    intro v75 T75 L75 X75 q75
    obtain ⟨rfl, N75q, e75⟩ := q75
    have N75 := Fr.app N74 N75q
    show Go _ _ _ _ _ T75 (mkF m 35 #[.val (.int p1), .val (.int (4 : Int32)), .val (.ref w_GREATER), .val (.int (1 : Int32)), .val (.int (1 : Int32)), .unset] [(.int (0 : Int32))])
    refine own_go (fun t k => XS.aloadN X75.here hx rfl (hb hby at_35) rfl rfl k) ?_
    show Go _ _ _ _ _ T75 (mkF m 36 #[.val (.int p1), .val (.int (4 : Int32)), .val (.ref w_GREATER), .val (.int (1 : Int32)), .val (.int (1 : Int32)), .unset] [(.ref w_GREATER), (.int (0 : Int32))])
    refine own_go (fun t k => XS.iconst X75.here hx rfl (hb hby at_36) k) ?_
    show Go _ _ _ _ _ T75 (mkF m 37 #[.val (.int p1), .val (.int (4 : Int32)), .val (.ref w_GREATER), .val (.int (1 : Int32)), .val (.int (1 : Int32)), .unset] [(.int (1 : Int32)), (.ref w_GREATER), (.int (0 : Int32))])
    refine own_callV X75 hx hZ (y := (⟨"com/example/edict/edict/Operator", "holds", "(I)Z"⟩ : MethodName)) hown (hw _ (List.mem_of_getElem? (i := 14) rfl)) (hw _ (List.mem_of_getElem? (i := 15) rfl)) (hw _ (List.mem_of_getElem? (i := 17) rfl)) (hw _ (List.mem_of_getElem? (i := 16) rfl)) (hw _ (List.mem_of_getElem? (i := 18) rfl)) (hw _ (List.mem_of_getElem? (i := 6) rfl)) (by decide) (rm_holds_4 l Z a0 hw [] w_GREATER (1 : Int32) (1 : Int32) h0 n0 hn0 E_GREATER O_GREATER_ordinal (by rw [own_f_rm_holds_4, if_pos (show (0 : Int32) < (1 : Int32) by decide)]; try first | rfl | decide)) e75 E_GREATER (by rw [hml]; rfl) (argsL := [(.int (1 : Int32))]) (rest := [(.int (0 : Int32))]) rfl rfl (lenOf own_pd3 rfl) (W := 1) (Nat.le_of_eq rfl) (by decide) (by decide) (hb hby at_37) (by decide) (by decide) ?_
    intro v76 T76 L76 X76 q76
    obtain ⟨rfl, N76q, e76⟩ := q76
    have N76 := Fr.app N75 N76q
    show Go _ _ _ _ _ T76 (mkF m 40 #[.val (.int p1), .val (.int (4 : Int32)), .val (.ref w_GREATER), .val (.int (1 : Int32)), .val (.int (1 : Int32)), .unset] [(.int (1 : Int32)), (.int (0 : Int32))])
    refine own_go (fun t k => XS.icmpNo X76.here hx rfl (hb hby at_40) rfl (by decide) k) ?_
    show Go _ _ _ _ _ T76 (mkF m 43 #[.val (.int p1), .val (.int (4 : Int32)), .val (.ref w_GREATER), .val (.int (1 : Int32)), .val (.int (1 : Int32)), .unset] [])
    refine own_go (fun t k => XS.iconst X76.here hx rfl (hb hby at_43) k) ?_
    show Go _ _ _ _ _ T76 (mkF m 44 #[.val (.int p1), .val (.int (4 : Int32)), .val (.ref w_GREATER), .val (.int (1 : Int32)), .val (.int (1 : Int32)), .unset] [(.int (1 : Int32))])
    refine own_go (fun t k => XS.goto X76.here hx rfl (pc0 := 44) (pc' := 48) rfl (hb hby at_44) (by decide) (by decide) k) ?_
    show Go _ _ _ _ _ T76 (mkF m 48 #[.val (.int p1), .val (.int (4 : Int32)), .val (.ref w_GREATER), .val (.int (1 : Int32)), .val (.int (1 : Int32)), .unset] [(.int (1 : Int32))])
    refine own_go (fun t k => XS.istore X76.here hx rfl (hb hby at_48) rfl (l' := #[.val (.int p1), .val (.int (4 : Int32)), .val (.ref w_GREATER), .val (.int (1 : Int32)), .val (.int (1 : Int32)), .val (.int (1 : Int32))]) rfl k) ?_
    show Go _ _ _ _ _ T76 (mkF m 50 #[.val (.int p1), .val (.int (4 : Int32)), .val (.ref w_GREATER), .val (.int (1 : Int32)), .val (.int (1 : Int32)), .val (.int (1 : Int32))] [])
    refine own_go (fun t k => XS.iload X76.here hx rfl (hb hby at_50) rfl k) ?_
    show Go _ _ _ _ _ T76 (mkF m 52 #[.val (.int p1), .val (.int (4 : Int32)), .val (.ref w_GREATER), .val (.int (1 : Int32)), .val (.int (1 : Int32)), .val (.int (1 : Int32))] [(.int (1 : Int32))])
    refine own_go (fun t k => XS.iloadN X76.here hx rfl (hb hby at_52) rfl k) ?_
    show Go _ _ _ _ _ T76 (mkF m 53 #[.val (.int p1), .val (.int (4 : Int32)), .val (.ref w_GREATER), .val (.int (1 : Int32)), .val (.int (1 : Int32)), .val (.int (1 : Int32))] [(.int (1 : Int32)), (.int (1 : Int32))])
    refine own_go (fun t k => XS.icmpNo X76.here hx rfl (hb hby at_53) rfl (by decide) k) ?_
    show Go _ _ _ _ _ T76 (mkF m 56 #[.val (.int p1), .val (.int (4 : Int32)), .val (.ref w_GREATER), .val (.int (1 : Int32)), .val (.int (1 : Int32)), .val (.int (1 : Int32))] [])
    refine own_go (fun t k => XS.iload X76.here hx rfl (hb hby at_56) rfl k) ?_
    show Go _ _ _ _ _ T76 (mkF m 58 #[.val (.int p1), .val (.int (4 : Int32)), .val (.ref w_GREATER), .val (.int (1 : Int32)), .val (.int (1 : Int32)), .val (.int (1 : Int32))] [(.int (1 : Int32))])
    refine own_go (fun t k => XS.iload X76.here hx rfl (hb hby at_58) rfl k) ?_
    show Go _ _ _ _ _ T76 (mkF m 60 #[.val (.int p1), .val (.int (4 : Int32)), .val (.ref w_GREATER), .val (.int (1 : Int32)), .val (.int (1 : Int32)), .val (.int (1 : Int32))] [(.int (1 : Int32)), (.int (1 : Int32))])
    refine own_go (fun t k => XS.icmpNo X76.here hx rfl (hb hby at_60) rfl (by decide) k) ?_
    show Go _ _ _ _ _ T76 (mkF m 63 #[.val (.int p1), .val (.int (4 : Int32)), .val (.ref w_GREATER), .val (.int (1 : Int32)), .val (.int (1 : Int32)), .val (.int (1 : Int32))] [])
    refine own_go (fun t k => XS.iconst X76.here hx rfl (hb hby at_63) k) ?_
    show Go _ _ _ _ _ T76 (mkF m 64 #[.val (.int p1), .val (.int (4 : Int32)), .val (.ref w_GREATER), .val (.int (1 : Int32)), .val (.int (1 : Int32)), .val (.int (1 : Int32))] [(.int (1 : Int32))])
    refine own_go (fun t k => XS.goto X76.here hx rfl (pc0 := 64) (pc' := 68) rfl (hb hby at_64) (by decide) (by decide) k) ?_
    show Go _ _ _ _ _ T76 (mkF m 68 #[.val (.int p1), .val (.int (4 : Int32)), .val (.ref w_GREATER), .val (.int (1 : Int32)), .val (.int (1 : Int32)), .val (.int (1 : Int32))] [(.int (1 : Int32))])
    refine own_retN X76 hx (own_lvN X76 hlk (by decide) (by decide)) (t := .boolean) hret (by simp) (hb hby at_68) ?_
    exact ⟨rfl, N76⟩
  · skip
    show Go _ _ _ _ _ s₁ (mkF m 8 #[.val (.int p1), .val (.int (5 : Int32)), .unset, .unset, .unset, .unset] [])
    refine own_go (fun t k => XS.iloadN X0.here hx rfl (hb hby at_8) rfl k) ?_
    show Go _ _ _ _ _ s₁ (mkF m 9 #[.val (.int p1), .val (.int (5 : Int32)), .unset, .unset, .unset, .unset] [(.int (5 : Int32))])
    refine own_callS X0 hx hZ (y := (⟨"com/example/edict/edict/OperatorOrdersPinLaw", "pick", "(I)Lcom/example/edict/edict/Operator;"⟩ : MethodName)) hown (hw _ (List.mem_of_getElem? (i := 1) rfl)) (hw _ (List.mem_of_getElem? (i := 2) rfl)) (hw _ (List.mem_of_getElem? (i := 3) rfl)) (hw _ (List.mem_of_getElem? (i := 4) rfl)) (by decide) (rm1 l Z a0 hw [] (5 : Int32) w_EQUAL w_LESS_OR_EQUAL w_NOT_EQUAL w_LESS w_GREATER_OR_EQUAL w_GREATER (.ref w_GREATER_OR_EQUAL) h0 n0 hn0 S_EQUAL S_LESS_OR_EQUAL S_NOT_EQUAL S_LESS S_GREATER_OR_EQUAL S_GREATER (by rw [own_f_rm1, if_neg (show ¬ ((5 : Int32) = (0 : Int32)) by decide), if_neg (show ¬ ((5 : Int32) = (1 : Int32)) by decide), if_neg (show ¬ ((5 : Int32) = (2 : Int32)) by decide), if_neg (show ¬ ((5 : Int32) = (3 : Int32)) by decide), if_neg (show ¬ ((5 : Int32) = (4 : Int32)) by decide)]; try first | rfl | decide)) e0 (by rw [hml]; rfl) (argsL := [(.int (5 : Int32))]) (rest := []) rfl rfl (lenOf own_pd1 rfl) (W := 0) (Nat.le_of_eq rfl) (by decide) (by decide) (hb hby at_9) (by decide) (by decide) ?_
    intro v77 T77 L77 X77 q77
    obtain ⟨rfl, N77q, e77⟩ := q77
    have N77 := Fr.app N0 N77q
    show Go _ _ _ _ _ T77 (mkF m 12 #[.val (.int p1), .val (.int (5 : Int32)), .unset, .unset, .unset, .unset] [(.ref w_GREATER_OR_EQUAL)])
    refine own_go (fun t k => XS.astoreN X77.here hx rfl (hb hby at_12) rfl rfl (l' := #[.val (.int p1), .val (.int (5 : Int32)), .val (.ref w_GREATER_OR_EQUAL), .unset, .unset, .unset]) rfl k) ?_
    show Go _ _ _ _ _ T77 (mkF m 13 #[.val (.int p1), .val (.int (5 : Int32)), .val (.ref w_GREATER_OR_EQUAL), .unset, .unset, .unset] [])
    refine own_go (fun t k => XS.iloadN X77.here hx rfl (hb hby at_13) rfl k) ?_
    show Go _ _ _ _ _ T77 (mkF m 14 #[.val (.int p1), .val (.int (5 : Int32)), .val (.ref w_GREATER_OR_EQUAL), .unset, .unset, .unset] [(.int (5 : Int32))])
    refine own_go (fun t k => XS.iconst X77.here hx rfl (hb hby at_14) k) ?_
    show Go _ _ _ _ _ T77 (mkF m 15 #[.val (.int p1), .val (.int (5 : Int32)), .val (.ref w_GREATER_OR_EQUAL), .unset, .unset, .unset] [(.int (2 : Int32)), (.int (5 : Int32))])
    refine own_go (fun t k => XS.icmpNo X77.here hx rfl (hb hby at_15) rfl (by decide) k) ?_
    show Go _ _ _ _ _ T77 (mkF m 18 #[.val (.int p1), .val (.int (5 : Int32)), .val (.ref w_GREATER_OR_EQUAL), .unset, .unset, .unset] [])
    refine own_go (fun t k => XS.iconst X77.here hx rfl (hb hby at_18) k) ?_
    show Go _ _ _ _ _ T77 (mkF m 19 #[.val (.int p1), .val (.int (5 : Int32)), .val (.ref w_GREATER_OR_EQUAL), .unset, .unset, .unset] [(.int (1 : Int32))])
    refine own_go (fun t k => XS.goto X77.here hx rfl (pc0 := 19) (pc' := 23) rfl (hb hby at_19) (by decide) (by decide) k) ?_
    show Go _ _ _ _ _ T77 (mkF m 23 #[.val (.int p1), .val (.int (5 : Int32)), .val (.ref w_GREATER_OR_EQUAL), .unset, .unset, .unset] [(.int (1 : Int32))])
    refine own_go (fun t k => XS.istoreN X77.here hx rfl (hb hby at_23) rfl (l' := #[.val (.int p1), .val (.int (5 : Int32)), .val (.ref w_GREATER_OR_EQUAL), .val (.int (1 : Int32)), .unset, .unset]) rfl k) ?_
    show Go _ _ _ _ _ T77 (mkF m 24 #[.val (.int p1), .val (.int (5 : Int32)), .val (.ref w_GREATER_OR_EQUAL), .val (.int (1 : Int32)), .unset, .unset] [])
    refine own_go (fun t k => XS.aloadN X77.here hx rfl (hb hby at_24) rfl rfl k) ?_
    show Go _ _ _ _ _ T77 (mkF m 25 #[.val (.int p1), .val (.int (5 : Int32)), .val (.ref w_GREATER_OR_EQUAL), .val (.int (1 : Int32)), .unset, .unset] [(.ref w_GREATER_OR_EQUAL)])
    refine own_callV X77 hx hZ (y := (⟨"com/example/edict/edict/Operator", "orders", "()Z"⟩ : MethodName)) hown (hw _ (List.mem_of_getElem? (i := 8) rfl)) (hw _ (List.mem_of_getElem? (i := 9) rfl)) (hw _ (List.mem_of_getElem? (i := 11) rfl)) (hw _ (List.mem_of_getElem? (i := 10) rfl)) (hw _ (List.mem_of_getElem? (i := 12) rfl)) (hw _ (List.mem_of_getElem? (i := 6) rfl)) (by decide) (rm2 l Z a0 hw [] w_GREATER_OR_EQUAL w_EQUAL w_LESS_OR_EQUAL w_NOT_EQUAL w_LESS w_GREATER_OR_EQUAL w_GREATER (1 : Int32) h0 n0 hn0 S_EQUAL S_LESS_OR_EQUAL S_NOT_EQUAL S_LESS S_GREATER_OR_EQUAL S_GREATER (by rw [own_f_rm2, if_neg (fun q => D_w_EQUAL_w_GREATER_OR_EQUAL q.symm), if_neg (fun q => D_w_NOT_EQUAL_w_GREATER_OR_EQUAL q.symm)]; try first | rfl | decide)) e77 E_GREATER_OR_EQUAL (by rw [hml]; rfl) (argsL := []) (rest := []) rfl rfl (lenOf own_pd2 rfl) (W := 0) (Nat.le_of_eq rfl) (by decide) (by decide) (hb hby at_25) (by decide) (by decide) ?_
    intro v78 T78 L78 X78 q78
    obtain ⟨rfl, N78q, e78⟩ := q78
    have N78 := Fr.app N77 N78q
    show Go _ _ _ _ _ T78 (mkF m 28 #[.val (.int p1), .val (.int (5 : Int32)), .val (.ref w_GREATER_OR_EQUAL), .val (.int (1 : Int32)), .unset, .unset] [(.int (1 : Int32))])
    refine own_go (fun t k => XS.istore X78.here hx rfl (hb hby at_28) rfl (l' := #[.val (.int p1), .val (.int (5 : Int32)), .val (.ref w_GREATER_OR_EQUAL), .val (.int (1 : Int32)), .val (.int (1 : Int32)), .unset]) rfl k) ?_
    show Go _ _ _ _ _ T78 (mkF m 30 #[.val (.int p1), .val (.int (5 : Int32)), .val (.ref w_GREATER_OR_EQUAL), .val (.int (1 : Int32)), .val (.int (1 : Int32)), .unset] [])
    refine own_go (fun t k => XS.aloadN X78.here hx rfl (hb hby at_30) rfl rfl k) ?_
    show Go _ _ _ _ _ T78 (mkF m 31 #[.val (.int p1), .val (.int (5 : Int32)), .val (.ref w_GREATER_OR_EQUAL), .val (.int (1 : Int32)), .val (.int (1 : Int32)), .unset] [(.ref w_GREATER_OR_EQUAL)])
    refine own_go (fun t k => XS.iconst X78.here hx rfl (hb hby at_31) k) ?_
    show Go _ _ _ _ _ T78 (mkF m 32 #[.val (.int p1), .val (.int (5 : Int32)), .val (.ref w_GREATER_OR_EQUAL), .val (.int (1 : Int32)), .val (.int (1 : Int32)), .unset] [(.int (-1 : Int32)), (.ref w_GREATER_OR_EQUAL)])
    refine own_callV X78 hx hZ (y := (⟨"com/example/edict/edict/Operator", "holds", "(I)Z"⟩ : MethodName)) hown (hw _ (List.mem_of_getElem? (i := 14) rfl)) (hw _ (List.mem_of_getElem? (i := 15) rfl)) (hw _ (List.mem_of_getElem? (i := 17) rfl)) (hw _ (List.mem_of_getElem? (i := 16) rfl)) (hw _ (List.mem_of_getElem? (i := 18) rfl)) (hw _ (List.mem_of_getElem? (i := 6) rfl)) (by decide) (rm_holds_5 l Z a0 hw [] w_GREATER_OR_EQUAL (-1 : Int32) (0 : Int32) h0 n0 hn0 E_GREATER_OR_EQUAL O_GREATER_OR_EQUAL_ordinal (by rw [own_f_rm_holds_5, if_pos (show (-1 : Int32) < (0 : Int32) by decide)]; try first | rfl | decide)) e78 E_GREATER_OR_EQUAL (by rw [hml]; rfl) (argsL := [(.int (-1 : Int32))]) (rest := []) rfl rfl (lenOf own_pd3 rfl) (W := 0) (Nat.le_of_eq rfl) (by decide) (by decide) (hb hby at_32) (by decide) (by decide) ?_
    intro v79 T79 L79 X79 q79
    obtain ⟨rfl, N79q, e79⟩ := q79
    have N79 := Fr.app N78 N79q
    show Go _ _ _ _ _ T79 (mkF m 35 #[.val (.int p1), .val (.int (5 : Int32)), .val (.ref w_GREATER_OR_EQUAL), .val (.int (1 : Int32)), .val (.int (1 : Int32)), .unset] [(.int (0 : Int32))])
    refine own_go (fun t k => XS.aloadN X79.here hx rfl (hb hby at_35) rfl rfl k) ?_
    show Go _ _ _ _ _ T79 (mkF m 36 #[.val (.int p1), .val (.int (5 : Int32)), .val (.ref w_GREATER_OR_EQUAL), .val (.int (1 : Int32)), .val (.int (1 : Int32)), .unset] [(.ref w_GREATER_OR_EQUAL), (.int (0 : Int32))])
    refine own_go (fun t k => XS.iconst X79.here hx rfl (hb hby at_36) k) ?_
    show Go _ _ _ _ _ T79 (mkF m 37 #[.val (.int p1), .val (.int (5 : Int32)), .val (.ref w_GREATER_OR_EQUAL), .val (.int (1 : Int32)), .val (.int (1 : Int32)), .unset] [(.int (1 : Int32)), (.ref w_GREATER_OR_EQUAL), (.int (0 : Int32))])
    refine own_callV X79 hx hZ (y := (⟨"com/example/edict/edict/Operator", "holds", "(I)Z"⟩ : MethodName)) hown (hw _ (List.mem_of_getElem? (i := 14) rfl)) (hw _ (List.mem_of_getElem? (i := 15) rfl)) (hw _ (List.mem_of_getElem? (i := 17) rfl)) (hw _ (List.mem_of_getElem? (i := 16) rfl)) (hw _ (List.mem_of_getElem? (i := 18) rfl)) (hw _ (List.mem_of_getElem? (i := 6) rfl)) (by decide) (rm_holds_5 l Z a0 hw [] w_GREATER_OR_EQUAL (1 : Int32) (1 : Int32) h0 n0 hn0 E_GREATER_OR_EQUAL O_GREATER_OR_EQUAL_ordinal (by rw [own_f_rm_holds_5, if_neg (show ¬ ((1 : Int32) < (0 : Int32)) by decide)]; try first | rfl | decide)) e79 E_GREATER_OR_EQUAL (by rw [hml]; rfl) (argsL := [(.int (1 : Int32))]) (rest := [(.int (0 : Int32))]) rfl rfl (lenOf own_pd3 rfl) (W := 1) (Nat.le_of_eq rfl) (by decide) (by decide) (hb hby at_37) (by decide) (by decide) ?_
    intro v80 T80 L80 X80 q80
    obtain ⟨rfl, N80q, e80⟩ := q80
    have N80 := Fr.app N79 N80q
    show Go _ _ _ _ _ T80 (mkF m 40 #[.val (.int p1), .val (.int (5 : Int32)), .val (.ref w_GREATER_OR_EQUAL), .val (.int (1 : Int32)), .val (.int (1 : Int32)), .unset] [(.int (1 : Int32)), (.int (0 : Int32))])
    refine own_go (fun t k => XS.icmpNo X80.here hx rfl (hb hby at_40) rfl (by decide) k) ?_
    show Go _ _ _ _ _ T80 (mkF m 43 #[.val (.int p1), .val (.int (5 : Int32)), .val (.ref w_GREATER_OR_EQUAL), .val (.int (1 : Int32)), .val (.int (1 : Int32)), .unset] [])
    refine own_go (fun t k => XS.iconst X80.here hx rfl (hb hby at_43) k) ?_
    show Go _ _ _ _ _ T80 (mkF m 44 #[.val (.int p1), .val (.int (5 : Int32)), .val (.ref w_GREATER_OR_EQUAL), .val (.int (1 : Int32)), .val (.int (1 : Int32)), .unset] [(.int (1 : Int32))])
    refine own_go (fun t k => XS.goto X80.here hx rfl (pc0 := 44) (pc' := 48) rfl (hb hby at_44) (by decide) (by decide) k) ?_
    show Go _ _ _ _ _ T80 (mkF m 48 #[.val (.int p1), .val (.int (5 : Int32)), .val (.ref w_GREATER_OR_EQUAL), .val (.int (1 : Int32)), .val (.int (1 : Int32)), .unset] [(.int (1 : Int32))])
    refine own_go (fun t k => XS.istore X80.here hx rfl (hb hby at_48) rfl (l' := #[.val (.int p1), .val (.int (5 : Int32)), .val (.ref w_GREATER_OR_EQUAL), .val (.int (1 : Int32)), .val (.int (1 : Int32)), .val (.int (1 : Int32))]) rfl k) ?_
    show Go _ _ _ _ _ T80 (mkF m 50 #[.val (.int p1), .val (.int (5 : Int32)), .val (.ref w_GREATER_OR_EQUAL), .val (.int (1 : Int32)), .val (.int (1 : Int32)), .val (.int (1 : Int32))] [])
    refine own_go (fun t k => XS.iload X80.here hx rfl (hb hby at_50) rfl k) ?_
    show Go _ _ _ _ _ T80 (mkF m 52 #[.val (.int p1), .val (.int (5 : Int32)), .val (.ref w_GREATER_OR_EQUAL), .val (.int (1 : Int32)), .val (.int (1 : Int32)), .val (.int (1 : Int32))] [(.int (1 : Int32))])
    refine own_go (fun t k => XS.iloadN X80.here hx rfl (hb hby at_52) rfl k) ?_
    show Go _ _ _ _ _ T80 (mkF m 53 #[.val (.int p1), .val (.int (5 : Int32)), .val (.ref w_GREATER_OR_EQUAL), .val (.int (1 : Int32)), .val (.int (1 : Int32)), .val (.int (1 : Int32))] [(.int (1 : Int32)), (.int (1 : Int32))])
    refine own_go (fun t k => XS.icmpNo X80.here hx rfl (hb hby at_53) rfl (by decide) k) ?_
    show Go _ _ _ _ _ T80 (mkF m 56 #[.val (.int p1), .val (.int (5 : Int32)), .val (.ref w_GREATER_OR_EQUAL), .val (.int (1 : Int32)), .val (.int (1 : Int32)), .val (.int (1 : Int32))] [])
    refine own_go (fun t k => XS.iload X80.here hx rfl (hb hby at_56) rfl k) ?_
    show Go _ _ _ _ _ T80 (mkF m 58 #[.val (.int p1), .val (.int (5 : Int32)), .val (.ref w_GREATER_OR_EQUAL), .val (.int (1 : Int32)), .val (.int (1 : Int32)), .val (.int (1 : Int32))] [(.int (1 : Int32))])
    refine own_go (fun t k => XS.iload X80.here hx rfl (hb hby at_58) rfl k) ?_
    show Go _ _ _ _ _ T80 (mkF m 60 #[.val (.int p1), .val (.int (5 : Int32)), .val (.ref w_GREATER_OR_EQUAL), .val (.int (1 : Int32)), .val (.int (1 : Int32)), .val (.int (1 : Int32))] [(.int (1 : Int32)), (.int (1 : Int32))])
    refine own_go (fun t k => XS.icmpNo X80.here hx rfl (hb hby at_60) rfl (by decide) k) ?_
    show Go _ _ _ _ _ T80 (mkF m 63 #[.val (.int p1), .val (.int (5 : Int32)), .val (.ref w_GREATER_OR_EQUAL), .val (.int (1 : Int32)), .val (.int (1 : Int32)), .val (.int (1 : Int32))] [])
    refine own_go (fun t k => XS.iconst X80.here hx rfl (hb hby at_63) k) ?_
    show Go _ _ _ _ _ T80 (mkF m 64 #[.val (.int p1), .val (.int (5 : Int32)), .val (.ref w_GREATER_OR_EQUAL), .val (.int (1 : Int32)), .val (.int (1 : Int32)), .val (.int (1 : Int32))] [(.int (1 : Int32))])
    refine own_go (fun t k => XS.goto X80.here hx rfl (pc0 := 64) (pc' := 68) rfl (hb hby at_64) (by decide) (by decide) k) ?_
    show Go _ _ _ _ _ T80 (mkF m 68 #[.val (.int p1), .val (.int (5 : Int32)), .val (.ref w_GREATER_OR_EQUAL), .val (.int (1 : Int32)), .val (.int (1 : Int32)), .val (.int (1 : Int32))] [(.int (1 : Int32))])
    refine own_retN X80 hx (own_lvN X80 hlk (by decide) (by decide)) (t := .boolean) hret (by simp) (hb hby at_68) ?_
    exact ⟨rfl, N80⟩
set_option maxRecDepth 65536 in
set_option maxHeartbeats 40000000 in
theorem comes_1 {Post : Tables → Env → Array Value → State → Outcome → State → Prop} (hpost : ∀ tb e args s v u, (limb_1_1.after args s (.returned v) u = true ∧ limb_1_2.after args s (.returned v) u = true ∧ True) → FrameEnd s (.returned v) u (Jvm.fieldLocs frame_1_writes args s ++ Jvm.arrayLocs frame_1_arrays args s ++ Jvm.staticLocs frame_1_statics s) 0 0 → Post tb e args s (.returned v) u) :
    ArmFor flags0 classFile x code maxLocals ret World_1 tables_1 room_1 Calls_1 rest_1 Pre_1 Post := by
  intro l hfl _ _ p e ha hc hk s m args below hf hA hF happ hP
  obtain ⟨hcalls, hrest, hpre⟩ := hP
  obtain ⟨-, -, -, hnamed, -, -, -, hat⟩ := (Spec.applies_iff hf).mp happ
  obtain ⟨hg, hn⟩ := and_e (Cond.before_iff.mp (show (Jvm.Cond.and given_1 narrow_1).before args s = true from hpre))
  obtain ⟨g1, g2⟩ := and_e hg
  obtain ⟨w0, rfl⟩ : ∃ w0 : Value, args = #[w0] := by
    have hs : args.size = 1 := by simpa [Cond.value, given_1] using g1
    obtain ⟨L⟩ := args
    match L, hs with
    | [w0], _ => exact ⟨w0, rfl⟩
  have hw := fun d (hd : d ∈ tables_1) => atoms_spec (ws := Jvm.Cond.code x code maxLocals ret :: tables_1) hat d (List.mem_cons_of_mem _ hd)
  obtain ⟨i0, ei0⟩ := is_v g2
  obtain rfl : w0 = (.int i0) := Option.some.inj ei0
  obtain ⟨g3, g4⟩ := and_e hn
  obtain ⟨g5, g6⟩ := and_e g4
  obtain ⟨g7, g8⟩ := and_e g6
  obtain ⟨g9, g10⟩ := and_e g8
  obtain ⟨g11, g12⟩ := and_e g10
  obtain ⟨g13, g14⟩ := and_e g12
  obtain ⟨g15, g16⟩ := and_e g14
  obtain ⟨g17, g18⟩ := and_e g16
  obtain ⟨g19, g20⟩ := and_e g18
  obtain ⟨g21, g22⟩ := and_e g20
  obtain ⟨g23, g24⟩ := and_e g22
  obtain ⟨w_EQUAL, ew_EQUAL⟩ := exa_v g3
  have S_EQUAL : Sta s s.heap "com/example/edict/edict/Operator" "EQUAL" "Lcom/example/edict/edict/Operator;" (.ref w_EQUAL) := Sta.start ew_EQUAL (Or.inr ⟨(hw _ (List.mem_of_getElem? (i := 6) rfl)), (hw _ (List.mem_of_getElem? (i := 7) rfl))⟩)
  have E_EQUAL : Exa s s.heap w_EQUAL "com/example/edict/edict/Operator" := Exa.start ew_EQUAL g3
  have O_EQUAL_ordinal : Fld s s.heap w_EQUAL "java/lang/Enum" "ordinal" "I" (.int (0 : Int32)) := own_fld ew_EQUAL g5
  obtain ⟨w_LESS_OR_EQUAL, ew_LESS_OR_EQUAL⟩ := exa_v g7
  have S_LESS_OR_EQUAL : Sta s s.heap "com/example/edict/edict/Operator" "LESS_OR_EQUAL" "Lcom/example/edict/edict/Operator;" (.ref w_LESS_OR_EQUAL) := Sta.start ew_LESS_OR_EQUAL (Or.inr ⟨(hw _ (List.mem_of_getElem? (i := 6) rfl)), (hw _ (List.mem_of_getElem? (i := 29) rfl))⟩)
  have E_LESS_OR_EQUAL : Exa s s.heap w_LESS_OR_EQUAL "com/example/edict/edict/Operator" := Exa.start ew_LESS_OR_EQUAL g7
  have O_LESS_OR_EQUAL_ordinal : Fld s s.heap w_LESS_OR_EQUAL "java/lang/Enum" "ordinal" "I" (.int (3 : Int32)) := own_fld ew_LESS_OR_EQUAL g9
  obtain ⟨w_NOT_EQUAL, ew_NOT_EQUAL⟩ := exa_v g11
  have S_NOT_EQUAL : Sta s s.heap "com/example/edict/edict/Operator" "NOT_EQUAL" "Lcom/example/edict/edict/Operator;" (.ref w_NOT_EQUAL) := Sta.start ew_NOT_EQUAL (Or.inr ⟨(hw _ (List.mem_of_getElem? (i := 6) rfl)), (hw _ (List.mem_of_getElem? (i := 31) rfl))⟩)
  have E_NOT_EQUAL : Exa s s.heap w_NOT_EQUAL "com/example/edict/edict/Operator" := Exa.start ew_NOT_EQUAL g11
  have O_NOT_EQUAL_ordinal : Fld s s.heap w_NOT_EQUAL "java/lang/Enum" "ordinal" "I" (.int (1 : Int32)) := own_fld ew_NOT_EQUAL g13
  obtain ⟨w_LESS, ew_LESS⟩ := exa_v g15
  have S_LESS : Sta s s.heap "com/example/edict/edict/Operator" "LESS" "Lcom/example/edict/edict/Operator;" (.ref w_LESS) := Sta.start ew_LESS (Or.inr ⟨(hw _ (List.mem_of_getElem? (i := 6) rfl)), (hw _ (List.mem_of_getElem? (i := 33) rfl))⟩)
  have E_LESS : Exa s s.heap w_LESS "com/example/edict/edict/Operator" := Exa.start ew_LESS g15
  have O_LESS_ordinal : Fld s s.heap w_LESS "java/lang/Enum" "ordinal" "I" (.int (2 : Int32)) := own_fld ew_LESS g17
  obtain ⟨w_GREATER_OR_EQUAL, ew_GREATER_OR_EQUAL⟩ := exa_v g19
  have S_GREATER_OR_EQUAL : Sta s s.heap "com/example/edict/edict/Operator" "GREATER_OR_EQUAL" "Lcom/example/edict/edict/Operator;" (.ref w_GREATER_OR_EQUAL) := Sta.start ew_GREATER_OR_EQUAL (Or.inr ⟨(hw _ (List.mem_of_getElem? (i := 6) rfl)), (hw _ (List.mem_of_getElem? (i := 36) rfl))⟩)
  have E_GREATER_OR_EQUAL : Exa s s.heap w_GREATER_OR_EQUAL "com/example/edict/edict/Operator" := Exa.start ew_GREATER_OR_EQUAL g19
  have O_GREATER_OR_EQUAL_ordinal : Fld s s.heap w_GREATER_OR_EQUAL "java/lang/Enum" "ordinal" "I" (.int (5 : Int32)) := own_fld ew_GREATER_OR_EQUAL g21
  obtain ⟨w_GREATER, ew_GREATER⟩ := exa_v g23
  have S_GREATER : Sta s s.heap "com/example/edict/edict/Operator" "GREATER" "Lcom/example/edict/edict/Operator;" (.ref w_GREATER) := Sta.start ew_GREATER (Or.inr ⟨(hw _ (List.mem_of_getElem? (i := 6) rfl)), (hw _ (List.mem_of_getElem? (i := 38) rfl))⟩)
  have E_GREATER : Exa s s.heap w_GREATER "com/example/edict/edict/Operator" := Exa.start ew_GREATER g23
  have O_GREATER_ordinal : Fld s s.heap w_GREATER "java/lang/Enum" "ordinal" "I" (.int (4 : Int32)) := own_fld ew_GREATER g24
  obtain ⟨n, o, h1, h2, h3, _, L, rfl, ⟨rfl, N⟩, hq⟩ := rm0 l s _ hw tables_1 i0 w_EQUAL w_LESS_OR_EQUAL w_NOT_EQUAL w_LESS w_GREATER_OR_EQUAL w_GREATER  s.heap s.heap.size (Nat.le_refl _) S_EQUAL E_EQUAL O_EQUAL_ordinal S_LESS_OR_EQUAL E_LESS_OR_EQUAL O_LESS_OR_EQUAL_ordinal S_NOT_EQUAL E_NOT_EQUAL O_NOT_EQUAL_ordinal S_LESS E_LESS O_LESS_ordinal S_GREATER_OR_EQUAL E_GREATER_OR_EQUAL O_GREATER_OR_EQUAL_ordinal S_GREATER E_GREATER O_GREATER_ordinal  p e ha hc hk s m _ below hf ((Spec.applies_iff_loose hf).mp happ).1 ⟨rfl, State.Warmed39.refl s, rfl⟩ trivial
  refine ⟨n, _, h1, h2, h3, hpost _ _ _ _ _ _ ⟨Cond.after_iff.mpr rfl, Cond.after_iff.mpr (eq_i res_at (Term.int_eval (1)) rfl), trivial⟩ ⟨hq.1, hq.2.1, (hq.2.2.sift fun y hy => Or.inr (N y hy)).mono (by decide) (by decide)⟩⟩
theorem main_1_1 : Claimed_1_1 := comes_1 fun _ _ _ _ _ _ h hF => ⟨h.1, hF⟩
theorem main_1_2 : Claimed_1_2 := comes_1 fun _ _ _ _ _ _ h hF => ⟨h.2.1, hF⟩
end Jvm.Pilot.@@N@@
namespace Jvm.Pilot.@@N@@
open Jvm Jvm.ClassFile Sem Op Lib Jvm.Free Jvm.Stand Jvm.Pilot.@@N@@.Jvm.D
/-! MADE BY PROGRAM (witnessworld.py) out of the Statement's table words and the real class files: 12 classes; the members and pool entries that the words name. The judged class is class 1, her method 2. -/
namespace start1
open Jvm.ClassFile
def u (s : String) : CpInfo := .utf8 (stringToUtf16 s)
/-- a pool by its gaps: so many unusable entries, then the entry; so many at the end -/
def gap : Nat → List CpInfo → List CpInfo
  | 0, r => r
  | n + 1, r => .unusable :: gap n r
def poolList (es : List (Nat × CpInfo)) (last : Nat) : List CpInfo := es.foldr (fun e r => gap e.1 (e.2 :: r)) (gap last [])
def pool (es : List (Nat × CpInfo)) (last : Nat) : Array CpInfo := ⟨poolList es last⟩
def fileOf (pool : Array CpInfo) (this : Nat) (attrs : Array Attribute := #[]) (ms : Array MethodInfo := #[]) (fl : Nat := 33) (sup : Nat := 0) (ifs : Array Nat := #[]) (fds : Array FieldInfo := #[]) : ClassFile where
  minorVersion := 0
  majorVersion := 65
  constantPool := pool
  accessFlags := fl
  thisClass := this
  superClass := sup
  interfaces := ifs
  fields := fds
  methods := ms
  attributes := attrs
def plain (name : String) (sup : Option ClassId) : Class where
  name := name
  kind := .ordinary
  loader := none
  accessFlags := 33
  super := sup
  interfaces := #[]
  cf := none
  fields := #[]
  methods := #[]
  instanceTypes := #[]
  staticTypes := #[]
  resolved := #[]
  callSites := []
  init := .initialized
  statics := none
  mirror := none

def pool0 : Array CpInfo := pool [(5, u "<init>"), (0, u "()V"), (1, .class_ 10), (1, u "java/lang/Object")] 113

def k0m0 : Method := { name := "<init>", desc := "()V", sig := { parameters := [], returnType := none }, accessFlags := 1, code := none }
/-- java/lang/Object -/
def k0 : Class := { plain "java/lang/Object" none with
  accessFlags := 33
  interfaces := #[]
  cf := some (fileOf pool0 8 #[] #[{ accessFlags := 1, nameIndex := 5, descriptorIndex := 6, attributes := #[] }] 33 0 #[] #[])
  fields := #[]
  methods := #[k0m0]
  instanceTypes := #[]
  staticTypes := #[]
  resolved := Array.replicate 124 none
  statics := none }

def pool1 : Array CpInfo := pool [(2, .class_ 4), (1, u "java/lang/Object"), (0, u "<init>"), (0, u "()V"), (0, .fieldref 8 9), (0, .class_ 10), (0, .nameAndType 11 12), (0, u "com/example/edict/edict/Operator"), (0, u "EQUAL"), (0, u "Lcom/example/edict/edict/Operator;"), (0, .fieldref 8 14), (0, .nameAndType 15 12), (0, u "NOT_EQUAL"), (0, .fieldref 8 17), (0, .nameAndType 18 12), (0, u "LESS"), (0, .fieldref 8 20), (0, .nameAndType 21 12), (0, u "LESS_OR_EQUAL"), (0, .fieldref 8 23), (0, .nameAndType 24 12), (0, u "GREATER"), (0, .fieldref 8 26), (0, .nameAndType 27 12), (0, u "GREATER_OR_EQUAL"), (0, .integer 2147483647), (0, .methodref 30 31), (0, .class_ 32), (0, .nameAndType 33 34), (0, u "com/example/edict/edict/OperatorOrdersPinLaw"), (0, u "pick"), (0, u "(I)Lcom/example/edict/edict/Operator;"), (0, .methodref 8 36), (0, .nameAndType 37 38), (0, u "orders"), (0, u "()Z"), (0, .methodref 8 40), (0, .nameAndType 41 42), (0, u "holds"), (0, u "(I)Z"), (3, u "law")] 2

def k1m0 : Method := { name := "<init>", desc := "()V", sig := { parameters := [], returnType := none }, accessFlags := 2, code := none }
def k1c1 : Code := { maxStack := 2, maxLocals := 1, code := method_2_code, exceptionTable := #[], attributes := #[] }
def k1m1 : Method := { name := "pick", desc := "(I)Lcom/example/edict/edict/Operator;", sig := { parameters := [.int], returnType := some (.object "com/example/edict/edict/Operator") }, accessFlags := 10, code := some k1c1 }
def k1c2 : Code := { maxStack := 3, maxLocals := 6, code := code, exceptionTable := #[], attributes := #[] }
def k1m2 : Method := { name := "law", desc := "(I)Z", sig := { parameters := [.int], returnType := some .boolean }, accessFlags := 9, code := some k1c2 }
/-- com/example/edict/edict/OperatorOrdersPinLaw -/
def k1 : Class := { plain "com/example/edict/edict/OperatorOrdersPinLaw" (some 0) with
  accessFlags := 49
  interfaces := #[]
  cf := some (fileOf pool1 30 #[] #[{ accessFlags := 2, nameIndex := 5, descriptorIndex := 6, attributes := #[] }, { accessFlags := 10, nameIndex := 33, descriptorIndex := 34, attributes := #[] }, { accessFlags := 9, nameIndex := 46, descriptorIndex := 42, attributes := #[] }] 49 2 #[] #[])
  fields := #[]
  methods := #[k1m0, k1m1, k1m2]
  instanceTypes := #[]
  staticTypes := #[]
  resolved := Array.replicate 49 none
  statics := none }

def pool2 : Array CpInfo := pool [(1, .class_ 2), (0, u "java/lang/constant/Constable"), (0, .class_ 4), (0, u "java/lang/Object")] 6

/-- java/lang/constant/Constable -/
def k2 : Class := { plain "java/lang/constant/Constable" (some 0) with
  accessFlags := 1537
  interfaces := #[]
  cf := some (fileOf pool2 1 #[] #[] 1537 3 #[] #[])
  fields := #[]
  methods := #[]
  instanceTypes := #[]
  staticTypes := #[]
  resolved := Array.replicate 11 none
  statics := none }

def pool3 : Array CpInfo := pool [(1, .class_ 2), (0, u "java/lang/Comparable"), (0, .class_ 4), (0, u "java/lang/Object")] 7

/-- java/lang/Comparable -/
def k3 : Class := { plain "java/lang/Comparable" (some 0) with
  accessFlags := 1537
  interfaces := #[]
  cf := some (fileOf pool3 1 #[] #[] 1537 3 #[] #[])
  fields := #[]
  methods := #[]
  instanceTypes := #[]
  staticTypes := #[]
  resolved := Array.replicate 12 none
  statics := none }

def pool4 : Array CpInfo := pool [(1, .class_ 2), (0, u "java/io/Serializable"), (0, .class_ 4), (0, u "java/lang/Object")] 2

/-- java/io/Serializable -/
def k4 : Class := { plain "java/io/Serializable" (some 0) with
  accessFlags := 1537
  interfaces := #[]
  cf := some (fileOf pool4 1 #[] #[] 1537 3 #[] #[])
  fields := #[]
  methods := #[]
  instanceTypes := #[]
  staticTypes := #[]
  resolved := Array.replicate 7 none
  statics := none }

def pool5 : Array CpInfo := pool [(2, .class_ 4), (1, u "java/lang/Enum"), (0, u "name"), (0, u "Ljava/lang/String;"), (0, .fieldref 2 8), (0, .nameAndType 9 10), (0, u "ordinal"), (0, u "I"), (1, .class_ 14), (1, u "java/lang/Object"), (4, u "hash"), (86, .class_ 108), (1, u "java/lang/Enum$EnumDesc"), (2, .class_ 112), (0, u "java/lang/constant/Constable"), (0, .class_ 114), (0, u "java/lang/Comparable"), (0, .class_ 116), (0, u "java/io/Serializable"), (9, u "()I")] 77

def k5c0 : Code := { maxStack := 1, maxLocals := 1, code := jdk_37_method_2_code, exceptionTable := #[], attributes := #[] }
def k5m0 : Method := { name := "ordinal", desc := "()I", sig := { parameters := [], returnType := some .int }, accessFlags := 17, code := some k5c0 }
/-- java/lang/Enum -/
def k5 : Class := { plain "java/lang/Enum" (some 0) with
  accessFlags := 1057
  interfaces := #[2, 3, 4]
  cf := some (fileOf pool5 2 #[.nestMembers #[106]] #[{ accessFlags := 17, nameIndex := 9, descriptorIndex := 126, attributes := #[] }] 1057 12 #[111, 113, 115] #[{ accessFlags := 18, nameIndex := 5, descriptorIndex := 6, attributes := #[] }, { accessFlags := 18, nameIndex := 9, descriptorIndex := 10, attributes := #[] }, { accessFlags := 2, nameIndex := 19, descriptorIndex := 10, attributes := #[] }])
  fields := #[{ name := "name", type := (.object "java/lang/String"), accessFlags := 18, slot := 0, constantValue := 0 }, { name := "ordinal", type := .int, accessFlags := 18, slot := 1, constantValue := 0 }, { name := "hash", type := .int, accessFlags := 2, slot := 2, constantValue := 0 }]
  methods := #[k5m0]
  instanceTypes := #[(.object "java/lang/String"), .int, .int]
  staticTypes := #[]
  resolved := Array.replicate 204 none
  statics := none }

def pool6 : Array CpInfo := pool [(1, .class_ 2), (0, u "com/example/edict/edict/Operator"), (0, .fieldref 1 4), (0, .nameAndType 5 6), (0, u "EQUAL"), (0, u "Lcom/example/edict/edict/Operator;"), (0, .fieldref 1 8), (0, .nameAndType 9 6), (0, u "NOT_EQUAL"), (2, u "LESS"), (2, u "LESS_OR_EQUAL"), (2, u "GREATER"), (2, u "GREATER_OR_EQUAL"), (2, u "$VALUES"), (0, u "[Lcom/example/edict/edict/Operator;"), (6, .class_ 34), (1, u "java/lang/Enum"), (8, u "symbol"), (0, u "Ljava/lang/String;"), (10, .methodref 1 56), (0, .nameAndType 57 58), (0, u "ordinal"), (0, u "()I"), (44, u "orders"), (0, u "()Z"), (0, u "holds"), (0, u "(I)Z")] 20

def k6c0 : Code := { maxStack := 2, maxLocals := 1, code := prog_17_method_6_code, exceptionTable := #[], attributes := #[] }
def k6m0 : Method := { name := "orders", desc := "()Z", sig := { parameters := [], returnType := some .boolean }, accessFlags := 0, code := some k6c0 }
def k6c1 : Code := { maxStack := 3, maxLocals := 2, code := prog_17_method_7_code, exceptionTable := #[], attributes := #[] }
def k6m1 : Method := { name := "holds", desc := "(I)Z", sig := { parameters := [.int], returnType := some .boolean }, accessFlags := 0, code := some k6c1 }
/-- com/example/edict/edict/Operator -/
def k6 : Class := { plain "com/example/edict/edict/Operator" (some 5) with
  accessFlags := 16432
  interfaces := #[]
  cf := some (fileOf pool6 1 #[] #[{ accessFlags := 0, nameIndex := 103, descriptorIndex := 104, attributes := #[] }, { accessFlags := 0, nameIndex := 105, descriptorIndex := 106, attributes := #[] }] 16432 32 #[] #[{ accessFlags := 16409, nameIndex := 5, descriptorIndex := 6, attributes := #[] }, { accessFlags := 16409, nameIndex := 9, descriptorIndex := 6, attributes := #[] }, { accessFlags := 16409, nameIndex := 12, descriptorIndex := 6, attributes := #[] }, { accessFlags := 16409, nameIndex := 15, descriptorIndex := 6, attributes := #[] }, { accessFlags := 16409, nameIndex := 18, descriptorIndex := 6, attributes := #[] }, { accessFlags := 16409, nameIndex := 21, descriptorIndex := 6, attributes := #[] }, { accessFlags := 18, nameIndex := 43, descriptorIndex := 44, attributes := #[] }, { accessFlags := 4122, nameIndex := 24, descriptorIndex := 25, attributes := #[] }])
  fields := #[{ name := "EQUAL", type := (.object "com/example/edict/edict/Operator"), accessFlags := 16409, slot := 0, constantValue := 0 }, { name := "NOT_EQUAL", type := (.object "com/example/edict/edict/Operator"), accessFlags := 16409, slot := 1, constantValue := 0 }, { name := "LESS", type := (.object "com/example/edict/edict/Operator"), accessFlags := 16409, slot := 2, constantValue := 0 }, { name := "LESS_OR_EQUAL", type := (.object "com/example/edict/edict/Operator"), accessFlags := 16409, slot := 3, constantValue := 0 }, { name := "GREATER", type := (.object "com/example/edict/edict/Operator"), accessFlags := 16409, slot := 4, constantValue := 0 }, { name := "GREATER_OR_EQUAL", type := (.object "com/example/edict/edict/Operator"), accessFlags := 16409, slot := 5, constantValue := 0 }, { name := "symbol", type := (.object "java/lang/String"), accessFlags := 18, slot := 3, constantValue := 0 }, { name := "$VALUES", type := (.array (.object "com/example/edict/edict/Operator")), accessFlags := 4122, slot := 6, constantValue := 0 }]
  methods := #[k6m0, k6m1]
  instanceTypes := #[(.object "java/lang/String"), .int, .int, (.object "java/lang/String")]
  staticTypes := #[(.object "com/example/edict/edict/Operator"), (.object "com/example/edict/edict/Operator"), (.object "com/example/edict/edict/Operator"), (.object "com/example/edict/edict/Operator"), (.object "com/example/edict/edict/Operator"), (.object "com/example/edict/edict/Operator"), (.array (.object "com/example/edict/edict/Operator"))]
  resolved := Array.replicate 127 none
  statics := some 0 }

def pool7 : Array CpInfo := pool [(1, u "java/lang/Cloneable"), (0, .class_ 1), (0, u "java/lang/Object"), (0, .class_ 3)] 3

/-- java/lang/Cloneable -/
def k7 : Class := { plain "java/lang/Cloneable" (some 0) with
  accessFlags := 1537
  interfaces := #[]
  cf := some (fileOf pool7 2 #[] #[] 1537 4 #[] #[])
  fields := #[]
  methods := #[]
  instanceTypes := #[]
  staticTypes := #[]
  resolved := Array.replicate 8 none
  statics := none }

/-- the primitive byte -/
def k8 : Class := { plain "byte" none with kind := .primitive 'B', accessFlags := 0x411 }
/-- [B -/
def k9 : Class := { plain "[B" (some 0) with kind := .array 8 .byte, interfaces := #[7, 4], accessFlags := 1041 }

/-- the primitive int -/
def k10 : Class := { plain "int" none with kind := .primitive 'I', accessFlags := 0x411 }
/-- [I -/
def k11 : Class := { plain "[I" (some 0) with kind := .array 10 .int, interfaces := #[7, 4], accessFlags := 1041 }

def heap : Heap := #[{ cls := 6, slots := #[.ref 1, .ref 3, .ref 4, .ref 2, .ref 6, .ref 5, .null], vm := .statics 6 },
  { cls := 6, slots := #[.null, .int 0, .int 0, .null], vm := .none },
  { cls := 6, slots := #[.null, .int 3, .int 0, .null], vm := .none },
  { cls := 6, slots := #[.null, .int 1, .int 0, .null], vm := .none },
  { cls := 6, slots := #[.null, .int 2, .int 0, .null], vm := .none },
  { cls := 6, slots := #[.null, .int 5, .int 0, .null], vm := .none },
  { cls := 6, slots := #[.null, .int 4, .int 0, .null], vm := .none }]
def classes : Array Class := #[k0, k1, k2, k3, k4, k5, k6, k7, k8, k9, k10, k11]
def interned : List (Array UInt16 × Addr) := []
def slotsUsed : Nat := 31
def theMethod : MethodId := ⟨1, 2⟩
def args0 : Array Value := #[.int 5]
def aboutOver (below : List Frame) : State where
  vm := { classes := classes, interned := interned.toArray }
  heap := heap
  slotsUsed := slotsUsed
  threads := #[{ frames := .invoking theMethod args0 :: below }]
def below0 : List Frame := [.native { method := ⟨0, 0⟩, args := #[] }]
def about1 : State := aboutOver below0
def p0 : Program := .bare "" "" ""
def e0 : Env := launch0.env 0 0 0
theorem w_frames : about1.frames = Frame.invoking theMethod args0 :: below0 := rfl
set_option maxRecDepth 65536 in
theorem w_args : argsFit about1.vm theMethod args0 = true := by decide +kernel
set_option maxRecDepth 65536 in
theorem w_heap : heapFits about1 = true := by decide +kernel
set_option maxRecDepth 65536 in
theorem w_runnable : about1.curStatus? = some .runnable := by decide +kernel
set_option maxRecDepth 65536 in
theorem w_alone : about1.alone = true := by decide +kernel
set_option maxRecDepth 65536 in
theorem w_named : about1.methodNamed? x = some theMethod := by decide +kernel
set_option maxRecDepth 65536 in
theorem w_hears : about1.hears theMethod below0 = true := by decide +kernel
set_option maxRecDepth 65536 in
theorem w_ripe : about1.ripe theMethod args0 below0 = true := by decide +kernel
theorem w_running : about1.status = .running := rfl
set_option maxRecDepth 65536 in
theorem w_room : about1.hasRoom e0.platform room_1 = true :=
  launch0.hasRoom_least _ room_1 (by decide +kernel) (by decide +kernel) (by decide +kernel) (by decide +kernel) (by decide +kernel) (by decide +kernel)
theorem allAtoms_all (ts : List Jvm.Cond) (a : Array Jvm.Value) (st : Jvm.State) : (allAtoms ts).before a st = ts.all (fun c => c.before a st) := by
  induction ts with
  | nil => rfl
  | cons c t ih =>
    show (Jvm.Cond.and c (allAtoms t)).before a st = _
    rw [Jvm.Cond.before_and, ih, List.all_cons]
def words1 : List Jvm.Cond := Jvm.Cond.code x code maxLocals ret :: tables_1
/-- a 'code' word, met by the world's own term for the bytes: nothing is compared byte by byte -/
theorem code_word {y : MethodName} {bytes : ByteArray} {mx : Nat} {rt : Option FieldType} {a : Array Value} {s : State} {m : MethodId} {meth : Method} {c : Code} (h1 : s.methodNamed? y = some m) (h2 : s.vm.method? m = some meth) (h3 : meth.code = some c) (h4 : c.code = bytes)
    (h5 : (c.maxLocals == mx && c.exceptionTable.isEmpty && decide (c.maxStack ≤ mostOperands) && decide (meth.sig.returnType = rt) && !meth.locks && decide (parseMethodDescriptor y.desc = some meth.sig)) = true) : (Jvm.Cond.code y bytes mx rt).before a s = true := by
  simp only [Bool.and_eq_true, beq_iff_eq, Bool.not_eq_true', decide_eq_true_eq] at h5
  obtain ⟨⟨⟨⟨⟨g1, g2⟩, g3⟩, g4⟩, g5⟩, g6⟩ := h5
  simp [Cond.before, Cond.holds, Cond.value, h1, h2, h3, h4, g1, g2, g3, g4, g5, g6]
def isCode : Jvm.Cond → Bool
  | .code _ _ _ _ => true
  | _ => false
theorem all_split {L : List Jvm.Cond} {P : Jvm.Cond → Bool} (h1 : L.all (fun c => isCode c || P c) = true) (h2 : ∀ c ∈ L.filter isCode, P c = true) : L.all P = true := by
  refine List.all_eq_true.mpr fun c hc => ?_
  have h := List.all_eq_true.mp h1 c hc
  rcases Bool.eq_false_or_eq_true (isCode c) with hi | hi
  · exact h2 c (List.mem_filter.mpr ⟨hc, hi⟩)
  · simpa [hi] using h
set_option maxRecDepth 65536 in
theorem w_c0 : (Jvm.Cond.code x code maxLocals ret).before args0 about1 = true := code_word (m := ⟨1, 2⟩) (meth := k1m2) (c := k1c2) (by decide +kernel) rfl rfl rfl (by decide +kernel)
set_option maxRecDepth 65536 in
theorem w_c1 : (Jvm.Cond.code ({ cls := "com/example/edict/edict/OperatorOrdersPinLaw", name := "pick", desc := "(I)Lcom/example/edict/edict/Operator;" } : Jvm.MethodName) method_2_code (1 : Nat) (Option.some (Jvm.ClassFile.FieldType.object "com/example/edict/edict/Operator"))).before args0 about1 = true := code_word (m := ⟨1, 1⟩) (meth := k1m1) (c := k1c1) (by decide +kernel) rfl rfl rfl (by decide +kernel)
set_option maxRecDepth 65536 in
theorem w_c2 : (Jvm.Cond.code ({ cls := "com/example/edict/edict/Operator", name := "orders", desc := "()Z" } : Jvm.MethodName) prog_17_method_6_code (1 : Nat) (Option.some Jvm.ClassFile.FieldType.boolean)).before args0 about1 = true := code_word (m := ⟨6, 0⟩) (meth := k6m0) (c := k6c0) (by decide +kernel) rfl rfl rfl (by decide +kernel)
set_option maxRecDepth 65536 in
theorem w_c3 : (Jvm.Cond.code ({ cls := "com/example/edict/edict/Operator", name := "holds", desc := "(I)Z" } : Jvm.MethodName) prog_17_method_7_code (2 : Nat) (Option.some Jvm.ClassFile.FieldType.boolean)).before args0 about1 = true := code_word (m := ⟨6, 1⟩) (meth := k6m1) (c := k6c1) (by decide +kernel) rfl rfl rfl (by decide +kernel)
set_option maxRecDepth 65536 in
theorem w_c4 : (Jvm.Cond.code ({ cls := "java/lang/Enum", name := "ordinal", desc := "()I" } : Jvm.MethodName) jdk_37_method_2_code (1 : Nat) (Option.some Jvm.ClassFile.FieldType.int)).before args0 about1 = true := code_word (m := ⟨5, 0⟩) (meth := k5m0) (c := k5c0) (by decide +kernel) rfl rfl rfl (by decide +kernel)
def codes1 : List Jvm.Cond := [Jvm.Cond.code x code maxLocals ret, Jvm.Cond.code ({ cls := "com/example/edict/edict/OperatorOrdersPinLaw", name := "pick", desc := "(I)Lcom/example/edict/edict/Operator;" } : Jvm.MethodName) method_2_code (1 : Nat) (Option.some (Jvm.ClassFile.FieldType.object "com/example/edict/edict/Operator")), Jvm.Cond.code ({ cls := "com/example/edict/edict/Operator", name := "orders", desc := "()Z" } : Jvm.MethodName) prog_17_method_6_code (1 : Nat) (Option.some Jvm.ClassFile.FieldType.boolean), Jvm.Cond.code ({ cls := "com/example/edict/edict/Operator", name := "holds", desc := "(I)Z" } : Jvm.MethodName) prog_17_method_7_code (2 : Nat) (Option.some Jvm.ClassFile.FieldType.boolean), Jvm.Cond.code ({ cls := "java/lang/Enum", name := "ordinal", desc := "()I" } : Jvm.MethodName) jdk_37_method_2_code (1 : Nat) (Option.some Jvm.ClassFile.FieldType.int)]
set_option maxRecDepth 65536 in
theorem codes_eq : words1.filter isCode = codes1 := rfl
theorem w_codes : ∀ c ∈ words1.filter isCode, c.before args0 about1 = true := by
  rw [codes_eq]
  intro c hc
  simp only [codes1, List.mem_cons, List.not_mem_nil, or_false] at hc
  rcases hc with rfl | rfl | rfl | rfl | rfl
  · exact w_c0
  · exact w_c1
  · exact w_c2
  · exact w_c3
  · exact w_c4
set_option maxRecDepth 65536 in
theorem w_t1 : (words1.take 24).all (fun c => isCode c || c.before args0 about1) = true := by decide +kernel
set_option maxRecDepth 65536 in
theorem w_t2 : (words1.drop 24).all (fun c => isCode c || c.before args0 about1) = true := by decide +kernel
theorem w_tables : (allAtoms (Jvm.Cond.code x code maxLocals ret :: tables_1)).before args0 about1 = true := by
  rw [allAtoms_all]
  show words1.all (fun c => c.before args0 about1) = true
  refine all_split ?_ w_codes
  rw [← List.take_append_drop 24 words1, List.all_append, w_t1, w_t2]
  rfl
set_option maxRecDepth 65536 in
theorem w_case : (Jvm.Cond.and given_1 narrow_1).before args0 about1 = true := by decide +kernel
theorem w_applies : (headSpec (Jvm.Cond.code x code maxLocals ret :: tables_1) room_1).applies x e0.platform about1 = true :=
  (Spec.applies_iff w_frames).mpr ⟨w_running, w_runnable, w_alone, w_named, w_hears, w_ripe, w_room, w_tables⟩
theorem atStart : AtStart classFile x code maxLocals ret World_1 tables_1 room_1 Calls_1 rest_1 Pre_1 launch0 p0 e0 about1 theMethod args0 below0 :=
  ⟨lists_1, trivial, launch0.admits_env _ _ _, launch0.least_env, fairChoices_fair.cas, fairChoices_fair.clock, w_frames, w_args, w_heap, w_applies, trivial, trivial, w_case⟩
end start1
theorem witness_1 : WitnessClaimed_1 := ⟨start1.p0, start1.e0, start1.about1, start1.theMethod, start1.args0, start1.below0, start1.atStart⟩
end Jvm.Pilot.@@N@@
