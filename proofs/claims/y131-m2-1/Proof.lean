import JvmDerived
import JvmDerived.Pilot.@@N@@Statement
import JvmDerived.Pilot.@@N@@Code
set_option linter.unusedVariables false
set_option linter.unusedSimpArgs false
namespace Jvm.Pilot.@@N@@
open Jvm Jvm.ClassFile Sem Op Lib Jvm.Free Jvm.Stand Jvm.LawKit Jvm.RoadKit Bundle Jvm.Pilot.@@N@@.Jvm.D
/-! own kit: the walk in continuation form: 'Go': from this point the body comes to its end with what Q says -/
section OwnGo
variable {p : Program} {l : Launch} {e : Env} {R : Room} {s : State} {m : MethodId} {args : Array Value} {below : List Frame} {meth : Method} {c : Code} {T : State} {locs : List Loc} {cells slots : Nat} {Z : State} {a0 : Array Value} {h : Heap} {Q : Option Value → Heap → List Loc → Prop} {C S : Nat} {End : Outcome → State → List Loc → Prop}
def Go (p : Program) (e : Env) (below : List Frame) (End : Outcome → State → List Loc → Prop) (Q : Option Value → Heap → List Loc → Prop) (T : State) (f : JFrame) : Prop :=
  ∃ s₂ o, Steps p.tables e below (T.setTop f) s₂ ∧ s₂.status = .running ∧ Ended s₂ below o ∧ ∃ v L, o = .returned v ∧ Q v s₂.heap L ∧ End o s₂ L
/-- the end of a walk that leaves the table of strings alone, and of one that may not -/
def EndN (s : State) (C S : Nat) : Outcome → State → List Loc → Prop := fun o t L => FrameEnd s o t L C S
def EndW (s : State) (C S : Nat) : Outcome → State → List Loc → Prop := fun o t L => ReturnedEndW s o t L C S
def OwnP (val : Option Value) (h0 : Heap) (n0 : Nat) (v : Option Value) (h : Heap) (L : List Loc) : Prop := v = val ∧ Fr n0 L ∧ h = h0
def OwnR (val : Option Value) (n0 : Nat) (v : Option Value) (h : Heap) (L : List Loc) : Prop := v = val ∧ Fr n0 L
abbrev OwnMet (l : Launch) (Z : State) (y : MethodName) (bytes : ByteArray) (maxL : Nat) (ret : Option FieldType) (ws : List Jvm.Cond) (rm : Room) (as' : Array Value) (h0 : Heap) (Q : Option Value → Heap → List Loc → Prop) : Prop :=
  MetFree l y (head1 (Jvm.Cond.code y bytes maxL ret :: ws) rm) (fun a U => a = as' ∧ Z.Warmed39 U.vm ∧ U.heap = h0) (fun _ _ _ _ _ => True) (fun _ U o U' => ∃ v L, o = .returned v ∧ Q v U'.heap L ∧ FrameEnd U o U' L rm.cells rm.slots)
theorem own_body {y : MethodName} {bytes : ByteArray} {maxL : Nat} {ret : Option FieldType} {ws : List Jvm.Cond} {rm : Room} {as' : Array Value} {h0 : Heap} (hpl : plainFor y = true)
    (k : ∀ (p : Program) (e : Env) (s : State) (m : MethodId) (below : List Frame) (meth : Method) (c : Code) (s₁ : State), Stand p l e rm s m as' below meth c s₁ [] 0 0 → p.tables.exec = Jvm.exec → c.code = bytes → c.maxLocals = maxL → meth.sig.returnType = ret → meth.locks = false → s.vm.findClass y.cls = some m.cls → meth.name = y.name → Z.Warmed39 s.vm → s₁.heap = h0 → s.heap = h0 → Go p e below (EndN s rm.cells rm.slots) Q s₁ (entryFrame m as' maxL)) :
    OwnMet l Z y bytes maxL ret ws rm as' h0 Q := by
  refine MetFree.of_bodySF hpl hisR ?_
  intro p e s m args below meth c s₁ Bd hml0 hP hK
  obtain ⟨rfl, hZ, hh⟩ := hP
  exact k p e s m below meth c s₁ (Stand.of_body Bd) Bd.exec Bd.bytes hml0 Bd.returns Bd.notSynchronized (findClass_of_methodNamed Bd.named) (name_of_methodNamed Bd.named Bd.method).1 hZ (by rw [← hh, Bd.state]; rfl) hh
theorem own_go {T' : State} {f f' : JFrame} (k : ∀ t, Steps p.tables e below (T'.setTop f') t → Steps p.tables e below (T.setTop f) t) (G : Go p e below End Q T' f') : Go p e below End Q T f := by
  obtain ⟨s₂, o, hs, r⟩ := G
  exact ⟨s₂, o, k _ hs, r⟩
theorem own_entry {f : JFrame} {f' : JFrame} (q : f = f') (G : Go p e below End Q T f') : Go p e below End Q T f := q ▸ G
/-- the method can be left here -/
def Leaves (e : Env) (below : List Frame) (m : MethodId) (meth : Method) (T : State) (locs : List Loc) (End : Outcome → State → List Loc → Prop) : Prop :=
  ∀ v : Option Value, (meth.sig.returnType = none → v = none) → ∃ fs, (∀ (f : JFrame) (acts : List Action), f.method = m → f.locked = none → f.entered = [] → (doReturn e (T.setTop f) acts v).1 = T.setFrames fs) ∧ (T.setFrames fs).status = .running ∧ Ended (T.setFrames fs) below (.returned v) ∧ End (.returned v) (T.setFrames fs) locs
theorem own_lvN (X : Stand p l e R s m args below meth c T locs cells slots) (hlk : meth.locks = false) (hC : cells ≤ C) (hS : slots ≤ S) : Leaves e below m meth T locs (EndN s C S) := fun v hv => by
  obtain ⟨fs, hr, hrun, hended, hW, hsame⟩ := X.leave hv hlk
  exact ⟨fs, hr, hrun, hended, ⟨_, rfl⟩, hW, hsame.mono hC hS⟩
theorem own_leave {v : Option Value} (LV : Leaves e below m meth T locs End) (hv : meth.sig.returnType = none → v = none) {f : JFrame}
    (st : ∀ fs, (∀ (f : JFrame) (acts : List Action), f.method = m → f.locked = none → f.entered = [] → (doReturn e (T.setTop f) acts v).1 = T.setFrames fs) → Steps p.tables e below (T.setTop f) (T.setFrames fs))
    (hQ : Q v T.heap locs) : Go p e below End Q T f := by
  obtain ⟨fs, hr, hrun, hended, hE⟩ := LV v hv
  exact ⟨_, _, st fs hr, hrun, hended, _, _, rfl, hQ, hE⟩
theorem own_retN (X : Stand p l e R s m args below meth c T locs cells slots) (hx : p.tables.exec = Jvm.exec) (LV : Leaves e below m meth T locs End) {pc : Nat} {Ls : Array Slot} {z : Int32} {t : FieldType} {rest : List Value} (hret : meth.sig.returnType = some t) (ht : t = .boolean ∨ t = .byte ∨ t = .char ∨ t = .short)
    (hd : decode c.code pc = .ok (.ireturn, 1)) (hQ : Q (some (.int (nar t z))) T.heap locs) : Go p e below End Q T (mkF m pc Ls (.int z :: rest)) :=
  own_leave LV (fun h => by rw [hret] at h; cases h) (fun fs hr => retN X hx hret ht hd hr) hQ
theorem own_retO (X : Stand p l e R s m args below meth c T locs cells slots) (hx : p.tables.exec = Jvm.exec) (LV : Leaves e below m meth T locs End) {pc : Nat} {Ls : Array Slot} {w : Value} {t : FieldType} {i : Instr} {rest : List Value} (hret : meth.sig.returnType = some t) (hn : narrow t w = w)
    (hi : (i = .ireturn ∧ (t = .int ∨ t = .boolean ∨ t = .byte ∨ t = .char ∨ t = .short) ∧ ∃ z, w = .int z) ∨ (i = .lreturn ∧ t = .long ∧ ∃ z, w = .long z) ∨ (i = .dreturn ∧ t = .double ∧ ∃ z, w = .double z) ∨ (i = .freturn ∧ t = .float ∧ ∃ z, w = .float z) ∨ (i = .areturn ∧ t.isReference = true ∧ w.isRef = true))
    (hd : decode c.code pc = .ok (i, 1)) (hQ : Q (some w) T.heap locs) : Go p e below End Q T (mkF m pc Ls (w :: rest)) :=
  own_leave LV (fun h => by rw [hret] at h; cases h) (fun fs hr => retOut X hx hret hn hi hd hr) hQ
theorem own_retI (X : Stand p l e R s m args below meth c T locs cells slots) (hx : p.tables.exec = Jvm.exec) (LV : Leaves e below m meth T locs End) {pc : Nat} {Ls : Array Slot} {z : Int32} {rest : List Value} (hret : meth.sig.returnType = some .int)
    (hd : decode c.code pc = .ok (.ireturn, 1)) (hQ : Q (some (.int z)) T.heap locs) : Go p e below End Q T (mkF m pc Ls (.int z :: rest)) :=
  own_retO X hx LV hret rfl (Or.inl ⟨rfl, Or.inl rfl, z, rfl⟩) hd hQ
theorem own_retL (X : Stand p l e R s m args below meth c T locs cells slots) (hx : p.tables.exec = Jvm.exec) (LV : Leaves e below m meth T locs End) {pc : Nat} {Ls : Array Slot} {z : Int64} {rest : List Value} (hret : meth.sig.returnType = some .long)
    (hd : decode c.code pc = .ok (.lreturn, 1)) (hQ : Q (some (.long z)) T.heap locs) : Go p e below End Q T (mkF m pc Ls (.long z :: rest)) :=
  own_retO X hx LV hret rfl (Or.inr (Or.inl ⟨rfl, rfl, z, rfl⟩)) hd hQ
theorem own_retA (X : Stand p l e R s m args below meth c T locs cells slots) (hx : p.tables.exec = Jvm.exec) (LV : Leaves e below m meth T locs End) {pc : Nat} {Ls : Array Slot} {w : Value} {t : FieldType} {rest : List Value} (hret : meth.sig.returnType = some t) (ht : t.isReference = true) (hw : w.isRef = true)
    (hd : decode c.code pc = .ok (.areturn, 1)) (hQ : Q (some w) T.heap locs) : Go p e below End Q T (mkF m pc Ls (w :: rest)) :=
  own_retO X hx LV hret (by cases t <;> first | (cases w <;> first | rfl | cases hw) | cases ht) (Or.inr (Or.inr (Or.inr (Or.inr ⟨rfl, ht, hw⟩)))) hd hQ
theorem own_retV (X : Stand p l e R s m args below meth c T locs cells slots) (hx : p.tables.exec = Jvm.exec) (LV : Leaves e below m meth T locs End) {pc : Nat} {Ls : Array Slot} (hret : meth.sig.returnType = none)
    (hd : decode c.code pc = .ok (.return_, 1)) (hQ : Q none T.heap locs) : Go p e below End Q T (mkF m pc Ls []) :=
  own_leave LV (fun _ => rfl) (fun fs hr => X.returnOut hx hret hd hr) hQ
/-- a branch: taken where P -/
theorem own_icmpP (P : Prop) [Decidable P] (X : Stand p l e R s m args below meth c T locs cells slots) (hx : p.tables.exec = Jvm.exec) {cd : ClassFile.Cond} {x y : Int32} {rest : List Value} {o : Int} {pc pc' : Nat} {Ls : Array Slot} (hd : decode c.code pc = .ok (.if_icmp cd o, 3)) (hP : if_icmp.holds cd x y = decide P) (ho : 0 ≤ (pc : Int) + o) (hp : ((pc : Int) + o).toNat = pc')
    (h1 : P → Go p e below End Q T (mkF m pc' Ls rest)) (h2 : ¬ P → Go p e below End Q T (mkF m (pc + 3) Ls rest)) : Go p e below End Q T (mkF m pc Ls (.int y :: .int x :: rest)) := by
  by_cases q : P
  · exact own_go (fun t k => XS.icmpYes X.here hx rfl (pc0 := pc) (pc' := pc') rfl hd rfl (by rw [hP]; exact decide_eq_true q) ho hp k) (h1 q)
  · exact own_go (fun t k => XS.icmpNo X.here hx rfl hd rfl (by rw [hP]; exact decide_eq_false q) k) (h2 q)
/-- a branch: taken where not P -/
theorem own_icmpM (P : Prop) [Decidable P] (X : Stand p l e R s m args below meth c T locs cells slots) (hx : p.tables.exec = Jvm.exec) {cd : ClassFile.Cond} {x y : Int32} {rest : List Value} {o : Int} {pc pc' : Nat} {Ls : Array Slot} (hd : decode c.code pc = .ok (.if_icmp cd o, 3)) (hP : if_icmp.holds cd x y = !decide P) (ho : 0 ≤ (pc : Int) + o) (hp : ((pc : Int) + o).toNat = pc')
    (h1 : ¬ P → Go p e below End Q T (mkF m pc' Ls rest)) (h2 : P → Go p e below End Q T (mkF m (pc + 3) Ls rest)) : Go p e below End Q T (mkF m pc Ls (.int y :: .int x :: rest)) := by
  by_cases q : P
  · exact own_go (fun t k => XS.icmpNo X.here hx rfl hd rfl (by rw [hP]; simp [q]) k) (h2 q)
  · exact own_go (fun t k => XS.icmpYes X.here hx rfl (pc0 := pc) (pc' := pc') rfl hd rfl (by rw [hP]; simp [q]) ho hp k) (h1 q)
theorem own_ifP (P : Prop) [Decidable P] (X : Stand p l e R s m args below meth c T locs cells slots) (hx : p.tables.exec = Jvm.exec) {cd : ClassFile.Cond} {x : Int32} {rest : List Value} {o : Int} {pc pc' : Nat} {Ls : Array Slot} (hd : decode c.code pc = .ok (.ifCond cd o, 3)) (hP : if_icmp.holds cd x 0 = decide P) (ho : 0 ≤ (pc : Int) + o) (hp : ((pc : Int) + o).toNat = pc')
    (h1 : P → Go p e below End Q T (mkF m pc' Ls rest)) (h2 : ¬ P → Go p e below End Q T (mkF m (pc + 3) Ls rest)) : Go p e below End Q T (mkF m pc Ls (.int x :: rest)) := by
  by_cases q : P
  · exact own_go (fun t k => XS.ifYes X.here hx rfl (pc0 := pc) (pc' := pc') rfl hd rfl (by rw [if0, hP]; exact decide_eq_true q) ho hp k) (h1 q)
  · exact own_go (fun t k => XS.ifNo X.here hx rfl hd rfl (by rw [if0, hP]; exact decide_eq_false q) k) (h2 q)
theorem own_ifM (P : Prop) [Decidable P] (X : Stand p l e R s m args below meth c T locs cells slots) (hx : p.tables.exec = Jvm.exec) {cd : ClassFile.Cond} {x : Int32} {rest : List Value} {o : Int} {pc pc' : Nat} {Ls : Array Slot} (hd : decode c.code pc = .ok (.ifCond cd o, 3)) (hP : if_icmp.holds cd x 0 = !decide P) (ho : 0 ≤ (pc : Int) + o) (hp : ((pc : Int) + o).toNat = pc')
    (h1 : ¬ P → Go p e below End Q T (mkF m pc' Ls rest)) (h2 : P → Go p e below End Q T (mkF m (pc + 3) Ls rest)) : Go p e below End Q T (mkF m pc Ls (.int x :: rest)) := by
  by_cases q : P
  · exact own_go (fun t k => XS.ifNo X.here hx rfl hd rfl (by rw [if0, hP]; simp [q]) k) (h2 q)
  · exact own_go (fun t k => XS.ifYes X.here hx rfl (pc0 := pc) (pc' := pc') rfl hd rfl (by rw [if0, hP]; simp [q]) ho hp k) (h1 q)
theorem own_eq (x y : Int32) : if_icmp.holds .eq x y = decide (x = y) := by by_cases q : x = y <;> simp [if_icmp.holds, q]
theorem own_ne (x y : Int32) : if_icmp.holds .ne x y = !decide (x = y) := by by_cases q : x = y <;> simp [if_icmp.holds, q]
theorem own_lt (x y : Int32) : if_icmp.holds .lt x y = decide (x < y) := by by_cases q : x < y <;> simp [if_icmp.holds, q]
theorem own_ge (x y : Int32) : if_icmp.holds .ge x y = !decide (x < y) := by
  by_cases q : x < y
  · rw [(tlt q).2.1]; simp [q]
  · rw [(flt q).2.1]; simp [q]
theorem own_gt (x y : Int32) : if_icmp.holds .gt x y = decide (y < x) := by
  by_cases q : y < x
  · rw [(tlt q).2.2.1]; simp [q]
  · rw [(flt q).2.2.1]; simp [q]
theorem own_le (x y : Int32) : if_icmp.holds .le x y = !decide (y < x) := by
  by_cases q : y < x
  · rw [(tlt q).2.2.2]; simp [q]
  · rw [(flt q).2.2.2]; simp [q]
theorem own_acmp (P : Prop) [Decidable P] (X : Stand p l e R s m args below meth c T locs cells slots) (hx : p.tables.exec = Jvm.exec) {cd : ACond} {x y : Value} {rest : List Value} {o : Int} {pc : Nat} {Ls : Array Slot} (h1 : x.isRef = true) (h2 : y.isRef = true) (hP : (x = y) ↔ P) (hd : decode c.code pc = .ok (.if_acmp cd o, 3)) (ho : 0 ≤ (pc : Int) + o) {pcE pcN : Nat}
    (hE : pcE = if acV cd true = true then ((pc : Int) + o).toNat else pc + 3) (hN : pcN = if acV cd false = true then ((pc : Int) + o).toNat else pc + 3)
    (k1 : P → Go p e below End Q T (mkF m pcE Ls rest)) (k2 : ¬ P → Go p e below End Q T (mkF m pcN Ls rest)) : Go p e below End Q T (mkF m pc Ls (y :: x :: rest)) := by
  by_cases q : P
  · exact own_go (fun t k => Jvm.RoadKit.acmp (g := mkF m pc Ls (y :: x :: rest)) X hx rfl h1 h2 (pc0 := pc) (pc' := pcE) (same := true) rfl hd rfl (decide_eq_true (hP.mpr q)) ho hE k) (k1 q)
  · exact own_go (fun t k => Jvm.RoadKit.acmp (g := mkF m pc Ls (y :: x :: rest)) X hx rfl h1 h2 (pc0 := pc) (pc' := pcN) (same := false) rfl hd rfl (decide_eq_false fun z => q (hP.mp z)) ho hN k) (k2 q)
theorem own_ref (a b : Addr) : (Value.ref a = Value.ref b) ↔ (a = b) := ⟨Value.ref.inj, congrArg Value.ref⟩
theorem own_callS (X : Stand p l e R s m args below meth c T locs cells slots) (hx : p.tables.exec = Jvm.exec) (hZ : Z.Warmed39 s.vm) {own : String} {index : Nat} {y : MethodName} {bytes : ByteArray} {maxL : Nat} {ret : Option FieldType} {rm : Room} {as' : Array Value} {Qc : Option Value → Heap → List Loc → Prop}
    (hown : s.vm.findClass own = some m.cls) (wl : (Cond.methodLink own index y).before a0 Z = true) (wst : (Cond.static y).before a0 Z = true) (wi : (Cond.initialized y.cls).before a0 Z = true) (wc : (Cond.code y bytes maxL ret).before a0 Z = true)
    (hy : y.cls ≠ "java/lang/invoke/MethodHandle" ∧ y.cls ≠ "java/lang/invoke/VarHandle")
    (hM : MetFree l y (head1 [Cond.code y bytes maxL ret] rm) (fun a U => a = as' ∧ Z.Warmed39 U.vm ∧ U.heap = h) (fun _ _ _ _ _ => True) (fun _ U o U' => ∃ v L, o = .returned v ∧ Qc v U'.heap L ∧ FrameEnd U o U' L rm.cells rm.slots))
    (eT : T.heap = h) {pc : Nat} {Ls : Array Slot} (hsize : Ls.size = c.maxLocals) {argsL rest stk : List Value} (hst : stk = argsL.reverse ++ rest) (ha : argsL.toArray = as') (hlen : ∀ sig, parseMethodDescriptor y.desc = some sig → argsL.length = sig.parameters.length) {W : Nat} (hW : (rest.map fun v => v.category).sum ≤ W)
    (hf : rm.frames + 1 ≤ R.frames) (hl : W + (maxL + 11) + rm.locals ≤ R.locals) (hd : decode c.code pc = .ok (.invokestatic index, 3)) (hc : cells + rm.cells ≤ R.cells) (hs : slots + rm.slots ≤ R.slots)
    (k : ∀ (v : Option Value) (T' : State) (L : List Loc), Stand p l e R s m args below meth c T' (locs ++ L) (cells + rm.cells) (slots + rm.slots) → Qc v T'.heap L → Go p e below End Q T' (mkF m (pc + 3) Ls (v.toList ++ rest))) :
    Go p e below End Q T (mkF m pc Ls stk) := by
  subst hst
  obtain ⟨v, _, ⟨T', L', k', n'⟩, -, X', ⟨Lc, hQ, l1, y1, z1⟩, st⟩ := Jvm.LawKit.callS X hx (y := y) hown (mvT hZ wl) (mvT hZ wst) (mvT hZ wi) (mvT hZ wc) hy (backOf (W := W) hM hZ wc wi hf hl) (g := mkF m pc Ls (argsL.reverse ++ rest)) rfl hsize (argsL := argsL) (rest := rest) hlen rfl (by show 2 * 0 + _ ≤ _; rw [Nat.mul_zero, Nat.zero_add]; exact hW) hd (fun _ _ => ⟨ha, eT, hc, hs⟩)
  dsimp only [Pt.U, Pt.locs, Pt.cells, Pt.slots] at X' l1 y1 z1 st hQ
  subst l1 y1 z1
  exact own_go (fun t q => st _ q) (k v T' Lc X' hQ)
theorem own_callV (X : Stand p l e R s m args below meth c T locs cells slots) (hx : p.tables.exec = Jvm.exec) (hZ : Z.Warmed39 s.vm) {own Cn : String} {index : Nat} {y : MethodName} {bytes : ByteArray} {maxL : Nat} {ret : Option FieldType} {rm : Room} {as' : Array Value} {Qc : Option Value → Heap → List Loc → Prop}
    (hown : s.vm.findClass own = some m.cls) (wl : (Cond.methodLink own index y).before a0 Z = true) (wd : (Cond.declares y).before a0 Z = true) (wsel : (Cond.selects Cn y y).before a0 Z = true) (win : (Cond.instanceMethod y).before a0 Z = true) (wc : (Cond.code y bytes maxL ret).before a0 Z = true) (wi : (Cond.initialized y.cls).before a0 Z = true)
    (hy : y.cls ≠ "java/lang/invoke/MethodHandle" ∧ y.cls ≠ "java/lang/invoke/VarHandle")
    (hM : MetFree l y (head1 [Cond.code y bytes maxL ret] rm) (fun a U => a = as' ∧ Z.Warmed39 U.vm ∧ U.heap = h) (fun _ _ _ _ _ => True) (fun _ U o U' => ∃ v L, o = .returned v ∧ Qc v U'.heap L ∧ FrameEnd U o U' L rm.cells rm.slots))
    (eT : T.heap = h) {b : Addr} (E : Exa Z h b Cn) {pc : Nat} {Ls : Array Slot} (hsize : Ls.size = c.maxLocals) {argsL rest stk : List Value} (hst : stk = argsL.reverse ++ .ref b :: rest) (ha : (.ref b :: argsL).toArray = as') (hlen : ∀ sig, parseMethodDescriptor y.desc = some sig → argsL.length = sig.parameters.length) {W : Nat} (hW : (rest.map fun v => v.category).sum ≤ W)
    (hf : rm.frames + 1 ≤ R.frames) (hl : W + (maxL + 11) + rm.locals ≤ R.locals) (hd : decode c.code pc = .ok (.invokevirtual index, 3)) (hc : cells + rm.cells ≤ R.cells) (hs : slots + rm.slots ≤ R.slots)
    (k : ∀ (v : Option Value) (T' : State) (L : List Loc), Stand p l e R s m args below meth c T' (locs ++ L) (cells + rm.cells) (slots + rm.slots) → Qc v T'.heap L → Go p e below End Q T' (mkF m (pc + 3) Ls (v.toList ++ rest))) :
    Go p e below End Q T (mkF m pc Ls stk) := by
  subst hst
  obtain ⟨cq, kq, qa, qb, qc⟩ := isOf hZ eT E
  obtain ⟨v, _, ⟨T', L', k', n'⟩, -, X', ⟨Lc, hQ, l1, y1, z1⟩, st⟩ := X.virtualBack hx (y := y) (z := y) hown (mvT hZ wl) (mvT hZ wd) (notFace_of_selects (args := #[]) (mvT hZ wsel)) (mvT hZ wsel) (mvT hZ win) hy (backOf (W := W) hM hZ wc wi hf hl) qa qc (g := mkF m pc Ls (argsL.reverse ++ .ref b :: rest)) rfl hsize (Steps.refl _) (argsL := argsL) (rest := rest) hlen rfl (by show 2 * 0 + _ ≤ _; rw [Nat.mul_zero, Nat.zero_add]; exact hW) hd (fun _ _ => ⟨ha, eT, hc, hs⟩)
  dsimp only [Pt.U, Pt.locs, Pt.cells, Pt.slots] at X' l1 y1 z1 st hQ
  subst l1 y1 z1
  exact own_go (fun t q => st.trans q) (k v T' Lc X' hQ)
theorem own_callU (X : Stand p l e R s m args below meth c T locs cells slots) (hx : p.tables.exec = Jvm.exec) (hZ : Z.Warmed39 s.vm) {own Cn owner : String} {index : Nat} {y z : MethodName} {bytes : ByteArray} {maxL : Nat} {ret : Option FieldType} {rm : Room} {as' : Array Value} {Qc : Option Value → Heap → List Loc → Prop}
    (hown : s.vm.findClass own = some m.cls) (wl : (Cond.methodLink own index y).before a0 Z = true) (wsm : (Cond.sameMethod y.cls owner y.name y.desc).before a0 Z = true) (wd : (Cond.declares ⟨owner, y.name, y.desc⟩).before a0 Z = true) (wsel : (Cond.selects Cn y z).before a0 Z = true) (win : (Cond.instanceMethod z).before a0 Z = true) (wc : (Cond.code z bytes maxL ret).before a0 Z = true) (wi : (Cond.initialized z.cls).before a0 Z = true)
    (hy : owner ≠ "java/lang/invoke/MethodHandle" ∧ owner ≠ "java/lang/invoke/VarHandle")
    (hM : MetFree l z (head1 [Cond.code z bytes maxL ret] rm) (fun a U => a = as' ∧ Z.Warmed39 U.vm ∧ U.heap = h) (fun _ _ _ _ _ => True) (fun _ U o U' => ∃ v L, o = .returned v ∧ Qc v U'.heap L ∧ FrameEnd U o U' L rm.cells rm.slots))
    (eT : T.heap = h) {b : Addr} (E : Exa Z h b Cn) {pc : Nat} {Ls : Array Slot} (hsize : Ls.size = c.maxLocals) {argsL rest stk : List Value} (hst : stk = argsL.reverse ++ .ref b :: rest) (ha : (.ref b :: argsL).toArray = as') (hlen : ∀ sig, parseMethodDescriptor y.desc = some sig → argsL.length = sig.parameters.length) {W : Nat} (hW : (rest.map fun v => v.category).sum ≤ W)
    (hf : rm.frames + 1 ≤ R.frames) (hl : W + (maxL + 11) + rm.locals ≤ R.locals) (hd : decode c.code pc = .ok (.invokevirtual index, 3)) (hc : cells + rm.cells ≤ R.cells) (hs : slots + rm.slots ≤ R.slots)
    (k : ∀ (v : Option Value) (T' : State) (L : List Loc), Stand p l e R s m args below meth c T' (locs ++ L) (cells + rm.cells) (slots + rm.slots) → Qc v T'.heap L → Go p e below End Q T' (mkF m (pc + 3) Ls (v.toList ++ rest))) :
    Go p e below End Q T (mkF m pc Ls stk) := by
  subst hst
  obtain ⟨cq, kq, qa, qb, qc⟩ := isOf hZ eT E
  obtain ⟨v, _, ⟨T', L', k', n'⟩, -, X', ⟨Lc, hQ, l1, y1, z1⟩, st⟩ := X.virtualBackUp hx (x := y) (y := z) hown (mvT hZ wl) (mvT hZ wsm) (mvT hZ wd) hy (mvT hZ wsel) (mvT hZ win) (backOf (W := W) hM hZ wc wi hf hl) qa qc (g := mkF m pc Ls (argsL.reverse ++ .ref b :: rest)) rfl hsize (Steps.refl _) (argsL := argsL) (rest := rest) hlen rfl (by show 2 * 0 + _ ≤ _; rw [Nat.mul_zero, Nat.zero_add]; exact hW) hd (fun _ _ => ⟨ha, eT, hc, hs⟩)
  dsimp only [Pt.U, Pt.locs, Pt.cells, Pt.slots] at X' l1 y1 z1 st hQ
  subst l1 y1 z1
  exact own_go (fun t q => st.trans q) (k v T' Lc X' hQ)
theorem own_callI (X : Stand p l e R s m args below meth c T locs cells slots) (hx : p.tables.exec = Jvm.exec) (hZ : Z.Warmed39 s.vm) {own : String} {index : Nat} {y : MethodName} {bytes : ByteArray} {maxL : Nat} {rm : Room} {as' : Array Value} {Qc : Option Value → Heap → List Loc → Prop} (hy1 : y.name = "<init>")
    (hown : s.vm.findClass own = some m.cls) (wl : (Cond.methodLink own index y).before a0 Z = true) (win : (Cond.instanceMethod y).before a0 Z = true) (wc : (Cond.code y bytes maxL none).before a0 Z = true) (wi : (Cond.initialized y.cls).before a0 Z = true)
    (hy : y.cls ≠ "java/lang/invoke/MethodHandle" ∧ y.cls ≠ "java/lang/invoke/VarHandle")
    (hM : MetFree l y (head1 [Cond.code y bytes maxL none] rm) (fun a U => a = as' ∧ Z.Warmed39 U.vm ∧ U.heap = h) (fun _ _ _ _ _ => True) (fun _ U o U' => ∃ v L, o = .returned v ∧ Qc v U'.heap L ∧ FrameEnd U o U' L rm.cells rm.slots))
    (eT : T.heap = h) {b : Addr} {pc : Nat} {Ls : Array Slot} (hsize : Ls.size = c.maxLocals) {argsL rest stk : List Value} (hst : stk = argsL.reverse ++ .ref b :: rest) (ha : (.ref b :: argsL).toArray = as') (hlen : ∀ sig, parseMethodDescriptor y.desc = some sig → argsL.length = sig.parameters.length) {W : Nat} (hW : (rest.map fun v => v.category).sum ≤ W)
    (hf : rm.frames + 1 ≤ R.frames) (hl : W + (maxL + 11) + rm.locals ≤ R.locals) (hd : decode c.code pc = .ok (.invokespecial index, 3)) (hc : cells + rm.cells ≤ R.cells) (hs : slots + rm.slots ≤ R.slots)
    (k : ∀ (v : Option Value) (T' : State) (L : List Loc), Stand p l e R s m args below meth c T' (locs ++ L) (cells + rm.cells) (slots + rm.slots) → Qc v T'.heap L → Go p e below End Q T' (mkF m (pc + 3) Ls (v.toList ++ rest))) :
    Go p e below End Q T (mkF m pc Ls stk) := by
  subst hst
  obtain ⟨v, _, ⟨T', L', k', n'⟩, -, X', ⟨Lc, hQ, l1, y1, z1⟩, st⟩ := X.specialBack hx (y := y) hy1 hown (mvT hZ wl) (mvT hZ win) (mvT hZ wc) hy (backOf (W := W) hM hZ wc wi hf hl) (g := mkF m pc Ls (argsL.reverse ++ .ref b :: rest)) rfl hsize (Steps.refl _) (a := b) (argsL := argsL) (rest := rest) hlen rfl (by show 2 * 0 + _ ≤ _; rw [Nat.mul_zero, Nat.zero_add]; exact hW) hd (fun _ _ => ⟨ha, eT, hc, hs⟩)
  dsimp only [Pt.U, Pt.locs, Pt.cells, Pt.slots] at X' l1 y1 z1 st hQ
  subst l1 y1 z1
  exact own_go (fun t q => st.trans q) (k v T' Lc X' hQ)
theorem own_eqI {ar : Array Value} {t : Term} {k : Int32} (hx : (Cond.eq t (.int k)).value ar Z none Z [] = some true) : t.eval ar Z none [] Z = some (.int k) := by
  obtain ⟨x, y, e1, e2, k1, -⟩ := cmp_v (Or.inl hx)
  have e3 : y = .int k := Option.some.inj (e2.symm.trans (Term.int_eval k))
  subst e3
  cases x with
  | int z =>
    have := gotT (Cond.eq_ints e1 e2) hx
    subst this
    exact e1
  | _ => simp [Kin, Value.isRef] at k1
theorem own_fld {ar : Array Value} {t : Term} {w : Addr} {O n d : String} {k : Int32} (ev : t.eval ar Z none [] Z = some (.ref w)) (hx : (Cond.eq (.field t O n d) (.int k)).value ar Z none Z [] = some true) : Fld Z Z.heap w O n d (.int k) :=
  Fld.start ((fld_at (C := O) (n := n) (dd := d) ev).symm.trans (own_eqI hx))
theorem own_len {ar : Array Value} {t : Term} {a : Addr} {cl : Cell} {k : Int32} {n : Nat} (ev : t.eval ar Z none [] Z = some (.ref a)) (hat : Z.arrayAt? a = some cl) (hL : (Cond.eq (.length t) (.int k)).value ar Z none Z [] = some true) (hk : k.toInt = n) : cl.slots.size = n ∧ cl.slots.size < 2 ^ 31 := by
  by_cases hs : cl.slots.size < 2 ^ 31
  · have e1 := len_f (t := t) ev hat hs
    have e2 := own_eqI hL
    have e3 : cl.slots.size.toInt32 = k := Value.int.inj (Option.some.inj (e1.symm.trans e2))
    have e4 := len_toInt hs
    rw [e3, hk] at e4
    exact ⟨by omega, hs⟩
  · have e2 := own_eqI hL
    simp [Term.eval, ev, hat, hs] at e2
theorem own_ne_fld {a b : Addr} {Cn n d : String} {v w : Value} (F : Fld Z h a Cn n d v) (G : Fld Z h b Cn n d w) (hn : v ≠ w) : ¬ a = b := by
  rintro rfl
  obtain ⟨c1, cf1, k1, i1, f1, h1, h2, -, -, -, -, h7⟩ := F
  obtain ⟨c2, cf2, k2, i2, f2, g1, g2, -, -, -, -, g7⟩ := G
  cases h1.symm.trans g1
  cases h2.symm.trans g2
  cases h7.symm.trans g7
  exact hn rfl
theorem own_sta_keep {h h' : Heap} {ws : List Addr} {Cn n d : String} {v : Value} (F : Sta Z h Cn n d v) (K : Keep h h' ws) (hws : ∀ a ∈ ws, ∃ C', Exa Z h a C') : Sta Z h' Cn n d v := by
  obtain ⟨cf, i, k, f, st, cell, h1, h2, h3, h4, h5, h6, h7⟩ := F
  refine ⟨cf, i, k, f, st, cell, h1, h2, h3, h4, K.2.1 st cell h5 (fun q => ?_), h6, h7⟩
  obtain ⟨C', cell', k', e1, -, -, e4, -⟩ := hws st q
  cases h5.symm.trans e1
  rw [h6] at e4; cases e4
/-- the class named c has no superclass named K (itself neither) -/
def OwnNsub (Z : State) (c K : String) : Prop := ∀ (ci ki : ClassId), Z.vm.findClass c = some ci → Z.vm.findClass K = some ki → ∀ fuel, Z.vm.isSubclassAux fuel ci ki = false
theorem own_id_ne {c K : String} {ci ki : ClassId} (h1 : Z.vm.findClass c = some ci) (h2 : Z.vm.findClass K = some ki) (hn : c ≠ K) : (ci == ki) = false := by
  rw [beq_eq_false_iff_ne]
  rintro rfl
  obtain ⟨k1, a1, b1⟩ := Vm.findClass_spec h1
  obtain ⟨k2, a2, b2⟩ := Vm.findClass_spec h2
  cases a1.symm.trans a2
  exact hn (b1.symm.trans b2)
theorem own_nsub_root {c K : String} (w : (Cond.noSuperclass c).before a0 Z = true) (hn : c ≠ K) : OwnNsub Z c K := by
  intro ci ki h1 h2 fuel
  cases fuel with
  | zero => rfl
  | succ n =>
    obtain ⟨k1, a1, b1⟩ := Vm.findClass_spec h1
    have hs := Cond.noSuperclass_root w ci k1 h1 a1
    simp [Vm.isSubclassAux, own_id_ne h1 h2 hn, a1, hs]
theorem own_nsub_up {c d K : String} (w : (Cond.superclass c d).before a0 Z = true) (hn : c ≠ K) (N : OwnNsub Z d K) : OwnNsub Z c K := by
  intro ci ki h1 h2 fuel
  cases fuel with
  | zero => rfl
  | succ n =>
    obtain ⟨pi, k, kp, g1, g2, g3, g4, -⟩ := Cond.superclass_spec h1 w
    simp [Vm.isSubclassAux, own_id_ne h1 h2 hn, g2, g4, N pi ki g1 h2 n]
theorem own_nins {a : Addr} {c d K : String} {kk : Nat} (E : Exa Z h a c) (wi : (Cond.instantiable K kk).before a0 Z = true) (wsup : (Cond.superclass c d).before a0 Z = true) (hn : c ≠ K) (N : OwnNsub Z c K) : Ins Z h a K false := by
  obtain ⟨cell, k, h1, h2, h3, h4, -⟩ := E
  obtain ⟨ki, kt, i1, i2, i3, i4, -⟩ := Cond.instantiable_spec wi
  obtain ⟨pi, k', kp, g1, g2, g3, g4, g5, -⟩ := Cond.superclass_spec h2 wsup
  cases h3.symm.trans g2
  refine ⟨cell, ki, h1, i1, ?_⟩
  have hif : kt.isInterface = false := by simp only [Bool.or_eq_false_iff] at i4; exact i4.1
  simp [h4, Vm.assignable, Vm.assignableAux, own_id_ne h2 i1 hn, h3, i2, g5, i3, hif, Vm.isSubclass, N cell.cls ki h2 i1]
end OwnGo
theorem own_int {i j : Int32} (h : i.toInt = j.toInt) : i = j := Int32.toInt_inj.mp h
theorem own_and3 (x : Int32) : (x &&& (3 : Int32)) = 0 ∨ (x &&& (3 : Int32)) = 1 ∨ (x &&& (3 : Int32)) = 2 ∨ (x &&& (3 : Int32)) = 3 := by
  have h := c_and x (3 : Int32) (by decide)
  have h3 : (3 : Int32).toInt = 3 := by decide
  rw [h3] at h
  generalize (x &&& (3 : Int32)) = i at h
  have q : i.toInt = 0 ∨ i.toInt = 1 ∨ i.toInt = 2 ∨ i.toInt = 3 := by omega
  rcases q with q | q | q | q
  · exact Or.inl (own_int q)
  · exact Or.inr (Or.inl (own_int q))
  · exact Or.inr (Or.inr (Or.inl (own_int q)))
  · exact Or.inr (Or.inr (Or.inr (own_int q)))
theorem own_and1 (x : Int32) : (x &&& (1 : Int32)) = 0 ∨ (x &&& (1 : Int32)) = 1 := by
  have h := c_and x (1 : Int32) (by decide)
  have h3 : (1 : Int32).toInt = 1 := by decide
  rw [h3] at h
  generalize (x &&& (1 : Int32)) = i at h
  have q : i.toInt = 0 ∨ i.toInt = 1 := by omega
  rcases q with q | q
  · exact Or.inl (own_int q)
  · exact Or.inr (own_int q)
theorem own_rem6 (x : Int32) : ((x &&& (2147483647 : Int32)) % (6 : Int32)) = 0 ∨ ((x &&& (2147483647 : Int32)) % (6 : Int32)) = 1 ∨ ((x &&& (2147483647 : Int32)) % (6 : Int32)) = 2 ∨ ((x &&& (2147483647 : Int32)) % (6 : Int32)) = 3 ∨ ((x &&& (2147483647 : Int32)) % (6 : Int32)) = 4 ∨ ((x &&& (2147483647 : Int32)) % (6 : Int32)) = 5 := by
  have h := (c_and x (2147483647 : Int32) (by decide)).1
  generalize (x &&& (2147483647 : Int32)) = y at h
  have h2 := (c_irem y (6 : Int32) 6 (by decide)).1 h
  generalize (y % (6 : Int32)) = i at h2
  have q : i.toInt = 0 ∨ i.toInt = 1 ∨ i.toInt = 2 ∨ i.toInt = 3 ∨ i.toInt = 4 ∨ i.toInt = 5 := by omega
  rcases q with q | q | q | q | q | q
  · exact Or.inl (own_int q)
  · exact Or.inr (Or.inl (own_int q))
  · exact Or.inr (Or.inr (Or.inl (own_int q)))
  · exact Or.inr (Or.inr (Or.inr (Or.inl (own_int q))))
  · exact Or.inr (Or.inr (Or.inr (Or.inr (Or.inl (own_int q)))))
  · exact Or.inr (Or.inr (Or.inr (Or.inr (Or.inr (own_int q)))))
theorem own_rem5 (x : Int32) : ((x &&& (2147483647 : Int32)) % (5 : Int32)) = 0 ∨ ((x &&& (2147483647 : Int32)) % (5 : Int32)) = 1 ∨ ((x &&& (2147483647 : Int32)) % (5 : Int32)) = 2 ∨ ((x &&& (2147483647 : Int32)) % (5 : Int32)) = 3 ∨ ((x &&& (2147483647 : Int32)) % (5 : Int32)) = 4 := by
  have h := (c_and x (2147483647 : Int32) (by decide)).1
  generalize (x &&& (2147483647 : Int32)) = y at h
  have h2 := (c_irem y (5 : Int32) 5 (by decide)).1 h
  generalize (y % (5 : Int32)) = i at h2
  have q : i.toInt = 0 ∨ i.toInt = 1 ∨ i.toInt = 2 ∨ i.toInt = 3 ∨ i.toInt = 4 := by omega
  rcases q with q | q | q | q | q
  · exact Or.inl (own_int q)
  · exact Or.inr (Or.inl (own_int q))
  · exact Or.inr (Or.inr (Or.inl (own_int q)))
  · exact Or.inr (Or.inr (Or.inr (Or.inl (own_int q))))
  · exact Or.inr (Or.inr (Or.inr (Or.inr (own_int q))))
theorem own_and2 (x : Int32) : (x &&& (2 : Int32)) = 0 ∨ (x &&& (2 : Int32)) = 2 := by
  have h : (x &&& (2 : Int32)) = (x &&& (3 : Int32)) &&& (2 : Int32) := by rw [Int32.and_assoc]; rfl
  rw [h]
  rcases own_and3 x with q | q | q | q <;> rw [q] <;> decide

theorem own_low (x : Int32) (h : (x &&& (-256 : Int32)) = (0 : Int32)) : 0 ≤ x.toInt ∧ x.toInt < 256 := by
  have e : x = x &&& (255 : Int32) := by
    apply Int32.toBitVec_inj.mp
    have h' : x.toBitVec &&& (-256 : Int32).toBitVec = (0 : Int32).toBitVec := by rw [← Int32.toBitVec_and, h]
    rw [Int32.toBitVec_and]
    have k : (-256 : Int32).toBitVec = ~~~ (255 : Int32).toBitVec := by decide
    rw [k] at h'
    generalize (255 : Int32).toBitVec = w at h' ⊢
    apply BitVec.eq_of_getLsbD_eq
    intro i hi
    have q := congrArg (fun z => BitVec.getLsbD z i) h'
    simp only [BitVec.getLsbD_and, BitVec.getLsbD_not, hi, decide_true, Bool.true_and] at q ⊢
    have z : BitVec.getLsbD (0 : Int32).toBitVec i = false := by
      have : (0 : Int32).toBitVec = 0#32 := by decide
      rw [this, BitVec.getLsbD_zero]
    rw [z] at q
    cases hx : x.toBitVec.getLsbD i <;> cases hy : w.getLsbD i <;> simp [hx, hy] at q ⊢
  have m := c_mask x (255 : Int32) 8 (by decide) (by decide)
  rw [← e] at m
  have p : ((2 ^ 8 : Nat) : Int) = 256 := by decide
  rw [p] at m
  omega
theorem own_join (u v : Int32) (hu : 0 ≤ u.toInt ∧ u.toInt < 256) (hv : 0 ≤ v.toInt ∧ v.toInt < 256) : ((u <<< ((8 : Int32) &&& 31)) ||| v).toInt = u.toInt * 256 + v.toInt := by
  have a := c_ishl u (8 : Int32) 8 (by decide)
  have p : ((2 ^ 8 : Nat) : Int) = 256 := by decide
  rw [p] at a
  have b1 := Int32.le_toInt (u <<< ((8 : Int32) &&& 31))
  have b2 := Int32.toInt_lt (u <<< ((8 : Int32) &&& 31))
  have e : (u <<< ((8 : Int32) &&& 31)).toInt = u.toInt * 256 := by omega
  have o := c_or (u <<< ((8 : Int32) &&& 31)) v 8 (by decide) 256 (by decide) (by rw [e]; omega) hv.1 hv.2
  have b3 := Int32.le_toInt ((u <<< ((8 : Int32) &&& 31)) ||| v)
  have b4 := Int32.toInt_lt ((u <<< ((8 : Int32) &&& 31)) ||| v)
  rw [e] at o
  omega
theorem own_bom (u v : Int32) : (u = 254 ∧ v = 255) ∨ (u = 255 ∧ v = 254) ∨ (u = (254 : Int32) ∧ ¬ u = (255 : Int32) ∧ ¬ v = (255 : Int32) ∧ ((u &&& (-256 : Int32)) = (0 : Int32) → (v &&& (-256 : Int32)) = (0 : Int32) → ¬ ((u <<< ((8 : Int32) &&& 31)) ||| v) = (65279 : Int32) ∧ ¬ ((v <<< ((8 : Int32) &&& 31)) ||| u) = (65279 : Int32)))
    ∨ (u = (255 : Int32) ∧ ¬ u = (254 : Int32) ∧ ¬ v = (254 : Int32) ∧ ((u &&& (-256 : Int32)) = (0 : Int32) → (v &&& (-256 : Int32)) = (0 : Int32) → ¬ ((u <<< ((8 : Int32) &&& 31)) ||| v) = (65279 : Int32) ∧ ¬ ((v <<< ((8 : Int32) &&& 31)) ||| u) = (65279 : Int32)))
    ∨ (¬ u = (254 : Int32) ∧ ¬ u = (255 : Int32) ∧ ((u &&& (-256 : Int32)) = (0 : Int32) → (v &&& (-256 : Int32)) = (0 : Int32) → ¬ ((u <<< ((8 : Int32) &&& 31)) ||| v) = (65279 : Int32) ∧ ¬ ((v <<< ((8 : Int32) &&& 31)) ||| u) = (65279 : Int32))) := by
  have N : ¬ (u = 254 ∧ v = 255) → ¬ (u = 255 ∧ v = 254) → ((u &&& (-256 : Int32)) = (0 : Int32) → (v &&& (-256 : Int32)) = (0 : Int32) → ¬ ((u <<< ((8 : Int32) &&& 31)) ||| v) = (65279 : Int32) ∧ ¬ ((v <<< ((8 : Int32) &&& 31)) ||| u) = (65279 : Int32)) := by
    intro n1 n2 h1 h2
    have a := own_low u h1
    have b := own_low v h2
    have k : (65279 : Int32).toInt = 65279 := by decide
    have k1 : (254 : Int32).toInt = 254 := by decide
    have k2 : (255 : Int32).toInt = 255 := by decide
    rw [← Int32.toInt_inj, ← Int32.toInt_inj, k1, k2] at n1
    rw [← Int32.toInt_inj, ← Int32.toInt_inj, k1, k2] at n2
    constructor
    · intro q
      have q' := congrArg Int32.toInt q
      rw [own_join u v a b, k] at q'
      omega
    · intro q
      have q' := congrArg Int32.toInt q
      rw [own_join v u b a, k] at q'
      omega
  by_cases h1 : u = 254
  · by_cases h2 : v = 255
    · exact Or.inl ⟨h1, h2⟩
    · have h3 : ¬ u = 255 := by rw [h1]; decide
      exact Or.inr (Or.inr (Or.inl ⟨h1, h3, h2, N (fun q => h2 q.2) (fun q => h3 q.1)⟩))
  · by_cases h3 : u = 255
    · by_cases h2 : v = 254
      · exact Or.inr (Or.inl ⟨h3, h2⟩)
      · exact Or.inr (Or.inr (Or.inr (Or.inl ⟨h3, h1, h2, N (fun q => h1 q.1) (fun q => h2 q.2)⟩)))
    · exact Or.inr (Or.inr (Or.inr (Or.inr ⟨h1, h3, N (fun q => h1 q.1) (fun q => h3 q.1)⟩)))

theorem d_method_2_0 : Jvm.ClassFile.decode method_2_code 0 = .ok (.iload_n 1, 1) := by decide +kernel
theorem d_method_2_1 : Jvm.ClassFile.decode method_2_code 1 = .ok (.iconst 3, 1) := by decide +kernel
theorem d_method_2_2 : Jvm.ClassFile.decode method_2_code 2 = .ok (.iand, 1) := by decide +kernel
theorem d_method_2_3 : Jvm.ClassFile.decode method_2_code 3 = .ok (.istore_n 2, 1) := by decide +kernel
theorem d_method_2_4 : Jvm.ClassFile.decode method_2_code 4 = .ok (.iload_n 2, 1) := by decide +kernel
theorem d_method_2_5 : Jvm.ClassFile.decode method_2_code 5 = .ok (.ifCond .ne 5, 3) := by decide +kernel
theorem d_method_2_10 : Jvm.ClassFile.decode method_2_code 10 = .ok (.iload_n 2, 1) := by decide +kernel
theorem d_method_2_11 : Jvm.ClassFile.decode method_2_code 11 = .ok (.iconst 1, 1) := by decide +kernel
theorem d_method_2_12 : Jvm.ClassFile.decode method_2_code 12 = .ok (.if_icmp .ne 9, 3) := by decide +kernel
theorem d_method_2_21 : Jvm.ClassFile.decode method_2_code 21 = .ok (.iload_n 2, 1) := by decide +kernel
theorem d_method_2_22 : Jvm.ClassFile.decode method_2_code 22 = .ok (.iconst 2, 1) := by decide +kernel
theorem d_method_2_23 : Jvm.ClassFile.decode method_2_code 23 = .ok (.if_icmp .ne 7, 3) := by decide +kernel
theorem d_method_2_30 : Jvm.ClassFile.decode method_2_code 30 = .ok (.sipush 255, 3) := by decide +kernel
theorem d_method_2_33 : Jvm.ClassFile.decode method_2_code 33 = .ok (.ireturn, 1) := by decide +kernel
theorem d_method_2_26 : Jvm.ClassFile.decode method_2_code 26 = .ok (.sipush 254, 3) := by decide +kernel
theorem d_method_2_29 : Jvm.ClassFile.decode method_2_code 29 = .ok (.ireturn, 1) := by decide +kernel
theorem d_method_2_15 : Jvm.ClassFile.decode method_2_code 15 = .ok (.iload_n 0, 1) := by decide +kernel
theorem d_method_2_16 : Jvm.ClassFile.decode method_2_code 16 = .ok (.sipush 511, 3) := by decide +kernel
theorem d_method_2_19 : Jvm.ClassFile.decode method_2_code 19 = .ok (.iand, 1) := by decide +kernel
theorem d_method_2_20 : Jvm.ClassFile.decode method_2_code 20 = .ok (.ireturn, 1) := by decide +kernel
theorem d_method_2_8 : Jvm.ClassFile.decode method_2_code 8 = .ok (.iload_n 0, 1) := by decide +kernel
theorem d_method_2_9 : Jvm.ClassFile.decode method_2_code 9 = .ok (.ireturn, 1) := by decide +kernel
def own_f_rm1 (p1 : Int32) (p2 : Int32) : Int32 := (if (p2 &&& (3 : Int32)) = (0 : Int32) then p1 else (if (p2 &&& (3 : Int32)) = (1 : Int32) then (p1 &&& (511 : Int32)) else (if (p2 &&& (3 : Int32)) = (2 : Int32) then (254 : Int32) else (255 : Int32))))
theorem own_pn0 : plainName "com/example/pair16/pair16/ByteOrderMarkOrderOfPinLaw" = true := by first | (simp [plainName, overriddenIn]; done) | decide +kernel
theorem own_ef_rm1 (m : MethodId) (x0 : Int32) (x1 : Int32) : entryFrame m #[(.int x0), (.int x1)] 3 = mkF m 0 #[.val (.int x0), .val (.int x1), .unset] [] := by first | (simp [entryFrame, mkF, argsToLocals, Value.category]; done) | rfl
set_option maxRecDepth 65536 in
set_option maxHeartbeats 40000000 in
theorem rm1 (l : Launch) (Z : State) (a0 : Array Value) (hw : ∀ d ∈ tables_1, d.before a0 Z = true) (ws : List Jvm.Cond) (p1 : Int32) (p2 : Int32) (r : Int32) (h0 : Heap) (n0 : Nat) (hn0 : n0 ≤ h0.size) (hr : own_f_rm1 p1 p2 = r) :
    OwnMet l Z (⟨"com/example/pair16/pair16/ByteOrderMarkOrderOfPinLaw", "choose", "(II)I"⟩ : MethodName) method_2_code 3 (some .int) ws ({ frames := 0, cells := 0, slots := 0, locals := 0 } : Room) #[(.int p1), (.int p2)] h0 (OwnP (some (.int r)) h0 n0) := by
  refine own_body (plainFor_of_name own_pn0) ?_
  intro p e s m below meth c s₁ X0 hx hby hml hret hlk hown0 hnm hZ e0 hs0
  have hown : s.vm.findClass "com/example/pair16/pair16/ByteOrderMarkOrderOfPinLaw" = some m.cls := hown0
  have N0 := Fr.nil n0
  refine own_entry (own_ef_rm1 m p1 p2) ?_
  show Go _ _ _ _ _ s₁ (mkF m 0 #[.val (.int p1), .val (.int p2), .unset] [])
  refine own_go (fun t k => XS.iloadN X0.here hx rfl (hb hby d_method_2_0) rfl k) ?_
  show Go _ _ _ _ _ s₁ (mkF m 1 #[.val (.int p1), .val (.int p2), .unset] [(.int p2)])
  refine own_go (fun t k => XS.iconst X0.here hx rfl (hb hby d_method_2_1) k) ?_
  show Go _ _ _ _ _ s₁ (mkF m 2 #[.val (.int p1), .val (.int p2), .unset] [(.int (3 : Int32)), (.int p2)])
  refine own_go (fun t k => XS.iand X0.here hx rfl (hb hby d_method_2_2) rfl k) ?_
  show Go _ _ _ _ _ s₁ (mkF m 3 #[.val (.int p1), .val (.int p2), .unset] [(.int (p2 &&& (3 : Int32)))])
  refine own_go (fun t k => XS.istoreN X0.here hx rfl (hb hby d_method_2_3) rfl (l' := #[.val (.int p1), .val (.int p2), .val (.int (p2 &&& (3 : Int32)))]) rfl k) ?_
  show Go _ _ _ _ _ s₁ (mkF m 4 #[.val (.int p1), .val (.int p2), .val (.int (p2 &&& (3 : Int32)))] [])
  refine own_go (fun t k => XS.iloadN X0.here hx rfl (hb hby d_method_2_4) rfl k) ?_
  show Go _ _ _ _ _ s₁ (mkF m 5 #[.val (.int p1), .val (.int p2), .val (.int (p2 &&& (3 : Int32)))] [(.int (p2 &&& (3 : Int32)))])
  refine own_ifM ((p2 &&& (3 : Int32)) = (0 : Int32)) X0 hx (hb hby d_method_2_5) (own_ne _ _) (by decide) (by decide) (pc' := 10) (fun hc4 => ?_) (fun hc4 => ?_)
  · skip
    show Go _ _ _ _ _ s₁ (mkF m 10 #[.val (.int p1), .val (.int p2), .val (.int (p2 &&& (3 : Int32)))] [])
    refine own_go (fun t k => XS.iloadN X0.here hx rfl (hb hby d_method_2_10) rfl k) ?_
    show Go _ _ _ _ _ s₁ (mkF m 11 #[.val (.int p1), .val (.int p2), .val (.int (p2 &&& (3 : Int32)))] [(.int (p2 &&& (3 : Int32)))])
    refine own_go (fun t k => XS.iconst X0.here hx rfl (hb hby d_method_2_11) k) ?_
    show Go _ _ _ _ _ s₁ (mkF m 12 #[.val (.int p1), .val (.int p2), .val (.int (p2 &&& (3 : Int32)))] [(.int (1 : Int32)), (.int (p2 &&& (3 : Int32)))])
    refine own_icmpM ((p2 &&& (3 : Int32)) = (1 : Int32)) X0 hx (hb hby d_method_2_12) (own_ne _ _) (by decide) (by decide) (pc' := 21) (fun hc5 => ?_) (fun hc5 => ?_)
    · skip
      show Go _ _ _ _ _ s₁ (mkF m 21 #[.val (.int p1), .val (.int p2), .val (.int (p2 &&& (3 : Int32)))] [])
      refine own_go (fun t k => XS.iloadN X0.here hx rfl (hb hby d_method_2_21) rfl k) ?_
      show Go _ _ _ _ _ s₁ (mkF m 22 #[.val (.int p1), .val (.int p2), .val (.int (p2 &&& (3 : Int32)))] [(.int (p2 &&& (3 : Int32)))])
      refine own_go (fun t k => XS.iconst X0.here hx rfl (hb hby d_method_2_22) k) ?_
      show Go _ _ _ _ _ s₁ (mkF m 23 #[.val (.int p1), .val (.int p2), .val (.int (p2 &&& (3 : Int32)))] [(.int (2 : Int32)), (.int (p2 &&& (3 : Int32)))])
      refine own_icmpM ((p2 &&& (3 : Int32)) = (2 : Int32)) X0 hx (hb hby d_method_2_23) (own_ne _ _) (by decide) (by decide) (pc' := 30) (fun hc6 => ?_) (fun hc6 => ?_)
      · skip
        show Go _ _ _ _ _ s₁ (mkF m 30 #[.val (.int p1), .val (.int p2), .val (.int (p2 &&& (3 : Int32)))] [])
        refine own_go (fun t k => XS.sipush X0.here hx rfl (hb hby d_method_2_30) k) ?_
        show Go _ _ _ _ _ s₁ (mkF m 33 #[.val (.int p1), .val (.int p2), .val (.int (p2 &&& (3 : Int32)))] [(.int (255 : Int32))])
        refine own_retI X0 hx (own_lvN X0 hlk (by decide) (by decide)) hret (hb hby d_method_2_33) ?_
        exact ⟨(by rw [← hr, own_f_rm1, if_neg hc4, if_neg hc5, if_neg hc6]; try rfl), N0, e0⟩
      · skip
        show Go _ _ _ _ _ s₁ (mkF m 26 #[.val (.int p1), .val (.int p2), .val (.int (p2 &&& (3 : Int32)))] [])
        refine own_go (fun t k => XS.sipush X0.here hx rfl (hb hby d_method_2_26) k) ?_
        show Go _ _ _ _ _ s₁ (mkF m 29 #[.val (.int p1), .val (.int p2), .val (.int (p2 &&& (3 : Int32)))] [(.int (254 : Int32))])
        refine own_retI X0 hx (own_lvN X0 hlk (by decide) (by decide)) hret (hb hby d_method_2_29) ?_
        exact ⟨(by rw [← hr, own_f_rm1, if_neg hc4, if_neg hc5, if_pos hc6]; try rfl), N0, e0⟩
    · skip
      show Go _ _ _ _ _ s₁ (mkF m 15 #[.val (.int p1), .val (.int p2), .val (.int (p2 &&& (3 : Int32)))] [])
      refine own_go (fun t k => XS.iloadN X0.here hx rfl (hb hby d_method_2_15) rfl k) ?_
      show Go _ _ _ _ _ s₁ (mkF m 16 #[.val (.int p1), .val (.int p2), .val (.int (p2 &&& (3 : Int32)))] [(.int p1)])
      refine own_go (fun t k => XS.sipush X0.here hx rfl (hb hby d_method_2_16) k) ?_
      show Go _ _ _ _ _ s₁ (mkF m 19 #[.val (.int p1), .val (.int p2), .val (.int (p2 &&& (3 : Int32)))] [(.int (511 : Int32)), (.int p1)])
      refine own_go (fun t k => XS.iand X0.here hx rfl (hb hby d_method_2_19) rfl k) ?_
      show Go _ _ _ _ _ s₁ (mkF m 20 #[.val (.int p1), .val (.int p2), .val (.int (p2 &&& (3 : Int32)))] [(.int (p1 &&& (511 : Int32)))])
      refine own_retI X0 hx (own_lvN X0 hlk (by decide) (by decide)) hret (hb hby d_method_2_20) ?_
      exact ⟨(by rw [← hr, own_f_rm1, if_neg hc4, if_pos hc5]; try rfl), N0, e0⟩
  · skip
    show Go _ _ _ _ _ s₁ (mkF m 8 #[.val (.int p1), .val (.int p2), .val (.int (p2 &&& (3 : Int32)))] [])
    refine own_go (fun t k => XS.iloadN X0.here hx rfl (hb hby d_method_2_8) rfl k) ?_
    show Go _ _ _ _ _ s₁ (mkF m 9 #[.val (.int p1), .val (.int p2), .val (.int (p2 &&& (3 : Int32)))] [(.int p1)])
    refine own_retI X0 hx (own_lvN X0 hlk (by decide) (by decide)) hret (hb hby d_method_2_9) ?_
    exact ⟨(by rw [← hr, own_f_rm1, if_pos hc4]; try rfl), N0, e0⟩
theorem d_prog_6_method_2_0 : Jvm.ClassFile.decode prog_6_method_2_code 0 = .ok (.iload_n 0, 1) := by decide +kernel
theorem d_prog_6_method_2_1 : Jvm.ClassFile.decode prog_6_method_2_code 1 = .ok (.sipush 254, 3) := by decide +kernel
theorem d_prog_6_method_2_4 : Jvm.ClassFile.decode prog_6_method_2_code 4 = .ok (.if_icmp .ne 17, 3) := by decide +kernel
theorem d_prog_6_method_2_21 : Jvm.ClassFile.decode prog_6_method_2_code 21 = .ok (.iload_n 0, 1) := by decide +kernel
theorem d_prog_6_method_2_22 : Jvm.ClassFile.decode prog_6_method_2_code 22 = .ok (.sipush 255, 3) := by decide +kernel
theorem d_prog_6_method_2_25 : Jvm.ClassFile.decode prog_6_method_2_code 25 = .ok (.if_icmp .ne 17, 3) := by decide +kernel
theorem d_prog_6_method_2_42 : Jvm.ClassFile.decode prog_6_method_2_code 42 = .ok (.aconst_null, 1) := by decide +kernel
theorem d_prog_6_method_2_43 : Jvm.ClassFile.decode prog_6_method_2_code 43 = .ok (.astore_n 2, 1) := by decide +kernel
theorem d_prog_6_method_2_44 : Jvm.ClassFile.decode prog_6_method_2_code 44 = .ok (.aload_n 2, 1) := by decide +kernel
theorem d_prog_6_method_2_45 : Jvm.ClassFile.decode prog_6_method_2_code 45 = .ok (.areturn, 1) := by decide +kernel
theorem d_prog_6_method_2_28 : Jvm.ClassFile.decode prog_6_method_2_code 28 = .ok (.iload_n 1, 1) := by decide +kernel
theorem d_prog_6_method_2_29 : Jvm.ClassFile.decode prog_6_method_2_code 29 = .ok (.sipush 254, 3) := by decide +kernel
theorem d_prog_6_method_2_32 : Jvm.ClassFile.decode prog_6_method_2_code 32 = .ok (.if_icmp .ne 10, 3) := by decide +kernel
theorem d_prog_6_method_2_35 : Jvm.ClassFile.decode prog_6_method_2_code 35 = .ok (.getstatic 13, 3) := by decide +kernel
theorem d_prog_6_method_2_38 : Jvm.ClassFile.decode prog_6_method_2_code 38 = .ok (.astore_n 2, 1) := by decide +kernel
theorem d_prog_6_method_2_39 : Jvm.ClassFile.decode prog_6_method_2_code 39 = .ok (.goto 5, 3) := by decide +kernel
theorem d_prog_6_method_2_7 : Jvm.ClassFile.decode prog_6_method_2_code 7 = .ok (.iload_n 1, 1) := by decide +kernel
theorem d_prog_6_method_2_8 : Jvm.ClassFile.decode prog_6_method_2_code 8 = .ok (.sipush 255, 3) := by decide +kernel
theorem d_prog_6_method_2_11 : Jvm.ClassFile.decode prog_6_method_2_code 11 = .ok (.if_icmp .ne 10, 3) := by decide +kernel
theorem d_prog_6_method_2_14 : Jvm.ClassFile.decode prog_6_method_2_code 14 = .ok (.getstatic 7, 3) := by decide +kernel
theorem d_prog_6_method_2_17 : Jvm.ClassFile.decode prog_6_method_2_code 17 = .ok (.astore_n 2, 1) := by decide +kernel
theorem d_prog_6_method_2_18 : Jvm.ClassFile.decode prog_6_method_2_code 18 = .ok (.goto 26, 3) := by decide +kernel
def own_f_rm2 (p1 : Int32) (p2 : Int32) (w_BIG_ENDIAN : Addr) (w_LITTLE_ENDIAN : Addr) : Value := (if p1 = (254 : Int32) then (if p2 = (255 : Int32) then (.ref w_BIG_ENDIAN : Value) else (if p1 = (255 : Int32) then (if p2 = (254 : Int32) then (.ref w_LITTLE_ENDIAN : Value) else (.null : Value)) else (.null : Value))) else (if p1 = (255 : Int32) then (if p2 = (254 : Int32) then (.ref w_LITTLE_ENDIAN : Value) else (.null : Value)) else (.null : Value)))
theorem own_pn1 : plainName "com/example/pair16/pair16/ByteOrderMark" = true := by first | (simp [plainName, overriddenIn]; done) | decide +kernel
theorem own_ef_rm2 (m : MethodId) (x0 : Int32) (x1 : Int32) : entryFrame m #[(.int x0), (.int x1)] 3 = mkF m 0 #[.val (.int x0), .val (.int x1), .unset] [] := by first | (simp [entryFrame, mkF, argsToLocals, Value.category]; done) | rfl
set_option maxRecDepth 65536 in
set_option maxHeartbeats 40000000 in
theorem rm2 (l : Launch) (Z : State) (a0 : Array Value) (hw : ∀ d ∈ tables_1, d.before a0 Z = true) (ws : List Jvm.Cond) (p1 : Int32) (p2 : Int32) (w_BIG_ENDIAN : Addr) (w_LITTLE_ENDIAN : Addr) (r : Value) (h0 : Heap) (n0 : Nat) (hn0 : n0 ≤ h0.size) (S_BIG_ENDIAN : Sta Z h0 "java/nio/ByteOrder" "BIG_ENDIAN" "Ljava/nio/ByteOrder;" (.ref w_BIG_ENDIAN)) (S_LITTLE_ENDIAN : Sta Z h0 "java/nio/ByteOrder" "LITTLE_ENDIAN" "Ljava/nio/ByteOrder;" (.ref w_LITTLE_ENDIAN)) (hr : own_f_rm2 p1 p2 w_BIG_ENDIAN w_LITTLE_ENDIAN = r) :
    OwnMet l Z (⟨"com/example/pair16/pair16/ByteOrderMark", "orderOf", "(II)Ljava/nio/ByteOrder;"⟩ : MethodName) prog_6_method_2_code 3 (some (.object "java/nio/ByteOrder")) ws ({ frames := 0, cells := 0, slots := 0, locals := 0 } : Room) #[(.int p1), (.int p2)] h0 (OwnP (some r) h0 n0) := by
  refine own_body (plainFor_of_name own_pn1) ?_
  intro p e s m below meth c s₁ X0 hx hby hml hret hlk hown0 hnm hZ e0 hs0
  have hown : s.vm.findClass "com/example/pair16/pair16/ByteOrderMark" = some m.cls := hown0
  have N0 := Fr.nil n0
  refine own_entry (own_ef_rm2 m p1 p2) ?_
  show Go _ _ _ _ _ s₁ (mkF m 0 #[.val (.int p1), .val (.int p2), .unset] [])
  refine own_go (fun t k => XS.iloadN X0.here hx rfl (hb hby d_prog_6_method_2_0) rfl k) ?_
  show Go _ _ _ _ _ s₁ (mkF m 1 #[.val (.int p1), .val (.int p2), .unset] [(.int p1)])
  refine own_go (fun t k => XS.sipush X0.here hx rfl (hb hby d_prog_6_method_2_1) k) ?_
  show Go _ _ _ _ _ s₁ (mkF m 4 #[.val (.int p1), .val (.int p2), .unset] [(.int (254 : Int32)), (.int p1)])
  refine own_icmpM (p1 = (254 : Int32)) X0 hx (hb hby d_prog_6_method_2_4) (own_ne _ _) (by decide) (by decide) (pc' := 21) (fun hc16 => ?_) (fun hc16 => ?_)
  · skip
    show Go _ _ _ _ _ s₁ (mkF m 21 #[.val (.int p1), .val (.int p2), .unset] [])
    refine own_go (fun t k => XS.iloadN X0.here hx rfl (hb hby d_prog_6_method_2_21) rfl k) ?_
    show Go _ _ _ _ _ s₁ (mkF m 22 #[.val (.int p1), .val (.int p2), .unset] [(.int p1)])
    refine own_go (fun t k => XS.sipush X0.here hx rfl (hb hby d_prog_6_method_2_22) k) ?_
    show Go _ _ _ _ _ s₁ (mkF m 25 #[.val (.int p1), .val (.int p2), .unset] [(.int (255 : Int32)), (.int p1)])
    refine own_icmpM (p1 = (255 : Int32)) X0 hx (hb hby d_prog_6_method_2_25) (own_ne _ _) (by decide) (by decide) (pc' := 42) (fun hc17 => ?_) (fun hc17 => ?_)
    · skip
      show Go _ _ _ _ _ s₁ (mkF m 42 #[.val (.int p1), .val (.int p2), .unset] [])
      refine own_go (fun t k => XS.aconstNull X0.here hx rfl (hb hby d_prog_6_method_2_42) k) ?_
      show Go _ _ _ _ _ s₁ (mkF m 43 #[.val (.int p1), .val (.int p2), .unset] [.null])
      refine own_go (fun t k => XS.astoreN X0.here hx rfl (hb hby d_prog_6_method_2_43) rfl rfl (l' := #[.val (.int p1), .val (.int p2), .val .null]) rfl k) ?_
      show Go _ _ _ _ _ s₁ (mkF m 44 #[.val (.int p1), .val (.int p2), .val .null] [])
      refine own_go (fun t k => XS.aloadN X0.here hx rfl (hb hby d_prog_6_method_2_44) rfl rfl k) ?_
      show Go _ _ _ _ _ s₁ (mkF m 45 #[.val (.int p1), .val (.int p2), .val .null] [.null])
      refine own_retA X0 hx (own_lvN X0 hlk (by decide) (by decide)) hret rfl rfl (hb hby d_prog_6_method_2_45) ?_
      exact ⟨(by rw [← hr, own_f_rm2, if_neg hc16, if_neg hc17]; try rfl), N0, e0⟩
    · skip
      show Go _ _ _ _ _ s₁ (mkF m 28 #[.val (.int p1), .val (.int p2), .unset] [])
      refine own_go (fun t k => XS.iloadN X0.here hx rfl (hb hby d_prog_6_method_2_28) rfl k) ?_
      show Go _ _ _ _ _ s₁ (mkF m 29 #[.val (.int p1), .val (.int p2), .unset] [(.int p2)])
      refine own_go (fun t k => XS.sipush X0.here hx rfl (hb hby d_prog_6_method_2_29) k) ?_
      show Go _ _ _ _ _ s₁ (mkF m 32 #[.val (.int p1), .val (.int p2), .unset] [(.int (254 : Int32)), (.int p2)])
      refine own_icmpM (p2 = (254 : Int32)) X0 hx (hb hby d_prog_6_method_2_32) (own_ne _ _) (by decide) (by decide) (pc' := 42) (fun hc18 => ?_) (fun hc18 => ?_)
      · skip
        show Go _ _ _ _ _ s₁ (mkF m 42 #[.val (.int p1), .val (.int p2), .unset] [])
        refine own_go (fun t k => XS.aconstNull X0.here hx rfl (hb hby d_prog_6_method_2_42) k) ?_
        show Go _ _ _ _ _ s₁ (mkF m 43 #[.val (.int p1), .val (.int p2), .unset] [.null])
        refine own_go (fun t k => XS.astoreN X0.here hx rfl (hb hby d_prog_6_method_2_43) rfl rfl (l' := #[.val (.int p1), .val (.int p2), .val .null]) rfl k) ?_
        show Go _ _ _ _ _ s₁ (mkF m 44 #[.val (.int p1), .val (.int p2), .val .null] [])
        refine own_go (fun t k => XS.aloadN X0.here hx rfl (hb hby d_prog_6_method_2_44) rfl rfl k) ?_
        show Go _ _ _ _ _ s₁ (mkF m 45 #[.val (.int p1), .val (.int p2), .val .null] [.null])
        refine own_retA X0 hx (own_lvN X0 hlk (by decide) (by decide)) hret rfl rfl (hb hby d_prog_6_method_2_45) ?_
        exact ⟨(by rw [← hr, own_f_rm2, if_neg hc16, if_pos hc17, if_neg hc18]; try rfl), N0, e0⟩
      · skip
        show Go _ _ _ _ _ s₁ (mkF m 35 #[.val (.int p1), .val (.int p2), .unset] [])
        obtain ⟨T19, X19, e19, st19⟩ := getS2 X0 hx hZ hown (host := "") (Or.inl (hw _ (List.mem_of_getElem? (i := 12) rfl))) Via.refl e0 S_LITTLE_ENDIAN (g := (mkF m 35 #[.val (.int p1), .val (.int p2), .unset] [])) rfl (hb hby d_prog_6_method_2_35)
        refine own_go (fun t k => st19 t k) ?_
        show Go _ _ _ _ _ T19 (mkF m 38 #[.val (.int p1), .val (.int p2), .unset] [(.ref w_LITTLE_ENDIAN)])
        refine own_go (fun t k => XS.astoreN X19.here hx rfl (hb hby d_prog_6_method_2_38) rfl rfl (l' := #[.val (.int p1), .val (.int p2), .val (.ref w_LITTLE_ENDIAN)]) rfl k) ?_
        show Go _ _ _ _ _ T19 (mkF m 39 #[.val (.int p1), .val (.int p2), .val (.ref w_LITTLE_ENDIAN)] [])
        refine own_go (fun t k => XS.goto X19.here hx rfl (pc0 := 39) (pc' := 44) rfl (hb hby d_prog_6_method_2_39) (by decide) (by decide) k) ?_
        show Go _ _ _ _ _ T19 (mkF m 44 #[.val (.int p1), .val (.int p2), .val (.ref w_LITTLE_ENDIAN)] [])
        refine own_go (fun t k => XS.aloadN X19.here hx rfl (hb hby d_prog_6_method_2_44) rfl rfl k) ?_
        show Go _ _ _ _ _ T19 (mkF m 45 #[.val (.int p1), .val (.int p2), .val (.ref w_LITTLE_ENDIAN)] [(.ref w_LITTLE_ENDIAN)])
        refine own_retA X19 hx (own_lvN X19 hlk (by decide) (by decide)) hret rfl rfl (hb hby d_prog_6_method_2_45) ?_
        exact ⟨(by rw [← hr, own_f_rm2, if_neg hc16, if_pos hc17, if_pos hc18]; try rfl), N0, e19⟩
  · skip
    show Go _ _ _ _ _ s₁ (mkF m 7 #[.val (.int p1), .val (.int p2), .unset] [])
    refine own_go (fun t k => XS.iloadN X0.here hx rfl (hb hby d_prog_6_method_2_7) rfl k) ?_
    show Go _ _ _ _ _ s₁ (mkF m 8 #[.val (.int p1), .val (.int p2), .unset] [(.int p2)])
    refine own_go (fun t k => XS.sipush X0.here hx rfl (hb hby d_prog_6_method_2_8) k) ?_
    show Go _ _ _ _ _ s₁ (mkF m 11 #[.val (.int p1), .val (.int p2), .unset] [(.int (255 : Int32)), (.int p2)])
    refine own_icmpM (p2 = (255 : Int32)) X0 hx (hb hby d_prog_6_method_2_11) (own_ne _ _) (by decide) (by decide) (pc' := 21) (fun hc20 => ?_) (fun hc20 => ?_)
    · skip
      show Go _ _ _ _ _ s₁ (mkF m 21 #[.val (.int p1), .val (.int p2), .unset] [])
      refine own_go (fun t k => XS.iloadN X0.here hx rfl (hb hby d_prog_6_method_2_21) rfl k) ?_
      show Go _ _ _ _ _ s₁ (mkF m 22 #[.val (.int p1), .val (.int p2), .unset] [(.int p1)])
      refine own_go (fun t k => XS.sipush X0.here hx rfl (hb hby d_prog_6_method_2_22) k) ?_
      show Go _ _ _ _ _ s₁ (mkF m 25 #[.val (.int p1), .val (.int p2), .unset] [(.int (255 : Int32)), (.int p1)])
      refine own_icmpM (p1 = (255 : Int32)) X0 hx (hb hby d_prog_6_method_2_25) (own_ne _ _) (by decide) (by decide) (pc' := 42) (fun hc21 => ?_) (fun hc21 => ?_)
      · skip
        show Go _ _ _ _ _ s₁ (mkF m 42 #[.val (.int p1), .val (.int p2), .unset] [])
        refine own_go (fun t k => XS.aconstNull X0.here hx rfl (hb hby d_prog_6_method_2_42) k) ?_
        show Go _ _ _ _ _ s₁ (mkF m 43 #[.val (.int p1), .val (.int p2), .unset] [.null])
        refine own_go (fun t k => XS.astoreN X0.here hx rfl (hb hby d_prog_6_method_2_43) rfl rfl (l' := #[.val (.int p1), .val (.int p2), .val .null]) rfl k) ?_
        show Go _ _ _ _ _ s₁ (mkF m 44 #[.val (.int p1), .val (.int p2), .val .null] [])
        refine own_go (fun t k => XS.aloadN X0.here hx rfl (hb hby d_prog_6_method_2_44) rfl rfl k) ?_
        show Go _ _ _ _ _ s₁ (mkF m 45 #[.val (.int p1), .val (.int p2), .val .null] [.null])
        refine own_retA X0 hx (own_lvN X0 hlk (by decide) (by decide)) hret rfl rfl (hb hby d_prog_6_method_2_45) ?_
        exact ⟨(by rw [← hr, own_f_rm2, if_pos hc16, if_neg hc20, if_neg hc21]; try rfl), N0, e0⟩
      · skip
        show Go _ _ _ _ _ s₁ (mkF m 28 #[.val (.int p1), .val (.int p2), .unset] [])
        refine own_go (fun t k => XS.iloadN X0.here hx rfl (hb hby d_prog_6_method_2_28) rfl k) ?_
        show Go _ _ _ _ _ s₁ (mkF m 29 #[.val (.int p1), .val (.int p2), .unset] [(.int p2)])
        refine own_go (fun t k => XS.sipush X0.here hx rfl (hb hby d_prog_6_method_2_29) k) ?_
        show Go _ _ _ _ _ s₁ (mkF m 32 #[.val (.int p1), .val (.int p2), .unset] [(.int (254 : Int32)), (.int p2)])
        refine own_icmpM (p2 = (254 : Int32)) X0 hx (hb hby d_prog_6_method_2_32) (own_ne _ _) (by decide) (by decide) (pc' := 42) (fun hc22 => ?_) (fun hc22 => ?_)
        · skip
          show Go _ _ _ _ _ s₁ (mkF m 42 #[.val (.int p1), .val (.int p2), .unset] [])
          refine own_go (fun t k => XS.aconstNull X0.here hx rfl (hb hby d_prog_6_method_2_42) k) ?_
          show Go _ _ _ _ _ s₁ (mkF m 43 #[.val (.int p1), .val (.int p2), .unset] [.null])
          refine own_go (fun t k => XS.astoreN X0.here hx rfl (hb hby d_prog_6_method_2_43) rfl rfl (l' := #[.val (.int p1), .val (.int p2), .val .null]) rfl k) ?_
          show Go _ _ _ _ _ s₁ (mkF m 44 #[.val (.int p1), .val (.int p2), .val .null] [])
          refine own_go (fun t k => XS.aloadN X0.here hx rfl (hb hby d_prog_6_method_2_44) rfl rfl k) ?_
          show Go _ _ _ _ _ s₁ (mkF m 45 #[.val (.int p1), .val (.int p2), .val .null] [.null])
          refine own_retA X0 hx (own_lvN X0 hlk (by decide) (by decide)) hret rfl rfl (hb hby d_prog_6_method_2_45) ?_
          exact ⟨(by rw [← hr, own_f_rm2, if_pos hc16, if_neg hc20, if_pos hc21, if_neg hc22]; try rfl), N0, e0⟩
        · skip
          show Go _ _ _ _ _ s₁ (mkF m 35 #[.val (.int p1), .val (.int p2), .unset] [])
          obtain ⟨T23, X23, e23, st23⟩ := getS2 X0 hx hZ hown (host := "") (Or.inl (hw _ (List.mem_of_getElem? (i := 12) rfl))) Via.refl e0 S_LITTLE_ENDIAN (g := (mkF m 35 #[.val (.int p1), .val (.int p2), .unset] [])) rfl (hb hby d_prog_6_method_2_35)
          refine own_go (fun t k => st23 t k) ?_
          show Go _ _ _ _ _ T23 (mkF m 38 #[.val (.int p1), .val (.int p2), .unset] [(.ref w_LITTLE_ENDIAN)])
          refine own_go (fun t k => XS.astoreN X23.here hx rfl (hb hby d_prog_6_method_2_38) rfl rfl (l' := #[.val (.int p1), .val (.int p2), .val (.ref w_LITTLE_ENDIAN)]) rfl k) ?_
          show Go _ _ _ _ _ T23 (mkF m 39 #[.val (.int p1), .val (.int p2), .val (.ref w_LITTLE_ENDIAN)] [])
          refine own_go (fun t k => XS.goto X23.here hx rfl (pc0 := 39) (pc' := 44) rfl (hb hby d_prog_6_method_2_39) (by decide) (by decide) k) ?_
          show Go _ _ _ _ _ T23 (mkF m 44 #[.val (.int p1), .val (.int p2), .val (.ref w_LITTLE_ENDIAN)] [])
          refine own_go (fun t k => XS.aloadN X23.here hx rfl (hb hby d_prog_6_method_2_44) rfl rfl k) ?_
          show Go _ _ _ _ _ T23 (mkF m 45 #[.val (.int p1), .val (.int p2), .val (.ref w_LITTLE_ENDIAN)] [(.ref w_LITTLE_ENDIAN)])
          refine own_retA X23 hx (own_lvN X23 hlk (by decide) (by decide)) hret rfl rfl (hb hby d_prog_6_method_2_45) ?_
          exact ⟨(by rw [← hr, own_f_rm2, if_pos hc16, if_neg hc20, if_pos hc21, if_pos hc22]; try rfl), N0, e23⟩
    · skip
      show Go _ _ _ _ _ s₁ (mkF m 14 #[.val (.int p1), .val (.int p2), .unset] [])
      obtain ⟨T24, X24, e24, st24⟩ := getS2 X0 hx hZ hown (host := "") (Or.inl (hw _ (List.mem_of_getElem? (i := 9) rfl))) Via.refl e0 S_BIG_ENDIAN (g := (mkF m 14 #[.val (.int p1), .val (.int p2), .unset] [])) rfl (hb hby d_prog_6_method_2_14)
      refine own_go (fun t k => st24 t k) ?_
      show Go _ _ _ _ _ T24 (mkF m 17 #[.val (.int p1), .val (.int p2), .unset] [(.ref w_BIG_ENDIAN)])
      refine own_go (fun t k => XS.astoreN X24.here hx rfl (hb hby d_prog_6_method_2_17) rfl rfl (l' := #[.val (.int p1), .val (.int p2), .val (.ref w_BIG_ENDIAN)]) rfl k) ?_
      show Go _ _ _ _ _ T24 (mkF m 18 #[.val (.int p1), .val (.int p2), .val (.ref w_BIG_ENDIAN)] [])
      refine own_go (fun t k => XS.goto X24.here hx rfl (pc0 := 18) (pc' := 44) rfl (hb hby d_prog_6_method_2_18) (by decide) (by decide) k) ?_
      show Go _ _ _ _ _ T24 (mkF m 44 #[.val (.int p1), .val (.int p2), .val (.ref w_BIG_ENDIAN)] [])
      refine own_go (fun t k => XS.aloadN X24.here hx rfl (hb hby d_prog_6_method_2_44) rfl rfl k) ?_
      show Go _ _ _ _ _ T24 (mkF m 45 #[.val (.int p1), .val (.int p2), .val (.ref w_BIG_ENDIAN)] [(.ref w_BIG_ENDIAN)])
      refine own_retA X24 hx (own_lvN X24 hlk (by decide) (by decide)) hret rfl rfl (hb hby d_prog_6_method_2_45) ?_
      exact ⟨(by rw [← hr, own_f_rm2, if_pos hc16, if_pos hc20]; try rfl), N0, e24⟩
theorem own_pd0 : parseMethodDescriptor "(II)I" = some ⟨[.int, .int], some .int⟩ := by decide +kernel
theorem own_pd1 : parseMethodDescriptor "(II)Ljava/nio/ByteOrder;" = some ⟨[.int, .int], some (.object "java/nio/ByteOrder")⟩ := by decide +kernel
theorem own_ef_rm0 (m : MethodId) (x0 : Int32) (x1 : Int32) (x2 : Int32) : entryFrame m #[(.int x0), (.int x1), (.int x2)] maxLocals = mkF m 0 #[.val (.int x0), .val (.int x1), .val (.int x2), .unset, .unset, .unset, .unset, .unset, .unset] [] := by first | (simp [entryFrame, mkF, argsToLocals, Value.category, maxLocals]; done) | rfl
set_option maxRecDepth 65536 in
set_option maxHeartbeats 40000000 in
theorem rm0 (l : Launch) (Z : State) (a0 : Array Value) (hw : ∀ d ∈ tables_1, d.before a0 Z = true) (ws : List Jvm.Cond) (p1 : Int32) (p2 : Int32) (p3 : Int32) (w_BIG_ENDIAN : Addr) (w_LITTLE_ENDIAN : Addr) (h0 : Heap) (n0 : Nat) (hn0 : n0 ≤ h0.size) (S_BIG_ENDIAN : Sta Z h0 "java/nio/ByteOrder" "BIG_ENDIAN" "Ljava/nio/ByteOrder;" (.ref w_BIG_ENDIAN)) (E_BIG_ENDIAN : Exa Z h0 w_BIG_ENDIAN "java/nio/ByteOrder") (S_LITTLE_ENDIAN : Sta Z h0 "java/nio/ByteOrder" "LITTLE_ENDIAN" "Ljava/nio/ByteOrder;" (.ref w_LITTLE_ENDIAN)) (E_LITTLE_ENDIAN : Exa Z h0 w_LITTLE_ENDIAN "java/nio/ByteOrder") :
    OwnMet l Z x code maxLocals ret ws room_1 #[(.int p1), (.int p2), (.int p3)] h0 (OwnR (some (.int 1)) n0) := by
  refine own_body (plainFor_of_name own_pn0) ?_
  intro p e s m below meth c s₁ X0 hx hby hml hret hlk hown0 hnm hZ e0 hs0
  have hown : s.vm.findClass "com/example/pair16/pair16/ByteOrderMarkOrderOfPinLaw" = some m.cls := hown0
  have N0 := Fr.nil n0
  refine own_entry (own_ef_rm0 m p1 p2 p3) ?_
  show Go _ _ _ _ _ s₁ (mkF m 0 #[.val (.int p1), .val (.int p2), .val (.int p3), .unset, .unset, .unset, .unset, .unset, .unset] [])
  refine own_go (fun t k => XS.iloadN X0.here hx rfl (hb hby at_0) rfl k) ?_
  show Go _ _ _ _ _ s₁ (mkF m 1 #[.val (.int p1), .val (.int p2), .val (.int p3), .unset, .unset, .unset, .unset, .unset, .unset] [(.int p1)])
  refine own_go (fun t k => XS.iloadN X0.here hx rfl (hb hby at_1) rfl k) ?_
  show Go _ _ _ _ _ s₁ (mkF m 2 #[.val (.int p1), .val (.int p2), .val (.int p3), .unset, .unset, .unset, .unset, .unset, .unset] [(.int p3), (.int p1)])
  refine own_callS X0 hx hZ (y := (⟨"com/example/pair16/pair16/ByteOrderMarkOrderOfPinLaw", "choose", "(II)I"⟩ : MethodName)) hown (hw _ (List.mem_of_getElem? (i := 0) rfl)) (hw _ (List.mem_of_getElem? (i := 1) rfl)) (hw _ (List.mem_of_getElem? (i := 2) rfl)) (hw _ (List.mem_of_getElem? (i := 3) rfl)) (by decide) (rm1 l Z a0 hw [] p1 p3 (own_f_rm1 p1 p3) h0 n0 hn0  rfl) e0 (by rw [hml]; rfl) (argsL := [(.int p1), (.int p3)]) (rest := []) rfl rfl (lenOf own_pd0 rfl) (W := 0) (Nat.le_of_eq rfl) (by decide) (by decide) (hb hby at_2) (by decide) (by decide) ?_
  intro v25 T25 L25 X25 q25
  obtain ⟨rfl, N25q, e25⟩ := q25
  have N25 := Fr.app N0 N25q
  show Go _ _ _ _ _ T25 (mkF m 5 #[.val (.int p1), .val (.int p2), .val (.int p3), .unset, .unset, .unset, .unset, .unset, .unset] [(.int (own_f_rm1 p1 p3))])
  refine own_go (fun t k => XS.istoreN X25.here hx rfl (hb hby at_5) rfl (l' := #[.val (.int p1), .val (.int p2), .val (.int p3), .val (.int (own_f_rm1 p1 p3)), .unset, .unset, .unset, .unset, .unset]) rfl k) ?_
  show Go _ _ _ _ _ T25 (mkF m 6 #[.val (.int p1), .val (.int p2), .val (.int p3), .val (.int (own_f_rm1 p1 p3)), .unset, .unset, .unset, .unset, .unset] [])
  refine own_go (fun t k => XS.iloadN X25.here hx rfl (hb hby at_6) rfl k) ?_
  show Go _ _ _ _ _ T25 (mkF m 7 #[.val (.int p1), .val (.int p2), .val (.int p3), .val (.int (own_f_rm1 p1 p3)), .unset, .unset, .unset, .unset, .unset] [(.int p2)])
  refine own_go (fun t k => XS.iloadN X25.here hx rfl (hb hby at_7) rfl k) ?_
  show Go _ _ _ _ _ T25 (mkF m 8 #[.val (.int p1), .val (.int p2), .val (.int p3), .val (.int (own_f_rm1 p1 p3)), .unset, .unset, .unset, .unset, .unset] [(.int p3), (.int p2)])
  refine own_go (fun t k => XS.iconst X25.here hx rfl (hb hby at_8) k) ?_
  show Go _ _ _ _ _ T25 (mkF m 9 #[.val (.int p1), .val (.int p2), .val (.int p3), .val (.int (own_f_rm1 p1 p3)), .unset, .unset, .unset, .unset, .unset] [(.int (2 : Int32)), (.int p3), (.int p2)])
  refine own_go (fun t k => XS.iushr X25.here hx rfl (hb hby at_9) rfl k) ?_
  show Go _ _ _ _ _ T25 (mkF m 10 #[.val (.int p1), .val (.int p2), .val (.int p3), .val (.int (own_f_rm1 p1 p3)), .unset, .unset, .unset, .unset, .unset] [(.int ((p3.toUInt32 >>> ((2 : Int32) &&& 31).toUInt32).toInt32)), (.int p2)])
  refine own_callS X25 hx hZ (y := (⟨"com/example/pair16/pair16/ByteOrderMarkOrderOfPinLaw", "choose", "(II)I"⟩ : MethodName)) hown (hw _ (List.mem_of_getElem? (i := 0) rfl)) (hw _ (List.mem_of_getElem? (i := 1) rfl)) (hw _ (List.mem_of_getElem? (i := 2) rfl)) (hw _ (List.mem_of_getElem? (i := 3) rfl)) (by decide) (rm1 l Z a0 hw [] p2 ((p3.toUInt32 >>> ((2 : Int32) &&& 31).toUInt32).toInt32) (own_f_rm1 p2 ((p3.toUInt32 >>> ((2 : Int32) &&& 31).toUInt32).toInt32)) h0 n0 hn0  rfl) e25 (by rw [hml]; rfl) (argsL := [(.int p2), (.int ((p3.toUInt32 >>> ((2 : Int32) &&& 31).toUInt32).toInt32))]) (rest := []) rfl rfl (lenOf own_pd0 rfl) (W := 0) (Nat.le_of_eq rfl) (by decide) (by decide) (hb hby at_10) (by decide) (by decide) ?_
  intro v26 T26 L26 X26 q26
  obtain ⟨rfl, N26q, e26⟩ := q26
  have N26 := Fr.app N25 N26q
  show Go _ _ _ _ _ T26 (mkF m 13 #[.val (.int p1), .val (.int p2), .val (.int p3), .val (.int (own_f_rm1 p1 p3)), .unset, .unset, .unset, .unset, .unset] [(.int (own_f_rm1 p2 ((p3.toUInt32 >>> ((2 : Int32) &&& 31).toUInt32).toInt32)))])
  refine own_go (fun t k => XS.istore X26.here hx rfl (hb hby at_13) rfl (l' := #[.val (.int p1), .val (.int p2), .val (.int p3), .val (.int (own_f_rm1 p1 p3)), .val (.int (own_f_rm1 p2 ((p3.toUInt32 >>> ((2 : Int32) &&& 31).toUInt32).toInt32))), .unset, .unset, .unset, .unset]) rfl k) ?_
  show Go _ _ _ _ _ T26 (mkF m 15 #[.val (.int p1), .val (.int p2), .val (.int p3), .val (.int (own_f_rm1 p1 p3)), .val (.int (own_f_rm1 p2 ((p3.toUInt32 >>> ((2 : Int32) &&& 31).toUInt32).toInt32))), .unset, .unset, .unset, .unset] [])
  generalize (own_f_rm1 p1 p3) = u
  generalize (own_f_rm1 p2 ((p3.toUInt32 >>> ((2 : Int32) &&& 31).toUInt32).toInt32)) = v
  rcases own_bom u v with ⟨rfl, rfl⟩ | ⟨rfl, rfl⟩ | ⟨b1, b2, b3, bN⟩ | ⟨b1, b2, b3, bN⟩ | ⟨b1, b2, bN⟩
  · skip
    show Go _ _ _ _ _ T26 (mkF m 15 #[.val (.int p1), .val (.int p2), .val (.int p3), .val (.int (254 : Int32)), .val (.int (255 : Int32)), .unset, .unset, .unset, .unset] [])
    refine own_go (fun t k => XS.iloadN X26.here hx rfl (hb hby at_15) rfl k) ?_
    show Go _ _ _ _ _ T26 (mkF m 16 #[.val (.int p1), .val (.int p2), .val (.int p3), .val (.int (254 : Int32)), .val (.int (255 : Int32)), .unset, .unset, .unset, .unset] [(.int (254 : Int32))])
    refine own_go (fun t k => XS.sipush X26.here hx rfl (hb hby at_16) k) ?_
    show Go _ _ _ _ _ T26 (mkF m 19 #[.val (.int p1), .val (.int p2), .val (.int p3), .val (.int (254 : Int32)), .val (.int (255 : Int32)), .unset, .unset, .unset, .unset] [(.int (-256 : Int32)), (.int (254 : Int32))])
    refine own_go (fun t k => XS.iand X26.here hx rfl (hb hby at_19) rfl k) ?_
    show Go _ _ _ _ _ T26 (mkF m 20 #[.val (.int p1), .val (.int p2), .val (.int p3), .val (.int (254 : Int32)), .val (.int (255 : Int32)), .unset, .unset, .unset, .unset] [(.int (0 : Int32))])
    refine own_go (fun t k => XS.ifNo X26.here hx rfl (hb hby at_20) rfl (by decide) k) ?_
    show Go _ _ _ _ _ T26 (mkF m 23 #[.val (.int p1), .val (.int p2), .val (.int p3), .val (.int (254 : Int32)), .val (.int (255 : Int32)), .unset, .unset, .unset, .unset] [])
    refine own_go (fun t k => XS.iload X26.here hx rfl (hb hby at_23) rfl k) ?_
    show Go _ _ _ _ _ T26 (mkF m 25 #[.val (.int p1), .val (.int p2), .val (.int p3), .val (.int (254 : Int32)), .val (.int (255 : Int32)), .unset, .unset, .unset, .unset] [(.int (255 : Int32))])
    refine own_go (fun t k => XS.sipush X26.here hx rfl (hb hby at_25) k) ?_
    show Go _ _ _ _ _ T26 (mkF m 28 #[.val (.int p1), .val (.int p2), .val (.int p3), .val (.int (254 : Int32)), .val (.int (255 : Int32)), .unset, .unset, .unset, .unset] [(.int (-256 : Int32)), (.int (255 : Int32))])
    refine own_go (fun t k => XS.iand X26.here hx rfl (hb hby at_28) rfl k) ?_
    show Go _ _ _ _ _ T26 (mkF m 29 #[.val (.int p1), .val (.int p2), .val (.int p3), .val (.int (254 : Int32)), .val (.int (255 : Int32)), .unset, .unset, .unset, .unset] [(.int (0 : Int32))])
    refine own_go (fun t k => XS.ifNo X26.here hx rfl (hb hby at_29) rfl (by decide) k) ?_
    show Go _ _ _ _ _ T26 (mkF m 32 #[.val (.int p1), .val (.int p2), .val (.int p3), .val (.int (254 : Int32)), .val (.int (255 : Int32)), .unset, .unset, .unset, .unset] [])
    refine own_go (fun t k => XS.iconst X26.here hx rfl (hb hby at_32) k) ?_
    show Go _ _ _ _ _ T26 (mkF m 33 #[.val (.int p1), .val (.int p2), .val (.int p3), .val (.int (254 : Int32)), .val (.int (255 : Int32)), .unset, .unset, .unset, .unset] [(.int (1 : Int32))])
    refine own_go (fun t k => XS.goto X26.here hx rfl (pc0 := 33) (pc' := 37) rfl (hb hby at_33) (by decide) (by decide) k) ?_
    show Go _ _ _ _ _ T26 (mkF m 37 #[.val (.int p1), .val (.int p2), .val (.int p3), .val (.int (254 : Int32)), .val (.int (255 : Int32)), .unset, .unset, .unset, .unset] [(.int (1 : Int32))])
    refine own_go (fun t k => XS.istore X26.here hx rfl (hb hby at_37) rfl (l' := #[.val (.int p1), .val (.int p2), .val (.int p3), .val (.int (254 : Int32)), .val (.int (255 : Int32)), .val (.int (1 : Int32)), .unset, .unset, .unset]) rfl k) ?_
    show Go _ _ _ _ _ T26 (mkF m 39 #[.val (.int p1), .val (.int p2), .val (.int p3), .val (.int (254 : Int32)), .val (.int (255 : Int32)), .val (.int (1 : Int32)), .unset, .unset, .unset] [])
    refine own_go (fun t k => XS.iload X26.here hx rfl (hb hby at_39) rfl k) ?_
    show Go _ _ _ _ _ T26 (mkF m 41 #[.val (.int p1), .val (.int p2), .val (.int p3), .val (.int (254 : Int32)), .val (.int (255 : Int32)), .val (.int (1 : Int32)), .unset, .unset, .unset] [(.int (1 : Int32))])
    refine own_go (fun t k => XS.ifNo X26.here hx rfl (hb hby at_41) rfl (by decide) k) ?_
    show Go _ _ _ _ _ T26 (mkF m 44 #[.val (.int p1), .val (.int p2), .val (.int p3), .val (.int (254 : Int32)), .val (.int (255 : Int32)), .val (.int (1 : Int32)), .unset, .unset, .unset] [])
    refine own_go (fun t k => XS.iloadN X26.here hx rfl (hb hby at_44) rfl k) ?_
    show Go _ _ _ _ _ T26 (mkF m 45 #[.val (.int p1), .val (.int p2), .val (.int p3), .val (.int (254 : Int32)), .val (.int (255 : Int32)), .val (.int (1 : Int32)), .unset, .unset, .unset] [(.int (254 : Int32))])
    refine own_go (fun t k => XS.bipush X26.here hx rfl (hb hby at_45) k) ?_
    show Go _ _ _ _ _ T26 (mkF m 47 #[.val (.int p1), .val (.int p2), .val (.int p3), .val (.int (254 : Int32)), .val (.int (255 : Int32)), .val (.int (1 : Int32)), .unset, .unset, .unset] [(.int (8 : Int32)), (.int (254 : Int32))])
    refine own_go (fun t k => XS.ishl X26.here hx rfl (hb hby at_47) rfl k) ?_
    show Go _ _ _ _ _ T26 (mkF m 48 #[.val (.int p1), .val (.int p2), .val (.int p3), .val (.int (254 : Int32)), .val (.int (255 : Int32)), .val (.int (1 : Int32)), .unset, .unset, .unset] [(.int (65024 : Int32))])
    refine own_go (fun t k => XS.iload X26.here hx rfl (hb hby at_48) rfl k) ?_
    show Go _ _ _ _ _ T26 (mkF m 50 #[.val (.int p1), .val (.int p2), .val (.int p3), .val (.int (254 : Int32)), .val (.int (255 : Int32)), .val (.int (1 : Int32)), .unset, .unset, .unset] [(.int (255 : Int32)), (.int (65024 : Int32))])
    refine own_go (fun t k => XS.ior X26.here hx rfl (hb hby at_50) rfl k) ?_
    show Go _ _ _ _ _ T26 (mkF m 51 #[.val (.int p1), .val (.int p2), .val (.int p3), .val (.int (254 : Int32)), .val (.int (255 : Int32)), .val (.int (1 : Int32)), .unset, .unset, .unset] [(.int (65279 : Int32))])
    refine own_go (fun t k => X26.ldcInt hx hown (mvT hZ (hw _ (List.mem_of_getElem? (i := 4) rfl))) (g := (mkF m 51 #[.val (.int p1), .val (.int p2), .val (.int p3), .val (.int (254 : Int32)), .val (.int (255 : Int32)), .val (.int (1 : Int32)), .unset, .unset, .unset] [(.int (65279 : Int32))])) rfl (hb hby at_51) _ k) ?_
    show Go _ _ _ _ _ T26 (mkF m 53 #[.val (.int p1), .val (.int p2), .val (.int p3), .val (.int (254 : Int32)), .val (.int (255 : Int32)), .val (.int (1 : Int32)), .unset, .unset, .unset] [(.int (65279 : Int32)), (.int (65279 : Int32))])
    refine own_go (fun t k => XS.icmpNo X26.here hx rfl (hb hby at_53) rfl (by decide) k) ?_
    show Go _ _ _ _ _ T26 (mkF m 56 #[.val (.int p1), .val (.int p2), .val (.int p3), .val (.int (254 : Int32)), .val (.int (255 : Int32)), .val (.int (1 : Int32)), .unset, .unset, .unset] [])
    refine own_go (fun t k => XS.iconst X26.here hx rfl (hb hby at_56) k) ?_
    show Go _ _ _ _ _ T26 (mkF m 57 #[.val (.int p1), .val (.int p2), .val (.int p3), .val (.int (254 : Int32)), .val (.int (255 : Int32)), .val (.int (1 : Int32)), .unset, .unset, .unset] [(.int (1 : Int32))])
    refine own_go (fun t k => XS.goto X26.here hx rfl (pc0 := 57) (pc' := 61) rfl (hb hby at_57) (by decide) (by decide) k) ?_
    show Go _ _ _ _ _ T26 (mkF m 61 #[.val (.int p1), .val (.int p2), .val (.int p3), .val (.int (254 : Int32)), .val (.int (255 : Int32)), .val (.int (1 : Int32)), .unset, .unset, .unset] [(.int (1 : Int32))])
    refine own_go (fun t k => XS.istore X26.here hx rfl (hb hby at_61) rfl (l' := #[.val (.int p1), .val (.int p2), .val (.int p3), .val (.int (254 : Int32)), .val (.int (255 : Int32)), .val (.int (1 : Int32)), .val (.int (1 : Int32)), .unset, .unset]) rfl k) ?_
    show Go _ _ _ _ _ T26 (mkF m 63 #[.val (.int p1), .val (.int p2), .val (.int p3), .val (.int (254 : Int32)), .val (.int (255 : Int32)), .val (.int (1 : Int32)), .val (.int (1 : Int32)), .unset, .unset] [])
    refine own_go (fun t k => XS.iload X26.here hx rfl (hb hby at_63) rfl k) ?_
    show Go _ _ _ _ _ T26 (mkF m 65 #[.val (.int p1), .val (.int p2), .val (.int p3), .val (.int (254 : Int32)), .val (.int (255 : Int32)), .val (.int (1 : Int32)), .val (.int (1 : Int32)), .unset, .unset] [(.int (1 : Int32))])
    refine own_go (fun t k => XS.ifNo X26.here hx rfl (hb hby at_65) rfl (by decide) k) ?_
    show Go _ _ _ _ _ T26 (mkF m 68 #[.val (.int p1), .val (.int p2), .val (.int p3), .val (.int (254 : Int32)), .val (.int (255 : Int32)), .val (.int (1 : Int32)), .val (.int (1 : Int32)), .unset, .unset] [])
    refine own_go (fun t k => XS.iload X26.here hx rfl (hb hby at_68) rfl k) ?_
    show Go _ _ _ _ _ T26 (mkF m 70 #[.val (.int p1), .val (.int p2), .val (.int p3), .val (.int (254 : Int32)), .val (.int (255 : Int32)), .val (.int (1 : Int32)), .val (.int (1 : Int32)), .unset, .unset] [(.int (255 : Int32))])
    refine own_go (fun t k => XS.bipush X26.here hx rfl (hb hby at_70) k) ?_
    show Go _ _ _ _ _ T26 (mkF m 72 #[.val (.int p1), .val (.int p2), .val (.int p3), .val (.int (254 : Int32)), .val (.int (255 : Int32)), .val (.int (1 : Int32)), .val (.int (1 : Int32)), .unset, .unset] [(.int (8 : Int32)), (.int (255 : Int32))])
    refine own_go (fun t k => XS.ishl X26.here hx rfl (hb hby at_72) rfl k) ?_
    show Go _ _ _ _ _ T26 (mkF m 73 #[.val (.int p1), .val (.int p2), .val (.int p3), .val (.int (254 : Int32)), .val (.int (255 : Int32)), .val (.int (1 : Int32)), .val (.int (1 : Int32)), .unset, .unset] [(.int (65280 : Int32))])
    refine own_go (fun t k => XS.iloadN X26.here hx rfl (hb hby at_73) rfl k) ?_
    show Go _ _ _ _ _ T26 (mkF m 74 #[.val (.int p1), .val (.int p2), .val (.int p3), .val (.int (254 : Int32)), .val (.int (255 : Int32)), .val (.int (1 : Int32)), .val (.int (1 : Int32)), .unset, .unset] [(.int (254 : Int32)), (.int (65280 : Int32))])
    refine own_go (fun t k => XS.ior X26.here hx rfl (hb hby at_74) rfl k) ?_
    show Go _ _ _ _ _ T26 (mkF m 75 #[.val (.int p1), .val (.int p2), .val (.int p3), .val (.int (254 : Int32)), .val (.int (255 : Int32)), .val (.int (1 : Int32)), .val (.int (1 : Int32)), .unset, .unset] [(.int (65534 : Int32))])
    refine own_go (fun t k => X26.ldcInt hx hown (mvT hZ (hw _ (List.mem_of_getElem? (i := 4) rfl))) (g := (mkF m 75 #[.val (.int p1), .val (.int p2), .val (.int p3), .val (.int (254 : Int32)), .val (.int (255 : Int32)), .val (.int (1 : Int32)), .val (.int (1 : Int32)), .unset, .unset] [(.int (65534 : Int32))])) rfl (hb hby at_75) _ k) ?_
    show Go _ _ _ _ _ T26 (mkF m 77 #[.val (.int p1), .val (.int p2), .val (.int p3), .val (.int (254 : Int32)), .val (.int (255 : Int32)), .val (.int (1 : Int32)), .val (.int (1 : Int32)), .unset, .unset] [(.int (65279 : Int32)), (.int (65534 : Int32))])
    refine own_go (fun t k => XS.icmpYes X26.here hx rfl (pc0 := 77) (pc' := 84) rfl (hb hby at_77) rfl (by decide) (by decide) (by decide) k) ?_
    show Go _ _ _ _ _ T26 (mkF m 84 #[.val (.int p1), .val (.int p2), .val (.int p3), .val (.int (254 : Int32)), .val (.int (255 : Int32)), .val (.int (1 : Int32)), .val (.int (1 : Int32)), .unset, .unset] [])
    refine own_go (fun t k => XS.iconst X26.here hx rfl (hb hby at_84) k) ?_
    show Go _ _ _ _ _ T26 (mkF m 85 #[.val (.int p1), .val (.int p2), .val (.int p3), .val (.int (254 : Int32)), .val (.int (255 : Int32)), .val (.int (1 : Int32)), .val (.int (1 : Int32)), .unset, .unset] [(.int (0 : Int32))])
    refine own_go (fun t k => XS.istore X26.here hx rfl (hb hby at_85) rfl (l' := #[.val (.int p1), .val (.int p2), .val (.int p3), .val (.int (254 : Int32)), .val (.int (255 : Int32)), .val (.int (1 : Int32)), .val (.int (1 : Int32)), .val (.int (0 : Int32)), .unset]) rfl k) ?_
    show Go _ _ _ _ _ T26 (mkF m 87 #[.val (.int p1), .val (.int p2), .val (.int p3), .val (.int (254 : Int32)), .val (.int (255 : Int32)), .val (.int (1 : Int32)), .val (.int (1 : Int32)), .val (.int (0 : Int32)), .unset] [])
    refine own_go (fun t k => XS.iloadN X26.here hx rfl (hb hby at_87) rfl k) ?_
    show Go _ _ _ _ _ T26 (mkF m 88 #[.val (.int p1), .val (.int p2), .val (.int p3), .val (.int (254 : Int32)), .val (.int (255 : Int32)), .val (.int (1 : Int32)), .val (.int (1 : Int32)), .val (.int (0 : Int32)), .unset] [(.int (254 : Int32))])
    refine own_go (fun t k => XS.iload X26.here hx rfl (hb hby at_88) rfl k) ?_
    show Go _ _ _ _ _ T26 (mkF m 90 #[.val (.int p1), .val (.int p2), .val (.int p3), .val (.int (254 : Int32)), .val (.int (255 : Int32)), .val (.int (1 : Int32)), .val (.int (1 : Int32)), .val (.int (0 : Int32)), .unset] [(.int (255 : Int32)), (.int (254 : Int32))])
    refine own_callS X26 hx hZ (y := (⟨"com/example/pair16/pair16/ByteOrderMark", "orderOf", "(II)Ljava/nio/ByteOrder;"⟩ : MethodName)) hown (hw _ (List.mem_of_getElem? (i := 5) rfl)) (hw _ (List.mem_of_getElem? (i := 6) rfl)) (hw _ (List.mem_of_getElem? (i := 7) rfl)) (hw _ (List.mem_of_getElem? (i := 8) rfl)) (by decide) (rm2 l Z a0 hw [] (254 : Int32) (255 : Int32) w_BIG_ENDIAN w_LITTLE_ENDIAN (.ref w_BIG_ENDIAN) h0 n0 hn0 S_BIG_ENDIAN S_LITTLE_ENDIAN (by rw [own_f_rm2, if_pos (show (254 : Int32) = (254 : Int32) from rfl), if_pos (show (255 : Int32) = (255 : Int32) from rfl)]; try first | rfl | decide)) e26 (by rw [hml]; rfl) (argsL := [(.int (254 : Int32)), (.int (255 : Int32))]) (rest := []) rfl rfl (lenOf own_pd1 rfl) (W := 0) (Nat.le_of_eq rfl) (by decide) (by decide) (hb hby at_90) (by decide) (by decide) ?_
    intro v27 T27 L27 X27 q27
    obtain ⟨rfl, N27q, e27⟩ := q27
    have N27 := Fr.app N26 N27q
    show Go _ _ _ _ _ T27 (mkF m 93 #[.val (.int p1), .val (.int p2), .val (.int p3), .val (.int (254 : Int32)), .val (.int (255 : Int32)), .val (.int (1 : Int32)), .val (.int (1 : Int32)), .val (.int (0 : Int32)), .unset] [(.ref w_BIG_ENDIAN)])
    refine own_go (fun t k => XS.astore X27.here hx rfl (hb hby at_93) rfl rfl (l' := #[.val (.int p1), .val (.int p2), .val (.int p3), .val (.int (254 : Int32)), .val (.int (255 : Int32)), .val (.int (1 : Int32)), .val (.int (1 : Int32)), .val (.int (0 : Int32)), .val (.ref w_BIG_ENDIAN)]) rfl k) ?_
    show Go _ _ _ _ _ T27 (mkF m 95 #[.val (.int p1), .val (.int p2), .val (.int p3), .val (.int (254 : Int32)), .val (.int (255 : Int32)), .val (.int (1 : Int32)), .val (.int (1 : Int32)), .val (.int (0 : Int32)), .val (.ref w_BIG_ENDIAN)] [])
    refine own_go (fun t k => XS.iload X27.here hx rfl (hb hby at_95) rfl k) ?_
    show Go _ _ _ _ _ T27 (mkF m 97 #[.val (.int p1), .val (.int p2), .val (.int p3), .val (.int (254 : Int32)), .val (.int (255 : Int32)), .val (.int (1 : Int32)), .val (.int (1 : Int32)), .val (.int (0 : Int32)), .val (.ref w_BIG_ENDIAN)] [(.int (1 : Int32))])
    refine own_go (fun t k => XS.ifNo X27.here hx rfl (hb hby at_97) rfl (by decide) k) ?_
    show Go _ _ _ _ _ T27 (mkF m 100 #[.val (.int p1), .val (.int p2), .val (.int p3), .val (.int (254 : Int32)), .val (.int (255 : Int32)), .val (.int (1 : Int32)), .val (.int (1 : Int32)), .val (.int (0 : Int32)), .val (.ref w_BIG_ENDIAN)] [])
    refine own_go (fun t k => XS.aload X27.here hx rfl (hb hby at_100) rfl rfl k) ?_
    show Go _ _ _ _ _ T27 (mkF m 102 #[.val (.int p1), .val (.int p2), .val (.int p3), .val (.int (254 : Int32)), .val (.int (255 : Int32)), .val (.int (1 : Int32)), .val (.int (1 : Int32)), .val (.int (0 : Int32)), .val (.ref w_BIG_ENDIAN)] [(.ref w_BIG_ENDIAN)])
    obtain ⟨T28, X28, e28, st28⟩ := getS2 X27 hx hZ hown (host := "") (Or.inl (hw _ (List.mem_of_getElem? (i := 11) rfl))) Via.refl e27 S_BIG_ENDIAN (g := (mkF m 102 #[.val (.int p1), .val (.int p2), .val (.int p3), .val (.int (254 : Int32)), .val (.int (255 : Int32)), .val (.int (1 : Int32)), .val (.int (1 : Int32)), .val (.int (0 : Int32)), .val (.ref w_BIG_ENDIAN)] [(.ref w_BIG_ENDIAN)])) rfl (hb hby at_102)
    refine own_go (fun t k => st28 t k) ?_
    show Go _ _ _ _ _ T28 (mkF m 105 #[.val (.int p1), .val (.int p2), .val (.int p3), .val (.int (254 : Int32)), .val (.int (255 : Int32)), .val (.int (1 : Int32)), .val (.int (1 : Int32)), .val (.int (0 : Int32)), .val (.ref w_BIG_ENDIAN)] [(.ref w_BIG_ENDIAN), (.ref w_BIG_ENDIAN)])
    refine own_go (fun t k => Jvm.RoadKit.acmp (g := (mkF m 105 #[.val (.int p1), .val (.int p2), .val (.int p3), .val (.int (254 : Int32)), .val (.int (255 : Int32)), .val (.int (1 : Int32)), .val (.int (1 : Int32)), .val (.int (0 : Int32)), .val (.ref w_BIG_ENDIAN)] [(.ref w_BIG_ENDIAN), (.ref w_BIG_ENDIAN)])) X28 hx rfl rfl rfl (pc0 := 105) (pc' := 108) (same := true) rfl (hb hby at_105) rfl (decide_eq_true rfl) (by decide) (by decide) k) ?_
    show Go _ _ _ _ _ T28 (mkF m 108 #[.val (.int p1), .val (.int p2), .val (.int p3), .val (.int (254 : Int32)), .val (.int (255 : Int32)), .val (.int (1 : Int32)), .val (.int (1 : Int32)), .val (.int (0 : Int32)), .val (.ref w_BIG_ENDIAN)] [])
    refine own_go (fun t k => XS.iconst X28.here hx rfl (hb hby at_108) k) ?_
    show Go _ _ _ _ _ T28 (mkF m 109 #[.val (.int p1), .val (.int p2), .val (.int p3), .val (.int (254 : Int32)), .val (.int (255 : Int32)), .val (.int (1 : Int32)), .val (.int (1 : Int32)), .val (.int (0 : Int32)), .val (.ref w_BIG_ENDIAN)] [(.int (1 : Int32))])
    refine own_go (fun t k => XS.goto X28.here hx rfl (pc0 := 109) (pc' := 113) rfl (hb hby at_109) (by decide) (by decide) k) ?_
    show Go _ _ _ _ _ T28 (mkF m 113 #[.val (.int p1), .val (.int p2), .val (.int p3), .val (.int (254 : Int32)), .val (.int (255 : Int32)), .val (.int (1 : Int32)), .val (.int (1 : Int32)), .val (.int (0 : Int32)), .val (.ref w_BIG_ENDIAN)] [(.int (1 : Int32))])
    refine own_retN X28 hx (own_lvN X28 hlk (by decide) (by decide)) (t := .boolean) hret (by simp) (hb hby at_113) ?_
    exact ⟨rfl, N27⟩
  · skip
    show Go _ _ _ _ _ T26 (mkF m 15 #[.val (.int p1), .val (.int p2), .val (.int p3), .val (.int (255 : Int32)), .val (.int (254 : Int32)), .unset, .unset, .unset, .unset] [])
    refine own_go (fun t k => XS.iloadN X26.here hx rfl (hb hby at_15) rfl k) ?_
    show Go _ _ _ _ _ T26 (mkF m 16 #[.val (.int p1), .val (.int p2), .val (.int p3), .val (.int (255 : Int32)), .val (.int (254 : Int32)), .unset, .unset, .unset, .unset] [(.int (255 : Int32))])
    refine own_go (fun t k => XS.sipush X26.here hx rfl (hb hby at_16) k) ?_
    show Go _ _ _ _ _ T26 (mkF m 19 #[.val (.int p1), .val (.int p2), .val (.int p3), .val (.int (255 : Int32)), .val (.int (254 : Int32)), .unset, .unset, .unset, .unset] [(.int (-256 : Int32)), (.int (255 : Int32))])
    refine own_go (fun t k => XS.iand X26.here hx rfl (hb hby at_19) rfl k) ?_
    show Go _ _ _ _ _ T26 (mkF m 20 #[.val (.int p1), .val (.int p2), .val (.int p3), .val (.int (255 : Int32)), .val (.int (254 : Int32)), .unset, .unset, .unset, .unset] [(.int (0 : Int32))])
    refine own_go (fun t k => XS.ifNo X26.here hx rfl (hb hby at_20) rfl (by decide) k) ?_
    show Go _ _ _ _ _ T26 (mkF m 23 #[.val (.int p1), .val (.int p2), .val (.int p3), .val (.int (255 : Int32)), .val (.int (254 : Int32)), .unset, .unset, .unset, .unset] [])
    refine own_go (fun t k => XS.iload X26.here hx rfl (hb hby at_23) rfl k) ?_
    show Go _ _ _ _ _ T26 (mkF m 25 #[.val (.int p1), .val (.int p2), .val (.int p3), .val (.int (255 : Int32)), .val (.int (254 : Int32)), .unset, .unset, .unset, .unset] [(.int (254 : Int32))])
    refine own_go (fun t k => XS.sipush X26.here hx rfl (hb hby at_25) k) ?_
    show Go _ _ _ _ _ T26 (mkF m 28 #[.val (.int p1), .val (.int p2), .val (.int p3), .val (.int (255 : Int32)), .val (.int (254 : Int32)), .unset, .unset, .unset, .unset] [(.int (-256 : Int32)), (.int (254 : Int32))])
    refine own_go (fun t k => XS.iand X26.here hx rfl (hb hby at_28) rfl k) ?_
    show Go _ _ _ _ _ T26 (mkF m 29 #[.val (.int p1), .val (.int p2), .val (.int p3), .val (.int (255 : Int32)), .val (.int (254 : Int32)), .unset, .unset, .unset, .unset] [(.int (0 : Int32))])
    refine own_go (fun t k => XS.ifNo X26.here hx rfl (hb hby at_29) rfl (by decide) k) ?_
    show Go _ _ _ _ _ T26 (mkF m 32 #[.val (.int p1), .val (.int p2), .val (.int p3), .val (.int (255 : Int32)), .val (.int (254 : Int32)), .unset, .unset, .unset, .unset] [])
    refine own_go (fun t k => XS.iconst X26.here hx rfl (hb hby at_32) k) ?_
    show Go _ _ _ _ _ T26 (mkF m 33 #[.val (.int p1), .val (.int p2), .val (.int p3), .val (.int (255 : Int32)), .val (.int (254 : Int32)), .unset, .unset, .unset, .unset] [(.int (1 : Int32))])
    refine own_go (fun t k => XS.goto X26.here hx rfl (pc0 := 33) (pc' := 37) rfl (hb hby at_33) (by decide) (by decide) k) ?_
    show Go _ _ _ _ _ T26 (mkF m 37 #[.val (.int p1), .val (.int p2), .val (.int p3), .val (.int (255 : Int32)), .val (.int (254 : Int32)), .unset, .unset, .unset, .unset] [(.int (1 : Int32))])
    refine own_go (fun t k => XS.istore X26.here hx rfl (hb hby at_37) rfl (l' := #[.val (.int p1), .val (.int p2), .val (.int p3), .val (.int (255 : Int32)), .val (.int (254 : Int32)), .val (.int (1 : Int32)), .unset, .unset, .unset]) rfl k) ?_
    show Go _ _ _ _ _ T26 (mkF m 39 #[.val (.int p1), .val (.int p2), .val (.int p3), .val (.int (255 : Int32)), .val (.int (254 : Int32)), .val (.int (1 : Int32)), .unset, .unset, .unset] [])
    refine own_go (fun t k => XS.iload X26.here hx rfl (hb hby at_39) rfl k) ?_
    show Go _ _ _ _ _ T26 (mkF m 41 #[.val (.int p1), .val (.int p2), .val (.int p3), .val (.int (255 : Int32)), .val (.int (254 : Int32)), .val (.int (1 : Int32)), .unset, .unset, .unset] [(.int (1 : Int32))])
    refine own_go (fun t k => XS.ifNo X26.here hx rfl (hb hby at_41) rfl (by decide) k) ?_
    show Go _ _ _ _ _ T26 (mkF m 44 #[.val (.int p1), .val (.int p2), .val (.int p3), .val (.int (255 : Int32)), .val (.int (254 : Int32)), .val (.int (1 : Int32)), .unset, .unset, .unset] [])
    refine own_go (fun t k => XS.iloadN X26.here hx rfl (hb hby at_44) rfl k) ?_
    show Go _ _ _ _ _ T26 (mkF m 45 #[.val (.int p1), .val (.int p2), .val (.int p3), .val (.int (255 : Int32)), .val (.int (254 : Int32)), .val (.int (1 : Int32)), .unset, .unset, .unset] [(.int (255 : Int32))])
    refine own_go (fun t k => XS.bipush X26.here hx rfl (hb hby at_45) k) ?_
    show Go _ _ _ _ _ T26 (mkF m 47 #[.val (.int p1), .val (.int p2), .val (.int p3), .val (.int (255 : Int32)), .val (.int (254 : Int32)), .val (.int (1 : Int32)), .unset, .unset, .unset] [(.int (8 : Int32)), (.int (255 : Int32))])
    refine own_go (fun t k => XS.ishl X26.here hx rfl (hb hby at_47) rfl k) ?_
    show Go _ _ _ _ _ T26 (mkF m 48 #[.val (.int p1), .val (.int p2), .val (.int p3), .val (.int (255 : Int32)), .val (.int (254 : Int32)), .val (.int (1 : Int32)), .unset, .unset, .unset] [(.int (65280 : Int32))])
    refine own_go (fun t k => XS.iload X26.here hx rfl (hb hby at_48) rfl k) ?_
    show Go _ _ _ _ _ T26 (mkF m 50 #[.val (.int p1), .val (.int p2), .val (.int p3), .val (.int (255 : Int32)), .val (.int (254 : Int32)), .val (.int (1 : Int32)), .unset, .unset, .unset] [(.int (254 : Int32)), (.int (65280 : Int32))])
    refine own_go (fun t k => XS.ior X26.here hx rfl (hb hby at_50) rfl k) ?_
    show Go _ _ _ _ _ T26 (mkF m 51 #[.val (.int p1), .val (.int p2), .val (.int p3), .val (.int (255 : Int32)), .val (.int (254 : Int32)), .val (.int (1 : Int32)), .unset, .unset, .unset] [(.int (65534 : Int32))])
    refine own_go (fun t k => X26.ldcInt hx hown (mvT hZ (hw _ (List.mem_of_getElem? (i := 4) rfl))) (g := (mkF m 51 #[.val (.int p1), .val (.int p2), .val (.int p3), .val (.int (255 : Int32)), .val (.int (254 : Int32)), .val (.int (1 : Int32)), .unset, .unset, .unset] [(.int (65534 : Int32))])) rfl (hb hby at_51) _ k) ?_
    show Go _ _ _ _ _ T26 (mkF m 53 #[.val (.int p1), .val (.int p2), .val (.int p3), .val (.int (255 : Int32)), .val (.int (254 : Int32)), .val (.int (1 : Int32)), .unset, .unset, .unset] [(.int (65279 : Int32)), (.int (65534 : Int32))])
    refine own_go (fun t k => XS.icmpYes X26.here hx rfl (pc0 := 53) (pc' := 60) rfl (hb hby at_53) rfl (by decide) (by decide) (by decide) k) ?_
    show Go _ _ _ _ _ T26 (mkF m 60 #[.val (.int p1), .val (.int p2), .val (.int p3), .val (.int (255 : Int32)), .val (.int (254 : Int32)), .val (.int (1 : Int32)), .unset, .unset, .unset] [])
    refine own_go (fun t k => XS.iconst X26.here hx rfl (hb hby at_60) k) ?_
    show Go _ _ _ _ _ T26 (mkF m 61 #[.val (.int p1), .val (.int p2), .val (.int p3), .val (.int (255 : Int32)), .val (.int (254 : Int32)), .val (.int (1 : Int32)), .unset, .unset, .unset] [(.int (0 : Int32))])
    refine own_go (fun t k => XS.istore X26.here hx rfl (hb hby at_61) rfl (l' := #[.val (.int p1), .val (.int p2), .val (.int p3), .val (.int (255 : Int32)), .val (.int (254 : Int32)), .val (.int (1 : Int32)), .val (.int (0 : Int32)), .unset, .unset]) rfl k) ?_
    show Go _ _ _ _ _ T26 (mkF m 63 #[.val (.int p1), .val (.int p2), .val (.int p3), .val (.int (255 : Int32)), .val (.int (254 : Int32)), .val (.int (1 : Int32)), .val (.int (0 : Int32)), .unset, .unset] [])
    refine own_go (fun t k => XS.iload X26.here hx rfl (hb hby at_63) rfl k) ?_
    show Go _ _ _ _ _ T26 (mkF m 65 #[.val (.int p1), .val (.int p2), .val (.int p3), .val (.int (255 : Int32)), .val (.int (254 : Int32)), .val (.int (1 : Int32)), .val (.int (0 : Int32)), .unset, .unset] [(.int (1 : Int32))])
    refine own_go (fun t k => XS.ifNo X26.here hx rfl (hb hby at_65) rfl (by decide) k) ?_
    show Go _ _ _ _ _ T26 (mkF m 68 #[.val (.int p1), .val (.int p2), .val (.int p3), .val (.int (255 : Int32)), .val (.int (254 : Int32)), .val (.int (1 : Int32)), .val (.int (0 : Int32)), .unset, .unset] [])
    refine own_go (fun t k => XS.iload X26.here hx rfl (hb hby at_68) rfl k) ?_
    show Go _ _ _ _ _ T26 (mkF m 70 #[.val (.int p1), .val (.int p2), .val (.int p3), .val (.int (255 : Int32)), .val (.int (254 : Int32)), .val (.int (1 : Int32)), .val (.int (0 : Int32)), .unset, .unset] [(.int (254 : Int32))])
    refine own_go (fun t k => XS.bipush X26.here hx rfl (hb hby at_70) k) ?_
    show Go _ _ _ _ _ T26 (mkF m 72 #[.val (.int p1), .val (.int p2), .val (.int p3), .val (.int (255 : Int32)), .val (.int (254 : Int32)), .val (.int (1 : Int32)), .val (.int (0 : Int32)), .unset, .unset] [(.int (8 : Int32)), (.int (254 : Int32))])
    refine own_go (fun t k => XS.ishl X26.here hx rfl (hb hby at_72) rfl k) ?_
    show Go _ _ _ _ _ T26 (mkF m 73 #[.val (.int p1), .val (.int p2), .val (.int p3), .val (.int (255 : Int32)), .val (.int (254 : Int32)), .val (.int (1 : Int32)), .val (.int (0 : Int32)), .unset, .unset] [(.int (65024 : Int32))])
    refine own_go (fun t k => XS.iloadN X26.here hx rfl (hb hby at_73) rfl k) ?_
    show Go _ _ _ _ _ T26 (mkF m 74 #[.val (.int p1), .val (.int p2), .val (.int p3), .val (.int (255 : Int32)), .val (.int (254 : Int32)), .val (.int (1 : Int32)), .val (.int (0 : Int32)), .unset, .unset] [(.int (255 : Int32)), (.int (65024 : Int32))])
    refine own_go (fun t k => XS.ior X26.here hx rfl (hb hby at_74) rfl k) ?_
    show Go _ _ _ _ _ T26 (mkF m 75 #[.val (.int p1), .val (.int p2), .val (.int p3), .val (.int (255 : Int32)), .val (.int (254 : Int32)), .val (.int (1 : Int32)), .val (.int (0 : Int32)), .unset, .unset] [(.int (65279 : Int32))])
    refine own_go (fun t k => X26.ldcInt hx hown (mvT hZ (hw _ (List.mem_of_getElem? (i := 4) rfl))) (g := (mkF m 75 #[.val (.int p1), .val (.int p2), .val (.int p3), .val (.int (255 : Int32)), .val (.int (254 : Int32)), .val (.int (1 : Int32)), .val (.int (0 : Int32)), .unset, .unset] [(.int (65279 : Int32))])) rfl (hb hby at_75) _ k) ?_
    show Go _ _ _ _ _ T26 (mkF m 77 #[.val (.int p1), .val (.int p2), .val (.int p3), .val (.int (255 : Int32)), .val (.int (254 : Int32)), .val (.int (1 : Int32)), .val (.int (0 : Int32)), .unset, .unset] [(.int (65279 : Int32)), (.int (65279 : Int32))])
    refine own_go (fun t k => XS.icmpNo X26.here hx rfl (hb hby at_77) rfl (by decide) k) ?_
    show Go _ _ _ _ _ T26 (mkF m 80 #[.val (.int p1), .val (.int p2), .val (.int p3), .val (.int (255 : Int32)), .val (.int (254 : Int32)), .val (.int (1 : Int32)), .val (.int (0 : Int32)), .unset, .unset] [])
    refine own_go (fun t k => XS.iconst X26.here hx rfl (hb hby at_80) k) ?_
    show Go _ _ _ _ _ T26 (mkF m 81 #[.val (.int p1), .val (.int p2), .val (.int p3), .val (.int (255 : Int32)), .val (.int (254 : Int32)), .val (.int (1 : Int32)), .val (.int (0 : Int32)), .unset, .unset] [(.int (1 : Int32))])
    refine own_go (fun t k => XS.goto X26.here hx rfl (pc0 := 81) (pc' := 85) rfl (hb hby at_81) (by decide) (by decide) k) ?_
    show Go _ _ _ _ _ T26 (mkF m 85 #[.val (.int p1), .val (.int p2), .val (.int p3), .val (.int (255 : Int32)), .val (.int (254 : Int32)), .val (.int (1 : Int32)), .val (.int (0 : Int32)), .unset, .unset] [(.int (1 : Int32))])
    refine own_go (fun t k => XS.istore X26.here hx rfl (hb hby at_85) rfl (l' := #[.val (.int p1), .val (.int p2), .val (.int p3), .val (.int (255 : Int32)), .val (.int (254 : Int32)), .val (.int (1 : Int32)), .val (.int (0 : Int32)), .val (.int (1 : Int32)), .unset]) rfl k) ?_
    show Go _ _ _ _ _ T26 (mkF m 87 #[.val (.int p1), .val (.int p2), .val (.int p3), .val (.int (255 : Int32)), .val (.int (254 : Int32)), .val (.int (1 : Int32)), .val (.int (0 : Int32)), .val (.int (1 : Int32)), .unset] [])
    refine own_go (fun t k => XS.iloadN X26.here hx rfl (hb hby at_87) rfl k) ?_
    show Go _ _ _ _ _ T26 (mkF m 88 #[.val (.int p1), .val (.int p2), .val (.int p3), .val (.int (255 : Int32)), .val (.int (254 : Int32)), .val (.int (1 : Int32)), .val (.int (0 : Int32)), .val (.int (1 : Int32)), .unset] [(.int (255 : Int32))])
    refine own_go (fun t k => XS.iload X26.here hx rfl (hb hby at_88) rfl k) ?_
    show Go _ _ _ _ _ T26 (mkF m 90 #[.val (.int p1), .val (.int p2), .val (.int p3), .val (.int (255 : Int32)), .val (.int (254 : Int32)), .val (.int (1 : Int32)), .val (.int (0 : Int32)), .val (.int (1 : Int32)), .unset] [(.int (254 : Int32)), (.int (255 : Int32))])
    refine own_callS X26 hx hZ (y := (⟨"com/example/pair16/pair16/ByteOrderMark", "orderOf", "(II)Ljava/nio/ByteOrder;"⟩ : MethodName)) hown (hw _ (List.mem_of_getElem? (i := 5) rfl)) (hw _ (List.mem_of_getElem? (i := 6) rfl)) (hw _ (List.mem_of_getElem? (i := 7) rfl)) (hw _ (List.mem_of_getElem? (i := 8) rfl)) (by decide) (rm2 l Z a0 hw [] (255 : Int32) (254 : Int32) w_BIG_ENDIAN w_LITTLE_ENDIAN (.ref w_LITTLE_ENDIAN) h0 n0 hn0 S_BIG_ENDIAN S_LITTLE_ENDIAN (by rw [own_f_rm2, if_neg (show ¬ ((255 : Int32) = (254 : Int32)) by decide), if_pos (show (255 : Int32) = (255 : Int32) from rfl), if_pos (show (254 : Int32) = (254 : Int32) from rfl)]; try first | rfl | decide)) e26 (by rw [hml]; rfl) (argsL := [(.int (255 : Int32)), (.int (254 : Int32))]) (rest := []) rfl rfl (lenOf own_pd1 rfl) (W := 0) (Nat.le_of_eq rfl) (by decide) (by decide) (hb hby at_90) (by decide) (by decide) ?_
    intro v29 T29 L29 X29 q29
    obtain ⟨rfl, N29q, e29⟩ := q29
    have N29 := Fr.app N26 N29q
    show Go _ _ _ _ _ T29 (mkF m 93 #[.val (.int p1), .val (.int p2), .val (.int p3), .val (.int (255 : Int32)), .val (.int (254 : Int32)), .val (.int (1 : Int32)), .val (.int (0 : Int32)), .val (.int (1 : Int32)), .unset] [(.ref w_LITTLE_ENDIAN)])
    refine own_go (fun t k => XS.astore X29.here hx rfl (hb hby at_93) rfl rfl (l' := #[.val (.int p1), .val (.int p2), .val (.int p3), .val (.int (255 : Int32)), .val (.int (254 : Int32)), .val (.int (1 : Int32)), .val (.int (0 : Int32)), .val (.int (1 : Int32)), .val (.ref w_LITTLE_ENDIAN)]) rfl k) ?_
    show Go _ _ _ _ _ T29 (mkF m 95 #[.val (.int p1), .val (.int p2), .val (.int p3), .val (.int (255 : Int32)), .val (.int (254 : Int32)), .val (.int (1 : Int32)), .val (.int (0 : Int32)), .val (.int (1 : Int32)), .val (.ref w_LITTLE_ENDIAN)] [])
    refine own_go (fun t k => XS.iload X29.here hx rfl (hb hby at_95) rfl k) ?_
    show Go _ _ _ _ _ T29 (mkF m 97 #[.val (.int p1), .val (.int p2), .val (.int p3), .val (.int (255 : Int32)), .val (.int (254 : Int32)), .val (.int (1 : Int32)), .val (.int (0 : Int32)), .val (.int (1 : Int32)), .val (.ref w_LITTLE_ENDIAN)] [(.int (0 : Int32))])
    refine own_go (fun t k => XS.ifYes X29.here hx rfl (pc0 := 97) (pc' := 114) rfl (hb hby at_97) rfl (by decide) (by decide) (by decide) k) ?_
    show Go _ _ _ _ _ T29 (mkF m 114 #[.val (.int p1), .val (.int p2), .val (.int p3), .val (.int (255 : Int32)), .val (.int (254 : Int32)), .val (.int (1 : Int32)), .val (.int (0 : Int32)), .val (.int (1 : Int32)), .val (.ref w_LITTLE_ENDIAN)] [])
    refine own_go (fun t k => XS.iload X29.here hx rfl (hb hby at_114) rfl k) ?_
    show Go _ _ _ _ _ T29 (mkF m 116 #[.val (.int p1), .val (.int p2), .val (.int p3), .val (.int (255 : Int32)), .val (.int (254 : Int32)), .val (.int (1 : Int32)), .val (.int (0 : Int32)), .val (.int (1 : Int32)), .val (.ref w_LITTLE_ENDIAN)] [(.int (1 : Int32))])
    refine own_go (fun t k => XS.ifNo X29.here hx rfl (hb hby at_116) rfl (by decide) k) ?_
    show Go _ _ _ _ _ T29 (mkF m 119 #[.val (.int p1), .val (.int p2), .val (.int p3), .val (.int (255 : Int32)), .val (.int (254 : Int32)), .val (.int (1 : Int32)), .val (.int (0 : Int32)), .val (.int (1 : Int32)), .val (.ref w_LITTLE_ENDIAN)] [])
    refine own_go (fun t k => XS.aload X29.here hx rfl (hb hby at_119) rfl rfl k) ?_
    show Go _ _ _ _ _ T29 (mkF m 121 #[.val (.int p1), .val (.int p2), .val (.int p3), .val (.int (255 : Int32)), .val (.int (254 : Int32)), .val (.int (1 : Int32)), .val (.int (0 : Int32)), .val (.int (1 : Int32)), .val (.ref w_LITTLE_ENDIAN)] [(.ref w_LITTLE_ENDIAN)])
    obtain ⟨T30, X30, e30, st30⟩ := getS2 X29 hx hZ hown (host := "") (Or.inl (hw _ (List.mem_of_getElem? (i := 13) rfl))) Via.refl e29 S_LITTLE_ENDIAN (g := (mkF m 121 #[.val (.int p1), .val (.int p2), .val (.int p3), .val (.int (255 : Int32)), .val (.int (254 : Int32)), .val (.int (1 : Int32)), .val (.int (0 : Int32)), .val (.int (1 : Int32)), .val (.ref w_LITTLE_ENDIAN)] [(.ref w_LITTLE_ENDIAN)])) rfl (hb hby at_121)
    refine own_go (fun t k => st30 t k) ?_
    show Go _ _ _ _ _ T30 (mkF m 124 #[.val (.int p1), .val (.int p2), .val (.int p3), .val (.int (255 : Int32)), .val (.int (254 : Int32)), .val (.int (1 : Int32)), .val (.int (0 : Int32)), .val (.int (1 : Int32)), .val (.ref w_LITTLE_ENDIAN)] [(.ref w_LITTLE_ENDIAN), (.ref w_LITTLE_ENDIAN)])
    refine own_go (fun t k => Jvm.RoadKit.acmp (g := (mkF m 124 #[.val (.int p1), .val (.int p2), .val (.int p3), .val (.int (255 : Int32)), .val (.int (254 : Int32)), .val (.int (1 : Int32)), .val (.int (0 : Int32)), .val (.int (1 : Int32)), .val (.ref w_LITTLE_ENDIAN)] [(.ref w_LITTLE_ENDIAN), (.ref w_LITTLE_ENDIAN)])) X30 hx rfl rfl rfl (pc0 := 124) (pc' := 127) (same := true) rfl (hb hby at_124) rfl (decide_eq_true rfl) (by decide) (by decide) k) ?_
    show Go _ _ _ _ _ T30 (mkF m 127 #[.val (.int p1), .val (.int p2), .val (.int p3), .val (.int (255 : Int32)), .val (.int (254 : Int32)), .val (.int (1 : Int32)), .val (.int (0 : Int32)), .val (.int (1 : Int32)), .val (.ref w_LITTLE_ENDIAN)] [])
    refine own_go (fun t k => XS.iconst X30.here hx rfl (hb hby at_127) k) ?_
    show Go _ _ _ _ _ T30 (mkF m 128 #[.val (.int p1), .val (.int p2), .val (.int p3), .val (.int (255 : Int32)), .val (.int (254 : Int32)), .val (.int (1 : Int32)), .val (.int (0 : Int32)), .val (.int (1 : Int32)), .val (.ref w_LITTLE_ENDIAN)] [(.int (1 : Int32))])
    refine own_go (fun t k => XS.goto X30.here hx rfl (pc0 := 128) (pc' := 132) rfl (hb hby at_128) (by decide) (by decide) k) ?_
    show Go _ _ _ _ _ T30 (mkF m 132 #[.val (.int p1), .val (.int p2), .val (.int p3), .val (.int (255 : Int32)), .val (.int (254 : Int32)), .val (.int (1 : Int32)), .val (.int (0 : Int32)), .val (.int (1 : Int32)), .val (.ref w_LITTLE_ENDIAN)] [(.int (1 : Int32))])
    refine own_retN X30 hx (own_lvN X30 hlk (by decide) (by decide)) (t := .boolean) hret (by simp) (hb hby at_132) ?_
    exact ⟨rfl, N29⟩
  · skip
    show Go _ _ _ _ _ T26 (mkF m 15 #[.val (.int p1), .val (.int p2), .val (.int p3), .val (.int u), .val (.int v), .unset, .unset, .unset, .unset] [])
    refine own_go (fun t k => XS.iloadN X26.here hx rfl (hb hby at_15) rfl k) ?_
    show Go _ _ _ _ _ T26 (mkF m 16 #[.val (.int p1), .val (.int p2), .val (.int p3), .val (.int u), .val (.int v), .unset, .unset, .unset, .unset] [(.int u)])
    refine own_go (fun t k => XS.sipush X26.here hx rfl (hb hby at_16) k) ?_
    show Go _ _ _ _ _ T26 (mkF m 19 #[.val (.int p1), .val (.int p2), .val (.int p3), .val (.int u), .val (.int v), .unset, .unset, .unset, .unset] [(.int (-256 : Int32)), (.int u)])
    refine own_go (fun t k => XS.iand X26.here hx rfl (hb hby at_19) rfl k) ?_
    show Go _ _ _ _ _ T26 (mkF m 20 #[.val (.int p1), .val (.int p2), .val (.int p3), .val (.int u), .val (.int v), .unset, .unset, .unset, .unset] [(.int (u &&& (-256 : Int32)))])
    refine own_ifM ((u &&& (-256 : Int32)) = (0 : Int32)) X26 hx (hb hby at_20) (own_ne _ _) (by decide) (by decide) (pc' := 36) (fun hc31 => ?_) (fun hc31 => ?_)
    · skip
      show Go _ _ _ _ _ T26 (mkF m 36 #[.val (.int p1), .val (.int p2), .val (.int p3), .val (.int u), .val (.int v), .unset, .unset, .unset, .unset] [])
      refine own_go (fun t k => XS.iconst X26.here hx rfl (hb hby at_36) k) ?_
      show Go _ _ _ _ _ T26 (mkF m 37 #[.val (.int p1), .val (.int p2), .val (.int p3), .val (.int u), .val (.int v), .unset, .unset, .unset, .unset] [(.int (0 : Int32))])
      refine own_go (fun t k => XS.istore X26.here hx rfl (hb hby at_37) rfl (l' := #[.val (.int p1), .val (.int p2), .val (.int p3), .val (.int u), .val (.int v), .val (.int (0 : Int32)), .unset, .unset, .unset]) rfl k) ?_
      show Go _ _ _ _ _ T26 (mkF m 39 #[.val (.int p1), .val (.int p2), .val (.int p3), .val (.int u), .val (.int v), .val (.int (0 : Int32)), .unset, .unset, .unset] [])
      refine own_go (fun t k => XS.iload X26.here hx rfl (hb hby at_39) rfl k) ?_
      show Go _ _ _ _ _ T26 (mkF m 41 #[.val (.int p1), .val (.int p2), .val (.int p3), .val (.int u), .val (.int v), .val (.int (0 : Int32)), .unset, .unset, .unset] [(.int (0 : Int32))])
      refine own_go (fun t k => XS.ifYes X26.here hx rfl (pc0 := 41) (pc' := 60) rfl (hb hby at_41) rfl (by decide) (by decide) (by decide) k) ?_
      show Go _ _ _ _ _ T26 (mkF m 60 #[.val (.int p1), .val (.int p2), .val (.int p3), .val (.int u), .val (.int v), .val (.int (0 : Int32)), .unset, .unset, .unset] [])
      refine own_go (fun t k => XS.iconst X26.here hx rfl (hb hby at_60) k) ?_
      show Go _ _ _ _ _ T26 (mkF m 61 #[.val (.int p1), .val (.int p2), .val (.int p3), .val (.int u), .val (.int v), .val (.int (0 : Int32)), .unset, .unset, .unset] [(.int (0 : Int32))])
      refine own_go (fun t k => XS.istore X26.here hx rfl (hb hby at_61) rfl (l' := #[.val (.int p1), .val (.int p2), .val (.int p3), .val (.int u), .val (.int v), .val (.int (0 : Int32)), .val (.int (0 : Int32)), .unset, .unset]) rfl k) ?_
      show Go _ _ _ _ _ T26 (mkF m 63 #[.val (.int p1), .val (.int p2), .val (.int p3), .val (.int u), .val (.int v), .val (.int (0 : Int32)), .val (.int (0 : Int32)), .unset, .unset] [])
      refine own_go (fun t k => XS.iload X26.here hx rfl (hb hby at_63) rfl k) ?_
      show Go _ _ _ _ _ T26 (mkF m 65 #[.val (.int p1), .val (.int p2), .val (.int p3), .val (.int u), .val (.int v), .val (.int (0 : Int32)), .val (.int (0 : Int32)), .unset, .unset] [(.int (0 : Int32))])
      refine own_go (fun t k => XS.ifYes X26.here hx rfl (pc0 := 65) (pc' := 84) rfl (hb hby at_65) rfl (by decide) (by decide) (by decide) k) ?_
      show Go _ _ _ _ _ T26 (mkF m 84 #[.val (.int p1), .val (.int p2), .val (.int p3), .val (.int u), .val (.int v), .val (.int (0 : Int32)), .val (.int (0 : Int32)), .unset, .unset] [])
      refine own_go (fun t k => XS.iconst X26.here hx rfl (hb hby at_84) k) ?_
      show Go _ _ _ _ _ T26 (mkF m 85 #[.val (.int p1), .val (.int p2), .val (.int p3), .val (.int u), .val (.int v), .val (.int (0 : Int32)), .val (.int (0 : Int32)), .unset, .unset] [(.int (0 : Int32))])
      refine own_go (fun t k => XS.istore X26.here hx rfl (hb hby at_85) rfl (l' := #[.val (.int p1), .val (.int p2), .val (.int p3), .val (.int u), .val (.int v), .val (.int (0 : Int32)), .val (.int (0 : Int32)), .val (.int (0 : Int32)), .unset]) rfl k) ?_
      show Go _ _ _ _ _ T26 (mkF m 87 #[.val (.int p1), .val (.int p2), .val (.int p3), .val (.int u), .val (.int v), .val (.int (0 : Int32)), .val (.int (0 : Int32)), .val (.int (0 : Int32)), .unset] [])
      refine own_go (fun t k => XS.iloadN X26.here hx rfl (hb hby at_87) rfl k) ?_
      show Go _ _ _ _ _ T26 (mkF m 88 #[.val (.int p1), .val (.int p2), .val (.int p3), .val (.int u), .val (.int v), .val (.int (0 : Int32)), .val (.int (0 : Int32)), .val (.int (0 : Int32)), .unset] [(.int u)])
      refine own_go (fun t k => XS.iload X26.here hx rfl (hb hby at_88) rfl k) ?_
      show Go _ _ _ _ _ T26 (mkF m 90 #[.val (.int p1), .val (.int p2), .val (.int p3), .val (.int u), .val (.int v), .val (.int (0 : Int32)), .val (.int (0 : Int32)), .val (.int (0 : Int32)), .unset] [(.int v), (.int u)])
      refine own_callS X26 hx hZ (y := (⟨"com/example/pair16/pair16/ByteOrderMark", "orderOf", "(II)Ljava/nio/ByteOrder;"⟩ : MethodName)) hown (hw _ (List.mem_of_getElem? (i := 5) rfl)) (hw _ (List.mem_of_getElem? (i := 6) rfl)) (hw _ (List.mem_of_getElem? (i := 7) rfl)) (hw _ (List.mem_of_getElem? (i := 8) rfl)) (by decide) (rm2 l Z a0 hw [] u v w_BIG_ENDIAN w_LITTLE_ENDIAN (.null) h0 n0 hn0 S_BIG_ENDIAN S_LITTLE_ENDIAN (by rw [own_f_rm2, if_pos b1, if_neg b3, if_neg b2]; try first | rfl | decide)) e26 (by rw [hml]; rfl) (argsL := [(.int u), (.int v)]) (rest := []) rfl rfl (lenOf own_pd1 rfl) (W := 0) (Nat.le_of_eq rfl) (by decide) (by decide) (hb hby at_90) (by decide) (by decide) ?_
      intro v32 T32 L32 X32 q32
      obtain ⟨rfl, N32q, e32⟩ := q32
      have N32 := Fr.app N26 N32q
      show Go _ _ _ _ _ T32 (mkF m 93 #[.val (.int p1), .val (.int p2), .val (.int p3), .val (.int u), .val (.int v), .val (.int (0 : Int32)), .val (.int (0 : Int32)), .val (.int (0 : Int32)), .unset] [.null])
      refine own_go (fun t k => XS.astore X32.here hx rfl (hb hby at_93) rfl rfl (l' := #[.val (.int p1), .val (.int p2), .val (.int p3), .val (.int u), .val (.int v), .val (.int (0 : Int32)), .val (.int (0 : Int32)), .val (.int (0 : Int32)), .val .null]) rfl k) ?_
      show Go _ _ _ _ _ T32 (mkF m 95 #[.val (.int p1), .val (.int p2), .val (.int p3), .val (.int u), .val (.int v), .val (.int (0 : Int32)), .val (.int (0 : Int32)), .val (.int (0 : Int32)), .val .null] [])
      refine own_go (fun t k => XS.iload X32.here hx rfl (hb hby at_95) rfl k) ?_
      show Go _ _ _ _ _ T32 (mkF m 97 #[.val (.int p1), .val (.int p2), .val (.int p3), .val (.int u), .val (.int v), .val (.int (0 : Int32)), .val (.int (0 : Int32)), .val (.int (0 : Int32)), .val .null] [(.int (0 : Int32))])
      refine own_go (fun t k => XS.ifYes X32.here hx rfl (pc0 := 97) (pc' := 114) rfl (hb hby at_97) rfl (by decide) (by decide) (by decide) k) ?_
      show Go _ _ _ _ _ T32 (mkF m 114 #[.val (.int p1), .val (.int p2), .val (.int p3), .val (.int u), .val (.int v), .val (.int (0 : Int32)), .val (.int (0 : Int32)), .val (.int (0 : Int32)), .val .null] [])
      refine own_go (fun t k => XS.iload X32.here hx rfl (hb hby at_114) rfl k) ?_
      show Go _ _ _ _ _ T32 (mkF m 116 #[.val (.int p1), .val (.int p2), .val (.int p3), .val (.int u), .val (.int v), .val (.int (0 : Int32)), .val (.int (0 : Int32)), .val (.int (0 : Int32)), .val .null] [(.int (0 : Int32))])
      refine own_go (fun t k => XS.ifYes X32.here hx rfl (pc0 := 116) (pc' := 133) rfl (hb hby at_116) rfl (by decide) (by decide) (by decide) k) ?_
      show Go _ _ _ _ _ T32 (mkF m 133 #[.val (.int p1), .val (.int p2), .val (.int p3), .val (.int u), .val (.int v), .val (.int (0 : Int32)), .val (.int (0 : Int32)), .val (.int (0 : Int32)), .val .null] [])
      refine own_go (fun t k => XS.aload X32.here hx rfl (hb hby at_133) rfl rfl k) ?_
      show Go _ _ _ _ _ T32 (mkF m 135 #[.val (.int p1), .val (.int p2), .val (.int p3), .val (.int u), .val (.int v), .val (.int (0 : Int32)), .val (.int (0 : Int32)), .val (.int (0 : Int32)), .val .null] [.null])
      refine own_go (fun t k => XS.ifnonnullNo X32.here hx rfl (hb hby at_135) rfl k) ?_
      show Go _ _ _ _ _ T32 (mkF m 138 #[.val (.int p1), .val (.int p2), .val (.int p3), .val (.int u), .val (.int v), .val (.int (0 : Int32)), .val (.int (0 : Int32)), .val (.int (0 : Int32)), .val .null] [])
      refine own_go (fun t k => XS.iconst X32.here hx rfl (hb hby at_138) k) ?_
      show Go _ _ _ _ _ T32 (mkF m 139 #[.val (.int p1), .val (.int p2), .val (.int p3), .val (.int u), .val (.int v), .val (.int (0 : Int32)), .val (.int (0 : Int32)), .val (.int (0 : Int32)), .val .null] [(.int (1 : Int32))])
      refine own_go (fun t k => XS.goto X32.here hx rfl (pc0 := 139) (pc' := 143) rfl (hb hby at_139) (by decide) (by decide) k) ?_
      show Go _ _ _ _ _ T32 (mkF m 143 #[.val (.int p1), .val (.int p2), .val (.int p3), .val (.int u), .val (.int v), .val (.int (0 : Int32)), .val (.int (0 : Int32)), .val (.int (0 : Int32)), .val .null] [(.int (1 : Int32))])
      refine own_retN X32 hx (own_lvN X32 hlk (by decide) (by decide)) (t := .boolean) hret (by simp) (hb hby at_143) ?_
      exact ⟨rfl, N32⟩
    · skip
      show Go _ _ _ _ _ T26 (mkF m 23 #[.val (.int p1), .val (.int p2), .val (.int p3), .val (.int u), .val (.int v), .unset, .unset, .unset, .unset] [])
      refine own_go (fun t k => XS.iload X26.here hx rfl (hb hby at_23) rfl k) ?_
      show Go _ _ _ _ _ T26 (mkF m 25 #[.val (.int p1), .val (.int p2), .val (.int p3), .val (.int u), .val (.int v), .unset, .unset, .unset, .unset] [(.int v)])
      refine own_go (fun t k => XS.sipush X26.here hx rfl (hb hby at_25) k) ?_
      show Go _ _ _ _ _ T26 (mkF m 28 #[.val (.int p1), .val (.int p2), .val (.int p3), .val (.int u), .val (.int v), .unset, .unset, .unset, .unset] [(.int (-256 : Int32)), (.int v)])
      refine own_go (fun t k => XS.iand X26.here hx rfl (hb hby at_28) rfl k) ?_
      show Go _ _ _ _ _ T26 (mkF m 29 #[.val (.int p1), .val (.int p2), .val (.int p3), .val (.int u), .val (.int v), .unset, .unset, .unset, .unset] [(.int (v &&& (-256 : Int32)))])
      refine own_ifM ((v &&& (-256 : Int32)) = (0 : Int32)) X26 hx (hb hby at_29) (own_ne _ _) (by decide) (by decide) (pc' := 36) (fun hc33 => ?_) (fun hc33 => ?_)
      · skip
        show Go _ _ _ _ _ T26 (mkF m 36 #[.val (.int p1), .val (.int p2), .val (.int p3), .val (.int u), .val (.int v), .unset, .unset, .unset, .unset] [])
        refine own_go (fun t k => XS.iconst X26.here hx rfl (hb hby at_36) k) ?_
        show Go _ _ _ _ _ T26 (mkF m 37 #[.val (.int p1), .val (.int p2), .val (.int p3), .val (.int u), .val (.int v), .unset, .unset, .unset, .unset] [(.int (0 : Int32))])
        refine own_go (fun t k => XS.istore X26.here hx rfl (hb hby at_37) rfl (l' := #[.val (.int p1), .val (.int p2), .val (.int p3), .val (.int u), .val (.int v), .val (.int (0 : Int32)), .unset, .unset, .unset]) rfl k) ?_
        show Go _ _ _ _ _ T26 (mkF m 39 #[.val (.int p1), .val (.int p2), .val (.int p3), .val (.int u), .val (.int v), .val (.int (0 : Int32)), .unset, .unset, .unset] [])
        refine own_go (fun t k => XS.iload X26.here hx rfl (hb hby at_39) rfl k) ?_
        show Go _ _ _ _ _ T26 (mkF m 41 #[.val (.int p1), .val (.int p2), .val (.int p3), .val (.int u), .val (.int v), .val (.int (0 : Int32)), .unset, .unset, .unset] [(.int (0 : Int32))])
        refine own_go (fun t k => XS.ifYes X26.here hx rfl (pc0 := 41) (pc' := 60) rfl (hb hby at_41) rfl (by decide) (by decide) (by decide) k) ?_
        show Go _ _ _ _ _ T26 (mkF m 60 #[.val (.int p1), .val (.int p2), .val (.int p3), .val (.int u), .val (.int v), .val (.int (0 : Int32)), .unset, .unset, .unset] [])
        refine own_go (fun t k => XS.iconst X26.here hx rfl (hb hby at_60) k) ?_
        show Go _ _ _ _ _ T26 (mkF m 61 #[.val (.int p1), .val (.int p2), .val (.int p3), .val (.int u), .val (.int v), .val (.int (0 : Int32)), .unset, .unset, .unset] [(.int (0 : Int32))])
        refine own_go (fun t k => XS.istore X26.here hx rfl (hb hby at_61) rfl (l' := #[.val (.int p1), .val (.int p2), .val (.int p3), .val (.int u), .val (.int v), .val (.int (0 : Int32)), .val (.int (0 : Int32)), .unset, .unset]) rfl k) ?_
        show Go _ _ _ _ _ T26 (mkF m 63 #[.val (.int p1), .val (.int p2), .val (.int p3), .val (.int u), .val (.int v), .val (.int (0 : Int32)), .val (.int (0 : Int32)), .unset, .unset] [])
        refine own_go (fun t k => XS.iload X26.here hx rfl (hb hby at_63) rfl k) ?_
        show Go _ _ _ _ _ T26 (mkF m 65 #[.val (.int p1), .val (.int p2), .val (.int p3), .val (.int u), .val (.int v), .val (.int (0 : Int32)), .val (.int (0 : Int32)), .unset, .unset] [(.int (0 : Int32))])
        refine own_go (fun t k => XS.ifYes X26.here hx rfl (pc0 := 65) (pc' := 84) rfl (hb hby at_65) rfl (by decide) (by decide) (by decide) k) ?_
        show Go _ _ _ _ _ T26 (mkF m 84 #[.val (.int p1), .val (.int p2), .val (.int p3), .val (.int u), .val (.int v), .val (.int (0 : Int32)), .val (.int (0 : Int32)), .unset, .unset] [])
        refine own_go (fun t k => XS.iconst X26.here hx rfl (hb hby at_84) k) ?_
        show Go _ _ _ _ _ T26 (mkF m 85 #[.val (.int p1), .val (.int p2), .val (.int p3), .val (.int u), .val (.int v), .val (.int (0 : Int32)), .val (.int (0 : Int32)), .unset, .unset] [(.int (0 : Int32))])
        refine own_go (fun t k => XS.istore X26.here hx rfl (hb hby at_85) rfl (l' := #[.val (.int p1), .val (.int p2), .val (.int p3), .val (.int u), .val (.int v), .val (.int (0 : Int32)), .val (.int (0 : Int32)), .val (.int (0 : Int32)), .unset]) rfl k) ?_
        show Go _ _ _ _ _ T26 (mkF m 87 #[.val (.int p1), .val (.int p2), .val (.int p3), .val (.int u), .val (.int v), .val (.int (0 : Int32)), .val (.int (0 : Int32)), .val (.int (0 : Int32)), .unset] [])
        refine own_go (fun t k => XS.iloadN X26.here hx rfl (hb hby at_87) rfl k) ?_
        show Go _ _ _ _ _ T26 (mkF m 88 #[.val (.int p1), .val (.int p2), .val (.int p3), .val (.int u), .val (.int v), .val (.int (0 : Int32)), .val (.int (0 : Int32)), .val (.int (0 : Int32)), .unset] [(.int u)])
        refine own_go (fun t k => XS.iload X26.here hx rfl (hb hby at_88) rfl k) ?_
        show Go _ _ _ _ _ T26 (mkF m 90 #[.val (.int p1), .val (.int p2), .val (.int p3), .val (.int u), .val (.int v), .val (.int (0 : Int32)), .val (.int (0 : Int32)), .val (.int (0 : Int32)), .unset] [(.int v), (.int u)])
        refine own_callS X26 hx hZ (y := (⟨"com/example/pair16/pair16/ByteOrderMark", "orderOf", "(II)Ljava/nio/ByteOrder;"⟩ : MethodName)) hown (hw _ (List.mem_of_getElem? (i := 5) rfl)) (hw _ (List.mem_of_getElem? (i := 6) rfl)) (hw _ (List.mem_of_getElem? (i := 7) rfl)) (hw _ (List.mem_of_getElem? (i := 8) rfl)) (by decide) (rm2 l Z a0 hw [] u v w_BIG_ENDIAN w_LITTLE_ENDIAN (.null) h0 n0 hn0 S_BIG_ENDIAN S_LITTLE_ENDIAN (by rw [own_f_rm2, if_pos b1, if_neg b3, if_neg b2]; try first | rfl | decide)) e26 (by rw [hml]; rfl) (argsL := [(.int u), (.int v)]) (rest := []) rfl rfl (lenOf own_pd1 rfl) (W := 0) (Nat.le_of_eq rfl) (by decide) (by decide) (hb hby at_90) (by decide) (by decide) ?_
        intro v34 T34 L34 X34 q34
        obtain ⟨rfl, N34q, e34⟩ := q34
        have N34 := Fr.app N26 N34q
        show Go _ _ _ _ _ T34 (mkF m 93 #[.val (.int p1), .val (.int p2), .val (.int p3), .val (.int u), .val (.int v), .val (.int (0 : Int32)), .val (.int (0 : Int32)), .val (.int (0 : Int32)), .unset] [.null])
        refine own_go (fun t k => XS.astore X34.here hx rfl (hb hby at_93) rfl rfl (l' := #[.val (.int p1), .val (.int p2), .val (.int p3), .val (.int u), .val (.int v), .val (.int (0 : Int32)), .val (.int (0 : Int32)), .val (.int (0 : Int32)), .val .null]) rfl k) ?_
        show Go _ _ _ _ _ T34 (mkF m 95 #[.val (.int p1), .val (.int p2), .val (.int p3), .val (.int u), .val (.int v), .val (.int (0 : Int32)), .val (.int (0 : Int32)), .val (.int (0 : Int32)), .val .null] [])
        refine own_go (fun t k => XS.iload X34.here hx rfl (hb hby at_95) rfl k) ?_
        show Go _ _ _ _ _ T34 (mkF m 97 #[.val (.int p1), .val (.int p2), .val (.int p3), .val (.int u), .val (.int v), .val (.int (0 : Int32)), .val (.int (0 : Int32)), .val (.int (0 : Int32)), .val .null] [(.int (0 : Int32))])
        refine own_go (fun t k => XS.ifYes X34.here hx rfl (pc0 := 97) (pc' := 114) rfl (hb hby at_97) rfl (by decide) (by decide) (by decide) k) ?_
        show Go _ _ _ _ _ T34 (mkF m 114 #[.val (.int p1), .val (.int p2), .val (.int p3), .val (.int u), .val (.int v), .val (.int (0 : Int32)), .val (.int (0 : Int32)), .val (.int (0 : Int32)), .val .null] [])
        refine own_go (fun t k => XS.iload X34.here hx rfl (hb hby at_114) rfl k) ?_
        show Go _ _ _ _ _ T34 (mkF m 116 #[.val (.int p1), .val (.int p2), .val (.int p3), .val (.int u), .val (.int v), .val (.int (0 : Int32)), .val (.int (0 : Int32)), .val (.int (0 : Int32)), .val .null] [(.int (0 : Int32))])
        refine own_go (fun t k => XS.ifYes X34.here hx rfl (pc0 := 116) (pc' := 133) rfl (hb hby at_116) rfl (by decide) (by decide) (by decide) k) ?_
        show Go _ _ _ _ _ T34 (mkF m 133 #[.val (.int p1), .val (.int p2), .val (.int p3), .val (.int u), .val (.int v), .val (.int (0 : Int32)), .val (.int (0 : Int32)), .val (.int (0 : Int32)), .val .null] [])
        refine own_go (fun t k => XS.aload X34.here hx rfl (hb hby at_133) rfl rfl k) ?_
        show Go _ _ _ _ _ T34 (mkF m 135 #[.val (.int p1), .val (.int p2), .val (.int p3), .val (.int u), .val (.int v), .val (.int (0 : Int32)), .val (.int (0 : Int32)), .val (.int (0 : Int32)), .val .null] [.null])
        refine own_go (fun t k => XS.ifnonnullNo X34.here hx rfl (hb hby at_135) rfl k) ?_
        show Go _ _ _ _ _ T34 (mkF m 138 #[.val (.int p1), .val (.int p2), .val (.int p3), .val (.int u), .val (.int v), .val (.int (0 : Int32)), .val (.int (0 : Int32)), .val (.int (0 : Int32)), .val .null] [])
        refine own_go (fun t k => XS.iconst X34.here hx rfl (hb hby at_138) k) ?_
        show Go _ _ _ _ _ T34 (mkF m 139 #[.val (.int p1), .val (.int p2), .val (.int p3), .val (.int u), .val (.int v), .val (.int (0 : Int32)), .val (.int (0 : Int32)), .val (.int (0 : Int32)), .val .null] [(.int (1 : Int32))])
        refine own_go (fun t k => XS.goto X34.here hx rfl (pc0 := 139) (pc' := 143) rfl (hb hby at_139) (by decide) (by decide) k) ?_
        show Go _ _ _ _ _ T34 (mkF m 143 #[.val (.int p1), .val (.int p2), .val (.int p3), .val (.int u), .val (.int v), .val (.int (0 : Int32)), .val (.int (0 : Int32)), .val (.int (0 : Int32)), .val .null] [(.int (1 : Int32))])
        refine own_retN X34 hx (own_lvN X34 hlk (by decide) (by decide)) (t := .boolean) hret (by simp) (hb hby at_143) ?_
        exact ⟨rfl, N34⟩
      · skip
        show Go _ _ _ _ _ T26 (mkF m 32 #[.val (.int p1), .val (.int p2), .val (.int p3), .val (.int u), .val (.int v), .unset, .unset, .unset, .unset] [])
        refine own_go (fun t k => XS.iconst X26.here hx rfl (hb hby at_32) k) ?_
        show Go _ _ _ _ _ T26 (mkF m 33 #[.val (.int p1), .val (.int p2), .val (.int p3), .val (.int u), .val (.int v), .unset, .unset, .unset, .unset] [(.int (1 : Int32))])
        refine own_go (fun t k => XS.goto X26.here hx rfl (pc0 := 33) (pc' := 37) rfl (hb hby at_33) (by decide) (by decide) k) ?_
        show Go _ _ _ _ _ T26 (mkF m 37 #[.val (.int p1), .val (.int p2), .val (.int p3), .val (.int u), .val (.int v), .unset, .unset, .unset, .unset] [(.int (1 : Int32))])
        refine own_go (fun t k => XS.istore X26.here hx rfl (hb hby at_37) rfl (l' := #[.val (.int p1), .val (.int p2), .val (.int p3), .val (.int u), .val (.int v), .val (.int (1 : Int32)), .unset, .unset, .unset]) rfl k) ?_
        show Go _ _ _ _ _ T26 (mkF m 39 #[.val (.int p1), .val (.int p2), .val (.int p3), .val (.int u), .val (.int v), .val (.int (1 : Int32)), .unset, .unset, .unset] [])
        refine own_go (fun t k => XS.iload X26.here hx rfl (hb hby at_39) rfl k) ?_
        show Go _ _ _ _ _ T26 (mkF m 41 #[.val (.int p1), .val (.int p2), .val (.int p3), .val (.int u), .val (.int v), .val (.int (1 : Int32)), .unset, .unset, .unset] [(.int (1 : Int32))])
        refine own_go (fun t k => XS.ifNo X26.here hx rfl (hb hby at_41) rfl (by decide) k) ?_
        show Go _ _ _ _ _ T26 (mkF m 44 #[.val (.int p1), .val (.int p2), .val (.int p3), .val (.int u), .val (.int v), .val (.int (1 : Int32)), .unset, .unset, .unset] [])
        refine own_go (fun t k => XS.iloadN X26.here hx rfl (hb hby at_44) rfl k) ?_
        show Go _ _ _ _ _ T26 (mkF m 45 #[.val (.int p1), .val (.int p2), .val (.int p3), .val (.int u), .val (.int v), .val (.int (1 : Int32)), .unset, .unset, .unset] [(.int u)])
        refine own_go (fun t k => XS.bipush X26.here hx rfl (hb hby at_45) k) ?_
        show Go _ _ _ _ _ T26 (mkF m 47 #[.val (.int p1), .val (.int p2), .val (.int p3), .val (.int u), .val (.int v), .val (.int (1 : Int32)), .unset, .unset, .unset] [(.int (8 : Int32)), (.int u)])
        refine own_go (fun t k => XS.ishl X26.here hx rfl (hb hby at_47) rfl k) ?_
        show Go _ _ _ _ _ T26 (mkF m 48 #[.val (.int p1), .val (.int p2), .val (.int p3), .val (.int u), .val (.int v), .val (.int (1 : Int32)), .unset, .unset, .unset] [(.int (u <<< ((8 : Int32) &&& 31)))])
        refine own_go (fun t k => XS.iload X26.here hx rfl (hb hby at_48) rfl k) ?_
        show Go _ _ _ _ _ T26 (mkF m 50 #[.val (.int p1), .val (.int p2), .val (.int p3), .val (.int u), .val (.int v), .val (.int (1 : Int32)), .unset, .unset, .unset] [(.int v), (.int (u <<< ((8 : Int32) &&& 31)))])
        refine own_go (fun t k => XS.ior X26.here hx rfl (hb hby at_50) rfl k) ?_
        show Go _ _ _ _ _ T26 (mkF m 51 #[.val (.int p1), .val (.int p2), .val (.int p3), .val (.int u), .val (.int v), .val (.int (1 : Int32)), .unset, .unset, .unset] [(.int ((u <<< ((8 : Int32) &&& 31)) ||| v))])
        refine own_go (fun t k => X26.ldcInt hx hown (mvT hZ (hw _ (List.mem_of_getElem? (i := 4) rfl))) (g := (mkF m 51 #[.val (.int p1), .val (.int p2), .val (.int p3), .val (.int u), .val (.int v), .val (.int (1 : Int32)), .unset, .unset, .unset] [(.int ((u <<< ((8 : Int32) &&& 31)) ||| v))])) rfl (hb hby at_51) _ k) ?_
        show Go _ _ _ _ _ T26 (mkF m 53 #[.val (.int p1), .val (.int p2), .val (.int p3), .val (.int u), .val (.int v), .val (.int (1 : Int32)), .unset, .unset, .unset] [(.int (65279 : Int32)), (.int ((u <<< ((8 : Int32) &&& 31)) ||| v))])
        refine own_go (fun t k => XS.icmpYes X26.here hx rfl (pc0 := 53) (pc' := 60) rfl (hb hby at_53) rfl (feq (bN hc31 hc33).1).2 (by decide) (by decide) k) ?_
        show Go _ _ _ _ _ T26 (mkF m 60 #[.val (.int p1), .val (.int p2), .val (.int p3), .val (.int u), .val (.int v), .val (.int (1 : Int32)), .unset, .unset, .unset] [])
        refine own_go (fun t k => XS.iconst X26.here hx rfl (hb hby at_60) k) ?_
        show Go _ _ _ _ _ T26 (mkF m 61 #[.val (.int p1), .val (.int p2), .val (.int p3), .val (.int u), .val (.int v), .val (.int (1 : Int32)), .unset, .unset, .unset] [(.int (0 : Int32))])
        refine own_go (fun t k => XS.istore X26.here hx rfl (hb hby at_61) rfl (l' := #[.val (.int p1), .val (.int p2), .val (.int p3), .val (.int u), .val (.int v), .val (.int (1 : Int32)), .val (.int (0 : Int32)), .unset, .unset]) rfl k) ?_
        show Go _ _ _ _ _ T26 (mkF m 63 #[.val (.int p1), .val (.int p2), .val (.int p3), .val (.int u), .val (.int v), .val (.int (1 : Int32)), .val (.int (0 : Int32)), .unset, .unset] [])
        refine own_go (fun t k => XS.iload X26.here hx rfl (hb hby at_63) rfl k) ?_
        show Go _ _ _ _ _ T26 (mkF m 65 #[.val (.int p1), .val (.int p2), .val (.int p3), .val (.int u), .val (.int v), .val (.int (1 : Int32)), .val (.int (0 : Int32)), .unset, .unset] [(.int (1 : Int32))])
        refine own_go (fun t k => XS.ifNo X26.here hx rfl (hb hby at_65) rfl (by decide) k) ?_
        show Go _ _ _ _ _ T26 (mkF m 68 #[.val (.int p1), .val (.int p2), .val (.int p3), .val (.int u), .val (.int v), .val (.int (1 : Int32)), .val (.int (0 : Int32)), .unset, .unset] [])
        refine own_go (fun t k => XS.iload X26.here hx rfl (hb hby at_68) rfl k) ?_
        show Go _ _ _ _ _ T26 (mkF m 70 #[.val (.int p1), .val (.int p2), .val (.int p3), .val (.int u), .val (.int v), .val (.int (1 : Int32)), .val (.int (0 : Int32)), .unset, .unset] [(.int v)])
        refine own_go (fun t k => XS.bipush X26.here hx rfl (hb hby at_70) k) ?_
        show Go _ _ _ _ _ T26 (mkF m 72 #[.val (.int p1), .val (.int p2), .val (.int p3), .val (.int u), .val (.int v), .val (.int (1 : Int32)), .val (.int (0 : Int32)), .unset, .unset] [(.int (8 : Int32)), (.int v)])
        refine own_go (fun t k => XS.ishl X26.here hx rfl (hb hby at_72) rfl k) ?_
        show Go _ _ _ _ _ T26 (mkF m 73 #[.val (.int p1), .val (.int p2), .val (.int p3), .val (.int u), .val (.int v), .val (.int (1 : Int32)), .val (.int (0 : Int32)), .unset, .unset] [(.int (v <<< ((8 : Int32) &&& 31)))])
        refine own_go (fun t k => XS.iloadN X26.here hx rfl (hb hby at_73) rfl k) ?_
        show Go _ _ _ _ _ T26 (mkF m 74 #[.val (.int p1), .val (.int p2), .val (.int p3), .val (.int u), .val (.int v), .val (.int (1 : Int32)), .val (.int (0 : Int32)), .unset, .unset] [(.int u), (.int (v <<< ((8 : Int32) &&& 31)))])
        refine own_go (fun t k => XS.ior X26.here hx rfl (hb hby at_74) rfl k) ?_
        show Go _ _ _ _ _ T26 (mkF m 75 #[.val (.int p1), .val (.int p2), .val (.int p3), .val (.int u), .val (.int v), .val (.int (1 : Int32)), .val (.int (0 : Int32)), .unset, .unset] [(.int ((v <<< ((8 : Int32) &&& 31)) ||| u))])
        refine own_go (fun t k => X26.ldcInt hx hown (mvT hZ (hw _ (List.mem_of_getElem? (i := 4) rfl))) (g := (mkF m 75 #[.val (.int p1), .val (.int p2), .val (.int p3), .val (.int u), .val (.int v), .val (.int (1 : Int32)), .val (.int (0 : Int32)), .unset, .unset] [(.int ((v <<< ((8 : Int32) &&& 31)) ||| u))])) rfl (hb hby at_75) _ k) ?_
        show Go _ _ _ _ _ T26 (mkF m 77 #[.val (.int p1), .val (.int p2), .val (.int p3), .val (.int u), .val (.int v), .val (.int (1 : Int32)), .val (.int (0 : Int32)), .unset, .unset] [(.int (65279 : Int32)), (.int ((v <<< ((8 : Int32) &&& 31)) ||| u))])
        refine own_go (fun t k => XS.icmpYes X26.here hx rfl (pc0 := 77) (pc' := 84) rfl (hb hby at_77) rfl (feq (bN hc31 hc33).2).2 (by decide) (by decide) k) ?_
        show Go _ _ _ _ _ T26 (mkF m 84 #[.val (.int p1), .val (.int p2), .val (.int p3), .val (.int u), .val (.int v), .val (.int (1 : Int32)), .val (.int (0 : Int32)), .unset, .unset] [])
        refine own_go (fun t k => XS.iconst X26.here hx rfl (hb hby at_84) k) ?_
        show Go _ _ _ _ _ T26 (mkF m 85 #[.val (.int p1), .val (.int p2), .val (.int p3), .val (.int u), .val (.int v), .val (.int (1 : Int32)), .val (.int (0 : Int32)), .unset, .unset] [(.int (0 : Int32))])
        refine own_go (fun t k => XS.istore X26.here hx rfl (hb hby at_85) rfl (l' := #[.val (.int p1), .val (.int p2), .val (.int p3), .val (.int u), .val (.int v), .val (.int (1 : Int32)), .val (.int (0 : Int32)), .val (.int (0 : Int32)), .unset]) rfl k) ?_
        show Go _ _ _ _ _ T26 (mkF m 87 #[.val (.int p1), .val (.int p2), .val (.int p3), .val (.int u), .val (.int v), .val (.int (1 : Int32)), .val (.int (0 : Int32)), .val (.int (0 : Int32)), .unset] [])
        refine own_go (fun t k => XS.iloadN X26.here hx rfl (hb hby at_87) rfl k) ?_
        show Go _ _ _ _ _ T26 (mkF m 88 #[.val (.int p1), .val (.int p2), .val (.int p3), .val (.int u), .val (.int v), .val (.int (1 : Int32)), .val (.int (0 : Int32)), .val (.int (0 : Int32)), .unset] [(.int u)])
        refine own_go (fun t k => XS.iload X26.here hx rfl (hb hby at_88) rfl k) ?_
        show Go _ _ _ _ _ T26 (mkF m 90 #[.val (.int p1), .val (.int p2), .val (.int p3), .val (.int u), .val (.int v), .val (.int (1 : Int32)), .val (.int (0 : Int32)), .val (.int (0 : Int32)), .unset] [(.int v), (.int u)])
        refine own_callS X26 hx hZ (y := (⟨"com/example/pair16/pair16/ByteOrderMark", "orderOf", "(II)Ljava/nio/ByteOrder;"⟩ : MethodName)) hown (hw _ (List.mem_of_getElem? (i := 5) rfl)) (hw _ (List.mem_of_getElem? (i := 6) rfl)) (hw _ (List.mem_of_getElem? (i := 7) rfl)) (hw _ (List.mem_of_getElem? (i := 8) rfl)) (by decide) (rm2 l Z a0 hw [] u v w_BIG_ENDIAN w_LITTLE_ENDIAN (.null) h0 n0 hn0 S_BIG_ENDIAN S_LITTLE_ENDIAN (by rw [own_f_rm2, if_pos b1, if_neg b3, if_neg b2]; try first | rfl | decide)) e26 (by rw [hml]; rfl) (argsL := [(.int u), (.int v)]) (rest := []) rfl rfl (lenOf own_pd1 rfl) (W := 0) (Nat.le_of_eq rfl) (by decide) (by decide) (hb hby at_90) (by decide) (by decide) ?_
        intro v35 T35 L35 X35 q35
        obtain ⟨rfl, N35q, e35⟩ := q35
        have N35 := Fr.app N26 N35q
        show Go _ _ _ _ _ T35 (mkF m 93 #[.val (.int p1), .val (.int p2), .val (.int p3), .val (.int u), .val (.int v), .val (.int (1 : Int32)), .val (.int (0 : Int32)), .val (.int (0 : Int32)), .unset] [.null])
        refine own_go (fun t k => XS.astore X35.here hx rfl (hb hby at_93) rfl rfl (l' := #[.val (.int p1), .val (.int p2), .val (.int p3), .val (.int u), .val (.int v), .val (.int (1 : Int32)), .val (.int (0 : Int32)), .val (.int (0 : Int32)), .val .null]) rfl k) ?_
        show Go _ _ _ _ _ T35 (mkF m 95 #[.val (.int p1), .val (.int p2), .val (.int p3), .val (.int u), .val (.int v), .val (.int (1 : Int32)), .val (.int (0 : Int32)), .val (.int (0 : Int32)), .val .null] [])
        refine own_go (fun t k => XS.iload X35.here hx rfl (hb hby at_95) rfl k) ?_
        show Go _ _ _ _ _ T35 (mkF m 97 #[.val (.int p1), .val (.int p2), .val (.int p3), .val (.int u), .val (.int v), .val (.int (1 : Int32)), .val (.int (0 : Int32)), .val (.int (0 : Int32)), .val .null] [(.int (0 : Int32))])
        refine own_go (fun t k => XS.ifYes X35.here hx rfl (pc0 := 97) (pc' := 114) rfl (hb hby at_97) rfl (by decide) (by decide) (by decide) k) ?_
        show Go _ _ _ _ _ T35 (mkF m 114 #[.val (.int p1), .val (.int p2), .val (.int p3), .val (.int u), .val (.int v), .val (.int (1 : Int32)), .val (.int (0 : Int32)), .val (.int (0 : Int32)), .val .null] [])
        refine own_go (fun t k => XS.iload X35.here hx rfl (hb hby at_114) rfl k) ?_
        show Go _ _ _ _ _ T35 (mkF m 116 #[.val (.int p1), .val (.int p2), .val (.int p3), .val (.int u), .val (.int v), .val (.int (1 : Int32)), .val (.int (0 : Int32)), .val (.int (0 : Int32)), .val .null] [(.int (0 : Int32))])
        refine own_go (fun t k => XS.ifYes X35.here hx rfl (pc0 := 116) (pc' := 133) rfl (hb hby at_116) rfl (by decide) (by decide) (by decide) k) ?_
        show Go _ _ _ _ _ T35 (mkF m 133 #[.val (.int p1), .val (.int p2), .val (.int p3), .val (.int u), .val (.int v), .val (.int (1 : Int32)), .val (.int (0 : Int32)), .val (.int (0 : Int32)), .val .null] [])
        refine own_go (fun t k => XS.aload X35.here hx rfl (hb hby at_133) rfl rfl k) ?_
        show Go _ _ _ _ _ T35 (mkF m 135 #[.val (.int p1), .val (.int p2), .val (.int p3), .val (.int u), .val (.int v), .val (.int (1 : Int32)), .val (.int (0 : Int32)), .val (.int (0 : Int32)), .val .null] [.null])
        refine own_go (fun t k => XS.ifnonnullNo X35.here hx rfl (hb hby at_135) rfl k) ?_
        show Go _ _ _ _ _ T35 (mkF m 138 #[.val (.int p1), .val (.int p2), .val (.int p3), .val (.int u), .val (.int v), .val (.int (1 : Int32)), .val (.int (0 : Int32)), .val (.int (0 : Int32)), .val .null] [])
        refine own_go (fun t k => XS.iconst X35.here hx rfl (hb hby at_138) k) ?_
        show Go _ _ _ _ _ T35 (mkF m 139 #[.val (.int p1), .val (.int p2), .val (.int p3), .val (.int u), .val (.int v), .val (.int (1 : Int32)), .val (.int (0 : Int32)), .val (.int (0 : Int32)), .val .null] [(.int (1 : Int32))])
        refine own_go (fun t k => XS.goto X35.here hx rfl (pc0 := 139) (pc' := 143) rfl (hb hby at_139) (by decide) (by decide) k) ?_
        show Go _ _ _ _ _ T35 (mkF m 143 #[.val (.int p1), .val (.int p2), .val (.int p3), .val (.int u), .val (.int v), .val (.int (1 : Int32)), .val (.int (0 : Int32)), .val (.int (0 : Int32)), .val .null] [(.int (1 : Int32))])
        refine own_retN X35 hx (own_lvN X35 hlk (by decide) (by decide)) (t := .boolean) hret (by simp) (hb hby at_143) ?_
        exact ⟨rfl, N35⟩
  · skip
    show Go _ _ _ _ _ T26 (mkF m 15 #[.val (.int p1), .val (.int p2), .val (.int p3), .val (.int u), .val (.int v), .unset, .unset, .unset, .unset] [])
    refine own_go (fun t k => XS.iloadN X26.here hx rfl (hb hby at_15) rfl k) ?_
    show Go _ _ _ _ _ T26 (mkF m 16 #[.val (.int p1), .val (.int p2), .val (.int p3), .val (.int u), .val (.int v), .unset, .unset, .unset, .unset] [(.int u)])
    refine own_go (fun t k => XS.sipush X26.here hx rfl (hb hby at_16) k) ?_
    show Go _ _ _ _ _ T26 (mkF m 19 #[.val (.int p1), .val (.int p2), .val (.int p3), .val (.int u), .val (.int v), .unset, .unset, .unset, .unset] [(.int (-256 : Int32)), (.int u)])
    refine own_go (fun t k => XS.iand X26.here hx rfl (hb hby at_19) rfl k) ?_
    show Go _ _ _ _ _ T26 (mkF m 20 #[.val (.int p1), .val (.int p2), .val (.int p3), .val (.int u), .val (.int v), .unset, .unset, .unset, .unset] [(.int (u &&& (-256 : Int32)))])
    refine own_ifM ((u &&& (-256 : Int32)) = (0 : Int32)) X26 hx (hb hby at_20) (own_ne _ _) (by decide) (by decide) (pc' := 36) (fun hc36 => ?_) (fun hc36 => ?_)
    · skip
      show Go _ _ _ _ _ T26 (mkF m 36 #[.val (.int p1), .val (.int p2), .val (.int p3), .val (.int u), .val (.int v), .unset, .unset, .unset, .unset] [])
      refine own_go (fun t k => XS.iconst X26.here hx rfl (hb hby at_36) k) ?_
      show Go _ _ _ _ _ T26 (mkF m 37 #[.val (.int p1), .val (.int p2), .val (.int p3), .val (.int u), .val (.int v), .unset, .unset, .unset, .unset] [(.int (0 : Int32))])
      refine own_go (fun t k => XS.istore X26.here hx rfl (hb hby at_37) rfl (l' := #[.val (.int p1), .val (.int p2), .val (.int p3), .val (.int u), .val (.int v), .val (.int (0 : Int32)), .unset, .unset, .unset]) rfl k) ?_
      show Go _ _ _ _ _ T26 (mkF m 39 #[.val (.int p1), .val (.int p2), .val (.int p3), .val (.int u), .val (.int v), .val (.int (0 : Int32)), .unset, .unset, .unset] [])
      refine own_go (fun t k => XS.iload X26.here hx rfl (hb hby at_39) rfl k) ?_
      show Go _ _ _ _ _ T26 (mkF m 41 #[.val (.int p1), .val (.int p2), .val (.int p3), .val (.int u), .val (.int v), .val (.int (0 : Int32)), .unset, .unset, .unset] [(.int (0 : Int32))])
      refine own_go (fun t k => XS.ifYes X26.here hx rfl (pc0 := 41) (pc' := 60) rfl (hb hby at_41) rfl (by decide) (by decide) (by decide) k) ?_
      show Go _ _ _ _ _ T26 (mkF m 60 #[.val (.int p1), .val (.int p2), .val (.int p3), .val (.int u), .val (.int v), .val (.int (0 : Int32)), .unset, .unset, .unset] [])
      refine own_go (fun t k => XS.iconst X26.here hx rfl (hb hby at_60) k) ?_
      show Go _ _ _ _ _ T26 (mkF m 61 #[.val (.int p1), .val (.int p2), .val (.int p3), .val (.int u), .val (.int v), .val (.int (0 : Int32)), .unset, .unset, .unset] [(.int (0 : Int32))])
      refine own_go (fun t k => XS.istore X26.here hx rfl (hb hby at_61) rfl (l' := #[.val (.int p1), .val (.int p2), .val (.int p3), .val (.int u), .val (.int v), .val (.int (0 : Int32)), .val (.int (0 : Int32)), .unset, .unset]) rfl k) ?_
      show Go _ _ _ _ _ T26 (mkF m 63 #[.val (.int p1), .val (.int p2), .val (.int p3), .val (.int u), .val (.int v), .val (.int (0 : Int32)), .val (.int (0 : Int32)), .unset, .unset] [])
      refine own_go (fun t k => XS.iload X26.here hx rfl (hb hby at_63) rfl k) ?_
      show Go _ _ _ _ _ T26 (mkF m 65 #[.val (.int p1), .val (.int p2), .val (.int p3), .val (.int u), .val (.int v), .val (.int (0 : Int32)), .val (.int (0 : Int32)), .unset, .unset] [(.int (0 : Int32))])
      refine own_go (fun t k => XS.ifYes X26.here hx rfl (pc0 := 65) (pc' := 84) rfl (hb hby at_65) rfl (by decide) (by decide) (by decide) k) ?_
      show Go _ _ _ _ _ T26 (mkF m 84 #[.val (.int p1), .val (.int p2), .val (.int p3), .val (.int u), .val (.int v), .val (.int (0 : Int32)), .val (.int (0 : Int32)), .unset, .unset] [])
      refine own_go (fun t k => XS.iconst X26.here hx rfl (hb hby at_84) k) ?_
      show Go _ _ _ _ _ T26 (mkF m 85 #[.val (.int p1), .val (.int p2), .val (.int p3), .val (.int u), .val (.int v), .val (.int (0 : Int32)), .val (.int (0 : Int32)), .unset, .unset] [(.int (0 : Int32))])
      refine own_go (fun t k => XS.istore X26.here hx rfl (hb hby at_85) rfl (l' := #[.val (.int p1), .val (.int p2), .val (.int p3), .val (.int u), .val (.int v), .val (.int (0 : Int32)), .val (.int (0 : Int32)), .val (.int (0 : Int32)), .unset]) rfl k) ?_
      show Go _ _ _ _ _ T26 (mkF m 87 #[.val (.int p1), .val (.int p2), .val (.int p3), .val (.int u), .val (.int v), .val (.int (0 : Int32)), .val (.int (0 : Int32)), .val (.int (0 : Int32)), .unset] [])
      refine own_go (fun t k => XS.iloadN X26.here hx rfl (hb hby at_87) rfl k) ?_
      show Go _ _ _ _ _ T26 (mkF m 88 #[.val (.int p1), .val (.int p2), .val (.int p3), .val (.int u), .val (.int v), .val (.int (0 : Int32)), .val (.int (0 : Int32)), .val (.int (0 : Int32)), .unset] [(.int u)])
      refine own_go (fun t k => XS.iload X26.here hx rfl (hb hby at_88) rfl k) ?_
      show Go _ _ _ _ _ T26 (mkF m 90 #[.val (.int p1), .val (.int p2), .val (.int p3), .val (.int u), .val (.int v), .val (.int (0 : Int32)), .val (.int (0 : Int32)), .val (.int (0 : Int32)), .unset] [(.int v), (.int u)])
      refine own_callS X26 hx hZ (y := (⟨"com/example/pair16/pair16/ByteOrderMark", "orderOf", "(II)Ljava/nio/ByteOrder;"⟩ : MethodName)) hown (hw _ (List.mem_of_getElem? (i := 5) rfl)) (hw _ (List.mem_of_getElem? (i := 6) rfl)) (hw _ (List.mem_of_getElem? (i := 7) rfl)) (hw _ (List.mem_of_getElem? (i := 8) rfl)) (by decide) (rm2 l Z a0 hw [] u v w_BIG_ENDIAN w_LITTLE_ENDIAN (.null) h0 n0 hn0 S_BIG_ENDIAN S_LITTLE_ENDIAN (by rw [own_f_rm2, if_neg b2, if_pos b1, if_neg b3]; try first | rfl | decide)) e26 (by rw [hml]; rfl) (argsL := [(.int u), (.int v)]) (rest := []) rfl rfl (lenOf own_pd1 rfl) (W := 0) (Nat.le_of_eq rfl) (by decide) (by decide) (hb hby at_90) (by decide) (by decide) ?_
      intro v37 T37 L37 X37 q37
      obtain ⟨rfl, N37q, e37⟩ := q37
      have N37 := Fr.app N26 N37q
      show Go _ _ _ _ _ T37 (mkF m 93 #[.val (.int p1), .val (.int p2), .val (.int p3), .val (.int u), .val (.int v), .val (.int (0 : Int32)), .val (.int (0 : Int32)), .val (.int (0 : Int32)), .unset] [.null])
      refine own_go (fun t k => XS.astore X37.here hx rfl (hb hby at_93) rfl rfl (l' := #[.val (.int p1), .val (.int p2), .val (.int p3), .val (.int u), .val (.int v), .val (.int (0 : Int32)), .val (.int (0 : Int32)), .val (.int (0 : Int32)), .val .null]) rfl k) ?_
      show Go _ _ _ _ _ T37 (mkF m 95 #[.val (.int p1), .val (.int p2), .val (.int p3), .val (.int u), .val (.int v), .val (.int (0 : Int32)), .val (.int (0 : Int32)), .val (.int (0 : Int32)), .val .null] [])
      refine own_go (fun t k => XS.iload X37.here hx rfl (hb hby at_95) rfl k) ?_
      show Go _ _ _ _ _ T37 (mkF m 97 #[.val (.int p1), .val (.int p2), .val (.int p3), .val (.int u), .val (.int v), .val (.int (0 : Int32)), .val (.int (0 : Int32)), .val (.int (0 : Int32)), .val .null] [(.int (0 : Int32))])
      refine own_go (fun t k => XS.ifYes X37.here hx rfl (pc0 := 97) (pc' := 114) rfl (hb hby at_97) rfl (by decide) (by decide) (by decide) k) ?_
      show Go _ _ _ _ _ T37 (mkF m 114 #[.val (.int p1), .val (.int p2), .val (.int p3), .val (.int u), .val (.int v), .val (.int (0 : Int32)), .val (.int (0 : Int32)), .val (.int (0 : Int32)), .val .null] [])
      refine own_go (fun t k => XS.iload X37.here hx rfl (hb hby at_114) rfl k) ?_
      show Go _ _ _ _ _ T37 (mkF m 116 #[.val (.int p1), .val (.int p2), .val (.int p3), .val (.int u), .val (.int v), .val (.int (0 : Int32)), .val (.int (0 : Int32)), .val (.int (0 : Int32)), .val .null] [(.int (0 : Int32))])
      refine own_go (fun t k => XS.ifYes X37.here hx rfl (pc0 := 116) (pc' := 133) rfl (hb hby at_116) rfl (by decide) (by decide) (by decide) k) ?_
      show Go _ _ _ _ _ T37 (mkF m 133 #[.val (.int p1), .val (.int p2), .val (.int p3), .val (.int u), .val (.int v), .val (.int (0 : Int32)), .val (.int (0 : Int32)), .val (.int (0 : Int32)), .val .null] [])
      refine own_go (fun t k => XS.aload X37.here hx rfl (hb hby at_133) rfl rfl k) ?_
      show Go _ _ _ _ _ T37 (mkF m 135 #[.val (.int p1), .val (.int p2), .val (.int p3), .val (.int u), .val (.int v), .val (.int (0 : Int32)), .val (.int (0 : Int32)), .val (.int (0 : Int32)), .val .null] [.null])
      refine own_go (fun t k => XS.ifnonnullNo X37.here hx rfl (hb hby at_135) rfl k) ?_
      show Go _ _ _ _ _ T37 (mkF m 138 #[.val (.int p1), .val (.int p2), .val (.int p3), .val (.int u), .val (.int v), .val (.int (0 : Int32)), .val (.int (0 : Int32)), .val (.int (0 : Int32)), .val .null] [])
      refine own_go (fun t k => XS.iconst X37.here hx rfl (hb hby at_138) k) ?_
      show Go _ _ _ _ _ T37 (mkF m 139 #[.val (.int p1), .val (.int p2), .val (.int p3), .val (.int u), .val (.int v), .val (.int (0 : Int32)), .val (.int (0 : Int32)), .val (.int (0 : Int32)), .val .null] [(.int (1 : Int32))])
      refine own_go (fun t k => XS.goto X37.here hx rfl (pc0 := 139) (pc' := 143) rfl (hb hby at_139) (by decide) (by decide) k) ?_
      show Go _ _ _ _ _ T37 (mkF m 143 #[.val (.int p1), .val (.int p2), .val (.int p3), .val (.int u), .val (.int v), .val (.int (0 : Int32)), .val (.int (0 : Int32)), .val (.int (0 : Int32)), .val .null] [(.int (1 : Int32))])
      refine own_retN X37 hx (own_lvN X37 hlk (by decide) (by decide)) (t := .boolean) hret (by simp) (hb hby at_143) ?_
      exact ⟨rfl, N37⟩
    · skip
      show Go _ _ _ _ _ T26 (mkF m 23 #[.val (.int p1), .val (.int p2), .val (.int p3), .val (.int u), .val (.int v), .unset, .unset, .unset, .unset] [])
      refine own_go (fun t k => XS.iload X26.here hx rfl (hb hby at_23) rfl k) ?_
      show Go _ _ _ _ _ T26 (mkF m 25 #[.val (.int p1), .val (.int p2), .val (.int p3), .val (.int u), .val (.int v), .unset, .unset, .unset, .unset] [(.int v)])
      refine own_go (fun t k => XS.sipush X26.here hx rfl (hb hby at_25) k) ?_
      show Go _ _ _ _ _ T26 (mkF m 28 #[.val (.int p1), .val (.int p2), .val (.int p3), .val (.int u), .val (.int v), .unset, .unset, .unset, .unset] [(.int (-256 : Int32)), (.int v)])
      refine own_go (fun t k => XS.iand X26.here hx rfl (hb hby at_28) rfl k) ?_
      show Go _ _ _ _ _ T26 (mkF m 29 #[.val (.int p1), .val (.int p2), .val (.int p3), .val (.int u), .val (.int v), .unset, .unset, .unset, .unset] [(.int (v &&& (-256 : Int32)))])
      refine own_ifM ((v &&& (-256 : Int32)) = (0 : Int32)) X26 hx (hb hby at_29) (own_ne _ _) (by decide) (by decide) (pc' := 36) (fun hc38 => ?_) (fun hc38 => ?_)
      · skip
        show Go _ _ _ _ _ T26 (mkF m 36 #[.val (.int p1), .val (.int p2), .val (.int p3), .val (.int u), .val (.int v), .unset, .unset, .unset, .unset] [])
        refine own_go (fun t k => XS.iconst X26.here hx rfl (hb hby at_36) k) ?_
        show Go _ _ _ _ _ T26 (mkF m 37 #[.val (.int p1), .val (.int p2), .val (.int p3), .val (.int u), .val (.int v), .unset, .unset, .unset, .unset] [(.int (0 : Int32))])
        refine own_go (fun t k => XS.istore X26.here hx rfl (hb hby at_37) rfl (l' := #[.val (.int p1), .val (.int p2), .val (.int p3), .val (.int u), .val (.int v), .val (.int (0 : Int32)), .unset, .unset, .unset]) rfl k) ?_
        show Go _ _ _ _ _ T26 (mkF m 39 #[.val (.int p1), .val (.int p2), .val (.int p3), .val (.int u), .val (.int v), .val (.int (0 : Int32)), .unset, .unset, .unset] [])
        refine own_go (fun t k => XS.iload X26.here hx rfl (hb hby at_39) rfl k) ?_
        show Go _ _ _ _ _ T26 (mkF m 41 #[.val (.int p1), .val (.int p2), .val (.int p3), .val (.int u), .val (.int v), .val (.int (0 : Int32)), .unset, .unset, .unset] [(.int (0 : Int32))])
        refine own_go (fun t k => XS.ifYes X26.here hx rfl (pc0 := 41) (pc' := 60) rfl (hb hby at_41) rfl (by decide) (by decide) (by decide) k) ?_
        show Go _ _ _ _ _ T26 (mkF m 60 #[.val (.int p1), .val (.int p2), .val (.int p3), .val (.int u), .val (.int v), .val (.int (0 : Int32)), .unset, .unset, .unset] [])
        refine own_go (fun t k => XS.iconst X26.here hx rfl (hb hby at_60) k) ?_
        show Go _ _ _ _ _ T26 (mkF m 61 #[.val (.int p1), .val (.int p2), .val (.int p3), .val (.int u), .val (.int v), .val (.int (0 : Int32)), .unset, .unset, .unset] [(.int (0 : Int32))])
        refine own_go (fun t k => XS.istore X26.here hx rfl (hb hby at_61) rfl (l' := #[.val (.int p1), .val (.int p2), .val (.int p3), .val (.int u), .val (.int v), .val (.int (0 : Int32)), .val (.int (0 : Int32)), .unset, .unset]) rfl k) ?_
        show Go _ _ _ _ _ T26 (mkF m 63 #[.val (.int p1), .val (.int p2), .val (.int p3), .val (.int u), .val (.int v), .val (.int (0 : Int32)), .val (.int (0 : Int32)), .unset, .unset] [])
        refine own_go (fun t k => XS.iload X26.here hx rfl (hb hby at_63) rfl k) ?_
        show Go _ _ _ _ _ T26 (mkF m 65 #[.val (.int p1), .val (.int p2), .val (.int p3), .val (.int u), .val (.int v), .val (.int (0 : Int32)), .val (.int (0 : Int32)), .unset, .unset] [(.int (0 : Int32))])
        refine own_go (fun t k => XS.ifYes X26.here hx rfl (pc0 := 65) (pc' := 84) rfl (hb hby at_65) rfl (by decide) (by decide) (by decide) k) ?_
        show Go _ _ _ _ _ T26 (mkF m 84 #[.val (.int p1), .val (.int p2), .val (.int p3), .val (.int u), .val (.int v), .val (.int (0 : Int32)), .val (.int (0 : Int32)), .unset, .unset] [])
        refine own_go (fun t k => XS.iconst X26.here hx rfl (hb hby at_84) k) ?_
        show Go _ _ _ _ _ T26 (mkF m 85 #[.val (.int p1), .val (.int p2), .val (.int p3), .val (.int u), .val (.int v), .val (.int (0 : Int32)), .val (.int (0 : Int32)), .unset, .unset] [(.int (0 : Int32))])
        refine own_go (fun t k => XS.istore X26.here hx rfl (hb hby at_85) rfl (l' := #[.val (.int p1), .val (.int p2), .val (.int p3), .val (.int u), .val (.int v), .val (.int (0 : Int32)), .val (.int (0 : Int32)), .val (.int (0 : Int32)), .unset]) rfl k) ?_
        show Go _ _ _ _ _ T26 (mkF m 87 #[.val (.int p1), .val (.int p2), .val (.int p3), .val (.int u), .val (.int v), .val (.int (0 : Int32)), .val (.int (0 : Int32)), .val (.int (0 : Int32)), .unset] [])
        refine own_go (fun t k => XS.iloadN X26.here hx rfl (hb hby at_87) rfl k) ?_
        show Go _ _ _ _ _ T26 (mkF m 88 #[.val (.int p1), .val (.int p2), .val (.int p3), .val (.int u), .val (.int v), .val (.int (0 : Int32)), .val (.int (0 : Int32)), .val (.int (0 : Int32)), .unset] [(.int u)])
        refine own_go (fun t k => XS.iload X26.here hx rfl (hb hby at_88) rfl k) ?_
        show Go _ _ _ _ _ T26 (mkF m 90 #[.val (.int p1), .val (.int p2), .val (.int p3), .val (.int u), .val (.int v), .val (.int (0 : Int32)), .val (.int (0 : Int32)), .val (.int (0 : Int32)), .unset] [(.int v), (.int u)])
        refine own_callS X26 hx hZ (y := (⟨"com/example/pair16/pair16/ByteOrderMark", "orderOf", "(II)Ljava/nio/ByteOrder;"⟩ : MethodName)) hown (hw _ (List.mem_of_getElem? (i := 5) rfl)) (hw _ (List.mem_of_getElem? (i := 6) rfl)) (hw _ (List.mem_of_getElem? (i := 7) rfl)) (hw _ (List.mem_of_getElem? (i := 8) rfl)) (by decide) (rm2 l Z a0 hw [] u v w_BIG_ENDIAN w_LITTLE_ENDIAN (.null) h0 n0 hn0 S_BIG_ENDIAN S_LITTLE_ENDIAN (by rw [own_f_rm2, if_neg b2, if_pos b1, if_neg b3]; try first | rfl | decide)) e26 (by rw [hml]; rfl) (argsL := [(.int u), (.int v)]) (rest := []) rfl rfl (lenOf own_pd1 rfl) (W := 0) (Nat.le_of_eq rfl) (by decide) (by decide) (hb hby at_90) (by decide) (by decide) ?_
        intro v39 T39 L39 X39 q39
        obtain ⟨rfl, N39q, e39⟩ := q39
        have N39 := Fr.app N26 N39q
        show Go _ _ _ _ _ T39 (mkF m 93 #[.val (.int p1), .val (.int p2), .val (.int p3), .val (.int u), .val (.int v), .val (.int (0 : Int32)), .val (.int (0 : Int32)), .val (.int (0 : Int32)), .unset] [.null])
        refine own_go (fun t k => XS.astore X39.here hx rfl (hb hby at_93) rfl rfl (l' := #[.val (.int p1), .val (.int p2), .val (.int p3), .val (.int u), .val (.int v), .val (.int (0 : Int32)), .val (.int (0 : Int32)), .val (.int (0 : Int32)), .val .null]) rfl k) ?_
        show Go _ _ _ _ _ T39 (mkF m 95 #[.val (.int p1), .val (.int p2), .val (.int p3), .val (.int u), .val (.int v), .val (.int (0 : Int32)), .val (.int (0 : Int32)), .val (.int (0 : Int32)), .val .null] [])
        refine own_go (fun t k => XS.iload X39.here hx rfl (hb hby at_95) rfl k) ?_
        show Go _ _ _ _ _ T39 (mkF m 97 #[.val (.int p1), .val (.int p2), .val (.int p3), .val (.int u), .val (.int v), .val (.int (0 : Int32)), .val (.int (0 : Int32)), .val (.int (0 : Int32)), .val .null] [(.int (0 : Int32))])
        refine own_go (fun t k => XS.ifYes X39.here hx rfl (pc0 := 97) (pc' := 114) rfl (hb hby at_97) rfl (by decide) (by decide) (by decide) k) ?_
        show Go _ _ _ _ _ T39 (mkF m 114 #[.val (.int p1), .val (.int p2), .val (.int p3), .val (.int u), .val (.int v), .val (.int (0 : Int32)), .val (.int (0 : Int32)), .val (.int (0 : Int32)), .val .null] [])
        refine own_go (fun t k => XS.iload X39.here hx rfl (hb hby at_114) rfl k) ?_
        show Go _ _ _ _ _ T39 (mkF m 116 #[.val (.int p1), .val (.int p2), .val (.int p3), .val (.int u), .val (.int v), .val (.int (0 : Int32)), .val (.int (0 : Int32)), .val (.int (0 : Int32)), .val .null] [(.int (0 : Int32))])
        refine own_go (fun t k => XS.ifYes X39.here hx rfl (pc0 := 116) (pc' := 133) rfl (hb hby at_116) rfl (by decide) (by decide) (by decide) k) ?_
        show Go _ _ _ _ _ T39 (mkF m 133 #[.val (.int p1), .val (.int p2), .val (.int p3), .val (.int u), .val (.int v), .val (.int (0 : Int32)), .val (.int (0 : Int32)), .val (.int (0 : Int32)), .val .null] [])
        refine own_go (fun t k => XS.aload X39.here hx rfl (hb hby at_133) rfl rfl k) ?_
        show Go _ _ _ _ _ T39 (mkF m 135 #[.val (.int p1), .val (.int p2), .val (.int p3), .val (.int u), .val (.int v), .val (.int (0 : Int32)), .val (.int (0 : Int32)), .val (.int (0 : Int32)), .val .null] [.null])
        refine own_go (fun t k => XS.ifnonnullNo X39.here hx rfl (hb hby at_135) rfl k) ?_
        show Go _ _ _ _ _ T39 (mkF m 138 #[.val (.int p1), .val (.int p2), .val (.int p3), .val (.int u), .val (.int v), .val (.int (0 : Int32)), .val (.int (0 : Int32)), .val (.int (0 : Int32)), .val .null] [])
        refine own_go (fun t k => XS.iconst X39.here hx rfl (hb hby at_138) k) ?_
        show Go _ _ _ _ _ T39 (mkF m 139 #[.val (.int p1), .val (.int p2), .val (.int p3), .val (.int u), .val (.int v), .val (.int (0 : Int32)), .val (.int (0 : Int32)), .val (.int (0 : Int32)), .val .null] [(.int (1 : Int32))])
        refine own_go (fun t k => XS.goto X39.here hx rfl (pc0 := 139) (pc' := 143) rfl (hb hby at_139) (by decide) (by decide) k) ?_
        show Go _ _ _ _ _ T39 (mkF m 143 #[.val (.int p1), .val (.int p2), .val (.int p3), .val (.int u), .val (.int v), .val (.int (0 : Int32)), .val (.int (0 : Int32)), .val (.int (0 : Int32)), .val .null] [(.int (1 : Int32))])
        refine own_retN X39 hx (own_lvN X39 hlk (by decide) (by decide)) (t := .boolean) hret (by simp) (hb hby at_143) ?_
        exact ⟨rfl, N39⟩
      · skip
        show Go _ _ _ _ _ T26 (mkF m 32 #[.val (.int p1), .val (.int p2), .val (.int p3), .val (.int u), .val (.int v), .unset, .unset, .unset, .unset] [])
        refine own_go (fun t k => XS.iconst X26.here hx rfl (hb hby at_32) k) ?_
        show Go _ _ _ _ _ T26 (mkF m 33 #[.val (.int p1), .val (.int p2), .val (.int p3), .val (.int u), .val (.int v), .unset, .unset, .unset, .unset] [(.int (1 : Int32))])
        refine own_go (fun t k => XS.goto X26.here hx rfl (pc0 := 33) (pc' := 37) rfl (hb hby at_33) (by decide) (by decide) k) ?_
        show Go _ _ _ _ _ T26 (mkF m 37 #[.val (.int p1), .val (.int p2), .val (.int p3), .val (.int u), .val (.int v), .unset, .unset, .unset, .unset] [(.int (1 : Int32))])
        refine own_go (fun t k => XS.istore X26.here hx rfl (hb hby at_37) rfl (l' := #[.val (.int p1), .val (.int p2), .val (.int p3), .val (.int u), .val (.int v), .val (.int (1 : Int32)), .unset, .unset, .unset]) rfl k) ?_
        show Go _ _ _ _ _ T26 (mkF m 39 #[.val (.int p1), .val (.int p2), .val (.int p3), .val (.int u), .val (.int v), .val (.int (1 : Int32)), .unset, .unset, .unset] [])
        refine own_go (fun t k => XS.iload X26.here hx rfl (hb hby at_39) rfl k) ?_
        show Go _ _ _ _ _ T26 (mkF m 41 #[.val (.int p1), .val (.int p2), .val (.int p3), .val (.int u), .val (.int v), .val (.int (1 : Int32)), .unset, .unset, .unset] [(.int (1 : Int32))])
        refine own_go (fun t k => XS.ifNo X26.here hx rfl (hb hby at_41) rfl (by decide) k) ?_
        show Go _ _ _ _ _ T26 (mkF m 44 #[.val (.int p1), .val (.int p2), .val (.int p3), .val (.int u), .val (.int v), .val (.int (1 : Int32)), .unset, .unset, .unset] [])
        refine own_go (fun t k => XS.iloadN X26.here hx rfl (hb hby at_44) rfl k) ?_
        show Go _ _ _ _ _ T26 (mkF m 45 #[.val (.int p1), .val (.int p2), .val (.int p3), .val (.int u), .val (.int v), .val (.int (1 : Int32)), .unset, .unset, .unset] [(.int u)])
        refine own_go (fun t k => XS.bipush X26.here hx rfl (hb hby at_45) k) ?_
        show Go _ _ _ _ _ T26 (mkF m 47 #[.val (.int p1), .val (.int p2), .val (.int p3), .val (.int u), .val (.int v), .val (.int (1 : Int32)), .unset, .unset, .unset] [(.int (8 : Int32)), (.int u)])
        refine own_go (fun t k => XS.ishl X26.here hx rfl (hb hby at_47) rfl k) ?_
        show Go _ _ _ _ _ T26 (mkF m 48 #[.val (.int p1), .val (.int p2), .val (.int p3), .val (.int u), .val (.int v), .val (.int (1 : Int32)), .unset, .unset, .unset] [(.int (u <<< ((8 : Int32) &&& 31)))])
        refine own_go (fun t k => XS.iload X26.here hx rfl (hb hby at_48) rfl k) ?_
        show Go _ _ _ _ _ T26 (mkF m 50 #[.val (.int p1), .val (.int p2), .val (.int p3), .val (.int u), .val (.int v), .val (.int (1 : Int32)), .unset, .unset, .unset] [(.int v), (.int (u <<< ((8 : Int32) &&& 31)))])
        refine own_go (fun t k => XS.ior X26.here hx rfl (hb hby at_50) rfl k) ?_
        show Go _ _ _ _ _ T26 (mkF m 51 #[.val (.int p1), .val (.int p2), .val (.int p3), .val (.int u), .val (.int v), .val (.int (1 : Int32)), .unset, .unset, .unset] [(.int ((u <<< ((8 : Int32) &&& 31)) ||| v))])
        refine own_go (fun t k => X26.ldcInt hx hown (mvT hZ (hw _ (List.mem_of_getElem? (i := 4) rfl))) (g := (mkF m 51 #[.val (.int p1), .val (.int p2), .val (.int p3), .val (.int u), .val (.int v), .val (.int (1 : Int32)), .unset, .unset, .unset] [(.int ((u <<< ((8 : Int32) &&& 31)) ||| v))])) rfl (hb hby at_51) _ k) ?_
        show Go _ _ _ _ _ T26 (mkF m 53 #[.val (.int p1), .val (.int p2), .val (.int p3), .val (.int u), .val (.int v), .val (.int (1 : Int32)), .unset, .unset, .unset] [(.int (65279 : Int32)), (.int ((u <<< ((8 : Int32) &&& 31)) ||| v))])
        refine own_go (fun t k => XS.icmpYes X26.here hx rfl (pc0 := 53) (pc' := 60) rfl (hb hby at_53) rfl (feq (bN hc36 hc38).1).2 (by decide) (by decide) k) ?_
        show Go _ _ _ _ _ T26 (mkF m 60 #[.val (.int p1), .val (.int p2), .val (.int p3), .val (.int u), .val (.int v), .val (.int (1 : Int32)), .unset, .unset, .unset] [])
        refine own_go (fun t k => XS.iconst X26.here hx rfl (hb hby at_60) k) ?_
        show Go _ _ _ _ _ T26 (mkF m 61 #[.val (.int p1), .val (.int p2), .val (.int p3), .val (.int u), .val (.int v), .val (.int (1 : Int32)), .unset, .unset, .unset] [(.int (0 : Int32))])
        refine own_go (fun t k => XS.istore X26.here hx rfl (hb hby at_61) rfl (l' := #[.val (.int p1), .val (.int p2), .val (.int p3), .val (.int u), .val (.int v), .val (.int (1 : Int32)), .val (.int (0 : Int32)), .unset, .unset]) rfl k) ?_
        show Go _ _ _ _ _ T26 (mkF m 63 #[.val (.int p1), .val (.int p2), .val (.int p3), .val (.int u), .val (.int v), .val (.int (1 : Int32)), .val (.int (0 : Int32)), .unset, .unset] [])
        refine own_go (fun t k => XS.iload X26.here hx rfl (hb hby at_63) rfl k) ?_
        show Go _ _ _ _ _ T26 (mkF m 65 #[.val (.int p1), .val (.int p2), .val (.int p3), .val (.int u), .val (.int v), .val (.int (1 : Int32)), .val (.int (0 : Int32)), .unset, .unset] [(.int (1 : Int32))])
        refine own_go (fun t k => XS.ifNo X26.here hx rfl (hb hby at_65) rfl (by decide) k) ?_
        show Go _ _ _ _ _ T26 (mkF m 68 #[.val (.int p1), .val (.int p2), .val (.int p3), .val (.int u), .val (.int v), .val (.int (1 : Int32)), .val (.int (0 : Int32)), .unset, .unset] [])
        refine own_go (fun t k => XS.iload X26.here hx rfl (hb hby at_68) rfl k) ?_
        show Go _ _ _ _ _ T26 (mkF m 70 #[.val (.int p1), .val (.int p2), .val (.int p3), .val (.int u), .val (.int v), .val (.int (1 : Int32)), .val (.int (0 : Int32)), .unset, .unset] [(.int v)])
        refine own_go (fun t k => XS.bipush X26.here hx rfl (hb hby at_70) k) ?_
        show Go _ _ _ _ _ T26 (mkF m 72 #[.val (.int p1), .val (.int p2), .val (.int p3), .val (.int u), .val (.int v), .val (.int (1 : Int32)), .val (.int (0 : Int32)), .unset, .unset] [(.int (8 : Int32)), (.int v)])
        refine own_go (fun t k => XS.ishl X26.here hx rfl (hb hby at_72) rfl k) ?_
        show Go _ _ _ _ _ T26 (mkF m 73 #[.val (.int p1), .val (.int p2), .val (.int p3), .val (.int u), .val (.int v), .val (.int (1 : Int32)), .val (.int (0 : Int32)), .unset, .unset] [(.int (v <<< ((8 : Int32) &&& 31)))])
        refine own_go (fun t k => XS.iloadN X26.here hx rfl (hb hby at_73) rfl k) ?_
        show Go _ _ _ _ _ T26 (mkF m 74 #[.val (.int p1), .val (.int p2), .val (.int p3), .val (.int u), .val (.int v), .val (.int (1 : Int32)), .val (.int (0 : Int32)), .unset, .unset] [(.int u), (.int (v <<< ((8 : Int32) &&& 31)))])
        refine own_go (fun t k => XS.ior X26.here hx rfl (hb hby at_74) rfl k) ?_
        show Go _ _ _ _ _ T26 (mkF m 75 #[.val (.int p1), .val (.int p2), .val (.int p3), .val (.int u), .val (.int v), .val (.int (1 : Int32)), .val (.int (0 : Int32)), .unset, .unset] [(.int ((v <<< ((8 : Int32) &&& 31)) ||| u))])
        refine own_go (fun t k => X26.ldcInt hx hown (mvT hZ (hw _ (List.mem_of_getElem? (i := 4) rfl))) (g := (mkF m 75 #[.val (.int p1), .val (.int p2), .val (.int p3), .val (.int u), .val (.int v), .val (.int (1 : Int32)), .val (.int (0 : Int32)), .unset, .unset] [(.int ((v <<< ((8 : Int32) &&& 31)) ||| u))])) rfl (hb hby at_75) _ k) ?_
        show Go _ _ _ _ _ T26 (mkF m 77 #[.val (.int p1), .val (.int p2), .val (.int p3), .val (.int u), .val (.int v), .val (.int (1 : Int32)), .val (.int (0 : Int32)), .unset, .unset] [(.int (65279 : Int32)), (.int ((v <<< ((8 : Int32) &&& 31)) ||| u))])
        refine own_go (fun t k => XS.icmpYes X26.here hx rfl (pc0 := 77) (pc' := 84) rfl (hb hby at_77) rfl (feq (bN hc36 hc38).2).2 (by decide) (by decide) k) ?_
        show Go _ _ _ _ _ T26 (mkF m 84 #[.val (.int p1), .val (.int p2), .val (.int p3), .val (.int u), .val (.int v), .val (.int (1 : Int32)), .val (.int (0 : Int32)), .unset, .unset] [])
        refine own_go (fun t k => XS.iconst X26.here hx rfl (hb hby at_84) k) ?_
        show Go _ _ _ _ _ T26 (mkF m 85 #[.val (.int p1), .val (.int p2), .val (.int p3), .val (.int u), .val (.int v), .val (.int (1 : Int32)), .val (.int (0 : Int32)), .unset, .unset] [(.int (0 : Int32))])
        refine own_go (fun t k => XS.istore X26.here hx rfl (hb hby at_85) rfl (l' := #[.val (.int p1), .val (.int p2), .val (.int p3), .val (.int u), .val (.int v), .val (.int (1 : Int32)), .val (.int (0 : Int32)), .val (.int (0 : Int32)), .unset]) rfl k) ?_
        show Go _ _ _ _ _ T26 (mkF m 87 #[.val (.int p1), .val (.int p2), .val (.int p3), .val (.int u), .val (.int v), .val (.int (1 : Int32)), .val (.int (0 : Int32)), .val (.int (0 : Int32)), .unset] [])
        refine own_go (fun t k => XS.iloadN X26.here hx rfl (hb hby at_87) rfl k) ?_
        show Go _ _ _ _ _ T26 (mkF m 88 #[.val (.int p1), .val (.int p2), .val (.int p3), .val (.int u), .val (.int v), .val (.int (1 : Int32)), .val (.int (0 : Int32)), .val (.int (0 : Int32)), .unset] [(.int u)])
        refine own_go (fun t k => XS.iload X26.here hx rfl (hb hby at_88) rfl k) ?_
        show Go _ _ _ _ _ T26 (mkF m 90 #[.val (.int p1), .val (.int p2), .val (.int p3), .val (.int u), .val (.int v), .val (.int (1 : Int32)), .val (.int (0 : Int32)), .val (.int (0 : Int32)), .unset] [(.int v), (.int u)])
        refine own_callS X26 hx hZ (y := (⟨"com/example/pair16/pair16/ByteOrderMark", "orderOf", "(II)Ljava/nio/ByteOrder;"⟩ : MethodName)) hown (hw _ (List.mem_of_getElem? (i := 5) rfl)) (hw _ (List.mem_of_getElem? (i := 6) rfl)) (hw _ (List.mem_of_getElem? (i := 7) rfl)) (hw _ (List.mem_of_getElem? (i := 8) rfl)) (by decide) (rm2 l Z a0 hw [] u v w_BIG_ENDIAN w_LITTLE_ENDIAN (.null) h0 n0 hn0 S_BIG_ENDIAN S_LITTLE_ENDIAN (by rw [own_f_rm2, if_neg b2, if_pos b1, if_neg b3]; try first | rfl | decide)) e26 (by rw [hml]; rfl) (argsL := [(.int u), (.int v)]) (rest := []) rfl rfl (lenOf own_pd1 rfl) (W := 0) (Nat.le_of_eq rfl) (by decide) (by decide) (hb hby at_90) (by decide) (by decide) ?_
        intro v40 T40 L40 X40 q40
        obtain ⟨rfl, N40q, e40⟩ := q40
        have N40 := Fr.app N26 N40q
        show Go _ _ _ _ _ T40 (mkF m 93 #[.val (.int p1), .val (.int p2), .val (.int p3), .val (.int u), .val (.int v), .val (.int (1 : Int32)), .val (.int (0 : Int32)), .val (.int (0 : Int32)), .unset] [.null])
        refine own_go (fun t k => XS.astore X40.here hx rfl (hb hby at_93) rfl rfl (l' := #[.val (.int p1), .val (.int p2), .val (.int p3), .val (.int u), .val (.int v), .val (.int (1 : Int32)), .val (.int (0 : Int32)), .val (.int (0 : Int32)), .val .null]) rfl k) ?_
        show Go _ _ _ _ _ T40 (mkF m 95 #[.val (.int p1), .val (.int p2), .val (.int p3), .val (.int u), .val (.int v), .val (.int (1 : Int32)), .val (.int (0 : Int32)), .val (.int (0 : Int32)), .val .null] [])
        refine own_go (fun t k => XS.iload X40.here hx rfl (hb hby at_95) rfl k) ?_
        show Go _ _ _ _ _ T40 (mkF m 97 #[.val (.int p1), .val (.int p2), .val (.int p3), .val (.int u), .val (.int v), .val (.int (1 : Int32)), .val (.int (0 : Int32)), .val (.int (0 : Int32)), .val .null] [(.int (0 : Int32))])
        refine own_go (fun t k => XS.ifYes X40.here hx rfl (pc0 := 97) (pc' := 114) rfl (hb hby at_97) rfl (by decide) (by decide) (by decide) k) ?_
        show Go _ _ _ _ _ T40 (mkF m 114 #[.val (.int p1), .val (.int p2), .val (.int p3), .val (.int u), .val (.int v), .val (.int (1 : Int32)), .val (.int (0 : Int32)), .val (.int (0 : Int32)), .val .null] [])
        refine own_go (fun t k => XS.iload X40.here hx rfl (hb hby at_114) rfl k) ?_
        show Go _ _ _ _ _ T40 (mkF m 116 #[.val (.int p1), .val (.int p2), .val (.int p3), .val (.int u), .val (.int v), .val (.int (1 : Int32)), .val (.int (0 : Int32)), .val (.int (0 : Int32)), .val .null] [(.int (0 : Int32))])
        refine own_go (fun t k => XS.ifYes X40.here hx rfl (pc0 := 116) (pc' := 133) rfl (hb hby at_116) rfl (by decide) (by decide) (by decide) k) ?_
        show Go _ _ _ _ _ T40 (mkF m 133 #[.val (.int p1), .val (.int p2), .val (.int p3), .val (.int u), .val (.int v), .val (.int (1 : Int32)), .val (.int (0 : Int32)), .val (.int (0 : Int32)), .val .null] [])
        refine own_go (fun t k => XS.aload X40.here hx rfl (hb hby at_133) rfl rfl k) ?_
        show Go _ _ _ _ _ T40 (mkF m 135 #[.val (.int p1), .val (.int p2), .val (.int p3), .val (.int u), .val (.int v), .val (.int (1 : Int32)), .val (.int (0 : Int32)), .val (.int (0 : Int32)), .val .null] [.null])
        refine own_go (fun t k => XS.ifnonnullNo X40.here hx rfl (hb hby at_135) rfl k) ?_
        show Go _ _ _ _ _ T40 (mkF m 138 #[.val (.int p1), .val (.int p2), .val (.int p3), .val (.int u), .val (.int v), .val (.int (1 : Int32)), .val (.int (0 : Int32)), .val (.int (0 : Int32)), .val .null] [])
        refine own_go (fun t k => XS.iconst X40.here hx rfl (hb hby at_138) k) ?_
        show Go _ _ _ _ _ T40 (mkF m 139 #[.val (.int p1), .val (.int p2), .val (.int p3), .val (.int u), .val (.int v), .val (.int (1 : Int32)), .val (.int (0 : Int32)), .val (.int (0 : Int32)), .val .null] [(.int (1 : Int32))])
        refine own_go (fun t k => XS.goto X40.here hx rfl (pc0 := 139) (pc' := 143) rfl (hb hby at_139) (by decide) (by decide) k) ?_
        show Go _ _ _ _ _ T40 (mkF m 143 #[.val (.int p1), .val (.int p2), .val (.int p3), .val (.int u), .val (.int v), .val (.int (1 : Int32)), .val (.int (0 : Int32)), .val (.int (0 : Int32)), .val .null] [(.int (1 : Int32))])
        refine own_retN X40 hx (own_lvN X40 hlk (by decide) (by decide)) (t := .boolean) hret (by simp) (hb hby at_143) ?_
        exact ⟨rfl, N40⟩
  · skip
    show Go _ _ _ _ _ T26 (mkF m 15 #[.val (.int p1), .val (.int p2), .val (.int p3), .val (.int u), .val (.int v), .unset, .unset, .unset, .unset] [])
    refine own_go (fun t k => XS.iloadN X26.here hx rfl (hb hby at_15) rfl k) ?_
    show Go _ _ _ _ _ T26 (mkF m 16 #[.val (.int p1), .val (.int p2), .val (.int p3), .val (.int u), .val (.int v), .unset, .unset, .unset, .unset] [(.int u)])
    refine own_go (fun t k => XS.sipush X26.here hx rfl (hb hby at_16) k) ?_
    show Go _ _ _ _ _ T26 (mkF m 19 #[.val (.int p1), .val (.int p2), .val (.int p3), .val (.int u), .val (.int v), .unset, .unset, .unset, .unset] [(.int (-256 : Int32)), (.int u)])
    refine own_go (fun t k => XS.iand X26.here hx rfl (hb hby at_19) rfl k) ?_
    show Go _ _ _ _ _ T26 (mkF m 20 #[.val (.int p1), .val (.int p2), .val (.int p3), .val (.int u), .val (.int v), .unset, .unset, .unset, .unset] [(.int (u &&& (-256 : Int32)))])
    refine own_ifM ((u &&& (-256 : Int32)) = (0 : Int32)) X26 hx (hb hby at_20) (own_ne _ _) (by decide) (by decide) (pc' := 36) (fun hc41 => ?_) (fun hc41 => ?_)
    · skip
      show Go _ _ _ _ _ T26 (mkF m 36 #[.val (.int p1), .val (.int p2), .val (.int p3), .val (.int u), .val (.int v), .unset, .unset, .unset, .unset] [])
      refine own_go (fun t k => XS.iconst X26.here hx rfl (hb hby at_36) k) ?_
      show Go _ _ _ _ _ T26 (mkF m 37 #[.val (.int p1), .val (.int p2), .val (.int p3), .val (.int u), .val (.int v), .unset, .unset, .unset, .unset] [(.int (0 : Int32))])
      refine own_go (fun t k => XS.istore X26.here hx rfl (hb hby at_37) rfl (l' := #[.val (.int p1), .val (.int p2), .val (.int p3), .val (.int u), .val (.int v), .val (.int (0 : Int32)), .unset, .unset, .unset]) rfl k) ?_
      show Go _ _ _ _ _ T26 (mkF m 39 #[.val (.int p1), .val (.int p2), .val (.int p3), .val (.int u), .val (.int v), .val (.int (0 : Int32)), .unset, .unset, .unset] [])
      refine own_go (fun t k => XS.iload X26.here hx rfl (hb hby at_39) rfl k) ?_
      show Go _ _ _ _ _ T26 (mkF m 41 #[.val (.int p1), .val (.int p2), .val (.int p3), .val (.int u), .val (.int v), .val (.int (0 : Int32)), .unset, .unset, .unset] [(.int (0 : Int32))])
      refine own_go (fun t k => XS.ifYes X26.here hx rfl (pc0 := 41) (pc' := 60) rfl (hb hby at_41) rfl (by decide) (by decide) (by decide) k) ?_
      show Go _ _ _ _ _ T26 (mkF m 60 #[.val (.int p1), .val (.int p2), .val (.int p3), .val (.int u), .val (.int v), .val (.int (0 : Int32)), .unset, .unset, .unset] [])
      refine own_go (fun t k => XS.iconst X26.here hx rfl (hb hby at_60) k) ?_
      show Go _ _ _ _ _ T26 (mkF m 61 #[.val (.int p1), .val (.int p2), .val (.int p3), .val (.int u), .val (.int v), .val (.int (0 : Int32)), .unset, .unset, .unset] [(.int (0 : Int32))])
      refine own_go (fun t k => XS.istore X26.here hx rfl (hb hby at_61) rfl (l' := #[.val (.int p1), .val (.int p2), .val (.int p3), .val (.int u), .val (.int v), .val (.int (0 : Int32)), .val (.int (0 : Int32)), .unset, .unset]) rfl k) ?_
      show Go _ _ _ _ _ T26 (mkF m 63 #[.val (.int p1), .val (.int p2), .val (.int p3), .val (.int u), .val (.int v), .val (.int (0 : Int32)), .val (.int (0 : Int32)), .unset, .unset] [])
      refine own_go (fun t k => XS.iload X26.here hx rfl (hb hby at_63) rfl k) ?_
      show Go _ _ _ _ _ T26 (mkF m 65 #[.val (.int p1), .val (.int p2), .val (.int p3), .val (.int u), .val (.int v), .val (.int (0 : Int32)), .val (.int (0 : Int32)), .unset, .unset] [(.int (0 : Int32))])
      refine own_go (fun t k => XS.ifYes X26.here hx rfl (pc0 := 65) (pc' := 84) rfl (hb hby at_65) rfl (by decide) (by decide) (by decide) k) ?_
      show Go _ _ _ _ _ T26 (mkF m 84 #[.val (.int p1), .val (.int p2), .val (.int p3), .val (.int u), .val (.int v), .val (.int (0 : Int32)), .val (.int (0 : Int32)), .unset, .unset] [])
      refine own_go (fun t k => XS.iconst X26.here hx rfl (hb hby at_84) k) ?_
      show Go _ _ _ _ _ T26 (mkF m 85 #[.val (.int p1), .val (.int p2), .val (.int p3), .val (.int u), .val (.int v), .val (.int (0 : Int32)), .val (.int (0 : Int32)), .unset, .unset] [(.int (0 : Int32))])
      refine own_go (fun t k => XS.istore X26.here hx rfl (hb hby at_85) rfl (l' := #[.val (.int p1), .val (.int p2), .val (.int p3), .val (.int u), .val (.int v), .val (.int (0 : Int32)), .val (.int (0 : Int32)), .val (.int (0 : Int32)), .unset]) rfl k) ?_
      show Go _ _ _ _ _ T26 (mkF m 87 #[.val (.int p1), .val (.int p2), .val (.int p3), .val (.int u), .val (.int v), .val (.int (0 : Int32)), .val (.int (0 : Int32)), .val (.int (0 : Int32)), .unset] [])
      refine own_go (fun t k => XS.iloadN X26.here hx rfl (hb hby at_87) rfl k) ?_
      show Go _ _ _ _ _ T26 (mkF m 88 #[.val (.int p1), .val (.int p2), .val (.int p3), .val (.int u), .val (.int v), .val (.int (0 : Int32)), .val (.int (0 : Int32)), .val (.int (0 : Int32)), .unset] [(.int u)])
      refine own_go (fun t k => XS.iload X26.here hx rfl (hb hby at_88) rfl k) ?_
      show Go _ _ _ _ _ T26 (mkF m 90 #[.val (.int p1), .val (.int p2), .val (.int p3), .val (.int u), .val (.int v), .val (.int (0 : Int32)), .val (.int (0 : Int32)), .val (.int (0 : Int32)), .unset] [(.int v), (.int u)])
      refine own_callS X26 hx hZ (y := (⟨"com/example/pair16/pair16/ByteOrderMark", "orderOf", "(II)Ljava/nio/ByteOrder;"⟩ : MethodName)) hown (hw _ (List.mem_of_getElem? (i := 5) rfl)) (hw _ (List.mem_of_getElem? (i := 6) rfl)) (hw _ (List.mem_of_getElem? (i := 7) rfl)) (hw _ (List.mem_of_getElem? (i := 8) rfl)) (by decide) (rm2 l Z a0 hw [] u v w_BIG_ENDIAN w_LITTLE_ENDIAN (.null) h0 n0 hn0 S_BIG_ENDIAN S_LITTLE_ENDIAN (by rw [own_f_rm2, if_neg b1, if_neg b2]; try first | rfl | decide)) e26 (by rw [hml]; rfl) (argsL := [(.int u), (.int v)]) (rest := []) rfl rfl (lenOf own_pd1 rfl) (W := 0) (Nat.le_of_eq rfl) (by decide) (by decide) (hb hby at_90) (by decide) (by decide) ?_
      intro v42 T42 L42 X42 q42
      obtain ⟨rfl, N42q, e42⟩ := q42
      have N42 := Fr.app N26 N42q
      show Go _ _ _ _ _ T42 (mkF m 93 #[.val (.int p1), .val (.int p2), .val (.int p3), .val (.int u), .val (.int v), .val (.int (0 : Int32)), .val (.int (0 : Int32)), .val (.int (0 : Int32)), .unset] [.null])
      refine own_go (fun t k => XS.astore X42.here hx rfl (hb hby at_93) rfl rfl (l' := #[.val (.int p1), .val (.int p2), .val (.int p3), .val (.int u), .val (.int v), .val (.int (0 : Int32)), .val (.int (0 : Int32)), .val (.int (0 : Int32)), .val .null]) rfl k) ?_
      show Go _ _ _ _ _ T42 (mkF m 95 #[.val (.int p1), .val (.int p2), .val (.int p3), .val (.int u), .val (.int v), .val (.int (0 : Int32)), .val (.int (0 : Int32)), .val (.int (0 : Int32)), .val .null] [])
      refine own_go (fun t k => XS.iload X42.here hx rfl (hb hby at_95) rfl k) ?_
      show Go _ _ _ _ _ T42 (mkF m 97 #[.val (.int p1), .val (.int p2), .val (.int p3), .val (.int u), .val (.int v), .val (.int (0 : Int32)), .val (.int (0 : Int32)), .val (.int (0 : Int32)), .val .null] [(.int (0 : Int32))])
      refine own_go (fun t k => XS.ifYes X42.here hx rfl (pc0 := 97) (pc' := 114) rfl (hb hby at_97) rfl (by decide) (by decide) (by decide) k) ?_
      show Go _ _ _ _ _ T42 (mkF m 114 #[.val (.int p1), .val (.int p2), .val (.int p3), .val (.int u), .val (.int v), .val (.int (0 : Int32)), .val (.int (0 : Int32)), .val (.int (0 : Int32)), .val .null] [])
      refine own_go (fun t k => XS.iload X42.here hx rfl (hb hby at_114) rfl k) ?_
      show Go _ _ _ _ _ T42 (mkF m 116 #[.val (.int p1), .val (.int p2), .val (.int p3), .val (.int u), .val (.int v), .val (.int (0 : Int32)), .val (.int (0 : Int32)), .val (.int (0 : Int32)), .val .null] [(.int (0 : Int32))])
      refine own_go (fun t k => XS.ifYes X42.here hx rfl (pc0 := 116) (pc' := 133) rfl (hb hby at_116) rfl (by decide) (by decide) (by decide) k) ?_
      show Go _ _ _ _ _ T42 (mkF m 133 #[.val (.int p1), .val (.int p2), .val (.int p3), .val (.int u), .val (.int v), .val (.int (0 : Int32)), .val (.int (0 : Int32)), .val (.int (0 : Int32)), .val .null] [])
      refine own_go (fun t k => XS.aload X42.here hx rfl (hb hby at_133) rfl rfl k) ?_
      show Go _ _ _ _ _ T42 (mkF m 135 #[.val (.int p1), .val (.int p2), .val (.int p3), .val (.int u), .val (.int v), .val (.int (0 : Int32)), .val (.int (0 : Int32)), .val (.int (0 : Int32)), .val .null] [.null])
      refine own_go (fun t k => XS.ifnonnullNo X42.here hx rfl (hb hby at_135) rfl k) ?_
      show Go _ _ _ _ _ T42 (mkF m 138 #[.val (.int p1), .val (.int p2), .val (.int p3), .val (.int u), .val (.int v), .val (.int (0 : Int32)), .val (.int (0 : Int32)), .val (.int (0 : Int32)), .val .null] [])
      refine own_go (fun t k => XS.iconst X42.here hx rfl (hb hby at_138) k) ?_
      show Go _ _ _ _ _ T42 (mkF m 139 #[.val (.int p1), .val (.int p2), .val (.int p3), .val (.int u), .val (.int v), .val (.int (0 : Int32)), .val (.int (0 : Int32)), .val (.int (0 : Int32)), .val .null] [(.int (1 : Int32))])
      refine own_go (fun t k => XS.goto X42.here hx rfl (pc0 := 139) (pc' := 143) rfl (hb hby at_139) (by decide) (by decide) k) ?_
      show Go _ _ _ _ _ T42 (mkF m 143 #[.val (.int p1), .val (.int p2), .val (.int p3), .val (.int u), .val (.int v), .val (.int (0 : Int32)), .val (.int (0 : Int32)), .val (.int (0 : Int32)), .val .null] [(.int (1 : Int32))])
      refine own_retN X42 hx (own_lvN X42 hlk (by decide) (by decide)) (t := .boolean) hret (by simp) (hb hby at_143) ?_
      exact ⟨rfl, N42⟩
    · skip
      show Go _ _ _ _ _ T26 (mkF m 23 #[.val (.int p1), .val (.int p2), .val (.int p3), .val (.int u), .val (.int v), .unset, .unset, .unset, .unset] [])
      refine own_go (fun t k => XS.iload X26.here hx rfl (hb hby at_23) rfl k) ?_
      show Go _ _ _ _ _ T26 (mkF m 25 #[.val (.int p1), .val (.int p2), .val (.int p3), .val (.int u), .val (.int v), .unset, .unset, .unset, .unset] [(.int v)])
      refine own_go (fun t k => XS.sipush X26.here hx rfl (hb hby at_25) k) ?_
      show Go _ _ _ _ _ T26 (mkF m 28 #[.val (.int p1), .val (.int p2), .val (.int p3), .val (.int u), .val (.int v), .unset, .unset, .unset, .unset] [(.int (-256 : Int32)), (.int v)])
      refine own_go (fun t k => XS.iand X26.here hx rfl (hb hby at_28) rfl k) ?_
      show Go _ _ _ _ _ T26 (mkF m 29 #[.val (.int p1), .val (.int p2), .val (.int p3), .val (.int u), .val (.int v), .unset, .unset, .unset, .unset] [(.int (v &&& (-256 : Int32)))])
      refine own_ifM ((v &&& (-256 : Int32)) = (0 : Int32)) X26 hx (hb hby at_29) (own_ne _ _) (by decide) (by decide) (pc' := 36) (fun hc43 => ?_) (fun hc43 => ?_)
      · skip
        show Go _ _ _ _ _ T26 (mkF m 36 #[.val (.int p1), .val (.int p2), .val (.int p3), .val (.int u), .val (.int v), .unset, .unset, .unset, .unset] [])
        refine own_go (fun t k => XS.iconst X26.here hx rfl (hb hby at_36) k) ?_
        show Go _ _ _ _ _ T26 (mkF m 37 #[.val (.int p1), .val (.int p2), .val (.int p3), .val (.int u), .val (.int v), .unset, .unset, .unset, .unset] [(.int (0 : Int32))])
        refine own_go (fun t k => XS.istore X26.here hx rfl (hb hby at_37) rfl (l' := #[.val (.int p1), .val (.int p2), .val (.int p3), .val (.int u), .val (.int v), .val (.int (0 : Int32)), .unset, .unset, .unset]) rfl k) ?_
        show Go _ _ _ _ _ T26 (mkF m 39 #[.val (.int p1), .val (.int p2), .val (.int p3), .val (.int u), .val (.int v), .val (.int (0 : Int32)), .unset, .unset, .unset] [])
        refine own_go (fun t k => XS.iload X26.here hx rfl (hb hby at_39) rfl k) ?_
        show Go _ _ _ _ _ T26 (mkF m 41 #[.val (.int p1), .val (.int p2), .val (.int p3), .val (.int u), .val (.int v), .val (.int (0 : Int32)), .unset, .unset, .unset] [(.int (0 : Int32))])
        refine own_go (fun t k => XS.ifYes X26.here hx rfl (pc0 := 41) (pc' := 60) rfl (hb hby at_41) rfl (by decide) (by decide) (by decide) k) ?_
        show Go _ _ _ _ _ T26 (mkF m 60 #[.val (.int p1), .val (.int p2), .val (.int p3), .val (.int u), .val (.int v), .val (.int (0 : Int32)), .unset, .unset, .unset] [])
        refine own_go (fun t k => XS.iconst X26.here hx rfl (hb hby at_60) k) ?_
        show Go _ _ _ _ _ T26 (mkF m 61 #[.val (.int p1), .val (.int p2), .val (.int p3), .val (.int u), .val (.int v), .val (.int (0 : Int32)), .unset, .unset, .unset] [(.int (0 : Int32))])
        refine own_go (fun t k => XS.istore X26.here hx rfl (hb hby at_61) rfl (l' := #[.val (.int p1), .val (.int p2), .val (.int p3), .val (.int u), .val (.int v), .val (.int (0 : Int32)), .val (.int (0 : Int32)), .unset, .unset]) rfl k) ?_
        show Go _ _ _ _ _ T26 (mkF m 63 #[.val (.int p1), .val (.int p2), .val (.int p3), .val (.int u), .val (.int v), .val (.int (0 : Int32)), .val (.int (0 : Int32)), .unset, .unset] [])
        refine own_go (fun t k => XS.iload X26.here hx rfl (hb hby at_63) rfl k) ?_
        show Go _ _ _ _ _ T26 (mkF m 65 #[.val (.int p1), .val (.int p2), .val (.int p3), .val (.int u), .val (.int v), .val (.int (0 : Int32)), .val (.int (0 : Int32)), .unset, .unset] [(.int (0 : Int32))])
        refine own_go (fun t k => XS.ifYes X26.here hx rfl (pc0 := 65) (pc' := 84) rfl (hb hby at_65) rfl (by decide) (by decide) (by decide) k) ?_
        show Go _ _ _ _ _ T26 (mkF m 84 #[.val (.int p1), .val (.int p2), .val (.int p3), .val (.int u), .val (.int v), .val (.int (0 : Int32)), .val (.int (0 : Int32)), .unset, .unset] [])
        refine own_go (fun t k => XS.iconst X26.here hx rfl (hb hby at_84) k) ?_
        show Go _ _ _ _ _ T26 (mkF m 85 #[.val (.int p1), .val (.int p2), .val (.int p3), .val (.int u), .val (.int v), .val (.int (0 : Int32)), .val (.int (0 : Int32)), .unset, .unset] [(.int (0 : Int32))])
        refine own_go (fun t k => XS.istore X26.here hx rfl (hb hby at_85) rfl (l' := #[.val (.int p1), .val (.int p2), .val (.int p3), .val (.int u), .val (.int v), .val (.int (0 : Int32)), .val (.int (0 : Int32)), .val (.int (0 : Int32)), .unset]) rfl k) ?_
        show Go _ _ _ _ _ T26 (mkF m 87 #[.val (.int p1), .val (.int p2), .val (.int p3), .val (.int u), .val (.int v), .val (.int (0 : Int32)), .val (.int (0 : Int32)), .val (.int (0 : Int32)), .unset] [])
        refine own_go (fun t k => XS.iloadN X26.here hx rfl (hb hby at_87) rfl k) ?_
        show Go _ _ _ _ _ T26 (mkF m 88 #[.val (.int p1), .val (.int p2), .val (.int p3), .val (.int u), .val (.int v), .val (.int (0 : Int32)), .val (.int (0 : Int32)), .val (.int (0 : Int32)), .unset] [(.int u)])
        refine own_go (fun t k => XS.iload X26.here hx rfl (hb hby at_88) rfl k) ?_
        show Go _ _ _ _ _ T26 (mkF m 90 #[.val (.int p1), .val (.int p2), .val (.int p3), .val (.int u), .val (.int v), .val (.int (0 : Int32)), .val (.int (0 : Int32)), .val (.int (0 : Int32)), .unset] [(.int v), (.int u)])
        refine own_callS X26 hx hZ (y := (⟨"com/example/pair16/pair16/ByteOrderMark", "orderOf", "(II)Ljava/nio/ByteOrder;"⟩ : MethodName)) hown (hw _ (List.mem_of_getElem? (i := 5) rfl)) (hw _ (List.mem_of_getElem? (i := 6) rfl)) (hw _ (List.mem_of_getElem? (i := 7) rfl)) (hw _ (List.mem_of_getElem? (i := 8) rfl)) (by decide) (rm2 l Z a0 hw [] u v w_BIG_ENDIAN w_LITTLE_ENDIAN (.null) h0 n0 hn0 S_BIG_ENDIAN S_LITTLE_ENDIAN (by rw [own_f_rm2, if_neg b1, if_neg b2]; try first | rfl | decide)) e26 (by rw [hml]; rfl) (argsL := [(.int u), (.int v)]) (rest := []) rfl rfl (lenOf own_pd1 rfl) (W := 0) (Nat.le_of_eq rfl) (by decide) (by decide) (hb hby at_90) (by decide) (by decide) ?_
        intro v44 T44 L44 X44 q44
        obtain ⟨rfl, N44q, e44⟩ := q44
        have N44 := Fr.app N26 N44q
        show Go _ _ _ _ _ T44 (mkF m 93 #[.val (.int p1), .val (.int p2), .val (.int p3), .val (.int u), .val (.int v), .val (.int (0 : Int32)), .val (.int (0 : Int32)), .val (.int (0 : Int32)), .unset] [.null])
        refine own_go (fun t k => XS.astore X44.here hx rfl (hb hby at_93) rfl rfl (l' := #[.val (.int p1), .val (.int p2), .val (.int p3), .val (.int u), .val (.int v), .val (.int (0 : Int32)), .val (.int (0 : Int32)), .val (.int (0 : Int32)), .val .null]) rfl k) ?_
        show Go _ _ _ _ _ T44 (mkF m 95 #[.val (.int p1), .val (.int p2), .val (.int p3), .val (.int u), .val (.int v), .val (.int (0 : Int32)), .val (.int (0 : Int32)), .val (.int (0 : Int32)), .val .null] [])
        refine own_go (fun t k => XS.iload X44.here hx rfl (hb hby at_95) rfl k) ?_
        show Go _ _ _ _ _ T44 (mkF m 97 #[.val (.int p1), .val (.int p2), .val (.int p3), .val (.int u), .val (.int v), .val (.int (0 : Int32)), .val (.int (0 : Int32)), .val (.int (0 : Int32)), .val .null] [(.int (0 : Int32))])
        refine own_go (fun t k => XS.ifYes X44.here hx rfl (pc0 := 97) (pc' := 114) rfl (hb hby at_97) rfl (by decide) (by decide) (by decide) k) ?_
        show Go _ _ _ _ _ T44 (mkF m 114 #[.val (.int p1), .val (.int p2), .val (.int p3), .val (.int u), .val (.int v), .val (.int (0 : Int32)), .val (.int (0 : Int32)), .val (.int (0 : Int32)), .val .null] [])
        refine own_go (fun t k => XS.iload X44.here hx rfl (hb hby at_114) rfl k) ?_
        show Go _ _ _ _ _ T44 (mkF m 116 #[.val (.int p1), .val (.int p2), .val (.int p3), .val (.int u), .val (.int v), .val (.int (0 : Int32)), .val (.int (0 : Int32)), .val (.int (0 : Int32)), .val .null] [(.int (0 : Int32))])
        refine own_go (fun t k => XS.ifYes X44.here hx rfl (pc0 := 116) (pc' := 133) rfl (hb hby at_116) rfl (by decide) (by decide) (by decide) k) ?_
        show Go _ _ _ _ _ T44 (mkF m 133 #[.val (.int p1), .val (.int p2), .val (.int p3), .val (.int u), .val (.int v), .val (.int (0 : Int32)), .val (.int (0 : Int32)), .val (.int (0 : Int32)), .val .null] [])
        refine own_go (fun t k => XS.aload X44.here hx rfl (hb hby at_133) rfl rfl k) ?_
        show Go _ _ _ _ _ T44 (mkF m 135 #[.val (.int p1), .val (.int p2), .val (.int p3), .val (.int u), .val (.int v), .val (.int (0 : Int32)), .val (.int (0 : Int32)), .val (.int (0 : Int32)), .val .null] [.null])
        refine own_go (fun t k => XS.ifnonnullNo X44.here hx rfl (hb hby at_135) rfl k) ?_
        show Go _ _ _ _ _ T44 (mkF m 138 #[.val (.int p1), .val (.int p2), .val (.int p3), .val (.int u), .val (.int v), .val (.int (0 : Int32)), .val (.int (0 : Int32)), .val (.int (0 : Int32)), .val .null] [])
        refine own_go (fun t k => XS.iconst X44.here hx rfl (hb hby at_138) k) ?_
        show Go _ _ _ _ _ T44 (mkF m 139 #[.val (.int p1), .val (.int p2), .val (.int p3), .val (.int u), .val (.int v), .val (.int (0 : Int32)), .val (.int (0 : Int32)), .val (.int (0 : Int32)), .val .null] [(.int (1 : Int32))])
        refine own_go (fun t k => XS.goto X44.here hx rfl (pc0 := 139) (pc' := 143) rfl (hb hby at_139) (by decide) (by decide) k) ?_
        show Go _ _ _ _ _ T44 (mkF m 143 #[.val (.int p1), .val (.int p2), .val (.int p3), .val (.int u), .val (.int v), .val (.int (0 : Int32)), .val (.int (0 : Int32)), .val (.int (0 : Int32)), .val .null] [(.int (1 : Int32))])
        refine own_retN X44 hx (own_lvN X44 hlk (by decide) (by decide)) (t := .boolean) hret (by simp) (hb hby at_143) ?_
        exact ⟨rfl, N44⟩
      · skip
        show Go _ _ _ _ _ T26 (mkF m 32 #[.val (.int p1), .val (.int p2), .val (.int p3), .val (.int u), .val (.int v), .unset, .unset, .unset, .unset] [])
        refine own_go (fun t k => XS.iconst X26.here hx rfl (hb hby at_32) k) ?_
        show Go _ _ _ _ _ T26 (mkF m 33 #[.val (.int p1), .val (.int p2), .val (.int p3), .val (.int u), .val (.int v), .unset, .unset, .unset, .unset] [(.int (1 : Int32))])
        refine own_go (fun t k => XS.goto X26.here hx rfl (pc0 := 33) (pc' := 37) rfl (hb hby at_33) (by decide) (by decide) k) ?_
        show Go _ _ _ _ _ T26 (mkF m 37 #[.val (.int p1), .val (.int p2), .val (.int p3), .val (.int u), .val (.int v), .unset, .unset, .unset, .unset] [(.int (1 : Int32))])
        refine own_go (fun t k => XS.istore X26.here hx rfl (hb hby at_37) rfl (l' := #[.val (.int p1), .val (.int p2), .val (.int p3), .val (.int u), .val (.int v), .val (.int (1 : Int32)), .unset, .unset, .unset]) rfl k) ?_
        show Go _ _ _ _ _ T26 (mkF m 39 #[.val (.int p1), .val (.int p2), .val (.int p3), .val (.int u), .val (.int v), .val (.int (1 : Int32)), .unset, .unset, .unset] [])
        refine own_go (fun t k => XS.iload X26.here hx rfl (hb hby at_39) rfl k) ?_
        show Go _ _ _ _ _ T26 (mkF m 41 #[.val (.int p1), .val (.int p2), .val (.int p3), .val (.int u), .val (.int v), .val (.int (1 : Int32)), .unset, .unset, .unset] [(.int (1 : Int32))])
        refine own_go (fun t k => XS.ifNo X26.here hx rfl (hb hby at_41) rfl (by decide) k) ?_
        show Go _ _ _ _ _ T26 (mkF m 44 #[.val (.int p1), .val (.int p2), .val (.int p3), .val (.int u), .val (.int v), .val (.int (1 : Int32)), .unset, .unset, .unset] [])
        refine own_go (fun t k => XS.iloadN X26.here hx rfl (hb hby at_44) rfl k) ?_
        show Go _ _ _ _ _ T26 (mkF m 45 #[.val (.int p1), .val (.int p2), .val (.int p3), .val (.int u), .val (.int v), .val (.int (1 : Int32)), .unset, .unset, .unset] [(.int u)])
        refine own_go (fun t k => XS.bipush X26.here hx rfl (hb hby at_45) k) ?_
        show Go _ _ _ _ _ T26 (mkF m 47 #[.val (.int p1), .val (.int p2), .val (.int p3), .val (.int u), .val (.int v), .val (.int (1 : Int32)), .unset, .unset, .unset] [(.int (8 : Int32)), (.int u)])
        refine own_go (fun t k => XS.ishl X26.here hx rfl (hb hby at_47) rfl k) ?_
        show Go _ _ _ _ _ T26 (mkF m 48 #[.val (.int p1), .val (.int p2), .val (.int p3), .val (.int u), .val (.int v), .val (.int (1 : Int32)), .unset, .unset, .unset] [(.int (u <<< ((8 : Int32) &&& 31)))])
        refine own_go (fun t k => XS.iload X26.here hx rfl (hb hby at_48) rfl k) ?_
        show Go _ _ _ _ _ T26 (mkF m 50 #[.val (.int p1), .val (.int p2), .val (.int p3), .val (.int u), .val (.int v), .val (.int (1 : Int32)), .unset, .unset, .unset] [(.int v), (.int (u <<< ((8 : Int32) &&& 31)))])
        refine own_go (fun t k => XS.ior X26.here hx rfl (hb hby at_50) rfl k) ?_
        show Go _ _ _ _ _ T26 (mkF m 51 #[.val (.int p1), .val (.int p2), .val (.int p3), .val (.int u), .val (.int v), .val (.int (1 : Int32)), .unset, .unset, .unset] [(.int ((u <<< ((8 : Int32) &&& 31)) ||| v))])
        refine own_go (fun t k => X26.ldcInt hx hown (mvT hZ (hw _ (List.mem_of_getElem? (i := 4) rfl))) (g := (mkF m 51 #[.val (.int p1), .val (.int p2), .val (.int p3), .val (.int u), .val (.int v), .val (.int (1 : Int32)), .unset, .unset, .unset] [(.int ((u <<< ((8 : Int32) &&& 31)) ||| v))])) rfl (hb hby at_51) _ k) ?_
        show Go _ _ _ _ _ T26 (mkF m 53 #[.val (.int p1), .val (.int p2), .val (.int p3), .val (.int u), .val (.int v), .val (.int (1 : Int32)), .unset, .unset, .unset] [(.int (65279 : Int32)), (.int ((u <<< ((8 : Int32) &&& 31)) ||| v))])
        refine own_go (fun t k => XS.icmpYes X26.here hx rfl (pc0 := 53) (pc' := 60) rfl (hb hby at_53) rfl (feq (bN hc41 hc43).1).2 (by decide) (by decide) k) ?_
        show Go _ _ _ _ _ T26 (mkF m 60 #[.val (.int p1), .val (.int p2), .val (.int p3), .val (.int u), .val (.int v), .val (.int (1 : Int32)), .unset, .unset, .unset] [])
        refine own_go (fun t k => XS.iconst X26.here hx rfl (hb hby at_60) k) ?_
        show Go _ _ _ _ _ T26 (mkF m 61 #[.val (.int p1), .val (.int p2), .val (.int p3), .val (.int u), .val (.int v), .val (.int (1 : Int32)), .unset, .unset, .unset] [(.int (0 : Int32))])
        refine own_go (fun t k => XS.istore X26.here hx rfl (hb hby at_61) rfl (l' := #[.val (.int p1), .val (.int p2), .val (.int p3), .val (.int u), .val (.int v), .val (.int (1 : Int32)), .val (.int (0 : Int32)), .unset, .unset]) rfl k) ?_
        show Go _ _ _ _ _ T26 (mkF m 63 #[.val (.int p1), .val (.int p2), .val (.int p3), .val (.int u), .val (.int v), .val (.int (1 : Int32)), .val (.int (0 : Int32)), .unset, .unset] [])
        refine own_go (fun t k => XS.iload X26.here hx rfl (hb hby at_63) rfl k) ?_
        show Go _ _ _ _ _ T26 (mkF m 65 #[.val (.int p1), .val (.int p2), .val (.int p3), .val (.int u), .val (.int v), .val (.int (1 : Int32)), .val (.int (0 : Int32)), .unset, .unset] [(.int (1 : Int32))])
        refine own_go (fun t k => XS.ifNo X26.here hx rfl (hb hby at_65) rfl (by decide) k) ?_
        show Go _ _ _ _ _ T26 (mkF m 68 #[.val (.int p1), .val (.int p2), .val (.int p3), .val (.int u), .val (.int v), .val (.int (1 : Int32)), .val (.int (0 : Int32)), .unset, .unset] [])
        refine own_go (fun t k => XS.iload X26.here hx rfl (hb hby at_68) rfl k) ?_
        show Go _ _ _ _ _ T26 (mkF m 70 #[.val (.int p1), .val (.int p2), .val (.int p3), .val (.int u), .val (.int v), .val (.int (1 : Int32)), .val (.int (0 : Int32)), .unset, .unset] [(.int v)])
        refine own_go (fun t k => XS.bipush X26.here hx rfl (hb hby at_70) k) ?_
        show Go _ _ _ _ _ T26 (mkF m 72 #[.val (.int p1), .val (.int p2), .val (.int p3), .val (.int u), .val (.int v), .val (.int (1 : Int32)), .val (.int (0 : Int32)), .unset, .unset] [(.int (8 : Int32)), (.int v)])
        refine own_go (fun t k => XS.ishl X26.here hx rfl (hb hby at_72) rfl k) ?_
        show Go _ _ _ _ _ T26 (mkF m 73 #[.val (.int p1), .val (.int p2), .val (.int p3), .val (.int u), .val (.int v), .val (.int (1 : Int32)), .val (.int (0 : Int32)), .unset, .unset] [(.int (v <<< ((8 : Int32) &&& 31)))])
        refine own_go (fun t k => XS.iloadN X26.here hx rfl (hb hby at_73) rfl k) ?_
        show Go _ _ _ _ _ T26 (mkF m 74 #[.val (.int p1), .val (.int p2), .val (.int p3), .val (.int u), .val (.int v), .val (.int (1 : Int32)), .val (.int (0 : Int32)), .unset, .unset] [(.int u), (.int (v <<< ((8 : Int32) &&& 31)))])
        refine own_go (fun t k => XS.ior X26.here hx rfl (hb hby at_74) rfl k) ?_
        show Go _ _ _ _ _ T26 (mkF m 75 #[.val (.int p1), .val (.int p2), .val (.int p3), .val (.int u), .val (.int v), .val (.int (1 : Int32)), .val (.int (0 : Int32)), .unset, .unset] [(.int ((v <<< ((8 : Int32) &&& 31)) ||| u))])
        refine own_go (fun t k => X26.ldcInt hx hown (mvT hZ (hw _ (List.mem_of_getElem? (i := 4) rfl))) (g := (mkF m 75 #[.val (.int p1), .val (.int p2), .val (.int p3), .val (.int u), .val (.int v), .val (.int (1 : Int32)), .val (.int (0 : Int32)), .unset, .unset] [(.int ((v <<< ((8 : Int32) &&& 31)) ||| u))])) rfl (hb hby at_75) _ k) ?_
        show Go _ _ _ _ _ T26 (mkF m 77 #[.val (.int p1), .val (.int p2), .val (.int p3), .val (.int u), .val (.int v), .val (.int (1 : Int32)), .val (.int (0 : Int32)), .unset, .unset] [(.int (65279 : Int32)), (.int ((v <<< ((8 : Int32) &&& 31)) ||| u))])
        refine own_go (fun t k => XS.icmpYes X26.here hx rfl (pc0 := 77) (pc' := 84) rfl (hb hby at_77) rfl (feq (bN hc41 hc43).2).2 (by decide) (by decide) k) ?_
        show Go _ _ _ _ _ T26 (mkF m 84 #[.val (.int p1), .val (.int p2), .val (.int p3), .val (.int u), .val (.int v), .val (.int (1 : Int32)), .val (.int (0 : Int32)), .unset, .unset] [])
        refine own_go (fun t k => XS.iconst X26.here hx rfl (hb hby at_84) k) ?_
        show Go _ _ _ _ _ T26 (mkF m 85 #[.val (.int p1), .val (.int p2), .val (.int p3), .val (.int u), .val (.int v), .val (.int (1 : Int32)), .val (.int (0 : Int32)), .unset, .unset] [(.int (0 : Int32))])
        refine own_go (fun t k => XS.istore X26.here hx rfl (hb hby at_85) rfl (l' := #[.val (.int p1), .val (.int p2), .val (.int p3), .val (.int u), .val (.int v), .val (.int (1 : Int32)), .val (.int (0 : Int32)), .val (.int (0 : Int32)), .unset]) rfl k) ?_
        show Go _ _ _ _ _ T26 (mkF m 87 #[.val (.int p1), .val (.int p2), .val (.int p3), .val (.int u), .val (.int v), .val (.int (1 : Int32)), .val (.int (0 : Int32)), .val (.int (0 : Int32)), .unset] [])
        refine own_go (fun t k => XS.iloadN X26.here hx rfl (hb hby at_87) rfl k) ?_
        show Go _ _ _ _ _ T26 (mkF m 88 #[.val (.int p1), .val (.int p2), .val (.int p3), .val (.int u), .val (.int v), .val (.int (1 : Int32)), .val (.int (0 : Int32)), .val (.int (0 : Int32)), .unset] [(.int u)])
        refine own_go (fun t k => XS.iload X26.here hx rfl (hb hby at_88) rfl k) ?_
        show Go _ _ _ _ _ T26 (mkF m 90 #[.val (.int p1), .val (.int p2), .val (.int p3), .val (.int u), .val (.int v), .val (.int (1 : Int32)), .val (.int (0 : Int32)), .val (.int (0 : Int32)), .unset] [(.int v), (.int u)])
        refine own_callS X26 hx hZ (y := (⟨"com/example/pair16/pair16/ByteOrderMark", "orderOf", "(II)Ljava/nio/ByteOrder;"⟩ : MethodName)) hown (hw _ (List.mem_of_getElem? (i := 5) rfl)) (hw _ (List.mem_of_getElem? (i := 6) rfl)) (hw _ (List.mem_of_getElem? (i := 7) rfl)) (hw _ (List.mem_of_getElem? (i := 8) rfl)) (by decide) (rm2 l Z a0 hw [] u v w_BIG_ENDIAN w_LITTLE_ENDIAN (.null) h0 n0 hn0 S_BIG_ENDIAN S_LITTLE_ENDIAN (by rw [own_f_rm2, if_neg b1, if_neg b2]; try first | rfl | decide)) e26 (by rw [hml]; rfl) (argsL := [(.int u), (.int v)]) (rest := []) rfl rfl (lenOf own_pd1 rfl) (W := 0) (Nat.le_of_eq rfl) (by decide) (by decide) (hb hby at_90) (by decide) (by decide) ?_
        intro v45 T45 L45 X45 q45
        obtain ⟨rfl, N45q, e45⟩ := q45
        have N45 := Fr.app N26 N45q
        show Go _ _ _ _ _ T45 (mkF m 93 #[.val (.int p1), .val (.int p2), .val (.int p3), .val (.int u), .val (.int v), .val (.int (1 : Int32)), .val (.int (0 : Int32)), .val (.int (0 : Int32)), .unset] [.null])
        refine own_go (fun t k => XS.astore X45.here hx rfl (hb hby at_93) rfl rfl (l' := #[.val (.int p1), .val (.int p2), .val (.int p3), .val (.int u), .val (.int v), .val (.int (1 : Int32)), .val (.int (0 : Int32)), .val (.int (0 : Int32)), .val .null]) rfl k) ?_
        show Go _ _ _ _ _ T45 (mkF m 95 #[.val (.int p1), .val (.int p2), .val (.int p3), .val (.int u), .val (.int v), .val (.int (1 : Int32)), .val (.int (0 : Int32)), .val (.int (0 : Int32)), .val .null] [])
        refine own_go (fun t k => XS.iload X45.here hx rfl (hb hby at_95) rfl k) ?_
        show Go _ _ _ _ _ T45 (mkF m 97 #[.val (.int p1), .val (.int p2), .val (.int p3), .val (.int u), .val (.int v), .val (.int (1 : Int32)), .val (.int (0 : Int32)), .val (.int (0 : Int32)), .val .null] [(.int (0 : Int32))])
        refine own_go (fun t k => XS.ifYes X45.here hx rfl (pc0 := 97) (pc' := 114) rfl (hb hby at_97) rfl (by decide) (by decide) (by decide) k) ?_
        show Go _ _ _ _ _ T45 (mkF m 114 #[.val (.int p1), .val (.int p2), .val (.int p3), .val (.int u), .val (.int v), .val (.int (1 : Int32)), .val (.int (0 : Int32)), .val (.int (0 : Int32)), .val .null] [])
        refine own_go (fun t k => XS.iload X45.here hx rfl (hb hby at_114) rfl k) ?_
        show Go _ _ _ _ _ T45 (mkF m 116 #[.val (.int p1), .val (.int p2), .val (.int p3), .val (.int u), .val (.int v), .val (.int (1 : Int32)), .val (.int (0 : Int32)), .val (.int (0 : Int32)), .val .null] [(.int (0 : Int32))])
        refine own_go (fun t k => XS.ifYes X45.here hx rfl (pc0 := 116) (pc' := 133) rfl (hb hby at_116) rfl (by decide) (by decide) (by decide) k) ?_
        show Go _ _ _ _ _ T45 (mkF m 133 #[.val (.int p1), .val (.int p2), .val (.int p3), .val (.int u), .val (.int v), .val (.int (1 : Int32)), .val (.int (0 : Int32)), .val (.int (0 : Int32)), .val .null] [])
        refine own_go (fun t k => XS.aload X45.here hx rfl (hb hby at_133) rfl rfl k) ?_
        show Go _ _ _ _ _ T45 (mkF m 135 #[.val (.int p1), .val (.int p2), .val (.int p3), .val (.int u), .val (.int v), .val (.int (1 : Int32)), .val (.int (0 : Int32)), .val (.int (0 : Int32)), .val .null] [.null])
        refine own_go (fun t k => XS.ifnonnullNo X45.here hx rfl (hb hby at_135) rfl k) ?_
        show Go _ _ _ _ _ T45 (mkF m 138 #[.val (.int p1), .val (.int p2), .val (.int p3), .val (.int u), .val (.int v), .val (.int (1 : Int32)), .val (.int (0 : Int32)), .val (.int (0 : Int32)), .val .null] [])
        refine own_go (fun t k => XS.iconst X45.here hx rfl (hb hby at_138) k) ?_
        show Go _ _ _ _ _ T45 (mkF m 139 #[.val (.int p1), .val (.int p2), .val (.int p3), .val (.int u), .val (.int v), .val (.int (1 : Int32)), .val (.int (0 : Int32)), .val (.int (0 : Int32)), .val .null] [(.int (1 : Int32))])
        refine own_go (fun t k => XS.goto X45.here hx rfl (pc0 := 139) (pc' := 143) rfl (hb hby at_139) (by decide) (by decide) k) ?_
        show Go _ _ _ _ _ T45 (mkF m 143 #[.val (.int p1), .val (.int p2), .val (.int p3), .val (.int u), .val (.int v), .val (.int (1 : Int32)), .val (.int (0 : Int32)), .val (.int (0 : Int32)), .val .null] [(.int (1 : Int32))])
        refine own_retN X45 hx (own_lvN X45 hlk (by decide) (by decide)) (t := .boolean) hret (by simp) (hb hby at_143) ?_
        exact ⟨rfl, N45⟩
set_option maxRecDepth 65536 in
set_option maxHeartbeats 40000000 in
theorem comes_1 {Post : Tables → Env → Array Value → State → Outcome → State → Prop} (hpost : ∀ tb e args s v u, (limb_1_1.after args s (.returned v) u = true ∧ limb_1_2.after args s (.returned v) u = true ∧ True) → FrameEnd s (.returned v) u (Jvm.fieldLocs frame_1_writes args s ++ Jvm.arrayLocs frame_1_arrays args s ++ Jvm.staticLocs frame_1_statics s) 0 0 → Post tb e args s (.returned v) u) :
    ArmFor flags0 classFile x code maxLocals ret World_1 tables_1 room_1 Calls_1 rest_1 Pre_1 Post := by
  intro l hfl _ _ p e ha hc hk s m args below hf hA hF happ hP
  obtain ⟨hcalls, hrest, hpre⟩ := hP
  obtain ⟨-, -, -, hnamed, -, -, -, hat⟩ := (Spec.applies_iff hf).mp happ
  obtain ⟨hg, hn⟩ := and_e (Cond.before_iff.mp (show (Jvm.Cond.and given_1 narrow_1).before args s = true from hpre))
  obtain ⟨g1, g2⟩ := and_e hg
  obtain ⟨g3, g4⟩ := and_e g2
  obtain ⟨g5, g6⟩ := and_e g4
  obtain ⟨w0, w1, w2, rfl⟩ : ∃ w0 w1 w2 : Value, args = #[w0, w1, w2] := by
    have hs : args.size = 3 := by simpa [Cond.value, given_1] using g1
    obtain ⟨L⟩ := args
    match L, hs with
    | [w0, w1, w2], _ => exact ⟨w0, w1, w2, rfl⟩
  have hw := fun d (hd : d ∈ tables_1) => atoms_spec (ws := Jvm.Cond.code x code maxLocals ret :: tables_1) hat d (List.mem_cons_of_mem _ hd)
  obtain ⟨hsets, hown0⟩ := atoms_of _ (rest_1_c_eq ▸ (show rest_1_c.before _ s = true from hrest))
  obtain ⟨i0, ei0⟩ := is_v g3
  obtain rfl : w0 = (.int i0) := Option.some.inj ei0
  obtain ⟨i1, ei1⟩ := is_v g5
  obtain rfl : w1 = (.int i1) := Option.some.inj ei1
  obtain ⟨i2, ei2⟩ := is_v g6
  obtain rfl : w2 = (.int i2) := Option.some.inj ei2
  obtain ⟨w_BIG_ENDIAN, ew_BIG_ENDIAN⟩ := exa_v (Cond.before_iff.mp (hsets _ (List.mem_of_getElem? (i := 2) rfl)))
  have S_BIG_ENDIAN : Sta s s.heap "java/nio/ByteOrder" "BIG_ENDIAN" "Ljava/nio/ByteOrder;" (.ref w_BIG_ENDIAN) := Sta.start ew_BIG_ENDIAN (Or.inl (hsets _ (List.mem_of_getElem? (i := 1) rfl)))
  have E_BIG_ENDIAN : Exa s s.heap w_BIG_ENDIAN "java/nio/ByteOrder" := Exa.start ew_BIG_ENDIAN (Cond.before_iff.mp (hsets _ (List.mem_of_getElem? (i := 2) rfl)))
  obtain ⟨w_LITTLE_ENDIAN, ew_LITTLE_ENDIAN⟩ := exa_v (Cond.before_iff.mp (hsets _ (List.mem_of_getElem? (i := 6) rfl)))
  have S_LITTLE_ENDIAN : Sta s s.heap "java/nio/ByteOrder" "LITTLE_ENDIAN" "Ljava/nio/ByteOrder;" (.ref w_LITTLE_ENDIAN) := Sta.start ew_LITTLE_ENDIAN (Or.inl (hsets _ (List.mem_of_getElem? (i := 5) rfl)))
  have E_LITTLE_ENDIAN : Exa s s.heap w_LITTLE_ENDIAN "java/nio/ByteOrder" := Exa.start ew_LITTLE_ENDIAN (Cond.before_iff.mp (hsets _ (List.mem_of_getElem? (i := 6) rfl)))
  obtain ⟨n, o, h1, h2, h3, _, L, rfl, ⟨rfl, N⟩, hq⟩ := rm0 l s _ hw tables_1 i0 i1 i2 w_BIG_ENDIAN w_LITTLE_ENDIAN  s.heap s.heap.size (Nat.le_refl _) S_BIG_ENDIAN E_BIG_ENDIAN S_LITTLE_ENDIAN E_LITTLE_ENDIAN  p e ha hc hk s m _ below hf ((Spec.applies_iff_loose hf).mp happ).1 ⟨rfl, State.Warmed39.refl s, rfl⟩ trivial
  refine ⟨n, _, h1, h2, h3, hpost _ _ _ _ _ _ ⟨Cond.after_iff.mpr rfl, Cond.after_iff.mpr (eq_i res_at (Term.int_eval (1)) rfl), trivial⟩ ⟨hq.1, hq.2.1, (hq.2.2.sift fun y hy => Or.inr (N y hy)).mono (by decide) (by decide)⟩⟩
theorem main_1_1 : Claimed_1_1 := comes_1 fun _ _ _ _ _ _ h hF => ⟨h.1, hF⟩
theorem main_1_2 : Claimed_1_2 := comes_1 fun _ _ _ _ _ _ h hF => ⟨h.2.1, hF⟩
end Jvm.Pilot.@@N@@
namespace Jvm.Pilot.@@N@@
open Jvm Jvm.ClassFile Sem Op Lib Jvm.Free Jvm.Stand Jvm.Pilot.@@N@@.Jvm.D
/-! MADE BY PROGRAM (witnessworld.py) out of the Statement's table words and the real class files: 15 classes; the members and pool entries that the words name. The judged class is class 1, her method 2. -/
namespace start1
open Jvm.ClassFile
def u (s : String) : CpInfo := .utf8 (stringToUtf16 s)
/-- a pool by its gaps: so many unusable entries, then the entry; so many at the end -/
def gap : Nat → List CpInfo → List CpInfo
  | 0, r => r
  | n + 1, r => .unusable :: gap n r
def poolList (es : List (Nat × CpInfo)) (last : Nat) : List CpInfo := es.foldr (fun e r => gap e.1 (e.2 :: r)) (gap last [])
def pool (es : List (Nat × CpInfo)) (last : Nat) : Array CpInfo := ⟨poolList es last⟩
def fileOf (pool : Array CpInfo) (this : Nat) (attrs : Array Attribute := #[]) (ms : Array MethodInfo := #[]) (fl : Nat := 33) (sup : Nat := 0) (ifs : Array Nat := #[]) (fds : Array FieldInfo := #[]) : ClassFile where
  minorVersion := 0
  majorVersion := 65
  constantPool := pool
  accessFlags := fl
  thisClass := this
  superClass := sup
  interfaces := ifs
  fields := fds
  methods := ms
  attributes := attrs
def plain (name : String) (sup : Option ClassId) : Class where
  name := name
  kind := .ordinary
  loader := none
  accessFlags := 33
  super := sup
  interfaces := #[]
  cf := none
  fields := #[]
  methods := #[]
  instanceTypes := #[]
  staticTypes := #[]
  resolved := #[]
  callSites := []
  init := .initialized
  statics := none
  mirror := none

def pool0 : Array CpInfo := pool [(5, u "<init>"), (0, u "()V"), (1, .class_ 10), (1, u "java/lang/Object")] 113

def k0m0 : Method := { name := "<init>", desc := "()V", sig := { parameters := [], returnType := none }, accessFlags := 1, code := none }
/-- java/lang/Object -/
def k0 : Class := { plain "java/lang/Object" none with
  accessFlags := 33
  interfaces := #[]
  cf := some (fileOf pool0 8 #[] #[{ accessFlags := 1, nameIndex := 5, descriptorIndex := 6, attributes := #[] }] 33 0 #[] #[])
  fields := #[]
  methods := #[k0m0]
  instanceTypes := #[]
  staticTypes := #[]
  resolved := Array.replicate 124 none
  statics := none }

def pool1 : Array CpInfo := pool [(2, .class_ 4), (1, u "java/lang/Object"), (0, u "<init>"), (0, u "()V"), (0, .methodref 8 9), (0, .class_ 10), (0, .nameAndType 11 12), (0, u "com/example/pair16/pair16/ByteOrderMarkOrderOfPinLaw"), (0, u "choose"), (0, u "(II)I"), (0, .class_ 14), (0, u "com/example/pair16/pair16/ByteOrderMark"), (0, .integer 65279), (0, .methodref 13 17), (0, .nameAndType 18 19), (0, u "orderOf"), (0, u "(II)Ljava/nio/ByteOrder;"), (0, .fieldref 21 22), (0, .class_ 23), (0, .nameAndType 24 25), (0, u "java/nio/ByteOrder"), (0, u "BIG_ENDIAN"), (0, u "Ljava/nio/ByteOrder;"), (0, .fieldref 21 27), (0, .nameAndType 28 25), (0, u "LITTLE_ENDIAN"), (3, u "law"), (0, u "(III)Z")] 2

def k1m0 : Method := { name := "<init>", desc := "()V", sig := { parameters := [], returnType := none }, accessFlags := 2, code := none }
def k1c1 : Code := { maxStack := 2, maxLocals := 3, code := method_2_code, exceptionTable := #[], attributes := #[] }
def k1m1 : Method := { name := "choose", desc := "(II)I", sig := { parameters := [.int, .int], returnType := some .int }, accessFlags := 10, code := some k1c1 }
def k1c2 : Code := { maxStack := 3, maxLocals := 9, code := code, exceptionTable := #[], attributes := #[] }
def k1m2 : Method := { name := "law", desc := "(III)Z", sig := { parameters := [.int, .int, .int], returnType := some .boolean }, accessFlags := 9, code := some k1c2 }
/-- com/example/pair16/pair16/ByteOrderMarkOrderOfPinLaw -/
def k1 : Class := { plain "com/example/pair16/pair16/ByteOrderMarkOrderOfPinLaw" (some 0) with
  accessFlags := 49
  interfaces := #[]
  cf := some (fileOf pool1 8 #[] #[{ accessFlags := 2, nameIndex := 5, descriptorIndex := 6, attributes := #[] }, { accessFlags := 10, nameIndex := 11, descriptorIndex := 12, attributes := #[] }, { accessFlags := 9, nameIndex := 32, descriptorIndex := 33, attributes := #[] }] 49 2 #[] #[])
  fields := #[]
  methods := #[k1m0, k1m1, k1m2]
  instanceTypes := #[]
  staticTypes := #[]
  resolved := Array.replicate 36 none
  statics := none }

def pool2 : Array CpInfo := pool [(2, .class_ 4), (1, u "java/lang/Object"), (0, u "<init>"), (0, u "()V"), (0, .fieldref 8 9), (0, .class_ 10), (0, .nameAndType 11 12), (0, u "java/nio/ByteOrder"), (0, u "BIG_ENDIAN"), (0, u "Ljava/nio/ByteOrder;"), (0, .fieldref 8 14), (0, .nameAndType 15 12), (0, u "LITTLE_ENDIAN"), (0, .class_ 17), (0, u "com/example/pair16/pair16/ByteOrderMark"), (0, u "UNIT"), (0, u "I"), (4, u "orderOf"), (0, u "(II)Ljava/nio/ByteOrder;")] 3

def k2m0 : Method := { name := "<init>", desc := "()V", sig := { parameters := [], returnType := none }, accessFlags := 2, code := none }
def k2c1 : Code := { maxStack := 2, maxLocals := 3, code := prog_6_method_2_code, exceptionTable := #[], attributes := #[] }
def k2m1 : Method := { name := "orderOf", desc := "(II)Ljava/nio/ByteOrder;", sig := { parameters := [.int, .int], returnType := some (.object "java/nio/ByteOrder") }, accessFlags := 8, code := some k2c1 }
/-- com/example/pair16/pair16/ByteOrderMark -/
def k2 : Class := { plain "com/example/pair16/pair16/ByteOrderMark" (some 0) with
  accessFlags := 32
  interfaces := #[]
  cf := some (fileOf pool2 16 #[] #[{ accessFlags := 2, nameIndex := 5, descriptorIndex := 6, attributes := #[] }, { accessFlags := 8, nameIndex := 24, descriptorIndex := 25, attributes := #[] }] 32 2 #[] #[{ accessFlags := 24, nameIndex := 18, descriptorIndex := 19, attributes := #[] }])
  fields := #[{ name := "UNIT", type := .int, accessFlags := 24, slot := 0, constantValue := 0 }]
  methods := #[k2m0, k2m1]
  instanceTypes := #[]
  staticTypes := #[.int]
  resolved := Array.replicate 29 none
  statics := none }

def pool3 : Array CpInfo := pool [(2, .class_ 4), (1, u "java/lang/Object"), (3, .class_ 10), (1, u "java/nio/ByteOrder"), (0, u "name"), (0, u "Ljava/lang/String;"), (2, u "NATIVE_ORDER"), (0, u "Ljava/nio/ByteOrder;"), (1, u "BIG_ENDIAN"), (6, u "LITTLE_ENDIAN")] 24

/-- java/nio/ByteOrder -/
def k3 : Class := { plain "java/nio/ByteOrder" (some 0) with
  accessFlags := 49
  interfaces := #[]
  cf := some (fileOf pool3 8 #[] #[] 49 2 #[] #[{ accessFlags := 18, nameIndex := 11, descriptorIndex := 12, attributes := #[] }, { accessFlags := 25, nameIndex := 18, descriptorIndex := 16, attributes := #[] }, { accessFlags := 25, nameIndex := 25, descriptorIndex := 16, attributes := #[] }, { accessFlags := 26, nameIndex := 15, descriptorIndex := 16, attributes := #[] }])
  fields := #[{ name := "name", type := (.object "java/lang/String"), accessFlags := 18, slot := 0, constantValue := 0 }, { name := "BIG_ENDIAN", type := (.object "java/nio/ByteOrder"), accessFlags := 25, slot := 0, constantValue := 0 }, { name := "LITTLE_ENDIAN", type := (.object "java/nio/ByteOrder"), accessFlags := 25, slot := 1, constantValue := 0 }, { name := "NATIVE_ORDER", type := (.object "java/nio/ByteOrder"), accessFlags := 26, slot := 2, constantValue := 0 }]
  methods := #[]
  instanceTypes := #[(.object "java/lang/String")]
  staticTypes := #[(.object "java/nio/ByteOrder"), (.object "java/nio/ByteOrder"), (.object "java/nio/ByteOrder")]
  resolved := Array.replicate 50 none
  statics := some 0 }

def pool4 : Array CpInfo := pool [(1, .class_ 2), (0, u "java/io/Serializable"), (0, .class_ 4), (0, u "java/lang/Object")] 2

/-- java/io/Serializable -/
def k4 : Class := { plain "java/io/Serializable" (some 0) with
  accessFlags := 1537
  interfaces := #[]
  cf := some (fileOf pool4 1 #[] #[] 1537 3 #[] #[])
  fields := #[]
  methods := #[]
  instanceTypes := #[]
  staticTypes := #[]
  resolved := Array.replicate 7 none
  statics := none }

def pool5 : Array CpInfo := pool [(1, .class_ 2), (0, u "java/lang/Comparable"), (0, .class_ 4), (0, u "java/lang/Object")] 7

/-- java/lang/Comparable -/
def k5 : Class := { plain "java/lang/Comparable" (some 0) with
  accessFlags := 1537
  interfaces := #[]
  cf := some (fileOf pool5 1 #[] #[] 1537 3 #[] #[])
  fields := #[]
  methods := #[]
  instanceTypes := #[]
  staticTypes := #[]
  resolved := Array.replicate 12 none
  statics := none }

def pool6 : Array CpInfo := pool [(2, .class_ 4), (1, u "java/lang/CharSequence"), (42, .class_ 48), (0, u "java/lang/CharSequence$1CodePointIterator"), (10, .class_ 60), (0, u "java/lang/CharSequence$1CharIterator"), (5, .class_ 67), (0, u "java/lang/Object")] 63

/-- java/lang/CharSequence -/
def k6 : Class := { plain "java/lang/CharSequence" (some 0) with
  accessFlags := 1537
  interfaces := #[]
  cf := some (fileOf pool6 2 #[.nestMembers #[47, 59]] #[] 1537 66 #[] #[])
  fields := #[]
  methods := #[]
  instanceTypes := #[]
  staticTypes := #[]
  resolved := Array.replicate 131 none
  statics := none }

def pool7 : Array CpInfo := pool [(1, .class_ 2), (0, u "java/lang/constant/Constable"), (0, .class_ 4), (0, u "java/lang/Object")] 6

/-- java/lang/constant/Constable -/
def k7 : Class := { plain "java/lang/constant/Constable" (some 0) with
  accessFlags := 1537
  interfaces := #[]
  cf := some (fileOf pool7 1 #[] #[] 1537 3 #[] #[])
  fields := #[]
  methods := #[]
  instanceTypes := #[]
  staticTypes := #[]
  resolved := Array.replicate 11 none
  statics := none }

def pool8 : Array CpInfo := pool [(1, .class_ 2), (0, u "java/lang/constant/ConstantDesc"), (0, .class_ 4), (0, u "java/lang/Object")] 32

/-- java/lang/constant/ConstantDesc -/
def k8 : Class := { plain "java/lang/constant/ConstantDesc" (some 0) with
  accessFlags := 1537
  interfaces := #[]
  cf := some (fileOf pool8 1 #[] #[] 1537 3 #[] #[])
  fields := #[]
  methods := #[]
  instanceTypes := #[]
  staticTypes := #[]
  resolved := Array.replicate 37 none
  statics := none }

def pool9 : Array CpInfo := pool [(2, .class_ 4), (1, u "java/lang/Object"), (0, u "<init>"), (0, u "()V"), (3, .class_ 12), (1, u "java/lang/String"), (0, u "value"), (0, u "[B"), (2, u "coder"), (0, u "B"), (2, u "hash"), (0, u "I"), (2, u "hashIsZero"), (0, u "Z"), (13, u "COMPACT_STRINGS"), (534, .class_ 576), (0, u "java/lang/CharSequence"), (22, u "CASE_INSENSITIVE_ORDER"), (0, u "Ljava/util/Comparator;"), (500, u "serialPersistentFields"), (0, u "[Ljava/io/ObjectStreamField;"), (0, .class_ 1104), (0, u "java/lang/String$CaseInsensitiveComparator"), (1, .class_ 1107), (0, u "java/io/Serializable"), (0, .class_ 1109), (0, u "java/lang/Comparable"), (0, .class_ 1111), (0, u "java/lang/constant/Constable"), (0, .class_ 1113), (0, u "java/lang/constant/ConstantDesc"), (2, u "serialVersionUID"), (0, u "J"), (3, u "REPL"), (0, u "C"), (2, u "LATIN1"), (1, u "UTF16")] 323

def k9m0 : Method := { name := "<init>", desc := "()V", sig := { parameters := [], returnType := none }, accessFlags := 1, code := none }
/-- java/lang/String -/
def k9 : Class := { plain "java/lang/String" (some 0) with
  accessFlags := 49
  interfaces := #[4, 5, 6, 7, 8]
  cf := some (fileOf pool9 10 #[.nestMembers #[1103]] #[{ accessFlags := 1, nameIndex := 5, descriptorIndex := 6, attributes := #[] }] 49 2 #[1106, 1108, 575, 1110, 1112] #[{ accessFlags := 18, nameIndex := 13, descriptorIndex := 14, attributes := #[] }, { accessFlags := 18, nameIndex := 17, descriptorIndex := 18, attributes := #[] }, { accessFlags := 2, nameIndex := 21, descriptorIndex := 22, attributes := #[] }, { accessFlags := 2, nameIndex := 25, descriptorIndex := 26, attributes := #[] }, { accessFlags := 26, nameIndex := 1116, descriptorIndex := 1117, attributes := #[] }, { accessFlags := 24, nameIndex := 40, descriptorIndex := 26, attributes := #[] }, { accessFlags := 26, nameIndex := 1101, descriptorIndex := 1102, attributes := #[] }, { accessFlags := 26, nameIndex := 1121, descriptorIndex := 1122, attributes := #[] }, { accessFlags := 25, nameIndex := 599, descriptorIndex := 600, attributes := #[] }, { accessFlags := 24, nameIndex := 1125, descriptorIndex := 18, attributes := #[] }, { accessFlags := 24, nameIndex := 1127, descriptorIndex := 18, attributes := #[] }])
  fields := #[{ name := "value", type := (.array .byte), accessFlags := 18, slot := 0, constantValue := 0 }, { name := "coder", type := .byte, accessFlags := 18, slot := 1, constantValue := 0 }, { name := "hash", type := .int, accessFlags := 2, slot := 2, constantValue := 0 }, { name := "hashIsZero", type := .boolean, accessFlags := 2, slot := 3, constantValue := 0 }, { name := "serialVersionUID", type := .long, accessFlags := 26, slot := 0, constantValue := 0 }, { name := "COMPACT_STRINGS", type := .boolean, accessFlags := 24, slot := 1, constantValue := 0 }, { name := "serialPersistentFields", type := (.array (.object "java/io/ObjectStreamField")), accessFlags := 26, slot := 2, constantValue := 0 }, { name := "REPL", type := .char, accessFlags := 26, slot := 3, constantValue := 0 }, { name := "CASE_INSENSITIVE_ORDER", type := (.object "java/util/Comparator"), accessFlags := 25, slot := 4, constantValue := 0 }, { name := "LATIN1", type := .byte, accessFlags := 24, slot := 5, constantValue := 0 }, { name := "UTF16", type := .byte, accessFlags := 24, slot := 6, constantValue := 0 }]
  methods := #[k9m0]
  instanceTypes := #[(.array .byte), .byte, .int, .boolean]
  staticTypes := #[.long, .boolean, (.array (.object "java/io/ObjectStreamField")), .char, (.object "java/util/Comparator"), .byte, .byte]
  resolved := Array.replicate 1451 none
  statics := none }

def pool10 : Array CpInfo := pool [(1, u "java/lang/Cloneable"), (0, .class_ 1), (0, u "java/lang/Object"), (0, .class_ 3)] 3

/-- java/lang/Cloneable -/
def k10 : Class := { plain "java/lang/Cloneable" (some 0) with
  accessFlags := 1537
  interfaces := #[]
  cf := some (fileOf pool10 2 #[] #[] 1537 4 #[] #[])
  fields := #[]
  methods := #[]
  instanceTypes := #[]
  staticTypes := #[]
  resolved := Array.replicate 8 none
  statics := none }

/-- the primitive byte -/
def k11 : Class := { plain "byte" none with kind := .primitive 'B', accessFlags := 0x411 }
/-- [B -/
def k12 : Class := { plain "[B" (some 0) with kind := .array 11 .byte, interfaces := #[10, 4], accessFlags := 1041 }

/-- the primitive int -/
def k13 : Class := { plain "int" none with kind := .primitive 'I', accessFlags := 0x411 }
/-- [I -/
def k14 : Class := { plain "[I" (some 0) with kind := .array 13 .int, interfaces := #[10, 4], accessFlags := 1041 }

def heap : Heap := #[{ cls := 3, slots := #[.ref 2, .ref 4, .null], vm := .statics 3 },
  { cls := 9, slots := #[.null, .int 0, .int 0, .int 0], vm := .none },
  { cls := 3, slots := #[.ref 1], vm := .none },
  { cls := 9, slots := #[.null, .int 0, .int 0, .int 0], vm := .none },
  { cls := 3, slots := #[.ref 3], vm := .none }]
def classes : Array Class := #[k0, k1, k2, k3, k4, k5, k6, k7, k8, k9, k10, k11, k12, k13, k14]
def interned : List (Array UInt16 × Addr) := []
def slotsUsed : Nat := 13
def theMethod : MethodId := ⟨1, 2⟩
def args0 : Array Value := #[.int 5, .int 3, .int 2]
def aboutOver (below : List Frame) : State where
  vm := { classes := classes, interned := interned.toArray }
  heap := heap
  slotsUsed := slotsUsed
  threads := #[{ frames := .invoking theMethod args0 :: below }]
def below0 : List Frame := [.native { method := ⟨0, 0⟩, args := #[] }]
def about1 : State := aboutOver below0
def p0 : Program := .bare "" "" ""
def e0 : Env := launch0.env 0 0 0
theorem w_frames : about1.frames = Frame.invoking theMethod args0 :: below0 := rfl
set_option maxRecDepth 65536 in
theorem w_args : argsFit about1.vm theMethod args0 = true := by decide +kernel
set_option maxRecDepth 65536 in
theorem w_heap : heapFits about1 = true := by decide +kernel
set_option maxRecDepth 65536 in
theorem w_runnable : about1.curStatus? = some .runnable := by decide +kernel
set_option maxRecDepth 65536 in
theorem w_alone : about1.alone = true := by decide +kernel
set_option maxRecDepth 65536 in
theorem w_named : about1.methodNamed? x = some theMethod := by decide +kernel
set_option maxRecDepth 65536 in
theorem w_hears : about1.hears theMethod below0 = true := by decide +kernel
set_option maxRecDepth 65536 in
theorem w_ripe : about1.ripe theMethod args0 below0 = true := by decide +kernel
theorem w_running : about1.status = .running := rfl
set_option maxRecDepth 65536 in
theorem w_room : about1.hasRoom e0.platform room_1 = true :=
  launch0.hasRoom_least _ room_1 (by decide +kernel) (by decide +kernel) (by decide +kernel) (by decide +kernel) (by decide +kernel) (by decide +kernel)
theorem allAtoms_all (ts : List Jvm.Cond) (a : Array Jvm.Value) (st : Jvm.State) : (allAtoms ts).before a st = ts.all (fun c => c.before a st) := by
  induction ts with
  | nil => rfl
  | cons c t ih =>
    show (Jvm.Cond.and c (allAtoms t)).before a st = _
    rw [Jvm.Cond.before_and, ih, List.all_cons]
def words1 : List Jvm.Cond := Jvm.Cond.code x code maxLocals ret :: tables_1
/-- a 'code' word, met by the world's own term for the bytes: nothing is compared byte by byte -/
theorem code_word {y : MethodName} {bytes : ByteArray} {mx : Nat} {rt : Option FieldType} {a : Array Value} {s : State} {m : MethodId} {meth : Method} {c : Code} (h1 : s.methodNamed? y = some m) (h2 : s.vm.method? m = some meth) (h3 : meth.code = some c) (h4 : c.code = bytes)
    (h5 : (c.maxLocals == mx && c.exceptionTable.isEmpty && decide (c.maxStack ≤ mostOperands) && decide (meth.sig.returnType = rt) && !meth.locks && decide (parseMethodDescriptor y.desc = some meth.sig)) = true) : (Jvm.Cond.code y bytes mx rt).before a s = true := by
  simp only [Bool.and_eq_true, beq_iff_eq, Bool.not_eq_true', decide_eq_true_eq] at h5
  obtain ⟨⟨⟨⟨⟨g1, g2⟩, g3⟩, g4⟩, g5⟩, g6⟩ := h5
  simp [Cond.before, Cond.holds, Cond.value, h1, h2, h3, h4, g1, g2, g3, g4, g5, g6]
def isCode : Jvm.Cond → Bool
  | .code _ _ _ _ => true
  | _ => false
theorem all_split {L : List Jvm.Cond} {P : Jvm.Cond → Bool} (h1 : L.all (fun c => isCode c || P c) = true) (h2 : ∀ c ∈ L.filter isCode, P c = true) : L.all P = true := by
  refine List.all_eq_true.mpr fun c hc => ?_
  have h := List.all_eq_true.mp h1 c hc
  rcases Bool.eq_false_or_eq_true (isCode c) with hi | hi
  · exact h2 c (List.mem_filter.mpr ⟨hc, hi⟩)
  · simpa [hi] using h
set_option maxRecDepth 65536 in
theorem w_c0 : (Jvm.Cond.code x code maxLocals ret).before args0 about1 = true := code_word (m := ⟨1, 2⟩) (meth := k1m2) (c := k1c2) (by decide +kernel) rfl rfl rfl (by decide +kernel)
set_option maxRecDepth 65536 in
theorem w_c1 : (Jvm.Cond.code ({ cls := "com/example/pair16/pair16/ByteOrderMarkOrderOfPinLaw", name := "choose", desc := "(II)I" } : Jvm.MethodName) method_2_code (3 : Nat) (Option.some Jvm.ClassFile.FieldType.int)).before args0 about1 = true := code_word (m := ⟨1, 1⟩) (meth := k1m1) (c := k1c1) (by decide +kernel) rfl rfl rfl (by decide +kernel)
set_option maxRecDepth 65536 in
theorem w_c2 : (Jvm.Cond.code ({ cls := "com/example/pair16/pair16/ByteOrderMark", name := "orderOf", desc := "(II)Ljava/nio/ByteOrder;" } : Jvm.MethodName) prog_6_method_2_code (3 : Nat) (Option.some (Jvm.ClassFile.FieldType.object "java/nio/ByteOrder"))).before args0 about1 = true := code_word (m := ⟨2, 1⟩) (meth := k2m1) (c := k2c1) (by decide +kernel) rfl rfl rfl (by decide +kernel)
def codes1 : List Jvm.Cond := [Jvm.Cond.code x code maxLocals ret, Jvm.Cond.code ({ cls := "com/example/pair16/pair16/ByteOrderMarkOrderOfPinLaw", name := "choose", desc := "(II)I" } : Jvm.MethodName) method_2_code (3 : Nat) (Option.some Jvm.ClassFile.FieldType.int), Jvm.Cond.code ({ cls := "com/example/pair16/pair16/ByteOrderMark", name := "orderOf", desc := "(II)Ljava/nio/ByteOrder;" } : Jvm.MethodName) prog_6_method_2_code (3 : Nat) (Option.some (Jvm.ClassFile.FieldType.object "java/nio/ByteOrder"))]
set_option maxRecDepth 65536 in
theorem codes_eq : words1.filter isCode = codes1 := rfl
theorem w_codes : ∀ c ∈ words1.filter isCode, c.before args0 about1 = true := by
  rw [codes_eq]
  intro c hc
  simp only [codes1, List.mem_cons, List.not_mem_nil, or_false] at hc
  rcases hc with rfl | rfl | rfl
  · exact w_c0
  · exact w_c1
  · exact w_c2
set_option maxRecDepth 65536 in
theorem w_t1 : words1.all (fun c => isCode c || c.before args0 about1) = true := by decide +kernel
theorem w_tables : (allAtoms (Jvm.Cond.code x code maxLocals ret :: tables_1)).before args0 about1 = true := by
  rw [allAtoms_all]
  show words1.all (fun c => c.before args0 about1) = true
  refine all_split ?_ w_codes
  rw [w_t1]
set_option maxRecDepth 65536 in
theorem w_rest : rest_1_c.before args0 about1 = true := by decide +kernel
set_option maxRecDepth 65536 in
theorem w_case : (Jvm.Cond.and given_1 narrow_1).before args0 about1 = true := by decide +kernel
theorem w_applies : (headSpec (Jvm.Cond.code x code maxLocals ret :: tables_1) room_1).applies x e0.platform about1 = true :=
  (Spec.applies_iff w_frames).mpr ⟨w_running, w_runnable, w_alone, w_named, w_hears, w_ripe, w_room, w_tables⟩
theorem atStart : AtStart classFile x code maxLocals ret World_1 tables_1 room_1 Calls_1 rest_1 Pre_1 launch0 p0 e0 about1 theMethod args0 below0 :=
  ⟨lists_1, trivial, launch0.admits_env _ _ _, launch0.least_env, fairChoices_fair.cas, fairChoices_fair.clock, w_frames, w_args, w_heap, w_applies, trivial, w_rest, w_case⟩
end start1
theorem witness_1 : WitnessClaimed_1 := ⟨start1.p0, start1.e0, start1.about1, start1.theMethod, start1.args0, start1.below0, start1.atStart⟩
end Jvm.Pilot.@@N@@
