import JvmDerived
import JvmDerived.Pilot.@@N@@Statement
import JvmDerived.Pilot.@@N@@Code
set_option linter.unusedVariables false
set_option linter.unusedSimpArgs false
namespace Jvm.Pilot.@@N@@
open Jvm Jvm.ClassFile Sem Op Lib Jvm.Free Jvm.Stand Jvm.LawKit Jvm.RoadKit Bundle Jvm.Pilot.@@N@@.Jvm.D
/-! own kit: the walk in continuation form: 'Go': from this point the body comes to its end with what Q says -/
section OwnGo
variable {p : Program} {l : Launch} {e : Env} {R : Room} {s : State} {m : MethodId} {args : Array Value} {below : List Frame} {meth : Method} {c : Code} {T : State} {locs : List Loc} {cells slots : Nat} {Z : State} {a0 : Array Value} {h : Heap} {Q : Option Value → Heap → List Loc → Prop} {C S : Nat} {End : Outcome → State → List Loc → Prop}
def Go (p : Program) (e : Env) (below : List Frame) (End : Outcome → State → List Loc → Prop) (Q : Option Value → Heap → List Loc → Prop) (T : State) (f : JFrame) : Prop :=
  ∃ s₂ o, Steps p.tables e below (T.setTop f) s₂ ∧ s₂.status = .running ∧ Ended s₂ below o ∧ ∃ v L, o = .returned v ∧ Q v s₂.heap L ∧ End o s₂ L
/-- the end of a walk that leaves the table of strings alone, and of one that may not -/
def EndN (s : State) (C S : Nat) : Outcome → State → List Loc → Prop := fun o t L => FrameEnd s o t L C S
def EndW (s : State) (C S : Nat) : Outcome → State → List Loc → Prop := fun o t L => ReturnedEndW s o t L C S
def OwnP (val : Option Value) (h0 : Heap) (n0 : Nat) (v : Option Value) (h : Heap) (L : List Loc) : Prop := v = val ∧ Fr n0 L ∧ h = h0
def OwnR (val : Option Value) (n0 : Nat) (v : Option Value) (h : Heap) (L : List Loc) : Prop := v = val ∧ Fr n0 L
abbrev OwnMet (l : Launch) (Z : State) (y : MethodName) (bytes : ByteArray) (maxL : Nat) (ret : Option FieldType) (ws : List Jvm.Cond) (rm : Room) (as' : Array Value) (h0 : Heap) (Q : Option Value → Heap → List Loc → Prop) : Prop :=
  MetFree l y (head1 (Jvm.Cond.code y bytes maxL ret :: ws) rm) (fun a U => a = as' ∧ Z.Warmed39 U.vm ∧ U.heap = h0) (fun _ _ _ _ _ => True) (fun _ U o U' => ∃ v L, o = .returned v ∧ Q v U'.heap L ∧ FrameEnd U o U' L rm.cells rm.slots)
theorem own_body {y : MethodName} {bytes : ByteArray} {maxL : Nat} {ret : Option FieldType} {ws : List Jvm.Cond} {rm : Room} {as' : Array Value} {h0 : Heap} (hpl : plainFor y = true)
    (k : ∀ (p : Program) (e : Env) (s : State) (m : MethodId) (below : List Frame) (meth : Method) (c : Code) (s₁ : State), Stand p l e rm s m as' below meth c s₁ [] 0 0 → p.tables.exec = Jvm.exec → c.code = bytes → c.maxLocals = maxL → meth.sig.returnType = ret → meth.locks = false → s.vm.findClass y.cls = some m.cls → meth.name = y.name → Z.Warmed39 s.vm → s₁.heap = h0 → s.heap = h0 → Go p e below (EndN s rm.cells rm.slots) Q s₁ (entryFrame m as' maxL)) :
    OwnMet l Z y bytes maxL ret ws rm as' h0 Q := by
  refine MetFree.of_bodySF hpl hisR ?_
  intro p e s m args below meth c s₁ Bd hml0 hP hK
  obtain ⟨rfl, hZ, hh⟩ := hP
  exact k p e s m below meth c s₁ (Stand.of_body Bd) Bd.exec Bd.bytes hml0 Bd.returns Bd.notSynchronized (findClass_of_methodNamed Bd.named) (name_of_methodNamed Bd.named Bd.method).1 hZ (by rw [← hh, Bd.state]; rfl) hh
theorem own_go {T' : State} {f f' : JFrame} (k : ∀ t, Steps p.tables e below (T'.setTop f') t → Steps p.tables e below (T.setTop f) t) (G : Go p e below End Q T' f') : Go p e below End Q T f := by
  obtain ⟨s₂, o, hs, r⟩ := G
  exact ⟨s₂, o, k _ hs, r⟩
theorem own_entry {f : JFrame} {f' : JFrame} (q : f = f') (G : Go p e below End Q T f') : Go p e below End Q T f := q ▸ G
/-- the method can be left here -/
def Leaves (e : Env) (below : List Frame) (m : MethodId) (meth : Method) (T : State) (locs : List Loc) (End : Outcome → State → List Loc → Prop) : Prop :=
  ∀ v : Option Value, (meth.sig.returnType = none → v = none) → ∃ fs, (∀ (f : JFrame) (acts : List Action), f.method = m → f.locked = none → f.entered = [] → (doReturn e (T.setTop f) acts v).1 = T.setFrames fs) ∧ (T.setFrames fs).status = .running ∧ Ended (T.setFrames fs) below (.returned v) ∧ End (.returned v) (T.setFrames fs) locs
theorem own_lvN (X : Stand p l e R s m args below meth c T locs cells slots) (hlk : meth.locks = false) (hC : cells ≤ C) (hS : slots ≤ S) : Leaves e below m meth T locs (EndN s C S) := fun v hv => by
  obtain ⟨fs, hr, hrun, hended, hW, hsame⟩ := X.leave hv hlk
  exact ⟨fs, hr, hrun, hended, ⟨_, rfl⟩, hW, hsame.mono hC hS⟩
theorem own_leave {v : Option Value} (LV : Leaves e below m meth T locs End) (hv : meth.sig.returnType = none → v = none) {f : JFrame}
    (st : ∀ fs, (∀ (f : JFrame) (acts : List Action), f.method = m → f.locked = none → f.entered = [] → (doReturn e (T.setTop f) acts v).1 = T.setFrames fs) → Steps p.tables e below (T.setTop f) (T.setFrames fs))
    (hQ : Q v T.heap locs) : Go p e below End Q T f := by
  obtain ⟨fs, hr, hrun, hended, hE⟩ := LV v hv
  exact ⟨_, _, st fs hr, hrun, hended, _, _, rfl, hQ, hE⟩
theorem own_retN (X : Stand p l e R s m args below meth c T locs cells slots) (hx : p.tables.exec = Jvm.exec) (LV : Leaves e below m meth T locs End) {pc : Nat} {Ls : Array Slot} {z : Int32} {t : FieldType} {rest : List Value} (hret : meth.sig.returnType = some t) (ht : t = .boolean ∨ t = .byte ∨ t = .char ∨ t = .short)
    (hd : decode c.code pc = .ok (.ireturn, 1)) (hQ : Q (some (.int (nar t z))) T.heap locs) : Go p e below End Q T (mkF m pc Ls (.int z :: rest)) :=
  own_leave LV (fun h => by rw [hret] at h; cases h) (fun fs hr => retN X hx hret ht hd hr) hQ
theorem own_retO (X : Stand p l e R s m args below meth c T locs cells slots) (hx : p.tables.exec = Jvm.exec) (LV : Leaves e below m meth T locs End) {pc : Nat} {Ls : Array Slot} {w : Value} {t : FieldType} {i : Instr} {rest : List Value} (hret : meth.sig.returnType = some t) (hn : narrow t w = w)
    (hi : (i = .ireturn ∧ (t = .int ∨ t = .boolean ∨ t = .byte ∨ t = .char ∨ t = .short) ∧ ∃ z, w = .int z) ∨ (i = .lreturn ∧ t = .long ∧ ∃ z, w = .long z) ∨ (i = .dreturn ∧ t = .double ∧ ∃ z, w = .double z) ∨ (i = .freturn ∧ t = .float ∧ ∃ z, w = .float z) ∨ (i = .areturn ∧ t.isReference = true ∧ w.isRef = true))
    (hd : decode c.code pc = .ok (i, 1)) (hQ : Q (some w) T.heap locs) : Go p e below End Q T (mkF m pc Ls (w :: rest)) :=
  own_leave LV (fun h => by rw [hret] at h; cases h) (fun fs hr => retOut X hx hret hn hi hd hr) hQ
theorem own_retI (X : Stand p l e R s m args below meth c T locs cells slots) (hx : p.tables.exec = Jvm.exec) (LV : Leaves e below m meth T locs End) {pc : Nat} {Ls : Array Slot} {z : Int32} {rest : List Value} (hret : meth.sig.returnType = some .int)
    (hd : decode c.code pc = .ok (.ireturn, 1)) (hQ : Q (some (.int z)) T.heap locs) : Go p e below End Q T (mkF m pc Ls (.int z :: rest)) :=
  own_retO X hx LV hret rfl (Or.inl ⟨rfl, Or.inl rfl, z, rfl⟩) hd hQ
theorem own_retL (X : Stand p l e R s m args below meth c T locs cells slots) (hx : p.tables.exec = Jvm.exec) (LV : Leaves e below m meth T locs End) {pc : Nat} {Ls : Array Slot} {z : Int64} {rest : List Value} (hret : meth.sig.returnType = some .long)
    (hd : decode c.code pc = .ok (.lreturn, 1)) (hQ : Q (some (.long z)) T.heap locs) : Go p e below End Q T (mkF m pc Ls (.long z :: rest)) :=
  own_retO X hx LV hret rfl (Or.inr (Or.inl ⟨rfl, rfl, z, rfl⟩)) hd hQ
theorem own_retA (X : Stand p l e R s m args below meth c T locs cells slots) (hx : p.tables.exec = Jvm.exec) (LV : Leaves e below m meth T locs End) {pc : Nat} {Ls : Array Slot} {w : Value} {t : FieldType} {rest : List Value} (hret : meth.sig.returnType = some t) (ht : t.isReference = true) (hw : w.isRef = true)
    (hd : decode c.code pc = .ok (.areturn, 1)) (hQ : Q (some w) T.heap locs) : Go p e below End Q T (mkF m pc Ls (w :: rest)) :=
  own_retO X hx LV hret (by cases t <;> first | (cases w <;> first | rfl | cases hw) | cases ht) (Or.inr (Or.inr (Or.inr (Or.inr ⟨rfl, ht, hw⟩)))) hd hQ
theorem own_retV (X : Stand p l e R s m args below meth c T locs cells slots) (hx : p.tables.exec = Jvm.exec) (LV : Leaves e below m meth T locs End) {pc : Nat} {Ls : Array Slot} (hret : meth.sig.returnType = none)
    (hd : decode c.code pc = .ok (.return_, 1)) (hQ : Q none T.heap locs) : Go p e below End Q T (mkF m pc Ls []) :=
  own_leave LV (fun _ => rfl) (fun fs hr => X.returnOut hx hret hd hr) hQ
/-- a branch: taken where P -/
theorem own_icmpP (P : Prop) [Decidable P] (X : Stand p l e R s m args below meth c T locs cells slots) (hx : p.tables.exec = Jvm.exec) {cd : ClassFile.Cond} {x y : Int32} {rest : List Value} {o : Int} {pc pc' : Nat} {Ls : Array Slot} (hd : decode c.code pc = .ok (.if_icmp cd o, 3)) (hP : if_icmp.holds cd x y = decide P) (ho : 0 ≤ (pc : Int) + o) (hp : ((pc : Int) + o).toNat = pc')
    (h1 : P → Go p e below End Q T (mkF m pc' Ls rest)) (h2 : ¬ P → Go p e below End Q T (mkF m (pc + 3) Ls rest)) : Go p e below End Q T (mkF m pc Ls (.int y :: .int x :: rest)) := by
  by_cases q : P
  · exact own_go (fun t k => XS.icmpYes X.here hx rfl (pc0 := pc) (pc' := pc') rfl hd rfl (by rw [hP]; exact decide_eq_true q) ho hp k) (h1 q)
  · exact own_go (fun t k => XS.icmpNo X.here hx rfl hd rfl (by rw [hP]; exact decide_eq_false q) k) (h2 q)
/-- a branch: taken where not P -/
theorem own_icmpM (P : Prop) [Decidable P] (X : Stand p l e R s m args below meth c T locs cells slots) (hx : p.tables.exec = Jvm.exec) {cd : ClassFile.Cond} {x y : Int32} {rest : List Value} {o : Int} {pc pc' : Nat} {Ls : Array Slot} (hd : decode c.code pc = .ok (.if_icmp cd o, 3)) (hP : if_icmp.holds cd x y = !decide P) (ho : 0 ≤ (pc : Int) + o) (hp : ((pc : Int) + o).toNat = pc')
    (h1 : ¬ P → Go p e below End Q T (mkF m pc' Ls rest)) (h2 : P → Go p e below End Q T (mkF m (pc + 3) Ls rest)) : Go p e below End Q T (mkF m pc Ls (.int y :: .int x :: rest)) := by
  by_cases q : P
  · exact own_go (fun t k => XS.icmpNo X.here hx rfl hd rfl (by rw [hP]; simp [q]) k) (h2 q)
  · exact own_go (fun t k => XS.icmpYes X.here hx rfl (pc0 := pc) (pc' := pc') rfl hd rfl (by rw [hP]; simp [q]) ho hp k) (h1 q)
theorem own_ifP (P : Prop) [Decidable P] (X : Stand p l e R s m args below meth c T locs cells slots) (hx : p.tables.exec = Jvm.exec) {cd : ClassFile.Cond} {x : Int32} {rest : List Value} {o : Int} {pc pc' : Nat} {Ls : Array Slot} (hd : decode c.code pc = .ok (.ifCond cd o, 3)) (hP : if_icmp.holds cd x 0 = decide P) (ho : 0 ≤ (pc : Int) + o) (hp : ((pc : Int) + o).toNat = pc')
    (h1 : P → Go p e below End Q T (mkF m pc' Ls rest)) (h2 : ¬ P → Go p e below End Q T (mkF m (pc + 3) Ls rest)) : Go p e below End Q T (mkF m pc Ls (.int x :: rest)) := by
  by_cases q : P
  · exact own_go (fun t k => XS.ifYes X.here hx rfl (pc0 := pc) (pc' := pc') rfl hd rfl (by rw [if0, hP]; exact decide_eq_true q) ho hp k) (h1 q)
  · exact own_go (fun t k => XS.ifNo X.here hx rfl hd rfl (by rw [if0, hP]; exact decide_eq_false q) k) (h2 q)
theorem own_ifM (P : Prop) [Decidable P] (X : Stand p l e R s m args below meth c T locs cells slots) (hx : p.tables.exec = Jvm.exec) {cd : ClassFile.Cond} {x : Int32} {rest : List Value} {o : Int} {pc pc' : Nat} {Ls : Array Slot} (hd : decode c.code pc = .ok (.ifCond cd o, 3)) (hP : if_icmp.holds cd x 0 = !decide P) (ho : 0 ≤ (pc : Int) + o) (hp : ((pc : Int) + o).toNat = pc')
    (h1 : ¬ P → Go p e below End Q T (mkF m pc' Ls rest)) (h2 : P → Go p e below End Q T (mkF m (pc + 3) Ls rest)) : Go p e below End Q T (mkF m pc Ls (.int x :: rest)) := by
  by_cases q : P
  · exact own_go (fun t k => XS.ifNo X.here hx rfl hd rfl (by rw [if0, hP]; simp [q]) k) (h2 q)
  · exact own_go (fun t k => XS.ifYes X.here hx rfl (pc0 := pc) (pc' := pc') rfl hd rfl (by rw [if0, hP]; simp [q]) ho hp k) (h1 q)
theorem own_eq (x y : Int32) : if_icmp.holds .eq x y = decide (x = y) := by by_cases q : x = y <;> simp [if_icmp.holds, q]
theorem own_ne (x y : Int32) : if_icmp.holds .ne x y = !decide (x = y) := by by_cases q : x = y <;> simp [if_icmp.holds, q]
theorem own_lt (x y : Int32) : if_icmp.holds .lt x y = decide (x < y) := by by_cases q : x < y <;> simp [if_icmp.holds, q]
theorem own_ge (x y : Int32) : if_icmp.holds .ge x y = !decide (x < y) := by
  by_cases q : x < y
  · rw [(tlt q).2.1]; simp [q]
  · rw [(flt q).2.1]; simp [q]
theorem own_gt (x y : Int32) : if_icmp.holds .gt x y = decide (y < x) := by
  by_cases q : y < x
  · rw [(tlt q).2.2.1]; simp [q]
  · rw [(flt q).2.2.1]; simp [q]
theorem own_le (x y : Int32) : if_icmp.holds .le x y = !decide (y < x) := by
  by_cases q : y < x
  · rw [(tlt q).2.2.2]; simp [q]
  · rw [(flt q).2.2.2]; simp [q]
theorem own_acmp (P : Prop) [Decidable P] (X : Stand p l e R s m args below meth c T locs cells slots) (hx : p.tables.exec = Jvm.exec) {cd : ACond} {x y : Value} {rest : List Value} {o : Int} {pc : Nat} {Ls : Array Slot} (h1 : x.isRef = true) (h2 : y.isRef = true) (hP : (x = y) ↔ P) (hd : decode c.code pc = .ok (.if_acmp cd o, 3)) (ho : 0 ≤ (pc : Int) + o) {pcE pcN : Nat}
    (hE : pcE = if acV cd true = true then ((pc : Int) + o).toNat else pc + 3) (hN : pcN = if acV cd false = true then ((pc : Int) + o).toNat else pc + 3)
    (k1 : P → Go p e below End Q T (mkF m pcE Ls rest)) (k2 : ¬ P → Go p e below End Q T (mkF m pcN Ls rest)) : Go p e below End Q T (mkF m pc Ls (y :: x :: rest)) := by
  by_cases q : P
  · exact own_go (fun t k => Jvm.RoadKit.acmp (g := mkF m pc Ls (y :: x :: rest)) X hx rfl h1 h2 (pc0 := pc) (pc' := pcE) (same := true) rfl hd rfl (decide_eq_true (hP.mpr q)) ho hE k) (k1 q)
  · exact own_go (fun t k => Jvm.RoadKit.acmp (g := mkF m pc Ls (y :: x :: rest)) X hx rfl h1 h2 (pc0 := pc) (pc' := pcN) (same := false) rfl hd rfl (decide_eq_false fun z => q (hP.mp z)) ho hN k) (k2 q)
theorem own_ref (a b : Addr) : (Value.ref a = Value.ref b) ↔ (a = b) := ⟨Value.ref.inj, congrArg Value.ref⟩
theorem own_callS (X : Stand p l e R s m args below meth c T locs cells slots) (hx : p.tables.exec = Jvm.exec) (hZ : Z.Warmed39 s.vm) {own : String} {index : Nat} {y : MethodName} {bytes : ByteArray} {maxL : Nat} {ret : Option FieldType} {rm : Room} {as' : Array Value} {Qc : Option Value → Heap → List Loc → Prop}
    (hown : s.vm.findClass own = some m.cls) (wl : (Cond.methodLink own index y).before a0 Z = true) (wst : (Cond.static y).before a0 Z = true) (wi : (Cond.initialized y.cls).before a0 Z = true) (wc : (Cond.code y bytes maxL ret).before a0 Z = true)
    (hy : y.cls ≠ "java/lang/invoke/MethodHandle" ∧ y.cls ≠ "java/lang/invoke/VarHandle")
    (hM : MetFree l y (head1 [Cond.code y bytes maxL ret] rm) (fun a U => a = as' ∧ Z.Warmed39 U.vm ∧ U.heap = h) (fun _ _ _ _ _ => True) (fun _ U o U' => ∃ v L, o = .returned v ∧ Qc v U'.heap L ∧ FrameEnd U o U' L rm.cells rm.slots))
    (eT : T.heap = h) {pc : Nat} {Ls : Array Slot} (hsize : Ls.size = c.maxLocals) {argsL rest stk : List Value} (hst : stk = argsL.reverse ++ rest) (ha : argsL.toArray = as') (hlen : ∀ sig, parseMethodDescriptor y.desc = some sig → argsL.length = sig.parameters.length) {W : Nat} (hW : (rest.map fun v => v.category).sum ≤ W)
    (hf : rm.frames + 1 ≤ R.frames) (hl : W + (maxL + 11) + rm.locals ≤ R.locals) (hd : decode c.code pc = .ok (.invokestatic index, 3)) (hc : cells + rm.cells ≤ R.cells) (hs : slots + rm.slots ≤ R.slots)
    (k : ∀ (v : Option Value) (T' : State) (L : List Loc), Stand p l e R s m args below meth c T' (locs ++ L) (cells + rm.cells) (slots + rm.slots) → Qc v T'.heap L → Go p e below End Q T' (mkF m (pc + 3) Ls (v.toList ++ rest))) :
    Go p e below End Q T (mkF m pc Ls stk) := by
  subst hst
  obtain ⟨v, _, ⟨T', L', k', n'⟩, -, X', ⟨Lc, hQ, l1, y1, z1⟩, st⟩ := Jvm.LawKit.callS X hx (y := y) hown (mvT hZ wl) (mvT hZ wst) (mvT hZ wi) (mvT hZ wc) hy (backOf (W := W) hM hZ wc wi hf hl) (g := mkF m pc Ls (argsL.reverse ++ rest)) rfl hsize (argsL := argsL) (rest := rest) hlen rfl (by show 2 * 0 + _ ≤ _; rw [Nat.mul_zero, Nat.zero_add]; exact hW) hd (fun _ _ => ⟨ha, eT, hc, hs⟩)
  dsimp only [Pt.U, Pt.locs, Pt.cells, Pt.slots] at X' l1 y1 z1 st hQ
  subst l1 y1 z1
  exact own_go (fun t q => st _ q) (k v T' Lc X' hQ)
theorem own_callV (X : Stand p l e R s m args below meth c T locs cells slots) (hx : p.tables.exec = Jvm.exec) (hZ : Z.Warmed39 s.vm) {own Cn : String} {index : Nat} {y : MethodName} {bytes : ByteArray} {maxL : Nat} {ret : Option FieldType} {rm : Room} {as' : Array Value} {Qc : Option Value → Heap → List Loc → Prop}
    (hown : s.vm.findClass own = some m.cls) (wl : (Cond.methodLink own index y).before a0 Z = true) (wd : (Cond.declares y).before a0 Z = true) (wsel : (Cond.selects Cn y y).before a0 Z = true) (win : (Cond.instanceMethod y).before a0 Z = true) (wc : (Cond.code y bytes maxL ret).before a0 Z = true) (wi : (Cond.initialized y.cls).before a0 Z = true)
    (hy : y.cls ≠ "java/lang/invoke/MethodHandle" ∧ y.cls ≠ "java/lang/invoke/VarHandle")
    (hM : MetFree l y (head1 [Cond.code y bytes maxL ret] rm) (fun a U => a = as' ∧ Z.Warmed39 U.vm ∧ U.heap = h) (fun _ _ _ _ _ => True) (fun _ U o U' => ∃ v L, o = .returned v ∧ Qc v U'.heap L ∧ FrameEnd U o U' L rm.cells rm.slots))
    (eT : T.heap = h) {b : Addr} (E : Exa Z h b Cn) {pc : Nat} {Ls : Array Slot} (hsize : Ls.size = c.maxLocals) {argsL rest stk : List Value} (hst : stk = argsL.reverse ++ .ref b :: rest) (ha : (.ref b :: argsL).toArray = as') (hlen : ∀ sig, parseMethodDescriptor y.desc = some sig → argsL.length = sig.parameters.length) {W : Nat} (hW : (rest.map fun v => v.category).sum ≤ W)
    (hf : rm.frames + 1 ≤ R.frames) (hl : W + (maxL + 11) + rm.locals ≤ R.locals) (hd : decode c.code pc = .ok (.invokevirtual index, 3)) (hc : cells + rm.cells ≤ R.cells) (hs : slots + rm.slots ≤ R.slots)
    (k : ∀ (v : Option Value) (T' : State) (L : List Loc), Stand p l e R s m args below meth c T' (locs ++ L) (cells + rm.cells) (slots + rm.slots) → Qc v T'.heap L → Go p e below End Q T' (mkF m (pc + 3) Ls (v.toList ++ rest))) :
    Go p e below End Q T (mkF m pc Ls stk) := by
  subst hst
  obtain ⟨cq, kq, qa, qb, qc⟩ := isOf hZ eT E
  obtain ⟨v, _, ⟨T', L', k', n'⟩, -, X', ⟨Lc, hQ, l1, y1, z1⟩, st⟩ := X.virtualBack hx (y := y) (z := y) hown (mvT hZ wl) (mvT hZ wd) (notFace_of_selects (args := #[]) (mvT hZ wsel)) (mvT hZ wsel) (mvT hZ win) hy (backOf (W := W) hM hZ wc wi hf hl) qa qc (g := mkF m pc Ls (argsL.reverse ++ .ref b :: rest)) rfl hsize (Steps.refl _) (argsL := argsL) (rest := rest) hlen rfl (by show 2 * 0 + _ ≤ _; rw [Nat.mul_zero, Nat.zero_add]; exact hW) hd (fun _ _ => ⟨ha, eT, hc, hs⟩)
  dsimp only [Pt.U, Pt.locs, Pt.cells, Pt.slots] at X' l1 y1 z1 st hQ
  subst l1 y1 z1
  exact own_go (fun t q => st.trans q) (k v T' Lc X' hQ)
theorem own_callU (X : Stand p l e R s m args below meth c T locs cells slots) (hx : p.tables.exec = Jvm.exec) (hZ : Z.Warmed39 s.vm) {own Cn owner : String} {index : Nat} {y z : MethodName} {bytes : ByteArray} {maxL : Nat} {ret : Option FieldType} {rm : Room} {as' : Array Value} {Qc : Option Value → Heap → List Loc → Prop}
    (hown : s.vm.findClass own = some m.cls) (wl : (Cond.methodLink own index y).before a0 Z = true) (wsm : (Cond.sameMethod y.cls owner y.name y.desc).before a0 Z = true) (wd : (Cond.declares ⟨owner, y.name, y.desc⟩).before a0 Z = true) (wsel : (Cond.selects Cn y z).before a0 Z = true) (win : (Cond.instanceMethod z).before a0 Z = true) (wc : (Cond.code z bytes maxL ret).before a0 Z = true) (wi : (Cond.initialized z.cls).before a0 Z = true)
    (hy : owner ≠ "java/lang/invoke/MethodHandle" ∧ owner ≠ "java/lang/invoke/VarHandle")
    (hM : MetFree l z (head1 [Cond.code z bytes maxL ret] rm) (fun a U => a = as' ∧ Z.Warmed39 U.vm ∧ U.heap = h) (fun _ _ _ _ _ => True) (fun _ U o U' => ∃ v L, o = .returned v ∧ Qc v U'.heap L ∧ FrameEnd U o U' L rm.cells rm.slots))
    (eT : T.heap = h) {b : Addr} (E : Exa Z h b Cn) {pc : Nat} {Ls : Array Slot} (hsize : Ls.size = c.maxLocals) {argsL rest stk : List Value} (hst : stk = argsL.reverse ++ .ref b :: rest) (ha : (.ref b :: argsL).toArray = as') (hlen : ∀ sig, parseMethodDescriptor y.desc = some sig → argsL.length = sig.parameters.length) {W : Nat} (hW : (rest.map fun v => v.category).sum ≤ W)
    (hf : rm.frames + 1 ≤ R.frames) (hl : W + (maxL + 11) + rm.locals ≤ R.locals) (hd : decode c.code pc = .ok (.invokevirtual index, 3)) (hc : cells + rm.cells ≤ R.cells) (hs : slots + rm.slots ≤ R.slots)
    (k : ∀ (v : Option Value) (T' : State) (L : List Loc), Stand p l e R s m args below meth c T' (locs ++ L) (cells + rm.cells) (slots + rm.slots) → Qc v T'.heap L → Go p e below End Q T' (mkF m (pc + 3) Ls (v.toList ++ rest))) :
    Go p e below End Q T (mkF m pc Ls stk) := by
  subst hst
  obtain ⟨cq, kq, qa, qb, qc⟩ := isOf hZ eT E
  obtain ⟨v, _, ⟨T', L', k', n'⟩, -, X', ⟨Lc, hQ, l1, y1, z1⟩, st⟩ := X.virtualBackUp hx (x := y) (y := z) hown (mvT hZ wl) (mvT hZ wsm) (mvT hZ wd) hy (mvT hZ wsel) (mvT hZ win) (backOf (W := W) hM hZ wc wi hf hl) qa qc (g := mkF m pc Ls (argsL.reverse ++ .ref b :: rest)) rfl hsize (Steps.refl _) (argsL := argsL) (rest := rest) hlen rfl (by show 2 * 0 + _ ≤ _; rw [Nat.mul_zero, Nat.zero_add]; exact hW) hd (fun _ _ => ⟨ha, eT, hc, hs⟩)
  dsimp only [Pt.U, Pt.locs, Pt.cells, Pt.slots] at X' l1 y1 z1 st hQ
  subst l1 y1 z1
  exact own_go (fun t q => st.trans q) (k v T' Lc X' hQ)
theorem own_callI (X : Stand p l e R s m args below meth c T locs cells slots) (hx : p.tables.exec = Jvm.exec) (hZ : Z.Warmed39 s.vm) {own : String} {index : Nat} {y : MethodName} {bytes : ByteArray} {maxL : Nat} {rm : Room} {as' : Array Value} {Qc : Option Value → Heap → List Loc → Prop} (hy1 : y.name = "<init>")
    (hown : s.vm.findClass own = some m.cls) (wl : (Cond.methodLink own index y).before a0 Z = true) (win : (Cond.instanceMethod y).before a0 Z = true) (wc : (Cond.code y bytes maxL none).before a0 Z = true) (wi : (Cond.initialized y.cls).before a0 Z = true)
    (hy : y.cls ≠ "java/lang/invoke/MethodHandle" ∧ y.cls ≠ "java/lang/invoke/VarHandle")
    (hM : MetFree l y (head1 [Cond.code y bytes maxL none] rm) (fun a U => a = as' ∧ Z.Warmed39 U.vm ∧ U.heap = h) (fun _ _ _ _ _ => True) (fun _ U o U' => ∃ v L, o = .returned v ∧ Qc v U'.heap L ∧ FrameEnd U o U' L rm.cells rm.slots))
    (eT : T.heap = h) {b : Addr} {pc : Nat} {Ls : Array Slot} (hsize : Ls.size = c.maxLocals) {argsL rest stk : List Value} (hst : stk = argsL.reverse ++ .ref b :: rest) (ha : (.ref b :: argsL).toArray = as') (hlen : ∀ sig, parseMethodDescriptor y.desc = some sig → argsL.length = sig.parameters.length) {W : Nat} (hW : (rest.map fun v => v.category).sum ≤ W)
    (hf : rm.frames + 1 ≤ R.frames) (hl : W + (maxL + 11) + rm.locals ≤ R.locals) (hd : decode c.code pc = .ok (.invokespecial index, 3)) (hc : cells + rm.cells ≤ R.cells) (hs : slots + rm.slots ≤ R.slots)
    (k : ∀ (v : Option Value) (T' : State) (L : List Loc), Stand p l e R s m args below meth c T' (locs ++ L) (cells + rm.cells) (slots + rm.slots) → Qc v T'.heap L → Go p e below End Q T' (mkF m (pc + 3) Ls (v.toList ++ rest))) :
    Go p e below End Q T (mkF m pc Ls stk) := by
  subst hst
  obtain ⟨v, _, ⟨T', L', k', n'⟩, -, X', ⟨Lc, hQ, l1, y1, z1⟩, st⟩ := X.specialBack hx (y := y) hy1 hown (mvT hZ wl) (mvT hZ win) (mvT hZ wc) hy (backOf (W := W) hM hZ wc wi hf hl) (g := mkF m pc Ls (argsL.reverse ++ .ref b :: rest)) rfl hsize (Steps.refl _) (a := b) (argsL := argsL) (rest := rest) hlen rfl (by show 2 * 0 + _ ≤ _; rw [Nat.mul_zero, Nat.zero_add]; exact hW) hd (fun _ _ => ⟨ha, eT, hc, hs⟩)
  dsimp only [Pt.U, Pt.locs, Pt.cells, Pt.slots] at X' l1 y1 z1 st hQ
  subst l1 y1 z1
  exact own_go (fun t q => st.trans q) (k v T' Lc X' hQ)
theorem own_eqI {ar : Array Value} {t : Term} {k : Int32} (hx : (Cond.eq t (.int k)).value ar Z none Z [] = some true) : t.eval ar Z none [] Z = some (.int k) := by
  obtain ⟨x, y, e1, e2, k1, -⟩ := cmp_v (Or.inl hx)
  have e3 : y = .int k := Option.some.inj (e2.symm.trans (Term.int_eval k))
  subst e3
  cases x with
  | int z =>
    have := gotT (Cond.eq_ints e1 e2) hx
    subst this
    exact e1
  | _ => simp [Kin, Value.isRef] at k1
theorem own_fld {ar : Array Value} {t : Term} {w : Addr} {O n d : String} {k : Int32} (ev : t.eval ar Z none [] Z = some (.ref w)) (hx : (Cond.eq (.field t O n d) (.int k)).value ar Z none Z [] = some true) : Fld Z Z.heap w O n d (.int k) :=
  Fld.start ((fld_at (C := O) (n := n) (dd := d) ev).symm.trans (own_eqI hx))
theorem own_len {ar : Array Value} {t : Term} {a : Addr} {cl : Cell} {k : Int32} {n : Nat} (ev : t.eval ar Z none [] Z = some (.ref a)) (hat : Z.arrayAt? a = some cl) (hL : (Cond.eq (.length t) (.int k)).value ar Z none Z [] = some true) (hk : k.toInt = n) : cl.slots.size = n ∧ cl.slots.size < 2 ^ 31 := by
  by_cases hs : cl.slots.size < 2 ^ 31
  · have e1 := len_f (t := t) ev hat hs
    have e2 := own_eqI hL
    have e3 : cl.slots.size.toInt32 = k := Value.int.inj (Option.some.inj (e1.symm.trans e2))
    have e4 := len_toInt hs
    rw [e3, hk] at e4
    exact ⟨by omega, hs⟩
  · have e2 := own_eqI hL
    simp [Term.eval, ev, hat, hs] at e2
theorem own_ne_fld {a b : Addr} {Cn n d : String} {v w : Value} (F : Fld Z h a Cn n d v) (G : Fld Z h b Cn n d w) (hn : v ≠ w) : ¬ a = b := by
  rintro rfl
  obtain ⟨c1, cf1, k1, i1, f1, h1, h2, -, -, -, -, h7⟩ := F
  obtain ⟨c2, cf2, k2, i2, f2, g1, g2, -, -, -, -, g7⟩ := G
  cases h1.symm.trans g1
  cases h2.symm.trans g2
  cases h7.symm.trans g7
  exact hn rfl
theorem own_sta_keep {h h' : Heap} {ws : List Addr} {Cn n d : String} {v : Value} (F : Sta Z h Cn n d v) (K : Keep h h' ws) (hws : ∀ a ∈ ws, ∃ C', Exa Z h a C') : Sta Z h' Cn n d v := by
  obtain ⟨cf, i, k, f, st, cell, h1, h2, h3, h4, h5, h6, h7⟩ := F
  refine ⟨cf, i, k, f, st, cell, h1, h2, h3, h4, K.2.1 st cell h5 (fun q => ?_), h6, h7⟩
  obtain ⟨C', cell', k', e1, -, -, e4, -⟩ := hws st q
  cases h5.symm.trans e1
  rw [h6] at e4; cases e4
/-- the class named c has no superclass named K (itself neither) -/
def OwnNsub (Z : State) (c K : String) : Prop := ∀ (ci ki : ClassId), Z.vm.findClass c = some ci → Z.vm.findClass K = some ki → ∀ fuel, Z.vm.isSubclassAux fuel ci ki = false
theorem own_id_ne {c K : String} {ci ki : ClassId} (h1 : Z.vm.findClass c = some ci) (h2 : Z.vm.findClass K = some ki) (hn : c ≠ K) : (ci == ki) = false := by
  rw [beq_eq_false_iff_ne]
  rintro rfl
  obtain ⟨k1, a1, b1⟩ := Vm.findClass_spec h1
  obtain ⟨k2, a2, b2⟩ := Vm.findClass_spec h2
  cases a1.symm.trans a2
  exact hn (b1.symm.trans b2)
theorem own_nsub_root {c K : String} (w : (Cond.noSuperclass c).before a0 Z = true) (hn : c ≠ K) : OwnNsub Z c K := by
  intro ci ki h1 h2 fuel
  cases fuel with
  | zero => rfl
  | succ n =>
    obtain ⟨k1, a1, b1⟩ := Vm.findClass_spec h1
    have hs := Cond.noSuperclass_root w ci k1 h1 a1
    simp [Vm.isSubclassAux, own_id_ne h1 h2 hn, a1, hs]
theorem own_nsub_up {c d K : String} (w : (Cond.superclass c d).before a0 Z = true) (hn : c ≠ K) (N : OwnNsub Z d K) : OwnNsub Z c K := by
  intro ci ki h1 h2 fuel
  cases fuel with
  | zero => rfl
  | succ n =>
    obtain ⟨pi, k, kp, g1, g2, g3, g4, -⟩ := Cond.superclass_spec h1 w
    simp [Vm.isSubclassAux, own_id_ne h1 h2 hn, g2, g4, N pi ki g1 h2 n]
theorem own_nins {a : Addr} {c d K : String} {kk : Nat} (E : Exa Z h a c) (wi : (Cond.instantiable K kk).before a0 Z = true) (wsup : (Cond.superclass c d).before a0 Z = true) (hn : c ≠ K) (N : OwnNsub Z c K) : Ins Z h a K false := by
  obtain ⟨cell, k, h1, h2, h3, h4, -⟩ := E
  obtain ⟨ki, kt, i1, i2, i3, i4, -⟩ := Cond.instantiable_spec wi
  obtain ⟨pi, k', kp, g1, g2, g3, g4, g5, -⟩ := Cond.superclass_spec h2 wsup
  cases h3.symm.trans g2
  refine ⟨cell, ki, h1, i1, ?_⟩
  have hif : kt.isInterface = false := by simp only [Bool.or_eq_false_iff] at i4; exact i4.1
  simp [h4, Vm.assignable, Vm.assignableAux, own_id_ne h2 i1 hn, h3, i2, g5, i3, hif, Vm.isSubclass, N cell.cls ki h2 i1]
end OwnGo
theorem own_int {i j : Int32} (h : i.toInt = j.toInt) : i = j := Int32.toInt_inj.mp h
theorem own_and3 (x : Int32) : (x &&& (3 : Int32)) = 0 ∨ (x &&& (3 : Int32)) = 1 ∨ (x &&& (3 : Int32)) = 2 ∨ (x &&& (3 : Int32)) = 3 := by
  have h := c_and x (3 : Int32) (by decide)
  have h3 : (3 : Int32).toInt = 3 := by decide
  rw [h3] at h
  generalize (x &&& (3 : Int32)) = i at h
  have q : i.toInt = 0 ∨ i.toInt = 1 ∨ i.toInt = 2 ∨ i.toInt = 3 := by omega
  rcases q with q | q | q | q
  · exact Or.inl (own_int q)
  · exact Or.inr (Or.inl (own_int q))
  · exact Or.inr (Or.inr (Or.inl (own_int q)))
  · exact Or.inr (Or.inr (Or.inr (own_int q)))
theorem own_and1 (x : Int32) : (x &&& (1 : Int32)) = 0 ∨ (x &&& (1 : Int32)) = 1 := by
  have h := c_and x (1 : Int32) (by decide)
  have h3 : (1 : Int32).toInt = 1 := by decide
  rw [h3] at h
  generalize (x &&& (1 : Int32)) = i at h
  have q : i.toInt = 0 ∨ i.toInt = 1 := by omega
  rcases q with q | q
  · exact Or.inl (own_int q)
  · exact Or.inr (own_int q)
theorem own_rem6 (x : Int32) : ((x &&& (2147483647 : Int32)) % (6 : Int32)) = 0 ∨ ((x &&& (2147483647 : Int32)) % (6 : Int32)) = 1 ∨ ((x &&& (2147483647 : Int32)) % (6 : Int32)) = 2 ∨ ((x &&& (2147483647 : Int32)) % (6 : Int32)) = 3 ∨ ((x &&& (2147483647 : Int32)) % (6 : Int32)) = 4 ∨ ((x &&& (2147483647 : Int32)) % (6 : Int32)) = 5 := by
  have h := (c_and x (2147483647 : Int32) (by decide)).1
  generalize (x &&& (2147483647 : Int32)) = y at h
  have h2 := (c_irem y (6 : Int32) 6 (by decide)).1 h
  generalize (y % (6 : Int32)) = i at h2
  have q : i.toInt = 0 ∨ i.toInt = 1 ∨ i.toInt = 2 ∨ i.toInt = 3 ∨ i.toInt = 4 ∨ i.toInt = 5 := by omega
  rcases q with q | q | q | q | q | q
  · exact Or.inl (own_int q)
  · exact Or.inr (Or.inl (own_int q))
  · exact Or.inr (Or.inr (Or.inl (own_int q)))
  · exact Or.inr (Or.inr (Or.inr (Or.inl (own_int q))))
  · exact Or.inr (Or.inr (Or.inr (Or.inr (Or.inl (own_int q)))))
  · exact Or.inr (Or.inr (Or.inr (Or.inr (Or.inr (own_int q)))))
theorem own_rem5 (x : Int32) : ((x &&& (2147483647 : Int32)) % (5 : Int32)) = 0 ∨ ((x &&& (2147483647 : Int32)) % (5 : Int32)) = 1 ∨ ((x &&& (2147483647 : Int32)) % (5 : Int32)) = 2 ∨ ((x &&& (2147483647 : Int32)) % (5 : Int32)) = 3 ∨ ((x &&& (2147483647 : Int32)) % (5 : Int32)) = 4 := by
  have h := (c_and x (2147483647 : Int32) (by decide)).1
  generalize (x &&& (2147483647 : Int32)) = y at h
  have h2 := (c_irem y (5 : Int32) 5 (by decide)).1 h
  generalize (y % (5 : Int32)) = i at h2
  have q : i.toInt = 0 ∨ i.toInt = 1 ∨ i.toInt = 2 ∨ i.toInt = 3 ∨ i.toInt = 4 := by omega
  rcases q with q | q | q | q | q
  · exact Or.inl (own_int q)
  · exact Or.inr (Or.inl (own_int q))
  · exact Or.inr (Or.inr (Or.inl (own_int q)))
  · exact Or.inr (Or.inr (Or.inr (Or.inl (own_int q))))
  · exact Or.inr (Or.inr (Or.inr (Or.inr (own_int q))))
theorem own_and2 (x : Int32) : (x &&& (2 : Int32)) = 0 ∨ (x &&& (2 : Int32)) = 2 := by
  have h : (x &&& (2 : Int32)) = (x &&& (3 : Int32)) &&& (2 : Int32) := by rw [Int32.and_assoc]; rfl
  rw [h]
  rcases own_and3 x with q | q | q | q <;> rw [q] <;> decide

theorem d_method_2_0 : Jvm.ClassFile.decode method_2_code 0 = .ok (.iload_n 0, 1) := by decide +kernel
theorem d_method_2_1 : Jvm.ClassFile.decode method_2_code 1 = .ok (.ifCond .ne 7, 3) := by decide +kernel
theorem d_method_2_8 : Jvm.ClassFile.decode method_2_code 8 = .ok (.iload_n 0, 1) := by decide +kernel
theorem d_method_2_9 : Jvm.ClassFile.decode method_2_code 9 = .ok (.iconst 1, 1) := by decide +kernel
theorem d_method_2_10 : Jvm.ClassFile.decode method_2_code 10 = .ok (.if_icmp .ne 7, 3) := by decide +kernel
theorem d_method_2_17 : Jvm.ClassFile.decode method_2_code 17 = .ok (.iload_n 0, 1) := by decide +kernel
theorem d_method_2_18 : Jvm.ClassFile.decode method_2_code 18 = .ok (.iconst 2, 1) := by decide +kernel
theorem d_method_2_19 : Jvm.ClassFile.decode method_2_code 19 = .ok (.if_icmp .ne 7, 3) := by decide +kernel
theorem d_method_2_26 : Jvm.ClassFile.decode method_2_code 26 = .ok (.getstatic 19, 3) := by decide +kernel
theorem d_method_2_29 : Jvm.ClassFile.decode method_2_code 29 = .ok (.areturn, 1) := by decide +kernel
theorem d_method_2_22 : Jvm.ClassFile.decode method_2_code 22 = .ok (.getstatic 16, 3) := by decide +kernel
theorem d_method_2_25 : Jvm.ClassFile.decode method_2_code 25 = .ok (.areturn, 1) := by decide +kernel
theorem d_method_2_13 : Jvm.ClassFile.decode method_2_code 13 = .ok (.getstatic 13, 3) := by decide +kernel
theorem d_method_2_16 : Jvm.ClassFile.decode method_2_code 16 = .ok (.areturn, 1) := by decide +kernel
theorem d_method_2_4 : Jvm.ClassFile.decode method_2_code 4 = .ok (.getstatic 7, 3) := by decide +kernel
theorem d_method_2_7 : Jvm.ClassFile.decode method_2_code 7 = .ok (.areturn, 1) := by decide +kernel
def own_f_rm1 (p1 : Int32) (w_COLLECTION : Addr) (w_POSTING : Addr) (w_DOCUMENT : Addr) (w_TERM : Addr) : Value := (if p1 = (0 : Int32) then (.ref w_COLLECTION : Value) else (if p1 = (1 : Int32) then (.ref w_TERM : Value) else (if p1 = (2 : Int32) then (.ref w_DOCUMENT : Value) else (.ref w_POSTING : Value))))
theorem own_pn0 : plainName "com/example/term_weight_evolver/termweightevolver/formula/ScopeWithPinLaw" = true := by first | (simp [plainName, overriddenIn]; done) | decide +kernel
theorem own_ef_rm1 (m : MethodId) (x0 : Int32) : entryFrame m #[(.int x0)] 1 = mkF m 0 #[.val (.int x0)] [] := by first | (simp [entryFrame, mkF, argsToLocals, Value.category]; done) | rfl
set_option maxRecDepth 65536 in
set_option maxHeartbeats 40000000 in
theorem rm1 (l : Launch) (Z : State) (a0 : Array Value) (hw : ∀ d ∈ tables_1, d.before a0 Z = true) (ws : List Jvm.Cond) (p1 : Int32) (w_COLLECTION : Addr) (w_POSTING : Addr) (w_DOCUMENT : Addr) (w_TERM : Addr) (r : Value) (h0 : Heap) (n0 : Nat) (hn0 : n0 ≤ h0.size) (S_COLLECTION : Sta Z h0 "com/example/term_weight_evolver/termweightevolver/formula/Statistic$Scope" "COLLECTION" "Lcom/example/term_weight_evolver/termweightevolver/formula/Statistic$Scope;" (.ref w_COLLECTION)) (S_POSTING : Sta Z h0 "com/example/term_weight_evolver/termweightevolver/formula/Statistic$Scope" "POSTING" "Lcom/example/term_weight_evolver/termweightevolver/formula/Statistic$Scope;" (.ref w_POSTING)) (S_DOCUMENT : Sta Z h0 "com/example/term_weight_evolver/termweightevolver/formula/Statistic$Scope" "DOCUMENT" "Lcom/example/term_weight_evolver/termweightevolver/formula/Statistic$Scope;" (.ref w_DOCUMENT)) (S_TERM : Sta Z h0 "com/example/term_weight_evolver/termweightevolver/formula/Statistic$Scope" "TERM" "Lcom/example/term_weight_evolver/termweightevolver/formula/Statistic$Scope;" (.ref w_TERM)) (hr : own_f_rm1 p1 w_COLLECTION w_POSTING w_DOCUMENT w_TERM = r) :
    OwnMet l Z (⟨"com/example/term_weight_evolver/termweightevolver/formula/ScopeWithPinLaw", "of", "(I)Lcom/example/term_weight_evolver/termweightevolver/formula/Statistic$Scope;"⟩ : MethodName) method_2_code 1 (some (.object "com/example/term_weight_evolver/termweightevolver/formula/Statistic$Scope")) ws ({ frames := 0, cells := 0, slots := 0, locals := 0 } : Room) #[(.int p1)] h0 (OwnP (some r) h0 n0) := by
  refine own_body (plainFor_of_name own_pn0) ?_
  intro p e s m below meth c s₁ X0 hx hby hml hret hlk hown0 hnm hZ e0 hs0
  have hown : s.vm.findClass "com/example/term_weight_evolver/termweightevolver/formula/ScopeWithPinLaw" = some m.cls := hown0
  have N0 := Fr.nil n0
  refine own_entry (own_ef_rm1 m p1) ?_
  show Go _ _ _ _ _ s₁ (mkF m 0 #[.val (.int p1)] [])
  refine own_go (fun t k => XS.iloadN X0.here hx rfl (hb hby d_method_2_0) rfl k) ?_
  show Go _ _ _ _ _ s₁ (mkF m 1 #[.val (.int p1)] [(.int p1)])
  refine own_ifM (p1 = (0 : Int32)) X0 hx (hb hby d_method_2_1) (own_ne _ _) (by decide) (by decide) (pc' := 8) (fun hc8 => ?_) (fun hc8 => ?_)
  · skip
    show Go _ _ _ _ _ s₁ (mkF m 8 #[.val (.int p1)] [])
    refine own_go (fun t k => XS.iloadN X0.here hx rfl (hb hby d_method_2_8) rfl k) ?_
    show Go _ _ _ _ _ s₁ (mkF m 9 #[.val (.int p1)] [(.int p1)])
    refine own_go (fun t k => XS.iconst X0.here hx rfl (hb hby d_method_2_9) k) ?_
    show Go _ _ _ _ _ s₁ (mkF m 10 #[.val (.int p1)] [(.int (1 : Int32)), (.int p1)])
    refine own_icmpM (p1 = (1 : Int32)) X0 hx (hb hby d_method_2_10) (own_ne _ _) (by decide) (by decide) (pc' := 17) (fun hc9 => ?_) (fun hc9 => ?_)
    · skip
      show Go _ _ _ _ _ s₁ (mkF m 17 #[.val (.int p1)] [])
      refine own_go (fun t k => XS.iloadN X0.here hx rfl (hb hby d_method_2_17) rfl k) ?_
      show Go _ _ _ _ _ s₁ (mkF m 18 #[.val (.int p1)] [(.int p1)])
      refine own_go (fun t k => XS.iconst X0.here hx rfl (hb hby d_method_2_18) k) ?_
      show Go _ _ _ _ _ s₁ (mkF m 19 #[.val (.int p1)] [(.int (2 : Int32)), (.int p1)])
      refine own_icmpM (p1 = (2 : Int32)) X0 hx (hb hby d_method_2_19) (own_ne _ _) (by decide) (by decide) (pc' := 26) (fun hc10 => ?_) (fun hc10 => ?_)
      · skip
        show Go _ _ _ _ _ s₁ (mkF m 26 #[.val (.int p1)] [])
        obtain ⟨T11, X11, e11, st11⟩ := getS2 X0 hx hZ hown (host := "") (Or.inl (hw _ (List.mem_of_getElem? (i := 7) rfl))) Via.refl e0 S_POSTING (g := (mkF m 26 #[.val (.int p1)] [])) rfl (hb hby d_method_2_26)
        refine own_go (fun t k => st11 t k) ?_
        show Go _ _ _ _ _ T11 (mkF m 29 #[.val (.int p1)] [(.ref w_POSTING)])
        refine own_retA X11 hx (own_lvN X11 hlk (by decide) (by decide)) hret rfl rfl (hb hby d_method_2_29) ?_
        exact ⟨(by rw [← hr, own_f_rm1, if_neg hc8, if_neg hc9, if_neg hc10]; try rfl), N0, e11⟩
      · skip
        show Go _ _ _ _ _ s₁ (mkF m 22 #[.val (.int p1)] [])
        obtain ⟨T12, X12, e12, st12⟩ := getS2 X0 hx hZ hown (host := "") (Or.inl (hw _ (List.mem_of_getElem? (i := 15) rfl))) Via.refl e0 S_DOCUMENT (g := (mkF m 22 #[.val (.int p1)] [])) rfl (hb hby d_method_2_22)
        refine own_go (fun t k => st12 t k) ?_
        show Go _ _ _ _ _ T12 (mkF m 25 #[.val (.int p1)] [(.ref w_DOCUMENT)])
        refine own_retA X12 hx (own_lvN X12 hlk (by decide) (by decide)) hret rfl rfl (hb hby d_method_2_25) ?_
        exact ⟨(by rw [← hr, own_f_rm1, if_neg hc8, if_neg hc9, if_pos hc10]; try rfl), N0, e12⟩
    · skip
      show Go _ _ _ _ _ s₁ (mkF m 13 #[.val (.int p1)] [])
      obtain ⟨T13, X13, e13, st13⟩ := getS2 X0 hx hZ hown (host := "") (Or.inl (hw _ (List.mem_of_getElem? (i := 17) rfl))) Via.refl e0 S_TERM (g := (mkF m 13 #[.val (.int p1)] [])) rfl (hb hby d_method_2_13)
      refine own_go (fun t k => st13 t k) ?_
      show Go _ _ _ _ _ T13 (mkF m 16 #[.val (.int p1)] [(.ref w_TERM)])
      refine own_retA X13 hx (own_lvN X13 hlk (by decide) (by decide)) hret rfl rfl (hb hby d_method_2_16) ?_
      exact ⟨(by rw [← hr, own_f_rm1, if_neg hc8, if_pos hc9]; try rfl), N0, e13⟩
  · skip
    show Go _ _ _ _ _ s₁ (mkF m 4 #[.val (.int p1)] [])
    obtain ⟨T14, X14, e14, st14⟩ := getS2 X0 hx hZ hown (host := "") (Or.inl (hw _ (List.mem_of_getElem? (i := 4) rfl))) Via.refl e0 S_COLLECTION (g := (mkF m 4 #[.val (.int p1)] [])) rfl (hb hby d_method_2_4)
    refine own_go (fun t k => st14 t k) ?_
    show Go _ _ _ _ _ T14 (mkF m 7 #[.val (.int p1)] [(.ref w_COLLECTION)])
    refine own_retA X14 hx (own_lvN X14 hlk (by decide) (by decide)) hret rfl rfl (hb hby d_method_2_7) ?_
    exact ⟨(by rw [← hr, own_f_rm1, if_pos hc8]; try rfl), N0, e14⟩
theorem d_prog_35_method_4_0 : Jvm.ClassFile.decode prog_35_method_4_code 0 = .ok (.aload_n 1, 1) := by decide +kernel
theorem d_prog_35_method_4_1 : Jvm.ClassFile.decode prog_35_method_4_code 1 = .ok (.aload_n 0, 1) := by decide +kernel
theorem d_prog_35_method_4_2 : Jvm.ClassFile.decode prog_35_method_4_code 2 = .ok (.if_acmp .eq 10, 3) := by decide +kernel
theorem d_prog_35_method_4_12 : Jvm.ClassFile.decode prog_35_method_4_code 12 = .ok (.aload_n 0, 1) := by decide +kernel
theorem d_prog_35_method_4_13 : Jvm.ClassFile.decode prog_35_method_4_code 13 = .ok (.astore_n 2, 1) := by decide +kernel
theorem d_prog_35_method_4_14 : Jvm.ClassFile.decode prog_35_method_4_code 14 = .ok (.goto 19, 3) := by decide +kernel
theorem d_prog_35_method_4_33 : Jvm.ClassFile.decode prog_35_method_4_code 33 = .ok (.aload_n 2, 1) := by decide +kernel
theorem d_prog_35_method_4_34 : Jvm.ClassFile.decode prog_35_method_4_code 34 = .ok (.areturn, 1) := by decide +kernel
theorem d_prog_35_method_4_5 : Jvm.ClassFile.decode prog_35_method_4_code 5 = .ok (.aload_n 1, 1) := by decide +kernel
theorem d_prog_35_method_4_6 : Jvm.ClassFile.decode prog_35_method_4_code 6 = .ok (.getstatic 3, 3) := by decide +kernel
theorem d_prog_35_method_4_9 : Jvm.ClassFile.decode prog_35_method_4_code 9 = .ok (.if_acmp .ne 8, 3) := by decide +kernel
theorem d_prog_35_method_4_17 : Jvm.ClassFile.decode prog_35_method_4_code 17 = .ok (.aload_n 0, 1) := by decide +kernel
theorem d_prog_35_method_4_18 : Jvm.ClassFile.decode prog_35_method_4_code 18 = .ok (.getstatic 3, 3) := by decide +kernel
theorem d_prog_35_method_4_21 : Jvm.ClassFile.decode prog_35_method_4_code 21 = .ok (.if_acmp .ne 8, 3) := by decide +kernel
theorem d_prog_35_method_4_24 : Jvm.ClassFile.decode prog_35_method_4_code 24 = .ok (.aload_n 1, 1) := by decide +kernel
theorem d_prog_35_method_4_25 : Jvm.ClassFile.decode prog_35_method_4_code 25 = .ok (.astore_n 2, 1) := by decide +kernel
theorem d_prog_35_method_4_26 : Jvm.ClassFile.decode prog_35_method_4_code 26 = .ok (.goto 7, 3) := by decide +kernel
theorem d_prog_35_method_4_29 : Jvm.ClassFile.decode prog_35_method_4_code 29 = .ok (.getstatic 13, 3) := by decide +kernel
theorem d_prog_35_method_4_32 : Jvm.ClassFile.decode prog_35_method_4_code 32 = .ok (.astore_n 2, 1) := by decide +kernel
def own_f_rm2 (a1 : Addr) (a2 : Addr) (w_COLLECTION : Addr) (w_POSTING : Addr) : Value := (if a2 = a1 then (.ref a1 : Value) else (if a2 = w_COLLECTION then (.ref a1 : Value) else (if a1 = w_COLLECTION then (.ref a2 : Value) else (.ref w_POSTING : Value))))
theorem own_pn1 : plainName "com/example/term_weight_evolver/termweightevolver/formula/Statistic$Scope" = true := by first | (simp [plainName, overriddenIn]; done) | decide +kernel
theorem own_ef_rm2 (m : MethodId) (x0 : Addr) (x1 : Addr) : entryFrame m #[(.ref x0), (.ref x1)] 3 = mkF m 0 #[.val (.ref x0), .val (.ref x1), .unset] [] := by first | (simp [entryFrame, mkF, argsToLocals, Value.category]; done) | rfl
set_option maxRecDepth 65536 in
set_option maxHeartbeats 40000000 in
theorem rm2 (l : Launch) (Z : State) (a0 : Array Value) (hw : ∀ d ∈ tables_1, d.before a0 Z = true) (ws : List Jvm.Cond) (a1 : Addr) (a2 : Addr) (w_COLLECTION : Addr) (w_POSTING : Addr) (w_DOCUMENT : Addr) (w_TERM : Addr) (r : Value) (h0 : Heap) (n0 : Nat) (hn0 : n0 ≤ h0.size) (S_COLLECTION : Sta Z h0 "com/example/term_weight_evolver/termweightevolver/formula/Statistic$Scope" "COLLECTION" "Lcom/example/term_weight_evolver/termweightevolver/formula/Statistic$Scope;" (.ref w_COLLECTION)) (S_POSTING : Sta Z h0 "com/example/term_weight_evolver/termweightevolver/formula/Statistic$Scope" "POSTING" "Lcom/example/term_weight_evolver/termweightevolver/formula/Statistic$Scope;" (.ref w_POSTING)) (S_DOCUMENT : Sta Z h0 "com/example/term_weight_evolver/termweightevolver/formula/Statistic$Scope" "DOCUMENT" "Lcom/example/term_weight_evolver/termweightevolver/formula/Statistic$Scope;" (.ref w_DOCUMENT)) (S_TERM : Sta Z h0 "com/example/term_weight_evolver/termweightevolver/formula/Statistic$Scope" "TERM" "Lcom/example/term_weight_evolver/termweightevolver/formula/Statistic$Scope;" (.ref w_TERM)) (hr : own_f_rm2 a1 a2 w_COLLECTION w_POSTING = r) :
    OwnMet l Z (⟨"com/example/term_weight_evolver/termweightevolver/formula/Statistic$Scope", "with", "(Lcom/example/term_weight_evolver/termweightevolver/formula/Statistic$Scope;)Lcom/example/term_weight_evolver/termweightevolver/formula/Statistic$Scope;"⟩ : MethodName) prog_35_method_4_code 3 (some (.object "com/example/term_weight_evolver/termweightevolver/formula/Statistic$Scope")) ws ({ frames := 0, cells := 0, slots := 0, locals := 0 } : Room) #[(.ref a1), (.ref a2)] h0 (OwnP (some r) h0 n0) := by
  refine own_body (plainFor_of_name own_pn1) ?_
  intro p e s m below meth c s₁ X0 hx hby hml hret hlk hown0 hnm hZ e0 hs0
  have hown : s.vm.findClass "com/example/term_weight_evolver/termweightevolver/formula/Statistic$Scope" = some m.cls := hown0
  have N0 := Fr.nil n0
  refine own_entry (own_ef_rm2 m a1 a2) ?_
  show Go _ _ _ _ _ s₁ (mkF m 0 #[.val (.ref a1), .val (.ref a2), .unset] [])
  refine own_go (fun t k => XS.aloadN X0.here hx rfl (hb hby d_prog_35_method_4_0) rfl rfl k) ?_
  show Go _ _ _ _ _ s₁ (mkF m 1 #[.val (.ref a1), .val (.ref a2), .unset] [(.ref a2)])
  refine own_go (fun t k => XS.aloadN X0.here hx rfl (hb hby d_prog_35_method_4_1) rfl rfl k) ?_
  show Go _ _ _ _ _ s₁ (mkF m 2 #[.val (.ref a1), .val (.ref a2), .unset] [(.ref a1), (.ref a2)])
  refine own_acmp (a2 = a1) X0 hx rfl rfl (own_ref _ _) (hb hby d_prog_35_method_4_2) (by decide) (pcE := 12) (pcN := 5) (by decide) (by decide) (fun ha21 => ?_) (fun ha21 => ?_)
  · skip
    show Go _ _ _ _ _ s₁ (mkF m 12 #[.val (.ref a1), .val (.ref a2), .unset] [])
    refine own_go (fun t k => XS.aloadN X0.here hx rfl (hb hby d_prog_35_method_4_12) rfl rfl k) ?_
    show Go _ _ _ _ _ s₁ (mkF m 13 #[.val (.ref a1), .val (.ref a2), .unset] [(.ref a1)])
    refine own_go (fun t k => XS.astoreN X0.here hx rfl (hb hby d_prog_35_method_4_13) rfl rfl (l' := #[.val (.ref a1), .val (.ref a2), .val (.ref a1)]) rfl k) ?_
    show Go _ _ _ _ _ s₁ (mkF m 14 #[.val (.ref a1), .val (.ref a2), .val (.ref a1)] [])
    refine own_go (fun t k => XS.goto X0.here hx rfl (pc0 := 14) (pc' := 33) rfl (hb hby d_prog_35_method_4_14) (by decide) (by decide) k) ?_
    show Go _ _ _ _ _ s₁ (mkF m 33 #[.val (.ref a1), .val (.ref a2), .val (.ref a1)] [])
    refine own_go (fun t k => XS.aloadN X0.here hx rfl (hb hby d_prog_35_method_4_33) rfl rfl k) ?_
    show Go _ _ _ _ _ s₁ (mkF m 34 #[.val (.ref a1), .val (.ref a2), .val (.ref a1)] [(.ref a1)])
    refine own_retA X0 hx (own_lvN X0 hlk (by decide) (by decide)) hret rfl rfl (hb hby d_prog_35_method_4_34) ?_
    exact ⟨(by rw [← hr, own_f_rm2, if_pos ha21]; try rfl), N0, e0⟩
  · skip
    show Go _ _ _ _ _ s₁ (mkF m 5 #[.val (.ref a1), .val (.ref a2), .unset] [])
    refine own_go (fun t k => XS.aloadN X0.here hx rfl (hb hby d_prog_35_method_4_5) rfl rfl k) ?_
    show Go _ _ _ _ _ s₁ (mkF m 6 #[.val (.ref a1), .val (.ref a2), .unset] [(.ref a2)])
    obtain ⟨T22, X22, e22, st22⟩ := getS2 X0 hx hZ hown (host := "") (Or.inl (hw _ (List.mem_of_getElem? (i := 14) rfl))) Via.refl e0 S_COLLECTION (g := (mkF m 6 #[.val (.ref a1), .val (.ref a2), .unset] [(.ref a2)])) rfl (hb hby d_prog_35_method_4_6)
    refine own_go (fun t k => st22 t k) ?_
    show Go _ _ _ _ _ T22 (mkF m 9 #[.val (.ref a1), .val (.ref a2), .unset] [(.ref w_COLLECTION), (.ref a2)])
    refine own_acmp (a2 = w_COLLECTION) X22 hx rfl rfl (own_ref _ _) (hb hby d_prog_35_method_4_9) (by decide) (pcE := 12) (pcN := 17) (by decide) (by decide) (fun ha23 => ?_) (fun ha23 => ?_)
    · skip
      show Go _ _ _ _ _ T22 (mkF m 12 #[.val (.ref a1), .val (.ref a2), .unset] [])
      refine own_go (fun t k => XS.aloadN X22.here hx rfl (hb hby d_prog_35_method_4_12) rfl rfl k) ?_
      show Go _ _ _ _ _ T22 (mkF m 13 #[.val (.ref a1), .val (.ref a2), .unset] [(.ref a1)])
      refine own_go (fun t k => XS.astoreN X22.here hx rfl (hb hby d_prog_35_method_4_13) rfl rfl (l' := #[.val (.ref a1), .val (.ref a2), .val (.ref a1)]) rfl k) ?_
      show Go _ _ _ _ _ T22 (mkF m 14 #[.val (.ref a1), .val (.ref a2), .val (.ref a1)] [])
      refine own_go (fun t k => XS.goto X22.here hx rfl (pc0 := 14) (pc' := 33) rfl (hb hby d_prog_35_method_4_14) (by decide) (by decide) k) ?_
      show Go _ _ _ _ _ T22 (mkF m 33 #[.val (.ref a1), .val (.ref a2), .val (.ref a1)] [])
      refine own_go (fun t k => XS.aloadN X22.here hx rfl (hb hby d_prog_35_method_4_33) rfl rfl k) ?_
      show Go _ _ _ _ _ T22 (mkF m 34 #[.val (.ref a1), .val (.ref a2), .val (.ref a1)] [(.ref a1)])
      refine own_retA X22 hx (own_lvN X22 hlk (by decide) (by decide)) hret rfl rfl (hb hby d_prog_35_method_4_34) ?_
      exact ⟨(by rw [← hr, own_f_rm2, if_neg ha21, if_pos ha23]; try rfl), N0, e22⟩
    · skip
      show Go _ _ _ _ _ T22 (mkF m 17 #[.val (.ref a1), .val (.ref a2), .unset] [])
      refine own_go (fun t k => XS.aloadN X22.here hx rfl (hb hby d_prog_35_method_4_17) rfl rfl k) ?_
      show Go _ _ _ _ _ T22 (mkF m 18 #[.val (.ref a1), .val (.ref a2), .unset] [(.ref a1)])
      obtain ⟨T24, X24, e24, st24⟩ := getS2 X22 hx hZ hown (host := "") (Or.inl (hw _ (List.mem_of_getElem? (i := 14) rfl))) Via.refl e22 S_COLLECTION (g := (mkF m 18 #[.val (.ref a1), .val (.ref a2), .unset] [(.ref a1)])) rfl (hb hby d_prog_35_method_4_18)
      refine own_go (fun t k => st24 t k) ?_
      show Go _ _ _ _ _ T24 (mkF m 21 #[.val (.ref a1), .val (.ref a2), .unset] [(.ref w_COLLECTION), (.ref a1)])
      refine own_acmp (a1 = w_COLLECTION) X24 hx rfl rfl (own_ref _ _) (hb hby d_prog_35_method_4_21) (by decide) (pcE := 24) (pcN := 29) (by decide) (by decide) (fun ha25 => ?_) (fun ha25 => ?_)
      · skip
        show Go _ _ _ _ _ T24 (mkF m 24 #[.val (.ref a1), .val (.ref a2), .unset] [])
        refine own_go (fun t k => XS.aloadN X24.here hx rfl (hb hby d_prog_35_method_4_24) rfl rfl k) ?_
        show Go _ _ _ _ _ T24 (mkF m 25 #[.val (.ref a1), .val (.ref a2), .unset] [(.ref a2)])
        refine own_go (fun t k => XS.astoreN X24.here hx rfl (hb hby d_prog_35_method_4_25) rfl rfl (l' := #[.val (.ref a1), .val (.ref a2), .val (.ref a2)]) rfl k) ?_
        show Go _ _ _ _ _ T24 (mkF m 26 #[.val (.ref a1), .val (.ref a2), .val (.ref a2)] [])
        refine own_go (fun t k => XS.goto X24.here hx rfl (pc0 := 26) (pc' := 33) rfl (hb hby d_prog_35_method_4_26) (by decide) (by decide) k) ?_
        show Go _ _ _ _ _ T24 (mkF m 33 #[.val (.ref a1), .val (.ref a2), .val (.ref a2)] [])
        refine own_go (fun t k => XS.aloadN X24.here hx rfl (hb hby d_prog_35_method_4_33) rfl rfl k) ?_
        show Go _ _ _ _ _ T24 (mkF m 34 #[.val (.ref a1), .val (.ref a2), .val (.ref a2)] [(.ref a2)])
        refine own_retA X24 hx (own_lvN X24 hlk (by decide) (by decide)) hret rfl rfl (hb hby d_prog_35_method_4_34) ?_
        exact ⟨(by rw [← hr, own_f_rm2, if_neg ha21, if_neg ha23, if_pos ha25]; try rfl), N0, e24⟩
      · skip
        show Go _ _ _ _ _ T24 (mkF m 29 #[.val (.ref a1), .val (.ref a2), .unset] [])
        obtain ⟨T26, X26, e26, st26⟩ := getS2 X24 hx hZ hown (host := "") (Or.inl (hw _ (List.mem_of_getElem? (i := 19) rfl))) Via.refl e24 S_POSTING (g := (mkF m 29 #[.val (.ref a1), .val (.ref a2), .unset] [])) rfl (hb hby d_prog_35_method_4_29)
        refine own_go (fun t k => st26 t k) ?_
        show Go _ _ _ _ _ T26 (mkF m 32 #[.val (.ref a1), .val (.ref a2), .unset] [(.ref w_POSTING)])
        refine own_go (fun t k => XS.astoreN X26.here hx rfl (hb hby d_prog_35_method_4_32) rfl rfl (l' := #[.val (.ref a1), .val (.ref a2), .val (.ref w_POSTING)]) rfl k) ?_
        show Go _ _ _ _ _ T26 (mkF m 33 #[.val (.ref a1), .val (.ref a2), .val (.ref w_POSTING)] [])
        refine own_go (fun t k => XS.aloadN X26.here hx rfl (hb hby d_prog_35_method_4_33) rfl rfl k) ?_
        show Go _ _ _ _ _ T26 (mkF m 34 #[.val (.ref a1), .val (.ref a2), .val (.ref w_POSTING)] [(.ref w_POSTING)])
        refine own_retA X26 hx (own_lvN X26 hlk (by decide) (by decide)) hret rfl rfl (hb hby d_prog_35_method_4_34) ?_
        exact ⟨(by rw [← hr, own_f_rm2, if_neg ha21, if_neg ha23, if_neg ha25]; try rfl), N0, e26⟩
theorem own_pd0 : parseMethodDescriptor "(I)Lcom/example/term_weight_evolver/termweightevolver/formula/Statistic$Scope;" = some ⟨[.int], some (.object "com/example/term_weight_evolver/termweightevolver/formula/Statistic$Scope")⟩ := by decide +kernel
theorem own_pd1 : parseMethodDescriptor "(Lcom/example/term_weight_evolver/termweightevolver/formula/Statistic$Scope;)Lcom/example/term_weight_evolver/termweightevolver/formula/Statistic$Scope;" = some ⟨[(.object "com/example/term_weight_evolver/termweightevolver/formula/Statistic$Scope")], some (.object "com/example/term_weight_evolver/termweightevolver/formula/Statistic$Scope")⟩ := by decide +kernel
theorem own_ef_rm0 (m : MethodId) (x0 : Int32) (x1 : Int32) : entryFrame m #[(.int x0), (.int x1)] maxLocals = mkF m 0 #[.val (.int x0), .val (.int x1), .unset, .unset, .unset, .unset, .unset] [] := by first | (simp [entryFrame, mkF, argsToLocals, Value.category, maxLocals]; done) | rfl
set_option maxRecDepth 65536 in
set_option maxHeartbeats 40000000 in
theorem rm0 (l : Launch) (Z : State) (a0 : Array Value) (hw : ∀ d ∈ tables_1, d.before a0 Z = true) (ws : List Jvm.Cond) (p1 : Int32) (p2 : Int32) (w_COLLECTION : Addr) (w_POSTING : Addr) (w_DOCUMENT : Addr) (w_TERM : Addr) (h0 : Heap) (n0 : Nat) (hn0 : n0 ≤ h0.size) (S_COLLECTION : Sta Z h0 "com/example/term_weight_evolver/termweightevolver/formula/Statistic$Scope" "COLLECTION" "Lcom/example/term_weight_evolver/termweightevolver/formula/Statistic$Scope;" (.ref w_COLLECTION)) (E_COLLECTION : Exa Z h0 w_COLLECTION "com/example/term_weight_evolver/termweightevolver/formula/Statistic$Scope") (O_COLLECTION_ordinal : Fld Z h0 w_COLLECTION "java/lang/Enum" "ordinal" "I" (.int (0 : Int32))) (S_POSTING : Sta Z h0 "com/example/term_weight_evolver/termweightevolver/formula/Statistic$Scope" "POSTING" "Lcom/example/term_weight_evolver/termweightevolver/formula/Statistic$Scope;" (.ref w_POSTING)) (E_POSTING : Exa Z h0 w_POSTING "com/example/term_weight_evolver/termweightevolver/formula/Statistic$Scope") (O_POSTING_ordinal : Fld Z h0 w_POSTING "java/lang/Enum" "ordinal" "I" (.int (3 : Int32))) (S_DOCUMENT : Sta Z h0 "com/example/term_weight_evolver/termweightevolver/formula/Statistic$Scope" "DOCUMENT" "Lcom/example/term_weight_evolver/termweightevolver/formula/Statistic$Scope;" (.ref w_DOCUMENT)) (E_DOCUMENT : Exa Z h0 w_DOCUMENT "com/example/term_weight_evolver/termweightevolver/formula/Statistic$Scope") (O_DOCUMENT_ordinal : Fld Z h0 w_DOCUMENT "java/lang/Enum" "ordinal" "I" (.int (2 : Int32))) (S_TERM : Sta Z h0 "com/example/term_weight_evolver/termweightevolver/formula/Statistic$Scope" "TERM" "Lcom/example/term_weight_evolver/termweightevolver/formula/Statistic$Scope;" (.ref w_TERM)) (E_TERM : Exa Z h0 w_TERM "com/example/term_weight_evolver/termweightevolver/formula/Statistic$Scope") (O_TERM_ordinal : Fld Z h0 w_TERM "java/lang/Enum" "ordinal" "I" (.int (1 : Int32))) :
    OwnMet l Z x code maxLocals ret ws room_1 #[(.int p1), (.int p2)] h0 (OwnR (some (.int 1)) n0) := by
  refine own_body (plainFor_of_name own_pn0) ?_
  intro p e s m below meth c s₁ X0 hx hby hml hret hlk hown0 hnm hZ e0 hs0
  have hown : s.vm.findClass "com/example/term_weight_evolver/termweightevolver/formula/ScopeWithPinLaw" = some m.cls := hown0
  have N0 := Fr.nil n0
  refine own_entry (own_ef_rm0 m p1 p2) ?_
  have D_w_COLLECTION_w_POSTING : ¬ w_COLLECTION = w_POSTING := own_ne_fld O_COLLECTION_ordinal O_POSTING_ordinal (by decide)
  have D_w_COLLECTION_w_DOCUMENT : ¬ w_COLLECTION = w_DOCUMENT := own_ne_fld O_COLLECTION_ordinal O_DOCUMENT_ordinal (by decide)
  have D_w_COLLECTION_w_TERM : ¬ w_COLLECTION = w_TERM := own_ne_fld O_COLLECTION_ordinal O_TERM_ordinal (by decide)
  have D_w_POSTING_w_DOCUMENT : ¬ w_POSTING = w_DOCUMENT := own_ne_fld O_POSTING_ordinal O_DOCUMENT_ordinal (by decide)
  have D_w_POSTING_w_TERM : ¬ w_POSTING = w_TERM := own_ne_fld O_POSTING_ordinal O_TERM_ordinal (by decide)
  have D_w_DOCUMENT_w_TERM : ¬ w_DOCUMENT = w_TERM := own_ne_fld O_DOCUMENT_ordinal O_TERM_ordinal (by decide)
  show Go _ _ _ _ _ s₁ (mkF m 0 #[.val (.int p1), .val (.int p2), .unset, .unset, .unset, .unset, .unset] [])
  refine own_go (fun t k => XS.iloadN X0.here hx rfl (hb hby at_0) rfl k) ?_
  show Go _ _ _ _ _ s₁ (mkF m 1 #[.val (.int p1), .val (.int p2), .unset, .unset, .unset, .unset, .unset] [(.int p1)])
  refine own_go (fun t k => XS.iconst X0.here hx rfl (hb hby at_1) k) ?_
  show Go _ _ _ _ _ s₁ (mkF m 2 #[.val (.int p1), .val (.int p2), .unset, .unset, .unset, .unset, .unset] [(.int (3 : Int32)), (.int p1)])
  refine own_go (fun t k => XS.iand X0.here hx rfl (hb hby at_2) rfl k) ?_
  show Go _ _ _ _ _ s₁ (mkF m 3 #[.val (.int p1), .val (.int p2), .unset, .unset, .unset, .unset, .unset] [(.int (p1 &&& (3 : Int32)))])
  refine own_go (fun t k => XS.istoreN X0.here hx rfl (hb hby at_3) rfl (l' := #[.val (.int p1), .val (.int p2), .val (.int (p1 &&& (3 : Int32))), .unset, .unset, .unset, .unset]) rfl k) ?_
  have hi := own_and3 p1
  generalize (p1 &&& (3 : Int32)) = i at hi ⊢
  rcases hi with rfl | rfl | rfl | rfl
  · skip
    show Go _ _ _ _ _ s₁ (mkF m 4 #[.val (.int p1), .val (.int p2), .val (.int (0 : Int32)), .unset, .unset, .unset, .unset] [])
    refine own_go (fun t k => XS.iloadN X0.here hx rfl (hb hby at_4) rfl k) ?_
    show Go _ _ _ _ _ s₁ (mkF m 5 #[.val (.int p1), .val (.int p2), .val (.int (0 : Int32)), .unset, .unset, .unset, .unset] [(.int p2)])
    refine own_go (fun t k => XS.iconst X0.here hx rfl (hb hby at_5) k) ?_
    show Go _ _ _ _ _ s₁ (mkF m 6 #[.val (.int p1), .val (.int p2), .val (.int (0 : Int32)), .unset, .unset, .unset, .unset] [(.int (3 : Int32)), (.int p2)])
    refine own_go (fun t k => XS.iand X0.here hx rfl (hb hby at_6) rfl k) ?_
    show Go _ _ _ _ _ s₁ (mkF m 7 #[.val (.int p1), .val (.int p2), .val (.int (0 : Int32)), .unset, .unset, .unset, .unset] [(.int (p2 &&& (3 : Int32)))])
    refine own_go (fun t k => XS.istoreN X0.here hx rfl (hb hby at_7) rfl (l' := #[.val (.int p1), .val (.int p2), .val (.int (0 : Int32)), .val (.int (p2 &&& (3 : Int32))), .unset, .unset, .unset]) rfl k) ?_
    have hi := own_and3 p2
    generalize (p2 &&& (3 : Int32)) = i at hi ⊢
    rcases hi with rfl | rfl | rfl | rfl
    · skip
      show Go _ _ _ _ _ s₁ (mkF m 8 #[.val (.int p1), .val (.int p2), .val (.int (0 : Int32)), .val (.int (0 : Int32)), .unset, .unset, .unset] [])
      refine own_go (fun t k => XS.iloadN X0.here hx rfl (hb hby at_8) rfl k) ?_
      show Go _ _ _ _ _ s₁ (mkF m 9 #[.val (.int p1), .val (.int p2), .val (.int (0 : Int32)), .val (.int (0 : Int32)), .unset, .unset, .unset] [(.int (0 : Int32))])
      refine own_callS X0 hx hZ (y := (⟨"com/example/term_weight_evolver/termweightevolver/formula/ScopeWithPinLaw", "of", "(I)Lcom/example/term_weight_evolver/termweightevolver/formula/Statistic$Scope;"⟩ : MethodName)) hown (hw _ (List.mem_of_getElem? (i := 0) rfl)) (hw _ (List.mem_of_getElem? (i := 1) rfl)) (hw _ (List.mem_of_getElem? (i := 2) rfl)) (hw _ (List.mem_of_getElem? (i := 3) rfl)) (by decide) (rm1 l Z a0 hw [] (0 : Int32) w_COLLECTION w_POSTING w_DOCUMENT w_TERM (.ref w_COLLECTION) h0 n0 hn0 S_COLLECTION S_POSTING S_DOCUMENT S_TERM (by rw [own_f_rm1, if_pos (show (0 : Int32) = (0 : Int32) from rfl)]; try first | rfl | decide)) e0 (by rw [hml]; rfl) (argsL := [(.int (0 : Int32))]) (rest := []) rfl rfl (lenOf own_pd0 rfl) (W := 0) (Nat.le_of_eq rfl) (by decide) (by decide) (hb hby at_9) (by decide) (by decide) ?_
      intro v27 T27 L27 X27 q27
      obtain ⟨rfl, N27q, e27⟩ := q27
      have N27 := Fr.app N0 N27q
      show Go _ _ _ _ _ T27 (mkF m 12 #[.val (.int p1), .val (.int p2), .val (.int (0 : Int32)), .val (.int (0 : Int32)), .unset, .unset, .unset] [(.ref w_COLLECTION)])
      refine own_go (fun t k => XS.astore X27.here hx rfl (hb hby at_12) rfl rfl (l' := #[.val (.int p1), .val (.int p2), .val (.int (0 : Int32)), .val (.int (0 : Int32)), .val (.ref w_COLLECTION), .unset, .unset]) rfl k) ?_
      show Go _ _ _ _ _ T27 (mkF m 14 #[.val (.int p1), .val (.int p2), .val (.int (0 : Int32)), .val (.int (0 : Int32)), .val (.ref w_COLLECTION), .unset, .unset] [])
      refine own_go (fun t k => XS.iloadN X27.here hx rfl (hb hby at_14) rfl k) ?_
      show Go _ _ _ _ _ T27 (mkF m 15 #[.val (.int p1), .val (.int p2), .val (.int (0 : Int32)), .val (.int (0 : Int32)), .val (.ref w_COLLECTION), .unset, .unset] [(.int (0 : Int32))])
      refine own_callS X27 hx hZ (y := (⟨"com/example/term_weight_evolver/termweightevolver/formula/ScopeWithPinLaw", "of", "(I)Lcom/example/term_weight_evolver/termweightevolver/formula/Statistic$Scope;"⟩ : MethodName)) hown (hw _ (List.mem_of_getElem? (i := 0) rfl)) (hw _ (List.mem_of_getElem? (i := 1) rfl)) (hw _ (List.mem_of_getElem? (i := 2) rfl)) (hw _ (List.mem_of_getElem? (i := 3) rfl)) (by decide) (rm1 l Z a0 hw [] (0 : Int32) w_COLLECTION w_POSTING w_DOCUMENT w_TERM (.ref w_COLLECTION) h0 n0 hn0 S_COLLECTION S_POSTING S_DOCUMENT S_TERM (by rw [own_f_rm1, if_pos (show (0 : Int32) = (0 : Int32) from rfl)]; try first | rfl | decide)) e27 (by rw [hml]; rfl) (argsL := [(.int (0 : Int32))]) (rest := []) rfl rfl (lenOf own_pd0 rfl) (W := 0) (Nat.le_of_eq rfl) (by decide) (by decide) (hb hby at_15) (by decide) (by decide) ?_
      intro v28 T28 L28 X28 q28
      obtain ⟨rfl, N28q, e28⟩ := q28
      have N28 := Fr.app N27 N28q
      show Go _ _ _ _ _ T28 (mkF m 18 #[.val (.int p1), .val (.int p2), .val (.int (0 : Int32)), .val (.int (0 : Int32)), .val (.ref w_COLLECTION), .unset, .unset] [(.ref w_COLLECTION)])
      refine own_go (fun t k => XS.astore X28.here hx rfl (hb hby at_18) rfl rfl (l' := #[.val (.int p1), .val (.int p2), .val (.int (0 : Int32)), .val (.int (0 : Int32)), .val (.ref w_COLLECTION), .val (.ref w_COLLECTION), .unset]) rfl k) ?_
      show Go _ _ _ _ _ T28 (mkF m 20 #[.val (.int p1), .val (.int p2), .val (.int (0 : Int32)), .val (.int (0 : Int32)), .val (.ref w_COLLECTION), .val (.ref w_COLLECTION), .unset] [])
      refine own_go (fun t k => XS.aload X28.here hx rfl (hb hby at_20) rfl rfl k) ?_
      show Go _ _ _ _ _ T28 (mkF m 22 #[.val (.int p1), .val (.int p2), .val (.int (0 : Int32)), .val (.int (0 : Int32)), .val (.ref w_COLLECTION), .val (.ref w_COLLECTION), .unset] [(.ref w_COLLECTION)])
      refine own_go (fun t k => XS.aload X28.here hx rfl (hb hby at_22) rfl rfl k) ?_
      show Go _ _ _ _ _ T28 (mkF m 24 #[.val (.int p1), .val (.int p2), .val (.int (0 : Int32)), .val (.int (0 : Int32)), .val (.ref w_COLLECTION), .val (.ref w_COLLECTION), .unset] [(.ref w_COLLECTION), (.ref w_COLLECTION)])
      refine own_callV X28 hx hZ (y := (⟨"com/example/term_weight_evolver/termweightevolver/formula/Statistic$Scope", "with", "(Lcom/example/term_weight_evolver/termweightevolver/formula/Statistic$Scope;)Lcom/example/term_weight_evolver/termweightevolver/formula/Statistic$Scope;"⟩ : MethodName)) hown (hw _ (List.mem_of_getElem? (i := 9) rfl)) (hw _ (List.mem_of_getElem? (i := 10) rfl)) (hw _ (List.mem_of_getElem? (i := 12) rfl)) (hw _ (List.mem_of_getElem? (i := 11) rfl)) (hw _ (List.mem_of_getElem? (i := 13) rfl)) (hw _ (List.mem_of_getElem? (i := 5) rfl)) (by decide) (rm2 l Z a0 hw [] w_COLLECTION w_COLLECTION w_COLLECTION w_POSTING w_DOCUMENT w_TERM (.ref w_COLLECTION) h0 n0 hn0 S_COLLECTION S_POSTING S_DOCUMENT S_TERM (by rw [own_f_rm2, if_pos (show w_COLLECTION = w_COLLECTION from rfl)]; try first | rfl | decide)) e28 E_COLLECTION (by rw [hml]; rfl) (argsL := [(.ref w_COLLECTION)]) (rest := []) rfl rfl (lenOf own_pd1 rfl) (W := 0) (Nat.le_of_eq rfl) (by decide) (by decide) (hb hby at_24) (by decide) (by decide) ?_
      intro v29 T29 L29 X29 q29
      obtain ⟨rfl, N29q, e29⟩ := q29
      have N29 := Fr.app N28 N29q
      show Go _ _ _ _ _ T29 (mkF m 27 #[.val (.int p1), .val (.int p2), .val (.int (0 : Int32)), .val (.int (0 : Int32)), .val (.ref w_COLLECTION), .val (.ref w_COLLECTION), .unset] [(.ref w_COLLECTION)])
      refine own_go (fun t k => XS.astore X29.here hx rfl (hb hby at_27) rfl rfl (l' := #[.val (.int p1), .val (.int p2), .val (.int (0 : Int32)), .val (.int (0 : Int32)), .val (.ref w_COLLECTION), .val (.ref w_COLLECTION), .val (.ref w_COLLECTION)]) rfl k) ?_
      show Go _ _ _ _ _ T29 (mkF m 29 #[.val (.int p1), .val (.int p2), .val (.int (0 : Int32)), .val (.int (0 : Int32)), .val (.ref w_COLLECTION), .val (.ref w_COLLECTION), .val (.ref w_COLLECTION)] [])
      refine own_go (fun t k => XS.aload X29.here hx rfl (hb hby at_29) rfl rfl k) ?_
      show Go _ _ _ _ _ T29 (mkF m 31 #[.val (.int p1), .val (.int p2), .val (.int (0 : Int32)), .val (.int (0 : Int32)), .val (.ref w_COLLECTION), .val (.ref w_COLLECTION), .val (.ref w_COLLECTION)] [(.ref w_COLLECTION)])
      refine own_go (fun t k => XS.iloadN X29.here hx rfl (hb hby at_31) rfl k) ?_
      show Go _ _ _ _ _ T29 (mkF m 32 #[.val (.int p1), .val (.int p2), .val (.int (0 : Int32)), .val (.int (0 : Int32)), .val (.ref w_COLLECTION), .val (.ref w_COLLECTION), .val (.ref w_COLLECTION)] [(.int (0 : Int32)), (.ref w_COLLECTION)])
      refine own_go (fun t k => XS.iloadN X29.here hx rfl (hb hby at_32) rfl k) ?_
      show Go _ _ _ _ _ T29 (mkF m 33 #[.val (.int p1), .val (.int p2), .val (.int (0 : Int32)), .val (.int (0 : Int32)), .val (.ref w_COLLECTION), .val (.ref w_COLLECTION), .val (.ref w_COLLECTION)] [(.int (0 : Int32)), (.int (0 : Int32)), (.ref w_COLLECTION)])
      refine own_go (fun t k => XS.ior X29.here hx rfl (hb hby at_33) rfl k) ?_
      show Go _ _ _ _ _ T29 (mkF m 34 #[.val (.int p1), .val (.int p2), .val (.int (0 : Int32)), .val (.int (0 : Int32)), .val (.ref w_COLLECTION), .val (.ref w_COLLECTION), .val (.ref w_COLLECTION)] [(.int (0 : Int32)), (.ref w_COLLECTION)])
      refine own_callS X29 hx hZ (y := (⟨"com/example/term_weight_evolver/termweightevolver/formula/ScopeWithPinLaw", "of", "(I)Lcom/example/term_weight_evolver/termweightevolver/formula/Statistic$Scope;"⟩ : MethodName)) hown (hw _ (List.mem_of_getElem? (i := 0) rfl)) (hw _ (List.mem_of_getElem? (i := 1) rfl)) (hw _ (List.mem_of_getElem? (i := 2) rfl)) (hw _ (List.mem_of_getElem? (i := 3) rfl)) (by decide) (rm1 l Z a0 hw [] (0 : Int32) w_COLLECTION w_POSTING w_DOCUMENT w_TERM (.ref w_COLLECTION) h0 n0 hn0 S_COLLECTION S_POSTING S_DOCUMENT S_TERM (by rw [own_f_rm1, if_pos (show (0 : Int32) = (0 : Int32) from rfl)]; try first | rfl | decide)) e29 (by rw [hml]; rfl) (argsL := [(.int (0 : Int32))]) (rest := [(.ref w_COLLECTION)]) rfl rfl (lenOf own_pd0 rfl) (W := 1) (Nat.le_of_eq rfl) (by decide) (by decide) (hb hby at_34) (by decide) (by decide) ?_
      intro v30 T30 L30 X30 q30
      obtain ⟨rfl, N30q, e30⟩ := q30
      have N30 := Fr.app N29 N30q
      show Go _ _ _ _ _ T30 (mkF m 37 #[.val (.int p1), .val (.int p2), .val (.int (0 : Int32)), .val (.int (0 : Int32)), .val (.ref w_COLLECTION), .val (.ref w_COLLECTION), .val (.ref w_COLLECTION)] [(.ref w_COLLECTION), (.ref w_COLLECTION)])
      refine own_go (fun t k => Jvm.RoadKit.acmp (g := (mkF m 37 #[.val (.int p1), .val (.int p2), .val (.int (0 : Int32)), .val (.int (0 : Int32)), .val (.ref w_COLLECTION), .val (.ref w_COLLECTION), .val (.ref w_COLLECTION)] [(.ref w_COLLECTION), (.ref w_COLLECTION)])) X30 hx rfl rfl rfl (pc0 := 37) (pc' := 40) (same := true) rfl (hb hby at_37) rfl (decide_eq_true rfl) (by decide) (by decide) k) ?_
      show Go _ _ _ _ _ T30 (mkF m 40 #[.val (.int p1), .val (.int p2), .val (.int (0 : Int32)), .val (.int (0 : Int32)), .val (.ref w_COLLECTION), .val (.ref w_COLLECTION), .val (.ref w_COLLECTION)] [])
      refine own_go (fun t k => XS.iconst X30.here hx rfl (hb hby at_40) k) ?_
      show Go _ _ _ _ _ T30 (mkF m 41 #[.val (.int p1), .val (.int p2), .val (.int (0 : Int32)), .val (.int (0 : Int32)), .val (.ref w_COLLECTION), .val (.ref w_COLLECTION), .val (.ref w_COLLECTION)] [(.int (1 : Int32))])
      refine own_go (fun t k => XS.goto X30.here hx rfl (pc0 := 41) (pc' := 45) rfl (hb hby at_41) (by decide) (by decide) k) ?_
      show Go _ _ _ _ _ T30 (mkF m 45 #[.val (.int p1), .val (.int p2), .val (.int (0 : Int32)), .val (.int (0 : Int32)), .val (.ref w_COLLECTION), .val (.ref w_COLLECTION), .val (.ref w_COLLECTION)] [(.int (1 : Int32))])
      refine own_retN X30 hx (own_lvN X30 hlk (by decide) (by decide)) (t := .boolean) hret (by simp) (hb hby at_45) ?_
      exact ⟨rfl, N30⟩
    · skip
      show Go _ _ _ _ _ s₁ (mkF m 8 #[.val (.int p1), .val (.int p2), .val (.int (0 : Int32)), .val (.int (1 : Int32)), .unset, .unset, .unset] [])
      refine own_go (fun t k => XS.iloadN X0.here hx rfl (hb hby at_8) rfl k) ?_
      show Go _ _ _ _ _ s₁ (mkF m 9 #[.val (.int p1), .val (.int p2), .val (.int (0 : Int32)), .val (.int (1 : Int32)), .unset, .unset, .unset] [(.int (0 : Int32))])
      refine own_callS X0 hx hZ (y := (⟨"com/example/term_weight_evolver/termweightevolver/formula/ScopeWithPinLaw", "of", "(I)Lcom/example/term_weight_evolver/termweightevolver/formula/Statistic$Scope;"⟩ : MethodName)) hown (hw _ (List.mem_of_getElem? (i := 0) rfl)) (hw _ (List.mem_of_getElem? (i := 1) rfl)) (hw _ (List.mem_of_getElem? (i := 2) rfl)) (hw _ (List.mem_of_getElem? (i := 3) rfl)) (by decide) (rm1 l Z a0 hw [] (0 : Int32) w_COLLECTION w_POSTING w_DOCUMENT w_TERM (.ref w_COLLECTION) h0 n0 hn0 S_COLLECTION S_POSTING S_DOCUMENT S_TERM (by rw [own_f_rm1, if_pos (show (0 : Int32) = (0 : Int32) from rfl)]; try first | rfl | decide)) e0 (by rw [hml]; rfl) (argsL := [(.int (0 : Int32))]) (rest := []) rfl rfl (lenOf own_pd0 rfl) (W := 0) (Nat.le_of_eq rfl) (by decide) (by decide) (hb hby at_9) (by decide) (by decide) ?_
      intro v31 T31 L31 X31 q31
      obtain ⟨rfl, N31q, e31⟩ := q31
      have N31 := Fr.app N0 N31q
      show Go _ _ _ _ _ T31 (mkF m 12 #[.val (.int p1), .val (.int p2), .val (.int (0 : Int32)), .val (.int (1 : Int32)), .unset, .unset, .unset] [(.ref w_COLLECTION)])
      refine own_go (fun t k => XS.astore X31.here hx rfl (hb hby at_12) rfl rfl (l' := #[.val (.int p1), .val (.int p2), .val (.int (0 : Int32)), .val (.int (1 : Int32)), .val (.ref w_COLLECTION), .unset, .unset]) rfl k) ?_
      show Go _ _ _ _ _ T31 (mkF m 14 #[.val (.int p1), .val (.int p2), .val (.int (0 : Int32)), .val (.int (1 : Int32)), .val (.ref w_COLLECTION), .unset, .unset] [])
      refine own_go (fun t k => XS.iloadN X31.here hx rfl (hb hby at_14) rfl k) ?_
      show Go _ _ _ _ _ T31 (mkF m 15 #[.val (.int p1), .val (.int p2), .val (.int (0 : Int32)), .val (.int (1 : Int32)), .val (.ref w_COLLECTION), .unset, .unset] [(.int (1 : Int32))])
      refine own_callS X31 hx hZ (y := (⟨"com/example/term_weight_evolver/termweightevolver/formula/ScopeWithPinLaw", "of", "(I)Lcom/example/term_weight_evolver/termweightevolver/formula/Statistic$Scope;"⟩ : MethodName)) hown (hw _ (List.mem_of_getElem? (i := 0) rfl)) (hw _ (List.mem_of_getElem? (i := 1) rfl)) (hw _ (List.mem_of_getElem? (i := 2) rfl)) (hw _ (List.mem_of_getElem? (i := 3) rfl)) (by decide) (rm1 l Z a0 hw [] (1 : Int32) w_COLLECTION w_POSTING w_DOCUMENT w_TERM (.ref w_TERM) h0 n0 hn0 S_COLLECTION S_POSTING S_DOCUMENT S_TERM (by rw [own_f_rm1, if_neg (show ¬ ((1 : Int32) = (0 : Int32)) by decide), if_pos (show (1 : Int32) = (1 : Int32) from rfl)]; try first | rfl | decide)) e31 (by rw [hml]; rfl) (argsL := [(.int (1 : Int32))]) (rest := []) rfl rfl (lenOf own_pd0 rfl) (W := 0) (Nat.le_of_eq rfl) (by decide) (by decide) (hb hby at_15) (by decide) (by decide) ?_
      intro v32 T32 L32 X32 q32
      obtain ⟨rfl, N32q, e32⟩ := q32
      have N32 := Fr.app N31 N32q
      show Go _ _ _ _ _ T32 (mkF m 18 #[.val (.int p1), .val (.int p2), .val (.int (0 : Int32)), .val (.int (1 : Int32)), .val (.ref w_COLLECTION), .unset, .unset] [(.ref w_TERM)])
      refine own_go (fun t k => XS.astore X32.here hx rfl (hb hby at_18) rfl rfl (l' := #[.val (.int p1), .val (.int p2), .val (.int (0 : Int32)), .val (.int (1 : Int32)), .val (.ref w_COLLECTION), .val (.ref w_TERM), .unset]) rfl k) ?_
      show Go _ _ _ _ _ T32 (mkF m 20 #[.val (.int p1), .val (.int p2), .val (.int (0 : Int32)), .val (.int (1 : Int32)), .val (.ref w_COLLECTION), .val (.ref w_TERM), .unset] [])
      refine own_go (fun t k => XS.aload X32.here hx rfl (hb hby at_20) rfl rfl k) ?_
      show Go _ _ _ _ _ T32 (mkF m 22 #[.val (.int p1), .val (.int p2), .val (.int (0 : Int32)), .val (.int (1 : Int32)), .val (.ref w_COLLECTION), .val (.ref w_TERM), .unset] [(.ref w_COLLECTION)])
      refine own_go (fun t k => XS.aload X32.here hx rfl (hb hby at_22) rfl rfl k) ?_
      show Go _ _ _ _ _ T32 (mkF m 24 #[.val (.int p1), .val (.int p2), .val (.int (0 : Int32)), .val (.int (1 : Int32)), .val (.ref w_COLLECTION), .val (.ref w_TERM), .unset] [(.ref w_TERM), (.ref w_COLLECTION)])
      refine own_callV X32 hx hZ (y := (⟨"com/example/term_weight_evolver/termweightevolver/formula/Statistic$Scope", "with", "(Lcom/example/term_weight_evolver/termweightevolver/formula/Statistic$Scope;)Lcom/example/term_weight_evolver/termweightevolver/formula/Statistic$Scope;"⟩ : MethodName)) hown (hw _ (List.mem_of_getElem? (i := 9) rfl)) (hw _ (List.mem_of_getElem? (i := 10) rfl)) (hw _ (List.mem_of_getElem? (i := 12) rfl)) (hw _ (List.mem_of_getElem? (i := 11) rfl)) (hw _ (List.mem_of_getElem? (i := 13) rfl)) (hw _ (List.mem_of_getElem? (i := 5) rfl)) (by decide) (rm2 l Z a0 hw [] w_COLLECTION w_TERM w_COLLECTION w_POSTING w_DOCUMENT w_TERM (.ref w_TERM) h0 n0 hn0 S_COLLECTION S_POSTING S_DOCUMENT S_TERM (by rw [own_f_rm2, if_neg (fun q => D_w_COLLECTION_w_TERM q.symm), if_neg (fun q => D_w_COLLECTION_w_TERM q.symm), if_pos (show w_COLLECTION = w_COLLECTION from rfl)]; try first | rfl | decide)) e32 E_COLLECTION (by rw [hml]; rfl) (argsL := [(.ref w_TERM)]) (rest := []) rfl rfl (lenOf own_pd1 rfl) (W := 0) (Nat.le_of_eq rfl) (by decide) (by decide) (hb hby at_24) (by decide) (by decide) ?_
      intro v33 T33 L33 X33 q33
      obtain ⟨rfl, N33q, e33⟩ := q33
      have N33 := Fr.app N32 N33q
      show Go _ _ _ _ _ T33 (mkF m 27 #[.val (.int p1), .val (.int p2), .val (.int (0 : Int32)), .val (.int (1 : Int32)), .val (.ref w_COLLECTION), .val (.ref w_TERM), .unset] [(.ref w_TERM)])
      refine own_go (fun t k => XS.astore X33.here hx rfl (hb hby at_27) rfl rfl (l' := #[.val (.int p1), .val (.int p2), .val (.int (0 : Int32)), .val (.int (1 : Int32)), .val (.ref w_COLLECTION), .val (.ref w_TERM), .val (.ref w_TERM)]) rfl k) ?_
      show Go _ _ _ _ _ T33 (mkF m 29 #[.val (.int p1), .val (.int p2), .val (.int (0 : Int32)), .val (.int (1 : Int32)), .val (.ref w_COLLECTION), .val (.ref w_TERM), .val (.ref w_TERM)] [])
      refine own_go (fun t k => XS.aload X33.here hx rfl (hb hby at_29) rfl rfl k) ?_
      show Go _ _ _ _ _ T33 (mkF m 31 #[.val (.int p1), .val (.int p2), .val (.int (0 : Int32)), .val (.int (1 : Int32)), .val (.ref w_COLLECTION), .val (.ref w_TERM), .val (.ref w_TERM)] [(.ref w_TERM)])
      refine own_go (fun t k => XS.iloadN X33.here hx rfl (hb hby at_31) rfl k) ?_
      show Go _ _ _ _ _ T33 (mkF m 32 #[.val (.int p1), .val (.int p2), .val (.int (0 : Int32)), .val (.int (1 : Int32)), .val (.ref w_COLLECTION), .val (.ref w_TERM), .val (.ref w_TERM)] [(.int (0 : Int32)), (.ref w_TERM)])
      refine own_go (fun t k => XS.iloadN X33.here hx rfl (hb hby at_32) rfl k) ?_
      show Go _ _ _ _ _ T33 (mkF m 33 #[.val (.int p1), .val (.int p2), .val (.int (0 : Int32)), .val (.int (1 : Int32)), .val (.ref w_COLLECTION), .val (.ref w_TERM), .val (.ref w_TERM)] [(.int (1 : Int32)), (.int (0 : Int32)), (.ref w_TERM)])
      refine own_go (fun t k => XS.ior X33.here hx rfl (hb hby at_33) rfl k) ?_
      show Go _ _ _ _ _ T33 (mkF m 34 #[.val (.int p1), .val (.int p2), .val (.int (0 : Int32)), .val (.int (1 : Int32)), .val (.ref w_COLLECTION), .val (.ref w_TERM), .val (.ref w_TERM)] [(.int (1 : Int32)), (.ref w_TERM)])
      refine own_callS X33 hx hZ (y := (⟨"com/example/term_weight_evolver/termweightevolver/formula/ScopeWithPinLaw", "of", "(I)Lcom/example/term_weight_evolver/termweightevolver/formula/Statistic$Scope;"⟩ : MethodName)) hown (hw _ (List.mem_of_getElem? (i := 0) rfl)) (hw _ (List.mem_of_getElem? (i := 1) rfl)) (hw _ (List.mem_of_getElem? (i := 2) rfl)) (hw _ (List.mem_of_getElem? (i := 3) rfl)) (by decide) (rm1 l Z a0 hw [] (1 : Int32) w_COLLECTION w_POSTING w_DOCUMENT w_TERM (.ref w_TERM) h0 n0 hn0 S_COLLECTION S_POSTING S_DOCUMENT S_TERM (by rw [own_f_rm1, if_neg (show ¬ ((1 : Int32) = (0 : Int32)) by decide), if_pos (show (1 : Int32) = (1 : Int32) from rfl)]; try first | rfl | decide)) e33 (by rw [hml]; rfl) (argsL := [(.int (1 : Int32))]) (rest := [(.ref w_TERM)]) rfl rfl (lenOf own_pd0 rfl) (W := 1) (Nat.le_of_eq rfl) (by decide) (by decide) (hb hby at_34) (by decide) (by decide) ?_
      intro v34 T34 L34 X34 q34
      obtain ⟨rfl, N34q, e34⟩ := q34
      have N34 := Fr.app N33 N34q
      show Go _ _ _ _ _ T34 (mkF m 37 #[.val (.int p1), .val (.int p2), .val (.int (0 : Int32)), .val (.int (1 : Int32)), .val (.ref w_COLLECTION), .val (.ref w_TERM), .val (.ref w_TERM)] [(.ref w_TERM), (.ref w_TERM)])
      refine own_go (fun t k => Jvm.RoadKit.acmp (g := (mkF m 37 #[.val (.int p1), .val (.int p2), .val (.int (0 : Int32)), .val (.int (1 : Int32)), .val (.ref w_COLLECTION), .val (.ref w_TERM), .val (.ref w_TERM)] [(.ref w_TERM), (.ref w_TERM)])) X34 hx rfl rfl rfl (pc0 := 37) (pc' := 40) (same := true) rfl (hb hby at_37) rfl (decide_eq_true rfl) (by decide) (by decide) k) ?_
      show Go _ _ _ _ _ T34 (mkF m 40 #[.val (.int p1), .val (.int p2), .val (.int (0 : Int32)), .val (.int (1 : Int32)), .val (.ref w_COLLECTION), .val (.ref w_TERM), .val (.ref w_TERM)] [])
      refine own_go (fun t k => XS.iconst X34.here hx rfl (hb hby at_40) k) ?_
      show Go _ _ _ _ _ T34 (mkF m 41 #[.val (.int p1), .val (.int p2), .val (.int (0 : Int32)), .val (.int (1 : Int32)), .val (.ref w_COLLECTION), .val (.ref w_TERM), .val (.ref w_TERM)] [(.int (1 : Int32))])
      refine own_go (fun t k => XS.goto X34.here hx rfl (pc0 := 41) (pc' := 45) rfl (hb hby at_41) (by decide) (by decide) k) ?_
      show Go _ _ _ _ _ T34 (mkF m 45 #[.val (.int p1), .val (.int p2), .val (.int (0 : Int32)), .val (.int (1 : Int32)), .val (.ref w_COLLECTION), .val (.ref w_TERM), .val (.ref w_TERM)] [(.int (1 : Int32))])
      refine own_retN X34 hx (own_lvN X34 hlk (by decide) (by decide)) (t := .boolean) hret (by simp) (hb hby at_45) ?_
      exact ⟨rfl, N34⟩
    · skip
      show Go _ _ _ _ _ s₁ (mkF m 8 #[.val (.int p1), .val (.int p2), .val (.int (0 : Int32)), .val (.int (2 : Int32)), .unset, .unset, .unset] [])
      refine own_go (fun t k => XS.iloadN X0.here hx rfl (hb hby at_8) rfl k) ?_
      show Go _ _ _ _ _ s₁ (mkF m 9 #[.val (.int p1), .val (.int p2), .val (.int (0 : Int32)), .val (.int (2 : Int32)), .unset, .unset, .unset] [(.int (0 : Int32))])
      refine own_callS X0 hx hZ (y := (⟨"com/example/term_weight_evolver/termweightevolver/formula/ScopeWithPinLaw", "of", "(I)Lcom/example/term_weight_evolver/termweightevolver/formula/Statistic$Scope;"⟩ : MethodName)) hown (hw _ (List.mem_of_getElem? (i := 0) rfl)) (hw _ (List.mem_of_getElem? (i := 1) rfl)) (hw _ (List.mem_of_getElem? (i := 2) rfl)) (hw _ (List.mem_of_getElem? (i := 3) rfl)) (by decide) (rm1 l Z a0 hw [] (0 : Int32) w_COLLECTION w_POSTING w_DOCUMENT w_TERM (.ref w_COLLECTION) h0 n0 hn0 S_COLLECTION S_POSTING S_DOCUMENT S_TERM (by rw [own_f_rm1, if_pos (show (0 : Int32) = (0 : Int32) from rfl)]; try first | rfl | decide)) e0 (by rw [hml]; rfl) (argsL := [(.int (0 : Int32))]) (rest := []) rfl rfl (lenOf own_pd0 rfl) (W := 0) (Nat.le_of_eq rfl) (by decide) (by decide) (hb hby at_9) (by decide) (by decide) ?_
      intro v35 T35 L35 X35 q35
      obtain ⟨rfl, N35q, e35⟩ := q35
      have N35 := Fr.app N0 N35q
      show Go _ _ _ _ _ T35 (mkF m 12 #[.val (.int p1), .val (.int p2), .val (.int (0 : Int32)), .val (.int (2 : Int32)), .unset, .unset, .unset] [(.ref w_COLLECTION)])
      refine own_go (fun t k => XS.astore X35.here hx rfl (hb hby at_12) rfl rfl (l' := #[.val (.int p1), .val (.int p2), .val (.int (0 : Int32)), .val (.int (2 : Int32)), .val (.ref w_COLLECTION), .unset, .unset]) rfl k) ?_
      show Go _ _ _ _ _ T35 (mkF m 14 #[.val (.int p1), .val (.int p2), .val (.int (0 : Int32)), .val (.int (2 : Int32)), .val (.ref w_COLLECTION), .unset, .unset] [])
      refine own_go (fun t k => XS.iloadN X35.here hx rfl (hb hby at_14) rfl k) ?_
      show Go _ _ _ _ _ T35 (mkF m 15 #[.val (.int p1), .val (.int p2), .val (.int (0 : Int32)), .val (.int (2 : Int32)), .val (.ref w_COLLECTION), .unset, .unset] [(.int (2 : Int32))])
      refine own_callS X35 hx hZ (y := (⟨"com/example/term_weight_evolver/termweightevolver/formula/ScopeWithPinLaw", "of", "(I)Lcom/example/term_weight_evolver/termweightevolver/formula/Statistic$Scope;"⟩ : MethodName)) hown (hw _ (List.mem_of_getElem? (i := 0) rfl)) (hw _ (List.mem_of_getElem? (i := 1) rfl)) (hw _ (List.mem_of_getElem? (i := 2) rfl)) (hw _ (List.mem_of_getElem? (i := 3) rfl)) (by decide) (rm1 l Z a0 hw [] (2 : Int32) w_COLLECTION w_POSTING w_DOCUMENT w_TERM (.ref w_DOCUMENT) h0 n0 hn0 S_COLLECTION S_POSTING S_DOCUMENT S_TERM (by rw [own_f_rm1, if_neg (show ¬ ((2 : Int32) = (0 : Int32)) by decide), if_neg (show ¬ ((2 : Int32) = (1 : Int32)) by decide), if_pos (show (2 : Int32) = (2 : Int32) from rfl)]; try first | rfl | decide)) e35 (by rw [hml]; rfl) (argsL := [(.int (2 : Int32))]) (rest := []) rfl rfl (lenOf own_pd0 rfl) (W := 0) (Nat.le_of_eq rfl) (by decide) (by decide) (hb hby at_15) (by decide) (by decide) ?_
      intro v36 T36 L36 X36 q36
      obtain ⟨rfl, N36q, e36⟩ := q36
      have N36 := Fr.app N35 N36q
      show Go _ _ _ _ _ T36 (mkF m 18 #[.val (.int p1), .val (.int p2), .val (.int (0 : Int32)), .val (.int (2 : Int32)), .val (.ref w_COLLECTION), .unset, .unset] [(.ref w_DOCUMENT)])
      refine own_go (fun t k => XS.astore X36.here hx rfl (hb hby at_18) rfl rfl (l' := #[.val (.int p1), .val (.int p2), .val (.int (0 : Int32)), .val (.int (2 : Int32)), .val (.ref w_COLLECTION), .val (.ref w_DOCUMENT), .unset]) rfl k) ?_
      show Go _ _ _ _ _ T36 (mkF m 20 #[.val (.int p1), .val (.int p2), .val (.int (0 : Int32)), .val (.int (2 : Int32)), .val (.ref w_COLLECTION), .val (.ref w_DOCUMENT), .unset] [])
      refine own_go (fun t k => XS.aload X36.here hx rfl (hb hby at_20) rfl rfl k) ?_
      show Go _ _ _ _ _ T36 (mkF m 22 #[.val (.int p1), .val (.int p2), .val (.int (0 : Int32)), .val (.int (2 : Int32)), .val (.ref w_COLLECTION), .val (.ref w_DOCUMENT), .unset] [(.ref w_COLLECTION)])
      refine own_go (fun t k => XS.aload X36.here hx rfl (hb hby at_22) rfl rfl k) ?_
      show Go _ _ _ _ _ T36 (mkF m 24 #[.val (.int p1), .val (.int p2), .val (.int (0 : Int32)), .val (.int (2 : Int32)), .val (.ref w_COLLECTION), .val (.ref w_DOCUMENT), .unset] [(.ref w_DOCUMENT), (.ref w_COLLECTION)])
      refine own_callV X36 hx hZ (y := (⟨"com/example/term_weight_evolver/termweightevolver/formula/Statistic$Scope", "with", "(Lcom/example/term_weight_evolver/termweightevolver/formula/Statistic$Scope;)Lcom/example/term_weight_evolver/termweightevolver/formula/Statistic$Scope;"⟩ : MethodName)) hown (hw _ (List.mem_of_getElem? (i := 9) rfl)) (hw _ (List.mem_of_getElem? (i := 10) rfl)) (hw _ (List.mem_of_getElem? (i := 12) rfl)) (hw _ (List.mem_of_getElem? (i := 11) rfl)) (hw _ (List.mem_of_getElem? (i := 13) rfl)) (hw _ (List.mem_of_getElem? (i := 5) rfl)) (by decide) (rm2 l Z a0 hw [] w_COLLECTION w_DOCUMENT w_COLLECTION w_POSTING w_DOCUMENT w_TERM (.ref w_DOCUMENT) h0 n0 hn0 S_COLLECTION S_POSTING S_DOCUMENT S_TERM (by rw [own_f_rm2, if_neg (fun q => D_w_COLLECTION_w_DOCUMENT q.symm), if_neg (fun q => D_w_COLLECTION_w_DOCUMENT q.symm), if_pos (show w_COLLECTION = w_COLLECTION from rfl)]; try first | rfl | decide)) e36 E_COLLECTION (by rw [hml]; rfl) (argsL := [(.ref w_DOCUMENT)]) (rest := []) rfl rfl (lenOf own_pd1 rfl) (W := 0) (Nat.le_of_eq rfl) (by decide) (by decide) (hb hby at_24) (by decide) (by decide) ?_
      intro v37 T37 L37 X37 q37
      obtain ⟨rfl, N37q, e37⟩ := q37
      have N37 := Fr.app N36 N37q
      show Go _ _ _ _ _ T37 (mkF m 27 #[.val (.int p1), .val (.int p2), .val (.int (0 : Int32)), .val (.int (2 : Int32)), .val (.ref w_COLLECTION), .val (.ref w_DOCUMENT), .unset] [(.ref w_DOCUMENT)])
      refine own_go (fun t k => XS.astore X37.here hx rfl (hb hby at_27) rfl rfl (l' := #[.val (.int p1), .val (.int p2), .val (.int (0 : Int32)), .val (.int (2 : Int32)), .val (.ref w_COLLECTION), .val (.ref w_DOCUMENT), .val (.ref w_DOCUMENT)]) rfl k) ?_
      show Go _ _ _ _ _ T37 (mkF m 29 #[.val (.int p1), .val (.int p2), .val (.int (0 : Int32)), .val (.int (2 : Int32)), .val (.ref w_COLLECTION), .val (.ref w_DOCUMENT), .val (.ref w_DOCUMENT)] [])
      refine own_go (fun t k => XS.aload X37.here hx rfl (hb hby at_29) rfl rfl k) ?_
      show Go _ _ _ _ _ T37 (mkF m 31 #[.val (.int p1), .val (.int p2), .val (.int (0 : Int32)), .val (.int (2 : Int32)), .val (.ref w_COLLECTION), .val (.ref w_DOCUMENT), .val (.ref w_DOCUMENT)] [(.ref w_DOCUMENT)])
      refine own_go (fun t k => XS.iloadN X37.here hx rfl (hb hby at_31) rfl k) ?_
      show Go _ _ _ _ _ T37 (mkF m 32 #[.val (.int p1), .val (.int p2), .val (.int (0 : Int32)), .val (.int (2 : Int32)), .val (.ref w_COLLECTION), .val (.ref w_DOCUMENT), .val (.ref w_DOCUMENT)] [(.int (0 : Int32)), (.ref w_DOCUMENT)])
      refine own_go (fun t k => XS.iloadN X37.here hx rfl (hb hby at_32) rfl k) ?_
      show Go _ _ _ _ _ T37 (mkF m 33 #[.val (.int p1), .val (.int p2), .val (.int (0 : Int32)), .val (.int (2 : Int32)), .val (.ref w_COLLECTION), .val (.ref w_DOCUMENT), .val (.ref w_DOCUMENT)] [(.int (2 : Int32)), (.int (0 : Int32)), (.ref w_DOCUMENT)])
      refine own_go (fun t k => XS.ior X37.here hx rfl (hb hby at_33) rfl k) ?_
      show Go _ _ _ _ _ T37 (mkF m 34 #[.val (.int p1), .val (.int p2), .val (.int (0 : Int32)), .val (.int (2 : Int32)), .val (.ref w_COLLECTION), .val (.ref w_DOCUMENT), .val (.ref w_DOCUMENT)] [(.int (2 : Int32)), (.ref w_DOCUMENT)])
      refine own_callS X37 hx hZ (y := (⟨"com/example/term_weight_evolver/termweightevolver/formula/ScopeWithPinLaw", "of", "(I)Lcom/example/term_weight_evolver/termweightevolver/formula/Statistic$Scope;"⟩ : MethodName)) hown (hw _ (List.mem_of_getElem? (i := 0) rfl)) (hw _ (List.mem_of_getElem? (i := 1) rfl)) (hw _ (List.mem_of_getElem? (i := 2) rfl)) (hw _ (List.mem_of_getElem? (i := 3) rfl)) (by decide) (rm1 l Z a0 hw [] (2 : Int32) w_COLLECTION w_POSTING w_DOCUMENT w_TERM (.ref w_DOCUMENT) h0 n0 hn0 S_COLLECTION S_POSTING S_DOCUMENT S_TERM (by rw [own_f_rm1, if_neg (show ¬ ((2 : Int32) = (0 : Int32)) by decide), if_neg (show ¬ ((2 : Int32) = (1 : Int32)) by decide), if_pos (show (2 : Int32) = (2 : Int32) from rfl)]; try first | rfl | decide)) e37 (by rw [hml]; rfl) (argsL := [(.int (2 : Int32))]) (rest := [(.ref w_DOCUMENT)]) rfl rfl (lenOf own_pd0 rfl) (W := 1) (Nat.le_of_eq rfl) (by decide) (by decide) (hb hby at_34) (by decide) (by decide) ?_
      intro v38 T38 L38 X38 q38
      obtain ⟨rfl, N38q, e38⟩ := q38
      have N38 := Fr.app N37 N38q
      show Go _ _ _ _ _ T38 (mkF m 37 #[.val (.int p1), .val (.int p2), .val (.int (0 : Int32)), .val (.int (2 : Int32)), .val (.ref w_COLLECTION), .val (.ref w_DOCUMENT), .val (.ref w_DOCUMENT)] [(.ref w_DOCUMENT), (.ref w_DOCUMENT)])
      refine own_go (fun t k => Jvm.RoadKit.acmp (g := (mkF m 37 #[.val (.int p1), .val (.int p2), .val (.int (0 : Int32)), .val (.int (2 : Int32)), .val (.ref w_COLLECTION), .val (.ref w_DOCUMENT), .val (.ref w_DOCUMENT)] [(.ref w_DOCUMENT), (.ref w_DOCUMENT)])) X38 hx rfl rfl rfl (pc0 := 37) (pc' := 40) (same := true) rfl (hb hby at_37) rfl (decide_eq_true rfl) (by decide) (by decide) k) ?_
      show Go _ _ _ _ _ T38 (mkF m 40 #[.val (.int p1), .val (.int p2), .val (.int (0 : Int32)), .val (.int (2 : Int32)), .val (.ref w_COLLECTION), .val (.ref w_DOCUMENT), .val (.ref w_DOCUMENT)] [])
      refine own_go (fun t k => XS.iconst X38.here hx rfl (hb hby at_40) k) ?_
      show Go _ _ _ _ _ T38 (mkF m 41 #[.val (.int p1), .val (.int p2), .val (.int (0 : Int32)), .val (.int (2 : Int32)), .val (.ref w_COLLECTION), .val (.ref w_DOCUMENT), .val (.ref w_DOCUMENT)] [(.int (1 : Int32))])
      refine own_go (fun t k => XS.goto X38.here hx rfl (pc0 := 41) (pc' := 45) rfl (hb hby at_41) (by decide) (by decide) k) ?_
      show Go _ _ _ _ _ T38 (mkF m 45 #[.val (.int p1), .val (.int p2), .val (.int (0 : Int32)), .val (.int (2 : Int32)), .val (.ref w_COLLECTION), .val (.ref w_DOCUMENT), .val (.ref w_DOCUMENT)] [(.int (1 : Int32))])
      refine own_retN X38 hx (own_lvN X38 hlk (by decide) (by decide)) (t := .boolean) hret (by simp) (hb hby at_45) ?_
      exact ⟨rfl, N38⟩
    · skip
      show Go _ _ _ _ _ s₁ (mkF m 8 #[.val (.int p1), .val (.int p2), .val (.int (0 : Int32)), .val (.int (3 : Int32)), .unset, .unset, .unset] [])
      refine own_go (fun t k => XS.iloadN X0.here hx rfl (hb hby at_8) rfl k) ?_
      show Go _ _ _ _ _ s₁ (mkF m 9 #[.val (.int p1), .val (.int p2), .val (.int (0 : Int32)), .val (.int (3 : Int32)), .unset, .unset, .unset] [(.int (0 : Int32))])
      refine own_callS X0 hx hZ (y := (⟨"com/example/term_weight_evolver/termweightevolver/formula/ScopeWithPinLaw", "of", "(I)Lcom/example/term_weight_evolver/termweightevolver/formula/Statistic$Scope;"⟩ : MethodName)) hown (hw _ (List.mem_of_getElem? (i := 0) rfl)) (hw _ (List.mem_of_getElem? (i := 1) rfl)) (hw _ (List.mem_of_getElem? (i := 2) rfl)) (hw _ (List.mem_of_getElem? (i := 3) rfl)) (by decide) (rm1 l Z a0 hw [] (0 : Int32) w_COLLECTION w_POSTING w_DOCUMENT w_TERM (.ref w_COLLECTION) h0 n0 hn0 S_COLLECTION S_POSTING S_DOCUMENT S_TERM (by rw [own_f_rm1, if_pos (show (0 : Int32) = (0 : Int32) from rfl)]; try first | rfl | decide)) e0 (by rw [hml]; rfl) (argsL := [(.int (0 : Int32))]) (rest := []) rfl rfl (lenOf own_pd0 rfl) (W := 0) (Nat.le_of_eq rfl) (by decide) (by decide) (hb hby at_9) (by decide) (by decide) ?_
      intro v39 T39 L39 X39 q39
      obtain ⟨rfl, N39q, e39⟩ := q39
      have N39 := Fr.app N0 N39q
      show Go _ _ _ _ _ T39 (mkF m 12 #[.val (.int p1), .val (.int p2), .val (.int (0 : Int32)), .val (.int (3 : Int32)), .unset, .unset, .unset] [(.ref w_COLLECTION)])
      refine own_go (fun t k => XS.astore X39.here hx rfl (hb hby at_12) rfl rfl (l' := #[.val (.int p1), .val (.int p2), .val (.int (0 : Int32)), .val (.int (3 : Int32)), .val (.ref w_COLLECTION), .unset, .unset]) rfl k) ?_
      show Go _ _ _ _ _ T39 (mkF m 14 #[.val (.int p1), .val (.int p2), .val (.int (0 : Int32)), .val (.int (3 : Int32)), .val (.ref w_COLLECTION), .unset, .unset] [])
      refine own_go (fun t k => XS.iloadN X39.here hx rfl (hb hby at_14) rfl k) ?_
      show Go _ _ _ _ _ T39 (mkF m 15 #[.val (.int p1), .val (.int p2), .val (.int (0 : Int32)), .val (.int (3 : Int32)), .val (.ref w_COLLECTION), .unset, .unset] [(.int (3 : Int32))])
      refine own_callS X39 hx hZ (y := (⟨"com/example/term_weight_evolver/termweightevolver/formula/ScopeWithPinLaw", "of", "(I)Lcom/example/term_weight_evolver/termweightevolver/formula/Statistic$Scope;"⟩ : MethodName)) hown (hw _ (List.mem_of_getElem? (i := 0) rfl)) (hw _ (List.mem_of_getElem? (i := 1) rfl)) (hw _ (List.mem_of_getElem? (i := 2) rfl)) (hw _ (List.mem_of_getElem? (i := 3) rfl)) (by decide) (rm1 l Z a0 hw [] (3 : Int32) w_COLLECTION w_POSTING w_DOCUMENT w_TERM (.ref w_POSTING) h0 n0 hn0 S_COLLECTION S_POSTING S_DOCUMENT S_TERM (by rw [own_f_rm1, if_neg (show ¬ ((3 : Int32) = (0 : Int32)) by decide), if_neg (show ¬ ((3 : Int32) = (1 : Int32)) by decide), if_neg (show ¬ ((3 : Int32) = (2 : Int32)) by decide)]; try first | rfl | decide)) e39 (by rw [hml]; rfl) (argsL := [(.int (3 : Int32))]) (rest := []) rfl rfl (lenOf own_pd0 rfl) (W := 0) (Nat.le_of_eq rfl) (by decide) (by decide) (hb hby at_15) (by decide) (by decide) ?_
      intro v40 T40 L40 X40 q40
      obtain ⟨rfl, N40q, e40⟩ := q40
      have N40 := Fr.app N39 N40q
      show Go _ _ _ _ _ T40 (mkF m 18 #[.val (.int p1), .val (.int p2), .val (.int (0 : Int32)), .val (.int (3 : Int32)), .val (.ref w_COLLECTION), .unset, .unset] [(.ref w_POSTING)])
      refine own_go (fun t k => XS.astore X40.here hx rfl (hb hby at_18) rfl rfl (l' := #[.val (.int p1), .val (.int p2), .val (.int (0 : Int32)), .val (.int (3 : Int32)), .val (.ref w_COLLECTION), .val (.ref w_POSTING), .unset]) rfl k) ?_
      show Go _ _ _ _ _ T40 (mkF m 20 #[.val (.int p1), .val (.int p2), .val (.int (0 : Int32)), .val (.int (3 : Int32)), .val (.ref w_COLLECTION), .val (.ref w_POSTING), .unset] [])
      refine own_go (fun t k => XS.aload X40.here hx rfl (hb hby at_20) rfl rfl k) ?_
      show Go _ _ _ _ _ T40 (mkF m 22 #[.val (.int p1), .val (.int p2), .val (.int (0 : Int32)), .val (.int (3 : Int32)), .val (.ref w_COLLECTION), .val (.ref w_POSTING), .unset] [(.ref w_COLLECTION)])
      refine own_go (fun t k => XS.aload X40.here hx rfl (hb hby at_22) rfl rfl k) ?_
      show Go _ _ _ _ _ T40 (mkF m 24 #[.val (.int p1), .val (.int p2), .val (.int (0 : Int32)), .val (.int (3 : Int32)), .val (.ref w_COLLECTION), .val (.ref w_POSTING), .unset] [(.ref w_POSTING), (.ref w_COLLECTION)])
      refine own_callV X40 hx hZ (y := (⟨"com/example/term_weight_evolver/termweightevolver/formula/Statistic$Scope", "with", "(Lcom/example/term_weight_evolver/termweightevolver/formula/Statistic$Scope;)Lcom/example/term_weight_evolver/termweightevolver/formula/Statistic$Scope;"⟩ : MethodName)) hown (hw _ (List.mem_of_getElem? (i := 9) rfl)) (hw _ (List.mem_of_getElem? (i := 10) rfl)) (hw _ (List.mem_of_getElem? (i := 12) rfl)) (hw _ (List.mem_of_getElem? (i := 11) rfl)) (hw _ (List.mem_of_getElem? (i := 13) rfl)) (hw _ (List.mem_of_getElem? (i := 5) rfl)) (by decide) (rm2 l Z a0 hw [] w_COLLECTION w_POSTING w_COLLECTION w_POSTING w_DOCUMENT w_TERM (.ref w_POSTING) h0 n0 hn0 S_COLLECTION S_POSTING S_DOCUMENT S_TERM (by rw [own_f_rm2, if_neg (fun q => D_w_COLLECTION_w_POSTING q.symm), if_neg (fun q => D_w_COLLECTION_w_POSTING q.symm), if_pos (show w_COLLECTION = w_COLLECTION from rfl)]; try first | rfl | decide)) e40 E_COLLECTION (by rw [hml]; rfl) (argsL := [(.ref w_POSTING)]) (rest := []) rfl rfl (lenOf own_pd1 rfl) (W := 0) (Nat.le_of_eq rfl) (by decide) (by decide) (hb hby at_24) (by decide) (by decide) ?_
      intro v41 T41 L41 X41 q41
      obtain ⟨rfl, N41q, e41⟩ := q41
      have N41 := Fr.app N40 N41q
      show Go _ _ _ _ _ T41 (mkF m 27 #[.val (.int p1), .val (.int p2), .val (.int (0 : Int32)), .val (.int (3 : Int32)), .val (.ref w_COLLECTION), .val (.ref w_POSTING), .unset] [(.ref w_POSTING)])
      refine own_go (fun t k => XS.astore X41.here hx rfl (hb hby at_27) rfl rfl (l' := #[.val (.int p1), .val (.int p2), .val (.int (0 : Int32)), .val (.int (3 : Int32)), .val (.ref w_COLLECTION), .val (.ref w_POSTING), .val (.ref w_POSTING)]) rfl k) ?_
      show Go _ _ _ _ _ T41 (mkF m 29 #[.val (.int p1), .val (.int p2), .val (.int (0 : Int32)), .val (.int (3 : Int32)), .val (.ref w_COLLECTION), .val (.ref w_POSTING), .val (.ref w_POSTING)] [])
      refine own_go (fun t k => XS.aload X41.here hx rfl (hb hby at_29) rfl rfl k) ?_
      show Go _ _ _ _ _ T41 (mkF m 31 #[.val (.int p1), .val (.int p2), .val (.int (0 : Int32)), .val (.int (3 : Int32)), .val (.ref w_COLLECTION), .val (.ref w_POSTING), .val (.ref w_POSTING)] [(.ref w_POSTING)])
      refine own_go (fun t k => XS.iloadN X41.here hx rfl (hb hby at_31) rfl k) ?_
      show Go _ _ _ _ _ T41 (mkF m 32 #[.val (.int p1), .val (.int p2), .val (.int (0 : Int32)), .val (.int (3 : Int32)), .val (.ref w_COLLECTION), .val (.ref w_POSTING), .val (.ref w_POSTING)] [(.int (0 : Int32)), (.ref w_POSTING)])
      refine own_go (fun t k => XS.iloadN X41.here hx rfl (hb hby at_32) rfl k) ?_
      show Go _ _ _ _ _ T41 (mkF m 33 #[.val (.int p1), .val (.int p2), .val (.int (0 : Int32)), .val (.int (3 : Int32)), .val (.ref w_COLLECTION), .val (.ref w_POSTING), .val (.ref w_POSTING)] [(.int (3 : Int32)), (.int (0 : Int32)), (.ref w_POSTING)])
      refine own_go (fun t k => XS.ior X41.here hx rfl (hb hby at_33) rfl k) ?_
      show Go _ _ _ _ _ T41 (mkF m 34 #[.val (.int p1), .val (.int p2), .val (.int (0 : Int32)), .val (.int (3 : Int32)), .val (.ref w_COLLECTION), .val (.ref w_POSTING), .val (.ref w_POSTING)] [(.int (3 : Int32)), (.ref w_POSTING)])
      refine own_callS X41 hx hZ (y := (⟨"com/example/term_weight_evolver/termweightevolver/formula/ScopeWithPinLaw", "of", "(I)Lcom/example/term_weight_evolver/termweightevolver/formula/Statistic$Scope;"⟩ : MethodName)) hown (hw _ (List.mem_of_getElem? (i := 0) rfl)) (hw _ (List.mem_of_getElem? (i := 1) rfl)) (hw _ (List.mem_of_getElem? (i := 2) rfl)) (hw _ (List.mem_of_getElem? (i := 3) rfl)) (by decide) (rm1 l Z a0 hw [] (3 : Int32) w_COLLECTION w_POSTING w_DOCUMENT w_TERM (.ref w_POSTING) h0 n0 hn0 S_COLLECTION S_POSTING S_DOCUMENT S_TERM (by rw [own_f_rm1, if_neg (show ¬ ((3 : Int32) = (0 : Int32)) by decide), if_neg (show ¬ ((3 : Int32) = (1 : Int32)) by decide), if_neg (show ¬ ((3 : Int32) = (2 : Int32)) by decide)]; try first | rfl | decide)) e41 (by rw [hml]; rfl) (argsL := [(.int (3 : Int32))]) (rest := [(.ref w_POSTING)]) rfl rfl (lenOf own_pd0 rfl) (W := 1) (Nat.le_of_eq rfl) (by decide) (by decide) (hb hby at_34) (by decide) (by decide) ?_
      intro v42 T42 L42 X42 q42
      obtain ⟨rfl, N42q, e42⟩ := q42
      have N42 := Fr.app N41 N42q
      show Go _ _ _ _ _ T42 (mkF m 37 #[.val (.int p1), .val (.int p2), .val (.int (0 : Int32)), .val (.int (3 : Int32)), .val (.ref w_COLLECTION), .val (.ref w_POSTING), .val (.ref w_POSTING)] [(.ref w_POSTING), (.ref w_POSTING)])
      refine own_go (fun t k => Jvm.RoadKit.acmp (g := (mkF m 37 #[.val (.int p1), .val (.int p2), .val (.int (0 : Int32)), .val (.int (3 : Int32)), .val (.ref w_COLLECTION), .val (.ref w_POSTING), .val (.ref w_POSTING)] [(.ref w_POSTING), (.ref w_POSTING)])) X42 hx rfl rfl rfl (pc0 := 37) (pc' := 40) (same := true) rfl (hb hby at_37) rfl (decide_eq_true rfl) (by decide) (by decide) k) ?_
      show Go _ _ _ _ _ T42 (mkF m 40 #[.val (.int p1), .val (.int p2), .val (.int (0 : Int32)), .val (.int (3 : Int32)), .val (.ref w_COLLECTION), .val (.ref w_POSTING), .val (.ref w_POSTING)] [])
      refine own_go (fun t k => XS.iconst X42.here hx rfl (hb hby at_40) k) ?_
      show Go _ _ _ _ _ T42 (mkF m 41 #[.val (.int p1), .val (.int p2), .val (.int (0 : Int32)), .val (.int (3 : Int32)), .val (.ref w_COLLECTION), .val (.ref w_POSTING), .val (.ref w_POSTING)] [(.int (1 : Int32))])
      refine own_go (fun t k => XS.goto X42.here hx rfl (pc0 := 41) (pc' := 45) rfl (hb hby at_41) (by decide) (by decide) k) ?_
      show Go _ _ _ _ _ T42 (mkF m 45 #[.val (.int p1), .val (.int p2), .val (.int (0 : Int32)), .val (.int (3 : Int32)), .val (.ref w_COLLECTION), .val (.ref w_POSTING), .val (.ref w_POSTING)] [(.int (1 : Int32))])
      refine own_retN X42 hx (own_lvN X42 hlk (by decide) (by decide)) (t := .boolean) hret (by simp) (hb hby at_45) ?_
      exact ⟨rfl, N42⟩
  · skip
    show Go _ _ _ _ _ s₁ (mkF m 4 #[.val (.int p1), .val (.int p2), .val (.int (1 : Int32)), .unset, .unset, .unset, .unset] [])
    refine own_go (fun t k => XS.iloadN X0.here hx rfl (hb hby at_4) rfl k) ?_
    show Go _ _ _ _ _ s₁ (mkF m 5 #[.val (.int p1), .val (.int p2), .val (.int (1 : Int32)), .unset, .unset, .unset, .unset] [(.int p2)])
    refine own_go (fun t k => XS.iconst X0.here hx rfl (hb hby at_5) k) ?_
    show Go _ _ _ _ _ s₁ (mkF m 6 #[.val (.int p1), .val (.int p2), .val (.int (1 : Int32)), .unset, .unset, .unset, .unset] [(.int (3 : Int32)), (.int p2)])
    refine own_go (fun t k => XS.iand X0.here hx rfl (hb hby at_6) rfl k) ?_
    show Go _ _ _ _ _ s₁ (mkF m 7 #[.val (.int p1), .val (.int p2), .val (.int (1 : Int32)), .unset, .unset, .unset, .unset] [(.int (p2 &&& (3 : Int32)))])
    refine own_go (fun t k => XS.istoreN X0.here hx rfl (hb hby at_7) rfl (l' := #[.val (.int p1), .val (.int p2), .val (.int (1 : Int32)), .val (.int (p2 &&& (3 : Int32))), .unset, .unset, .unset]) rfl k) ?_
    have hi := own_and3 p2
    generalize (p2 &&& (3 : Int32)) = i at hi ⊢
    rcases hi with rfl | rfl | rfl | rfl
    · skip
      show Go _ _ _ _ _ s₁ (mkF m 8 #[.val (.int p1), .val (.int p2), .val (.int (1 : Int32)), .val (.int (0 : Int32)), .unset, .unset, .unset] [])
      refine own_go (fun t k => XS.iloadN X0.here hx rfl (hb hby at_8) rfl k) ?_
      show Go _ _ _ _ _ s₁ (mkF m 9 #[.val (.int p1), .val (.int p2), .val (.int (1 : Int32)), .val (.int (0 : Int32)), .unset, .unset, .unset] [(.int (1 : Int32))])
      refine own_callS X0 hx hZ (y := (⟨"com/example/term_weight_evolver/termweightevolver/formula/ScopeWithPinLaw", "of", "(I)Lcom/example/term_weight_evolver/termweightevolver/formula/Statistic$Scope;"⟩ : MethodName)) hown (hw _ (List.mem_of_getElem? (i := 0) rfl)) (hw _ (List.mem_of_getElem? (i := 1) rfl)) (hw _ (List.mem_of_getElem? (i := 2) rfl)) (hw _ (List.mem_of_getElem? (i := 3) rfl)) (by decide) (rm1 l Z a0 hw [] (1 : Int32) w_COLLECTION w_POSTING w_DOCUMENT w_TERM (.ref w_TERM) h0 n0 hn0 S_COLLECTION S_POSTING S_DOCUMENT S_TERM (by rw [own_f_rm1, if_neg (show ¬ ((1 : Int32) = (0 : Int32)) by decide), if_pos (show (1 : Int32) = (1 : Int32) from rfl)]; try first | rfl | decide)) e0 (by rw [hml]; rfl) (argsL := [(.int (1 : Int32))]) (rest := []) rfl rfl (lenOf own_pd0 rfl) (W := 0) (Nat.le_of_eq rfl) (by decide) (by decide) (hb hby at_9) (by decide) (by decide) ?_
      intro v43 T43 L43 X43 q43
      obtain ⟨rfl, N43q, e43⟩ := q43
      have N43 := Fr.app N0 N43q
      show Go _ _ _ _ _ T43 (mkF m 12 #[.val (.int p1), .val (.int p2), .val (.int (1 : Int32)), .val (.int (0 : Int32)), .unset, .unset, .unset] [(.ref w_TERM)])
      refine own_go (fun t k => XS.astore X43.here hx rfl (hb hby at_12) rfl rfl (l' := #[.val (.int p1), .val (.int p2), .val (.int (1 : Int32)), .val (.int (0 : Int32)), .val (.ref w_TERM), .unset, .unset]) rfl k) ?_
      show Go _ _ _ _ _ T43 (mkF m 14 #[.val (.int p1), .val (.int p2), .val (.int (1 : Int32)), .val (.int (0 : Int32)), .val (.ref w_TERM), .unset, .unset] [])
      refine own_go (fun t k => XS.iloadN X43.here hx rfl (hb hby at_14) rfl k) ?_
      show Go _ _ _ _ _ T43 (mkF m 15 #[.val (.int p1), .val (.int p2), .val (.int (1 : Int32)), .val (.int (0 : Int32)), .val (.ref w_TERM), .unset, .unset] [(.int (0 : Int32))])
      refine own_callS X43 hx hZ (y := (⟨"com/example/term_weight_evolver/termweightevolver/formula/ScopeWithPinLaw", "of", "(I)Lcom/example/term_weight_evolver/termweightevolver/formula/Statistic$Scope;"⟩ : MethodName)) hown (hw _ (List.mem_of_getElem? (i := 0) rfl)) (hw _ (List.mem_of_getElem? (i := 1) rfl)) (hw _ (List.mem_of_getElem? (i := 2) rfl)) (hw _ (List.mem_of_getElem? (i := 3) rfl)) (by decide) (rm1 l Z a0 hw [] (0 : Int32) w_COLLECTION w_POSTING w_DOCUMENT w_TERM (.ref w_COLLECTION) h0 n0 hn0 S_COLLECTION S_POSTING S_DOCUMENT S_TERM (by rw [own_f_rm1, if_pos (show (0 : Int32) = (0 : Int32) from rfl)]; try first | rfl | decide)) e43 (by rw [hml]; rfl) (argsL := [(.int (0 : Int32))]) (rest := []) rfl rfl (lenOf own_pd0 rfl) (W := 0) (Nat.le_of_eq rfl) (by decide) (by decide) (hb hby at_15) (by decide) (by decide) ?_
      intro v44 T44 L44 X44 q44
      obtain ⟨rfl, N44q, e44⟩ := q44
      have N44 := Fr.app N43 N44q
      show Go _ _ _ _ _ T44 (mkF m 18 #[.val (.int p1), .val (.int p2), .val (.int (1 : Int32)), .val (.int (0 : Int32)), .val (.ref w_TERM), .unset, .unset] [(.ref w_COLLECTION)])
      refine own_go (fun t k => XS.astore X44.here hx rfl (hb hby at_18) rfl rfl (l' := #[.val (.int p1), .val (.int p2), .val (.int (1 : Int32)), .val (.int (0 : Int32)), .val (.ref w_TERM), .val (.ref w_COLLECTION), .unset]) rfl k) ?_
      show Go _ _ _ _ _ T44 (mkF m 20 #[.val (.int p1), .val (.int p2), .val (.int (1 : Int32)), .val (.int (0 : Int32)), .val (.ref w_TERM), .val (.ref w_COLLECTION), .unset] [])
      refine own_go (fun t k => XS.aload X44.here hx rfl (hb hby at_20) rfl rfl k) ?_
      show Go _ _ _ _ _ T44 (mkF m 22 #[.val (.int p1), .val (.int p2), .val (.int (1 : Int32)), .val (.int (0 : Int32)), .val (.ref w_TERM), .val (.ref w_COLLECTION), .unset] [(.ref w_TERM)])
      refine own_go (fun t k => XS.aload X44.here hx rfl (hb hby at_22) rfl rfl k) ?_
      show Go _ _ _ _ _ T44 (mkF m 24 #[.val (.int p1), .val (.int p2), .val (.int (1 : Int32)), .val (.int (0 : Int32)), .val (.ref w_TERM), .val (.ref w_COLLECTION), .unset] [(.ref w_COLLECTION), (.ref w_TERM)])
      refine own_callV X44 hx hZ (y := (⟨"com/example/term_weight_evolver/termweightevolver/formula/Statistic$Scope", "with", "(Lcom/example/term_weight_evolver/termweightevolver/formula/Statistic$Scope;)Lcom/example/term_weight_evolver/termweightevolver/formula/Statistic$Scope;"⟩ : MethodName)) hown (hw _ (List.mem_of_getElem? (i := 9) rfl)) (hw _ (List.mem_of_getElem? (i := 10) rfl)) (hw _ (List.mem_of_getElem? (i := 12) rfl)) (hw _ (List.mem_of_getElem? (i := 11) rfl)) (hw _ (List.mem_of_getElem? (i := 13) rfl)) (hw _ (List.mem_of_getElem? (i := 5) rfl)) (by decide) (rm2 l Z a0 hw [] w_TERM w_COLLECTION w_COLLECTION w_POSTING w_DOCUMENT w_TERM (.ref w_TERM) h0 n0 hn0 S_COLLECTION S_POSTING S_DOCUMENT S_TERM (by rw [own_f_rm2, if_neg D_w_COLLECTION_w_TERM, if_pos (show w_COLLECTION = w_COLLECTION from rfl)]; try first | rfl | decide)) e44 E_TERM (by rw [hml]; rfl) (argsL := [(.ref w_COLLECTION)]) (rest := []) rfl rfl (lenOf own_pd1 rfl) (W := 0) (Nat.le_of_eq rfl) (by decide) (by decide) (hb hby at_24) (by decide) (by decide) ?_
      intro v45 T45 L45 X45 q45
      obtain ⟨rfl, N45q, e45⟩ := q45
      have N45 := Fr.app N44 N45q
      show Go _ _ _ _ _ T45 (mkF m 27 #[.val (.int p1), .val (.int p2), .val (.int (1 : Int32)), .val (.int (0 : Int32)), .val (.ref w_TERM), .val (.ref w_COLLECTION), .unset] [(.ref w_TERM)])
      refine own_go (fun t k => XS.astore X45.here hx rfl (hb hby at_27) rfl rfl (l' := #[.val (.int p1), .val (.int p2), .val (.int (1 : Int32)), .val (.int (0 : Int32)), .val (.ref w_TERM), .val (.ref w_COLLECTION), .val (.ref w_TERM)]) rfl k) ?_
      show Go _ _ _ _ _ T45 (mkF m 29 #[.val (.int p1), .val (.int p2), .val (.int (1 : Int32)), .val (.int (0 : Int32)), .val (.ref w_TERM), .val (.ref w_COLLECTION), .val (.ref w_TERM)] [])
      refine own_go (fun t k => XS.aload X45.here hx rfl (hb hby at_29) rfl rfl k) ?_
      show Go _ _ _ _ _ T45 (mkF m 31 #[.val (.int p1), .val (.int p2), .val (.int (1 : Int32)), .val (.int (0 : Int32)), .val (.ref w_TERM), .val (.ref w_COLLECTION), .val (.ref w_TERM)] [(.ref w_TERM)])
      refine own_go (fun t k => XS.iloadN X45.here hx rfl (hb hby at_31) rfl k) ?_
      show Go _ _ _ _ _ T45 (mkF m 32 #[.val (.int p1), .val (.int p2), .val (.int (1 : Int32)), .val (.int (0 : Int32)), .val (.ref w_TERM), .val (.ref w_COLLECTION), .val (.ref w_TERM)] [(.int (1 : Int32)), (.ref w_TERM)])
      refine own_go (fun t k => XS.iloadN X45.here hx rfl (hb hby at_32) rfl k) ?_
      show Go _ _ _ _ _ T45 (mkF m 33 #[.val (.int p1), .val (.int p2), .val (.int (1 : Int32)), .val (.int (0 : Int32)), .val (.ref w_TERM), .val (.ref w_COLLECTION), .val (.ref w_TERM)] [(.int (0 : Int32)), (.int (1 : Int32)), (.ref w_TERM)])
      refine own_go (fun t k => XS.ior X45.here hx rfl (hb hby at_33) rfl k) ?_
      show Go _ _ _ _ _ T45 (mkF m 34 #[.val (.int p1), .val (.int p2), .val (.int (1 : Int32)), .val (.int (0 : Int32)), .val (.ref w_TERM), .val (.ref w_COLLECTION), .val (.ref w_TERM)] [(.int (1 : Int32)), (.ref w_TERM)])
      refine own_callS X45 hx hZ (y := (⟨"com/example/term_weight_evolver/termweightevolver/formula/ScopeWithPinLaw", "of", "(I)Lcom/example/term_weight_evolver/termweightevolver/formula/Statistic$Scope;"⟩ : MethodName)) hown (hw _ (List.mem_of_getElem? (i := 0) rfl)) (hw _ (List.mem_of_getElem? (i := 1) rfl)) (hw _ (List.mem_of_getElem? (i := 2) rfl)) (hw _ (List.mem_of_getElem? (i := 3) rfl)) (by decide) (rm1 l Z a0 hw [] (1 : Int32) w_COLLECTION w_POSTING w_DOCUMENT w_TERM (.ref w_TERM) h0 n0 hn0 S_COLLECTION S_POSTING S_DOCUMENT S_TERM (by rw [own_f_rm1, if_neg (show ¬ ((1 : Int32) = (0 : Int32)) by decide), if_pos (show (1 : Int32) = (1 : Int32) from rfl)]; try first | rfl | decide)) e45 (by rw [hml]; rfl) (argsL := [(.int (1 : Int32))]) (rest := [(.ref w_TERM)]) rfl rfl (lenOf own_pd0 rfl) (W := 1) (Nat.le_of_eq rfl) (by decide) (by decide) (hb hby at_34) (by decide) (by decide) ?_
      intro v46 T46 L46 X46 q46
      obtain ⟨rfl, N46q, e46⟩ := q46
      have N46 := Fr.app N45 N46q
      show Go _ _ _ _ _ T46 (mkF m 37 #[.val (.int p1), .val (.int p2), .val (.int (1 : Int32)), .val (.int (0 : Int32)), .val (.ref w_TERM), .val (.ref w_COLLECTION), .val (.ref w_TERM)] [(.ref w_TERM), (.ref w_TERM)])
      refine own_go (fun t k => Jvm.RoadKit.acmp (g := (mkF m 37 #[.val (.int p1), .val (.int p2), .val (.int (1 : Int32)), .val (.int (0 : Int32)), .val (.ref w_TERM), .val (.ref w_COLLECTION), .val (.ref w_TERM)] [(.ref w_TERM), (.ref w_TERM)])) X46 hx rfl rfl rfl (pc0 := 37) (pc' := 40) (same := true) rfl (hb hby at_37) rfl (decide_eq_true rfl) (by decide) (by decide) k) ?_
      show Go _ _ _ _ _ T46 (mkF m 40 #[.val (.int p1), .val (.int p2), .val (.int (1 : Int32)), .val (.int (0 : Int32)), .val (.ref w_TERM), .val (.ref w_COLLECTION), .val (.ref w_TERM)] [])
      refine own_go (fun t k => XS.iconst X46.here hx rfl (hb hby at_40) k) ?_
      show Go _ _ _ _ _ T46 (mkF m 41 #[.val (.int p1), .val (.int p2), .val (.int (1 : Int32)), .val (.int (0 : Int32)), .val (.ref w_TERM), .val (.ref w_COLLECTION), .val (.ref w_TERM)] [(.int (1 : Int32))])
      refine own_go (fun t k => XS.goto X46.here hx rfl (pc0 := 41) (pc' := 45) rfl (hb hby at_41) (by decide) (by decide) k) ?_
      show Go _ _ _ _ _ T46 (mkF m 45 #[.val (.int p1), .val (.int p2), .val (.int (1 : Int32)), .val (.int (0 : Int32)), .val (.ref w_TERM), .val (.ref w_COLLECTION), .val (.ref w_TERM)] [(.int (1 : Int32))])
      refine own_retN X46 hx (own_lvN X46 hlk (by decide) (by decide)) (t := .boolean) hret (by simp) (hb hby at_45) ?_
      exact ⟨rfl, N46⟩
    · skip
      show Go _ _ _ _ _ s₁ (mkF m 8 #[.val (.int p1), .val (.int p2), .val (.int (1 : Int32)), .val (.int (1 : Int32)), .unset, .unset, .unset] [])
      refine own_go (fun t k => XS.iloadN X0.here hx rfl (hb hby at_8) rfl k) ?_
      show Go _ _ _ _ _ s₁ (mkF m 9 #[.val (.int p1), .val (.int p2), .val (.int (1 : Int32)), .val (.int (1 : Int32)), .unset, .unset, .unset] [(.int (1 : Int32))])
      refine own_callS X0 hx hZ (y := (⟨"com/example/term_weight_evolver/termweightevolver/formula/ScopeWithPinLaw", "of", "(I)Lcom/example/term_weight_evolver/termweightevolver/formula/Statistic$Scope;"⟩ : MethodName)) hown (hw _ (List.mem_of_getElem? (i := 0) rfl)) (hw _ (List.mem_of_getElem? (i := 1) rfl)) (hw _ (List.mem_of_getElem? (i := 2) rfl)) (hw _ (List.mem_of_getElem? (i := 3) rfl)) (by decide) (rm1 l Z a0 hw [] (1 : Int32) w_COLLECTION w_POSTING w_DOCUMENT w_TERM (.ref w_TERM) h0 n0 hn0 S_COLLECTION S_POSTING S_DOCUMENT S_TERM (by rw [own_f_rm1, if_neg (show ¬ ((1 : Int32) = (0 : Int32)) by decide), if_pos (show (1 : Int32) = (1 : Int32) from rfl)]; try first | rfl | decide)) e0 (by rw [hml]; rfl) (argsL := [(.int (1 : Int32))]) (rest := []) rfl rfl (lenOf own_pd0 rfl) (W := 0) (Nat.le_of_eq rfl) (by decide) (by decide) (hb hby at_9) (by decide) (by decide) ?_
      intro v47 T47 L47 X47 q47
      obtain ⟨rfl, N47q, e47⟩ := q47
      have N47 := Fr.app N0 N47q
      show Go _ _ _ _ _ T47 (mkF m 12 #[.val (.int p1), .val (.int p2), .val (.int (1 : Int32)), .val (.int (1 : Int32)), .unset, .unset, .unset] [(.ref w_TERM)])
      refine own_go (fun t k => XS.astore X47.here hx rfl (hb hby at_12) rfl rfl (l' := #[.val (.int p1), .val (.int p2), .val (.int (1 : Int32)), .val (.int (1 : Int32)), .val (.ref w_TERM), .unset, .unset]) rfl k) ?_
      show Go _ _ _ _ _ T47 (mkF m 14 #[.val (.int p1), .val (.int p2), .val (.int (1 : Int32)), .val (.int (1 : Int32)), .val (.ref w_TERM), .unset, .unset] [])
      refine own_go (fun t k => XS.iloadN X47.here hx rfl (hb hby at_14) rfl k) ?_
      show Go _ _ _ _ _ T47 (mkF m 15 #[.val (.int p1), .val (.int p2), .val (.int (1 : Int32)), .val (.int (1 : Int32)), .val (.ref w_TERM), .unset, .unset] [(.int (1 : Int32))])
      refine own_callS X47 hx hZ (y := (⟨"com/example/term_weight_evolver/termweightevolver/formula/ScopeWithPinLaw", "of", "(I)Lcom/example/term_weight_evolver/termweightevolver/formula/Statistic$Scope;"⟩ : MethodName)) hown (hw _ (List.mem_of_getElem? (i := 0) rfl)) (hw _ (List.mem_of_getElem? (i := 1) rfl)) (hw _ (List.mem_of_getElem? (i := 2) rfl)) (hw _ (List.mem_of_getElem? (i := 3) rfl)) (by decide) (rm1 l Z a0 hw [] (1 : Int32) w_COLLECTION w_POSTING w_DOCUMENT w_TERM (.ref w_TERM) h0 n0 hn0 S_COLLECTION S_POSTING S_DOCUMENT S_TERM (by rw [own_f_rm1, if_neg (show ¬ ((1 : Int32) = (0 : Int32)) by decide), if_pos (show (1 : Int32) = (1 : Int32) from rfl)]; try first | rfl | decide)) e47 (by rw [hml]; rfl) (argsL := [(.int (1 : Int32))]) (rest := []) rfl rfl (lenOf own_pd0 rfl) (W := 0) (Nat.le_of_eq rfl) (by decide) (by decide) (hb hby at_15) (by decide) (by decide) ?_
      intro v48 T48 L48 X48 q48
      obtain ⟨rfl, N48q, e48⟩ := q48
      have N48 := Fr.app N47 N48q
      show Go _ _ _ _ _ T48 (mkF m 18 #[.val (.int p1), .val (.int p2), .val (.int (1 : Int32)), .val (.int (1 : Int32)), .val (.ref w_TERM), .unset, .unset] [(.ref w_TERM)])
      refine own_go (fun t k => XS.astore X48.here hx rfl (hb hby at_18) rfl rfl (l' := #[.val (.int p1), .val (.int p2), .val (.int (1 : Int32)), .val (.int (1 : Int32)), .val (.ref w_TERM), .val (.ref w_TERM), .unset]) rfl k) ?_
      show Go _ _ _ _ _ T48 (mkF m 20 #[.val (.int p1), .val (.int p2), .val (.int (1 : Int32)), .val (.int (1 : Int32)), .val (.ref w_TERM), .val (.ref w_TERM), .unset] [])
      refine own_go (fun t k => XS.aload X48.here hx rfl (hb hby at_20) rfl rfl k) ?_
      show Go _ _ _ _ _ T48 (mkF m 22 #[.val (.int p1), .val (.int p2), .val (.int (1 : Int32)), .val (.int (1 : Int32)), .val (.ref w_TERM), .val (.ref w_TERM), .unset] [(.ref w_TERM)])
      refine own_go (fun t k => XS.aload X48.here hx rfl (hb hby at_22) rfl rfl k) ?_
      show Go _ _ _ _ _ T48 (mkF m 24 #[.val (.int p1), .val (.int p2), .val (.int (1 : Int32)), .val (.int (1 : Int32)), .val (.ref w_TERM), .val (.ref w_TERM), .unset] [(.ref w_TERM), (.ref w_TERM)])
      refine own_callV X48 hx hZ (y := (⟨"com/example/term_weight_evolver/termweightevolver/formula/Statistic$Scope", "with", "(Lcom/example/term_weight_evolver/termweightevolver/formula/Statistic$Scope;)Lcom/example/term_weight_evolver/termweightevolver/formula/Statistic$Scope;"⟩ : MethodName)) hown (hw _ (List.mem_of_getElem? (i := 9) rfl)) (hw _ (List.mem_of_getElem? (i := 10) rfl)) (hw _ (List.mem_of_getElem? (i := 12) rfl)) (hw _ (List.mem_of_getElem? (i := 11) rfl)) (hw _ (List.mem_of_getElem? (i := 13) rfl)) (hw _ (List.mem_of_getElem? (i := 5) rfl)) (by decide) (rm2 l Z a0 hw [] w_TERM w_TERM w_COLLECTION w_POSTING w_DOCUMENT w_TERM (.ref w_TERM) h0 n0 hn0 S_COLLECTION S_POSTING S_DOCUMENT S_TERM (by rw [own_f_rm2, if_pos (show w_TERM = w_TERM from rfl)]; try first | rfl | decide)) e48 E_TERM (by rw [hml]; rfl) (argsL := [(.ref w_TERM)]) (rest := []) rfl rfl (lenOf own_pd1 rfl) (W := 0) (Nat.le_of_eq rfl) (by decide) (by decide) (hb hby at_24) (by decide) (by decide) ?_
      intro v49 T49 L49 X49 q49
      obtain ⟨rfl, N49q, e49⟩ := q49
      have N49 := Fr.app N48 N49q
      show Go _ _ _ _ _ T49 (mkF m 27 #[.val (.int p1), .val (.int p2), .val (.int (1 : Int32)), .val (.int (1 : Int32)), .val (.ref w_TERM), .val (.ref w_TERM), .unset] [(.ref w_TERM)])
      refine own_go (fun t k => XS.astore X49.here hx rfl (hb hby at_27) rfl rfl (l' := #[.val (.int p1), .val (.int p2), .val (.int (1 : Int32)), .val (.int (1 : Int32)), .val (.ref w_TERM), .val (.ref w_TERM), .val (.ref w_TERM)]) rfl k) ?_
      show Go _ _ _ _ _ T49 (mkF m 29 #[.val (.int p1), .val (.int p2), .val (.int (1 : Int32)), .val (.int (1 : Int32)), .val (.ref w_TERM), .val (.ref w_TERM), .val (.ref w_TERM)] [])
      refine own_go (fun t k => XS.aload X49.here hx rfl (hb hby at_29) rfl rfl k) ?_
      show Go _ _ _ _ _ T49 (mkF m 31 #[.val (.int p1), .val (.int p2), .val (.int (1 : Int32)), .val (.int (1 : Int32)), .val (.ref w_TERM), .val (.ref w_TERM), .val (.ref w_TERM)] [(.ref w_TERM)])
      refine own_go (fun t k => XS.iloadN X49.here hx rfl (hb hby at_31) rfl k) ?_
      show Go _ _ _ _ _ T49 (mkF m 32 #[.val (.int p1), .val (.int p2), .val (.int (1 : Int32)), .val (.int (1 : Int32)), .val (.ref w_TERM), .val (.ref w_TERM), .val (.ref w_TERM)] [(.int (1 : Int32)), (.ref w_TERM)])
      refine own_go (fun t k => XS.iloadN X49.here hx rfl (hb hby at_32) rfl k) ?_
      show Go _ _ _ _ _ T49 (mkF m 33 #[.val (.int p1), .val (.int p2), .val (.int (1 : Int32)), .val (.int (1 : Int32)), .val (.ref w_TERM), .val (.ref w_TERM), .val (.ref w_TERM)] [(.int (1 : Int32)), (.int (1 : Int32)), (.ref w_TERM)])
      refine own_go (fun t k => XS.ior X49.here hx rfl (hb hby at_33) rfl k) ?_
      show Go _ _ _ _ _ T49 (mkF m 34 #[.val (.int p1), .val (.int p2), .val (.int (1 : Int32)), .val (.int (1 : Int32)), .val (.ref w_TERM), .val (.ref w_TERM), .val (.ref w_TERM)] [(.int (1 : Int32)), (.ref w_TERM)])
      refine own_callS X49 hx hZ (y := (⟨"com/example/term_weight_evolver/termweightevolver/formula/ScopeWithPinLaw", "of", "(I)Lcom/example/term_weight_evolver/termweightevolver/formula/Statistic$Scope;"⟩ : MethodName)) hown (hw _ (List.mem_of_getElem? (i := 0) rfl)) (hw _ (List.mem_of_getElem? (i := 1) rfl)) (hw _ (List.mem_of_getElem? (i := 2) rfl)) (hw _ (List.mem_of_getElem? (i := 3) rfl)) (by decide) (rm1 l Z a0 hw [] (1 : Int32) w_COLLECTION w_POSTING w_DOCUMENT w_TERM (.ref w_TERM) h0 n0 hn0 S_COLLECTION S_POSTING S_DOCUMENT S_TERM (by rw [own_f_rm1, if_neg (show ¬ ((1 : Int32) = (0 : Int32)) by decide), if_pos (show (1 : Int32) = (1 : Int32) from rfl)]; try first | rfl | decide)) e49 (by rw [hml]; rfl) (argsL := [(.int (1 : Int32))]) (rest := [(.ref w_TERM)]) rfl rfl (lenOf own_pd0 rfl) (W := 1) (Nat.le_of_eq rfl) (by decide) (by decide) (hb hby at_34) (by decide) (by decide) ?_
      intro v50 T50 L50 X50 q50
      obtain ⟨rfl, N50q, e50⟩ := q50
      have N50 := Fr.app N49 N50q
      show Go _ _ _ _ _ T50 (mkF m 37 #[.val (.int p1), .val (.int p2), .val (.int (1 : Int32)), .val (.int (1 : Int32)), .val (.ref w_TERM), .val (.ref w_TERM), .val (.ref w_TERM)] [(.ref w_TERM), (.ref w_TERM)])
      refine own_go (fun t k => Jvm.RoadKit.acmp (g := (mkF m 37 #[.val (.int p1), .val (.int p2), .val (.int (1 : Int32)), .val (.int (1 : Int32)), .val (.ref w_TERM), .val (.ref w_TERM), .val (.ref w_TERM)] [(.ref w_TERM), (.ref w_TERM)])) X50 hx rfl rfl rfl (pc0 := 37) (pc' := 40) (same := true) rfl (hb hby at_37) rfl (decide_eq_true rfl) (by decide) (by decide) k) ?_
      show Go _ _ _ _ _ T50 (mkF m 40 #[.val (.int p1), .val (.int p2), .val (.int (1 : Int32)), .val (.int (1 : Int32)), .val (.ref w_TERM), .val (.ref w_TERM), .val (.ref w_TERM)] [])
      refine own_go (fun t k => XS.iconst X50.here hx rfl (hb hby at_40) k) ?_
      show Go _ _ _ _ _ T50 (mkF m 41 #[.val (.int p1), .val (.int p2), .val (.int (1 : Int32)), .val (.int (1 : Int32)), .val (.ref w_TERM), .val (.ref w_TERM), .val (.ref w_TERM)] [(.int (1 : Int32))])
      refine own_go (fun t k => XS.goto X50.here hx rfl (pc0 := 41) (pc' := 45) rfl (hb hby at_41) (by decide) (by decide) k) ?_
      show Go _ _ _ _ _ T50 (mkF m 45 #[.val (.int p1), .val (.int p2), .val (.int (1 : Int32)), .val (.int (1 : Int32)), .val (.ref w_TERM), .val (.ref w_TERM), .val (.ref w_TERM)] [(.int (1 : Int32))])
      refine own_retN X50 hx (own_lvN X50 hlk (by decide) (by decide)) (t := .boolean) hret (by simp) (hb hby at_45) ?_
      exact ⟨rfl, N50⟩
    · skip
      show Go _ _ _ _ _ s₁ (mkF m 8 #[.val (.int p1), .val (.int p2), .val (.int (1 : Int32)), .val (.int (2 : Int32)), .unset, .unset, .unset] [])
      refine own_go (fun t k => XS.iloadN X0.here hx rfl (hb hby at_8) rfl k) ?_
      show Go _ _ _ _ _ s₁ (mkF m 9 #[.val (.int p1), .val (.int p2), .val (.int (1 : Int32)), .val (.int (2 : Int32)), .unset, .unset, .unset] [(.int (1 : Int32))])
      refine own_callS X0 hx hZ (y := (⟨"com/example/term_weight_evolver/termweightevolver/formula/ScopeWithPinLaw", "of", "(I)Lcom/example/term_weight_evolver/termweightevolver/formula/Statistic$Scope;"⟩ : MethodName)) hown (hw _ (List.mem_of_getElem? (i := 0) rfl)) (hw _ (List.mem_of_getElem? (i := 1) rfl)) (hw _ (List.mem_of_getElem? (i := 2) rfl)) (hw _ (List.mem_of_getElem? (i := 3) rfl)) (by decide) (rm1 l Z a0 hw [] (1 : Int32) w_COLLECTION w_POSTING w_DOCUMENT w_TERM (.ref w_TERM) h0 n0 hn0 S_COLLECTION S_POSTING S_DOCUMENT S_TERM (by rw [own_f_rm1, if_neg (show ¬ ((1 : Int32) = (0 : Int32)) by decide), if_pos (show (1 : Int32) = (1 : Int32) from rfl)]; try first | rfl | decide)) e0 (by rw [hml]; rfl) (argsL := [(.int (1 : Int32))]) (rest := []) rfl rfl (lenOf own_pd0 rfl) (W := 0) (Nat.le_of_eq rfl) (by decide) (by decide) (hb hby at_9) (by decide) (by decide) ?_
      intro v51 T51 L51 X51 q51
      obtain ⟨rfl, N51q, e51⟩ := q51
      have N51 := Fr.app N0 N51q
      show Go _ _ _ _ _ T51 (mkF m 12 #[.val (.int p1), .val (.int p2), .val (.int (1 : Int32)), .val (.int (2 : Int32)), .unset, .unset, .unset] [(.ref w_TERM)])
      refine own_go (fun t k => XS.astore X51.here hx rfl (hb hby at_12) rfl rfl (l' := #[.val (.int p1), .val (.int p2), .val (.int (1 : Int32)), .val (.int (2 : Int32)), .val (.ref w_TERM), .unset, .unset]) rfl k) ?_
      show Go _ _ _ _ _ T51 (mkF m 14 #[.val (.int p1), .val (.int p2), .val (.int (1 : Int32)), .val (.int (2 : Int32)), .val (.ref w_TERM), .unset, .unset] [])
      refine own_go (fun t k => XS.iloadN X51.here hx rfl (hb hby at_14) rfl k) ?_
      show Go _ _ _ _ _ T51 (mkF m 15 #[.val (.int p1), .val (.int p2), .val (.int (1 : Int32)), .val (.int (2 : Int32)), .val (.ref w_TERM), .unset, .unset] [(.int (2 : Int32))])
      refine own_callS X51 hx hZ (y := (⟨"com/example/term_weight_evolver/termweightevolver/formula/ScopeWithPinLaw", "of", "(I)Lcom/example/term_weight_evolver/termweightevolver/formula/Statistic$Scope;"⟩ : MethodName)) hown (hw _ (List.mem_of_getElem? (i := 0) rfl)) (hw _ (List.mem_of_getElem? (i := 1) rfl)) (hw _ (List.mem_of_getElem? (i := 2) rfl)) (hw _ (List.mem_of_getElem? (i := 3) rfl)) (by decide) (rm1 l Z a0 hw [] (2 : Int32) w_COLLECTION w_POSTING w_DOCUMENT w_TERM (.ref w_DOCUMENT) h0 n0 hn0 S_COLLECTION S_POSTING S_DOCUMENT S_TERM (by rw [own_f_rm1, if_neg (show ¬ ((2 : Int32) = (0 : Int32)) by decide), if_neg (show ¬ ((2 : Int32) = (1 : Int32)) by decide), if_pos (show (2 : Int32) = (2 : Int32) from rfl)]; try first | rfl | decide)) e51 (by rw [hml]; rfl) (argsL := [(.int (2 : Int32))]) (rest := []) rfl rfl (lenOf own_pd0 rfl) (W := 0) (Nat.le_of_eq rfl) (by decide) (by decide) (hb hby at_15) (by decide) (by decide) ?_
      intro v52 T52 L52 X52 q52
      obtain ⟨rfl, N52q, e52⟩ := q52
      have N52 := Fr.app N51 N52q
      show Go _ _ _ _ _ T52 (mkF m 18 #[.val (.int p1), .val (.int p2), .val (.int (1 : Int32)), .val (.int (2 : Int32)), .val (.ref w_TERM), .unset, .unset] [(.ref w_DOCUMENT)])
      refine own_go (fun t k => XS.astore X52.here hx rfl (hb hby at_18) rfl rfl (l' := #[.val (.int p1), .val (.int p2), .val (.int (1 : Int32)), .val (.int (2 : Int32)), .val (.ref w_TERM), .val (.ref w_DOCUMENT), .unset]) rfl k) ?_
      show Go _ _ _ _ _ T52 (mkF m 20 #[.val (.int p1), .val (.int p2), .val (.int (1 : Int32)), .val (.int (2 : Int32)), .val (.ref w_TERM), .val (.ref w_DOCUMENT), .unset] [])
      refine own_go (fun t k => XS.aload X52.here hx rfl (hb hby at_20) rfl rfl k) ?_
      show Go _ _ _ _ _ T52 (mkF m 22 #[.val (.int p1), .val (.int p2), .val (.int (1 : Int32)), .val (.int (2 : Int32)), .val (.ref w_TERM), .val (.ref w_DOCUMENT), .unset] [(.ref w_TERM)])
      refine own_go (fun t k => XS.aload X52.here hx rfl (hb hby at_22) rfl rfl k) ?_
      show Go _ _ _ _ _ T52 (mkF m 24 #[.val (.int p1), .val (.int p2), .val (.int (1 : Int32)), .val (.int (2 : Int32)), .val (.ref w_TERM), .val (.ref w_DOCUMENT), .unset] [(.ref w_DOCUMENT), (.ref w_TERM)])
      refine own_callV X52 hx hZ (y := (⟨"com/example/term_weight_evolver/termweightevolver/formula/Statistic$Scope", "with", "(Lcom/example/term_weight_evolver/termweightevolver/formula/Statistic$Scope;)Lcom/example/term_weight_evolver/termweightevolver/formula/Statistic$Scope;"⟩ : MethodName)) hown (hw _ (List.mem_of_getElem? (i := 9) rfl)) (hw _ (List.mem_of_getElem? (i := 10) rfl)) (hw _ (List.mem_of_getElem? (i := 12) rfl)) (hw _ (List.mem_of_getElem? (i := 11) rfl)) (hw _ (List.mem_of_getElem? (i := 13) rfl)) (hw _ (List.mem_of_getElem? (i := 5) rfl)) (by decide) (rm2 l Z a0 hw [] w_TERM w_DOCUMENT w_COLLECTION w_POSTING w_DOCUMENT w_TERM (.ref w_POSTING) h0 n0 hn0 S_COLLECTION S_POSTING S_DOCUMENT S_TERM (by rw [own_f_rm2, if_neg D_w_DOCUMENT_w_TERM, if_neg (fun q => D_w_COLLECTION_w_DOCUMENT q.symm), if_neg (fun q => D_w_COLLECTION_w_TERM q.symm)]; try first | rfl | decide)) e52 E_TERM (by rw [hml]; rfl) (argsL := [(.ref w_DOCUMENT)]) (rest := []) rfl rfl (lenOf own_pd1 rfl) (W := 0) (Nat.le_of_eq rfl) (by decide) (by decide) (hb hby at_24) (by decide) (by decide) ?_
      intro v53 T53 L53 X53 q53
      obtain ⟨rfl, N53q, e53⟩ := q53
      have N53 := Fr.app N52 N53q
      show Go _ _ _ _ _ T53 (mkF m 27 #[.val (.int p1), .val (.int p2), .val (.int (1 : Int32)), .val (.int (2 : Int32)), .val (.ref w_TERM), .val (.ref w_DOCUMENT), .unset] [(.ref w_POSTING)])
      refine own_go (fun t k => XS.astore X53.here hx rfl (hb hby at_27) rfl rfl (l' := #[.val (.int p1), .val (.int p2), .val (.int (1 : Int32)), .val (.int (2 : Int32)), .val (.ref w_TERM), .val (.ref w_DOCUMENT), .val (.ref w_POSTING)]) rfl k) ?_
      show Go _ _ _ _ _ T53 (mkF m 29 #[.val (.int p1), .val (.int p2), .val (.int (1 : Int32)), .val (.int (2 : Int32)), .val (.ref w_TERM), .val (.ref w_DOCUMENT), .val (.ref w_POSTING)] [])
      refine own_go (fun t k => XS.aload X53.here hx rfl (hb hby at_29) rfl rfl k) ?_
      show Go _ _ _ _ _ T53 (mkF m 31 #[.val (.int p1), .val (.int p2), .val (.int (1 : Int32)), .val (.int (2 : Int32)), .val (.ref w_TERM), .val (.ref w_DOCUMENT), .val (.ref w_POSTING)] [(.ref w_POSTING)])
      refine own_go (fun t k => XS.iloadN X53.here hx rfl (hb hby at_31) rfl k) ?_
      show Go _ _ _ _ _ T53 (mkF m 32 #[.val (.int p1), .val (.int p2), .val (.int (1 : Int32)), .val (.int (2 : Int32)), .val (.ref w_TERM), .val (.ref w_DOCUMENT), .val (.ref w_POSTING)] [(.int (1 : Int32)), (.ref w_POSTING)])
      refine own_go (fun t k => XS.iloadN X53.here hx rfl (hb hby at_32) rfl k) ?_
      show Go _ _ _ _ _ T53 (mkF m 33 #[.val (.int p1), .val (.int p2), .val (.int (1 : Int32)), .val (.int (2 : Int32)), .val (.ref w_TERM), .val (.ref w_DOCUMENT), .val (.ref w_POSTING)] [(.int (2 : Int32)), (.int (1 : Int32)), (.ref w_POSTING)])
      refine own_go (fun t k => XS.ior X53.here hx rfl (hb hby at_33) rfl k) ?_
      show Go _ _ _ _ _ T53 (mkF m 34 #[.val (.int p1), .val (.int p2), .val (.int (1 : Int32)), .val (.int (2 : Int32)), .val (.ref w_TERM), .val (.ref w_DOCUMENT), .val (.ref w_POSTING)] [(.int (3 : Int32)), (.ref w_POSTING)])
      refine own_callS X53 hx hZ (y := (⟨"com/example/term_weight_evolver/termweightevolver/formula/ScopeWithPinLaw", "of", "(I)Lcom/example/term_weight_evolver/termweightevolver/formula/Statistic$Scope;"⟩ : MethodName)) hown (hw _ (List.mem_of_getElem? (i := 0) rfl)) (hw _ (List.mem_of_getElem? (i := 1) rfl)) (hw _ (List.mem_of_getElem? (i := 2) rfl)) (hw _ (List.mem_of_getElem? (i := 3) rfl)) (by decide) (rm1 l Z a0 hw [] (3 : Int32) w_COLLECTION w_POSTING w_DOCUMENT w_TERM (.ref w_POSTING) h0 n0 hn0 S_COLLECTION S_POSTING S_DOCUMENT S_TERM (by rw [own_f_rm1, if_neg (show ¬ ((3 : Int32) = (0 : Int32)) by decide), if_neg (show ¬ ((3 : Int32) = (1 : Int32)) by decide), if_neg (show ¬ ((3 : Int32) = (2 : Int32)) by decide)]; try first | rfl | decide)) e53 (by rw [hml]; rfl) (argsL := [(.int (3 : Int32))]) (rest := [(.ref w_POSTING)]) rfl rfl (lenOf own_pd0 rfl) (W := 1) (Nat.le_of_eq rfl) (by decide) (by decide) (hb hby at_34) (by decide) (by decide) ?_
      intro v54 T54 L54 X54 q54
      obtain ⟨rfl, N54q, e54⟩ := q54
      have N54 := Fr.app N53 N54q
      show Go _ _ _ _ _ T54 (mkF m 37 #[.val (.int p1), .val (.int p2), .val (.int (1 : Int32)), .val (.int (2 : Int32)), .val (.ref w_TERM), .val (.ref w_DOCUMENT), .val (.ref w_POSTING)] [(.ref w_POSTING), (.ref w_POSTING)])
      refine own_go (fun t k => Jvm.RoadKit.acmp (g := (mkF m 37 #[.val (.int p1), .val (.int p2), .val (.int (1 : Int32)), .val (.int (2 : Int32)), .val (.ref w_TERM), .val (.ref w_DOCUMENT), .val (.ref w_POSTING)] [(.ref w_POSTING), (.ref w_POSTING)])) X54 hx rfl rfl rfl (pc0 := 37) (pc' := 40) (same := true) rfl (hb hby at_37) rfl (decide_eq_true rfl) (by decide) (by decide) k) ?_
      show Go _ _ _ _ _ T54 (mkF m 40 #[.val (.int p1), .val (.int p2), .val (.int (1 : Int32)), .val (.int (2 : Int32)), .val (.ref w_TERM), .val (.ref w_DOCUMENT), .val (.ref w_POSTING)] [])
      refine own_go (fun t k => XS.iconst X54.here hx rfl (hb hby at_40) k) ?_
      show Go _ _ _ _ _ T54 (mkF m 41 #[.val (.int p1), .val (.int p2), .val (.int (1 : Int32)), .val (.int (2 : Int32)), .val (.ref w_TERM), .val (.ref w_DOCUMENT), .val (.ref w_POSTING)] [(.int (1 : Int32))])
      refine own_go (fun t k => XS.goto X54.here hx rfl (pc0 := 41) (pc' := 45) rfl (hb hby at_41) (by decide) (by decide) k) ?_
      show Go _ _ _ _ _ T54 (mkF m 45 #[.val (.int p1), .val (.int p2), .val (.int (1 : Int32)), .val (.int (2 : Int32)), .val (.ref w_TERM), .val (.ref w_DOCUMENT), .val (.ref w_POSTING)] [(.int (1 : Int32))])
      refine own_retN X54 hx (own_lvN X54 hlk (by decide) (by decide)) (t := .boolean) hret (by simp) (hb hby at_45) ?_
      exact ⟨rfl, N54⟩
    · skip
      show Go _ _ _ _ _ s₁ (mkF m 8 #[.val (.int p1), .val (.int p2), .val (.int (1 : Int32)), .val (.int (3 : Int32)), .unset, .unset, .unset] [])
      refine own_go (fun t k => XS.iloadN X0.here hx rfl (hb hby at_8) rfl k) ?_
      show Go _ _ _ _ _ s₁ (mkF m 9 #[.val (.int p1), .val (.int p2), .val (.int (1 : Int32)), .val (.int (3 : Int32)), .unset, .unset, .unset] [(.int (1 : Int32))])
      refine own_callS X0 hx hZ (y := (⟨"com/example/term_weight_evolver/termweightevolver/formula/ScopeWithPinLaw", "of", "(I)Lcom/example/term_weight_evolver/termweightevolver/formula/Statistic$Scope;"⟩ : MethodName)) hown (hw _ (List.mem_of_getElem? (i := 0) rfl)) (hw _ (List.mem_of_getElem? (i := 1) rfl)) (hw _ (List.mem_of_getElem? (i := 2) rfl)) (hw _ (List.mem_of_getElem? (i := 3) rfl)) (by decide) (rm1 l Z a0 hw [] (1 : Int32) w_COLLECTION w_POSTING w_DOCUMENT w_TERM (.ref w_TERM) h0 n0 hn0 S_COLLECTION S_POSTING S_DOCUMENT S_TERM (by rw [own_f_rm1, if_neg (show ¬ ((1 : Int32) = (0 : Int32)) by decide), if_pos (show (1 : Int32) = (1 : Int32) from rfl)]; try first | rfl | decide)) e0 (by rw [hml]; rfl) (argsL := [(.int (1 : Int32))]) (rest := []) rfl rfl (lenOf own_pd0 rfl) (W := 0) (Nat.le_of_eq rfl) (by decide) (by decide) (hb hby at_9) (by decide) (by decide) ?_
      intro v55 T55 L55 X55 q55
      obtain ⟨rfl, N55q, e55⟩ := q55
      have N55 := Fr.app N0 N55q
      show Go _ _ _ _ _ T55 (mkF m 12 #[.val (.int p1), .val (.int p2), .val (.int (1 : Int32)), .val (.int (3 : Int32)), .unset, .unset, .unset] [(.ref w_TERM)])
      refine own_go (fun t k => XS.astore X55.here hx rfl (hb hby at_12) rfl rfl (l' := #[.val (.int p1), .val (.int p2), .val (.int (1 : Int32)), .val (.int (3 : Int32)), .val (.ref w_TERM), .unset, .unset]) rfl k) ?_
      show Go _ _ _ _ _ T55 (mkF m 14 #[.val (.int p1), .val (.int p2), .val (.int (1 : Int32)), .val (.int (3 : Int32)), .val (.ref w_TERM), .unset, .unset] [])
      refine own_go (fun t k => XS.iloadN X55.here hx rfl (hb hby at_14) rfl k) ?_
      show Go _ _ _ _ _ T55 (mkF m 15 #[.val (.int p1), .val (.int p2), .val (.int (1 : Int32)), .val (.int (3 : Int32)), .val (.ref w_TERM), .unset, .unset] [(.int (3 : Int32))])
      refine own_callS X55 hx hZ (y := (⟨"com/example/term_weight_evolver/termweightevolver/formula/ScopeWithPinLaw", "of", "(I)Lcom/example/term_weight_evolver/termweightevolver/formula/Statistic$Scope;"⟩ : MethodName)) hown (hw _ (List.mem_of_getElem? (i := 0) rfl)) (hw _ (List.mem_of_getElem? (i := 1) rfl)) (hw _ (List.mem_of_getElem? (i := 2) rfl)) (hw _ (List.mem_of_getElem? (i := 3) rfl)) (by decide) (rm1 l Z a0 hw [] (3 : Int32) w_COLLECTION w_POSTING w_DOCUMENT w_TERM (.ref w_POSTING) h0 n0 hn0 S_COLLECTION S_POSTING S_DOCUMENT S_TERM (by rw [own_f_rm1, if_neg (show ¬ ((3 : Int32) = (0 : Int32)) by decide), if_neg (show ¬ ((3 : Int32) = (1 : Int32)) by decide), if_neg (show ¬ ((3 : Int32) = (2 : Int32)) by decide)]; try first | rfl | decide)) e55 (by rw [hml]; rfl) (argsL := [(.int (3 : Int32))]) (rest := []) rfl rfl (lenOf own_pd0 rfl) (W := 0) (Nat.le_of_eq rfl) (by decide) (by decide) (hb hby at_15) (by decide) (by decide) ?_
      intro v56 T56 L56 X56 q56
      obtain ⟨rfl, N56q, e56⟩ := q56
      have N56 := Fr.app N55 N56q
      show Go _ _ _ _ _ T56 (mkF m 18 #[.val (.int p1), .val (.int p2), .val (.int (1 : Int32)), .val (.int (3 : Int32)), .val (.ref w_TERM), .unset, .unset] [(.ref w_POSTING)])
      refine own_go (fun t k => XS.astore X56.here hx rfl (hb hby at_18) rfl rfl (l' := #[.val (.int p1), .val (.int p2), .val (.int (1 : Int32)), .val (.int (3 : Int32)), .val (.ref w_TERM), .val (.ref w_POSTING), .unset]) rfl k) ?_
      show Go _ _ _ _ _ T56 (mkF m 20 #[.val (.int p1), .val (.int p2), .val (.int (1 : Int32)), .val (.int (3 : Int32)), .val (.ref w_TERM), .val (.ref w_POSTING), .unset] [])
      refine own_go (fun t k => XS.aload X56.here hx rfl (hb hby at_20) rfl rfl k) ?_
      show Go _ _ _ _ _ T56 (mkF m 22 #[.val (.int p1), .val (.int p2), .val (.int (1 : Int32)), .val (.int (3 : Int32)), .val (.ref w_TERM), .val (.ref w_POSTING), .unset] [(.ref w_TERM)])
      refine own_go (fun t k => XS.aload X56.here hx rfl (hb hby at_22) rfl rfl k) ?_
      show Go _ _ _ _ _ T56 (mkF m 24 #[.val (.int p1), .val (.int p2), .val (.int (1 : Int32)), .val (.int (3 : Int32)), .val (.ref w_TERM), .val (.ref w_POSTING), .unset] [(.ref w_POSTING), (.ref w_TERM)])
      refine own_callV X56 hx hZ (y := (⟨"com/example/term_weight_evolver/termweightevolver/formula/Statistic$Scope", "with", "(Lcom/example/term_weight_evolver/termweightevolver/formula/Statistic$Scope;)Lcom/example/term_weight_evolver/termweightevolver/formula/Statistic$Scope;"⟩ : MethodName)) hown (hw _ (List.mem_of_getElem? (i := 9) rfl)) (hw _ (List.mem_of_getElem? (i := 10) rfl)) (hw _ (List.mem_of_getElem? (i := 12) rfl)) (hw _ (List.mem_of_getElem? (i := 11) rfl)) (hw _ (List.mem_of_getElem? (i := 13) rfl)) (hw _ (List.mem_of_getElem? (i := 5) rfl)) (by decide) (rm2 l Z a0 hw [] w_TERM w_POSTING w_COLLECTION w_POSTING w_DOCUMENT w_TERM (.ref w_POSTING) h0 n0 hn0 S_COLLECTION S_POSTING S_DOCUMENT S_TERM (by rw [own_f_rm2, if_neg D_w_POSTING_w_TERM, if_neg (fun q => D_w_COLLECTION_w_POSTING q.symm), if_neg (fun q => D_w_COLLECTION_w_TERM q.symm)]; try first | rfl | decide)) e56 E_TERM (by rw [hml]; rfl) (argsL := [(.ref w_POSTING)]) (rest := []) rfl rfl (lenOf own_pd1 rfl) (W := 0) (Nat.le_of_eq rfl) (by decide) (by decide) (hb hby at_24) (by decide) (by decide) ?_
      intro v57 T57 L57 X57 q57
      obtain ⟨rfl, N57q, e57⟩ := q57
      have N57 := Fr.app N56 N57q
      show Go _ _ _ _ _ T57 (mkF m 27 #[.val (.int p1), .val (.int p2), .val (.int (1 : Int32)), .val (.int (3 : Int32)), .val (.ref w_TERM), .val (.ref w_POSTING), .unset] [(.ref w_POSTING)])
      refine own_go (fun t k => XS.astore X57.here hx rfl (hb hby at_27) rfl rfl (l' := #[.val (.int p1), .val (.int p2), .val (.int (1 : Int32)), .val (.int (3 : Int32)), .val (.ref w_TERM), .val (.ref w_POSTING), .val (.ref w_POSTING)]) rfl k) ?_
      show Go _ _ _ _ _ T57 (mkF m 29 #[.val (.int p1), .val (.int p2), .val (.int (1 : Int32)), .val (.int (3 : Int32)), .val (.ref w_TERM), .val (.ref w_POSTING), .val (.ref w_POSTING)] [])
      refine own_go (fun t k => XS.aload X57.here hx rfl (hb hby at_29) rfl rfl k) ?_
      show Go _ _ _ _ _ T57 (mkF m 31 #[.val (.int p1), .val (.int p2), .val (.int (1 : Int32)), .val (.int (3 : Int32)), .val (.ref w_TERM), .val (.ref w_POSTING), .val (.ref w_POSTING)] [(.ref w_POSTING)])
      refine own_go (fun t k => XS.iloadN X57.here hx rfl (hb hby at_31) rfl k) ?_
      show Go _ _ _ _ _ T57 (mkF m 32 #[.val (.int p1), .val (.int p2), .val (.int (1 : Int32)), .val (.int (3 : Int32)), .val (.ref w_TERM), .val (.ref w_POSTING), .val (.ref w_POSTING)] [(.int (1 : Int32)), (.ref w_POSTING)])
      refine own_go (fun t k => XS.iloadN X57.here hx rfl (hb hby at_32) rfl k) ?_
      show Go _ _ _ _ _ T57 (mkF m 33 #[.val (.int p1), .val (.int p2), .val (.int (1 : Int32)), .val (.int (3 : Int32)), .val (.ref w_TERM), .val (.ref w_POSTING), .val (.ref w_POSTING)] [(.int (3 : Int32)), (.int (1 : Int32)), (.ref w_POSTING)])
      refine own_go (fun t k => XS.ior X57.here hx rfl (hb hby at_33) rfl k) ?_
      show Go _ _ _ _ _ T57 (mkF m 34 #[.val (.int p1), .val (.int p2), .val (.int (1 : Int32)), .val (.int (3 : Int32)), .val (.ref w_TERM), .val (.ref w_POSTING), .val (.ref w_POSTING)] [(.int (3 : Int32)), (.ref w_POSTING)])
      refine own_callS X57 hx hZ (y := (⟨"com/example/term_weight_evolver/termweightevolver/formula/ScopeWithPinLaw", "of", "(I)Lcom/example/term_weight_evolver/termweightevolver/formula/Statistic$Scope;"⟩ : MethodName)) hown (hw _ (List.mem_of_getElem? (i := 0) rfl)) (hw _ (List.mem_of_getElem? (i := 1) rfl)) (hw _ (List.mem_of_getElem? (i := 2) rfl)) (hw _ (List.mem_of_getElem? (i := 3) rfl)) (by decide) (rm1 l Z a0 hw [] (3 : Int32) w_COLLECTION w_POSTING w_DOCUMENT w_TERM (.ref w_POSTING) h0 n0 hn0 S_COLLECTION S_POSTING S_DOCUMENT S_TERM (by rw [own_f_rm1, if_neg (show ¬ ((3 : Int32) = (0 : Int32)) by decide), if_neg (show ¬ ((3 : Int32) = (1 : Int32)) by decide), if_neg (show ¬ ((3 : Int32) = (2 : Int32)) by decide)]; try first | rfl | decide)) e57 (by rw [hml]; rfl) (argsL := [(.int (3 : Int32))]) (rest := [(.ref w_POSTING)]) rfl rfl (lenOf own_pd0 rfl) (W := 1) (Nat.le_of_eq rfl) (by decide) (by decide) (hb hby at_34) (by decide) (by decide) ?_
      intro v58 T58 L58 X58 q58
      obtain ⟨rfl, N58q, e58⟩ := q58
      have N58 := Fr.app N57 N58q
      show Go _ _ _ _ _ T58 (mkF m 37 #[.val (.int p1), .val (.int p2), .val (.int (1 : Int32)), .val (.int (3 : Int32)), .val (.ref w_TERM), .val (.ref w_POSTING), .val (.ref w_POSTING)] [(.ref w_POSTING), (.ref w_POSTING)])
      refine own_go (fun t k => Jvm.RoadKit.acmp (g := (mkF m 37 #[.val (.int p1), .val (.int p2), .val (.int (1 : Int32)), .val (.int (3 : Int32)), .val (.ref w_TERM), .val (.ref w_POSTING), .val (.ref w_POSTING)] [(.ref w_POSTING), (.ref w_POSTING)])) X58 hx rfl rfl rfl (pc0 := 37) (pc' := 40) (same := true) rfl (hb hby at_37) rfl (decide_eq_true rfl) (by decide) (by decide) k) ?_
      show Go _ _ _ _ _ T58 (mkF m 40 #[.val (.int p1), .val (.int p2), .val (.int (1 : Int32)), .val (.int (3 : Int32)), .val (.ref w_TERM), .val (.ref w_POSTING), .val (.ref w_POSTING)] [])
      refine own_go (fun t k => XS.iconst X58.here hx rfl (hb hby at_40) k) ?_
      show Go _ _ _ _ _ T58 (mkF m 41 #[.val (.int p1), .val (.int p2), .val (.int (1 : Int32)), .val (.int (3 : Int32)), .val (.ref w_TERM), .val (.ref w_POSTING), .val (.ref w_POSTING)] [(.int (1 : Int32))])
      refine own_go (fun t k => XS.goto X58.here hx rfl (pc0 := 41) (pc' := 45) rfl (hb hby at_41) (by decide) (by decide) k) ?_
      show Go _ _ _ _ _ T58 (mkF m 45 #[.val (.int p1), .val (.int p2), .val (.int (1 : Int32)), .val (.int (3 : Int32)), .val (.ref w_TERM), .val (.ref w_POSTING), .val (.ref w_POSTING)] [(.int (1 : Int32))])
      refine own_retN X58 hx (own_lvN X58 hlk (by decide) (by decide)) (t := .boolean) hret (by simp) (hb hby at_45) ?_
      exact ⟨rfl, N58⟩
  · skip
    show Go _ _ _ _ _ s₁ (mkF m 4 #[.val (.int p1), .val (.int p2), .val (.int (2 : Int32)), .unset, .unset, .unset, .unset] [])
    refine own_go (fun t k => XS.iloadN X0.here hx rfl (hb hby at_4) rfl k) ?_
    show Go _ _ _ _ _ s₁ (mkF m 5 #[.val (.int p1), .val (.int p2), .val (.int (2 : Int32)), .unset, .unset, .unset, .unset] [(.int p2)])
    refine own_go (fun t k => XS.iconst X0.here hx rfl (hb hby at_5) k) ?_
    show Go _ _ _ _ _ s₁ (mkF m 6 #[.val (.int p1), .val (.int p2), .val (.int (2 : Int32)), .unset, .unset, .unset, .unset] [(.int (3 : Int32)), (.int p2)])
    refine own_go (fun t k => XS.iand X0.here hx rfl (hb hby at_6) rfl k) ?_
    show Go _ _ _ _ _ s₁ (mkF m 7 #[.val (.int p1), .val (.int p2), .val (.int (2 : Int32)), .unset, .unset, .unset, .unset] [(.int (p2 &&& (3 : Int32)))])
    refine own_go (fun t k => XS.istoreN X0.here hx rfl (hb hby at_7) rfl (l' := #[.val (.int p1), .val (.int p2), .val (.int (2 : Int32)), .val (.int (p2 &&& (3 : Int32))), .unset, .unset, .unset]) rfl k) ?_
    have hi := own_and3 p2
    generalize (p2 &&& (3 : Int32)) = i at hi ⊢
    rcases hi with rfl | rfl | rfl | rfl
    · skip
      show Go _ _ _ _ _ s₁ (mkF m 8 #[.val (.int p1), .val (.int p2), .val (.int (2 : Int32)), .val (.int (0 : Int32)), .unset, .unset, .unset] [])
      refine own_go (fun t k => XS.iloadN X0.here hx rfl (hb hby at_8) rfl k) ?_
      show Go _ _ _ _ _ s₁ (mkF m 9 #[.val (.int p1), .val (.int p2), .val (.int (2 : Int32)), .val (.int (0 : Int32)), .unset, .unset, .unset] [(.int (2 : Int32))])
      refine own_callS X0 hx hZ (y := (⟨"com/example/term_weight_evolver/termweightevolver/formula/ScopeWithPinLaw", "of", "(I)Lcom/example/term_weight_evolver/termweightevolver/formula/Statistic$Scope;"⟩ : MethodName)) hown (hw _ (List.mem_of_getElem? (i := 0) rfl)) (hw _ (List.mem_of_getElem? (i := 1) rfl)) (hw _ (List.mem_of_getElem? (i := 2) rfl)) (hw _ (List.mem_of_getElem? (i := 3) rfl)) (by decide) (rm1 l Z a0 hw [] (2 : Int32) w_COLLECTION w_POSTING w_DOCUMENT w_TERM (.ref w_DOCUMENT) h0 n0 hn0 S_COLLECTION S_POSTING S_DOCUMENT S_TERM (by rw [own_f_rm1, if_neg (show ¬ ((2 : Int32) = (0 : Int32)) by decide), if_neg (show ¬ ((2 : Int32) = (1 : Int32)) by decide), if_pos (show (2 : Int32) = (2 : Int32) from rfl)]; try first | rfl | decide)) e0 (by rw [hml]; rfl) (argsL := [(.int (2 : Int32))]) (rest := []) rfl rfl (lenOf own_pd0 rfl) (W := 0) (Nat.le_of_eq rfl) (by decide) (by decide) (hb hby at_9) (by decide) (by decide) ?_
      intro v59 T59 L59 X59 q59
      obtain ⟨rfl, N59q, e59⟩ := q59
      have N59 := Fr.app N0 N59q
      show Go _ _ _ _ _ T59 (mkF m 12 #[.val (.int p1), .val (.int p2), .val (.int (2 : Int32)), .val (.int (0 : Int32)), .unset, .unset, .unset] [(.ref w_DOCUMENT)])
      refine own_go (fun t k => XS.astore X59.here hx rfl (hb hby at_12) rfl rfl (l' := #[.val (.int p1), .val (.int p2), .val (.int (2 : Int32)), .val (.int (0 : Int32)), .val (.ref w_DOCUMENT), .unset, .unset]) rfl k) ?_
      show Go _ _ _ _ _ T59 (mkF m 14 #[.val (.int p1), .val (.int p2), .val (.int (2 : Int32)), .val (.int (0 : Int32)), .val (.ref w_DOCUMENT), .unset, .unset] [])
      refine own_go (fun t k => XS.iloadN X59.here hx rfl (hb hby at_14) rfl k) ?_
      show Go _ _ _ _ _ T59 (mkF m 15 #[.val (.int p1), .val (.int p2), .val (.int (2 : Int32)), .val (.int (0 : Int32)), .val (.ref w_DOCUMENT), .unset, .unset] [(.int (0 : Int32))])
      refine own_callS X59 hx hZ (y := (⟨"com/example/term_weight_evolver/termweightevolver/formula/ScopeWithPinLaw", "of", "(I)Lcom/example/term_weight_evolver/termweightevolver/formula/Statistic$Scope;"⟩ : MethodName)) hown (hw _ (List.mem_of_getElem? (i := 0) rfl)) (hw _ (List.mem_of_getElem? (i := 1) rfl)) (hw _ (List.mem_of_getElem? (i := 2) rfl)) (hw _ (List.mem_of_getElem? (i := 3) rfl)) (by decide) (rm1 l Z a0 hw [] (0 : Int32) w_COLLECTION w_POSTING w_DOCUMENT w_TERM (.ref w_COLLECTION) h0 n0 hn0 S_COLLECTION S_POSTING S_DOCUMENT S_TERM (by rw [own_f_rm1, if_pos (show (0 : Int32) = (0 : Int32) from rfl)]; try first | rfl | decide)) e59 (by rw [hml]; rfl) (argsL := [(.int (0 : Int32))]) (rest := []) rfl rfl (lenOf own_pd0 rfl) (W := 0) (Nat.le_of_eq rfl) (by decide) (by decide) (hb hby at_15) (by decide) (by decide) ?_
      intro v60 T60 L60 X60 q60
      obtain ⟨rfl, N60q, e60⟩ := q60
      have N60 := Fr.app N59 N60q
      show Go _ _ _ _ _ T60 (mkF m 18 #[.val (.int p1), .val (.int p2), .val (.int (2 : Int32)), .val (.int (0 : Int32)), .val (.ref w_DOCUMENT), .unset, .unset] [(.ref w_COLLECTION)])
      refine own_go (fun t k => XS.astore X60.here hx rfl (hb hby at_18) rfl rfl (l' := #[.val (.int p1), .val (.int p2), .val (.int (2 : Int32)), .val (.int (0 : Int32)), .val (.ref w_DOCUMENT), .val (.ref w_COLLECTION), .unset]) rfl k) ?_
      show Go _ _ _ _ _ T60 (mkF m 20 #[.val (.int p1), .val (.int p2), .val (.int (2 : Int32)), .val (.int (0 : Int32)), .val (.ref w_DOCUMENT), .val (.ref w_COLLECTION), .unset] [])
      refine own_go (fun t k => XS.aload X60.here hx rfl (hb hby at_20) rfl rfl k) ?_
      show Go _ _ _ _ _ T60 (mkF m 22 #[.val (.int p1), .val (.int p2), .val (.int (2 : Int32)), .val (.int (0 : Int32)), .val (.ref w_DOCUMENT), .val (.ref w_COLLECTION), .unset] [(.ref w_DOCUMENT)])
      refine own_go (fun t k => XS.aload X60.here hx rfl (hb hby at_22) rfl rfl k) ?_
      show Go _ _ _ _ _ T60 (mkF m 24 #[.val (.int p1), .val (.int p2), .val (.int (2 : Int32)), .val (.int (0 : Int32)), .val (.ref w_DOCUMENT), .val (.ref w_COLLECTION), .unset] [(.ref w_COLLECTION), (.ref w_DOCUMENT)])
      refine own_callV X60 hx hZ (y := (⟨"com/example/term_weight_evolver/termweightevolver/formula/Statistic$Scope", "with", "(Lcom/example/term_weight_evolver/termweightevolver/formula/Statistic$Scope;)Lcom/example/term_weight_evolver/termweightevolver/formula/Statistic$Scope;"⟩ : MethodName)) hown (hw _ (List.mem_of_getElem? (i := 9) rfl)) (hw _ (List.mem_of_getElem? (i := 10) rfl)) (hw _ (List.mem_of_getElem? (i := 12) rfl)) (hw _ (List.mem_of_getElem? (i := 11) rfl)) (hw _ (List.mem_of_getElem? (i := 13) rfl)) (hw _ (List.mem_of_getElem? (i := 5) rfl)) (by decide) (rm2 l Z a0 hw [] w_DOCUMENT w_COLLECTION w_COLLECTION w_POSTING w_DOCUMENT w_TERM (.ref w_DOCUMENT) h0 n0 hn0 S_COLLECTION S_POSTING S_DOCUMENT S_TERM (by rw [own_f_rm2, if_neg D_w_COLLECTION_w_DOCUMENT, if_pos (show w_COLLECTION = w_COLLECTION from rfl)]; try first | rfl | decide)) e60 E_DOCUMENT (by rw [hml]; rfl) (argsL := [(.ref w_COLLECTION)]) (rest := []) rfl rfl (lenOf own_pd1 rfl) (W := 0) (Nat.le_of_eq rfl) (by decide) (by decide) (hb hby at_24) (by decide) (by decide) ?_
      intro v61 T61 L61 X61 q61
      obtain ⟨rfl, N61q, e61⟩ := q61
      have N61 := Fr.app N60 N61q
      show Go _ _ _ _ _ T61 (mkF m 27 #[.val (.int p1), .val (.int p2), .val (.int (2 : Int32)), .val (.int (0 : Int32)), .val (.ref w_DOCUMENT), .val (.ref w_COLLECTION), .unset] [(.ref w_DOCUMENT)])
      refine own_go (fun t k => XS.astore X61.here hx rfl (hb hby at_27) rfl rfl (l' := #[.val (.int p1), .val (.int p2), .val (.int (2 : Int32)), .val (.int (0 : Int32)), .val (.ref w_DOCUMENT), .val (.ref w_COLLECTION), .val (.ref w_DOCUMENT)]) rfl k) ?_
      show Go _ _ _ _ _ T61 (mkF m 29 #[.val (.int p1), .val (.int p2), .val (.int (2 : Int32)), .val (.int (0 : Int32)), .val (.ref w_DOCUMENT), .val (.ref w_COLLECTION), .val (.ref w_DOCUMENT)] [])
      refine own_go (fun t k => XS.aload X61.here hx rfl (hb hby at_29) rfl rfl k) ?_
      show Go _ _ _ _ _ T61 (mkF m 31 #[.val (.int p1), .val (.int p2), .val (.int (2 : Int32)), .val (.int (0 : Int32)), .val (.ref w_DOCUMENT), .val (.ref w_COLLECTION), .val (.ref w_DOCUMENT)] [(.ref w_DOCUMENT)])
      refine own_go (fun t k => XS.iloadN X61.here hx rfl (hb hby at_31) rfl k) ?_
      show Go _ _ _ _ _ T61 (mkF m 32 #[.val (.int p1), .val (.int p2), .val (.int (2 : Int32)), .val (.int (0 : Int32)), .val (.ref w_DOCUMENT), .val (.ref w_COLLECTION), .val (.ref w_DOCUMENT)] [(.int (2 : Int32)), (.ref w_DOCUMENT)])
      refine own_go (fun t k => XS.iloadN X61.here hx rfl (hb hby at_32) rfl k) ?_
      show Go _ _ _ _ _ T61 (mkF m 33 #[.val (.int p1), .val (.int p2), .val (.int (2 : Int32)), .val (.int (0 : Int32)), .val (.ref w_DOCUMENT), .val (.ref w_COLLECTION), .val (.ref w_DOCUMENT)] [(.int (0 : Int32)), (.int (2 : Int32)), (.ref w_DOCUMENT)])
      refine own_go (fun t k => XS.ior X61.here hx rfl (hb hby at_33) rfl k) ?_
      show Go _ _ _ _ _ T61 (mkF m 34 #[.val (.int p1), .val (.int p2), .val (.int (2 : Int32)), .val (.int (0 : Int32)), .val (.ref w_DOCUMENT), .val (.ref w_COLLECTION), .val (.ref w_DOCUMENT)] [(.int (2 : Int32)), (.ref w_DOCUMENT)])
      refine own_callS X61 hx hZ (y := (⟨"com/example/term_weight_evolver/termweightevolver/formula/ScopeWithPinLaw", "of", "(I)Lcom/example/term_weight_evolver/termweightevolver/formula/Statistic$Scope;"⟩ : MethodName)) hown (hw _ (List.mem_of_getElem? (i := 0) rfl)) (hw _ (List.mem_of_getElem? (i := 1) rfl)) (hw _ (List.mem_of_getElem? (i := 2) rfl)) (hw _ (List.mem_of_getElem? (i := 3) rfl)) (by decide) (rm1 l Z a0 hw [] (2 : Int32) w_COLLECTION w_POSTING w_DOCUMENT w_TERM (.ref w_DOCUMENT) h0 n0 hn0 S_COLLECTION S_POSTING S_DOCUMENT S_TERM (by rw [own_f_rm1, if_neg (show ¬ ((2 : Int32) = (0 : Int32)) by decide), if_neg (show ¬ ((2 : Int32) = (1 : Int32)) by decide), if_pos (show (2 : Int32) = (2 : Int32) from rfl)]; try first | rfl | decide)) e61 (by rw [hml]; rfl) (argsL := [(.int (2 : Int32))]) (rest := [(.ref w_DOCUMENT)]) rfl rfl (lenOf own_pd0 rfl) (W := 1) (Nat.le_of_eq rfl) (by decide) (by decide) (hb hby at_34) (by decide) (by decide) ?_
      intro v62 T62 L62 X62 q62
      obtain ⟨rfl, N62q, e62⟩ := q62
      have N62 := Fr.app N61 N62q
      show Go _ _ _ _ _ T62 (mkF m 37 #[.val (.int p1), .val (.int p2), .val (.int (2 : Int32)), .val (.int (0 : Int32)), .val (.ref w_DOCUMENT), .val (.ref w_COLLECTION), .val (.ref w_DOCUMENT)] [(.ref w_DOCUMENT), (.ref w_DOCUMENT)])
      refine own_go (fun t k => Jvm.RoadKit.acmp (g := (mkF m 37 #[.val (.int p1), .val (.int p2), .val (.int (2 : Int32)), .val (.int (0 : Int32)), .val (.ref w_DOCUMENT), .val (.ref w_COLLECTION), .val (.ref w_DOCUMENT)] [(.ref w_DOCUMENT), (.ref w_DOCUMENT)])) X62 hx rfl rfl rfl (pc0 := 37) (pc' := 40) (same := true) rfl (hb hby at_37) rfl (decide_eq_true rfl) (by decide) (by decide) k) ?_
      show Go _ _ _ _ _ T62 (mkF m 40 #[.val (.int p1), .val (.int p2), .val (.int (2 : Int32)), .val (.int (0 : Int32)), .val (.ref w_DOCUMENT), .val (.ref w_COLLECTION), .val (.ref w_DOCUMENT)] [])
      refine own_go (fun t k => XS.iconst X62.here hx rfl (hb hby at_40) k) ?_
      show Go _ _ _ _ _ T62 (mkF m 41 #[.val (.int p1), .val (.int p2), .val (.int (2 : Int32)), .val (.int (0 : Int32)), .val (.ref w_DOCUMENT), .val (.ref w_COLLECTION), .val (.ref w_DOCUMENT)] [(.int (1 : Int32))])
      refine own_go (fun t k => XS.goto X62.here hx rfl (pc0 := 41) (pc' := 45) rfl (hb hby at_41) (by decide) (by decide) k) ?_
      show Go _ _ _ _ _ T62 (mkF m 45 #[.val (.int p1), .val (.int p2), .val (.int (2 : Int32)), .val (.int (0 : Int32)), .val (.ref w_DOCUMENT), .val (.ref w_COLLECTION), .val (.ref w_DOCUMENT)] [(.int (1 : Int32))])
      refine own_retN X62 hx (own_lvN X62 hlk (by decide) (by decide)) (t := .boolean) hret (by simp) (hb hby at_45) ?_
      exact ⟨rfl, N62⟩
    · skip
      show Go _ _ _ _ _ s₁ (mkF m 8 #[.val (.int p1), .val (.int p2), .val (.int (2 : Int32)), .val (.int (1 : Int32)), .unset, .unset, .unset] [])
      refine own_go (fun t k => XS.iloadN X0.here hx rfl (hb hby at_8) rfl k) ?_
      show Go _ _ _ _ _ s₁ (mkF m 9 #[.val (.int p1), .val (.int p2), .val (.int (2 : Int32)), .val (.int (1 : Int32)), .unset, .unset, .unset] [(.int (2 : Int32))])
      refine own_callS X0 hx hZ (y := (⟨"com/example/term_weight_evolver/termweightevolver/formula/ScopeWithPinLaw", "of", "(I)Lcom/example/term_weight_evolver/termweightevolver/formula/Statistic$Scope;"⟩ : MethodName)) hown (hw _ (List.mem_of_getElem? (i := 0) rfl)) (hw _ (List.mem_of_getElem? (i := 1) rfl)) (hw _ (List.mem_of_getElem? (i := 2) rfl)) (hw _ (List.mem_of_getElem? (i := 3) rfl)) (by decide) (rm1 l Z a0 hw [] (2 : Int32) w_COLLECTION w_POSTING w_DOCUMENT w_TERM (.ref w_DOCUMENT) h0 n0 hn0 S_COLLECTION S_POSTING S_DOCUMENT S_TERM (by rw [own_f_rm1, if_neg (show ¬ ((2 : Int32) = (0 : Int32)) by decide), if_neg (show ¬ ((2 : Int32) = (1 : Int32)) by decide), if_pos (show (2 : Int32) = (2 : Int32) from rfl)]; try first | rfl | decide)) e0 (by rw [hml]; rfl) (argsL := [(.int (2 : Int32))]) (rest := []) rfl rfl (lenOf own_pd0 rfl) (W := 0) (Nat.le_of_eq rfl) (by decide) (by decide) (hb hby at_9) (by decide) (by decide) ?_
      intro v63 T63 L63 X63 q63
      obtain ⟨rfl, N63q, e63⟩ := q63
      have N63 := Fr.app N0 N63q
      show Go _ _ _ _ _ T63 (mkF m 12 #[.val (.int p1), .val (.int p2), .val (.int (2 : Int32)), .val (.int (1 : Int32)), .unset, .unset, .unset] [(.ref w_DOCUMENT)])
      refine own_go (fun t k => XS.astore X63.here hx rfl (hb hby at_12) rfl rfl (l' := #[.val (.int p1), .val (.int p2), .val (.int (2 : Int32)), .val (.int (1 : Int32)), .val (.ref w_DOCUMENT), .unset, .unset]) rfl k) ?_
      show Go _ _ _ _ _ T63 (mkF m 14 #[.val (.int p1), .val (.int p2), .val (.int (2 : Int32)), .val (.int (1 : Int32)), .val (.ref w_DOCUMENT), .unset, .unset] [])
      refine own_go (fun t k => XS.iloadN X63.here hx rfl (hb hby at_14) rfl k) ?_
      show Go _ _ _ _ _ T63 (mkF m 15 #[.val (.int p1), .val (.int p2), .val (.int (2 : Int32)), .val (.int (1 : Int32)), .val (.ref w_DOCUMENT), .unset, .unset] [(.int (1 : Int32))])
      refine own_callS X63 hx hZ (y := (⟨"com/example/term_weight_evolver/termweightevolver/formula/ScopeWithPinLaw", "of", "(I)Lcom/example/term_weight_evolver/termweightevolver/formula/Statistic$Scope;"⟩ : MethodName)) hown (hw _ (List.mem_of_getElem? (i := 0) rfl)) (hw _ (List.mem_of_getElem? (i := 1) rfl)) (hw _ (List.mem_of_getElem? (i := 2) rfl)) (hw _ (List.mem_of_getElem? (i := 3) rfl)) (by decide) (rm1 l Z a0 hw [] (1 : Int32) w_COLLECTION w_POSTING w_DOCUMENT w_TERM (.ref w_TERM) h0 n0 hn0 S_COLLECTION S_POSTING S_DOCUMENT S_TERM (by rw [own_f_rm1, if_neg (show ¬ ((1 : Int32) = (0 : Int32)) by decide), if_pos (show (1 : Int32) = (1 : Int32) from rfl)]; try first | rfl | decide)) e63 (by rw [hml]; rfl) (argsL := [(.int (1 : Int32))]) (rest := []) rfl rfl (lenOf own_pd0 rfl) (W := 0) (Nat.le_of_eq rfl) (by decide) (by decide) (hb hby at_15) (by decide) (by decide) ?_
      intro v64 T64 L64 X64 q64
      obtain ⟨rfl, N64q, e64⟩ := q64
      have N64 := Fr.app N63 N64q
      show Go _ _ _ _ _ T64 (mkF m 18 #[.val (.int p1), .val (.int p2), .val (.int (2 : Int32)), .val (.int (1 : Int32)), .val (.ref w_DOCUMENT), .unset, .unset] [(.ref w_TERM)])
      refine own_go (fun t k => XS.astore X64.here hx rfl (hb hby at_18) rfl rfl (l' := #[.val (.int p1), .val (.int p2), .val (.int (2 : Int32)), .val (.int (1 : Int32)), .val (.ref w_DOCUMENT), .val (.ref w_TERM), .unset]) rfl k) ?_
      show Go _ _ _ _ _ T64 (mkF m 20 #[.val (.int p1), .val (.int p2), .val (.int (2 : Int32)), .val (.int (1 : Int32)), .val (.ref w_DOCUMENT), .val (.ref w_TERM), .unset] [])
      refine own_go (fun t k => XS.aload X64.here hx rfl (hb hby at_20) rfl rfl k) ?_
      show Go _ _ _ _ _ T64 (mkF m 22 #[.val (.int p1), .val (.int p2), .val (.int (2 : Int32)), .val (.int (1 : Int32)), .val (.ref w_DOCUMENT), .val (.ref w_TERM), .unset] [(.ref w_DOCUMENT)])
      refine own_go (fun t k => XS.aload X64.here hx rfl (hb hby at_22) rfl rfl k) ?_
      show Go _ _ _ _ _ T64 (mkF m 24 #[.val (.int p1), .val (.int p2), .val (.int (2 : Int32)), .val (.int (1 : Int32)), .val (.ref w_DOCUMENT), .val (.ref w_TERM), .unset] [(.ref w_TERM), (.ref w_DOCUMENT)])
      refine own_callV X64 hx hZ (y := (⟨"com/example/term_weight_evolver/termweightevolver/formula/Statistic$Scope", "with", "(Lcom/example/term_weight_evolver/termweightevolver/formula/Statistic$Scope;)Lcom/example/term_weight_evolver/termweightevolver/formula/Statistic$Scope;"⟩ : MethodName)) hown (hw _ (List.mem_of_getElem? (i := 9) rfl)) (hw _ (List.mem_of_getElem? (i := 10) rfl)) (hw _ (List.mem_of_getElem? (i := 12) rfl)) (hw _ (List.mem_of_getElem? (i := 11) rfl)) (hw _ (List.mem_of_getElem? (i := 13) rfl)) (hw _ (List.mem_of_getElem? (i := 5) rfl)) (by decide) (rm2 l Z a0 hw [] w_DOCUMENT w_TERM w_COLLECTION w_POSTING w_DOCUMENT w_TERM (.ref w_POSTING) h0 n0 hn0 S_COLLECTION S_POSTING S_DOCUMENT S_TERM (by rw [own_f_rm2, if_neg (fun q => D_w_DOCUMENT_w_TERM q.symm), if_neg (fun q => D_w_COLLECTION_w_TERM q.symm), if_neg (fun q => D_w_COLLECTION_w_DOCUMENT q.symm)]; try first | rfl | decide)) e64 E_DOCUMENT (by rw [hml]; rfl) (argsL := [(.ref w_TERM)]) (rest := []) rfl rfl (lenOf own_pd1 rfl) (W := 0) (Nat.le_of_eq rfl) (by decide) (by decide) (hb hby at_24) (by decide) (by decide) ?_
      intro v65 T65 L65 X65 q65
      obtain ⟨rfl, N65q, e65⟩ := q65
      have N65 := Fr.app N64 N65q
      show Go _ _ _ _ _ T65 (mkF m 27 #[.val (.int p1), .val (.int p2), .val (.int (2 : Int32)), .val (.int (1 : Int32)), .val (.ref w_DOCUMENT), .val (.ref w_TERM), .unset] [(.ref w_POSTING)])
      refine own_go (fun t k => XS.astore X65.here hx rfl (hb hby at_27) rfl rfl (l' := #[.val (.int p1), .val (.int p2), .val (.int (2 : Int32)), .val (.int (1 : Int32)), .val (.ref w_DOCUMENT), .val (.ref w_TERM), .val (.ref w_POSTING)]) rfl k) ?_
      show Go _ _ _ _ _ T65 (mkF m 29 #[.val (.int p1), .val (.int p2), .val (.int (2 : Int32)), .val (.int (1 : Int32)), .val (.ref w_DOCUMENT), .val (.ref w_TERM), .val (.ref w_POSTING)] [])
      refine own_go (fun t k => XS.aload X65.here hx rfl (hb hby at_29) rfl rfl k) ?_
      show Go _ _ _ _ _ T65 (mkF m 31 #[.val (.int p1), .val (.int p2), .val (.int (2 : Int32)), .val (.int (1 : Int32)), .val (.ref w_DOCUMENT), .val (.ref w_TERM), .val (.ref w_POSTING)] [(.ref w_POSTING)])
      refine own_go (fun t k => XS.iloadN X65.here hx rfl (hb hby at_31) rfl k) ?_
      show Go _ _ _ _ _ T65 (mkF m 32 #[.val (.int p1), .val (.int p2), .val (.int (2 : Int32)), .val (.int (1 : Int32)), .val (.ref w_DOCUMENT), .val (.ref w_TERM), .val (.ref w_POSTING)] [(.int (2 : Int32)), (.ref w_POSTING)])
      refine own_go (fun t k => XS.iloadN X65.here hx rfl (hb hby at_32) rfl k) ?_
      show Go _ _ _ _ _ T65 (mkF m 33 #[.val (.int p1), .val (.int p2), .val (.int (2 : Int32)), .val (.int (1 : Int32)), .val (.ref w_DOCUMENT), .val (.ref w_TERM), .val (.ref w_POSTING)] [(.int (1 : Int32)), (.int (2 : Int32)), (.ref w_POSTING)])
      refine own_go (fun t k => XS.ior X65.here hx rfl (hb hby at_33) rfl k) ?_
      show Go _ _ _ _ _ T65 (mkF m 34 #[.val (.int p1), .val (.int p2), .val (.int (2 : Int32)), .val (.int (1 : Int32)), .val (.ref w_DOCUMENT), .val (.ref w_TERM), .val (.ref w_POSTING)] [(.int (3 : Int32)), (.ref w_POSTING)])
      refine own_callS X65 hx hZ (y := (⟨"com/example/term_weight_evolver/termweightevolver/formula/ScopeWithPinLaw", "of", "(I)Lcom/example/term_weight_evolver/termweightevolver/formula/Statistic$Scope;"⟩ : MethodName)) hown (hw _ (List.mem_of_getElem? (i := 0) rfl)) (hw _ (List.mem_of_getElem? (i := 1) rfl)) (hw _ (List.mem_of_getElem? (i := 2) rfl)) (hw _ (List.mem_of_getElem? (i := 3) rfl)) (by decide) (rm1 l Z a0 hw [] (3 : Int32) w_COLLECTION w_POSTING w_DOCUMENT w_TERM (.ref w_POSTING) h0 n0 hn0 S_COLLECTION S_POSTING S_DOCUMENT S_TERM (by rw [own_f_rm1, if_neg (show ¬ ((3 : Int32) = (0 : Int32)) by decide), if_neg (show ¬ ((3 : Int32) = (1 : Int32)) by decide), if_neg (show ¬ ((3 : Int32) = (2 : Int32)) by decide)]; try first | rfl | decide)) e65 (by rw [hml]; rfl) (argsL := [(.int (3 : Int32))]) (rest := [(.ref w_POSTING)]) rfl rfl (lenOf own_pd0 rfl) (W := 1) (Nat.le_of_eq rfl) (by decide) (by decide) (hb hby at_34) (by decide) (by decide) ?_
      intro v66 T66 L66 X66 q66
      obtain ⟨rfl, N66q, e66⟩ := q66
      have N66 := Fr.app N65 N66q
      show Go _ _ _ _ _ T66 (mkF m 37 #[.val (.int p1), .val (.int p2), .val (.int (2 : Int32)), .val (.int (1 : Int32)), .val (.ref w_DOCUMENT), .val (.ref w_TERM), .val (.ref w_POSTING)] [(.ref w_POSTING), (.ref w_POSTING)])
      refine own_go (fun t k => Jvm.RoadKit.acmp (g := (mkF m 37 #[.val (.int p1), .val (.int p2), .val (.int (2 : Int32)), .val (.int (1 : Int32)), .val (.ref w_DOCUMENT), .val (.ref w_TERM), .val (.ref w_POSTING)] [(.ref w_POSTING), (.ref w_POSTING)])) X66 hx rfl rfl rfl (pc0 := 37) (pc' := 40) (same := true) rfl (hb hby at_37) rfl (decide_eq_true rfl) (by decide) (by decide) k) ?_
      show Go _ _ _ _ _ T66 (mkF m 40 #[.val (.int p1), .val (.int p2), .val (.int (2 : Int32)), .val (.int (1 : Int32)), .val (.ref w_DOCUMENT), .val (.ref w_TERM), .val (.ref w_POSTING)] [])
      refine own_go (fun t k => XS.iconst X66.here hx rfl (hb hby at_40) k) ?_
      show Go _ _ _ _ _ T66 (mkF m 41 #[.val (.int p1), .val (.int p2), .val (.int (2 : Int32)), .val (.int (1 : Int32)), .val (.ref w_DOCUMENT), .val (.ref w_TERM), .val (.ref w_POSTING)] [(.int (1 : Int32))])
      refine own_go (fun t k => XS.goto X66.here hx rfl (pc0 := 41) (pc' := 45) rfl (hb hby at_41) (by decide) (by decide) k) ?_
      show Go _ _ _ _ _ T66 (mkF m 45 #[.val (.int p1), .val (.int p2), .val (.int (2 : Int32)), .val (.int (1 : Int32)), .val (.ref w_DOCUMENT), .val (.ref w_TERM), .val (.ref w_POSTING)] [(.int (1 : Int32))])
      refine own_retN X66 hx (own_lvN X66 hlk (by decide) (by decide)) (t := .boolean) hret (by simp) (hb hby at_45) ?_
      exact ⟨rfl, N66⟩
    · skip
      show Go _ _ _ _ _ s₁ (mkF m 8 #[.val (.int p1), .val (.int p2), .val (.int (2 : Int32)), .val (.int (2 : Int32)), .unset, .unset, .unset] [])
      refine own_go (fun t k => XS.iloadN X0.here hx rfl (hb hby at_8) rfl k) ?_
      show Go _ _ _ _ _ s₁ (mkF m 9 #[.val (.int p1), .val (.int p2), .val (.int (2 : Int32)), .val (.int (2 : Int32)), .unset, .unset, .unset] [(.int (2 : Int32))])
      refine own_callS X0 hx hZ (y := (⟨"com/example/term_weight_evolver/termweightevolver/formula/ScopeWithPinLaw", "of", "(I)Lcom/example/term_weight_evolver/termweightevolver/formula/Statistic$Scope;"⟩ : MethodName)) hown (hw _ (List.mem_of_getElem? (i := 0) rfl)) (hw _ (List.mem_of_getElem? (i := 1) rfl)) (hw _ (List.mem_of_getElem? (i := 2) rfl)) (hw _ (List.mem_of_getElem? (i := 3) rfl)) (by decide) (rm1 l Z a0 hw [] (2 : Int32) w_COLLECTION w_POSTING w_DOCUMENT w_TERM (.ref w_DOCUMENT) h0 n0 hn0 S_COLLECTION S_POSTING S_DOCUMENT S_TERM (by rw [own_f_rm1, if_neg (show ¬ ((2 : Int32) = (0 : Int32)) by decide), if_neg (show ¬ ((2 : Int32) = (1 : Int32)) by decide), if_pos (show (2 : Int32) = (2 : Int32) from rfl)]; try first | rfl | decide)) e0 (by rw [hml]; rfl) (argsL := [(.int (2 : Int32))]) (rest := []) rfl rfl (lenOf own_pd0 rfl) (W := 0) (Nat.le_of_eq rfl) (by decide) (by decide) (hb hby at_9) (by decide) (by decide) ?_
      intro v67 T67 L67 X67 q67
      obtain ⟨rfl, N67q, e67⟩ := q67
      have N67 := Fr.app N0 N67q
      show Go _ _ _ _ _ T67 (mkF m 12 #[.val (.int p1), .val (.int p2), .val (.int (2 : Int32)), .val (.int (2 : Int32)), .unset, .unset, .unset] [(.ref w_DOCUMENT)])
      refine own_go (fun t k => XS.astore X67.here hx rfl (hb hby at_12) rfl rfl (l' := #[.val (.int p1), .val (.int p2), .val (.int (2 : Int32)), .val (.int (2 : Int32)), .val (.ref w_DOCUMENT), .unset, .unset]) rfl k) ?_
      show Go _ _ _ _ _ T67 (mkF m 14 #[.val (.int p1), .val (.int p2), .val (.int (2 : Int32)), .val (.int (2 : Int32)), .val (.ref w_DOCUMENT), .unset, .unset] [])
      refine own_go (fun t k => XS.iloadN X67.here hx rfl (hb hby at_14) rfl k) ?_
      show Go _ _ _ _ _ T67 (mkF m 15 #[.val (.int p1), .val (.int p2), .val (.int (2 : Int32)), .val (.int (2 : Int32)), .val (.ref w_DOCUMENT), .unset, .unset] [(.int (2 : Int32))])
      refine own_callS X67 hx hZ (y := (⟨"com/example/term_weight_evolver/termweightevolver/formula/ScopeWithPinLaw", "of", "(I)Lcom/example/term_weight_evolver/termweightevolver/formula/Statistic$Scope;"⟩ : MethodName)) hown (hw _ (List.mem_of_getElem? (i := 0) rfl)) (hw _ (List.mem_of_getElem? (i := 1) rfl)) (hw _ (List.mem_of_getElem? (i := 2) rfl)) (hw _ (List.mem_of_getElem? (i := 3) rfl)) (by decide) (rm1 l Z a0 hw [] (2 : Int32) w_COLLECTION w_POSTING w_DOCUMENT w_TERM (.ref w_DOCUMENT) h0 n0 hn0 S_COLLECTION S_POSTING S_DOCUMENT S_TERM (by rw [own_f_rm1, if_neg (show ¬ ((2 : Int32) = (0 : Int32)) by decide), if_neg (show ¬ ((2 : Int32) = (1 : Int32)) by decide), if_pos (show (2 : Int32) = (2 : Int32) from rfl)]; try first | rfl | decide)) e67 (by rw [hml]; rfl) (argsL := [(.int (2 : Int32))]) (rest := []) rfl rfl (lenOf own_pd0 rfl) (W := 0) (Nat.le_of_eq rfl) (by decide) (by decide) (hb hby at_15) (by decide) (by decide) ?_
      intro v68 T68 L68 X68 q68
      obtain ⟨rfl, N68q, e68⟩ := q68
      have N68 := Fr.app N67 N68q
      show Go _ _ _ _ _ T68 (mkF m 18 #[.val (.int p1), .val (.int p2), .val (.int (2 : Int32)), .val (.int (2 : Int32)), .val (.ref w_DOCUMENT), .unset, .unset] [(.ref w_DOCUMENT)])
      refine own_go (fun t k => XS.astore X68.here hx rfl (hb hby at_18) rfl rfl (l' := #[.val (.int p1), .val (.int p2), .val (.int (2 : Int32)), .val (.int (2 : Int32)), .val (.ref w_DOCUMENT), .val (.ref w_DOCUMENT), .unset]) rfl k) ?_
      show Go _ _ _ _ _ T68 (mkF m 20 #[.val (.int p1), .val (.int p2), .val (.int (2 : Int32)), .val (.int (2 : Int32)), .val (.ref w_DOCUMENT), .val (.ref w_DOCUMENT), .unset] [])
      refine own_go (fun t k => XS.aload X68.here hx rfl (hb hby at_20) rfl rfl k) ?_
      show Go _ _ _ _ _ T68 (mkF m 22 #[.val (.int p1), .val (.int p2), .val (.int (2 : Int32)), .val (.int (2 : Int32)), .val (.ref w_DOCUMENT), .val (.ref w_DOCUMENT), .unset] [(.ref w_DOCUMENT)])
      refine own_go (fun t k => XS.aload X68.here hx rfl (hb hby at_22) rfl rfl k) ?_
      show Go _ _ _ _ _ T68 (mkF m 24 #[.val (.int p1), .val (.int p2), .val (.int (2 : Int32)), .val (.int (2 : Int32)), .val (.ref w_DOCUMENT), .val (.ref w_DOCUMENT), .unset] [(.ref w_DOCUMENT), (.ref w_DOCUMENT)])
      refine own_callV X68 hx hZ (y := (⟨"com/example/term_weight_evolver/termweightevolver/formula/Statistic$Scope", "with", "(Lcom/example/term_weight_evolver/termweightevolver/formula/Statistic$Scope;)Lcom/example/term_weight_evolver/termweightevolver/formula/Statistic$Scope;"⟩ : MethodName)) hown (hw _ (List.mem_of_getElem? (i := 9) rfl)) (hw _ (List.mem_of_getElem? (i := 10) rfl)) (hw _ (List.mem_of_getElem? (i := 12) rfl)) (hw _ (List.mem_of_getElem? (i := 11) rfl)) (hw _ (List.mem_of_getElem? (i := 13) rfl)) (hw _ (List.mem_of_getElem? (i := 5) rfl)) (by decide) (rm2 l Z a0 hw [] w_DOCUMENT w_DOCUMENT w_COLLECTION w_POSTING w_DOCUMENT w_TERM (.ref w_DOCUMENT) h0 n0 hn0 S_COLLECTION S_POSTING S_DOCUMENT S_TERM (by rw [own_f_rm2, if_pos (show w_DOCUMENT = w_DOCUMENT from rfl)]; try first | rfl | decide)) e68 E_DOCUMENT (by rw [hml]; rfl) (argsL := [(.ref w_DOCUMENT)]) (rest := []) rfl rfl (lenOf own_pd1 rfl) (W := 0) (Nat.le_of_eq rfl) (by decide) (by decide) (hb hby at_24) (by decide) (by decide) ?_
      intro v69 T69 L69 X69 q69
      obtain ⟨rfl, N69q, e69⟩ := q69
      have N69 := Fr.app N68 N69q
      show Go _ _ _ _ _ T69 (mkF m 27 #[.val (.int p1), .val (.int p2), .val (.int (2 : Int32)), .val (.int (2 : Int32)), .val (.ref w_DOCUMENT), .val (.ref w_DOCUMENT), .unset] [(.ref w_DOCUMENT)])
      refine own_go (fun t k => XS.astore X69.here hx rfl (hb hby at_27) rfl rfl (l' := #[.val (.int p1), .val (.int p2), .val (.int (2 : Int32)), .val (.int (2 : Int32)), .val (.ref w_DOCUMENT), .val (.ref w_DOCUMENT), .val (.ref w_DOCUMENT)]) rfl k) ?_
      show Go _ _ _ _ _ T69 (mkF m 29 #[.val (.int p1), .val (.int p2), .val (.int (2 : Int32)), .val (.int (2 : Int32)), .val (.ref w_DOCUMENT), .val (.ref w_DOCUMENT), .val (.ref w_DOCUMENT)] [])
      refine own_go (fun t k => XS.aload X69.here hx rfl (hb hby at_29) rfl rfl k) ?_
      show Go _ _ _ _ _ T69 (mkF m 31 #[.val (.int p1), .val (.int p2), .val (.int (2 : Int32)), .val (.int (2 : Int32)), .val (.ref w_DOCUMENT), .val (.ref w_DOCUMENT), .val (.ref w_DOCUMENT)] [(.ref w_DOCUMENT)])
      refine own_go (fun t k => XS.iloadN X69.here hx rfl (hb hby at_31) rfl k) ?_
      show Go _ _ _ _ _ T69 (mkF m 32 #[.val (.int p1), .val (.int p2), .val (.int (2 : Int32)), .val (.int (2 : Int32)), .val (.ref w_DOCUMENT), .val (.ref w_DOCUMENT), .val (.ref w_DOCUMENT)] [(.int (2 : Int32)), (.ref w_DOCUMENT)])
      refine own_go (fun t k => XS.iloadN X69.here hx rfl (hb hby at_32) rfl k) ?_
      show Go _ _ _ _ _ T69 (mkF m 33 #[.val (.int p1), .val (.int p2), .val (.int (2 : Int32)), .val (.int (2 : Int32)), .val (.ref w_DOCUMENT), .val (.ref w_DOCUMENT), .val (.ref w_DOCUMENT)] [(.int (2 : Int32)), (.int (2 : Int32)), (.ref w_DOCUMENT)])
      refine own_go (fun t k => XS.ior X69.here hx rfl (hb hby at_33) rfl k) ?_
      show Go _ _ _ _ _ T69 (mkF m 34 #[.val (.int p1), .val (.int p2), .val (.int (2 : Int32)), .val (.int (2 : Int32)), .val (.ref w_DOCUMENT), .val (.ref w_DOCUMENT), .val (.ref w_DOCUMENT)] [(.int (2 : Int32)), (.ref w_DOCUMENT)])
      refine own_callS X69 hx hZ (y := (⟨"com/example/term_weight_evolver/termweightevolver/formula/ScopeWithPinLaw", "of", "(I)Lcom/example/term_weight_evolver/termweightevolver/formula/Statistic$Scope;"⟩ : MethodName)) hown (hw _ (List.mem_of_getElem? (i := 0) rfl)) (hw _ (List.mem_of_getElem? (i := 1) rfl)) (hw _ (List.mem_of_getElem? (i := 2) rfl)) (hw _ (List.mem_of_getElem? (i := 3) rfl)) (by decide) (rm1 l Z a0 hw [] (2 : Int32) w_COLLECTION w_POSTING w_DOCUMENT w_TERM (.ref w_DOCUMENT) h0 n0 hn0 S_COLLECTION S_POSTING S_DOCUMENT S_TERM (by rw [own_f_rm1, if_neg (show ¬ ((2 : Int32) = (0 : Int32)) by decide), if_neg (show ¬ ((2 : Int32) = (1 : Int32)) by decide), if_pos (show (2 : Int32) = (2 : Int32) from rfl)]; try first | rfl | decide)) e69 (by rw [hml]; rfl) (argsL := [(.int (2 : Int32))]) (rest := [(.ref w_DOCUMENT)]) rfl rfl (lenOf own_pd0 rfl) (W := 1) (Nat.le_of_eq rfl) (by decide) (by decide) (hb hby at_34) (by decide) (by decide) ?_
      intro v70 T70 L70 X70 q70
      obtain ⟨rfl, N70q, e70⟩ := q70
      have N70 := Fr.app N69 N70q
      show Go _ _ _ _ _ T70 (mkF m 37 #[.val (.int p1), .val (.int p2), .val (.int (2 : Int32)), .val (.int (2 : Int32)), .val (.ref w_DOCUMENT), .val (.ref w_DOCUMENT), .val (.ref w_DOCUMENT)] [(.ref w_DOCUMENT), (.ref w_DOCUMENT)])
      refine own_go (fun t k => Jvm.RoadKit.acmp (g := (mkF m 37 #[.val (.int p1), .val (.int p2), .val (.int (2 : Int32)), .val (.int (2 : Int32)), .val (.ref w_DOCUMENT), .val (.ref w_DOCUMENT), .val (.ref w_DOCUMENT)] [(.ref w_DOCUMENT), (.ref w_DOCUMENT)])) X70 hx rfl rfl rfl (pc0 := 37) (pc' := 40) (same := true) rfl (hb hby at_37) rfl (decide_eq_true rfl) (by decide) (by decide) k) ?_
      show Go _ _ _ _ _ T70 (mkF m 40 #[.val (.int p1), .val (.int p2), .val (.int (2 : Int32)), .val (.int (2 : Int32)), .val (.ref w_DOCUMENT), .val (.ref w_DOCUMENT), .val (.ref w_DOCUMENT)] [])
      refine own_go (fun t k => XS.iconst X70.here hx rfl (hb hby at_40) k) ?_
      show Go _ _ _ _ _ T70 (mkF m 41 #[.val (.int p1), .val (.int p2), .val (.int (2 : Int32)), .val (.int (2 : Int32)), .val (.ref w_DOCUMENT), .val (.ref w_DOCUMENT), .val (.ref w_DOCUMENT)] [(.int (1 : Int32))])
      refine own_go (fun t k => XS.goto X70.here hx rfl (pc0 := 41) (pc' := 45) rfl (hb hby at_41) (by decide) (by decide) k) ?_
      show Go _ _ _ _ _ T70 (mkF m 45 #[.val (.int p1), .val (.int p2), .val (.int (2 : Int32)), .val (.int (2 : Int32)), .val (.ref w_DOCUMENT), .val (.ref w_DOCUMENT), .val (.ref w_DOCUMENT)] [(.int (1 : Int32))])
      refine own_retN X70 hx (own_lvN X70 hlk (by decide) (by decide)) (t := .boolean) hret (by simp) (hb hby at_45) ?_
      exact ⟨rfl, N70⟩
    · skip
      show Go _ _ _ _ _ s₁ (mkF m 8 #[.val (.int p1), .val (.int p2), .val (.int (2 : Int32)), .val (.int (3 : Int32)), .unset, .unset, .unset] [])
      refine own_go (fun t k => XS.iloadN X0.here hx rfl (hb hby at_8) rfl k) ?_
      show Go _ _ _ _ _ s₁ (mkF m 9 #[.val (.int p1), .val (.int p2), .val (.int (2 : Int32)), .val (.int (3 : Int32)), .unset, .unset, .unset] [(.int (2 : Int32))])
      refine own_callS X0 hx hZ (y := (⟨"com/example/term_weight_evolver/termweightevolver/formula/ScopeWithPinLaw", "of", "(I)Lcom/example/term_weight_evolver/termweightevolver/formula/Statistic$Scope;"⟩ : MethodName)) hown (hw _ (List.mem_of_getElem? (i := 0) rfl)) (hw _ (List.mem_of_getElem? (i := 1) rfl)) (hw _ (List.mem_of_getElem? (i := 2) rfl)) (hw _ (List.mem_of_getElem? (i := 3) rfl)) (by decide) (rm1 l Z a0 hw [] (2 : Int32) w_COLLECTION w_POSTING w_DOCUMENT w_TERM (.ref w_DOCUMENT) h0 n0 hn0 S_COLLECTION S_POSTING S_DOCUMENT S_TERM (by rw [own_f_rm1, if_neg (show ¬ ((2 : Int32) = (0 : Int32)) by decide), if_neg (show ¬ ((2 : Int32) = (1 : Int32)) by decide), if_pos (show (2 : Int32) = (2 : Int32) from rfl)]; try first | rfl | decide)) e0 (by rw [hml]; rfl) (argsL := [(.int (2 : Int32))]) (rest := []) rfl rfl (lenOf own_pd0 rfl) (W := 0) (Nat.le_of_eq rfl) (by decide) (by decide) (hb hby at_9) (by decide) (by decide) ?_
      intro v71 T71 L71 X71 q71
      obtain ⟨rfl, N71q, e71⟩ := q71
      have N71 := Fr.app N0 N71q
      show Go _ _ _ _ _ T71 (mkF m 12 #[.val (.int p1), .val (.int p2), .val (.int (2 : Int32)), .val (.int (3 : Int32)), .unset, .unset, .unset] [(.ref w_DOCUMENT)])
      refine own_go (fun t k => XS.astore X71.here hx rfl (hb hby at_12) rfl rfl (l' := #[.val (.int p1), .val (.int p2), .val (.int (2 : Int32)), .val (.int (3 : Int32)), .val (.ref w_DOCUMENT), .unset, .unset]) rfl k) ?_
      show Go _ _ _ _ _ T71 (mkF m 14 #[.val (.int p1), .val (.int p2), .val (.int (2 : Int32)), .val (.int (3 : Int32)), .val (.ref w_DOCUMENT), .unset, .unset] [])
      refine own_go (fun t k => XS.iloadN X71.here hx rfl (hb hby at_14) rfl k) ?_
      show Go _ _ _ _ _ T71 (mkF m 15 #[.val (.int p1), .val (.int p2), .val (.int (2 : Int32)), .val (.int (3 : Int32)), .val (.ref w_DOCUMENT), .unset, .unset] [(.int (3 : Int32))])
      refine own_callS X71 hx hZ (y := (⟨"com/example/term_weight_evolver/termweightevolver/formula/ScopeWithPinLaw", "of", "(I)Lcom/example/term_weight_evolver/termweightevolver/formula/Statistic$Scope;"⟩ : MethodName)) hown (hw _ (List.mem_of_getElem? (i := 0) rfl)) (hw _ (List.mem_of_getElem? (i := 1) rfl)) (hw _ (List.mem_of_getElem? (i := 2) rfl)) (hw _ (List.mem_of_getElem? (i := 3) rfl)) (by decide) (rm1 l Z a0 hw [] (3 : Int32) w_COLLECTION w_POSTING w_DOCUMENT w_TERM (.ref w_POSTING) h0 n0 hn0 S_COLLECTION S_POSTING S_DOCUMENT S_TERM (by rw [own_f_rm1, if_neg (show ¬ ((3 : Int32) = (0 : Int32)) by decide), if_neg (show ¬ ((3 : Int32) = (1 : Int32)) by decide), if_neg (show ¬ ((3 : Int32) = (2 : Int32)) by decide)]; try first | rfl | decide)) e71 (by rw [hml]; rfl) (argsL := [(.int (3 : Int32))]) (rest := []) rfl rfl (lenOf own_pd0 rfl) (W := 0) (Nat.le_of_eq rfl) (by decide) (by decide) (hb hby at_15) (by decide) (by decide) ?_
      intro v72 T72 L72 X72 q72
      obtain ⟨rfl, N72q, e72⟩ := q72
      have N72 := Fr.app N71 N72q
      show Go _ _ _ _ _ T72 (mkF m 18 #[.val (.int p1), .val (.int p2), .val (.int (2 : Int32)), .val (.int (3 : Int32)), .val (.ref w_DOCUMENT), .unset, .unset] [(.ref w_POSTING)])
      refine own_go (fun t k => XS.astore X72.here hx rfl (hb hby at_18) rfl rfl (l' := #[.val (.int p1), .val (.int p2), .val (.int (2 : Int32)), .val (.int (3 : Int32)), .val (.ref w_DOCUMENT), .val (.ref w_POSTING), .unset]) rfl k) ?_
      show Go _ _ _ _ _ T72 (mkF m 20 #[.val (.int p1), .val (.int p2), .val (.int (2 : Int32)), .val (.int (3 : Int32)), .val (.ref w_DOCUMENT), .val (.ref w_POSTING), .unset] [])
      refine own_go (fun t k => XS.aload X72.here hx rfl (hb hby at_20) rfl rfl k) ?_
      show Go _ _ _ _ _ T72 (mkF m 22 #[.val (.int p1), .val (.int p2), .val (.int (2 : Int32)), .val (.int (3 : Int32)), .val (.ref w_DOCUMENT), .val (.ref w_POSTING), .unset] [(.ref w_DOCUMENT)])
      refine own_go (fun t k => XS.aload X72.here hx rfl (hb hby at_22) rfl rfl k) ?_
      show Go _ _ _ _ _ T72 (mkF m 24 #[.val (.int p1), .val (.int p2), .val (.int (2 : Int32)), .val (.int (3 : Int32)), .val (.ref w_DOCUMENT), .val (.ref w_POSTING), .unset] [(.ref w_POSTING), (.ref w_DOCUMENT)])
      refine own_callV X72 hx hZ (y := (⟨"com/example/term_weight_evolver/termweightevolver/formula/Statistic$Scope", "with", "(Lcom/example/term_weight_evolver/termweightevolver/formula/Statistic$Scope;)Lcom/example/term_weight_evolver/termweightevolver/formula/Statistic$Scope;"⟩ : MethodName)) hown (hw _ (List.mem_of_getElem? (i := 9) rfl)) (hw _ (List.mem_of_getElem? (i := 10) rfl)) (hw _ (List.mem_of_getElem? (i := 12) rfl)) (hw _ (List.mem_of_getElem? (i := 11) rfl)) (hw _ (List.mem_of_getElem? (i := 13) rfl)) (hw _ (List.mem_of_getElem? (i := 5) rfl)) (by decide) (rm2 l Z a0 hw [] w_DOCUMENT w_POSTING w_COLLECTION w_POSTING w_DOCUMENT w_TERM (.ref w_POSTING) h0 n0 hn0 S_COLLECTION S_POSTING S_DOCUMENT S_TERM (by rw [own_f_rm2, if_neg D_w_POSTING_w_DOCUMENT, if_neg (fun q => D_w_COLLECTION_w_POSTING q.symm), if_neg (fun q => D_w_COLLECTION_w_DOCUMENT q.symm)]; try first | rfl | decide)) e72 E_DOCUMENT (by rw [hml]; rfl) (argsL := [(.ref w_POSTING)]) (rest := []) rfl rfl (lenOf own_pd1 rfl) (W := 0) (Nat.le_of_eq rfl) (by decide) (by decide) (hb hby at_24) (by decide) (by decide) ?_
      intro v73 T73 L73 X73 q73
      obtain ⟨rfl, N73q, e73⟩ := q73
      have N73 := Fr.app N72 N73q
      show Go _ _ _ _ _ T73 (mkF m 27 #[.val (.int p1), .val (.int p2), .val (.int (2 : Int32)), .val (.int (3 : Int32)), .val (.ref w_DOCUMENT), .val (.ref w_POSTING), .unset] [(.ref w_POSTING)])
      refine own_go (fun t k => XS.astore X73.here hx rfl (hb hby at_27) rfl rfl (l' := #[.val (.int p1), .val (.int p2), .val (.int (2 : Int32)), .val (.int (3 : Int32)), .val (.ref w_DOCUMENT), .val (.ref w_POSTING), .val (.ref w_POSTING)]) rfl k) ?_
      show Go _ _ _ _ _ T73 (mkF m 29 #[.val (.int p1), .val (.int p2), .val (.int (2 : Int32)), .val (.int (3 : Int32)), .val (.ref w_DOCUMENT), .val (.ref w_POSTING), .val (.ref w_POSTING)] [])
      refine own_go (fun t k => XS.aload X73.here hx rfl (hb hby at_29) rfl rfl k) ?_
      show Go _ _ _ _ _ T73 (mkF m 31 #[.val (.int p1), .val (.int p2), .val (.int (2 : Int32)), .val (.int (3 : Int32)), .val (.ref w_DOCUMENT), .val (.ref w_POSTING), .val (.ref w_POSTING)] [(.ref w_POSTING)])
      refine own_go (fun t k => XS.iloadN X73.here hx rfl (hb hby at_31) rfl k) ?_
      show Go _ _ _ _ _ T73 (mkF m 32 #[.val (.int p1), .val (.int p2), .val (.int (2 : Int32)), .val (.int (3 : Int32)), .val (.ref w_DOCUMENT), .val (.ref w_POSTING), .val (.ref w_POSTING)] [(.int (2 : Int32)), (.ref w_POSTING)])
      refine own_go (fun t k => XS.iloadN X73.here hx rfl (hb hby at_32) rfl k) ?_
      show Go _ _ _ _ _ T73 (mkF m 33 #[.val (.int p1), .val (.int p2), .val (.int (2 : Int32)), .val (.int (3 : Int32)), .val (.ref w_DOCUMENT), .val (.ref w_POSTING), .val (.ref w_POSTING)] [(.int (3 : Int32)), (.int (2 : Int32)), (.ref w_POSTING)])
      refine own_go (fun t k => XS.ior X73.here hx rfl (hb hby at_33) rfl k) ?_
      show Go _ _ _ _ _ T73 (mkF m 34 #[.val (.int p1), .val (.int p2), .val (.int (2 : Int32)), .val (.int (3 : Int32)), .val (.ref w_DOCUMENT), .val (.ref w_POSTING), .val (.ref w_POSTING)] [(.int (3 : Int32)), (.ref w_POSTING)])
      refine own_callS X73 hx hZ (y := (⟨"com/example/term_weight_evolver/termweightevolver/formula/ScopeWithPinLaw", "of", "(I)Lcom/example/term_weight_evolver/termweightevolver/formula/Statistic$Scope;"⟩ : MethodName)) hown (hw _ (List.mem_of_getElem? (i := 0) rfl)) (hw _ (List.mem_of_getElem? (i := 1) rfl)) (hw _ (List.mem_of_getElem? (i := 2) rfl)) (hw _ (List.mem_of_getElem? (i := 3) rfl)) (by decide) (rm1 l Z a0 hw [] (3 : Int32) w_COLLECTION w_POSTING w_DOCUMENT w_TERM (.ref w_POSTING) h0 n0 hn0 S_COLLECTION S_POSTING S_DOCUMENT S_TERM (by rw [own_f_rm1, if_neg (show ¬ ((3 : Int32) = (0 : Int32)) by decide), if_neg (show ¬ ((3 : Int32) = (1 : Int32)) by decide), if_neg (show ¬ ((3 : Int32) = (2 : Int32)) by decide)]; try first | rfl | decide)) e73 (by rw [hml]; rfl) (argsL := [(.int (3 : Int32))]) (rest := [(.ref w_POSTING)]) rfl rfl (lenOf own_pd0 rfl) (W := 1) (Nat.le_of_eq rfl) (by decide) (by decide) (hb hby at_34) (by decide) (by decide) ?_
      intro v74 T74 L74 X74 q74
      obtain ⟨rfl, N74q, e74⟩ := q74
      have N74 := Fr.app N73 N74q
      show Go _ _ _ _ _ T74 (mkF m 37 #[.val (.int p1), .val (.int p2), .val (.int (2 : Int32)), .val (.int (3 : Int32)), .val (.ref w_DOCUMENT), .val (.ref w_POSTING), .val (.ref w_POSTING)] [(.ref w_POSTING), (.ref w_POSTING)])
      refine own_go (fun t k => Jvm.RoadKit.acmp (g := (mkF m 37 #[.val (.int p1), .val (.int p2), .val (.int (2 : Int32)), .val (.int (3 : Int32)), .val (.ref w_DOCUMENT), .val (.ref w_POSTING), .val (.ref w_POSTING)] [(.ref w_POSTING), (.ref w_POSTING)])) X74 hx rfl rfl rfl (pc0 := 37) (pc' := 40) (same := true) rfl (hb hby at_37) rfl (decide_eq_true rfl) (by decide) (by decide) k) ?_
      show Go _ _ _ _ _ T74 (mkF m 40 #[.val (.int p1), .val (.int p2), .val (.int (2 : Int32)), .val (.int (3 : Int32)), .val (.ref w_DOCUMENT), .val (.ref w_POSTING), .val (.ref w_POSTING)] [])
      refine own_go (fun t k => XS.iconst X74.here hx rfl (hb hby at_40) k) ?_
      show Go _ _ _ _ _ T74 (mkF m 41 #[.val (.int p1), .val (.int p2), .val (.int (2 : Int32)), .val (.int (3 : Int32)), .val (.ref w_DOCUMENT), .val (.ref w_POSTING), .val (.ref w_POSTING)] [(.int (1 : Int32))])
      refine own_go (fun t k => XS.goto X74.here hx rfl (pc0 := 41) (pc' := 45) rfl (hb hby at_41) (by decide) (by decide) k) ?_
      show Go _ _ _ _ _ T74 (mkF m 45 #[.val (.int p1), .val (.int p2), .val (.int (2 : Int32)), .val (.int (3 : Int32)), .val (.ref w_DOCUMENT), .val (.ref w_POSTING), .val (.ref w_POSTING)] [(.int (1 : Int32))])
      refine own_retN X74 hx (own_lvN X74 hlk (by decide) (by decide)) (t := .boolean) hret (by simp) (hb hby at_45) ?_
      exact ⟨rfl, N74⟩
  · skip
    show Go _ _ _ _ _ s₁ (mkF m 4 #[.val (.int p1), .val (.int p2), .val (.int (3 : Int32)), .unset, .unset, .unset, .unset] [])
    refine own_go (fun t k => XS.iloadN X0.here hx rfl (hb hby at_4) rfl k) ?_
    show Go _ _ _ _ _ s₁ (mkF m 5 #[.val (.int p1), .val (.int p2), .val (.int (3 : Int32)), .unset, .unset, .unset, .unset] [(.int p2)])
    refine own_go (fun t k => XS.iconst X0.here hx rfl (hb hby at_5) k) ?_
    show Go _ _ _ _ _ s₁ (mkF m 6 #[.val (.int p1), .val (.int p2), .val (.int (3 : Int32)), .unset, .unset, .unset, .unset] [(.int (3 : Int32)), (.int p2)])
    refine own_go (fun t k => XS.iand X0.here hx rfl (hb hby at_6) rfl k) ?_
    show Go _ _ _ _ _ s₁ (mkF m 7 #[.val (.int p1), .val (.int p2), .val (.int (3 : Int32)), .unset, .unset, .unset, .unset] [(.int (p2 &&& (3 : Int32)))])
    refine own_go (fun t k => XS.istoreN X0.here hx rfl (hb hby at_7) rfl (l' := #[.val (.int p1), .val (.int p2), .val (.int (3 : Int32)), .val (.int (p2 &&& (3 : Int32))), .unset, .unset, .unset]) rfl k) ?_
    have hi := own_and3 p2
    generalize (p2 &&& (3 : Int32)) = i at hi ⊢
    rcases hi with rfl | rfl | rfl | rfl
    · skip
      show Go _ _ _ _ _ s₁ (mkF m 8 #[.val (.int p1), .val (.int p2), .val (.int (3 : Int32)), .val (.int (0 : Int32)), .unset, .unset, .unset] [])
      refine own_go (fun t k => XS.iloadN X0.here hx rfl (hb hby at_8) rfl k) ?_
      show Go _ _ _ _ _ s₁ (mkF m 9 #[.val (.int p1), .val (.int p2), .val (.int (3 : Int32)), .val (.int (0 : Int32)), .unset, .unset, .unset] [(.int (3 : Int32))])
      refine own_callS X0 hx hZ (y := (⟨"com/example/term_weight_evolver/termweightevolver/formula/ScopeWithPinLaw", "of", "(I)Lcom/example/term_weight_evolver/termweightevolver/formula/Statistic$Scope;"⟩ : MethodName)) hown (hw _ (List.mem_of_getElem? (i := 0) rfl)) (hw _ (List.mem_of_getElem? (i := 1) rfl)) (hw _ (List.mem_of_getElem? (i := 2) rfl)) (hw _ (List.mem_of_getElem? (i := 3) rfl)) (by decide) (rm1 l Z a0 hw [] (3 : Int32) w_COLLECTION w_POSTING w_DOCUMENT w_TERM (.ref w_POSTING) h0 n0 hn0 S_COLLECTION S_POSTING S_DOCUMENT S_TERM (by rw [own_f_rm1, if_neg (show ¬ ((3 : Int32) = (0 : Int32)) by decide), if_neg (show ¬ ((3 : Int32) = (1 : Int32)) by decide), if_neg (show ¬ ((3 : Int32) = (2 : Int32)) by decide)]; try first | rfl | decide)) e0 (by rw [hml]; rfl) (argsL := [(.int (3 : Int32))]) (rest := []) rfl rfl (lenOf own_pd0 rfl) (W := 0) (Nat.le_of_eq rfl) (by decide) (by decide) (hb hby at_9) (by decide) (by decide) ?_
      intro v75 T75 L75 X75 q75
      obtain ⟨rfl, N75q, e75⟩ := q75
      have N75 := Fr.app N0 N75q
      show Go _ _ _ _ _ T75 (mkF m 12 #[.val (.int p1), .val (.int p2), .val (.int (3 : Int32)), .val (.int (0 : Int32)), .unset, .unset, .unset] [(.ref w_POSTING)])
      refine own_go (fun t k => XS.astore X75.here hx rfl (hb hby at_12) rfl rfl (l' := #[.val (.int p1), .val (.int p2), .val (.int (3 : Int32)), .val (.int (0 : Int32)), .val (.ref w_POSTING), .unset, .unset]) rfl k) ?_
      show Go _ _ _ _ _ T75 (mkF m 14 #[.val (.int p1), .val (.int p2), .val (.int (3 : Int32)), .val (.int (0 : Int32)), .val (.ref w_POSTING), .unset, .unset] [])
      refine own_go (fun t k => XS.iloadN X75.here hx rfl (hb hby at_14) rfl k) ?_
      show Go _ _ _ _ _ T75 (mkF m 15 #[.val (.int p1), .val (.int p2), .val (.int (3 : Int32)), .val (.int (0 : Int32)), .val (.ref w_POSTING), .unset, .unset] [(.int (0 : Int32))])
      refine own_callS X75 hx hZ (y := (⟨"com/example/term_weight_evolver/termweightevolver/formula/ScopeWithPinLaw", "of", "(I)Lcom/example/term_weight_evolver/termweightevolver/formula/Statistic$Scope;"⟩ : MethodName)) hown (hw _ (List.mem_of_getElem? (i := 0) rfl)) (hw _ (List.mem_of_getElem? (i := 1) rfl)) (hw _ (List.mem_of_getElem? (i := 2) rfl)) (hw _ (List.mem_of_getElem? (i := 3) rfl)) (by decide) (rm1 l Z a0 hw [] (0 : Int32) w_COLLECTION w_POSTING w_DOCUMENT w_TERM (.ref w_COLLECTION) h0 n0 hn0 S_COLLECTION S_POSTING S_DOCUMENT S_TERM (by rw [own_f_rm1, if_pos (show (0 : Int32) = (0 : Int32) from rfl)]; try first | rfl | decide)) e75 (by rw [hml]; rfl) (argsL := [(.int (0 : Int32))]) (rest := []) rfl rfl (lenOf own_pd0 rfl) (W := 0) (Nat.le_of_eq rfl) (by decide) (by decide) (hb hby at_15) (by decide) (by decide) ?_
      intro v76 T76 L76 X76 q76
      obtain ⟨rfl, N76q, e76⟩ := q76
      have N76 := Fr.app N75 N76q
      show Go _ _ _ _ _ T76 (mkF m 18 #[.val (.int p1), .val (.int p2), .val (.int (3 : Int32)), .val (.int (0 : Int32)), .val (.ref w_POSTING), .unset, .unset] [(.ref w_COLLECTION)])
      refine own_go (fun t k => XS.astore X76.here hx rfl (hb hby at_18) rfl rfl (l' := #[.val (.int p1), .val (.int p2), .val (.int (3 : Int32)), .val (.int (0 : Int32)), .val (.ref w_POSTING), .val (.ref w_COLLECTION), .unset]) rfl k) ?_
      show Go _ _ _ _ _ T76 (mkF m 20 #[.val (.int p1), .val (.int p2), .val (.int (3 : Int32)), .val (.int (0 : Int32)), .val (.ref w_POSTING), .val (.ref w_COLLECTION), .unset] [])
      refine own_go (fun t k => XS.aload X76.here hx rfl (hb hby at_20) rfl rfl k) ?_
      show Go _ _ _ _ _ T76 (mkF m 22 #[.val (.int p1), .val (.int p2), .val (.int (3 : Int32)), .val (.int (0 : Int32)), .val (.ref w_POSTING), .val (.ref w_COLLECTION), .unset] [(.ref w_POSTING)])
      refine own_go (fun t k => XS.aload X76.here hx rfl (hb hby at_22) rfl rfl k) ?_
      show Go _ _ _ _ _ T76 (mkF m 24 #[.val (.int p1), .val (.int p2), .val (.int (3 : Int32)), .val (.int (0 : Int32)), .val (.ref w_POSTING), .val (.ref w_COLLECTION), .unset] [(.ref w_COLLECTION), (.ref w_POSTING)])
      refine own_callV X76 hx hZ (y := (⟨"com/example/term_weight_evolver/termweightevolver/formula/Statistic$Scope", "with", "(Lcom/example/term_weight_evolver/termweightevolver/formula/Statistic$Scope;)Lcom/example/term_weight_evolver/termweightevolver/formula/Statistic$Scope;"⟩ : MethodName)) hown (hw _ (List.mem_of_getElem? (i := 9) rfl)) (hw _ (List.mem_of_getElem? (i := 10) rfl)) (hw _ (List.mem_of_getElem? (i := 12) rfl)) (hw _ (List.mem_of_getElem? (i := 11) rfl)) (hw _ (List.mem_of_getElem? (i := 13) rfl)) (hw _ (List.mem_of_getElem? (i := 5) rfl)) (by decide) (rm2 l Z a0 hw [] w_POSTING w_COLLECTION w_COLLECTION w_POSTING w_DOCUMENT w_TERM (.ref w_POSTING) h0 n0 hn0 S_COLLECTION S_POSTING S_DOCUMENT S_TERM (by rw [own_f_rm2, if_neg D_w_COLLECTION_w_POSTING, if_pos (show w_COLLECTION = w_COLLECTION from rfl)]; try first | rfl | decide)) e76 E_POSTING (by rw [hml]; rfl) (argsL := [(.ref w_COLLECTION)]) (rest := []) rfl rfl (lenOf own_pd1 rfl) (W := 0) (Nat.le_of_eq rfl) (by decide) (by decide) (hb hby at_24) (by decide) (by decide) ?_
      intro v77 T77 L77 X77 q77
      obtain ⟨rfl, N77q, e77⟩ := q77
      have N77 := Fr.app N76 N77q
      show Go _ _ _ _ _ T77 (mkF m 27 #[.val (.int p1), .val (.int p2), .val (.int (3 : Int32)), .val (.int (0 : Int32)), .val (.ref w_POSTING), .val (.ref w_COLLECTION), .unset] [(.ref w_POSTING)])
      refine own_go (fun t k => XS.astore X77.here hx rfl (hb hby at_27) rfl rfl (l' := #[.val (.int p1), .val (.int p2), .val (.int (3 : Int32)), .val (.int (0 : Int32)), .val (.ref w_POSTING), .val (.ref w_COLLECTION), .val (.ref w_POSTING)]) rfl k) ?_
      show Go _ _ _ _ _ T77 (mkF m 29 #[.val (.int p1), .val (.int p2), .val (.int (3 : Int32)), .val (.int (0 : Int32)), .val (.ref w_POSTING), .val (.ref w_COLLECTION), .val (.ref w_POSTING)] [])
      refine own_go (fun t k => XS.aload X77.here hx rfl (hb hby at_29) rfl rfl k) ?_
      show Go _ _ _ _ _ T77 (mkF m 31 #[.val (.int p1), .val (.int p2), .val (.int (3 : Int32)), .val (.int (0 : Int32)), .val (.ref w_POSTING), .val (.ref w_COLLECTION), .val (.ref w_POSTING)] [(.ref w_POSTING)])
      refine own_go (fun t k => XS.iloadN X77.here hx rfl (hb hby at_31) rfl k) ?_
      show Go _ _ _ _ _ T77 (mkF m 32 #[.val (.int p1), .val (.int p2), .val (.int (3 : Int32)), .val (.int (0 : Int32)), .val (.ref w_POSTING), .val (.ref w_COLLECTION), .val (.ref w_POSTING)] [(.int (3 : Int32)), (.ref w_POSTING)])
      refine own_go (fun t k => XS.iloadN X77.here hx rfl (hb hby at_32) rfl k) ?_
      show Go _ _ _ _ _ T77 (mkF m 33 #[.val (.int p1), .val (.int p2), .val (.int (3 : Int32)), .val (.int (0 : Int32)), .val (.ref w_POSTING), .val (.ref w_COLLECTION), .val (.ref w_POSTING)] [(.int (0 : Int32)), (.int (3 : Int32)), (.ref w_POSTING)])
      refine own_go (fun t k => XS.ior X77.here hx rfl (hb hby at_33) rfl k) ?_
      show Go _ _ _ _ _ T77 (mkF m 34 #[.val (.int p1), .val (.int p2), .val (.int (3 : Int32)), .val (.int (0 : Int32)), .val (.ref w_POSTING), .val (.ref w_COLLECTION), .val (.ref w_POSTING)] [(.int (3 : Int32)), (.ref w_POSTING)])
      refine own_callS X77 hx hZ (y := (⟨"com/example/term_weight_evolver/termweightevolver/formula/ScopeWithPinLaw", "of", "(I)Lcom/example/term_weight_evolver/termweightevolver/formula/Statistic$Scope;"⟩ : MethodName)) hown (hw _ (List.mem_of_getElem? (i := 0) rfl)) (hw _ (List.mem_of_getElem? (i := 1) rfl)) (hw _ (List.mem_of_getElem? (i := 2) rfl)) (hw _ (List.mem_of_getElem? (i := 3) rfl)) (by decide) (rm1 l Z a0 hw [] (3 : Int32) w_COLLECTION w_POSTING w_DOCUMENT w_TERM (.ref w_POSTING) h0 n0 hn0 S_COLLECTION S_POSTING S_DOCUMENT S_TERM (by rw [own_f_rm1, if_neg (show ¬ ((3 : Int32) = (0 : Int32)) by decide), if_neg (show ¬ ((3 : Int32) = (1 : Int32)) by decide), if_neg (show ¬ ((3 : Int32) = (2 : Int32)) by decide)]; try first | rfl | decide)) e77 (by rw [hml]; rfl) (argsL := [(.int (3 : Int32))]) (rest := [(.ref w_POSTING)]) rfl rfl (lenOf own_pd0 rfl) (W := 1) (Nat.le_of_eq rfl) (by decide) (by decide) (hb hby at_34) (by decide) (by decide) ?_
      intro v78 T78 L78 X78 q78
      obtain ⟨rfl, N78q, e78⟩ := q78
      have N78 := Fr.app N77 N78q
      show Go _ _ _ _ _ T78 (mkF m 37 #[.val (.int p1), .val (.int p2), .val (.int (3 : Int32)), .val (.int (0 : Int32)), .val (.ref w_POSTING), .val (.ref w_COLLECTION), .val (.ref w_POSTING)] [(.ref w_POSTING), (.ref w_POSTING)])
      refine own_go (fun t k => Jvm.RoadKit.acmp (g := (mkF m 37 #[.val (.int p1), .val (.int p2), .val (.int (3 : Int32)), .val (.int (0 : Int32)), .val (.ref w_POSTING), .val (.ref w_COLLECTION), .val (.ref w_POSTING)] [(.ref w_POSTING), (.ref w_POSTING)])) X78 hx rfl rfl rfl (pc0 := 37) (pc' := 40) (same := true) rfl (hb hby at_37) rfl (decide_eq_true rfl) (by decide) (by decide) k) ?_
      show Go _ _ _ _ _ T78 (mkF m 40 #[.val (.int p1), .val (.int p2), .val (.int (3 : Int32)), .val (.int (0 : Int32)), .val (.ref w_POSTING), .val (.ref w_COLLECTION), .val (.ref w_POSTING)] [])
      refine own_go (fun t k => XS.iconst X78.here hx rfl (hb hby at_40) k) ?_
      show Go _ _ _ _ _ T78 (mkF m 41 #[.val (.int p1), .val (.int p2), .val (.int (3 : Int32)), .val (.int (0 : Int32)), .val (.ref w_POSTING), .val (.ref w_COLLECTION), .val (.ref w_POSTING)] [(.int (1 : Int32))])
      refine own_go (fun t k => XS.goto X78.here hx rfl (pc0 := 41) (pc' := 45) rfl (hb hby at_41) (by decide) (by decide) k) ?_
      show Go _ _ _ _ _ T78 (mkF m 45 #[.val (.int p1), .val (.int p2), .val (.int (3 : Int32)), .val (.int (0 : Int32)), .val (.ref w_POSTING), .val (.ref w_COLLECTION), .val (.ref w_POSTING)] [(.int (1 : Int32))])
      refine own_retN X78 hx (own_lvN X78 hlk (by decide) (by decide)) (t := .boolean) hret (by simp) (hb hby at_45) ?_
      exact ⟨rfl, N78⟩
    · skip
      show Go _ _ _ _ _ s₁ (mkF m 8 #[.val (.int p1), .val (.int p2), .val (.int (3 : Int32)), .val (.int (1 : Int32)), .unset, .unset, .unset] [])
      refine own_go (fun t k => XS.iloadN X0.here hx rfl (hb hby at_8) rfl k) ?_
      show Go _ _ _ _ _ s₁ (mkF m 9 #[.val (.int p1), .val (.int p2), .val (.int (3 : Int32)), .val (.int (1 : Int32)), .unset, .unset, .unset] [(.int (3 : Int32))])
      refine own_callS X0 hx hZ (y := (⟨"com/example/term_weight_evolver/termweightevolver/formula/ScopeWithPinLaw", "of", "(I)Lcom/example/term_weight_evolver/termweightevolver/formula/Statistic$Scope;"⟩ : MethodName)) hown (hw _ (List.mem_of_getElem? (i := 0) rfl)) (hw _ (List.mem_of_getElem? (i := 1) rfl)) (hw _ (List.mem_of_getElem? (i := 2) rfl)) (hw _ (List.mem_of_getElem? (i := 3) rfl)) (by decide) (rm1 l Z a0 hw [] (3 : Int32) w_COLLECTION w_POSTING w_DOCUMENT w_TERM (.ref w_POSTING) h0 n0 hn0 S_COLLECTION S_POSTING S_DOCUMENT S_TERM (by rw [own_f_rm1, if_neg (show ¬ ((3 : Int32) = (0 : Int32)) by decide), if_neg (show ¬ ((3 : Int32) = (1 : Int32)) by decide), if_neg (show ¬ ((3 : Int32) = (2 : Int32)) by decide)]; try first | rfl | decide)) e0 (by rw [hml]; rfl) (argsL := [(.int (3 : Int32))]) (rest := []) rfl rfl (lenOf own_pd0 rfl) (W := 0) (Nat.le_of_eq rfl) (by decide) (by decide) (hb hby at_9) (by decide) (by decide) ?_
      intro v79 T79 L79 X79 q79
      obtain ⟨rfl, N79q, e79⟩ := q79
      have N79 := Fr.app N0 N79q
      show Go _ _ _ _ _ T79 (mkF m 12 #[.val (.int p1), .val (.int p2), .val (.int (3 : Int32)), .val (.int (1 : Int32)), .unset, .unset, .unset] [(.ref w_POSTING)])
      refine own_go (fun t k => XS.astore X79.here hx rfl (hb hby at_12) rfl rfl (l' := #[.val (.int p1), .val (.int p2), .val (.int (3 : Int32)), .val (.int (1 : Int32)), .val (.ref w_POSTING), .unset, .unset]) rfl k) ?_
      show Go _ _ _ _ _ T79 (mkF m 14 #[.val (.int p1), .val (.int p2), .val (.int (3 : Int32)), .val (.int (1 : Int32)), .val (.ref w_POSTING), .unset, .unset] [])
      refine own_go (fun t k => XS.iloadN X79.here hx rfl (hb hby at_14) rfl k) ?_
      show Go _ _ _ _ _ T79 (mkF m 15 #[.val (.int p1), .val (.int p2), .val (.int (3 : Int32)), .val (.int (1 : Int32)), .val (.ref w_POSTING), .unset, .unset] [(.int (1 : Int32))])
      refine own_callS X79 hx hZ (y := (⟨"com/example/term_weight_evolver/termweightevolver/formula/ScopeWithPinLaw", "of", "(I)Lcom/example/term_weight_evolver/termweightevolver/formula/Statistic$Scope;"⟩ : MethodName)) hown (hw _ (List.mem_of_getElem? (i := 0) rfl)) (hw _ (List.mem_of_getElem? (i := 1) rfl)) (hw _ (List.mem_of_getElem? (i := 2) rfl)) (hw _ (List.mem_of_getElem? (i := 3) rfl)) (by decide) (rm1 l Z a0 hw [] (1 : Int32) w_COLLECTION w_POSTING w_DOCUMENT w_TERM (.ref w_TERM) h0 n0 hn0 S_COLLECTION S_POSTING S_DOCUMENT S_TERM (by rw [own_f_rm1, if_neg (show ¬ ((1 : Int32) = (0 : Int32)) by decide), if_pos (show (1 : Int32) = (1 : Int32) from rfl)]; try first | rfl | decide)) e79 (by rw [hml]; rfl) (argsL := [(.int (1 : Int32))]) (rest := []) rfl rfl (lenOf own_pd0 rfl) (W := 0) (Nat.le_of_eq rfl) (by decide) (by decide) (hb hby at_15) (by decide) (by decide) ?_
      intro v80 T80 L80 X80 q80
      obtain ⟨rfl, N80q, e80⟩ := q80
      have N80 := Fr.app N79 N80q
      show Go _ _ _ _ _ T80 (mkF m 18 #[.val (.int p1), .val (.int p2), .val (.int (3 : Int32)), .val (.int (1 : Int32)), .val (.ref w_POSTING), .unset, .unset] [(.ref w_TERM)])
      refine own_go (fun t k => XS.astore X80.here hx rfl (hb hby at_18) rfl rfl (l' := #[.val (.int p1), .val (.int p2), .val (.int (3 : Int32)), .val (.int (1 : Int32)), .val (.ref w_POSTING), .val (.ref w_TERM), .unset]) rfl k) ?_
      show Go _ _ _ _ _ T80 (mkF m 20 #[.val (.int p1), .val (.int p2), .val (.int (3 : Int32)), .val (.int (1 : Int32)), .val (.ref w_POSTING), .val (.ref w_TERM), .unset] [])
      refine own_go (fun t k => XS.aload X80.here hx rfl (hb hby at_20) rfl rfl k) ?_
      show Go _ _ _ _ _ T80 (mkF m 22 #[.val (.int p1), .val (.int p2), .val (.int (3 : Int32)), .val (.int (1 : Int32)), .val (.ref w_POSTING), .val (.ref w_TERM), .unset] [(.ref w_POSTING)])
      refine own_go (fun t k => XS.aload X80.here hx rfl (hb hby at_22) rfl rfl k) ?_
      show Go _ _ _ _ _ T80 (mkF m 24 #[.val (.int p1), .val (.int p2), .val (.int (3 : Int32)), .val (.int (1 : Int32)), .val (.ref w_POSTING), .val (.ref w_TERM), .unset] [(.ref w_TERM), (.ref w_POSTING)])
      refine own_callV X80 hx hZ (y := (⟨"com/example/term_weight_evolver/termweightevolver/formula/Statistic$Scope", "with", "(Lcom/example/term_weight_evolver/termweightevolver/formula/Statistic$Scope;)Lcom/example/term_weight_evolver/termweightevolver/formula/Statistic$Scope;"⟩ : MethodName)) hown (hw _ (List.mem_of_getElem? (i := 9) rfl)) (hw _ (List.mem_of_getElem? (i := 10) rfl)) (hw _ (List.mem_of_getElem? (i := 12) rfl)) (hw _ (List.mem_of_getElem? (i := 11) rfl)) (hw _ (List.mem_of_getElem? (i := 13) rfl)) (hw _ (List.mem_of_getElem? (i := 5) rfl)) (by decide) (rm2 l Z a0 hw [] w_POSTING w_TERM w_COLLECTION w_POSTING w_DOCUMENT w_TERM (.ref w_POSTING) h0 n0 hn0 S_COLLECTION S_POSTING S_DOCUMENT S_TERM (by rw [own_f_rm2, if_neg (fun q => D_w_POSTING_w_TERM q.symm), if_neg (fun q => D_w_COLLECTION_w_TERM q.symm), if_neg (fun q => D_w_COLLECTION_w_POSTING q.symm)]; try first | rfl | decide)) e80 E_POSTING (by rw [hml]; rfl) (argsL := [(.ref w_TERM)]) (rest := []) rfl rfl (lenOf own_pd1 rfl) (W := 0) (Nat.le_of_eq rfl) (by decide) (by decide) (hb hby at_24) (by decide) (by decide) ?_
      intro v81 T81 L81 X81 q81
      obtain ⟨rfl, N81q, e81⟩ := q81
      have N81 := Fr.app N80 N81q
      show Go _ _ _ _ _ T81 (mkF m 27 #[.val (.int p1), .val (.int p2), .val (.int (3 : Int32)), .val (.int (1 : Int32)), .val (.ref w_POSTING), .val (.ref w_TERM), .unset] [(.ref w_POSTING)])
      refine own_go (fun t k => XS.astore X81.here hx rfl (hb hby at_27) rfl rfl (l' := #[.val (.int p1), .val (.int p2), .val (.int (3 : Int32)), .val (.int (1 : Int32)), .val (.ref w_POSTING), .val (.ref w_TERM), .val (.ref w_POSTING)]) rfl k) ?_
      show Go _ _ _ _ _ T81 (mkF m 29 #[.val (.int p1), .val (.int p2), .val (.int (3 : Int32)), .val (.int (1 : Int32)), .val (.ref w_POSTING), .val (.ref w_TERM), .val (.ref w_POSTING)] [])
      refine own_go (fun t k => XS.aload X81.here hx rfl (hb hby at_29) rfl rfl k) ?_
      show Go _ _ _ _ _ T81 (mkF m 31 #[.val (.int p1), .val (.int p2), .val (.int (3 : Int32)), .val (.int (1 : Int32)), .val (.ref w_POSTING), .val (.ref w_TERM), .val (.ref w_POSTING)] [(.ref w_POSTING)])
      refine own_go (fun t k => XS.iloadN X81.here hx rfl (hb hby at_31) rfl k) ?_
      show Go _ _ _ _ _ T81 (mkF m 32 #[.val (.int p1), .val (.int p2), .val (.int (3 : Int32)), .val (.int (1 : Int32)), .val (.ref w_POSTING), .val (.ref w_TERM), .val (.ref w_POSTING)] [(.int (3 : Int32)), (.ref w_POSTING)])
      refine own_go (fun t k => XS.iloadN X81.here hx rfl (hb hby at_32) rfl k) ?_
      show Go _ _ _ _ _ T81 (mkF m 33 #[.val (.int p1), .val (.int p2), .val (.int (3 : Int32)), .val (.int (1 : Int32)), .val (.ref w_POSTING), .val (.ref w_TERM), .val (.ref w_POSTING)] [(.int (1 : Int32)), (.int (3 : Int32)), (.ref w_POSTING)])
      refine own_go (fun t k => XS.ior X81.here hx rfl (hb hby at_33) rfl k) ?_
      show Go _ _ _ _ _ T81 (mkF m 34 #[.val (.int p1), .val (.int p2), .val (.int (3 : Int32)), .val (.int (1 : Int32)), .val (.ref w_POSTING), .val (.ref w_TERM), .val (.ref w_POSTING)] [(.int (3 : Int32)), (.ref w_POSTING)])
      refine own_callS X81 hx hZ (y := (⟨"com/example/term_weight_evolver/termweightevolver/formula/ScopeWithPinLaw", "of", "(I)Lcom/example/term_weight_evolver/termweightevolver/formula/Statistic$Scope;"⟩ : MethodName)) hown (hw _ (List.mem_of_getElem? (i := 0) rfl)) (hw _ (List.mem_of_getElem? (i := 1) rfl)) (hw _ (List.mem_of_getElem? (i := 2) rfl)) (hw _ (List.mem_of_getElem? (i := 3) rfl)) (by decide) (rm1 l Z a0 hw [] (3 : Int32) w_COLLECTION w_POSTING w_DOCUMENT w_TERM (.ref w_POSTING) h0 n0 hn0 S_COLLECTION S_POSTING S_DOCUMENT S_TERM (by rw [own_f_rm1, if_neg (show ¬ ((3 : Int32) = (0 : Int32)) by decide), if_neg (show ¬ ((3 : Int32) = (1 : Int32)) by decide), if_neg (show ¬ ((3 : Int32) = (2 : Int32)) by decide)]; try first | rfl | decide)) e81 (by rw [hml]; rfl) (argsL := [(.int (3 : Int32))]) (rest := [(.ref w_POSTING)]) rfl rfl (lenOf own_pd0 rfl) (W := 1) (Nat.le_of_eq rfl) (by decide) (by decide) (hb hby at_34) (by decide) (by decide) ?_
      intro v82 T82 L82 X82 q82
      obtain ⟨rfl, N82q, e82⟩ := q82
      have N82 := Fr.app N81 N82q
      show Go _ _ _ _ _ T82 (mkF m 37 #[.val (.int p1), .val (.int p2), .val (.int (3 : Int32)), .val (.int (1 : Int32)), .val (.ref w_POSTING), .val (.ref w_TERM), .val (.ref w_POSTING)] [(.ref w_POSTING), (.ref w_POSTING)])
      refine own_go (fun t k => Jvm.RoadKit.acmp (g := (mkF m 37 #[.val (.int p1), .val (.int p2), .val (.int (3 : Int32)), .val (.int (1 : Int32)), .val (.ref w_POSTING), .val (.ref w_TERM), .val (.ref w_POSTING)] [(.ref w_POSTING), (.ref w_POSTING)])) X82 hx rfl rfl rfl (pc0 := 37) (pc' := 40) (same := true) rfl (hb hby at_37) rfl (decide_eq_true rfl) (by decide) (by decide) k) ?_
      show Go _ _ _ _ _ T82 (mkF m 40 #[.val (.int p1), .val (.int p2), .val (.int (3 : Int32)), .val (.int (1 : Int32)), .val (.ref w_POSTING), .val (.ref w_TERM), .val (.ref w_POSTING)] [])
      refine own_go (fun t k => XS.iconst X82.here hx rfl (hb hby at_40) k) ?_
      show Go _ _ _ _ _ T82 (mkF m 41 #[.val (.int p1), .val (.int p2), .val (.int (3 : Int32)), .val (.int (1 : Int32)), .val (.ref w_POSTING), .val (.ref w_TERM), .val (.ref w_POSTING)] [(.int (1 : Int32))])
      refine own_go (fun t k => XS.goto X82.here hx rfl (pc0 := 41) (pc' := 45) rfl (hb hby at_41) (by decide) (by decide) k) ?_
      show Go _ _ _ _ _ T82 (mkF m 45 #[.val (.int p1), .val (.int p2), .val (.int (3 : Int32)), .val (.int (1 : Int32)), .val (.ref w_POSTING), .val (.ref w_TERM), .val (.ref w_POSTING)] [(.int (1 : Int32))])
      refine own_retN X82 hx (own_lvN X82 hlk (by decide) (by decide)) (t := .boolean) hret (by simp) (hb hby at_45) ?_
      exact ⟨rfl, N82⟩
    · skip
      show Go _ _ _ _ _ s₁ (mkF m 8 #[.val (.int p1), .val (.int p2), .val (.int (3 : Int32)), .val (.int (2 : Int32)), .unset, .unset, .unset] [])
      refine own_go (fun t k => XS.iloadN X0.here hx rfl (hb hby at_8) rfl k) ?_
      show Go _ _ _ _ _ s₁ (mkF m 9 #[.val (.int p1), .val (.int p2), .val (.int (3 : Int32)), .val (.int (2 : Int32)), .unset, .unset, .unset] [(.int (3 : Int32))])
      refine own_callS X0 hx hZ (y := (⟨"com/example/term_weight_evolver/termweightevolver/formula/ScopeWithPinLaw", "of", "(I)Lcom/example/term_weight_evolver/termweightevolver/formula/Statistic$Scope;"⟩ : MethodName)) hown (hw _ (List.mem_of_getElem? (i := 0) rfl)) (hw _ (List.mem_of_getElem? (i := 1) rfl)) (hw _ (List.mem_of_getElem? (i := 2) rfl)) (hw _ (List.mem_of_getElem? (i := 3) rfl)) (by decide) (rm1 l Z a0 hw [] (3 : Int32) w_COLLECTION w_POSTING w_DOCUMENT w_TERM (.ref w_POSTING) h0 n0 hn0 S_COLLECTION S_POSTING S_DOCUMENT S_TERM (by rw [own_f_rm1, if_neg (show ¬ ((3 : Int32) = (0 : Int32)) by decide), if_neg (show ¬ ((3 : Int32) = (1 : Int32)) by decide), if_neg (show ¬ ((3 : Int32) = (2 : Int32)) by decide)]; try first | rfl | decide)) e0 (by rw [hml]; rfl) (argsL := [(.int (3 : Int32))]) (rest := []) rfl rfl (lenOf own_pd0 rfl) (W := 0) (Nat.le_of_eq rfl) (by decide) (by decide) (hb hby at_9) (by decide) (by decide) ?_
      intro v83 T83 L83 X83 q83
      obtain ⟨rfl, N83q, e83⟩ := q83
      have N83 := Fr.app N0 N83q
      show Go _ _ _ _ _ T83 (mkF m 12 #[.val (.int p1), .val (.int p2), .val (.int (3 : Int32)), .val (.int (2 : Int32)), .unset, .unset, .unset] [(.ref w_POSTING)])
      refine own_go (fun t k => XS.astore X83.here hx rfl (hb hby at_12) rfl rfl (l' := #[.val (.int p1), .val (.int p2), .val (.int (3 : Int32)), .val (.int (2 : Int32)), .val (.ref w_POSTING), .unset, .unset]) rfl k) ?_
      show Go _ _ _ _ _ T83 (mkF m 14 #[.val (.int p1), .val (.int p2), .val (.int (3 : Int32)), .val (.int (2 : Int32)), .val (.ref w_POSTING), .unset, .unset] [])
      refine own_go (fun t k => XS.iloadN X83.here hx rfl (hb hby at_14) rfl k) ?_
      show Go _ _ _ _ _ T83 (mkF m 15 #[.val (.int p1), .val (.int p2), .val (.int (3 : Int32)), .val (.int (2 : Int32)), .val (.ref w_POSTING), .unset, .unset] [(.int (2 : Int32))])
      refine own_callS X83 hx hZ (y := (⟨"com/example/term_weight_evolver/termweightevolver/formula/ScopeWithPinLaw", "of", "(I)Lcom/example/term_weight_evolver/termweightevolver/formula/Statistic$Scope;"⟩ : MethodName)) hown (hw _ (List.mem_of_getElem? (i := 0) rfl)) (hw _ (List.mem_of_getElem? (i := 1) rfl)) (hw _ (List.mem_of_getElem? (i := 2) rfl)) (hw _ (List.mem_of_getElem? (i := 3) rfl)) (by decide) (rm1 l Z a0 hw [] (2 : Int32) w_COLLECTION w_POSTING w_DOCUMENT w_TERM (.ref w_DOCUMENT) h0 n0 hn0 S_COLLECTION S_POSTING S_DOCUMENT S_TERM (by rw [own_f_rm1, if_neg (show ¬ ((2 : Int32) = (0 : Int32)) by decide), if_neg (show ¬ ((2 : Int32) = (1 : Int32)) by decide), if_pos (show (2 : Int32) = (2 : Int32) from rfl)]; try first | rfl | decide)) e83 (by rw [hml]; rfl) (argsL := [(.int (2 : Int32))]) (rest := []) rfl rfl (lenOf own_pd0 rfl) (W := 0) (Nat.le_of_eq rfl) (by decide) (by decide) (hb hby at_15) (by decide) (by decide) ?_
      intro v84 T84 L84 X84 q84
      obtain ⟨rfl, N84q, e84⟩ := q84
      have N84 := Fr.app N83 N84q
      show Go _ _ _ _ _ T84 (mkF m 18 #[.val (.int p1), .val (.int p2), .val (.int (3 : Int32)), .val (.int (2 : Int32)), .val (.ref w_POSTING), .unset, .unset] [(.ref w_DOCUMENT)])
      refine own_go (fun t k => XS.astore X84.here hx rfl (hb hby at_18) rfl rfl (l' := #[.val (.int p1), .val (.int p2), .val (.int (3 : Int32)), .val (.int (2 : Int32)), .val (.ref w_POSTING), .val (.ref w_DOCUMENT), .unset]) rfl k) ?_
      show Go _ _ _ _ _ T84 (mkF m 20 #[.val (.int p1), .val (.int p2), .val (.int (3 : Int32)), .val (.int (2 : Int32)), .val (.ref w_POSTING), .val (.ref w_DOCUMENT), .unset] [])
      refine own_go (fun t k => XS.aload X84.here hx rfl (hb hby at_20) rfl rfl k) ?_
      show Go _ _ _ _ _ T84 (mkF m 22 #[.val (.int p1), .val (.int p2), .val (.int (3 : Int32)), .val (.int (2 : Int32)), .val (.ref w_POSTING), .val (.ref w_DOCUMENT), .unset] [(.ref w_POSTING)])
      refine own_go (fun t k => XS.aload X84.here hx rfl (hb hby at_22) rfl rfl k) ?_
      show Go _ _ _ _ _ T84 (mkF m 24 #[.val (.int p1), .val (.int p2), .val (.int (3 : Int32)), .val (.int (2 : Int32)), .val (.ref w_POSTING), .val (.ref w_DOCUMENT), .unset] [(.ref w_DOCUMENT), (.ref w_POSTING)])
      refine own_callV X84 hx hZ (y := (⟨"com/example/term_weight_evolver/termweightevolver/formula/Statistic$Scope", "with", "(Lcom/example/term_weight_evolver/termweightevolver/formula/Statistic$Scope;)Lcom/example/term_weight_evolver/termweightevolver/formula/Statistic$Scope;"⟩ : MethodName)) hown (hw _ (List.mem_of_getElem? (i := 9) rfl)) (hw _ (List.mem_of_getElem? (i := 10) rfl)) (hw _ (List.mem_of_getElem? (i := 12) rfl)) (hw _ (List.mem_of_getElem? (i := 11) rfl)) (hw _ (List.mem_of_getElem? (i := 13) rfl)) (hw _ (List.mem_of_getElem? (i := 5) rfl)) (by decide) (rm2 l Z a0 hw [] w_POSTING w_DOCUMENT w_COLLECTION w_POSTING w_DOCUMENT w_TERM (.ref w_POSTING) h0 n0 hn0 S_COLLECTION S_POSTING S_DOCUMENT S_TERM (by rw [own_f_rm2, if_neg (fun q => D_w_POSTING_w_DOCUMENT q.symm), if_neg (fun q => D_w_COLLECTION_w_DOCUMENT q.symm), if_neg (fun q => D_w_COLLECTION_w_POSTING q.symm)]; try first | rfl | decide)) e84 E_POSTING (by rw [hml]; rfl) (argsL := [(.ref w_DOCUMENT)]) (rest := []) rfl rfl (lenOf own_pd1 rfl) (W := 0) (Nat.le_of_eq rfl) (by decide) (by decide) (hb hby at_24) (by decide) (by decide) ?_
      intro v85 T85 L85 X85 q85
      obtain ⟨rfl, N85q, e85⟩ := q85
      have N85 := Fr.app N84 N85q
      show Go _ _ _ _ _ T85 (mkF m 27 #[.val (.int p1), .val (.int p2), .val (.int (3 : Int32)), .val (.int (2 : Int32)), .val (.ref w_POSTING), .val (.ref w_DOCUMENT), .unset] [(.ref w_POSTING)])
      refine own_go (fun t k => XS.astore X85.here hx rfl (hb hby at_27) rfl rfl (l' := #[.val (.int p1), .val (.int p2), .val (.int (3 : Int32)), .val (.int (2 : Int32)), .val (.ref w_POSTING), .val (.ref w_DOCUMENT), .val (.ref w_POSTING)]) rfl k) ?_
      show Go _ _ _ _ _ T85 (mkF m 29 #[.val (.int p1), .val (.int p2), .val (.int (3 : Int32)), .val (.int (2 : Int32)), .val (.ref w_POSTING), .val (.ref w_DOCUMENT), .val (.ref w_POSTING)] [])
      refine own_go (fun t k => XS.aload X85.here hx rfl (hb hby at_29) rfl rfl k) ?_
      show Go _ _ _ _ _ T85 (mkF m 31 #[.val (.int p1), .val (.int p2), .val (.int (3 : Int32)), .val (.int (2 : Int32)), .val (.ref w_POSTING), .val (.ref w_DOCUMENT), .val (.ref w_POSTING)] [(.ref w_POSTING)])
      refine own_go (fun t k => XS.iloadN X85.here hx rfl (hb hby at_31) rfl k) ?_
      show Go _ _ _ _ _ T85 (mkF m 32 #[.val (.int p1), .val (.int p2), .val (.int (3 : Int32)), .val (.int (2 : Int32)), .val (.ref w_POSTING), .val (.ref w_DOCUMENT), .val (.ref w_POSTING)] [(.int (3 : Int32)), (.ref w_POSTING)])
      refine own_go (fun t k => XS.iloadN X85.here hx rfl (hb hby at_32) rfl k) ?_
      show Go _ _ _ _ _ T85 (mkF m 33 #[.val (.int p1), .val (.int p2), .val (.int (3 : Int32)), .val (.int (2 : Int32)), .val (.ref w_POSTING), .val (.ref w_DOCUMENT), .val (.ref w_POSTING)] [(.int (2 : Int32)), (.int (3 : Int32)), (.ref w_POSTING)])
      refine own_go (fun t k => XS.ior X85.here hx rfl (hb hby at_33) rfl k) ?_
      show Go _ _ _ _ _ T85 (mkF m 34 #[.val (.int p1), .val (.int p2), .val (.int (3 : Int32)), .val (.int (2 : Int32)), .val (.ref w_POSTING), .val (.ref w_DOCUMENT), .val (.ref w_POSTING)] [(.int (3 : Int32)), (.ref w_POSTING)])
      refine own_callS X85 hx hZ (y := (⟨"com/example/term_weight_evolver/termweightevolver/formula/ScopeWithPinLaw", "of", "(I)Lcom/example/term_weight_evolver/termweightevolver/formula/Statistic$Scope;"⟩ : MethodName)) hown (hw _ (List.mem_of_getElem? (i := 0) rfl)) (hw _ (List.mem_of_getElem? (i := 1) rfl)) (hw _ (List.mem_of_getElem? (i := 2) rfl)) (hw _ (List.mem_of_getElem? (i := 3) rfl)) (by decide) (rm1 l Z a0 hw [] (3 : Int32) w_COLLECTION w_POSTING w_DOCUMENT w_TERM (.ref w_POSTING) h0 n0 hn0 S_COLLECTION S_POSTING S_DOCUMENT S_TERM (by rw [own_f_rm1, if_neg (show ¬ ((3 : Int32) = (0 : Int32)) by decide), if_neg (show ¬ ((3 : Int32) = (1 : Int32)) by decide), if_neg (show ¬ ((3 : Int32) = (2 : Int32)) by decide)]; try first | rfl | decide)) e85 (by rw [hml]; rfl) (argsL := [(.int (3 : Int32))]) (rest := [(.ref w_POSTING)]) rfl rfl (lenOf own_pd0 rfl) (W := 1) (Nat.le_of_eq rfl) (by decide) (by decide) (hb hby at_34) (by decide) (by decide) ?_
      intro v86 T86 L86 X86 q86
      obtain ⟨rfl, N86q, e86⟩ := q86
      have N86 := Fr.app N85 N86q
      show Go _ _ _ _ _ T86 (mkF m 37 #[.val (.int p1), .val (.int p2), .val (.int (3 : Int32)), .val (.int (2 : Int32)), .val (.ref w_POSTING), .val (.ref w_DOCUMENT), .val (.ref w_POSTING)] [(.ref w_POSTING), (.ref w_POSTING)])
      refine own_go (fun t k => Jvm.RoadKit.acmp (g := (mkF m 37 #[.val (.int p1), .val (.int p2), .val (.int (3 : Int32)), .val (.int (2 : Int32)), .val (.ref w_POSTING), .val (.ref w_DOCUMENT), .val (.ref w_POSTING)] [(.ref w_POSTING), (.ref w_POSTING)])) X86 hx rfl rfl rfl (pc0 := 37) (pc' := 40) (same := true) rfl (hb hby at_37) rfl (decide_eq_true rfl) (by decide) (by decide) k) ?_
      show Go _ _ _ _ _ T86 (mkF m 40 #[.val (.int p1), .val (.int p2), .val (.int (3 : Int32)), .val (.int (2 : Int32)), .val (.ref w_POSTING), .val (.ref w_DOCUMENT), .val (.ref w_POSTING)] [])
      refine own_go (fun t k => XS.iconst X86.here hx rfl (hb hby at_40) k) ?_
      show Go _ _ _ _ _ T86 (mkF m 41 #[.val (.int p1), .val (.int p2), .val (.int (3 : Int32)), .val (.int (2 : Int32)), .val (.ref w_POSTING), .val (.ref w_DOCUMENT), .val (.ref w_POSTING)] [(.int (1 : Int32))])
      refine own_go (fun t k => XS.goto X86.here hx rfl (pc0 := 41) (pc' := 45) rfl (hb hby at_41) (by decide) (by decide) k) ?_
      show Go _ _ _ _ _ T86 (mkF m 45 #[.val (.int p1), .val (.int p2), .val (.int (3 : Int32)), .val (.int (2 : Int32)), .val (.ref w_POSTING), .val (.ref w_DOCUMENT), .val (.ref w_POSTING)] [(.int (1 : Int32))])
      refine own_retN X86 hx (own_lvN X86 hlk (by decide) (by decide)) (t := .boolean) hret (by simp) (hb hby at_45) ?_
      exact ⟨rfl, N86⟩
    · skip
      show Go _ _ _ _ _ s₁ (mkF m 8 #[.val (.int p1), .val (.int p2), .val (.int (3 : Int32)), .val (.int (3 : Int32)), .unset, .unset, .unset] [])
      refine own_go (fun t k => XS.iloadN X0.here hx rfl (hb hby at_8) rfl k) ?_
      show Go _ _ _ _ _ s₁ (mkF m 9 #[.val (.int p1), .val (.int p2), .val (.int (3 : Int32)), .val (.int (3 : Int32)), .unset, .unset, .unset] [(.int (3 : Int32))])
      refine own_callS X0 hx hZ (y := (⟨"com/example/term_weight_evolver/termweightevolver/formula/ScopeWithPinLaw", "of", "(I)Lcom/example/term_weight_evolver/termweightevolver/formula/Statistic$Scope;"⟩ : MethodName)) hown (hw _ (List.mem_of_getElem? (i := 0) rfl)) (hw _ (List.mem_of_getElem? (i := 1) rfl)) (hw _ (List.mem_of_getElem? (i := 2) rfl)) (hw _ (List.mem_of_getElem? (i := 3) rfl)) (by decide) (rm1 l Z a0 hw [] (3 : Int32) w_COLLECTION w_POSTING w_DOCUMENT w_TERM (.ref w_POSTING) h0 n0 hn0 S_COLLECTION S_POSTING S_DOCUMENT S_TERM (by rw [own_f_rm1, if_neg (show ¬ ((3 : Int32) = (0 : Int32)) by decide), if_neg (show ¬ ((3 : Int32) = (1 : Int32)) by decide), if_neg (show ¬ ((3 : Int32) = (2 : Int32)) by decide)]; try first | rfl | decide)) e0 (by rw [hml]; rfl) (argsL := [(.int (3 : Int32))]) (rest := []) rfl rfl (lenOf own_pd0 rfl) (W := 0) (Nat.le_of_eq rfl) (by decide) (by decide) (hb hby at_9) (by decide) (by decide) ?_
      intro v87 T87 L87 X87 q87
      obtain ⟨rfl, N87q, e87⟩ := q87
      have N87 := Fr.app N0 N87q
      show Go _ _ _ _ _ T87 (mkF m 12 #[.val (.int p1), .val (.int p2), .val (.int (3 : Int32)), .val (.int (3 : Int32)), .unset, .unset, .unset] [(.ref w_POSTING)])
      refine own_go (fun t k => XS.astore X87.here hx rfl (hb hby at_12) rfl rfl (l' := #[.val (.int p1), .val (.int p2), .val (.int (3 : Int32)), .val (.int (3 : Int32)), .val (.ref w_POSTING), .unset, .unset]) rfl k) ?_
      show Go _ _ _ _ _ T87 (mkF m 14 #[.val (.int p1), .val (.int p2), .val (.int (3 : Int32)), .val (.int (3 : Int32)), .val (.ref w_POSTING), .unset, .unset] [])
      refine own_go (fun t k => XS.iloadN X87.here hx rfl (hb hby at_14) rfl k) ?_
      show Go _ _ _ _ _ T87 (mkF m 15 #[.val (.int p1), .val (.int p2), .val (.int (3 : Int32)), .val (.int (3 : Int32)), .val (.ref w_POSTING), .unset, .unset] [(.int (3 : Int32))])
      refine own_callS X87 hx hZ (y := (⟨"com/example/term_weight_evolver/termweightevolver/formula/ScopeWithPinLaw", "of", "(I)Lcom/example/term_weight_evolver/termweightevolver/formula/Statistic$Scope;"⟩ : MethodName)) hown (hw _ (List.mem_of_getElem? (i := 0) rfl)) (hw _ (List.mem_of_getElem? (i := 1) rfl)) (hw _ (List.mem_of_getElem? (i := 2) rfl)) (hw _ (List.mem_of_getElem? (i := 3) rfl)) (by decide) (rm1 l Z a0 hw [] (3 : Int32) w_COLLECTION w_POSTING w_DOCUMENT w_TERM (.ref w_POSTING) h0 n0 hn0 S_COLLECTION S_POSTING S_DOCUMENT S_TERM (by rw [own_f_rm1, if_neg (show ¬ ((3 : Int32) = (0 : Int32)) by decide), if_neg (show ¬ ((3 : Int32) = (1 : Int32)) by decide), if_neg (show ¬ ((3 : Int32) = (2 : Int32)) by decide)]; try first | rfl | decide)) e87 (by rw [hml]; rfl) (argsL := [(.int (3 : Int32))]) (rest := []) rfl rfl (lenOf own_pd0 rfl) (W := 0) (Nat.le_of_eq rfl) (by decide) (by decide) (hb hby at_15) (by decide) (by decide) ?_
      intro v88 T88 L88 X88 q88
      obtain ⟨rfl, N88q, e88⟩ := q88
      have N88 := Fr.app N87 N88q
      show Go _ _ _ _ _ T88 (mkF m 18 #[.val (.int p1), .val (.int p2), .val (.int (3 : Int32)), .val (.int (3 : Int32)), .val (.ref w_POSTING), .unset, .unset] [(.ref w_POSTING)])
      refine own_go (fun t k => XS.astore X88.here hx rfl (hb hby at_18) rfl rfl (l' := #[.val (.int p1), .val (.int p2), .val (.int (3 : Int32)), .val (.int (3 : Int32)), .val (.ref w_POSTING), .val (.ref w_POSTING), .unset]) rfl k) ?_
      show Go _ _ _ _ _ T88 (mkF m 20 #[.val (.int p1), .val (.int p2), .val (.int (3 : Int32)), .val (.int (3 : Int32)), .val (.ref w_POSTING), .val (.ref w_POSTING), .unset] [])
      refine own_go (fun t k => XS.aload X88.here hx rfl (hb hby at_20) rfl rfl k) ?_
      show Go _ _ _ _ _ T88 (mkF m 22 #[.val (.int p1), .val (.int p2), .val (.int (3 : Int32)), .val (.int (3 : Int32)), .val (.ref w_POSTING), .val (.ref w_POSTING), .unset] [(.ref w_POSTING)])
      refine own_go (fun t k => XS.aload X88.here hx rfl (hb hby at_22) rfl rfl k) ?_
      show Go _ _ _ _ _ T88 (mkF m 24 #[.val (.int p1), .val (.int p2), .val (.int (3 : Int32)), .val (.int (3 : Int32)), .val (.ref w_POSTING), .val (.ref w_POSTING), .unset] [(.ref w_POSTING), (.ref w_POSTING)])
      refine own_callV X88 hx hZ (y := (⟨"com/example/term_weight_evolver/termweightevolver/formula/Statistic$Scope", "with", "(Lcom/example/term_weight_evolver/termweightevolver/formula/Statistic$Scope;)Lcom/example/term_weight_evolver/termweightevolver/formula/Statistic$Scope;"⟩ : MethodName)) hown (hw _ (List.mem_of_getElem? (i := 9) rfl)) (hw _ (List.mem_of_getElem? (i := 10) rfl)) (hw _ (List.mem_of_getElem? (i := 12) rfl)) (hw _ (List.mem_of_getElem? (i := 11) rfl)) (hw _ (List.mem_of_getElem? (i := 13) rfl)) (hw _ (List.mem_of_getElem? (i := 5) rfl)) (by decide) (rm2 l Z a0 hw [] w_POSTING w_POSTING w_COLLECTION w_POSTING w_DOCUMENT w_TERM (.ref w_POSTING) h0 n0 hn0 S_COLLECTION S_POSTING S_DOCUMENT S_TERM (by rw [own_f_rm2, if_pos (show w_POSTING = w_POSTING from rfl)]; try first | rfl | decide)) e88 E_POSTING (by rw [hml]; rfl) (argsL := [(.ref w_POSTING)]) (rest := []) rfl rfl (lenOf own_pd1 rfl) (W := 0) (Nat.le_of_eq rfl) (by decide) (by decide) (hb hby at_24) (by decide) (by decide) ?_
      intro v89 T89 L89 X89 q89
      obtain ⟨rfl, N89q, e89⟩ := q89
      have N89 := Fr.app N88 N89q
      show Go _ _ _ _ _ T89 (mkF m 27 #[.val (.int p1), .val (.int p2), .val (.int (3 : Int32)), .val (.int (3 : Int32)), .val (.ref w_POSTING), .val (.ref w_POSTING), .unset] [(.ref w_POSTING)])
      refine own_go (fun t k => XS.astore X89.here hx rfl (hb hby at_27) rfl rfl (l' := #[.val (.int p1), .val (.int p2), .val (.int (3 : Int32)), .val (.int (3 : Int32)), .val (.ref w_POSTING), .val (.ref w_POSTING), .val (.ref w_POSTING)]) rfl k) ?_
      show Go _ _ _ _ _ T89 (mkF m 29 #[.val (.int p1), .val (.int p2), .val (.int (3 : Int32)), .val (.int (3 : Int32)), .val (.ref w_POSTING), .val (.ref w_POSTING), .val (.ref w_POSTING)] [])
      refine own_go (fun t k => XS.aload X89.here hx rfl (hb hby at_29) rfl rfl k) ?_
      show Go _ _ _ _ _ T89 (mkF m 31 #[.val (.int p1), .val (.int p2), .val (.int (3 : Int32)), .val (.int (3 : Int32)), .val (.ref w_POSTING), .val (.ref w_POSTING), .val (.ref w_POSTING)] [(.ref w_POSTING)])
      refine own_go (fun t k => XS.iloadN X89.here hx rfl (hb hby at_31) rfl k) ?_
      show Go _ _ _ _ _ T89 (mkF m 32 #[.val (.int p1), .val (.int p2), .val (.int (3 : Int32)), .val (.int (3 : Int32)), .val (.ref w_POSTING), .val (.ref w_POSTING), .val (.ref w_POSTING)] [(.int (3 : Int32)), (.ref w_POSTING)])
      refine own_go (fun t k => XS.iloadN X89.here hx rfl (hb hby at_32) rfl k) ?_
      show Go _ _ _ _ _ T89 (mkF m 33 #[.val (.int p1), .val (.int p2), .val (.int (3 : Int32)), .val (.int (3 : Int32)), .val (.ref w_POSTING), .val (.ref w_POSTING), .val (.ref w_POSTING)] [(.int (3 : Int32)), (.int (3 : Int32)), (.ref w_POSTING)])
      refine own_go (fun t k => XS.ior X89.here hx rfl (hb hby at_33) rfl k) ?_
      show Go _ _ _ _ _ T89 (mkF m 34 #[.val (.int p1), .val (.int p2), .val (.int (3 : Int32)), .val (.int (3 : Int32)), .val (.ref w_POSTING), .val (.ref w_POSTING), .val (.ref w_POSTING)] [(.int (3 : Int32)), (.ref w_POSTING)])
      refine own_callS X89 hx hZ (y := (⟨"com/example/term_weight_evolver/termweightevolver/formula/ScopeWithPinLaw", "of", "(I)Lcom/example/term_weight_evolver/termweightevolver/formula/Statistic$Scope;"⟩ : MethodName)) hown (hw _ (List.mem_of_getElem? (i := 0) rfl)) (hw _ (List.mem_of_getElem? (i := 1) rfl)) (hw _ (List.mem_of_getElem? (i := 2) rfl)) (hw _ (List.mem_of_getElem? (i := 3) rfl)) (by decide) (rm1 l Z a0 hw [] (3 : Int32) w_COLLECTION w_POSTING w_DOCUMENT w_TERM (.ref w_POSTING) h0 n0 hn0 S_COLLECTION S_POSTING S_DOCUMENT S_TERM (by rw [own_f_rm1, if_neg (show ¬ ((3 : Int32) = (0 : Int32)) by decide), if_neg (show ¬ ((3 : Int32) = (1 : Int32)) by decide), if_neg (show ¬ ((3 : Int32) = (2 : Int32)) by decide)]; try first | rfl | decide)) e89 (by rw [hml]; rfl) (argsL := [(.int (3 : Int32))]) (rest := [(.ref w_POSTING)]) rfl rfl (lenOf own_pd0 rfl) (W := 1) (Nat.le_of_eq rfl) (by decide) (by decide) (hb hby at_34) (by decide) (by decide) ?_
      intro v90 T90 L90 X90 q90
      obtain ⟨rfl, N90q, e90⟩ := q90
      have N90 := Fr.app N89 N90q
      show Go _ _ _ _ _ T90 (mkF m 37 #[.val (.int p1), .val (.int p2), .val (.int (3 : Int32)), .val (.int (3 : Int32)), .val (.ref w_POSTING), .val (.ref w_POSTING), .val (.ref w_POSTING)] [(.ref w_POSTING), (.ref w_POSTING)])
      refine own_go (fun t k => Jvm.RoadKit.acmp (g := (mkF m 37 #[.val (.int p1), .val (.int p2), .val (.int (3 : Int32)), .val (.int (3 : Int32)), .val (.ref w_POSTING), .val (.ref w_POSTING), .val (.ref w_POSTING)] [(.ref w_POSTING), (.ref w_POSTING)])) X90 hx rfl rfl rfl (pc0 := 37) (pc' := 40) (same := true) rfl (hb hby at_37) rfl (decide_eq_true rfl) (by decide) (by decide) k) ?_
      show Go _ _ _ _ _ T90 (mkF m 40 #[.val (.int p1), .val (.int p2), .val (.int (3 : Int32)), .val (.int (3 : Int32)), .val (.ref w_POSTING), .val (.ref w_POSTING), .val (.ref w_POSTING)] [])
      refine own_go (fun t k => XS.iconst X90.here hx rfl (hb hby at_40) k) ?_
      show Go _ _ _ _ _ T90 (mkF m 41 #[.val (.int p1), .val (.int p2), .val (.int (3 : Int32)), .val (.int (3 : Int32)), .val (.ref w_POSTING), .val (.ref w_POSTING), .val (.ref w_POSTING)] [(.int (1 : Int32))])
      refine own_go (fun t k => XS.goto X90.here hx rfl (pc0 := 41) (pc' := 45) rfl (hb hby at_41) (by decide) (by decide) k) ?_
      show Go _ _ _ _ _ T90 (mkF m 45 #[.val (.int p1), .val (.int p2), .val (.int (3 : Int32)), .val (.int (3 : Int32)), .val (.ref w_POSTING), .val (.ref w_POSTING), .val (.ref w_POSTING)] [(.int (1 : Int32))])
      refine own_retN X90 hx (own_lvN X90 hlk (by decide) (by decide)) (t := .boolean) hret (by simp) (hb hby at_45) ?_
      exact ⟨rfl, N90⟩
set_option maxRecDepth 65536 in
set_option maxHeartbeats 40000000 in
theorem comes_1 {Post : Tables → Env → Array Value → State → Outcome → State → Prop} (hpost : ∀ tb e args s v u, (limb_1_1.after args s (.returned v) u = true ∧ limb_1_2.after args s (.returned v) u = true ∧ True) → FrameEnd s (.returned v) u (Jvm.fieldLocs frame_1_writes args s ++ Jvm.arrayLocs frame_1_arrays args s ++ Jvm.staticLocs frame_1_statics s) 0 0 → Post tb e args s (.returned v) u) :
    ArmFor flags0 classFile x code maxLocals ret World_1 tables_1 room_1 Calls_1 rest_1 Pre_1 Post := by
  intro l hfl _ _ p e ha hc hk s m args below hf hA hF happ hP
  obtain ⟨hcalls, hrest, hpre⟩ := hP
  obtain ⟨-, -, -, hnamed, -, -, -, hat⟩ := (Spec.applies_iff hf).mp happ
  obtain ⟨hg, hn⟩ := and_e (Cond.before_iff.mp (show (Jvm.Cond.and given_1 narrow_1).before args s = true from hpre))
  obtain ⟨g1, g2⟩ := and_e hg
  obtain ⟨g3, g4⟩ := and_e g2
  obtain ⟨w0, w1, rfl⟩ : ∃ w0 w1 : Value, args = #[w0, w1] := by
    have hs : args.size = 2 := by simpa [Cond.value, given_1] using g1
    obtain ⟨L⟩ := args
    match L, hs with
    | [w0, w1], _ => exact ⟨w0, w1, rfl⟩
  have hw := fun d (hd : d ∈ tables_1) => atoms_spec (ws := Jvm.Cond.code x code maxLocals ret :: tables_1) hat d (List.mem_cons_of_mem _ hd)
  obtain ⟨i0, ei0⟩ := is_v g3
  obtain rfl : w0 = (.int i0) := Option.some.inj ei0
  obtain ⟨i1, ei1⟩ := is_v g4
  obtain rfl : w1 = (.int i1) := Option.some.inj ei1
  obtain ⟨g5, g6⟩ := and_e hn
  obtain ⟨g7, g8⟩ := and_e g6
  obtain ⟨g9, g10⟩ := and_e g8
  obtain ⟨g11, g12⟩ := and_e g10
  obtain ⟨g13, g14⟩ := and_e g12
  obtain ⟨g15, g16⟩ := and_e g14
  obtain ⟨g17, g18⟩ := and_e g16
  obtain ⟨w_COLLECTION, ew_COLLECTION⟩ := exa_v g5
  have S_COLLECTION : Sta s s.heap "com/example/term_weight_evolver/termweightevolver/formula/Statistic$Scope" "COLLECTION" "Lcom/example/term_weight_evolver/termweightevolver/formula/Statistic$Scope;" (.ref w_COLLECTION) := Sta.start ew_COLLECTION (Or.inr ⟨(hw _ (List.mem_of_getElem? (i := 5) rfl)), (hw _ (List.mem_of_getElem? (i := 6) rfl))⟩)
  have E_COLLECTION : Exa s s.heap w_COLLECTION "com/example/term_weight_evolver/termweightevolver/formula/Statistic$Scope" := Exa.start ew_COLLECTION g5
  have O_COLLECTION_ordinal : Fld s s.heap w_COLLECTION "java/lang/Enum" "ordinal" "I" (.int (0 : Int32)) := own_fld ew_COLLECTION g11
  obtain ⟨w_POSTING, ew_POSTING⟩ := exa_v g7
  have S_POSTING : Sta s s.heap "com/example/term_weight_evolver/termweightevolver/formula/Statistic$Scope" "POSTING" "Lcom/example/term_weight_evolver/termweightevolver/formula/Statistic$Scope;" (.ref w_POSTING) := Sta.start ew_POSTING (Or.inr ⟨(hw _ (List.mem_of_getElem? (i := 5) rfl)), (hw _ (List.mem_of_getElem? (i := 8) rfl))⟩)
  have E_POSTING : Exa s s.heap w_POSTING "com/example/term_weight_evolver/termweightevolver/formula/Statistic$Scope" := Exa.start ew_POSTING g7
  have O_POSTING_ordinal : Fld s s.heap w_POSTING "java/lang/Enum" "ordinal" "I" (.int (3 : Int32)) := own_fld ew_POSTING g9
  obtain ⟨w_DOCUMENT, ew_DOCUMENT⟩ := exa_v g13
  have S_DOCUMENT : Sta s s.heap "com/example/term_weight_evolver/termweightevolver/formula/Statistic$Scope" "DOCUMENT" "Lcom/example/term_weight_evolver/termweightevolver/formula/Statistic$Scope;" (.ref w_DOCUMENT) := Sta.start ew_DOCUMENT (Or.inr ⟨(hw _ (List.mem_of_getElem? (i := 5) rfl)), (hw _ (List.mem_of_getElem? (i := 16) rfl))⟩)
  have E_DOCUMENT : Exa s s.heap w_DOCUMENT "com/example/term_weight_evolver/termweightevolver/formula/Statistic$Scope" := Exa.start ew_DOCUMENT g13
  have O_DOCUMENT_ordinal : Fld s s.heap w_DOCUMENT "java/lang/Enum" "ordinal" "I" (.int (2 : Int32)) := own_fld ew_DOCUMENT g18
  obtain ⟨w_TERM, ew_TERM⟩ := exa_v g15
  have S_TERM : Sta s s.heap "com/example/term_weight_evolver/termweightevolver/formula/Statistic$Scope" "TERM" "Lcom/example/term_weight_evolver/termweightevolver/formula/Statistic$Scope;" (.ref w_TERM) := Sta.start ew_TERM (Or.inr ⟨(hw _ (List.mem_of_getElem? (i := 5) rfl)), (hw _ (List.mem_of_getElem? (i := 18) rfl))⟩)
  have E_TERM : Exa s s.heap w_TERM "com/example/term_weight_evolver/termweightevolver/formula/Statistic$Scope" := Exa.start ew_TERM g15
  have O_TERM_ordinal : Fld s s.heap w_TERM "java/lang/Enum" "ordinal" "I" (.int (1 : Int32)) := own_fld ew_TERM g17
  obtain ⟨n, o, h1, h2, h3, _, L, rfl, ⟨rfl, N⟩, hq⟩ := rm0 l s _ hw tables_1 i0 i1 w_COLLECTION w_POSTING w_DOCUMENT w_TERM  s.heap s.heap.size (Nat.le_refl _) S_COLLECTION E_COLLECTION O_COLLECTION_ordinal S_POSTING E_POSTING O_POSTING_ordinal S_DOCUMENT E_DOCUMENT O_DOCUMENT_ordinal S_TERM E_TERM O_TERM_ordinal  p e ha hc hk s m _ below hf ((Spec.applies_iff_loose hf).mp happ).1 ⟨rfl, State.Warmed39.refl s, rfl⟩ trivial
  refine ⟨n, _, h1, h2, h3, hpost _ _ _ _ _ _ ⟨Cond.after_iff.mpr rfl, Cond.after_iff.mpr (eq_i res_at (Term.int_eval (1)) rfl), trivial⟩ ⟨hq.1, hq.2.1, (hq.2.2.sift fun y hy => Or.inr (N y hy)).mono (by decide) (by decide)⟩⟩
theorem main_1_1 : Claimed_1_1 := comes_1 fun _ _ _ _ _ _ h hF => ⟨h.1, hF⟩
theorem main_1_2 : Claimed_1_2 := comes_1 fun _ _ _ _ _ _ h hF => ⟨h.2.1, hF⟩
end Jvm.Pilot.@@N@@
namespace Jvm.Pilot.@@N@@
open Jvm Jvm.ClassFile Sem Op Lib Jvm.Free Jvm.Stand Jvm.Pilot.@@N@@.Jvm.D
/-! MADE BY PROGRAM (witnessworld.py) out of the Statement's table words and the real class files: 12 classes; the members and pool entries that the words name. The judged class is class 1, her method 2. -/
namespace start1
open Jvm.ClassFile
def u (s : String) : CpInfo := .utf8 (stringToUtf16 s)
/-- a pool by its gaps: so many unusable entries, then the entry; so many at the end -/
def gap : Nat → List CpInfo → List CpInfo
  | 0, r => r
  | n + 1, r => .unusable :: gap n r
def poolList (es : List (Nat × CpInfo)) (last : Nat) : List CpInfo := es.foldr (fun e r => gap e.1 (e.2 :: r)) (gap last [])
def pool (es : List (Nat × CpInfo)) (last : Nat) : Array CpInfo := ⟨poolList es last⟩
def fileOf (pool : Array CpInfo) (this : Nat) (attrs : Array Attribute := #[]) (ms : Array MethodInfo := #[]) (fl : Nat := 33) (sup : Nat := 0) (ifs : Array Nat := #[]) (fds : Array FieldInfo := #[]) : ClassFile where
  minorVersion := 0
  majorVersion := 65
  constantPool := pool
  accessFlags := fl
  thisClass := this
  superClass := sup
  interfaces := ifs
  fields := fds
  methods := ms
  attributes := attrs
def plain (name : String) (sup : Option ClassId) : Class where
  name := name
  kind := .ordinary
  loader := none
  accessFlags := 33
  super := sup
  interfaces := #[]
  cf := none
  fields := #[]
  methods := #[]
  instanceTypes := #[]
  staticTypes := #[]
  resolved := #[]
  callSites := []
  init := .initialized
  statics := none
  mirror := none

def pool0 : Array CpInfo := pool [(5, u "<init>"), (0, u "()V"), (1, .class_ 10), (1, u "java/lang/Object")] 113

def k0m0 : Method := { name := "<init>", desc := "()V", sig := { parameters := [], returnType := none }, accessFlags := 1, code := none }
/-- java/lang/Object -/
def k0 : Class := { plain "java/lang/Object" none with
  accessFlags := 33
  interfaces := #[]
  cf := some (fileOf pool0 8 #[] #[{ accessFlags := 1, nameIndex := 5, descriptorIndex := 6, attributes := #[] }] 33 0 #[] #[])
  fields := #[]
  methods := #[k0m0]
  instanceTypes := #[]
  staticTypes := #[]
  resolved := Array.replicate 124 none
  statics := none }

def pool1 : Array CpInfo := pool [(2, .class_ 4), (1, u "java/lang/Object"), (0, u "<init>"), (0, u "()V"), (0, .fieldref 8 9), (0, .class_ 10), (0, .nameAndType 11 12), (0, u "com/example/term_weight_evolver/termweightevolver/formula/Statistic$Scope"), (0, u "COLLECTION"), (0, u "Lcom/example/term_weight_evolver/termweightevolver/formula/Statistic$Scope;"), (0, .fieldref 8 14), (0, .nameAndType 15 12), (0, u "TERM"), (0, .fieldref 8 17), (0, .nameAndType 18 12), (0, u "DOCUMENT"), (0, .fieldref 8 20), (0, .nameAndType 21 12), (0, u "POSTING"), (0, .methodref 23 24), (0, .class_ 25), (0, .nameAndType 26 27), (0, u "com/example/term_weight_evolver/termweightevolver/formula/ScopeWithPinLaw"), (0, u "of"), (0, u "(I)Lcom/example/term_weight_evolver/termweightevolver/formula/Statistic$Scope;"), (0, .methodref 8 29), (0, .nameAndType 30 31), (0, u "with"), (0, u "(Lcom/example/term_weight_evolver/termweightevolver/formula/Statistic$Scope;)Lcom/example/term_weight_evolver/termweightevolver/formula/Statistic$Scope;"), (3, u "law"), (0, u "(II)Z")] 6

def k1m0 : Method := { name := "<init>", desc := "()V", sig := { parameters := [], returnType := none }, accessFlags := 2, code := none }
def k1c1 : Code := { maxStack := 2, maxLocals := 1, code := method_2_code, exceptionTable := #[], attributes := #[] }
def k1m1 : Method := { name := "of", desc := "(I)Lcom/example/term_weight_evolver/termweightevolver/formula/Statistic$Scope;", sig := { parameters := [.int], returnType := some (.object "com/example/term_weight_evolver/termweightevolver/formula/Statistic$Scope") }, accessFlags := 10, code := some k1c1 }
def k1c2 : Code := { maxStack := 3, maxLocals := 7, code := code, exceptionTable := #[], attributes := #[] }
def k1m2 : Method := { name := "law", desc := "(II)Z", sig := { parameters := [.int, .int], returnType := some .boolean }, accessFlags := 9, code := some k1c2 }
/-- com/example/term_weight_evolver/termweightevolver/formula/ScopeWithPinLaw -/
def k1 : Class := { plain "com/example/term_weight_evolver/termweightevolver/formula/ScopeWithPinLaw" (some 0) with
  accessFlags := 49
  interfaces := #[]
  cf := some (fileOf pool1 23 #[] #[{ accessFlags := 2, nameIndex := 5, descriptorIndex := 6, attributes := #[] }, { accessFlags := 10, nameIndex := 26, descriptorIndex := 27, attributes := #[] }, { accessFlags := 9, nameIndex := 35, descriptorIndex := 36, attributes := #[] }] 49 2 #[] #[])
  fields := #[]
  methods := #[k1m0, k1m1, k1m2]
  instanceTypes := #[]
  staticTypes := #[]
  resolved := Array.replicate 43 none
  statics := none }

def pool2 : Array CpInfo := pool [(1, .class_ 2), (0, u "java/lang/constant/Constable"), (0, .class_ 4), (0, u "java/lang/Object")] 6

/-- java/lang/constant/Constable -/
def k2 : Class := { plain "java/lang/constant/Constable" (some 0) with
  accessFlags := 1537
  interfaces := #[]
  cf := some (fileOf pool2 1 #[] #[] 1537 3 #[] #[])
  fields := #[]
  methods := #[]
  instanceTypes := #[]
  staticTypes := #[]
  resolved := Array.replicate 11 none
  statics := none }

def pool3 : Array CpInfo := pool [(1, .class_ 2), (0, u "java/lang/Comparable"), (0, .class_ 4), (0, u "java/lang/Object")] 7

/-- java/lang/Comparable -/
def k3 : Class := { plain "java/lang/Comparable" (some 0) with
  accessFlags := 1537
  interfaces := #[]
  cf := some (fileOf pool3 1 #[] #[] 1537 3 #[] #[])
  fields := #[]
  methods := #[]
  instanceTypes := #[]
  staticTypes := #[]
  resolved := Array.replicate 12 none
  statics := none }

def pool4 : Array CpInfo := pool [(1, .class_ 2), (0, u "java/io/Serializable"), (0, .class_ 4), (0, u "java/lang/Object")] 2

/-- java/io/Serializable -/
def k4 : Class := { plain "java/io/Serializable" (some 0) with
  accessFlags := 1537
  interfaces := #[]
  cf := some (fileOf pool4 1 #[] #[] 1537 3 #[] #[])
  fields := #[]
  methods := #[]
  instanceTypes := #[]
  staticTypes := #[]
  resolved := Array.replicate 7 none
  statics := none }

def pool5 : Array CpInfo := pool [(2, .class_ 4), (1, u "java/lang/Enum"), (0, u "name"), (0, u "Ljava/lang/String;"), (2, u "ordinal"), (0, u "I"), (1, .class_ 14), (1, u "java/lang/Object"), (4, u "hash"), (86, .class_ 108), (1, u "java/lang/Enum$EnumDesc"), (2, .class_ 112), (0, u "java/lang/constant/Constable"), (0, .class_ 114), (0, u "java/lang/Comparable"), (0, .class_ 116), (0, u "java/io/Serializable")] 87

/-- java/lang/Enum -/
def k5 : Class := { plain "java/lang/Enum" (some 0) with
  accessFlags := 1057
  interfaces := #[2, 3, 4]
  cf := some (fileOf pool5 2 #[.nestMembers #[106]] #[] 1057 12 #[111, 113, 115] #[{ accessFlags := 18, nameIndex := 5, descriptorIndex := 6, attributes := #[] }, { accessFlags := 18, nameIndex := 9, descriptorIndex := 10, attributes := #[] }, { accessFlags := 2, nameIndex := 19, descriptorIndex := 10, attributes := #[] }])
  fields := #[{ name := "name", type := (.object "java/lang/String"), accessFlags := 18, slot := 0, constantValue := 0 }, { name := "ordinal", type := .int, accessFlags := 18, slot := 1, constantValue := 0 }, { name := "hash", type := .int, accessFlags := 2, slot := 2, constantValue := 0 }]
  methods := #[]
  instanceTypes := #[(.object "java/lang/String"), .int, .int]
  staticTypes := #[]
  resolved := Array.replicate 204 none
  statics := none }

def pool6 : Array CpInfo := pool [(1, .class_ 2), (0, u "com/example/term_weight_evolver/termweightevolver/formula/Statistic$Scope"), (0, .fieldref 1 4), (0, .nameAndType 5 6), (0, u "COLLECTION"), (0, u "Lcom/example/term_weight_evolver/termweightevolver/formula/Statistic$Scope;"), (2, u "TERM"), (2, u "DOCUMENT"), (0, .fieldref 1 14), (0, .nameAndType 15 6), (0, u "POSTING"), (2, u "$VALUES"), (0, u "[Lcom/example/term_weight_evolver/termweightevolver/formula/Statistic$Scope;"), (6, .class_ 28), (1, u "java/lang/Enum"), (22, u "with"), (0, u "(Lcom/example/term_weight_evolver/termweightevolver/formula/Statistic$Scope;)Lcom/example/term_weight_evolver/termweightevolver/formula/Statistic$Scope;"), (6, .class_ 60), (0, u "com/example/term_weight_evolver/termweightevolver/formula/Statistic")] 2

def k6c0 : Code := { maxStack := 2, maxLocals := 3, code := prog_35_method_4_code, exceptionTable := #[], attributes := #[] }
def k6m0 : Method := { name := "with", desc := "(Lcom/example/term_weight_evolver/termweightevolver/formula/Statistic$Scope;)Lcom/example/term_weight_evolver/termweightevolver/formula/Statistic$Scope;", sig := { parameters := [(.object "com/example/term_weight_evolver/termweightevolver/formula/Statistic$Scope")], returnType := some (.object "com/example/term_weight_evolver/termweightevolver/formula/Statistic$Scope") }, accessFlags := 0, code := some k6c0 }
/-- com/example/term_weight_evolver/termweightevolver/formula/Statistic$Scope -/
def k6 : Class := { plain "com/example/term_weight_evolver/termweightevolver/formula/Statistic$Scope" (some 5) with
  accessFlags := 16432
  interfaces := #[]
  cf := some (fileOf pool6 1 #[.nestHost 59] #[{ accessFlags := 0, nameIndex := 51, descriptorIndex := 52, attributes := #[] }] 16432 26 #[] #[{ accessFlags := 16409, nameIndex := 5, descriptorIndex := 6, attributes := #[] }, { accessFlags := 16409, nameIndex := 9, descriptorIndex := 6, attributes := #[] }, { accessFlags := 16409, nameIndex := 12, descriptorIndex := 6, attributes := #[] }, { accessFlags := 16409, nameIndex := 15, descriptorIndex := 6, attributes := #[] }, { accessFlags := 4122, nameIndex := 18, descriptorIndex := 19, attributes := #[] }])
  fields := #[{ name := "COLLECTION", type := (.object "com/example/term_weight_evolver/termweightevolver/formula/Statistic$Scope"), accessFlags := 16409, slot := 0, constantValue := 0 }, { name := "TERM", type := (.object "com/example/term_weight_evolver/termweightevolver/formula/Statistic$Scope"), accessFlags := 16409, slot := 1, constantValue := 0 }, { name := "DOCUMENT", type := (.object "com/example/term_weight_evolver/termweightevolver/formula/Statistic$Scope"), accessFlags := 16409, slot := 2, constantValue := 0 }, { name := "POSTING", type := (.object "com/example/term_weight_evolver/termweightevolver/formula/Statistic$Scope"), accessFlags := 16409, slot := 3, constantValue := 0 }, { name := "$VALUES", type := (.array (.object "com/example/term_weight_evolver/termweightevolver/formula/Statistic$Scope")), accessFlags := 4122, slot := 4, constantValue := 0 }]
  methods := #[k6m0]
  instanceTypes := #[(.object "java/lang/String"), .int, .int]
  staticTypes := #[(.object "com/example/term_weight_evolver/termweightevolver/formula/Statistic$Scope"), (.object "com/example/term_weight_evolver/termweightevolver/formula/Statistic$Scope"), (.object "com/example/term_weight_evolver/termweightevolver/formula/Statistic$Scope"), (.object "com/example/term_weight_evolver/termweightevolver/formula/Statistic$Scope"), (.array (.object "com/example/term_weight_evolver/termweightevolver/formula/Statistic$Scope"))]
  resolved := Array.replicate 63 none
  statics := some 0 }

def pool7 : Array CpInfo := pool [(1, u "java/lang/Cloneable"), (0, .class_ 1), (0, u "java/lang/Object"), (0, .class_ 3)] 3

/-- java/lang/Cloneable -/
def k7 : Class := { plain "java/lang/Cloneable" (some 0) with
  accessFlags := 1537
  interfaces := #[]
  cf := some (fileOf pool7 2 #[] #[] 1537 4 #[] #[])
  fields := #[]
  methods := #[]
  instanceTypes := #[]
  staticTypes := #[]
  resolved := Array.replicate 8 none
  statics := none }

/-- the primitive byte -/
def k8 : Class := { plain "byte" none with kind := .primitive 'B', accessFlags := 0x411 }
/-- [B -/
def k9 : Class := { plain "[B" (some 0) with kind := .array 8 .byte, interfaces := #[7, 4], accessFlags := 1041 }

/-- the primitive int -/
def k10 : Class := { plain "int" none with kind := .primitive 'I', accessFlags := 0x411 }
/-- [I -/
def k11 : Class := { plain "[I" (some 0) with kind := .array 10 .int, interfaces := #[7, 4], accessFlags := 1041 }

def heap : Heap := #[{ cls := 6, slots := #[.ref 1, .ref 4, .ref 3, .ref 2, .null], vm := .statics 6 },
  { cls := 6, slots := #[.null, .int 0, .int 0], vm := .none },
  { cls := 6, slots := #[.null, .int 3, .int 0], vm := .none },
  { cls := 6, slots := #[.null, .int 2, .int 0], vm := .none },
  { cls := 6, slots := #[.null, .int 1, .int 0], vm := .none }]
def classes : Array Class := #[k0, k1, k2, k3, k4, k5, k6, k7, k8, k9, k10, k11]
def interned : List (Array UInt16 × Addr) := []
def slotsUsed : Nat := 17
def theMethod : MethodId := ⟨1, 2⟩
def args0 : Array Value := #[.int 5, .int 3]
def aboutOver (below : List Frame) : State where
  vm := { classes := classes, interned := interned.toArray }
  heap := heap
  slotsUsed := slotsUsed
  threads := #[{ frames := .invoking theMethod args0 :: below }]
def below0 : List Frame := [.native { method := ⟨0, 0⟩, args := #[] }]
def about1 : State := aboutOver below0
def p0 : Program := .bare "" "" ""
def e0 : Env := launch0.env 0 0 0
theorem w_frames : about1.frames = Frame.invoking theMethod args0 :: below0 := rfl
set_option maxRecDepth 65536 in
theorem w_args : argsFit about1.vm theMethod args0 = true := by decide +kernel
set_option maxRecDepth 65536 in
theorem w_heap : heapFits about1 = true := by decide +kernel
set_option maxRecDepth 65536 in
theorem w_runnable : about1.curStatus? = some .runnable := by decide +kernel
set_option maxRecDepth 65536 in
theorem w_alone : about1.alone = true := by decide +kernel
set_option maxRecDepth 65536 in
theorem w_named : about1.methodNamed? x = some theMethod := by decide +kernel
set_option maxRecDepth 65536 in
theorem w_hears : about1.hears theMethod below0 = true := by decide +kernel
set_option maxRecDepth 65536 in
theorem w_ripe : about1.ripe theMethod args0 below0 = true := by decide +kernel
theorem w_running : about1.status = .running := rfl
set_option maxRecDepth 65536 in
theorem w_room : about1.hasRoom e0.platform room_1 = true :=
  launch0.hasRoom_least _ room_1 (by decide +kernel) (by decide +kernel) (by decide +kernel) (by decide +kernel) (by decide +kernel) (by decide +kernel)
theorem allAtoms_all (ts : List Jvm.Cond) (a : Array Jvm.Value) (st : Jvm.State) : (allAtoms ts).before a st = ts.all (fun c => c.before a st) := by
  induction ts with
  | nil => rfl
  | cons c t ih =>
    show (Jvm.Cond.and c (allAtoms t)).before a st = _
    rw [Jvm.Cond.before_and, ih, List.all_cons]
def words1 : List Jvm.Cond := Jvm.Cond.code x code maxLocals ret :: tables_1
/-- a 'code' word, met by the world's own term for the bytes: nothing is compared byte by byte -/
theorem code_word {y : MethodName} {bytes : ByteArray} {mx : Nat} {rt : Option FieldType} {a : Array Value} {s : State} {m : MethodId} {meth : Method} {c : Code} (h1 : s.methodNamed? y = some m) (h2 : s.vm.method? m = some meth) (h3 : meth.code = some c) (h4 : c.code = bytes)
    (h5 : (c.maxLocals == mx && c.exceptionTable.isEmpty && decide (c.maxStack ≤ mostOperands) && decide (meth.sig.returnType = rt) && !meth.locks && decide (parseMethodDescriptor y.desc = some meth.sig)) = true) : (Jvm.Cond.code y bytes mx rt).before a s = true := by
  simp only [Bool.and_eq_true, beq_iff_eq, Bool.not_eq_true', decide_eq_true_eq] at h5
  obtain ⟨⟨⟨⟨⟨g1, g2⟩, g3⟩, g4⟩, g5⟩, g6⟩ := h5
  simp [Cond.before, Cond.holds, Cond.value, h1, h2, h3, h4, g1, g2, g3, g4, g5, g6]
def isCode : Jvm.Cond → Bool
  | .code _ _ _ _ => true
  | _ => false
theorem all_split {L : List Jvm.Cond} {P : Jvm.Cond → Bool} (h1 : L.all (fun c => isCode c || P c) = true) (h2 : ∀ c ∈ L.filter isCode, P c = true) : L.all P = true := by
  refine List.all_eq_true.mpr fun c hc => ?_
  have h := List.all_eq_true.mp h1 c hc
  rcases Bool.eq_false_or_eq_true (isCode c) with hi | hi
  · exact h2 c (List.mem_filter.mpr ⟨hc, hi⟩)
  · simpa [hi] using h
set_option maxRecDepth 65536 in
theorem w_c0 : (Jvm.Cond.code x code maxLocals ret).before args0 about1 = true := code_word (m := ⟨1, 2⟩) (meth := k1m2) (c := k1c2) (by decide +kernel) rfl rfl rfl (by decide +kernel)
set_option maxRecDepth 65536 in
theorem w_c1 : (Jvm.Cond.code ({ cls := "com/example/term_weight_evolver/termweightevolver/formula/ScopeWithPinLaw", name := "of", desc := "(I)Lcom/example/term_weight_evolver/termweightevolver/formula/Statistic$Scope;" } : Jvm.MethodName) method_2_code (1 : Nat) (Option.some (Jvm.ClassFile.FieldType.object "com/example/term_weight_evolver/termweightevolver/formula/Statistic$Scope"))).before args0 about1 = true := code_word (m := ⟨1, 1⟩) (meth := k1m1) (c := k1c1) (by decide +kernel) rfl rfl rfl (by decide +kernel)
set_option maxRecDepth 65536 in
theorem w_c2 : (Jvm.Cond.code ({ cls := "com/example/term_weight_evolver/termweightevolver/formula/Statistic$Scope", name := "with", desc := "(Lcom/example/term_weight_evolver/termweightevolver/formula/Statistic$Scope;)Lcom/example/term_weight_evolver/termweightevolver/formula/Statistic$Scope;" } : Jvm.MethodName) prog_35_method_4_code (3 : Nat) (Option.some (Jvm.ClassFile.FieldType.object "com/example/term_weight_evolver/termweightevolver/formula/Statistic$Scope"))).before args0 about1 = true := code_word (m := ⟨6, 0⟩) (meth := k6m0) (c := k6c0) (by decide +kernel) rfl rfl rfl (by decide +kernel)
def codes1 : List Jvm.Cond := [Jvm.Cond.code x code maxLocals ret, Jvm.Cond.code ({ cls := "com/example/term_weight_evolver/termweightevolver/formula/ScopeWithPinLaw", name := "of", desc := "(I)Lcom/example/term_weight_evolver/termweightevolver/formula/Statistic$Scope;" } : Jvm.MethodName) method_2_code (1 : Nat) (Option.some (Jvm.ClassFile.FieldType.object "com/example/term_weight_evolver/termweightevolver/formula/Statistic$Scope")), Jvm.Cond.code ({ cls := "com/example/term_weight_evolver/termweightevolver/formula/Statistic$Scope", name := "with", desc := "(Lcom/example/term_weight_evolver/termweightevolver/formula/Statistic$Scope;)Lcom/example/term_weight_evolver/termweightevolver/formula/Statistic$Scope;" } : Jvm.MethodName) prog_35_method_4_code (3 : Nat) (Option.some (Jvm.ClassFile.FieldType.object "com/example/term_weight_evolver/termweightevolver/formula/Statistic$Scope"))]
set_option maxRecDepth 65536 in
theorem codes_eq : words1.filter isCode = codes1 := rfl
theorem w_codes : ∀ c ∈ words1.filter isCode, c.before args0 about1 = true := by
  rw [codes_eq]
  intro c hc
  simp only [codes1, List.mem_cons, List.not_mem_nil, or_false] at hc
  rcases hc with rfl | rfl | rfl
  · exact w_c0
  · exact w_c1
  · exact w_c2
set_option maxRecDepth 65536 in
theorem w_t1 : words1.all (fun c => isCode c || c.before args0 about1) = true := by decide +kernel
theorem w_tables : (allAtoms (Jvm.Cond.code x code maxLocals ret :: tables_1)).before args0 about1 = true := by
  rw [allAtoms_all]
  show words1.all (fun c => c.before args0 about1) = true
  refine all_split ?_ w_codes
  rw [w_t1]
set_option maxRecDepth 65536 in
theorem w_case : (Jvm.Cond.and given_1 narrow_1).before args0 about1 = true := by decide +kernel
theorem w_applies : (headSpec (Jvm.Cond.code x code maxLocals ret :: tables_1) room_1).applies x e0.platform about1 = true :=
  (Spec.applies_iff w_frames).mpr ⟨w_running, w_runnable, w_alone, w_named, w_hears, w_ripe, w_room, w_tables⟩
theorem atStart : AtStart classFile x code maxLocals ret World_1 tables_1 room_1 Calls_1 rest_1 Pre_1 launch0 p0 e0 about1 theMethod args0 below0 :=
  ⟨lists_1, trivial, launch0.admits_env _ _ _, launch0.least_env, fairChoices_fair.cas, fairChoices_fair.clock, w_frames, w_args, w_heap, w_applies, trivial, trivial, w_case⟩
end start1
theorem witness_1 : WitnessClaimed_1 := ⟨start1.p0, start1.e0, start1.about1, start1.theMethod, start1.args0, start1.below0, start1.atStart⟩
end Jvm.Pilot.@@N@@
