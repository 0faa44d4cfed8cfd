import JvmDerived
import JvmDerived.Pilot.@@N@@Statement
import JvmDerived.Pilot.@@N@@Code
set_option linter.unusedVariables false
set_option linter.unusedSimpArgs false
namespace Jvm.Pilot.@@N@@
open Jvm Jvm.ClassFile Sem Op Lib Jvm.Free Jvm.Stand Jvm.LawKit Jvm.RoadKit Bundle Jvm.Pilot.@@N@@.Jvm.D
/-! own kit: the walk in continuation form: 'Go': from this point the body comes to its end with what Q says -/
section OwnGo
variable {p : Program} {l : Launch} {e : Env} {R : Room} {s : State} {m : MethodId} {args : Array Value} {below : List Frame} {meth : Method} {c : Code} {T : State} {locs : List Loc} {cells slots : Nat} {Z : State} {a0 : Array Value} {h : Heap} {Q : Option Value → Heap → List Loc → Prop} {C S : Nat} {End : Outcome → State → List Loc → Prop}
def Go (p : Program) (e : Env) (below : List Frame) (End : Outcome → State → List Loc → Prop) (Q : Option Value → Heap → List Loc → Prop) (T : State) (f : JFrame) : Prop :=
  ∃ s₂ o, Steps p.tables e below (T.setTop f) s₂ ∧ s₂.status = .running ∧ Ended s₂ below o ∧ ∃ v L, o = .returned v ∧ Q v s₂.heap L ∧ End o s₂ L
/-- the end of a walk that leaves the table of strings alone, and of one that may not -/
def EndN (s : State) (C S : Nat) : Outcome → State → List Loc → Prop := fun o t L => FrameEnd s o t L C S
def EndW (s : State) (C S : Nat) : Outcome → State → List Loc → Prop := fun o t L => ReturnedEndW s o t L C S
def OwnP (val : Option Value) (h0 : Heap) (n0 : Nat) (v : Option Value) (h : Heap) (L : List Loc) : Prop := v = val ∧ Fr n0 L ∧ h = h0
def OwnR (val : Option Value) (n0 : Nat) (v : Option Value) (h : Heap) (L : List Loc) : Prop := v = val ∧ Fr n0 L
abbrev OwnMet (l : Launch) (Z : State) (y : MethodName) (bytes : ByteArray) (maxL : Nat) (ret : Option FieldType) (ws : List Jvm.Cond) (rm : Room) (as' : Array Value) (h0 : Heap) (Q : Option Value → Heap → List Loc → Prop) : Prop :=
  MetFree l y (head1 (Jvm.Cond.code y bytes maxL ret :: ws) rm) (fun a U => a = as' ∧ Z.Warmed39 U.vm ∧ U.heap = h0) (fun _ _ _ _ _ => True) (fun _ U o U' => ∃ v L, o = .returned v ∧ Q v U'.heap L ∧ FrameEnd U o U' L rm.cells rm.slots)
theorem own_body {y : MethodName} {bytes : ByteArray} {maxL : Nat} {ret : Option FieldType} {ws : List Jvm.Cond} {rm : Room} {as' : Array Value} {h0 : Heap} (hpl : plainFor y = true)
    (k : ∀ (p : Program) (e : Env) (s : State) (m : MethodId) (below : List Frame) (meth : Method) (c : Code) (s₁ : State), Stand p l e rm s m as' below meth c s₁ [] 0 0 → p.tables.exec = Jvm.exec → c.code = bytes → c.maxLocals = maxL → meth.sig.returnType = ret → meth.locks = false → s.vm.findClass y.cls = some m.cls → meth.name = y.name → Z.Warmed39 s.vm → s₁.heap = h0 → s.heap = h0 → Go p e below (EndN s rm.cells rm.slots) Q s₁ (entryFrame m as' maxL)) :
    OwnMet l Z y bytes maxL ret ws rm as' h0 Q := by
  refine MetFree.of_bodySF hpl hisR ?_
  intro p e s m args below meth c s₁ Bd hml0 hP hK
  obtain ⟨rfl, hZ, hh⟩ := hP
  exact k p e s m below meth c s₁ (Stand.of_body Bd) Bd.exec Bd.bytes hml0 Bd.returns Bd.notSynchronized (findClass_of_methodNamed Bd.named) (name_of_methodNamed Bd.named Bd.method).1 hZ (by rw [← hh, Bd.state]; rfl) hh
theorem own_go {T' : State} {f f' : JFrame} (k : ∀ t, Steps p.tables e below (T'.setTop f') t → Steps p.tables e below (T.setTop f) t) (G : Go p e below End Q T' f') : Go p e below End Q T f := by
  obtain ⟨s₂, o, hs, r⟩ := G
  exact ⟨s₂, o, k _ hs, r⟩
theorem own_entry {f : JFrame} {f' : JFrame} (q : f = f') (G : Go p e below End Q T f') : Go p e below End Q T f := q ▸ G
/-- the method can be left here -/
def Leaves (e : Env) (below : List Frame) (m : MethodId) (meth : Method) (T : State) (locs : List Loc) (End : Outcome → State → List Loc → Prop) : Prop :=
  ∀ v : Option Value, (meth.sig.returnType = none → v = none) → ∃ fs, (∀ (f : JFrame) (acts : List Action), f.method = m → f.locked = none → f.entered = [] → (doReturn e (T.setTop f) acts v).1 = T.setFrames fs) ∧ (T.setFrames fs).status = .running ∧ Ended (T.setFrames fs) below (.returned v) ∧ End (.returned v) (T.setFrames fs) locs
theorem own_lvN (X : Stand p l e R s m args below meth c T locs cells slots) (hlk : meth.locks = false) (hC : cells ≤ C) (hS : slots ≤ S) : Leaves e below m meth T locs (EndN s C S) := fun v hv => by
  obtain ⟨fs, hr, hrun, hended, hW, hsame⟩ := X.leave hv hlk
  exact ⟨fs, hr, hrun, hended, ⟨_, rfl⟩, hW, hsame.mono hC hS⟩
theorem own_leave {v : Option Value} (LV : Leaves e below m meth T locs End) (hv : meth.sig.returnType = none → v = none) {f : JFrame}
    (st : ∀ fs, (∀ (f : JFrame) (acts : List Action), f.method = m → f.locked = none → f.entered = [] → (doReturn e (T.setTop f) acts v).1 = T.setFrames fs) → Steps p.tables e below (T.setTop f) (T.setFrames fs))
    (hQ : Q v T.heap locs) : Go p e below End Q T f := by
  obtain ⟨fs, hr, hrun, hended, hE⟩ := LV v hv
  exact ⟨_, _, st fs hr, hrun, hended, _, _, rfl, hQ, hE⟩
theorem own_retN (X : Stand p l e R s m args below meth c T locs cells slots) (hx : p.tables.exec = Jvm.exec) (LV : Leaves e below m meth T locs End) {pc : Nat} {Ls : Array Slot} {z : Int32} {t : FieldType} {rest : List Value} (hret : meth.sig.returnType = some t) (ht : t = .boolean ∨ t = .byte ∨ t = .char ∨ t = .short)
    (hd : decode c.code pc = .ok (.ireturn, 1)) (hQ : Q (some (.int (nar t z))) T.heap locs) : Go p e below End Q T (mkF m pc Ls (.int z :: rest)) :=
  own_leave LV (fun h => by rw [hret] at h; cases h) (fun fs hr => retN X hx hret ht hd hr) hQ
theorem own_retO (X : Stand p l e R s m args below meth c T locs cells slots) (hx : p.tables.exec = Jvm.exec) (LV : Leaves e below m meth T locs End) {pc : Nat} {Ls : Array Slot} {w : Value} {t : FieldType} {i : Instr} {rest : List Value} (hret : meth.sig.returnType = some t) (hn : narrow t w = w)
    (hi : (i = .ireturn ∧ (t = .int ∨ t = .boolean ∨ t = .byte ∨ t = .char ∨ t = .short) ∧ ∃ z, w = .int z) ∨ (i = .lreturn ∧ t = .long ∧ ∃ z, w = .long z) ∨ (i = .dreturn ∧ t = .double ∧ ∃ z, w = .double z) ∨ (i = .freturn ∧ t = .float ∧ ∃ z, w = .float z) ∨ (i = .areturn ∧ t.isReference = true ∧ w.isRef = true))
    (hd : decode c.code pc = .ok (i, 1)) (hQ : Q (some w) T.heap locs) : Go p e below End Q T (mkF m pc Ls (w :: rest)) :=
  own_leave LV (fun h => by rw [hret] at h; cases h) (fun fs hr => retOut X hx hret hn hi hd hr) hQ
theorem own_retI (X : Stand p l e R s m args below meth c T locs cells slots) (hx : p.tables.exec = Jvm.exec) (LV : Leaves e below m meth T locs End) {pc : Nat} {Ls : Array Slot} {z : Int32} {rest : List Value} (hret : meth.sig.returnType = some .int)
    (hd : decode c.code pc = .ok (.ireturn, 1)) (hQ : Q (some (.int z)) T.heap locs) : Go p e below End Q T (mkF m pc Ls (.int z :: rest)) :=
  own_retO X hx LV hret rfl (Or.inl ⟨rfl, Or.inl rfl, z, rfl⟩) hd hQ
theorem own_retL (X : Stand p l e R s m args below meth c T locs cells slots) (hx : p.tables.exec = Jvm.exec) (LV : Leaves e below m meth T locs End) {pc : Nat} {Ls : Array Slot} {z : Int64} {rest : List Value} (hret : meth.sig.returnType = some .long)
    (hd : decode c.code pc = .ok (.lreturn, 1)) (hQ : Q (some (.long z)) T.heap locs) : Go p e below End Q T (mkF m pc Ls (.long z :: rest)) :=
  own_retO X hx LV hret rfl (Or.inr (Or.inl ⟨rfl, rfl, z, rfl⟩)) hd hQ
theorem own_retA (X : Stand p l e R s m args below meth c T locs cells slots) (hx : p.tables.exec = Jvm.exec) (LV : Leaves e below m meth T locs End) {pc : Nat} {Ls : Array Slot} {w : Value} {t : FieldType} {rest : List Value} (hret : meth.sig.returnType = some t) (ht : t.isReference = true) (hw : w.isRef = true)
    (hd : decode c.code pc = .ok (.areturn, 1)) (hQ : Q (some w) T.heap locs) : Go p e below End Q T (mkF m pc Ls (w :: rest)) :=
  own_retO X hx LV hret (by cases t <;> first | (cases w <;> first | rfl | cases hw) | cases ht) (Or.inr (Or.inr (Or.inr (Or.inr ⟨rfl, ht, hw⟩)))) hd hQ
theorem own_retV (X : Stand p l e R s m args below meth c T locs cells slots) (hx : p.tables.exec = Jvm.exec) (LV : Leaves e below m meth T locs End) {pc : Nat} {Ls : Array Slot} (hret : meth.sig.returnType = none)
    (hd : decode c.code pc = .ok (.return_, 1)) (hQ : Q none T.heap locs) : Go p e below End Q T (mkF m pc Ls []) :=
  own_leave LV (fun _ => rfl) (fun fs hr => X.returnOut hx hret hd hr) hQ
/-- a branch: taken where P -/
theorem own_icmpP (P : Prop) [Decidable P] (X : Stand p l e R s m args below meth c T locs cells slots) (hx : p.tables.exec = Jvm.exec) {cd : ClassFile.Cond} {x y : Int32} {rest : List Value} {o : Int} {pc pc' : Nat} {Ls : Array Slot} (hd : decode c.code pc = .ok (.if_icmp cd o, 3)) (hP : if_icmp.holds cd x y = decide P) (ho : 0 ≤ (pc : Int) + o) (hp : ((pc : Int) + o).toNat = pc')
    (h1 : P → Go p e below End Q T (mkF m pc' Ls rest)) (h2 : ¬ P → Go p e below End Q T (mkF m (pc + 3) Ls rest)) : Go p e below End Q T (mkF m pc Ls (.int y :: .int x :: rest)) := by
  by_cases q : P
  · exact own_go (fun t k => XS.icmpYes X.here hx rfl (pc0 := pc) (pc' := pc') rfl hd rfl (by rw [hP]; exact decide_eq_true q) ho hp k) (h1 q)
  · exact own_go (fun t k => XS.icmpNo X.here hx rfl hd rfl (by rw [hP]; exact decide_eq_false q) k) (h2 q)
/-- a branch: taken where not P -/
theorem own_icmpM (P : Prop) [Decidable P] (X : Stand p l e R s m args below meth c T locs cells slots) (hx : p.tables.exec = Jvm.exec) {cd : ClassFile.Cond} {x y : Int32} {rest : List Value} {o : Int} {pc pc' : Nat} {Ls : Array Slot} (hd : decode c.code pc = .ok (.if_icmp cd o, 3)) (hP : if_icmp.holds cd x y = !decide P) (ho : 0 ≤ (pc : Int) + o) (hp : ((pc : Int) + o).toNat = pc')
    (h1 : ¬ P → Go p e below End Q T (mkF m pc' Ls rest)) (h2 : P → Go p e below End Q T (mkF m (pc + 3) Ls rest)) : Go p e below End Q T (mkF m pc Ls (.int y :: .int x :: rest)) := by
  by_cases q : P
  · exact own_go (fun t k => XS.icmpNo X.here hx rfl hd rfl (by rw [hP]; simp [q]) k) (h2 q)
  · exact own_go (fun t k => XS.icmpYes X.here hx rfl (pc0 := pc) (pc' := pc') rfl hd rfl (by rw [hP]; simp [q]) ho hp k) (h1 q)
theorem own_ifP (P : Prop) [Decidable P] (X : Stand p l e R s m args below meth c T locs cells slots) (hx : p.tables.exec = Jvm.exec) {cd : ClassFile.Cond} {x : Int32} {rest : List Value} {o : Int} {pc pc' : Nat} {Ls : Array Slot} (hd : decode c.code pc = .ok (.ifCond cd o, 3)) (hP : if_icmp.holds cd x 0 = decide P) (ho : 0 ≤ (pc : Int) + o) (hp : ((pc : Int) + o).toNat = pc')
    (h1 : P → Go p e below End Q T (mkF m pc' Ls rest)) (h2 : ¬ P → Go p e below End Q T (mkF m (pc + 3) Ls rest)) : Go p e below End Q T (mkF m pc Ls (.int x :: rest)) := by
  by_cases q : P
  · exact own_go (fun t k => XS.ifYes X.here hx rfl (pc0 := pc) (pc' := pc') rfl hd rfl (by rw [if0, hP]; exact decide_eq_true q) ho hp k) (h1 q)
  · exact own_go (fun t k => XS.ifNo X.here hx rfl hd rfl (by rw [if0, hP]; exact decide_eq_false q) k) (h2 q)
theorem own_ifM (P : Prop) [Decidable P] (X : Stand p l e R s m args below meth c T locs cells slots) (hx : p.tables.exec = Jvm.exec) {cd : ClassFile.Cond} {x : Int32} {rest : List Value} {o : Int} {pc pc' : Nat} {Ls : Array Slot} (hd : decode c.code pc = .ok (.ifCond cd o, 3)) (hP : if_icmp.holds cd x 0 = !decide P) (ho : 0 ≤ (pc : Int) + o) (hp : ((pc : Int) + o).toNat = pc')
    (h1 : ¬ P → Go p e below End Q T (mkF m pc' Ls rest)) (h2 : P → Go p e below End Q T (mkF m (pc + 3) Ls rest)) : Go p e below End Q T (mkF m pc Ls (.int x :: rest)) := by
  by_cases q : P
  · exact own_go (fun t k => XS.ifNo X.here hx rfl hd rfl (by rw [if0, hP]; simp [q]) k) (h2 q)
  · exact own_go (fun t k => XS.ifYes X.here hx rfl (pc0 := pc) (pc' := pc') rfl hd rfl (by rw [if0, hP]; simp [q]) ho hp k) (h1 q)
theorem own_eq (x y : Int32) : if_icmp.holds .eq x y = decide (x = y) := by by_cases q : x = y <;> simp [if_icmp.holds, q]
theorem own_ne (x y : Int32) : if_icmp.holds .ne x y = !decide (x = y) := by by_cases q : x = y <;> simp [if_icmp.holds, q]
theorem own_lt (x y : Int32) : if_icmp.holds .lt x y = decide (x < y) := by by_cases q : x < y <;> simp [if_icmp.holds, q]
theorem own_ge (x y : Int32) : if_icmp.holds .ge x y = !decide (x < y) := by
  by_cases q : x < y
  · rw [(tlt q).2.1]; simp [q]
  · rw [(flt q).2.1]; simp [q]
theorem own_gt (x y : Int32) : if_icmp.holds .gt x y = decide (y < x) := by
  by_cases q : y < x
  · rw [(tlt q).2.2.1]; simp [q]
  · rw [(flt q).2.2.1]; simp [q]
theorem own_le (x y : Int32) : if_icmp.holds .le x y = !decide (y < x) := by
  by_cases q : y < x
  · rw [(tlt q).2.2.2]; simp [q]
  · rw [(flt q).2.2.2]; simp [q]
theorem own_acmp (P : Prop) [Decidable P] (X : Stand p l e R s m args below meth c T locs cells slots) (hx : p.tables.exec = Jvm.exec) {cd : ACond} {x y : Value} {rest : List Value} {o : Int} {pc : Nat} {Ls : Array Slot} (h1 : x.isRef = true) (h2 : y.isRef = true) (hP : (x = y) ↔ P) (hd : decode c.code pc = .ok (.if_acmp cd o, 3)) (ho : 0 ≤ (pc : Int) + o) {pcE pcN : Nat}
    (hE : pcE = if acV cd true = true then ((pc : Int) + o).toNat else pc + 3) (hN : pcN = if acV cd false = true then ((pc : Int) + o).toNat else pc + 3)
    (k1 : P → Go p e below End Q T (mkF m pcE Ls rest)) (k2 : ¬ P → Go p e below End Q T (mkF m pcN Ls rest)) : Go p e below End Q T (mkF m pc Ls (y :: x :: rest)) := by
  by_cases q : P
  · exact own_go (fun t k => Jvm.RoadKit.acmp (g := mkF m pc Ls (y :: x :: rest)) X hx rfl h1 h2 (pc0 := pc) (pc' := pcE) (same := true) rfl hd rfl (decide_eq_true (hP.mpr q)) ho hE k) (k1 q)
  · exact own_go (fun t k => Jvm.RoadKit.acmp (g := mkF m pc Ls (y :: x :: rest)) X hx rfl h1 h2 (pc0 := pc) (pc' := pcN) (same := false) rfl hd rfl (decide_eq_false fun z => q (hP.mp z)) ho hN k) (k2 q)
theorem own_ref (a b : Addr) : (Value.ref a = Value.ref b) ↔ (a = b) := ⟨Value.ref.inj, congrArg Value.ref⟩
theorem own_callS (X : Stand p l e R s m args below meth c T locs cells slots) (hx : p.tables.exec = Jvm.exec) (hZ : Z.Warmed39 s.vm) {own : String} {index : Nat} {y : MethodName} {bytes : ByteArray} {maxL : Nat} {ret : Option FieldType} {rm : Room} {as' : Array Value} {Qc : Option Value → Heap → List Loc → Prop}
    (hown : s.vm.findClass own = some m.cls) (wl : (Cond.methodLink own index y).before a0 Z = true) (wst : (Cond.static y).before a0 Z = true) (wi : (Cond.initialized y.cls).before a0 Z = true) (wc : (Cond.code y bytes maxL ret).before a0 Z = true)
    (hy : y.cls ≠ "java/lang/invoke/MethodHandle" ∧ y.cls ≠ "java/lang/invoke/VarHandle")
    (hM : MetFree l y (head1 [Cond.code y bytes maxL ret] rm) (fun a U => a = as' ∧ Z.Warmed39 U.vm ∧ U.heap = h) (fun _ _ _ _ _ => True) (fun _ U o U' => ∃ v L, o = .returned v ∧ Qc v U'.heap L ∧ FrameEnd U o U' L rm.cells rm.slots))
    (eT : T.heap = h) {pc : Nat} {Ls : Array Slot} (hsize : Ls.size = c.maxLocals) {argsL rest stk : List Value} (hst : stk = argsL.reverse ++ rest) (ha : argsL.toArray = as') (hlen : ∀ sig, parseMethodDescriptor y.desc = some sig → argsL.length = sig.parameters.length) {W : Nat} (hW : (rest.map fun v => v.category).sum ≤ W)
    (hf : rm.frames + 1 ≤ R.frames) (hl : W + (maxL + 11) + rm.locals ≤ R.locals) (hd : decode c.code pc = .ok (.invokestatic index, 3)) (hc : cells + rm.cells ≤ R.cells) (hs : slots + rm.slots ≤ R.slots)
    (k : ∀ (v : Option Value) (T' : State) (L : List Loc), Stand p l e R s m args below meth c T' (locs ++ L) (cells + rm.cells) (slots + rm.slots) → Qc v T'.heap L → Go p e below End Q T' (mkF m (pc + 3) Ls (v.toList ++ rest))) :
    Go p e below End Q T (mkF m pc Ls stk) := by
  subst hst
  obtain ⟨v, _, ⟨T', L', k', n'⟩, -, X', ⟨Lc, hQ, l1, y1, z1⟩, st⟩ := Jvm.LawKit.callS X hx (y := y) hown (mvT hZ wl) (mvT hZ wst) (mvT hZ wi) (mvT hZ wc) hy (backOf (W := W) hM hZ wc wi hf hl) (g := mkF m pc Ls (argsL.reverse ++ rest)) rfl hsize (argsL := argsL) (rest := rest) hlen rfl (by show 2 * 0 + _ ≤ _; rw [Nat.mul_zero, Nat.zero_add]; exact hW) hd (fun _ _ => ⟨ha, eT, hc, hs⟩)
  dsimp only [Pt.U, Pt.locs, Pt.cells, Pt.slots] at X' l1 y1 z1 st hQ
  subst l1 y1 z1
  exact own_go (fun t q => st _ q) (k v T' Lc X' hQ)
theorem own_callV (X : Stand p l e R s m args below meth c T locs cells slots) (hx : p.tables.exec = Jvm.exec) (hZ : Z.Warmed39 s.vm) {own Cn : String} {index : Nat} {y : MethodName} {bytes : ByteArray} {maxL : Nat} {ret : Option FieldType} {rm : Room} {as' : Array Value} {Qc : Option Value → Heap → List Loc → Prop}
    (hown : s.vm.findClass own = some m.cls) (wl : (Cond.methodLink own index y).before a0 Z = true) (wd : (Cond.declares y).before a0 Z = true) (wsel : (Cond.selects Cn y y).before a0 Z = true) (win : (Cond.instanceMethod y).before a0 Z = true) (wc : (Cond.code y bytes maxL ret).before a0 Z = true) (wi : (Cond.initialized y.cls).before a0 Z = true)
    (hy : y.cls ≠ "java/lang/invoke/MethodHandle" ∧ y.cls ≠ "java/lang/invoke/VarHandle")
    (hM : MetFree l y (head1 [Cond.code y bytes maxL ret] rm) (fun a U => a = as' ∧ Z.Warmed39 U.vm ∧ U.heap = h) (fun _ _ _ _ _ => True) (fun _ U o U' => ∃ v L, o = .returned v ∧ Qc v U'.heap L ∧ FrameEnd U o U' L rm.cells rm.slots))
    (eT : T.heap = h) {b : Addr} (E : Exa Z h b Cn) {pc : Nat} {Ls : Array Slot} (hsize : Ls.size = c.maxLocals) {argsL rest stk : List Value} (hst : stk = argsL.reverse ++ .ref b :: rest) (ha : (.ref b :: argsL).toArray = as') (hlen : ∀ sig, parseMethodDescriptor y.desc = some sig → argsL.length = sig.parameters.length) {W : Nat} (hW : (rest.map fun v => v.category).sum ≤ W)
    (hf : rm.frames + 1 ≤ R.frames) (hl : W + (maxL + 11) + rm.locals ≤ R.locals) (hd : decode c.code pc = .ok (.invokevirtual index, 3)) (hc : cells + rm.cells ≤ R.cells) (hs : slots + rm.slots ≤ R.slots)
    (k : ∀ (v : Option Value) (T' : State) (L : List Loc), Stand p l e R s m args below meth c T' (locs ++ L) (cells + rm.cells) (slots + rm.slots) → Qc v T'.heap L → Go p e below End Q T' (mkF m (pc + 3) Ls (v.toList ++ rest))) :
    Go p e below End Q T (mkF m pc Ls stk) := by
  subst hst
  obtain ⟨cq, kq, qa, qb, qc⟩ := isOf hZ eT E
  obtain ⟨v, _, ⟨T', L', k', n'⟩, -, X', ⟨Lc, hQ, l1, y1, z1⟩, st⟩ := X.virtualBack hx (y := y) (z := y) hown (mvT hZ wl) (mvT hZ wd) (notFace_of_selects (args := #[]) (mvT hZ wsel)) (mvT hZ wsel) (mvT hZ win) hy (backOf (W := W) hM hZ wc wi hf hl) qa qc (g := mkF m pc Ls (argsL.reverse ++ .ref b :: rest)) rfl hsize (Steps.refl _) (argsL := argsL) (rest := rest) hlen rfl (by show 2 * 0 + _ ≤ _; rw [Nat.mul_zero, Nat.zero_add]; exact hW) hd (fun _ _ => ⟨ha, eT, hc, hs⟩)
  dsimp only [Pt.U, Pt.locs, Pt.cells, Pt.slots] at X' l1 y1 z1 st hQ
  subst l1 y1 z1
  exact own_go (fun t q => st.trans q) (k v T' Lc X' hQ)
theorem own_callU (X : Stand p l e R s m args below meth c T locs cells slots) (hx : p.tables.exec = Jvm.exec) (hZ : Z.Warmed39 s.vm) {own Cn owner : String} {index : Nat} {y z : MethodName} {bytes : ByteArray} {maxL : Nat} {ret : Option FieldType} {rm : Room} {as' : Array Value} {Qc : Option Value → Heap → List Loc → Prop}
    (hown : s.vm.findClass own = some m.cls) (wl : (Cond.methodLink own index y).before a0 Z = true) (wsm : (Cond.sameMethod y.cls owner y.name y.desc).before a0 Z = true) (wd : (Cond.declares ⟨owner, y.name, y.desc⟩).before a0 Z = true) (wsel : (Cond.selects Cn y z).before a0 Z = true) (win : (Cond.instanceMethod z).before a0 Z = true) (wc : (Cond.code z bytes maxL ret).before a0 Z = true) (wi : (Cond.initialized z.cls).before a0 Z = true)
    (hy : owner ≠ "java/lang/invoke/MethodHandle" ∧ owner ≠ "java/lang/invoke/VarHandle")
    (hM : MetFree l z (head1 [Cond.code z bytes maxL ret] rm) (fun a U => a = as' ∧ Z.Warmed39 U.vm ∧ U.heap = h) (fun _ _ _ _ _ => True) (fun _ U o U' => ∃ v L, o = .returned v ∧ Qc v U'.heap L ∧ FrameEnd U o U' L rm.cells rm.slots))
    (eT : T.heap = h) {b : Addr} (E : Exa Z h b Cn) {pc : Nat} {Ls : Array Slot} (hsize : Ls.size = c.maxLocals) {argsL rest stk : List Value} (hst : stk = argsL.reverse ++ .ref b :: rest) (ha : (.ref b :: argsL).toArray = as') (hlen : ∀ sig, parseMethodDescriptor y.desc = some sig → argsL.length = sig.parameters.length) {W : Nat} (hW : (rest.map fun v => v.category).sum ≤ W)
    (hf : rm.frames + 1 ≤ R.frames) (hl : W + (maxL + 11) + rm.locals ≤ R.locals) (hd : decode c.code pc = .ok (.invokevirtual index, 3)) (hc : cells + rm.cells ≤ R.cells) (hs : slots + rm.slots ≤ R.slots)
    (k : ∀ (v : Option Value) (T' : State) (L : List Loc), Stand p l e R s m args below meth c T' (locs ++ L) (cells + rm.cells) (slots + rm.slots) → Qc v T'.heap L → Go p e below End Q T' (mkF m (pc + 3) Ls (v.toList ++ rest))) :
    Go p e below End Q T (mkF m pc Ls stk) := by
  subst hst
  obtain ⟨cq, kq, qa, qb, qc⟩ := isOf hZ eT E
  obtain ⟨v, _, ⟨T', L', k', n'⟩, -, X', ⟨Lc, hQ, l1, y1, z1⟩, st⟩ := X.virtualBackUp hx (x := y) (y := z) hown (mvT hZ wl) (mvT hZ wsm) (mvT hZ wd) hy (mvT hZ wsel) (mvT hZ win) (backOf (W := W) hM hZ wc wi hf hl) qa qc (g := mkF m pc Ls (argsL.reverse ++ .ref b :: rest)) rfl hsize (Steps.refl _) (argsL := argsL) (rest := rest) hlen rfl (by show 2 * 0 + _ ≤ _; rw [Nat.mul_zero, Nat.zero_add]; exact hW) hd (fun _ _ => ⟨ha, eT, hc, hs⟩)
  dsimp only [Pt.U, Pt.locs, Pt.cells, Pt.slots] at X' l1 y1 z1 st hQ
  subst l1 y1 z1
  exact own_go (fun t q => st.trans q) (k v T' Lc X' hQ)
theorem own_callI (X : Stand p l e R s m args below meth c T locs cells slots) (hx : p.tables.exec = Jvm.exec) (hZ : Z.Warmed39 s.vm) {own : String} {index : Nat} {y : MethodName} {bytes : ByteArray} {maxL : Nat} {rm : Room} {as' : Array Value} {Qc : Option Value → Heap → List Loc → Prop} (hy1 : y.name = "<init>")
    (hown : s.vm.findClass own = some m.cls) (wl : (Cond.methodLink own index y).before a0 Z = true) (win : (Cond.instanceMethod y).before a0 Z = true) (wc : (Cond.code y bytes maxL none).before a0 Z = true) (wi : (Cond.initialized y.cls).before a0 Z = true)
    (hy : y.cls ≠ "java/lang/invoke/MethodHandle" ∧ y.cls ≠ "java/lang/invoke/VarHandle")
    (hM : MetFree l y (head1 [Cond.code y bytes maxL none] rm) (fun a U => a = as' ∧ Z.Warmed39 U.vm ∧ U.heap = h) (fun _ _ _ _ _ => True) (fun _ U o U' => ∃ v L, o = .returned v ∧ Qc v U'.heap L ∧ FrameEnd U o U' L rm.cells rm.slots))
    (eT : T.heap = h) {b : Addr} {pc : Nat} {Ls : Array Slot} (hsize : Ls.size = c.maxLocals) {argsL rest stk : List Value} (hst : stk = argsL.reverse ++ .ref b :: rest) (ha : (.ref b :: argsL).toArray = as') (hlen : ∀ sig, parseMethodDescriptor y.desc = some sig → argsL.length = sig.parameters.length) {W : Nat} (hW : (rest.map fun v => v.category).sum ≤ W)
    (hf : rm.frames + 1 ≤ R.frames) (hl : W + (maxL + 11) + rm.locals ≤ R.locals) (hd : decode c.code pc = .ok (.invokespecial index, 3)) (hc : cells + rm.cells ≤ R.cells) (hs : slots + rm.slots ≤ R.slots)
    (k : ∀ (v : Option Value) (T' : State) (L : List Loc), Stand p l e R s m args below meth c T' (locs ++ L) (cells + rm.cells) (slots + rm.slots) → Qc v T'.heap L → Go p e below End Q T' (mkF m (pc + 3) Ls (v.toList ++ rest))) :
    Go p e below End Q T (mkF m pc Ls stk) := by
  subst hst
  obtain ⟨v, _, ⟨T', L', k', n'⟩, -, X', ⟨Lc, hQ, l1, y1, z1⟩, st⟩ := X.specialBack hx (y := y) hy1 hown (mvT hZ wl) (mvT hZ win) (mvT hZ wc) hy (backOf (W := W) hM hZ wc wi hf hl) (g := mkF m pc Ls (argsL.reverse ++ .ref b :: rest)) rfl hsize (Steps.refl _) (a := b) (argsL := argsL) (rest := rest) hlen rfl (by show 2 * 0 + _ ≤ _; rw [Nat.mul_zero, Nat.zero_add]; exact hW) hd (fun _ _ => ⟨ha, eT, hc, hs⟩)
  dsimp only [Pt.U, Pt.locs, Pt.cells, Pt.slots] at X' l1 y1 z1 st hQ
  subst l1 y1 z1
  exact own_go (fun t q => st.trans q) (k v T' Lc X' hQ)
theorem own_eqI {ar : Array Value} {t : Term} {k : Int32} (hx : (Cond.eq t (.int k)).value ar Z none Z [] = some true) : t.eval ar Z none [] Z = some (.int k) := by
  obtain ⟨x, y, e1, e2, k1, -⟩ := cmp_v (Or.inl hx)
  have e3 : y = .int k := Option.some.inj (e2.symm.trans (Term.int_eval k))
  subst e3
  cases x with
  | int z =>
    have := gotT (Cond.eq_ints e1 e2) hx
    subst this
    exact e1
  | _ => simp [Kin, Value.isRef] at k1
theorem own_fld {ar : Array Value} {t : Term} {w : Addr} {O n d : String} {k : Int32} (ev : t.eval ar Z none [] Z = some (.ref w)) (hx : (Cond.eq (.field t O n d) (.int k)).value ar Z none Z [] = some true) : Fld Z Z.heap w O n d (.int k) :=
  Fld.start ((fld_at (C := O) (n := n) (dd := d) ev).symm.trans (own_eqI hx))
theorem own_len {ar : Array Value} {t : Term} {a : Addr} {cl : Cell} {k : Int32} {n : Nat} (ev : t.eval ar Z none [] Z = some (.ref a)) (hat : Z.arrayAt? a = some cl) (hL : (Cond.eq (.length t) (.int k)).value ar Z none Z [] = some true) (hk : k.toInt = n) : cl.slots.size = n ∧ cl.slots.size < 2 ^ 31 := by
  by_cases hs : cl.slots.size < 2 ^ 31
  · have e1 := len_f (t := t) ev hat hs
    have e2 := own_eqI hL
    have e3 : cl.slots.size.toInt32 = k := Value.int.inj (Option.some.inj (e1.symm.trans e2))
    have e4 := len_toInt hs
    rw [e3, hk] at e4
    exact ⟨by omega, hs⟩
  · have e2 := own_eqI hL
    simp [Term.eval, ev, hat, hs] at e2
theorem own_ne_fld {a b : Addr} {Cn n d : String} {v w : Value} (F : Fld Z h a Cn n d v) (G : Fld Z h b Cn n d w) (hn : v ≠ w) : ¬ a = b := by
  rintro rfl
  obtain ⟨c1, cf1, k1, i1, f1, h1, h2, -, -, -, -, h7⟩ := F
  obtain ⟨c2, cf2, k2, i2, f2, g1, g2, -, -, -, -, g7⟩ := G
  cases h1.symm.trans g1
  cases h2.symm.trans g2
  cases h7.symm.trans g7
  exact hn rfl
theorem own_sta_keep {h h' : Heap} {ws : List Addr} {Cn n d : String} {v : Value} (F : Sta Z h Cn n d v) (K : Keep h h' ws) (hws : ∀ a ∈ ws, ∃ C', Exa Z h a C') : Sta Z h' Cn n d v := by
  obtain ⟨cf, i, k, f, st, cell, h1, h2, h3, h4, h5, h6, h7⟩ := F
  refine ⟨cf, i, k, f, st, cell, h1, h2, h3, h4, K.2.1 st cell h5 (fun q => ?_), h6, h7⟩
  obtain ⟨C', cell', k', e1, -, -, e4, -⟩ := hws st q
  cases h5.symm.trans e1
  rw [h6] at e4; cases e4
/-- the class named c has no superclass named K (itself neither) -/
def OwnNsub (Z : State) (c K : String) : Prop := ∀ (ci ki : ClassId), Z.vm.findClass c = some ci → Z.vm.findClass K = some ki → ∀ fuel, Z.vm.isSubclassAux fuel ci ki = false
theorem own_id_ne {c K : String} {ci ki : ClassId} (h1 : Z.vm.findClass c = some ci) (h2 : Z.vm.findClass K = some ki) (hn : c ≠ K) : (ci == ki) = false := by
  rw [beq_eq_false_iff_ne]
  rintro rfl
  obtain ⟨k1, a1, b1⟩ := Vm.findClass_spec h1
  obtain ⟨k2, a2, b2⟩ := Vm.findClass_spec h2
  cases a1.symm.trans a2
  exact hn (b1.symm.trans b2)
theorem own_nsub_root {c K : String} (w : (Cond.noSuperclass c).before a0 Z = true) (hn : c ≠ K) : OwnNsub Z c K := by
  intro ci ki h1 h2 fuel
  cases fuel with
  | zero => rfl
  | succ n =>
    obtain ⟨k1, a1, b1⟩ := Vm.findClass_spec h1
    have hs := Cond.noSuperclass_root w ci k1 h1 a1
    simp [Vm.isSubclassAux, own_id_ne h1 h2 hn, a1, hs]
theorem own_nsub_up {c d K : String} (w : (Cond.superclass c d).before a0 Z = true) (hn : c ≠ K) (N : OwnNsub Z d K) : OwnNsub Z c K := by
  intro ci ki h1 h2 fuel
  cases fuel with
  | zero => rfl
  | succ n =>
    obtain ⟨pi, k, kp, g1, g2, g3, g4, -⟩ := Cond.superclass_spec h1 w
    simp [Vm.isSubclassAux, own_id_ne h1 h2 hn, g2, g4, N pi ki g1 h2 n]
theorem own_nins {a : Addr} {c d K : String} {kk : Nat} (E : Exa Z h a c) (wi : (Cond.instantiable K kk).before a0 Z = true) (wsup : (Cond.superclass c d).before a0 Z = true) (hn : c ≠ K) (N : OwnNsub Z c K) : Ins Z h a K false := by
  obtain ⟨cell, k, h1, h2, h3, h4, -⟩ := E
  obtain ⟨ki, kt, i1, i2, i3, i4, -⟩ := Cond.instantiable_spec wi
  obtain ⟨pi, k', kp, g1, g2, g3, g4, g5, -⟩ := Cond.superclass_spec h2 wsup
  cases h3.symm.trans g2
  refine ⟨cell, ki, h1, i1, ?_⟩
  have hif : kt.isInterface = false := by simp only [Bool.or_eq_false_iff] at i4; exact i4.1
  simp [h4, Vm.assignable, Vm.assignableAux, own_id_ne h2 i1 hn, h3, i2, g5, i3, hif, Vm.isSubclass, N cell.cls ki h2 i1]
end OwnGo
theorem own_int {i j : Int32} (h : i.toInt = j.toInt) : i = j := Int32.toInt_inj.mp h
theorem own_and3 (x : Int32) : (x &&& (3 : Int32)) = 0 ∨ (x &&& (3 : Int32)) = 1 ∨ (x &&& (3 : Int32)) = 2 ∨ (x &&& (3 : Int32)) = 3 := by
  have h := c_and x (3 : Int32) (by decide)
  have h3 : (3 : Int32).toInt = 3 := by decide
  rw [h3] at h
  generalize (x &&& (3 : Int32)) = i at h
  have q : i.toInt = 0 ∨ i.toInt = 1 ∨ i.toInt = 2 ∨ i.toInt = 3 := by omega
  rcases q with q | q | q | q
  · exact Or.inl (own_int q)
  · exact Or.inr (Or.inl (own_int q))
  · exact Or.inr (Or.inr (Or.inl (own_int q)))
  · exact Or.inr (Or.inr (Or.inr (own_int q)))
theorem own_and1 (x : Int32) : (x &&& (1 : Int32)) = 0 ∨ (x &&& (1 : Int32)) = 1 := by
  have h := c_and x (1 : Int32) (by decide)
  have h3 : (1 : Int32).toInt = 1 := by decide
  rw [h3] at h
  generalize (x &&& (1 : Int32)) = i at h
  have q : i.toInt = 0 ∨ i.toInt = 1 := by omega
  rcases q with q | q
  · exact Or.inl (own_int q)
  · exact Or.inr (own_int q)
theorem own_rem6 (x : Int32) : ((x &&& (2147483647 : Int32)) % (6 : Int32)) = 0 ∨ ((x &&& (2147483647 : Int32)) % (6 : Int32)) = 1 ∨ ((x &&& (2147483647 : Int32)) % (6 : Int32)) = 2 ∨ ((x &&& (2147483647 : Int32)) % (6 : Int32)) = 3 ∨ ((x &&& (2147483647 : Int32)) % (6 : Int32)) = 4 ∨ ((x &&& (2147483647 : Int32)) % (6 : Int32)) = 5 := by
  have h := (c_and x (2147483647 : Int32) (by decide)).1
  generalize (x &&& (2147483647 : Int32)) = y at h
  have h2 := (c_irem y (6 : Int32) 6 (by decide)).1 h
  generalize (y % (6 : Int32)) = i at h2
  have q : i.toInt = 0 ∨ i.toInt = 1 ∨ i.toInt = 2 ∨ i.toInt = 3 ∨ i.toInt = 4 ∨ i.toInt = 5 := by omega
  rcases q with q | q | q | q | q | q
  · exact Or.inl (own_int q)
  · exact Or.inr (Or.inl (own_int q))
  · exact Or.inr (Or.inr (Or.inl (own_int q)))
  · exact Or.inr (Or.inr (Or.inr (Or.inl (own_int q))))
  · exact Or.inr (Or.inr (Or.inr (Or.inr (Or.inl (own_int q)))))
  · exact Or.inr (Or.inr (Or.inr (Or.inr (Or.inr (own_int q)))))
theorem own_rem5 (x : Int32) : ((x &&& (2147483647 : Int32)) % (5 : Int32)) = 0 ∨ ((x &&& (2147483647 : Int32)) % (5 : Int32)) = 1 ∨ ((x &&& (2147483647 : Int32)) % (5 : Int32)) = 2 ∨ ((x &&& (2147483647 : Int32)) % (5 : Int32)) = 3 ∨ ((x &&& (2147483647 : Int32)) % (5 : Int32)) = 4 := by
  have h := (c_and x (2147483647 : Int32) (by decide)).1
  generalize (x &&& (2147483647 : Int32)) = y at h
  have h2 := (c_irem y (5 : Int32) 5 (by decide)).1 h
  generalize (y % (5 : Int32)) = i at h2
  have q : i.toInt = 0 ∨ i.toInt = 1 ∨ i.toInt = 2 ∨ i.toInt = 3 ∨ i.toInt = 4 := by omega
  rcases q with q | q | q | q | q
  · exact Or.inl (own_int q)
  · exact Or.inr (Or.inl (own_int q))
  · exact Or.inr (Or.inr (Or.inl (own_int q)))
  · exact Or.inr (Or.inr (Or.inr (Or.inl (own_int q))))
  · exact Or.inr (Or.inr (Or.inr (Or.inr (own_int q))))
theorem own_and2 (x : Int32) : (x &&& (2 : Int32)) = 0 ∨ (x &&& (2 : Int32)) = 2 := by
  have h : (x &&& (2 : Int32)) = (x &&& (3 : Int32)) &&& (2 : Int32) := by rw [Int32.and_assoc]; rfl
  rw [h]
  rcases own_and3 x with q | q | q | q <;> rw [q] <;> decide

theorem d_method_3_0 : Jvm.ClassFile.decode method_3_code 0 = .ok (.iload_n 1, 1) := by decide +kernel
theorem d_method_3_1 : Jvm.ClassFile.decode method_3_code 1 = .ok (.iload_n 0, 1) := by decide +kernel
theorem d_method_3_2 : Jvm.ClassFile.decode method_3_code 2 = .ok (.if_icmp .gt 12, 3) := by decide +kernel
theorem d_method_3_14 : Jvm.ClassFile.decode method_3_code 14 = .ok (.iconst 0, 1) := by decide +kernel
theorem d_method_3_15 : Jvm.ClassFile.decode method_3_code 15 = .ok (.ireturn, 1) := by decide +kernel
theorem d_method_3_5 : Jvm.ClassFile.decode method_3_code 5 = .ok (.iload_n 0, 1) := by decide +kernel
theorem d_method_3_6 : Jvm.ClassFile.decode method_3_code 6 = .ok (.iload_n 1, 1) := by decide +kernel
theorem d_method_3_7 : Jvm.ClassFile.decode method_3_code 7 = .ok (.iload_n 2, 1) := by decide +kernel
theorem d_method_3_8 : Jvm.ClassFile.decode method_3_code 8 = .ok (.iadd, 1) := by decide +kernel
theorem d_method_3_9 : Jvm.ClassFile.decode method_3_code 9 = .ok (.if_icmp .ge 5, 3) := by decide +kernel
theorem d_method_3_12 : Jvm.ClassFile.decode method_3_code 12 = .ok (.iconst 1, 1) := by decide +kernel
theorem d_method_3_13 : Jvm.ClassFile.decode method_3_code 13 = .ok (.ireturn, 1) := by decide +kernel
def own_in (p1 : Int32) (p2 : Int32) (p3 : Int32) : Int32 := (if p1 < p2 then (0 : Int32) else (if p1 < (p2 + p3) then (1 : Int32) else (0 : Int32)))
theorem own_pn0 : plainName "com/example/trailworks/trailworks/works/CrewsFreePinLaw" = true := by first | (simp [plainName, overriddenIn]; done) | decide +kernel
theorem own_ef_rm_in (m : MethodId) (x0 : Int32) (x1 : Int32) (x2 : Int32) : entryFrame m #[(.int x0), (.int x1), (.int x2)] 3 = mkF m 0 #[.val (.int x0), .val (.int x1), .val (.int x2)] [] := by first | (simp [entryFrame, mkF, argsToLocals, Value.category]; done) | rfl
set_option maxRecDepth 65536 in
set_option maxHeartbeats 40000000 in
theorem rm_in (l : Launch) (Z : State) (a0 : Array Value) (hw : ∀ d ∈ tables_1, d.before a0 Z = true) (ws : List Jvm.Cond) (p1 : Int32) (p2 : Int32) (p3 : Int32) (r : Int32) (h0 : Heap) (n0 : Nat) (hn0 : n0 ≤ h0.size) (hr : own_in p1 p2 p3 = r) :
    OwnMet l Z (⟨"com/example/trailworks/trailworks/works/CrewsFreePinLaw", "in", "(III)I"⟩ : MethodName) method_3_code 3 (some .int) ws ({ frames := 0, cells := 0, slots := 0, locals := 0 } : Room) #[(.int p1), (.int p2), (.int p3)] h0 (OwnP (some (.int r)) h0 n0) := by
  refine own_body (plainFor_of_name own_pn0) ?_
  intro p e s m below meth c s₁ X0 hx hby hml hret hlk hown0 hnm hZ e0 hs0
  have hown : s.vm.findClass "com/example/trailworks/trailworks/works/CrewsFreePinLaw" = some m.cls := hown0
  have N0 := Fr.nil n0
  refine own_entry (own_ef_rm_in m p1 p2 p3) ?_
  show Go _ _ _ _ _ s₁ (mkF m 0 #[.val (.int p1), .val (.int p2), .val (.int p3)] [])
  refine own_go (fun t k => XS.iloadN X0.here hx rfl (hb hby d_method_3_0) rfl k) ?_
  show Go _ _ _ _ _ s₁ (mkF m 1 #[.val (.int p1), .val (.int p2), .val (.int p3)] [(.int p2)])
  refine own_go (fun t k => XS.iloadN X0.here hx rfl (hb hby d_method_3_1) rfl k) ?_
  show Go _ _ _ _ _ s₁ (mkF m 2 #[.val (.int p1), .val (.int p2), .val (.int p3)] [(.int p1), (.int p2)])
  refine own_icmpP (p1 < p2) X0 hx (hb hby d_method_3_2) (own_gt _ _) (by decide) (by decide) (pc' := 14) (fun hc3 => ?_) (fun hc3 => ?_)
  · skip
    show Go _ _ _ _ _ s₁ (mkF m 14 #[.val (.int p1), .val (.int p2), .val (.int p3)] [])
    refine own_go (fun t k => XS.iconst X0.here hx rfl (hb hby d_method_3_14) k) ?_
    show Go _ _ _ _ _ s₁ (mkF m 15 #[.val (.int p1), .val (.int p2), .val (.int p3)] [(.int (0 : Int32))])
    refine own_retI X0 hx (own_lvN X0 hlk (by decide) (by decide)) hret (hb hby d_method_3_15) ?_
    exact ⟨(by rw [← hr, own_in, if_pos hc3]; try rfl), N0, e0⟩
  · skip
    show Go _ _ _ _ _ s₁ (mkF m 5 #[.val (.int p1), .val (.int p2), .val (.int p3)] [])
    refine own_go (fun t k => XS.iloadN X0.here hx rfl (hb hby d_method_3_5) rfl k) ?_
    show Go _ _ _ _ _ s₁ (mkF m 6 #[.val (.int p1), .val (.int p2), .val (.int p3)] [(.int p1)])
    refine own_go (fun t k => XS.iloadN X0.here hx rfl (hb hby d_method_3_6) rfl k) ?_
    show Go _ _ _ _ _ s₁ (mkF m 7 #[.val (.int p1), .val (.int p2), .val (.int p3)] [(.int p2), (.int p1)])
    refine own_go (fun t k => XS.iloadN X0.here hx rfl (hb hby d_method_3_7) rfl k) ?_
    show Go _ _ _ _ _ s₁ (mkF m 8 #[.val (.int p1), .val (.int p2), .val (.int p3)] [(.int p3), (.int p2), (.int p1)])
    refine own_go (fun t k => XS.iadd X0.here hx rfl (hb hby d_method_3_8) rfl k) ?_
    show Go _ _ _ _ _ s₁ (mkF m 9 #[.val (.int p1), .val (.int p2), .val (.int p3)] [(.int (p2 + p3)), (.int p1)])
    refine own_icmpM (p1 < (p2 + p3)) X0 hx (hb hby d_method_3_9) (own_ge _ _) (by decide) (by decide) (pc' := 14) (fun hc4 => ?_) (fun hc4 => ?_)
    · skip
      show Go _ _ _ _ _ s₁ (mkF m 14 #[.val (.int p1), .val (.int p2), .val (.int p3)] [])
      refine own_go (fun t k => XS.iconst X0.here hx rfl (hb hby d_method_3_14) k) ?_
      show Go _ _ _ _ _ s₁ (mkF m 15 #[.val (.int p1), .val (.int p2), .val (.int p3)] [(.int (0 : Int32))])
      refine own_retI X0 hx (own_lvN X0 hlk (by decide) (by decide)) hret (hb hby d_method_3_15) ?_
      exact ⟨(by rw [← hr, own_in, if_neg hc3, if_neg hc4]; try rfl), N0, e0⟩
    · skip
      show Go _ _ _ _ _ s₁ (mkF m 12 #[.val (.int p1), .val (.int p2), .val (.int p3)] [])
      refine own_go (fun t k => XS.iconst X0.here hx rfl (hb hby d_method_3_12) k) ?_
      show Go _ _ _ _ _ s₁ (mkF m 13 #[.val (.int p1), .val (.int p2), .val (.int p3)] [(.int (1 : Int32))])
      refine own_retI X0 hx (own_lvN X0 hlk (by decide) (by decide)) hret (hb hby d_method_3_13) ?_
      exact ⟨(by rw [← hr, own_in, if_neg hc3, if_pos hc4]; try rfl), N0, e0⟩
theorem d_method_4_0 : Jvm.ClassFile.decode method_4_code 0 = .ok (.iload_n 0, 1) := by decide +kernel
theorem d_method_4_1 : Jvm.ClassFile.decode method_4_code 1 = .ok (.iload 8, 2) := by decide +kernel
theorem d_method_4_3 : Jvm.ClassFile.decode method_4_code 3 = .ok (.iload 9, 2) := by decide +kernel
theorem d_method_4_5 : Jvm.ClassFile.decode method_4_code 5 = .ok (.invokestatic 25, 3) := by decide +kernel
theorem own_pd0 : parseMethodDescriptor "(III)I" = some ⟨[.int, .int, .int], some .int⟩ := by decide +kernel
theorem d_method_4_8 : Jvm.ClassFile.decode method_4_code 8 = .ok (.ifCond .ne 5, 3) := by decide +kernel
theorem d_method_4_13 : Jvm.ClassFile.decode method_4_code 13 = .ok (.iload_n 0, 1) := by decide +kernel
theorem d_method_4_14 : Jvm.ClassFile.decode method_4_code 14 = .ok (.iload_n 2, 1) := by decide +kernel
theorem d_method_4_15 : Jvm.ClassFile.decode method_4_code 15 = .ok (.iload_n 3, 1) := by decide +kernel
theorem d_method_4_16 : Jvm.ClassFile.decode method_4_code 16 = .ok (.invokestatic 25, 3) := by decide +kernel
theorem d_method_4_19 : Jvm.ClassFile.decode method_4_code 19 = .ok (.iload_n 0, 1) := by decide +kernel
theorem d_method_4_20 : Jvm.ClassFile.decode method_4_code 20 = .ok (.iload 4, 2) := by decide +kernel
theorem d_method_4_22 : Jvm.ClassFile.decode method_4_code 22 = .ok (.iload 5, 2) := by decide +kernel
theorem d_method_4_24 : Jvm.ClassFile.decode method_4_code 24 = .ok (.invokestatic 25, 3) := by decide +kernel
theorem d_method_4_27 : Jvm.ClassFile.decode method_4_code 27 = .ok (.iadd, 1) := by decide +kernel
theorem d_method_4_28 : Jvm.ClassFile.decode method_4_code 28 = .ok (.iload_n 0, 1) := by decide +kernel
theorem d_method_4_29 : Jvm.ClassFile.decode method_4_code 29 = .ok (.iload 6, 2) := by decide +kernel
theorem d_method_4_31 : Jvm.ClassFile.decode method_4_code 31 = .ok (.iload 7, 2) := by decide +kernel
theorem d_method_4_33 : Jvm.ClassFile.decode method_4_code 33 = .ok (.invokestatic 25, 3) := by decide +kernel
theorem d_method_4_36 : Jvm.ClassFile.decode method_4_code 36 = .ok (.iadd, 1) := by decide +kernel
theorem d_method_4_37 : Jvm.ClassFile.decode method_4_code 37 = .ok (.istore 10, 2) := by decide +kernel
theorem d_method_4_39 : Jvm.ClassFile.decode method_4_code 39 = .ok (.iload 10, 2) := by decide +kernel
theorem d_method_4_41 : Jvm.ClassFile.decode method_4_code 41 = .ok (.iload_n 1, 1) := by decide +kernel
theorem d_method_4_42 : Jvm.ClassFile.decode method_4_code 42 = .ok (.if_icmp .ge 7, 3) := by decide +kernel
theorem d_method_4_49 : Jvm.ClassFile.decode method_4_code 49 = .ok (.iconst 0, 1) := by decide +kernel
theorem d_method_4_50 : Jvm.ClassFile.decode method_4_code 50 = .ok (.ireturn, 1) := by decide +kernel
theorem d_method_4_45 : Jvm.ClassFile.decode method_4_code 45 = .ok (.iconst 1, 1) := by decide +kernel
theorem d_method_4_46 : Jvm.ClassFile.decode method_4_code 46 = .ok (.goto 4, 3) := by decide +kernel
theorem d_method_4_11 : Jvm.ClassFile.decode method_4_code 11 = .ok (.iconst 1, 1) := by decide +kernel
theorem d_method_4_12 : Jvm.ClassFile.decode method_4_code 12 = .ok (.ireturn, 1) := by decide +kernel
def own_ok (q0 : Int32) (q1 : Int32) (q2 : Int32) (q3 : Int32) (q4 : Int32) (q5 : Int32) (q6 : Int32) (q7 : Int32) (q8 : Int32) (q9 : Int32) : Int32 := (if (own_in q0 q8 q9) = (0 : Int32) then (1 : Int32) else (if (((own_in q0 q2 q3) + (own_in q0 q4 q5)) + (own_in q0 q6 q7)) < q1 then (1 : Int32) else (0 : Int32)))
theorem own_ef_rm_ok (m : MethodId) (x0 : Int32) (x1 : Int32) (x2 : Int32) (x3 : Int32) (x4 : Int32) (x5 : Int32) (x6 : Int32) (x7 : Int32) (x8 : Int32) (x9 : Int32) : entryFrame m #[(.int x0), (.int x1), (.int x2), (.int x3), (.int x4), (.int x5), (.int x6), (.int x7), (.int x8), (.int x9)] 11 = mkF m 0 #[.val (.int x0), .val (.int x1), .val (.int x2), .val (.int x3), .val (.int x4), .val (.int x5), .val (.int x6), .val (.int x7), .val (.int x8), .val (.int x9), .unset] [] := by first | (simp [entryFrame, mkF, argsToLocals, Value.category]; done) | rfl
set_option maxRecDepth 65536 in
set_option maxHeartbeats 40000000 in
theorem rm_ok (l : Launch) (Z : State) (a0 : Array Value) (hw : ∀ d ∈ tables_1, d.before a0 Z = true) (ws : List Jvm.Cond) (q0 : Int32) (q1 : Int32) (q2 : Int32) (q3 : Int32) (q4 : Int32) (q5 : Int32) (q6 : Int32) (q7 : Int32) (q8 : Int32) (q9 : Int32) (r : Int32) (h0 : Heap) (n0 : Nat) (hn0 : n0 ≤ h0.size) (hr : own_ok q0 q1 q2 q3 q4 q5 q6 q7 q8 q9 = r) :
    OwnMet l Z (⟨"com/example/trailworks/trailworks/works/CrewsFreePinLaw", "ok", "(IIIIIIIIII)Z"⟩ : MethodName) method_4_code 11 (some .boolean) ws ({ frames := 1, cells := 0, slots := 0, locals := 15 } : Room) #[(.int q0), (.int q1), (.int q2), (.int q3), (.int q4), (.int q5), (.int q6), (.int q7), (.int q8), (.int q9)] h0 (OwnP (some (.int r)) h0 n0) := by
  refine own_body (plainFor_of_name own_pn0) ?_
  intro p e s m below meth c s₁ X0 hx hby hml hret hlk hown0 hnm hZ e0 hs0
  have hown : s.vm.findClass "com/example/trailworks/trailworks/works/CrewsFreePinLaw" = some m.cls := hown0
  have N0 := Fr.nil n0
  refine own_entry (own_ef_rm_ok m q0 q1 q2 q3 q4 q5 q6 q7 q8 q9) ?_
  show Go _ _ _ _ _ s₁ (mkF m 0 #[.val (.int q0), .val (.int q1), .val (.int q2), .val (.int q3), .val (.int q4), .val (.int q5), .val (.int q6), .val (.int q7), .val (.int q8), .val (.int q9), .unset] [])
  refine own_go (fun t k => XS.iloadN X0.here hx rfl (hb hby d_method_4_0) rfl k) ?_
  show Go _ _ _ _ _ s₁ (mkF m 1 #[.val (.int q0), .val (.int q1), .val (.int q2), .val (.int q3), .val (.int q4), .val (.int q5), .val (.int q6), .val (.int q7), .val (.int q8), .val (.int q9), .unset] [(.int q0)])
  refine own_go (fun t k => XS.iload X0.here hx rfl (hb hby d_method_4_1) rfl k) ?_
  show Go _ _ _ _ _ s₁ (mkF m 3 #[.val (.int q0), .val (.int q1), .val (.int q2), .val (.int q3), .val (.int q4), .val (.int q5), .val (.int q6), .val (.int q7), .val (.int q8), .val (.int q9), .unset] [(.int q8), (.int q0)])
  refine own_go (fun t k => XS.iload X0.here hx rfl (hb hby d_method_4_3) rfl k) ?_
  show Go _ _ _ _ _ s₁ (mkF m 5 #[.val (.int q0), .val (.int q1), .val (.int q2), .val (.int q3), .val (.int q4), .val (.int q5), .val (.int q6), .val (.int q7), .val (.int q8), .val (.int q9), .unset] [(.int q9), (.int q8), (.int q0)])
  refine own_callS X0 hx hZ (y := (⟨"com/example/trailworks/trailworks/works/CrewsFreePinLaw", "in", "(III)I"⟩ : MethodName)) hown (hw _ (List.mem_of_getElem? (i := 35) rfl)) (hw _ (List.mem_of_getElem? (i := 36) rfl)) (hw _ (List.mem_of_getElem? (i := 33) rfl)) (hw _ (List.mem_of_getElem? (i := 37) rfl)) (by decide) (rm_in l Z a0 hw [] q0 q8 q9 (own_in q0 q8 q9) h0 n0 hn0  rfl) e0 (by rw [hml]; rfl) (argsL := [(.int q0), (.int q8), (.int q9)]) (rest := []) rfl rfl (lenOf own_pd0 rfl) (W := 0) (Nat.le_of_eq rfl) (by decide) (by decide) (hb hby d_method_4_5) (by decide) (by decide) ?_
  intro v11 T11 L11 X11 q11
  obtain ⟨rfl, N11q, e11⟩ := q11
  have N11 := Fr.app N0 N11q
  show Go _ _ _ _ _ T11 (mkF m 8 #[.val (.int q0), .val (.int q1), .val (.int q2), .val (.int q3), .val (.int q4), .val (.int q5), .val (.int q6), .val (.int q7), .val (.int q8), .val (.int q9), .unset] [(.int (own_in q0 q8 q9))])
  refine own_ifM ((own_in q0 q8 q9) = (0 : Int32)) X11 hx (hb hby d_method_4_8) (own_ne _ _) (by decide) (by decide) (pc' := 13) (fun hc12 => ?_) (fun hc12 => ?_)
  · skip
    show Go _ _ _ _ _ T11 (mkF m 13 #[.val (.int q0), .val (.int q1), .val (.int q2), .val (.int q3), .val (.int q4), .val (.int q5), .val (.int q6), .val (.int q7), .val (.int q8), .val (.int q9), .unset] [])
    refine own_go (fun t k => XS.iloadN X11.here hx rfl (hb hby d_method_4_13) rfl k) ?_
    show Go _ _ _ _ _ T11 (mkF m 14 #[.val (.int q0), .val (.int q1), .val (.int q2), .val (.int q3), .val (.int q4), .val (.int q5), .val (.int q6), .val (.int q7), .val (.int q8), .val (.int q9), .unset] [(.int q0)])
    refine own_go (fun t k => XS.iloadN X11.here hx rfl (hb hby d_method_4_14) rfl k) ?_
    show Go _ _ _ _ _ T11 (mkF m 15 #[.val (.int q0), .val (.int q1), .val (.int q2), .val (.int q3), .val (.int q4), .val (.int q5), .val (.int q6), .val (.int q7), .val (.int q8), .val (.int q9), .unset] [(.int q2), (.int q0)])
    refine own_go (fun t k => XS.iloadN X11.here hx rfl (hb hby d_method_4_15) rfl k) ?_
    show Go _ _ _ _ _ T11 (mkF m 16 #[.val (.int q0), .val (.int q1), .val (.int q2), .val (.int q3), .val (.int q4), .val (.int q5), .val (.int q6), .val (.int q7), .val (.int q8), .val (.int q9), .unset] [(.int q3), (.int q2), (.int q0)])
    refine own_callS X11 hx hZ (y := (⟨"com/example/trailworks/trailworks/works/CrewsFreePinLaw", "in", "(III)I"⟩ : MethodName)) hown (hw _ (List.mem_of_getElem? (i := 35) rfl)) (hw _ (List.mem_of_getElem? (i := 36) rfl)) (hw _ (List.mem_of_getElem? (i := 33) rfl)) (hw _ (List.mem_of_getElem? (i := 37) rfl)) (by decide) (rm_in l Z a0 hw [] q0 q2 q3 (own_in q0 q2 q3) h0 n0 hn0  rfl) e11 (by rw [hml]; rfl) (argsL := [(.int q0), (.int q2), (.int q3)]) (rest := []) rfl rfl (lenOf own_pd0 rfl) (W := 0) (Nat.le_of_eq rfl) (by decide) (by decide) (hb hby d_method_4_16) (by decide) (by decide) ?_
    intro v13 T13 L13 X13 q13
    obtain ⟨rfl, N13q, e13⟩ := q13
    have N13 := Fr.app N11 N13q
    show Go _ _ _ _ _ T13 (mkF m 19 #[.val (.int q0), .val (.int q1), .val (.int q2), .val (.int q3), .val (.int q4), .val (.int q5), .val (.int q6), .val (.int q7), .val (.int q8), .val (.int q9), .unset] [(.int (own_in q0 q2 q3))])
    refine own_go (fun t k => XS.iloadN X13.here hx rfl (hb hby d_method_4_19) rfl k) ?_
    show Go _ _ _ _ _ T13 (mkF m 20 #[.val (.int q0), .val (.int q1), .val (.int q2), .val (.int q3), .val (.int q4), .val (.int q5), .val (.int q6), .val (.int q7), .val (.int q8), .val (.int q9), .unset] [(.int q0), (.int (own_in q0 q2 q3))])
    refine own_go (fun t k => XS.iload X13.here hx rfl (hb hby d_method_4_20) rfl k) ?_
    show Go _ _ _ _ _ T13 (mkF m 22 #[.val (.int q0), .val (.int q1), .val (.int q2), .val (.int q3), .val (.int q4), .val (.int q5), .val (.int q6), .val (.int q7), .val (.int q8), .val (.int q9), .unset] [(.int q4), (.int q0), (.int (own_in q0 q2 q3))])
    refine own_go (fun t k => XS.iload X13.here hx rfl (hb hby d_method_4_22) rfl k) ?_
    show Go _ _ _ _ _ T13 (mkF m 24 #[.val (.int q0), .val (.int q1), .val (.int q2), .val (.int q3), .val (.int q4), .val (.int q5), .val (.int q6), .val (.int q7), .val (.int q8), .val (.int q9), .unset] [(.int q5), (.int q4), (.int q0), (.int (own_in q0 q2 q3))])
    refine own_callS X13 hx hZ (y := (⟨"com/example/trailworks/trailworks/works/CrewsFreePinLaw", "in", "(III)I"⟩ : MethodName)) hown (hw _ (List.mem_of_getElem? (i := 35) rfl)) (hw _ (List.mem_of_getElem? (i := 36) rfl)) (hw _ (List.mem_of_getElem? (i := 33) rfl)) (hw _ (List.mem_of_getElem? (i := 37) rfl)) (by decide) (rm_in l Z a0 hw [] q0 q4 q5 (own_in q0 q4 q5) h0 n0 hn0  rfl) e13 (by rw [hml]; rfl) (argsL := [(.int q0), (.int q4), (.int q5)]) (rest := [(.int (own_in q0 q2 q3))]) rfl rfl (lenOf own_pd0 rfl) (W := 1) (Nat.le_of_eq rfl) (by decide) (by decide) (hb hby d_method_4_24) (by decide) (by decide) ?_
    intro v14 T14 L14 X14 q14
    obtain ⟨rfl, N14q, e14⟩ := q14
    have N14 := Fr.app N13 N14q
    show Go _ _ _ _ _ T14 (mkF m 27 #[.val (.int q0), .val (.int q1), .val (.int q2), .val (.int q3), .val (.int q4), .val (.int q5), .val (.int q6), .val (.int q7), .val (.int q8), .val (.int q9), .unset] [(.int (own_in q0 q4 q5)), (.int (own_in q0 q2 q3))])
    refine own_go (fun t k => XS.iadd X14.here hx rfl (hb hby d_method_4_27) rfl k) ?_
    show Go _ _ _ _ _ T14 (mkF m 28 #[.val (.int q0), .val (.int q1), .val (.int q2), .val (.int q3), .val (.int q4), .val (.int q5), .val (.int q6), .val (.int q7), .val (.int q8), .val (.int q9), .unset] [(.int ((own_in q0 q2 q3) + (own_in q0 q4 q5)))])
    refine own_go (fun t k => XS.iloadN X14.here hx rfl (hb hby d_method_4_28) rfl k) ?_
    show Go _ _ _ _ _ T14 (mkF m 29 #[.val (.int q0), .val (.int q1), .val (.int q2), .val (.int q3), .val (.int q4), .val (.int q5), .val (.int q6), .val (.int q7), .val (.int q8), .val (.int q9), .unset] [(.int q0), (.int ((own_in q0 q2 q3) + (own_in q0 q4 q5)))])
    refine own_go (fun t k => XS.iload X14.here hx rfl (hb hby d_method_4_29) rfl k) ?_
    show Go _ _ _ _ _ T14 (mkF m 31 #[.val (.int q0), .val (.int q1), .val (.int q2), .val (.int q3), .val (.int q4), .val (.int q5), .val (.int q6), .val (.int q7), .val (.int q8), .val (.int q9), .unset] [(.int q6), (.int q0), (.int ((own_in q0 q2 q3) + (own_in q0 q4 q5)))])
    refine own_go (fun t k => XS.iload X14.here hx rfl (hb hby d_method_4_31) rfl k) ?_
    show Go _ _ _ _ _ T14 (mkF m 33 #[.val (.int q0), .val (.int q1), .val (.int q2), .val (.int q3), .val (.int q4), .val (.int q5), .val (.int q6), .val (.int q7), .val (.int q8), .val (.int q9), .unset] [(.int q7), (.int q6), (.int q0), (.int ((own_in q0 q2 q3) + (own_in q0 q4 q5)))])
    refine own_callS X14 hx hZ (y := (⟨"com/example/trailworks/trailworks/works/CrewsFreePinLaw", "in", "(III)I"⟩ : MethodName)) hown (hw _ (List.mem_of_getElem? (i := 35) rfl)) (hw _ (List.mem_of_getElem? (i := 36) rfl)) (hw _ (List.mem_of_getElem? (i := 33) rfl)) (hw _ (List.mem_of_getElem? (i := 37) rfl)) (by decide) (rm_in l Z a0 hw [] q0 q6 q7 (own_in q0 q6 q7) h0 n0 hn0  rfl) e14 (by rw [hml]; rfl) (argsL := [(.int q0), (.int q6), (.int q7)]) (rest := [(.int ((own_in q0 q2 q3) + (own_in q0 q4 q5)))]) rfl rfl (lenOf own_pd0 rfl) (W := 1) (Nat.le_of_eq rfl) (by decide) (by decide) (hb hby d_method_4_33) (by decide) (by decide) ?_
    intro v15 T15 L15 X15 q15
    obtain ⟨rfl, N15q, e15⟩ := q15
    have N15 := Fr.app N14 N15q
    show Go _ _ _ _ _ T15 (mkF m 36 #[.val (.int q0), .val (.int q1), .val (.int q2), .val (.int q3), .val (.int q4), .val (.int q5), .val (.int q6), .val (.int q7), .val (.int q8), .val (.int q9), .unset] [(.int (own_in q0 q6 q7)), (.int ((own_in q0 q2 q3) + (own_in q0 q4 q5)))])
    refine own_go (fun t k => XS.iadd X15.here hx rfl (hb hby d_method_4_36) rfl k) ?_
    show Go _ _ _ _ _ T15 (mkF m 37 #[.val (.int q0), .val (.int q1), .val (.int q2), .val (.int q3), .val (.int q4), .val (.int q5), .val (.int q6), .val (.int q7), .val (.int q8), .val (.int q9), .unset] [(.int (((own_in q0 q2 q3) + (own_in q0 q4 q5)) + (own_in q0 q6 q7)))])
    refine own_go (fun t k => XS.istore X15.here hx rfl (hb hby d_method_4_37) rfl (l' := #[.val (.int q0), .val (.int q1), .val (.int q2), .val (.int q3), .val (.int q4), .val (.int q5), .val (.int q6), .val (.int q7), .val (.int q8), .val (.int q9), .val (.int (((own_in q0 q2 q3) + (own_in q0 q4 q5)) + (own_in q0 q6 q7)))]) rfl k) ?_
    show Go _ _ _ _ _ T15 (mkF m 39 #[.val (.int q0), .val (.int q1), .val (.int q2), .val (.int q3), .val (.int q4), .val (.int q5), .val (.int q6), .val (.int q7), .val (.int q8), .val (.int q9), .val (.int (((own_in q0 q2 q3) + (own_in q0 q4 q5)) + (own_in q0 q6 q7)))] [])
    refine own_go (fun t k => XS.iload X15.here hx rfl (hb hby d_method_4_39) rfl k) ?_
    show Go _ _ _ _ _ T15 (mkF m 41 #[.val (.int q0), .val (.int q1), .val (.int q2), .val (.int q3), .val (.int q4), .val (.int q5), .val (.int q6), .val (.int q7), .val (.int q8), .val (.int q9), .val (.int (((own_in q0 q2 q3) + (own_in q0 q4 q5)) + (own_in q0 q6 q7)))] [(.int (((own_in q0 q2 q3) + (own_in q0 q4 q5)) + (own_in q0 q6 q7)))])
    refine own_go (fun t k => XS.iloadN X15.here hx rfl (hb hby d_method_4_41) rfl k) ?_
    show Go _ _ _ _ _ T15 (mkF m 42 #[.val (.int q0), .val (.int q1), .val (.int q2), .val (.int q3), .val (.int q4), .val (.int q5), .val (.int q6), .val (.int q7), .val (.int q8), .val (.int q9), .val (.int (((own_in q0 q2 q3) + (own_in q0 q4 q5)) + (own_in q0 q6 q7)))] [(.int q1), (.int (((own_in q0 q2 q3) + (own_in q0 q4 q5)) + (own_in q0 q6 q7)))])
    refine own_icmpM ((((own_in q0 q2 q3) + (own_in q0 q4 q5)) + (own_in q0 q6 q7)) < q1) X15 hx (hb hby d_method_4_42) (own_ge _ _) (by decide) (by decide) (pc' := 49) (fun hc16 => ?_) (fun hc16 => ?_)
    · skip
      show Go _ _ _ _ _ T15 (mkF m 49 #[.val (.int q0), .val (.int q1), .val (.int q2), .val (.int q3), .val (.int q4), .val (.int q5), .val (.int q6), .val (.int q7), .val (.int q8), .val (.int q9), .val (.int (((own_in q0 q2 q3) + (own_in q0 q4 q5)) + (own_in q0 q6 q7)))] [])
      refine own_go (fun t k => XS.iconst X15.here hx rfl (hb hby d_method_4_49) k) ?_
      show Go _ _ _ _ _ T15 (mkF m 50 #[.val (.int q0), .val (.int q1), .val (.int q2), .val (.int q3), .val (.int q4), .val (.int q5), .val (.int q6), .val (.int q7), .val (.int q8), .val (.int q9), .val (.int (((own_in q0 q2 q3) + (own_in q0 q4 q5)) + (own_in q0 q6 q7)))] [(.int (0 : Int32))])
      refine own_retN X15 hx (own_lvN X15 hlk (by decide) (by decide)) (t := .boolean) hret (by simp) (hb hby d_method_4_50) ?_
      exact ⟨(by rw [← hr, own_ok, if_neg hc12, if_neg hc16]; try rfl), N15, e15⟩
    · skip
      show Go _ _ _ _ _ T15 (mkF m 45 #[.val (.int q0), .val (.int q1), .val (.int q2), .val (.int q3), .val (.int q4), .val (.int q5), .val (.int q6), .val (.int q7), .val (.int q8), .val (.int q9), .val (.int (((own_in q0 q2 q3) + (own_in q0 q4 q5)) + (own_in q0 q6 q7)))] [])
      refine own_go (fun t k => XS.iconst X15.here hx rfl (hb hby d_method_4_45) k) ?_
      show Go _ _ _ _ _ T15 (mkF m 46 #[.val (.int q0), .val (.int q1), .val (.int q2), .val (.int q3), .val (.int q4), .val (.int q5), .val (.int q6), .val (.int q7), .val (.int q8), .val (.int q9), .val (.int (((own_in q0 q2 q3) + (own_in q0 q4 q5)) + (own_in q0 q6 q7)))] [(.int (1 : Int32))])
      refine own_go (fun t k => XS.goto X15.here hx rfl (pc0 := 46) (pc' := 50) rfl (hb hby d_method_4_46) (by decide) (by decide) k) ?_
      show Go _ _ _ _ _ T15 (mkF m 50 #[.val (.int q0), .val (.int q1), .val (.int q2), .val (.int q3), .val (.int q4), .val (.int q5), .val (.int q6), .val (.int q7), .val (.int q8), .val (.int q9), .val (.int (((own_in q0 q2 q3) + (own_in q0 q4 q5)) + (own_in q0 q6 q7)))] [(.int (1 : Int32))])
      refine own_retN X15 hx (own_lvN X15 hlk (by decide) (by decide)) (t := .boolean) hret (by simp) (hb hby d_method_4_50) ?_
      exact ⟨(by rw [← hr, own_ok, if_neg hc12, if_pos hc16]; try rfl), N15, e15⟩
  · skip
    show Go _ _ _ _ _ T11 (mkF m 11 #[.val (.int q0), .val (.int q1), .val (.int q2), .val (.int q3), .val (.int q4), .val (.int q5), .val (.int q6), .val (.int q7), .val (.int q8), .val (.int q9), .unset] [])
    refine own_go (fun t k => XS.iconst X11.here hx rfl (hb hby d_method_4_11) k) ?_
    show Go _ _ _ _ _ T11 (mkF m 12 #[.val (.int q0), .val (.int q1), .val (.int q2), .val (.int q3), .val (.int q4), .val (.int q5), .val (.int q6), .val (.int q7), .val (.int q8), .val (.int q9), .unset] [(.int (1 : Int32))])
    refine own_retN X11 hx (own_lvN X11 hlk (by decide) (by decide)) (t := .boolean) hret (by simp) (hb hby d_method_4_12) ?_
    exact ⟨(by rw [← hr, own_ok, if_pos hc12]; try rfl), N11, e11⟩
def OwnSd (s d : Int32) : Prop := (s = 0 ∧ d = 0) ∨ (s = 0 ∧ d = 1) ∨ (s = 0 ∧ d = 2) ∨ (s = 0 ∧ d = 3) ∨ (s = 0 ∧ d = 4) ∨ (s = 1 ∧ d = 0) ∨ (s = 1 ∧ d = 1) ∨ (s = 1 ∧ d = 2) ∨ (s = 1 ∧ d = 3) ∨ (s = 2 ∧ d = 0) ∨ (s = 2 ∧ d = 1) ∨ (s = 2 ∧ d = 2) ∨ (s = 3 ∧ d = 0) ∨ (s = 3 ∧ d = 1)
def own_okp (p t cnt qs qd : Int32) : Bool := decide (own_in p qs qd = 0) || decide (t < cnt)
def own_free (t0 t1 t2 t3 cnt qs qd : Int32) : Int32 := if own_okp 0 t0 cnt qs qd = true ∧ own_okp 1 t1 cnt qs qd = true ∧ own_okp 2 t2 cnt qs qd = true ∧ own_okp 3 t3 cnt qs qd = true then 1 else 0
theorem own_in01 (p s d : Int32) : own_in p s d = 0 ∨ own_in p s d = 1 := by
  unfold own_in
  split
  · exact Or.inl rfl
  · split
    · exact Or.inr rfl
    · exact Or.inl rfl
theorem own_ok_iff (p cnt s1 d1 s2 d2 s3 d3 qs qd : Int32) : ¬ own_ok p cnt s1 d1 s2 d2 s3 d3 qs qd = 0 ↔ own_okp p ((((0 : Int32) + own_in p s1 d1) + own_in p s2 d2) + own_in p s3 d3) cnt qs qd = true := by
  unfold own_ok own_okp
  rw [Int32.zero_add, Bool.or_eq_true, decide_eq_true_eq, decide_eq_true_eq]
  by_cases h1 : own_in p qs qd = 0
  · rw [if_pos h1]; exact ⟨fun _ => Or.inl h1, fun _ => by decide⟩
  · rw [if_neg h1]
    by_cases h2 : own_in p s1 d1 + own_in p s2 d2 + own_in p s3 d3 < cnt
    · rw [if_pos h2]; exact ⟨fun _ => Or.inr h2, fun _ => by decide⟩
    · rw [if_neg h2]; exact ⟨fun q => absurd rfl q, fun q => (q.elim h1 h2).elim⟩
theorem own_fin1 (cnt s1 d1 s2 d2 s3 d3 qs qd : Int32) (h0 : ¬ own_ok 0 cnt s1 d1 s2 d2 s3 d3 qs qd = 0) (h1 : ¬ own_ok 1 cnt s1 d1 s2 d2 s3 d3 qs qd = 0) (h2 : ¬ own_ok 2 cnt s1 d1 s2 d2 s3 d3 qs qd = 0) (h3 : ¬ own_ok 3 cnt s1 d1 s2 d2 s3 d3 qs qd = 0) :
    own_free ((((0 : Int32) + own_in 0 s1 d1) + own_in 0 s2 d2) + own_in 0 s3 d3) ((((0 : Int32) + own_in 1 s1 d1) + own_in 1 s2 d2) + own_in 1 s3 d3) ((((0 : Int32) + own_in 2 s1 d1) + own_in 2 s2 d2) + own_in 2 s3 d3) ((((0 : Int32) + own_in 3 s1 d1) + own_in 3 s2 d2) + own_in 3 s3 d3) cnt qs qd = 1 :=
  if_pos ⟨(own_ok_iff ..).mp h0, (own_ok_iff ..).mp h1, (own_ok_iff ..).mp h2, (own_ok_iff ..).mp h3⟩
theorem own_fin0 (cnt s1 d1 s2 d2 s3 d3 qs qd : Int32) (h : own_ok 0 cnt s1 d1 s2 d2 s3 d3 qs qd = 0 ∨ own_ok 1 cnt s1 d1 s2 d2 s3 d3 qs qd = 0 ∨ own_ok 2 cnt s1 d1 s2 d2 s3 d3 qs qd = 0 ∨ own_ok 3 cnt s1 d1 s2 d2 s3 d3 qs qd = 0) :
    own_free ((((0 : Int32) + own_in 0 s1 d1) + own_in 0 s2 d2) + own_in 0 s3 d3) ((((0 : Int32) + own_in 1 s1 d1) + own_in 1 s2 d2) + own_in 1 s3 d3) ((((0 : Int32) + own_in 2 s1 d1) + own_in 2 s2 d2) + own_in 2 s3 d3) ((((0 : Int32) + own_in 3 s1 d1) + own_in 3 s2 d2) + own_in 3 s3 d3) cnt qs qd = 0 := by
  refine if_neg fun q => ?_
  obtain ⟨q0, q1, q2, q3⟩ := q
  rcases h with h | h | h | h
  · exact (own_ok_iff ..).mpr q0 h
  · exact (own_ok_iff ..).mpr q1 h
  · exact (own_ok_iff ..).mpr q2 h
  · exact (own_ok_iff ..).mpr q3 h
theorem own_cnt (x : Int32) : ¬ (((x &&& (3 : Int32)) % (3 : Int32)) + (1 : Int32)) < (1 : Int32) := by
  rcases own_and3 x with h | h | h | h <;> rw [h] <;> decide
theorem own_nz5 (x : Int32) : ((5 : Int32) - (x &&& (3 : Int32))) ≠ 0 := by
  rcases own_and3 x with h | h | h | h <;> rw [h] <;> decide
theorem own_sdof (x : Int32) : OwnSd (x &&& (3 : Int32)) (((x.toUInt32 >>> ((2 : Int32) &&& 31).toUInt32).toInt32 &&& (7 : Int32)) % ((5 : Int32) - (x &&& (3 : Int32)))) := by
  have hm := c_and ((x.toUInt32 >>> ((2 : Int32) &&& 31).toUInt32).toInt32) (7 : Int32) (by decide)
  generalize ((x.toUInt32 >>> ((2 : Int32) &&& 31).toUInt32).toInt32 &&& (7 : Int32)) = y at hm ⊢
  have key : ∀ (s : Int32) (n : Int), (5 - s : Int32).toInt = n → 0 < n → 0 ≤ (y % (5 - s)).toInt ∧ (y % (5 - s)).toInt < n := by
    intro s n hn hp
    have := (c_irem y (5 - s) n hn).1 hm.1
    have h1 := Int.emod_nonneg y.toInt (b := n) (by omega)
    have h2 := Int.emod_lt_of_pos y.toInt hp
    omega
  have lit : ∀ (z : Int32) (k : Int), z.toInt = k → ∀ j : Int32, j.toInt = k → z = j := fun z k h j hj => own_int (h.trans hj.symm)
  rcases own_and3 x with h | h | h | h <;> rw [h]
  · obtain ⟨a, b⟩ := key 0 5 (by decide) (by decide)
    generalize y % (5 - 0) = d at a b ⊢
    have q : d.toInt = 0 ∨ d.toInt = 1 ∨ d.toInt = 2 ∨ d.toInt = 3 ∨ d.toInt = 4 := by omega
    rcases q with q | q | q | q | q
    · obtain rfl : d = 0 := lit d _ q 0 (by decide)
      unfold OwnSd
      decide
    · obtain rfl : d = 1 := lit d _ q 1 (by decide)
      unfold OwnSd
      decide
    · obtain rfl : d = 2 := lit d _ q 2 (by decide)
      unfold OwnSd
      decide
    · obtain rfl : d = 3 := lit d _ q 3 (by decide)
      unfold OwnSd
      decide
    · obtain rfl : d = 4 := lit d _ q 4 (by decide)
      unfold OwnSd
      decide
  · obtain ⟨a, b⟩ := key 1 4 (by decide) (by decide)
    generalize y % (5 - 1) = d at a b ⊢
    have q : d.toInt = 0 ∨ d.toInt = 1 ∨ d.toInt = 2 ∨ d.toInt = 3 := by omega
    rcases q with q | q | q | q
    · obtain rfl : d = 0 := lit d _ q 0 (by decide)
      unfold OwnSd
      decide
    · obtain rfl : d = 1 := lit d _ q 1 (by decide)
      unfold OwnSd
      decide
    · obtain rfl : d = 2 := lit d _ q 2 (by decide)
      unfold OwnSd
      decide
    · obtain rfl : d = 3 := lit d _ q 3 (by decide)
      unfold OwnSd
      decide
  · obtain ⟨a, b⟩ := key 2 3 (by decide) (by decide)
    generalize y % (5 - 2) = d at a b ⊢
    have q : d.toInt = 0 ∨ d.toInt = 1 ∨ d.toInt = 2 := by omega
    rcases q with q | q | q
    · obtain rfl : d = 0 := lit d _ q 0 (by decide)
      unfold OwnSd
      decide
    · obtain rfl : d = 1 := lit d _ q 1 (by decide)
      unfold OwnSd
      decide
    · obtain rfl : d = 2 := lit d _ q 2 (by decide)
      unfold OwnSd
      decide
  · obtain ⟨a, b⟩ := key 3 2 (by decide) (by decide)
    generalize y % (5 - 3) = d at a b ⊢
    have q : d.toInt = 0 ∨ d.toInt = 1 := by omega
    rcases q with q | q
    · obtain rfl : d = 0 := lit d _ q 0 (by decide)
      unfold OwnSd
      decide
    · obtain rfl : d = 1 := lit d _ q 1 (by decide)
      unfold OwnSd
      decide

theorem d_prog_52_method_2_0 : Jvm.ClassFile.decode prog_52_method_2_code 0 = .ok (.iload_n 0, 1) := by decide +kernel
theorem d_prog_52_method_2_1 : Jvm.ClassFile.decode prog_52_method_2_code 1 = .ok (.iconst 1, 1) := by decide +kernel
theorem d_prog_52_method_2_2 : Jvm.ClassFile.decode prog_52_method_2_code 2 = .ok (.if_icmp .ge 17, 3) := by decide +kernel
theorem d_prog_52_method_2_19 : Jvm.ClassFile.decode prog_52_method_2_code 19 = .ok (.return_, 1) := by decide +kernel
theorem own_pn1 : plainName "com/example/trailworks/trailworks/works/Crews" = true := by first | (simp [plainName, overriddenIn]; done) | decide +kernel
theorem own_ef_rm_check (m : MethodId) (x0 : Int32) : entryFrame m #[(.int x0)] 1 = mkF m 0 #[.val (.int x0)] [] := by first | (simp [entryFrame, mkF, argsToLocals, Value.category]; done) | rfl
set_option maxRecDepth 65536 in
set_option maxHeartbeats 40000000 in
theorem rm_check (l : Launch) (Z : State) (a0 : Array Value) (hw : ∀ d ∈ tables_1, d.before a0 Z = true) (ws : List Jvm.Cond) (p1 : Int32) (h0 : Heap) (n0 : Nat) (hn0 : n0 ≤ h0.size) (hp : ¬ p1 < (1 : Int32)) :
    OwnMet l Z (⟨"com/example/trailworks/trailworks/works/Crews", "check", "(I)V"⟩ : MethodName) prog_52_method_2_code 1 none ws ({ frames := 0, cells := 0, slots := 0, locals := 0 } : Room) #[(.int p1)] h0 (OwnP none h0 n0) := by
  refine own_body (plainFor_of_name own_pn1) ?_
  intro p e s m below meth c s₁ X0 hx hby hml hret hlk hown0 hnm hZ e0 hs0
  have hown : s.vm.findClass "com/example/trailworks/trailworks/works/Crews" = some m.cls := hown0
  have N0 := Fr.nil n0
  refine own_entry (own_ef_rm_check m p1) ?_
  show Go _ _ _ _ _ s₁ (mkF m 0 #[.val (.int p1)] [])
  refine own_go (fun t k => XS.iloadN X0.here hx rfl (hb hby d_prog_52_method_2_0) rfl k) ?_
  show Go _ _ _ _ _ s₁ (mkF m 1 #[.val (.int p1)] [(.int p1)])
  refine own_go (fun t k => XS.iconst X0.here hx rfl (hb hby d_prog_52_method_2_1) k) ?_
  show Go _ _ _ _ _ s₁ (mkF m 2 #[.val (.int p1)] [(.int (1 : Int32)), (.int p1)])
  refine own_go (fun t k => XS.icmpYes X0.here hx rfl (pc0 := 2) (pc' := 19) rfl (hb hby d_prog_52_method_2_2) rfl (flt hp).2.1 (by decide) (by decide) k) ?_
  show Go _ _ _ _ _ s₁ (mkF m 19 #[.val (.int p1)] [])
  refine own_retV X0 hx (own_lvN X0 hlk (by decide) (by decide)) hret (hb hby d_prog_52_method_2_19) ?_
  exact ⟨rfl, N0, e0⟩
theorem d_prog_57_method_5_0 : Jvm.ClassFile.decode prog_57_method_5_code 0 = .ok (.iload_n 0, 1) := by decide +kernel
theorem d_prog_57_method_5_1 : Jvm.ClassFile.decode prog_57_method_5_code 1 = .ok (.iconst 1, 1) := by decide +kernel
theorem d_prog_57_method_5_2 : Jvm.ClassFile.decode prog_57_method_5_code 2 = .ok (.if_icmp .ge 17, 3) := by decide +kernel
theorem d_prog_57_method_5_19 : Jvm.ClassFile.decode prog_57_method_5_code 19 = .ok (.return_, 1) := by decide +kernel
theorem own_pn2 : plainName "com/example/trailworks/trailworks/works/Work" = true := by first | (simp [plainName, overriddenIn]; done) | decide +kernel
theorem own_ef_rm_checkh (m : MethodId) (x0 : Int32) : entryFrame m #[(.int x0)] 1 = mkF m 0 #[.val (.int x0)] [] := by first | (simp [entryFrame, mkF, argsToLocals, Value.category]; done) | rfl
set_option maxRecDepth 65536 in
set_option maxHeartbeats 40000000 in
theorem rm_checkh (l : Launch) (Z : State) (a0 : Array Value) (hw : ∀ d ∈ tables_1, d.before a0 Z = true) (ws : List Jvm.Cond) (p1 : Int32) (h0 : Heap) (n0 : Nat) (hn0 : n0 ≤ h0.size) (hp : ¬ p1 < (1 : Int32)) :
    OwnMet l Z (⟨"com/example/trailworks/trailworks/works/Work", "checkHorizon", "(I)V"⟩ : MethodName) prog_57_method_5_code 1 none ws ({ frames := 0, cells := 0, slots := 0, locals := 0 } : Room) #[(.int p1)] h0 (OwnP none h0 n0) := by
  refine own_body (plainFor_of_name own_pn2) ?_
  intro p e s m below meth c s₁ X0 hx hby hml hret hlk hown0 hnm hZ e0 hs0
  have hown : s.vm.findClass "com/example/trailworks/trailworks/works/Work" = some m.cls := hown0
  have N0 := Fr.nil n0
  refine own_entry (own_ef_rm_checkh m p1) ?_
  show Go _ _ _ _ _ s₁ (mkF m 0 #[.val (.int p1)] [])
  refine own_go (fun t k => XS.iloadN X0.here hx rfl (hb hby d_prog_57_method_5_0) rfl k) ?_
  show Go _ _ _ _ _ s₁ (mkF m 1 #[.val (.int p1)] [(.int p1)])
  refine own_go (fun t k => XS.iconst X0.here hx rfl (hb hby d_prog_57_method_5_1) k) ?_
  show Go _ _ _ _ _ s₁ (mkF m 2 #[.val (.int p1)] [(.int (1 : Int32)), (.int p1)])
  refine own_go (fun t k => XS.icmpYes X0.here hx rfl (pc0 := 2) (pc' := 19) rfl (hb hby d_prog_57_method_5_2) rfl (flt hp).2.1 (by decide) (by decide) k) ?_
  show Go _ _ _ _ _ s₁ (mkF m 19 #[.val (.int p1)] [])
  refine own_retV X0 hx (own_lvN X0 hlk (by decide) (by decide)) hret (hb hby d_prog_57_method_5_19) ?_
  exact ⟨rfl, N0, e0⟩
def OwnQ_init (Z : State) (a1 : Addr) (p2 : Int32) (h0 : Heap) (n0 : Nat) (v : Option Value) (h : Heap) (L : List Loc) : Prop := v = none ∧ Fr n0 L ∧ Keep h0 h [a1] ∧ Exa Z h a1 "com/example/trailworks/trailworks/works/Crews" ∧ Fld Z h a1 "com/example/trailworks/trailworks/works/Crews" "m_count" "I" (.int p2) ∧ ∃ (b : Addr) (k : ClassId), n0 ≤ b ∧ ¬ a1 = b ∧ Fld Z h a1 "com/example/trailworks/trailworks/works/Crews" "m_taken" "[I" (.ref b) ∧ Arv Z h b k .int (4 : Int32) [(.int (0 : Int32)), (.int (0 : Int32)), (.int (0 : Int32)), (.int (0 : Int32))] (.int (0 : Int32))
theorem d_prog_52_method_1_0 : Jvm.ClassFile.decode prog_52_method_1_code 0 = .ok (.aload_n 0, 1) := by decide +kernel
theorem d_prog_52_method_1_1 : Jvm.ClassFile.decode prog_52_method_1_code 1 = .ok (.invokespecial 1, 3) := by decide +kernel
theorem d_prog_52_method_1_4 : Jvm.ClassFile.decode prog_52_method_1_code 4 = .ok (.iload_n 1, 1) := by decide +kernel
theorem d_prog_52_method_1_5 : Jvm.ClassFile.decode prog_52_method_1_code 5 = .ok (.invokestatic 7, 3) := by decide +kernel
theorem own_pd1 : parseMethodDescriptor "(I)V" = some ⟨[.int], none⟩ := by decide +kernel
theorem d_prog_52_method_1_8 : Jvm.ClassFile.decode prog_52_method_1_code 8 = .ok (.iload_n 2, 1) := by decide +kernel
theorem d_prog_52_method_1_9 : Jvm.ClassFile.decode prog_52_method_1_code 9 = .ok (.invokestatic 13, 3) := by decide +kernel
theorem d_prog_52_method_1_12 : Jvm.ClassFile.decode prog_52_method_1_code 12 = .ok (.aload_n 0, 1) := by decide +kernel
theorem d_prog_52_method_1_13 : Jvm.ClassFile.decode prog_52_method_1_code 13 = .ok (.iload_n 2, 1) := by decide +kernel
theorem d_prog_52_method_1_14 : Jvm.ClassFile.decode prog_52_method_1_code 14 = .ok (.putfield 18, 3) := by decide +kernel
theorem d_prog_52_method_1_17 : Jvm.ClassFile.decode prog_52_method_1_code 17 = .ok (.aload_n 0, 1) := by decide +kernel
theorem d_prog_52_method_1_18 : Jvm.ClassFile.decode prog_52_method_1_code 18 = .ok (.iload_n 1, 1) := by decide +kernel
theorem d_prog_52_method_1_19 : Jvm.ClassFile.decode prog_52_method_1_code 19 = .ok (.newarray .int, 2) := by decide +kernel
theorem d_prog_52_method_1_21 : Jvm.ClassFile.decode prog_52_method_1_code 21 = .ok (.putfield 22, 3) := by decide +kernel
theorem d_prog_52_method_1_24 : Jvm.ClassFile.decode prog_52_method_1_code 24 = .ok (.return_, 1) := by decide +kernel
theorem own_ef_rm_init (m : MethodId) (x0 : Addr) (x2 : Int32) : entryFrame m #[(.ref x0), (.int (4 : Int32)), (.int x2)] 3 = mkF m 0 #[.val (.ref x0), .val (.int (4 : Int32)), .val (.int x2)] [] := by first | (simp [entryFrame, mkF, argsToLocals, Value.category]; done) | rfl
set_option maxRecDepth 65536 in
set_option maxHeartbeats 40000000 in
theorem rm_init (l : Launch) (Z : State) (a0 : Array Value) (hw : ∀ d ∈ tables_1, d.before a0 Z = true) (ws : List Jvm.Cond) (a1 : Addr) (p2 : Int32) (h0 : Heap) (n0 : Nat) (hn0 : n0 ≤ h0.size) (hp : ¬ p2 < (1 : Int32)) (E_a1 : Exa Z h0 a1 "com/example/trailworks/trailworks/works/Crews") (g_a1 : n0 ≤ a1) (F_c : Fld Z h0 a1 "com/example/trailworks/trailworks/works/Crews" "m_count" "I" (.int (0 : Int32))) (F_t : Fld Z h0 a1 "com/example/trailworks/trailworks/works/Crews" "m_taken" "[I" .null) :
    OwnMet l Z (⟨"com/example/trailworks/trailworks/works/Crews", "<init>", "(II)V"⟩ : MethodName) prog_52_method_1_code 3 none ws ({ frames := 1, cells := 1, slots := 4, locals := 12 } : Room) #[(.ref a1), (.int (4 : Int32)), (.int p2)] h0 (OwnQ_init Z a1 p2 h0 n0) := by
  refine own_body (plainFor_of_name own_pn1) ?_
  intro p e s m below meth c s₁ X0 hx hby hml hret hlk hown0 hnm hZ e0 hs0
  have hown : s.vm.findClass "com/example/trailworks/trailworks/works/Crews" = some m.cls := hown0
  have N0 := Fr.nil n0
  refine own_entry (own_ef_rm_init m a1 p2) ?_
  have K0 := Keep.refl h0 [a1]
  show Go _ _ _ _ _ s₁ (mkF m 0 #[.val (.ref a1), .val (.int (4 : Int32)), .val (.int p2)] [])
  refine own_go (fun t k => XS.aloadN X0.here hx rfl (hb hby d_prog_52_method_1_0) rfl rfl k) ?_
  show Go _ _ _ _ _ s₁ (mkF m 1 #[.val (.ref a1), .val (.int (4 : Int32)), .val (.int p2)] [(.ref a1)])
  obtain ⟨T17, X17, e17, st17⟩ := initO X0 hx hZ hown (hw _ (List.mem_of_getElem? (i := 6) rfl)) (hw _ (List.mem_of_getElem? (i := 7) rfl)) (hw _ (List.mem_of_getElem? (i := 8) rfl)) e0 (g := (mkF m 1 #[.val (.ref a1), .val (.int (4 : Int32)), .val (.int p2)] [(.ref a1)])) rfl (by rw [hml]; rfl) rfl (hb hby d_prog_52_method_1_1) (by decide) (W := 0) (by show 2 * 0 + _ ≤ _; exact Nat.le_of_eq rfl) (by decide)
  refine own_go (fun t k => st17 t k) ?_
  show Go _ _ _ _ _ T17 (mkF m 4 #[.val (.ref a1), .val (.int (4 : Int32)), .val (.int p2)] [])
  refine own_go (fun t k => XS.iloadN X17.here hx rfl (hb hby d_prog_52_method_1_4) rfl k) ?_
  show Go _ _ _ _ _ T17 (mkF m 5 #[.val (.ref a1), .val (.int (4 : Int32)), .val (.int p2)] [(.int (4 : Int32))])
  refine own_callS X17 hx hZ (y := (⟨"com/example/trailworks/trailworks/works/Work", "checkHorizon", "(I)V"⟩ : MethodName)) hown (hw _ (List.mem_of_getElem? (i := 9) rfl)) (hw _ (List.mem_of_getElem? (i := 10) rfl)) (hw _ (List.mem_of_getElem? (i := 11) rfl)) (hw _ (List.mem_of_getElem? (i := 12) rfl)) (by decide) (rm_checkh l Z a0 hw [] (4 : Int32) h0 n0 hn0 (by decide)) e17 (by rw [hml]; rfl) (argsL := [(.int (4 : Int32))]) (rest := []) rfl rfl (lenOf own_pd1 rfl) (W := 0) (Nat.le_of_eq rfl) (by decide) (by decide) (hb hby d_prog_52_method_1_5) (by decide) (by decide) ?_
  intro v18 T18 L18 X18 q18
  obtain ⟨rfl, N18q, e18⟩ := q18
  have N18 := Fr.app N0 N18q
  show Go _ _ _ _ _ T18 (mkF m 8 #[.val (.ref a1), .val (.int (4 : Int32)), .val (.int p2)] [])
  refine own_go (fun t k => XS.iloadN X18.here hx rfl (hb hby d_prog_52_method_1_8) rfl k) ?_
  show Go _ _ _ _ _ T18 (mkF m 9 #[.val (.ref a1), .val (.int (4 : Int32)), .val (.int p2)] [(.int p2)])
  refine own_callS X18 hx hZ (y := (⟨"com/example/trailworks/trailworks/works/Crews", "check", "(I)V"⟩ : MethodName)) hown (hw _ (List.mem_of_getElem? (i := 13) rfl)) (hw _ (List.mem_of_getElem? (i := 14) rfl)) (hw _ (List.mem_of_getElem? (i := 2) rfl)) (hw _ (List.mem_of_getElem? (i := 15) rfl)) (by decide) (rm_check l Z a0 hw [] p2 h0 n0 hn0 hp) e18 (by rw [hml]; rfl) (argsL := [(.int p2)]) (rest := []) rfl rfl (lenOf own_pd1 rfl) (W := 0) (Nat.le_of_eq rfl) (by decide) (by decide) (hb hby d_prog_52_method_1_9) (by decide) (by decide) ?_
  intro v19 T19 L19 X19 q19
  obtain ⟨rfl, N19q, e19⟩ := q19
  have N19 := Fr.app N18 N19q
  show Go _ _ _ _ _ T19 (mkF m 12 #[.val (.ref a1), .val (.int (4 : Int32)), .val (.int p2)] [])
  refine own_go (fun t k => XS.aloadN X19.here hx rfl (hb hby d_prog_52_method_1_12) rfl rfl k) ?_
  show Go _ _ _ _ _ T19 (mkF m 13 #[.val (.ref a1), .val (.int (4 : Int32)), .val (.int p2)] [(.ref a1)])
  refine own_go (fun t k => XS.iloadN X19.here hx rfl (hb hby d_prog_52_method_1_13) rfl k) ?_
  show Go _ _ _ _ _ T19 (mkF m 14 #[.val (.ref a1), .val (.int (4 : Int32)), .val (.int p2)] [(.int p2), (.ref a1)])
  obtain ⟨T20, h20, X20, e20, W20, st20⟩ := putF X19 hx hZ hown (host := "") (Or.inl (hw _ (List.mem_of_getElem? (i := 16) rfl))) Via.refl e19 F_c E_a1 (Or.inr ⟨(hw _ (List.mem_of_getElem? (i := 17) rfl)), rfl, hnm⟩) (hw _ (List.mem_of_getElem? (i := 1) rfl)) (ty := .int) (by decide) rfl rfl (g := (mkF m 14 #[.val (.ref a1), .val (.int (4 : Int32)), .val (.int p2)] [(.int p2), (.ref a1)])) rfl rfl (hb hby d_prog_52_method_1_14)
  replace E_a1 := E_a1.wr W20
  replace F_c := F_c.same W20
  replace F_t := F_t.other W20 (Or.inr (slot_ne (Or.inr (hw _ (List.mem_of_getElem? (i := 20) rfl))) (Or.inr (hw _ (List.mem_of_getElem? (i := 17) rfl))) (by decide) (t := (.array .int)) (t' := .int) (by decide) (by decide)))
  have N20 := Fr.snoc X20 N19 g_a1
  have hn20 : n0 ≤ h20.size := Nat.le_trans hn0 (Keep.of_wr W20).1
  have K20 := K0.wr W20 (Or.inl (List.mem_of_getElem? (i := 0) rfl))
  refine own_go (fun t k => st20 t k) ?_
  show Go _ _ _ _ _ T20 (mkF m 17 #[.val (.ref a1), .val (.int (4 : Int32)), .val (.int p2)] [])
  refine own_go (fun t k => XS.aloadN X20.here hx rfl (hb hby d_prog_52_method_1_17) rfl rfl k) ?_
  show Go _ _ _ _ _ T20 (mkF m 18 #[.val (.ref a1), .val (.int (4 : Int32)), .val (.int p2)] [(.ref a1)])
  refine own_go (fun t k => XS.iloadN X20.here hx rfl (hb hby d_prog_52_method_1_18) rfl k) ?_
  show Go _ _ _ _ _ T20 (mkF m 19 #[.val (.ref a1), .val (.int (4 : Int32)), .val (.int p2)] [(.int (4 : Int32)), (.ref a1)])
  obtain ⟨T21, h21, k21, X21, e21, E21, A21, st21⟩ := newP X20 hx hZ (hw _ (List.mem_of_getElem? (i := 18) rfl)) e20 (g := (mkF m 19 #[.val (.ref a1), .val (.int (4 : Int32)), .val (.int p2)] [(.int (4 : Int32)), (.ref a1)])) rfl (hb hby d_prog_52_method_1_19) rfl (by decide) (cap := 4) (by decide) (by decide) (by decide) (by decide)
  obtain ⟨b21, g21⟩ : ∃ z, z = h20.size := ⟨_, rfl⟩
  rw [← g21] at A21 st21
  have ne_a1_b21 : ¬ a1 = b21 := Nat.ne_of_lt (by rw [g21]; exact E_a1.lt)
  replace E_a1 := E_a1.ext E21
  replace F_c := F_c.ext E21
  replace F_t := F_t.ext E21
  have g_b21 : n0 ≤ b21 := by rw [g21]; exact hn20
  have hn21 : n0 ≤ h21.size := Nat.le_trans hn20 E21.1
  have sz_b21 : h0.size ≤ b21 := by rw [g21]; exact K20.1
  have K21 := K20.ext E21
  refine own_go (fun t k => st21 t k) ?_
  have V21 : Arv Z h21 b21 k21 .int (4 : Int32) [(.int (0 : Int32)), (.int (0 : Int32)), (.int (0 : Int32)), (.int (0 : Int32))] (.int (0 : Int32)) := (Arv.new A21 (by decide)).pad (pad_rep [] (.int (0 : Int32)) 4)
  show Go _ _ _ _ _ T21 (mkF m 21 #[.val (.ref a1), .val (.int (4 : Int32)), .val (.int p2)] [(.ref b21), (.ref a1)])
  obtain ⟨T22, h22, X22, e22, W22, st22⟩ := putF X21 hx hZ hown (host := "") (Or.inl (hw _ (List.mem_of_getElem? (i := 19) rfl))) Via.refl e21 F_t E_a1 (Or.inr ⟨(hw _ (List.mem_of_getElem? (i := 20) rfl)), rfl, hnm⟩) (hw _ (List.mem_of_getElem? (i := 1) rfl)) (ty := (.array .int)) (by decide) rfl rfl (g := (mkF m 21 #[.val (.ref a1), .val (.int (4 : Int32)), .val (.int p2)] [(.ref b21), (.ref a1)])) rfl rfl (hb hby d_prog_52_method_1_21)
  replace E_a1 := E_a1.wr W22
  replace F_c := F_c.other W22 (Or.inr (slot_ne (Or.inr (hw _ (List.mem_of_getElem? (i := 17) rfl))) (Or.inr (hw _ (List.mem_of_getElem? (i := 20) rfl))) (by decide) (t := .int) (t' := (.array .int)) (by decide) (by decide)))
  replace F_t := F_t.same W22
  replace V21 := V21.other W22 (fun q => ne_a1_b21 q.symm)
  have N22 := Fr.snoc X22 N20 g_a1
  have hn22 : n0 ≤ h22.size := Nat.le_trans hn21 (Keep.of_wr W22).1
  have K22 := K21.wr W22 (Or.inl (List.mem_of_getElem? (i := 0) rfl))
  refine own_go (fun t k => st22 t k) ?_
  show Go _ _ _ _ _ T22 (mkF m 24 #[.val (.ref a1), .val (.int (4 : Int32)), .val (.int p2)] [])
  refine own_retV X22 hx (own_lvN X22 hlk (by decide) (by decide)) hret (hb hby d_prog_52_method_1_24) ?_
  rw [e22]
  exact ⟨rfl, N22, K22, E_a1, F_c, b21, _, g_b21, ne_a1_b21, F_t, V21⟩
def OwnQ_take (Z : State) (b : Addr) (k : ClassId) (s d t0 t1 t2 t3 : Int32) (h0 : Heap) (n0 : Nat) (v : Option Value) (h : Heap) (L : List Loc) : Prop := v = none ∧ Fr n0 L ∧ Keep h0 h [b] ∧ Arv Z h b k .int (4 : Int32) [(.int (t0 + (own_in (0 : Int32) s d))), (.int (t1 + (own_in (1 : Int32) s d))), (.int (t2 + (own_in (2 : Int32) s d))), (.int (t3 + (own_in (3 : Int32) s d)))] (.int (0 : Int32))
theorem d_prog_52_method_8_0 : Jvm.ClassFile.decode prog_52_method_8_code 0 = .ok (.iload_n 1, 1) := by decide +kernel
theorem d_prog_52_method_8_1 : Jvm.ClassFile.decode prog_52_method_8_code 1 = .ok (.istore_n 3, 1) := by decide +kernel
theorem d_prog_52_method_8_2 : Jvm.ClassFile.decode prog_52_method_8_code 2 = .ok (.iload_n 3, 1) := by decide +kernel
theorem d_prog_52_method_8_3 : Jvm.ClassFile.decode prog_52_method_8_code 3 = .ok (.iload_n 1, 1) := by decide +kernel
theorem d_prog_52_method_8_4 : Jvm.ClassFile.decode prog_52_method_8_code 4 = .ok (.iload_n 2, 1) := by decide +kernel
theorem d_prog_52_method_8_5 : Jvm.ClassFile.decode prog_52_method_8_code 5 = .ok (.iadd, 1) := by decide +kernel
theorem d_prog_52_method_8_6 : Jvm.ClassFile.decode prog_52_method_8_code 6 = .ok (.if_icmp .ge 19, 3) := by decide +kernel
theorem d_prog_52_method_8_25 : Jvm.ClassFile.decode prog_52_method_8_code 25 = .ok (.return_, 1) := by decide +kernel
theorem d_prog_52_method_8_9 : Jvm.ClassFile.decode prog_52_method_8_code 9 = .ok (.aload_n 0, 1) := by decide +kernel
theorem d_prog_52_method_8_10 : Jvm.ClassFile.decode prog_52_method_8_code 10 = .ok (.getfield 22, 3) := by decide +kernel
theorem d_prog_52_method_8_13 : Jvm.ClassFile.decode prog_52_method_8_code 13 = .ok (.iload_n 3, 1) := by decide +kernel
theorem d_prog_52_method_8_14 : Jvm.ClassFile.decode prog_52_method_8_code 14 = .ok (.dup2, 1) := by decide +kernel
theorem d_prog_52_method_8_15 : Jvm.ClassFile.decode prog_52_method_8_code 15 = .ok (.iaload, 1) := by decide +kernel
theorem d_prog_52_method_8_16 : Jvm.ClassFile.decode prog_52_method_8_code 16 = .ok (.iconst 1, 1) := by decide +kernel
theorem d_prog_52_method_8_17 : Jvm.ClassFile.decode prog_52_method_8_code 17 = .ok (.iadd, 1) := by decide +kernel
theorem d_prog_52_method_8_18 : Jvm.ClassFile.decode prog_52_method_8_code 18 = .ok (.iastore, 1) := by decide +kernel
theorem d_prog_52_method_8_19 : Jvm.ClassFile.decode prog_52_method_8_code 19 = .ok (.iinc 3 1, 3) := by decide +kernel
theorem d_prog_52_method_8_22 : Jvm.ClassFile.decode prog_52_method_8_code 22 = .ok (.goto (-20), 3) := by decide +kernel
theorem own_ef_rm_take (m : MethodId) (x0 : Addr) (x1 : Int32) (x2 : Int32) : entryFrame m #[(.ref x0), (.int x1), (.int x2)] 4 = mkF m 0 #[.val (.ref x0), .val (.int x1), .val (.int x2), .unset] [] := by first | (simp [entryFrame, mkF, argsToLocals, Value.category]; done) | rfl
set_option maxRecDepth 65536 in
set_option maxHeartbeats 40000000 in
theorem rm_take (l : Launch) (Z : State) (a0 : Array Value) (hw : ∀ d ∈ tables_1, d.before a0 Z = true) (ws : List Jvm.Cond) (a1 : Addr) (b : Addr) (k : ClassId) (sq : Int32) (dq : Int32) (t0 : Int32) (t1 : Int32) (t2 : Int32) (t3 : Int32) (h0 : Heap) (n0 : Nat) (hn0 : n0 ≤ h0.size) (E_a1 : Exa Z h0 a1 "com/example/trailworks/trailworks/works/Crews") (F_t : Fld Z h0 a1 "com/example/trailworks/trailworks/works/Crews" "m_taken" "[I" (.ref b)) (V_b : Arv Z h0 b k .int (4 : Int32) [(.int t0), (.int t1), (.int t2), (.int t3)] (.int (0 : Int32))) (g_b : n0 ≤ b) (hne : ¬ a1 = b) (hsd : OwnSd sq dq) :
    OwnMet l Z (⟨"com/example/trailworks/trailworks/works/Crews", "take", "(II)V"⟩ : MethodName) prog_52_method_8_code 4 none ws ({ frames := 0, cells := 0, slots := 0, locals := 0 } : Room) #[(.ref a1), (.int sq), (.int dq)] h0 (OwnQ_take Z b k sq dq t0 t1 t2 t3 h0 n0) := by
  refine own_body (plainFor_of_name own_pn1) ?_
  intro p e s m below meth c s₁ X0 hx hby hml hret hlk hown0 hnm hZ e0 hs0
  have hown : s.vm.findClass "com/example/trailworks/trailworks/works/Crews" = some m.cls := hown0
  have N0 := Fr.nil n0
  refine own_entry (own_ef_rm_take m a1 sq dq) ?_
  have K0 := Keep.refl h0 [b]
  rcases hsd with ⟨rfl, rfl⟩ | ⟨rfl, rfl⟩ | ⟨rfl, rfl⟩ | ⟨rfl, rfl⟩ | ⟨rfl, rfl⟩ | ⟨rfl, rfl⟩ | ⟨rfl, rfl⟩ | ⟨rfl, rfl⟩ | ⟨rfl, rfl⟩ | ⟨rfl, rfl⟩ | ⟨rfl, rfl⟩ | ⟨rfl, rfl⟩ | ⟨rfl, rfl⟩ | ⟨rfl, rfl⟩
  · skip
    show Go _ _ _ _ _ s₁ (mkF m 0 #[.val (.ref a1), .val (.int (0 : Int32)), .val (.int (0 : Int32)), .unset] [])
    refine own_go (fun t k => XS.iloadN X0.here hx rfl (hb hby d_prog_52_method_8_0) rfl k) ?_
    show Go _ _ _ _ _ s₁ (mkF m 1 #[.val (.ref a1), .val (.int (0 : Int32)), .val (.int (0 : Int32)), .unset] [(.int (0 : Int32))])
    refine own_go (fun t k => XS.istoreN X0.here hx rfl (hb hby d_prog_52_method_8_1) rfl (l' := #[.val (.ref a1), .val (.int (0 : Int32)), .val (.int (0 : Int32)), .val (.int (0 : Int32))]) rfl k) ?_
    show Go _ _ _ _ _ s₁ (mkF m 2 #[.val (.ref a1), .val (.int (0 : Int32)), .val (.int (0 : Int32)), .val (.int (0 : Int32))] [])
    refine own_go (fun t k => XS.iloadN X0.here hx rfl (hb hby d_prog_52_method_8_2) rfl k) ?_
    show Go _ _ _ _ _ s₁ (mkF m 3 #[.val (.ref a1), .val (.int (0 : Int32)), .val (.int (0 : Int32)), .val (.int (0 : Int32))] [(.int (0 : Int32))])
    refine own_go (fun t k => XS.iloadN X0.here hx rfl (hb hby d_prog_52_method_8_3) rfl k) ?_
    show Go _ _ _ _ _ s₁ (mkF m 4 #[.val (.ref a1), .val (.int (0 : Int32)), .val (.int (0 : Int32)), .val (.int (0 : Int32))] [(.int (0 : Int32)), (.int (0 : Int32))])
    refine own_go (fun t k => XS.iloadN X0.here hx rfl (hb hby d_prog_52_method_8_4) rfl k) ?_
    show Go _ _ _ _ _ s₁ (mkF m 5 #[.val (.ref a1), .val (.int (0 : Int32)), .val (.int (0 : Int32)), .val (.int (0 : Int32))] [(.int (0 : Int32)), (.int (0 : Int32)), (.int (0 : Int32))])
    refine own_go (fun t k => XS.iadd X0.here hx rfl (hb hby d_prog_52_method_8_5) rfl k) ?_
    show Go _ _ _ _ _ s₁ (mkF m 6 #[.val (.ref a1), .val (.int (0 : Int32)), .val (.int (0 : Int32)), .val (.int (0 : Int32))] [(.int (0 : Int32)), (.int (0 : Int32))])
    refine own_go (fun t k => XS.icmpYes X0.here hx rfl (pc0 := 6) (pc' := 25) rfl (hb hby d_prog_52_method_8_6) rfl (by decide) (by decide) (by decide) k) ?_
    show Go _ _ _ _ _ s₁ (mkF m 25 #[.val (.ref a1), .val (.int (0 : Int32)), .val (.int (0 : Int32)), .val (.int (0 : Int32))] [])
    refine own_retV X0 hx (own_lvN X0 hlk (by decide) (by decide)) hret (hb hby d_prog_52_method_8_25) ?_
    rw [e0]
    have i0 : own_in (0 : Int32) (0 : Int32) (0 : Int32) = 0 := by decide
    have i1 : own_in (1 : Int32) (0 : Int32) (0 : Int32) = 0 := by decide
    have i2 : own_in (2 : Int32) (0 : Int32) (0 : Int32) = 0 := by decide
    have i3 : own_in (3 : Int32) (0 : Int32) (0 : Int32) = 0 := by decide
    refine ⟨rfl, N0, K0, ?_⟩
    have hV := V_b
    rw [i0, i1, i2, i3]
    simpa only [Int32.add_zero] using hV
  · skip
    show Go _ _ _ _ _ s₁ (mkF m 0 #[.val (.ref a1), .val (.int (0 : Int32)), .val (.int (1 : Int32)), .unset] [])
    refine own_go (fun t k => XS.iloadN X0.here hx rfl (hb hby d_prog_52_method_8_0) rfl k) ?_
    show Go _ _ _ _ _ s₁ (mkF m 1 #[.val (.ref a1), .val (.int (0 : Int32)), .val (.int (1 : Int32)), .unset] [(.int (0 : Int32))])
    refine own_go (fun t k => XS.istoreN X0.here hx rfl (hb hby d_prog_52_method_8_1) rfl (l' := #[.val (.ref a1), .val (.int (0 : Int32)), .val (.int (1 : Int32)), .val (.int (0 : Int32))]) rfl k) ?_
    show Go _ _ _ _ _ s₁ (mkF m 2 #[.val (.ref a1), .val (.int (0 : Int32)), .val (.int (1 : Int32)), .val (.int (0 : Int32))] [])
    refine own_go (fun t k => XS.iloadN X0.here hx rfl (hb hby d_prog_52_method_8_2) rfl k) ?_
    show Go _ _ _ _ _ s₁ (mkF m 3 #[.val (.ref a1), .val (.int (0 : Int32)), .val (.int (1 : Int32)), .val (.int (0 : Int32))] [(.int (0 : Int32))])
    refine own_go (fun t k => XS.iloadN X0.here hx rfl (hb hby d_prog_52_method_8_3) rfl k) ?_
    show Go _ _ _ _ _ s₁ (mkF m 4 #[.val (.ref a1), .val (.int (0 : Int32)), .val (.int (1 : Int32)), .val (.int (0 : Int32))] [(.int (0 : Int32)), (.int (0 : Int32))])
    refine own_go (fun t k => XS.iloadN X0.here hx rfl (hb hby d_prog_52_method_8_4) rfl k) ?_
    show Go _ _ _ _ _ s₁ (mkF m 5 #[.val (.ref a1), .val (.int (0 : Int32)), .val (.int (1 : Int32)), .val (.int (0 : Int32))] [(.int (1 : Int32)), (.int (0 : Int32)), (.int (0 : Int32))])
    refine own_go (fun t k => XS.iadd X0.here hx rfl (hb hby d_prog_52_method_8_5) rfl k) ?_
    show Go _ _ _ _ _ s₁ (mkF m 6 #[.val (.ref a1), .val (.int (0 : Int32)), .val (.int (1 : Int32)), .val (.int (0 : Int32))] [(.int (1 : Int32)), (.int (0 : Int32))])
    refine own_go (fun t k => XS.icmpNo X0.here hx rfl (hb hby d_prog_52_method_8_6) rfl (by decide) k) ?_
    show Go _ _ _ _ _ s₁ (mkF m 9 #[.val (.ref a1), .val (.int (0 : Int32)), .val (.int (1 : Int32)), .val (.int (0 : Int32))] [])
    refine own_go (fun t k => XS.aloadN X0.here hx rfl (hb hby d_prog_52_method_8_9) rfl rfl k) ?_
    show Go _ _ _ _ _ s₁ (mkF m 10 #[.val (.ref a1), .val (.int (0 : Int32)), .val (.int (1 : Int32)), .val (.int (0 : Int32))] [(.ref a1)])
    obtain ⟨T23, X23, e23, st23⟩ := getF X0 hx hZ hown (host := "") (Or.inl (hw _ (List.mem_of_getElem? (i := 19) rfl))) Via.refl e0 F_t (g := (mkF m 10 #[.val (.ref a1), .val (.int (0 : Int32)), .val (.int (1 : Int32)), .val (.int (0 : Int32))] [(.ref a1)])) rfl rfl (hb hby d_prog_52_method_8_10)
    refine own_go (fun t k => st23 t k) ?_
    show Go _ _ _ _ _ T23 (mkF m 13 #[.val (.ref a1), .val (.int (0 : Int32)), .val (.int (1 : Int32)), .val (.int (0 : Int32))] [(.ref b)])
    refine own_go (fun t k => XS.iloadN X23.here hx rfl (hb hby d_prog_52_method_8_13) rfl k) ?_
    show Go _ _ _ _ _ T23 (mkF m 14 #[.val (.ref a1), .val (.int (0 : Int32)), .val (.int (1 : Int32)), .val (.int (0 : Int32))] [(.int (0 : Int32)), (.ref b)])
    refine own_go (fun t k => XT.dup2 X23.here hx rfl (hb hby d_prog_52_method_8_14) rfl rfl rfl k) ?_
    show Go _ _ _ _ _ T23 (mkF m 15 #[.val (.ref a1), .val (.int (0 : Int32)), .val (.int (1 : Int32)), .val (.int (0 : Int32))] [(.int (0 : Int32)), (.ref b), (.int (0 : Int32)), (.ref b)])
    obtain ⟨cl24, Ar24, q24, S24, N24z, H24, G24⟩ := id V_b
    have hin24 := inb_of S24 (j := (0 : Int32)) (z := (4 : Int32)) ⟨by decide, by decide⟩
    have hat24 : cl24.slots[((0 : Int32)).toNatClampNeg]? = some (.int t0) := H24 _ (Nat.lt_of_not_le fun q => hin24 (Or.inr q))
    refine own_go (fun t k => X23.iaload hx (j := (0 : Int32)) (v := (.int t0)) (by rw [e23]; exact Ar24.1) (State.isArrayOf_alike hZ.alike Ar24.2.1) Ar24.2.2 hin24 hat24 (g := (mkF m 15 #[.val (.ref a1), .val (.int (0 : Int32)), .val (.int (1 : Int32)), .val (.int (0 : Int32))] [(.int (0 : Int32)), (.ref b), (.int (0 : Int32)), (.ref b)])) rfl rfl (hb hby d_prog_52_method_8_15) _ k) ?_
    show Go _ _ _ _ _ T23 (mkF m 16 #[.val (.ref a1), .val (.int (0 : Int32)), .val (.int (1 : Int32)), .val (.int (0 : Int32))] [(.int t0), (.int (0 : Int32)), (.ref b)])
    refine own_go (fun t k => XS.iconst X23.here hx rfl (hb hby d_prog_52_method_8_16) k) ?_
    show Go _ _ _ _ _ T23 (mkF m 17 #[.val (.ref a1), .val (.int (0 : Int32)), .val (.int (1 : Int32)), .val (.int (0 : Int32))] [(.int (1 : Int32)), (.int t0), (.int (0 : Int32)), (.ref b)])
    refine own_go (fun t k => XS.iadd X23.here hx rfl (hb hby d_prog_52_method_8_17) rfl k) ?_
    show Go _ _ _ _ _ T23 (mkF m 18 #[.val (.ref a1), .val (.int (0 : Int32)), .val (.int (1 : Int32)), .val (.int (0 : Int32))] [(.int (t0 + (1 : Int32))), (.int (0 : Int32)), (.ref b)])
    obtain ⟨cl25, Ar25, q25, S25, N25z, H25, G25⟩ := V_b
    have hin25 := inb_of S25 (j := (0 : Int32)) (z := (4 : Int32)) ⟨by decide, by decide⟩
    obtain ⟨T25, h25, X25, e25, W25, st25⟩ := stI X23 hx hZ e23 Ar25 (j := (0 : Int32)) hin25 (g := (mkF m 18 #[.val (.ref a1), .val (.int (0 : Int32)), .val (.int (1 : Int32)), .val (.int (0 : Int32))] [(.int (t0 + (1 : Int32))), (.int (0 : Int32)), (.ref b)])) rfl rfl (hb hby d_prog_52_method_8_18)
    replace E_a1 := E_a1.wr W25
    replace F_t := F_t.other W25 (Or.inl hne)
    have V25 : Arv Z h25 b k .int (4 : Int32) [(.int (t0 + (1 : Int32))), (.int t1), (.int t2), (.int t3)] (.int (0 : Int32)) := Arv.set Ar25 q25 S25 N25z H25 G25 rfl W25 0 rfl (Nat.le_of_ble_eq_true rfl)
    have N25 := Fr.snoc X25 N0 g_b
    have hn25 : n0 ≤ h25.size := Nat.le_trans hn0 (Keep.of_wr W25).1
    have K25 := K0.wr W25 (Or.inl (List.mem_of_getElem? (i := 0) rfl))
    refine own_go (fun t k => st25 t k) ?_
    show Go _ _ _ _ _ T25 (mkF m 19 #[.val (.ref a1), .val (.int (0 : Int32)), .val (.int (1 : Int32)), .val (.int (0 : Int32))] [])
    refine own_go (fun t k => XS.iinc X25.here hx rfl (hb hby d_prog_52_method_8_19) rfl (l' := #[.val (.ref a1), .val (.int (0 : Int32)), .val (.int (1 : Int32)), .val (.int (1 : Int32))]) rfl k) ?_
    show Go _ _ _ _ _ T25 (mkF m 22 #[.val (.ref a1), .val (.int (0 : Int32)), .val (.int (1 : Int32)), .val (.int (1 : Int32))] [])
    refine own_go (fun t k => XS.goto X25.here hx rfl (pc0 := 22) (pc' := 2) rfl (hb hby d_prog_52_method_8_22) (by decide) (by decide) k) ?_
    show Go _ _ _ _ _ T25 (mkF m 2 #[.val (.ref a1), .val (.int (0 : Int32)), .val (.int (1 : Int32)), .val (.int (1 : Int32))] [])
    refine own_go (fun t k => XS.iloadN X25.here hx rfl (hb hby d_prog_52_method_8_2) rfl k) ?_
    show Go _ _ _ _ _ T25 (mkF m 3 #[.val (.ref a1), .val (.int (0 : Int32)), .val (.int (1 : Int32)), .val (.int (1 : Int32))] [(.int (1 : Int32))])
    refine own_go (fun t k => XS.iloadN X25.here hx rfl (hb hby d_prog_52_method_8_3) rfl k) ?_
    show Go _ _ _ _ _ T25 (mkF m 4 #[.val (.ref a1), .val (.int (0 : Int32)), .val (.int (1 : Int32)), .val (.int (1 : Int32))] [(.int (0 : Int32)), (.int (1 : Int32))])
    refine own_go (fun t k => XS.iloadN X25.here hx rfl (hb hby d_prog_52_method_8_4) rfl k) ?_
    show Go _ _ _ _ _ T25 (mkF m 5 #[.val (.ref a1), .val (.int (0 : Int32)), .val (.int (1 : Int32)), .val (.int (1 : Int32))] [(.int (1 : Int32)), (.int (0 : Int32)), (.int (1 : Int32))])
    refine own_go (fun t k => XS.iadd X25.here hx rfl (hb hby d_prog_52_method_8_5) rfl k) ?_
    show Go _ _ _ _ _ T25 (mkF m 6 #[.val (.ref a1), .val (.int (0 : Int32)), .val (.int (1 : Int32)), .val (.int (1 : Int32))] [(.int (1 : Int32)), (.int (1 : Int32))])
    refine own_go (fun t k => XS.icmpYes X25.here hx rfl (pc0 := 6) (pc' := 25) rfl (hb hby d_prog_52_method_8_6) rfl (by decide) (by decide) (by decide) k) ?_
    show Go _ _ _ _ _ T25 (mkF m 25 #[.val (.ref a1), .val (.int (0 : Int32)), .val (.int (1 : Int32)), .val (.int (1 : Int32))] [])
    refine own_retV X25 hx (own_lvN X25 hlk (by decide) (by decide)) hret (hb hby d_prog_52_method_8_25) ?_
    rw [e25]
    have i0 : own_in (0 : Int32) (0 : Int32) (1 : Int32) = 1 := by decide
    have i1 : own_in (1 : Int32) (0 : Int32) (1 : Int32) = 0 := by decide
    have i2 : own_in (2 : Int32) (0 : Int32) (1 : Int32) = 0 := by decide
    have i3 : own_in (3 : Int32) (0 : Int32) (1 : Int32) = 0 := by decide
    refine ⟨rfl, N25, K25, ?_⟩
    have hV := V25
    rw [i0, i1, i2, i3]
    simpa only [Int32.add_zero] using hV
  · skip
    show Go _ _ _ _ _ s₁ (mkF m 0 #[.val (.ref a1), .val (.int (0 : Int32)), .val (.int (2 : Int32)), .unset] [])
    refine own_go (fun t k => XS.iloadN X0.here hx rfl (hb hby d_prog_52_method_8_0) rfl k) ?_
    show Go _ _ _ _ _ s₁ (mkF m 1 #[.val (.ref a1), .val (.int (0 : Int32)), .val (.int (2 : Int32)), .unset] [(.int (0 : Int32))])
    refine own_go (fun t k => XS.istoreN X0.here hx rfl (hb hby d_prog_52_method_8_1) rfl (l' := #[.val (.ref a1), .val (.int (0 : Int32)), .val (.int (2 : Int32)), .val (.int (0 : Int32))]) rfl k) ?_
    show Go _ _ _ _ _ s₁ (mkF m 2 #[.val (.ref a1), .val (.int (0 : Int32)), .val (.int (2 : Int32)), .val (.int (0 : Int32))] [])
    refine own_go (fun t k => XS.iloadN X0.here hx rfl (hb hby d_prog_52_method_8_2) rfl k) ?_
    show Go _ _ _ _ _ s₁ (mkF m 3 #[.val (.ref a1), .val (.int (0 : Int32)), .val (.int (2 : Int32)), .val (.int (0 : Int32))] [(.int (0 : Int32))])
    refine own_go (fun t k => XS.iloadN X0.here hx rfl (hb hby d_prog_52_method_8_3) rfl k) ?_
    show Go _ _ _ _ _ s₁ (mkF m 4 #[.val (.ref a1), .val (.int (0 : Int32)), .val (.int (2 : Int32)), .val (.int (0 : Int32))] [(.int (0 : Int32)), (.int (0 : Int32))])
    refine own_go (fun t k => XS.iloadN X0.here hx rfl (hb hby d_prog_52_method_8_4) rfl k) ?_
    show Go _ _ _ _ _ s₁ (mkF m 5 #[.val (.ref a1), .val (.int (0 : Int32)), .val (.int (2 : Int32)), .val (.int (0 : Int32))] [(.int (2 : Int32)), (.int (0 : Int32)), (.int (0 : Int32))])
    refine own_go (fun t k => XS.iadd X0.here hx rfl (hb hby d_prog_52_method_8_5) rfl k) ?_
    show Go _ _ _ _ _ s₁ (mkF m 6 #[.val (.ref a1), .val (.int (0 : Int32)), .val (.int (2 : Int32)), .val (.int (0 : Int32))] [(.int (2 : Int32)), (.int (0 : Int32))])
    refine own_go (fun t k => XS.icmpNo X0.here hx rfl (hb hby d_prog_52_method_8_6) rfl (by decide) k) ?_
    show Go _ _ _ _ _ s₁ (mkF m 9 #[.val (.ref a1), .val (.int (0 : Int32)), .val (.int (2 : Int32)), .val (.int (0 : Int32))] [])
    refine own_go (fun t k => XS.aloadN X0.here hx rfl (hb hby d_prog_52_method_8_9) rfl rfl k) ?_
    show Go _ _ _ _ _ s₁ (mkF m 10 #[.val (.ref a1), .val (.int (0 : Int32)), .val (.int (2 : Int32)), .val (.int (0 : Int32))] [(.ref a1)])
    obtain ⟨T26, X26, e26, st26⟩ := getF X0 hx hZ hown (host := "") (Or.inl (hw _ (List.mem_of_getElem? (i := 19) rfl))) Via.refl e0 F_t (g := (mkF m 10 #[.val (.ref a1), .val (.int (0 : Int32)), .val (.int (2 : Int32)), .val (.int (0 : Int32))] [(.ref a1)])) rfl rfl (hb hby d_prog_52_method_8_10)
    refine own_go (fun t k => st26 t k) ?_
    show Go _ _ _ _ _ T26 (mkF m 13 #[.val (.ref a1), .val (.int (0 : Int32)), .val (.int (2 : Int32)), .val (.int (0 : Int32))] [(.ref b)])
    refine own_go (fun t k => XS.iloadN X26.here hx rfl (hb hby d_prog_52_method_8_13) rfl k) ?_
    show Go _ _ _ _ _ T26 (mkF m 14 #[.val (.ref a1), .val (.int (0 : Int32)), .val (.int (2 : Int32)), .val (.int (0 : Int32))] [(.int (0 : Int32)), (.ref b)])
    refine own_go (fun t k => XT.dup2 X26.here hx rfl (hb hby d_prog_52_method_8_14) rfl rfl rfl k) ?_
    show Go _ _ _ _ _ T26 (mkF m 15 #[.val (.ref a1), .val (.int (0 : Int32)), .val (.int (2 : Int32)), .val (.int (0 : Int32))] [(.int (0 : Int32)), (.ref b), (.int (0 : Int32)), (.ref b)])
    obtain ⟨cl27, Ar27, q27, S27, N27z, H27, G27⟩ := id V_b
    have hin27 := inb_of S27 (j := (0 : Int32)) (z := (4 : Int32)) ⟨by decide, by decide⟩
    have hat27 : cl27.slots[((0 : Int32)).toNatClampNeg]? = some (.int t0) := H27 _ (Nat.lt_of_not_le fun q => hin27 (Or.inr q))
    refine own_go (fun t k => X26.iaload hx (j := (0 : Int32)) (v := (.int t0)) (by rw [e26]; exact Ar27.1) (State.isArrayOf_alike hZ.alike Ar27.2.1) Ar27.2.2 hin27 hat27 (g := (mkF m 15 #[.val (.ref a1), .val (.int (0 : Int32)), .val (.int (2 : Int32)), .val (.int (0 : Int32))] [(.int (0 : Int32)), (.ref b), (.int (0 : Int32)), (.ref b)])) rfl rfl (hb hby d_prog_52_method_8_15) _ k) ?_
    show Go _ _ _ _ _ T26 (mkF m 16 #[.val (.ref a1), .val (.int (0 : Int32)), .val (.int (2 : Int32)), .val (.int (0 : Int32))] [(.int t0), (.int (0 : Int32)), (.ref b)])
    refine own_go (fun t k => XS.iconst X26.here hx rfl (hb hby d_prog_52_method_8_16) k) ?_
    show Go _ _ _ _ _ T26 (mkF m 17 #[.val (.ref a1), .val (.int (0 : Int32)), .val (.int (2 : Int32)), .val (.int (0 : Int32))] [(.int (1 : Int32)), (.int t0), (.int (0 : Int32)), (.ref b)])
    refine own_go (fun t k => XS.iadd X26.here hx rfl (hb hby d_prog_52_method_8_17) rfl k) ?_
    show Go _ _ _ _ _ T26 (mkF m 18 #[.val (.ref a1), .val (.int (0 : Int32)), .val (.int (2 : Int32)), .val (.int (0 : Int32))] [(.int (t0 + (1 : Int32))), (.int (0 : Int32)), (.ref b)])
    obtain ⟨cl28, Ar28, q28, S28, N28z, H28, G28⟩ := V_b
    have hin28 := inb_of S28 (j := (0 : Int32)) (z := (4 : Int32)) ⟨by decide, by decide⟩
    obtain ⟨T28, h28, X28, e28, W28, st28⟩ := stI X26 hx hZ e26 Ar28 (j := (0 : Int32)) hin28 (g := (mkF m 18 #[.val (.ref a1), .val (.int (0 : Int32)), .val (.int (2 : Int32)), .val (.int (0 : Int32))] [(.int (t0 + (1 : Int32))), (.int (0 : Int32)), (.ref b)])) rfl rfl (hb hby d_prog_52_method_8_18)
    replace E_a1 := E_a1.wr W28
    replace F_t := F_t.other W28 (Or.inl hne)
    have V28 : Arv Z h28 b k .int (4 : Int32) [(.int (t0 + (1 : Int32))), (.int t1), (.int t2), (.int t3)] (.int (0 : Int32)) := Arv.set Ar28 q28 S28 N28z H28 G28 rfl W28 0 rfl (Nat.le_of_ble_eq_true rfl)
    have N28 := Fr.snoc X28 N0 g_b
    have hn28 : n0 ≤ h28.size := Nat.le_trans hn0 (Keep.of_wr W28).1
    have K28 := K0.wr W28 (Or.inl (List.mem_of_getElem? (i := 0) rfl))
    refine own_go (fun t k => st28 t k) ?_
    show Go _ _ _ _ _ T28 (mkF m 19 #[.val (.ref a1), .val (.int (0 : Int32)), .val (.int (2 : Int32)), .val (.int (0 : Int32))] [])
    refine own_go (fun t k => XS.iinc X28.here hx rfl (hb hby d_prog_52_method_8_19) rfl (l' := #[.val (.ref a1), .val (.int (0 : Int32)), .val (.int (2 : Int32)), .val (.int (1 : Int32))]) rfl k) ?_
    show Go _ _ _ _ _ T28 (mkF m 22 #[.val (.ref a1), .val (.int (0 : Int32)), .val (.int (2 : Int32)), .val (.int (1 : Int32))] [])
    refine own_go (fun t k => XS.goto X28.here hx rfl (pc0 := 22) (pc' := 2) rfl (hb hby d_prog_52_method_8_22) (by decide) (by decide) k) ?_
    show Go _ _ _ _ _ T28 (mkF m 2 #[.val (.ref a1), .val (.int (0 : Int32)), .val (.int (2 : Int32)), .val (.int (1 : Int32))] [])
    refine own_go (fun t k => XS.iloadN X28.here hx rfl (hb hby d_prog_52_method_8_2) rfl k) ?_
    show Go _ _ _ _ _ T28 (mkF m 3 #[.val (.ref a1), .val (.int (0 : Int32)), .val (.int (2 : Int32)), .val (.int (1 : Int32))] [(.int (1 : Int32))])
    refine own_go (fun t k => XS.iloadN X28.here hx rfl (hb hby d_prog_52_method_8_3) rfl k) ?_
    show Go _ _ _ _ _ T28 (mkF m 4 #[.val (.ref a1), .val (.int (0 : Int32)), .val (.int (2 : Int32)), .val (.int (1 : Int32))] [(.int (0 : Int32)), (.int (1 : Int32))])
    refine own_go (fun t k => XS.iloadN X28.here hx rfl (hb hby d_prog_52_method_8_4) rfl k) ?_
    show Go _ _ _ _ _ T28 (mkF m 5 #[.val (.ref a1), .val (.int (0 : Int32)), .val (.int (2 : Int32)), .val (.int (1 : Int32))] [(.int (2 : Int32)), (.int (0 : Int32)), (.int (1 : Int32))])
    refine own_go (fun t k => XS.iadd X28.here hx rfl (hb hby d_prog_52_method_8_5) rfl k) ?_
    show Go _ _ _ _ _ T28 (mkF m 6 #[.val (.ref a1), .val (.int (0 : Int32)), .val (.int (2 : Int32)), .val (.int (1 : Int32))] [(.int (2 : Int32)), (.int (1 : Int32))])
    refine own_go (fun t k => XS.icmpNo X28.here hx rfl (hb hby d_prog_52_method_8_6) rfl (by decide) k) ?_
    show Go _ _ _ _ _ T28 (mkF m 9 #[.val (.ref a1), .val (.int (0 : Int32)), .val (.int (2 : Int32)), .val (.int (1 : Int32))] [])
    refine own_go (fun t k => XS.aloadN X28.here hx rfl (hb hby d_prog_52_method_8_9) rfl rfl k) ?_
    show Go _ _ _ _ _ T28 (mkF m 10 #[.val (.ref a1), .val (.int (0 : Int32)), .val (.int (2 : Int32)), .val (.int (1 : Int32))] [(.ref a1)])
    obtain ⟨T29, X29, e29, st29⟩ := getF X28 hx hZ hown (host := "") (Or.inl (hw _ (List.mem_of_getElem? (i := 19) rfl))) Via.refl e28 F_t (g := (mkF m 10 #[.val (.ref a1), .val (.int (0 : Int32)), .val (.int (2 : Int32)), .val (.int (1 : Int32))] [(.ref a1)])) rfl rfl (hb hby d_prog_52_method_8_10)
    refine own_go (fun t k => st29 t k) ?_
    show Go _ _ _ _ _ T29 (mkF m 13 #[.val (.ref a1), .val (.int (0 : Int32)), .val (.int (2 : Int32)), .val (.int (1 : Int32))] [(.ref b)])
    refine own_go (fun t k => XS.iloadN X29.here hx rfl (hb hby d_prog_52_method_8_13) rfl k) ?_
    show Go _ _ _ _ _ T29 (mkF m 14 #[.val (.ref a1), .val (.int (0 : Int32)), .val (.int (2 : Int32)), .val (.int (1 : Int32))] [(.int (1 : Int32)), (.ref b)])
    refine own_go (fun t k => XT.dup2 X29.here hx rfl (hb hby d_prog_52_method_8_14) rfl rfl rfl k) ?_
    show Go _ _ _ _ _ T29 (mkF m 15 #[.val (.ref a1), .val (.int (0 : Int32)), .val (.int (2 : Int32)), .val (.int (1 : Int32))] [(.int (1 : Int32)), (.ref b), (.int (1 : Int32)), (.ref b)])
    obtain ⟨cl30, Ar30, q30, S30, N30z, H30, G30⟩ := id V28
    have hin30 := inb_of S30 (j := (1 : Int32)) (z := (4 : Int32)) ⟨by decide, by decide⟩
    have hat30 : cl30.slots[((1 : Int32)).toNatClampNeg]? = some (.int t1) := H30 _ (Nat.lt_of_not_le fun q => hin30 (Or.inr q))
    refine own_go (fun t k => X29.iaload hx (j := (1 : Int32)) (v := (.int t1)) (by rw [e29]; exact Ar30.1) (State.isArrayOf_alike hZ.alike Ar30.2.1) Ar30.2.2 hin30 hat30 (g := (mkF m 15 #[.val (.ref a1), .val (.int (0 : Int32)), .val (.int (2 : Int32)), .val (.int (1 : Int32))] [(.int (1 : Int32)), (.ref b), (.int (1 : Int32)), (.ref b)])) rfl rfl (hb hby d_prog_52_method_8_15) _ k) ?_
    show Go _ _ _ _ _ T29 (mkF m 16 #[.val (.ref a1), .val (.int (0 : Int32)), .val (.int (2 : Int32)), .val (.int (1 : Int32))] [(.int t1), (.int (1 : Int32)), (.ref b)])
    refine own_go (fun t k => XS.iconst X29.here hx rfl (hb hby d_prog_52_method_8_16) k) ?_
    show Go _ _ _ _ _ T29 (mkF m 17 #[.val (.ref a1), .val (.int (0 : Int32)), .val (.int (2 : Int32)), .val (.int (1 : Int32))] [(.int (1 : Int32)), (.int t1), (.int (1 : Int32)), (.ref b)])
    refine own_go (fun t k => XS.iadd X29.here hx rfl (hb hby d_prog_52_method_8_17) rfl k) ?_
    show Go _ _ _ _ _ T29 (mkF m 18 #[.val (.ref a1), .val (.int (0 : Int32)), .val (.int (2 : Int32)), .val (.int (1 : Int32))] [(.int (t1 + (1 : Int32))), (.int (1 : Int32)), (.ref b)])
    obtain ⟨cl31, Ar31, q31, S31, N31z, H31, G31⟩ := V28
    have hin31 := inb_of S31 (j := (1 : Int32)) (z := (4 : Int32)) ⟨by decide, by decide⟩
    obtain ⟨T31, h31, X31, e31, W31, st31⟩ := stI X29 hx hZ e29 Ar31 (j := (1 : Int32)) hin31 (g := (mkF m 18 #[.val (.ref a1), .val (.int (0 : Int32)), .val (.int (2 : Int32)), .val (.int (1 : Int32))] [(.int (t1 + (1 : Int32))), (.int (1 : Int32)), (.ref b)])) rfl rfl (hb hby d_prog_52_method_8_18)
    replace E_a1 := E_a1.wr W31
    replace F_t := F_t.other W31 (Or.inl hne)
    have V31 : Arv Z h31 b k .int (4 : Int32) [(.int (t0 + (1 : Int32))), (.int (t1 + (1 : Int32))), (.int t2), (.int t3)] (.int (0 : Int32)) := Arv.set Ar31 q31 S31 N31z H31 G31 rfl W31 1 rfl (Nat.le_of_ble_eq_true rfl)
    have N31 := Fr.snoc X31 N28 g_b
    have hn31 : n0 ≤ h31.size := Nat.le_trans hn28 (Keep.of_wr W31).1
    have K31 := K28.wr W31 (Or.inl (List.mem_of_getElem? (i := 0) rfl))
    refine own_go (fun t k => st31 t k) ?_
    show Go _ _ _ _ _ T31 (mkF m 19 #[.val (.ref a1), .val (.int (0 : Int32)), .val (.int (2 : Int32)), .val (.int (1 : Int32))] [])
    refine own_go (fun t k => XS.iinc X31.here hx rfl (hb hby d_prog_52_method_8_19) rfl (l' := #[.val (.ref a1), .val (.int (0 : Int32)), .val (.int (2 : Int32)), .val (.int (2 : Int32))]) rfl k) ?_
    show Go _ _ _ _ _ T31 (mkF m 22 #[.val (.ref a1), .val (.int (0 : Int32)), .val (.int (2 : Int32)), .val (.int (2 : Int32))] [])
    refine own_go (fun t k => XS.goto X31.here hx rfl (pc0 := 22) (pc' := 2) rfl (hb hby d_prog_52_method_8_22) (by decide) (by decide) k) ?_
    show Go _ _ _ _ _ T31 (mkF m 2 #[.val (.ref a1), .val (.int (0 : Int32)), .val (.int (2 : Int32)), .val (.int (2 : Int32))] [])
    refine own_go (fun t k => XS.iloadN X31.here hx rfl (hb hby d_prog_52_method_8_2) rfl k) ?_
    show Go _ _ _ _ _ T31 (mkF m 3 #[.val (.ref a1), .val (.int (0 : Int32)), .val (.int (2 : Int32)), .val (.int (2 : Int32))] [(.int (2 : Int32))])
    refine own_go (fun t k => XS.iloadN X31.here hx rfl (hb hby d_prog_52_method_8_3) rfl k) ?_
    show Go _ _ _ _ _ T31 (mkF m 4 #[.val (.ref a1), .val (.int (0 : Int32)), .val (.int (2 : Int32)), .val (.int (2 : Int32))] [(.int (0 : Int32)), (.int (2 : Int32))])
    refine own_go (fun t k => XS.iloadN X31.here hx rfl (hb hby d_prog_52_method_8_4) rfl k) ?_
    show Go _ _ _ _ _ T31 (mkF m 5 #[.val (.ref a1), .val (.int (0 : Int32)), .val (.int (2 : Int32)), .val (.int (2 : Int32))] [(.int (2 : Int32)), (.int (0 : Int32)), (.int (2 : Int32))])
    refine own_go (fun t k => XS.iadd X31.here hx rfl (hb hby d_prog_52_method_8_5) rfl k) ?_
    show Go _ _ _ _ _ T31 (mkF m 6 #[.val (.ref a1), .val (.int (0 : Int32)), .val (.int (2 : Int32)), .val (.int (2 : Int32))] [(.int (2 : Int32)), (.int (2 : Int32))])
    refine own_go (fun t k => XS.icmpYes X31.here hx rfl (pc0 := 6) (pc' := 25) rfl (hb hby d_prog_52_method_8_6) rfl (by decide) (by decide) (by decide) k) ?_
    show Go _ _ _ _ _ T31 (mkF m 25 #[.val (.ref a1), .val (.int (0 : Int32)), .val (.int (2 : Int32)), .val (.int (2 : Int32))] [])
    refine own_retV X31 hx (own_lvN X31 hlk (by decide) (by decide)) hret (hb hby d_prog_52_method_8_25) ?_
    rw [e31]
    have i0 : own_in (0 : Int32) (0 : Int32) (2 : Int32) = 1 := by decide
    have i1 : own_in (1 : Int32) (0 : Int32) (2 : Int32) = 1 := by decide
    have i2 : own_in (2 : Int32) (0 : Int32) (2 : Int32) = 0 := by decide
    have i3 : own_in (3 : Int32) (0 : Int32) (2 : Int32) = 0 := by decide
    refine ⟨rfl, N31, K31, ?_⟩
    have hV := V31
    rw [i0, i1, i2, i3]
    simpa only [Int32.add_zero] using hV
  · skip
    show Go _ _ _ _ _ s₁ (mkF m 0 #[.val (.ref a1), .val (.int (0 : Int32)), .val (.int (3 : Int32)), .unset] [])
    refine own_go (fun t k => XS.iloadN X0.here hx rfl (hb hby d_prog_52_method_8_0) rfl k) ?_
    show Go _ _ _ _ _ s₁ (mkF m 1 #[.val (.ref a1), .val (.int (0 : Int32)), .val (.int (3 : Int32)), .unset] [(.int (0 : Int32))])
    refine own_go (fun t k => XS.istoreN X0.here hx rfl (hb hby d_prog_52_method_8_1) rfl (l' := #[.val (.ref a1), .val (.int (0 : Int32)), .val (.int (3 : Int32)), .val (.int (0 : Int32))]) rfl k) ?_
    show Go _ _ _ _ _ s₁ (mkF m 2 #[.val (.ref a1), .val (.int (0 : Int32)), .val (.int (3 : Int32)), .val (.int (0 : Int32))] [])
    refine own_go (fun t k => XS.iloadN X0.here hx rfl (hb hby d_prog_52_method_8_2) rfl k) ?_
    show Go _ _ _ _ _ s₁ (mkF m 3 #[.val (.ref a1), .val (.int (0 : Int32)), .val (.int (3 : Int32)), .val (.int (0 : Int32))] [(.int (0 : Int32))])
    refine own_go (fun t k => XS.iloadN X0.here hx rfl (hb hby d_prog_52_method_8_3) rfl k) ?_
    show Go _ _ _ _ _ s₁ (mkF m 4 #[.val (.ref a1), .val (.int (0 : Int32)), .val (.int (3 : Int32)), .val (.int (0 : Int32))] [(.int (0 : Int32)), (.int (0 : Int32))])
    refine own_go (fun t k => XS.iloadN X0.here hx rfl (hb hby d_prog_52_method_8_4) rfl k) ?_
    show Go _ _ _ _ _ s₁ (mkF m 5 #[.val (.ref a1), .val (.int (0 : Int32)), .val (.int (3 : Int32)), .val (.int (0 : Int32))] [(.int (3 : Int32)), (.int (0 : Int32)), (.int (0 : Int32))])
    refine own_go (fun t k => XS.iadd X0.here hx rfl (hb hby d_prog_52_method_8_5) rfl k) ?_
    show Go _ _ _ _ _ s₁ (mkF m 6 #[.val (.ref a1), .val (.int (0 : Int32)), .val (.int (3 : Int32)), .val (.int (0 : Int32))] [(.int (3 : Int32)), (.int (0 : Int32))])
    refine own_go (fun t k => XS.icmpNo X0.here hx rfl (hb hby d_prog_52_method_8_6) rfl (by decide) k) ?_
    show Go _ _ _ _ _ s₁ (mkF m 9 #[.val (.ref a1), .val (.int (0 : Int32)), .val (.int (3 : Int32)), .val (.int (0 : Int32))] [])
    refine own_go (fun t k => XS.aloadN X0.here hx rfl (hb hby d_prog_52_method_8_9) rfl rfl k) ?_
    show Go _ _ _ _ _ s₁ (mkF m 10 #[.val (.ref a1), .val (.int (0 : Int32)), .val (.int (3 : Int32)), .val (.int (0 : Int32))] [(.ref a1)])
    obtain ⟨T32, X32, e32, st32⟩ := getF X0 hx hZ hown (host := "") (Or.inl (hw _ (List.mem_of_getElem? (i := 19) rfl))) Via.refl e0 F_t (g := (mkF m 10 #[.val (.ref a1), .val (.int (0 : Int32)), .val (.int (3 : Int32)), .val (.int (0 : Int32))] [(.ref a1)])) rfl rfl (hb hby d_prog_52_method_8_10)
    refine own_go (fun t k => st32 t k) ?_
    show Go _ _ _ _ _ T32 (mkF m 13 #[.val (.ref a1), .val (.int (0 : Int32)), .val (.int (3 : Int32)), .val (.int (0 : Int32))] [(.ref b)])
    refine own_go (fun t k => XS.iloadN X32.here hx rfl (hb hby d_prog_52_method_8_13) rfl k) ?_
    show Go _ _ _ _ _ T32 (mkF m 14 #[.val (.ref a1), .val (.int (0 : Int32)), .val (.int (3 : Int32)), .val (.int (0 : Int32))] [(.int (0 : Int32)), (.ref b)])
    refine own_go (fun t k => XT.dup2 X32.here hx rfl (hb hby d_prog_52_method_8_14) rfl rfl rfl k) ?_
    show Go _ _ _ _ _ T32 (mkF m 15 #[.val (.ref a1), .val (.int (0 : Int32)), .val (.int (3 : Int32)), .val (.int (0 : Int32))] [(.int (0 : Int32)), (.ref b), (.int (0 : Int32)), (.ref b)])
    obtain ⟨cl33, Ar33, q33, S33, N33z, H33, G33⟩ := id V_b
    have hin33 := inb_of S33 (j := (0 : Int32)) (z := (4 : Int32)) ⟨by decide, by decide⟩
    have hat33 : cl33.slots[((0 : Int32)).toNatClampNeg]? = some (.int t0) := H33 _ (Nat.lt_of_not_le fun q => hin33 (Or.inr q))
    refine own_go (fun t k => X32.iaload hx (j := (0 : Int32)) (v := (.int t0)) (by rw [e32]; exact Ar33.1) (State.isArrayOf_alike hZ.alike Ar33.2.1) Ar33.2.2 hin33 hat33 (g := (mkF m 15 #[.val (.ref a1), .val (.int (0 : Int32)), .val (.int (3 : Int32)), .val (.int (0 : Int32))] [(.int (0 : Int32)), (.ref b), (.int (0 : Int32)), (.ref b)])) rfl rfl (hb hby d_prog_52_method_8_15) _ k) ?_
    show Go _ _ _ _ _ T32 (mkF m 16 #[.val (.ref a1), .val (.int (0 : Int32)), .val (.int (3 : Int32)), .val (.int (0 : Int32))] [(.int t0), (.int (0 : Int32)), (.ref b)])
    refine own_go (fun t k => XS.iconst X32.here hx rfl (hb hby d_prog_52_method_8_16) k) ?_
    show Go _ _ _ _ _ T32 (mkF m 17 #[.val (.ref a1), .val (.int (0 : Int32)), .val (.int (3 : Int32)), .val (.int (0 : Int32))] [(.int (1 : Int32)), (.int t0), (.int (0 : Int32)), (.ref b)])
    refine own_go (fun t k => XS.iadd X32.here hx rfl (hb hby d_prog_52_method_8_17) rfl k) ?_
    show Go _ _ _ _ _ T32 (mkF m 18 #[.val (.ref a1), .val (.int (0 : Int32)), .val (.int (3 : Int32)), .val (.int (0 : Int32))] [(.int (t0 + (1 : Int32))), (.int (0 : Int32)), (.ref b)])
    obtain ⟨cl34, Ar34, q34, S34, N34z, H34, G34⟩ := V_b
    have hin34 := inb_of S34 (j := (0 : Int32)) (z := (4 : Int32)) ⟨by decide, by decide⟩
    obtain ⟨T34, h34, X34, e34, W34, st34⟩ := stI X32 hx hZ e32 Ar34 (j := (0 : Int32)) hin34 (g := (mkF m 18 #[.val (.ref a1), .val (.int (0 : Int32)), .val (.int (3 : Int32)), .val (.int (0 : Int32))] [(.int (t0 + (1 : Int32))), (.int (0 : Int32)), (.ref b)])) rfl rfl (hb hby d_prog_52_method_8_18)
    replace E_a1 := E_a1.wr W34
    replace F_t := F_t.other W34 (Or.inl hne)
    have V34 : Arv Z h34 b k .int (4 : Int32) [(.int (t0 + (1 : Int32))), (.int t1), (.int t2), (.int t3)] (.int (0 : Int32)) := Arv.set Ar34 q34 S34 N34z H34 G34 rfl W34 0 rfl (Nat.le_of_ble_eq_true rfl)
    have N34 := Fr.snoc X34 N0 g_b
    have hn34 : n0 ≤ h34.size := Nat.le_trans hn0 (Keep.of_wr W34).1
    have K34 := K0.wr W34 (Or.inl (List.mem_of_getElem? (i := 0) rfl))
    refine own_go (fun t k => st34 t k) ?_
    show Go _ _ _ _ _ T34 (mkF m 19 #[.val (.ref a1), .val (.int (0 : Int32)), .val (.int (3 : Int32)), .val (.int (0 : Int32))] [])
    refine own_go (fun t k => XS.iinc X34.here hx rfl (hb hby d_prog_52_method_8_19) rfl (l' := #[.val (.ref a1), .val (.int (0 : Int32)), .val (.int (3 : Int32)), .val (.int (1 : Int32))]) rfl k) ?_
    show Go _ _ _ _ _ T34 (mkF m 22 #[.val (.ref a1), .val (.int (0 : Int32)), .val (.int (3 : Int32)), .val (.int (1 : Int32))] [])
    refine own_go (fun t k => XS.goto X34.here hx rfl (pc0 := 22) (pc' := 2) rfl (hb hby d_prog_52_method_8_22) (by decide) (by decide) k) ?_
    show Go _ _ _ _ _ T34 (mkF m 2 #[.val (.ref a1), .val (.int (0 : Int32)), .val (.int (3 : Int32)), .val (.int (1 : Int32))] [])
    refine own_go (fun t k => XS.iloadN X34.here hx rfl (hb hby d_prog_52_method_8_2) rfl k) ?_
    show Go _ _ _ _ _ T34 (mkF m 3 #[.val (.ref a1), .val (.int (0 : Int32)), .val (.int (3 : Int32)), .val (.int (1 : Int32))] [(.int (1 : Int32))])
    refine own_go (fun t k => XS.iloadN X34.here hx rfl (hb hby d_prog_52_method_8_3) rfl k) ?_
    show Go _ _ _ _ _ T34 (mkF m 4 #[.val (.ref a1), .val (.int (0 : Int32)), .val (.int (3 : Int32)), .val (.int (1 : Int32))] [(.int (0 : Int32)), (.int (1 : Int32))])
    refine own_go (fun t k => XS.iloadN X34.here hx rfl (hb hby d_prog_52_method_8_4) rfl k) ?_
    show Go _ _ _ _ _ T34 (mkF m 5 #[.val (.ref a1), .val (.int (0 : Int32)), .val (.int (3 : Int32)), .val (.int (1 : Int32))] [(.int (3 : Int32)), (.int (0 : Int32)), (.int (1 : Int32))])
    refine own_go (fun t k => XS.iadd X34.here hx rfl (hb hby d_prog_52_method_8_5) rfl k) ?_
    show Go _ _ _ _ _ T34 (mkF m 6 #[.val (.ref a1), .val (.int (0 : Int32)), .val (.int (3 : Int32)), .val (.int (1 : Int32))] [(.int (3 : Int32)), (.int (1 : Int32))])
    refine own_go (fun t k => XS.icmpNo X34.here hx rfl (hb hby d_prog_52_method_8_6) rfl (by decide) k) ?_
    show Go _ _ _ _ _ T34 (mkF m 9 #[.val (.ref a1), .val (.int (0 : Int32)), .val (.int (3 : Int32)), .val (.int (1 : Int32))] [])
    refine own_go (fun t k => XS.aloadN X34.here hx rfl (hb hby d_prog_52_method_8_9) rfl rfl k) ?_
    show Go _ _ _ _ _ T34 (mkF m 10 #[.val (.ref a1), .val (.int (0 : Int32)), .val (.int (3 : Int32)), .val (.int (1 : Int32))] [(.ref a1)])
    obtain ⟨T35, X35, e35, st35⟩ := getF X34 hx hZ hown (host := "") (Or.inl (hw _ (List.mem_of_getElem? (i := 19) rfl))) Via.refl e34 F_t (g := (mkF m 10 #[.val (.ref a1), .val (.int (0 : Int32)), .val (.int (3 : Int32)), .val (.int (1 : Int32))] [(.ref a1)])) rfl rfl (hb hby d_prog_52_method_8_10)
    refine own_go (fun t k => st35 t k) ?_
    show Go _ _ _ _ _ T35 (mkF m 13 #[.val (.ref a1), .val (.int (0 : Int32)), .val (.int (3 : Int32)), .val (.int (1 : Int32))] [(.ref b)])
    refine own_go (fun t k => XS.iloadN X35.here hx rfl (hb hby d_prog_52_method_8_13) rfl k) ?_
    show Go _ _ _ _ _ T35 (mkF m 14 #[.val (.ref a1), .val (.int (0 : Int32)), .val (.int (3 : Int32)), .val (.int (1 : Int32))] [(.int (1 : Int32)), (.ref b)])
    refine own_go (fun t k => XT.dup2 X35.here hx rfl (hb hby d_prog_52_method_8_14) rfl rfl rfl k) ?_
    show Go _ _ _ _ _ T35 (mkF m 15 #[.val (.ref a1), .val (.int (0 : Int32)), .val (.int (3 : Int32)), .val (.int (1 : Int32))] [(.int (1 : Int32)), (.ref b), (.int (1 : Int32)), (.ref b)])
    obtain ⟨cl36, Ar36, q36, S36, N36z, H36, G36⟩ := id V34
    have hin36 := inb_of S36 (j := (1 : Int32)) (z := (4 : Int32)) ⟨by decide, by decide⟩
    have hat36 : cl36.slots[((1 : Int32)).toNatClampNeg]? = some (.int t1) := H36 _ (Nat.lt_of_not_le fun q => hin36 (Or.inr q))
    refine own_go (fun t k => X35.iaload hx (j := (1 : Int32)) (v := (.int t1)) (by rw [e35]; exact Ar36.1) (State.isArrayOf_alike hZ.alike Ar36.2.1) Ar36.2.2 hin36 hat36 (g := (mkF m 15 #[.val (.ref a1), .val (.int (0 : Int32)), .val (.int (3 : Int32)), .val (.int (1 : Int32))] [(.int (1 : Int32)), (.ref b), (.int (1 : Int32)), (.ref b)])) rfl rfl (hb hby d_prog_52_method_8_15) _ k) ?_
    show Go _ _ _ _ _ T35 (mkF m 16 #[.val (.ref a1), .val (.int (0 : Int32)), .val (.int (3 : Int32)), .val (.int (1 : Int32))] [(.int t1), (.int (1 : Int32)), (.ref b)])
    refine own_go (fun t k => XS.iconst X35.here hx rfl (hb hby d_prog_52_method_8_16) k) ?_
    show Go _ _ _ _ _ T35 (mkF m 17 #[.val (.ref a1), .val (.int (0 : Int32)), .val (.int (3 : Int32)), .val (.int (1 : Int32))] [(.int (1 : Int32)), (.int t1), (.int (1 : Int32)), (.ref b)])
    refine own_go (fun t k => XS.iadd X35.here hx rfl (hb hby d_prog_52_method_8_17) rfl k) ?_
    show Go _ _ _ _ _ T35 (mkF m 18 #[.val (.ref a1), .val (.int (0 : Int32)), .val (.int (3 : Int32)), .val (.int (1 : Int32))] [(.int (t1 + (1 : Int32))), (.int (1 : Int32)), (.ref b)])
    obtain ⟨cl37, Ar37, q37, S37, N37z, H37, G37⟩ := V34
    have hin37 := inb_of S37 (j := (1 : Int32)) (z := (4 : Int32)) ⟨by decide, by decide⟩
    obtain ⟨T37, h37, X37, e37, W37, st37⟩ := stI X35 hx hZ e35 Ar37 (j := (1 : Int32)) hin37 (g := (mkF m 18 #[.val (.ref a1), .val (.int (0 : Int32)), .val (.int (3 : Int32)), .val (.int (1 : Int32))] [(.int (t1 + (1 : Int32))), (.int (1 : Int32)), (.ref b)])) rfl rfl (hb hby d_prog_52_method_8_18)
    replace E_a1 := E_a1.wr W37
    replace F_t := F_t.other W37 (Or.inl hne)
    have V37 : Arv Z h37 b k .int (4 : Int32) [(.int (t0 + (1 : Int32))), (.int (t1 + (1 : Int32))), (.int t2), (.int t3)] (.int (0 : Int32)) := Arv.set Ar37 q37 S37 N37z H37 G37 rfl W37 1 rfl (Nat.le_of_ble_eq_true rfl)
    have N37 := Fr.snoc X37 N34 g_b
    have hn37 : n0 ≤ h37.size := Nat.le_trans hn34 (Keep.of_wr W37).1
    have K37 := K34.wr W37 (Or.inl (List.mem_of_getElem? (i := 0) rfl))
    refine own_go (fun t k => st37 t k) ?_
    show Go _ _ _ _ _ T37 (mkF m 19 #[.val (.ref a1), .val (.int (0 : Int32)), .val (.int (3 : Int32)), .val (.int (1 : Int32))] [])
    refine own_go (fun t k => XS.iinc X37.here hx rfl (hb hby d_prog_52_method_8_19) rfl (l' := #[.val (.ref a1), .val (.int (0 : Int32)), .val (.int (3 : Int32)), .val (.int (2 : Int32))]) rfl k) ?_
    show Go _ _ _ _ _ T37 (mkF m 22 #[.val (.ref a1), .val (.int (0 : Int32)), .val (.int (3 : Int32)), .val (.int (2 : Int32))] [])
    refine own_go (fun t k => XS.goto X37.here hx rfl (pc0 := 22) (pc' := 2) rfl (hb hby d_prog_52_method_8_22) (by decide) (by decide) k) ?_
    show Go _ _ _ _ _ T37 (mkF m 2 #[.val (.ref a1), .val (.int (0 : Int32)), .val (.int (3 : Int32)), .val (.int (2 : Int32))] [])
    refine own_go (fun t k => XS.iloadN X37.here hx rfl (hb hby d_prog_52_method_8_2) rfl k) ?_
    show Go _ _ _ _ _ T37 (mkF m 3 #[.val (.ref a1), .val (.int (0 : Int32)), .val (.int (3 : Int32)), .val (.int (2 : Int32))] [(.int (2 : Int32))])
    refine own_go (fun t k => XS.iloadN X37.here hx rfl (hb hby d_prog_52_method_8_3) rfl k) ?_
    show Go _ _ _ _ _ T37 (mkF m 4 #[.val (.ref a1), .val (.int (0 : Int32)), .val (.int (3 : Int32)), .val (.int (2 : Int32))] [(.int (0 : Int32)), (.int (2 : Int32))])
    refine own_go (fun t k => XS.iloadN X37.here hx rfl (hb hby d_prog_52_method_8_4) rfl k) ?_
    show Go _ _ _ _ _ T37 (mkF m 5 #[.val (.ref a1), .val (.int (0 : Int32)), .val (.int (3 : Int32)), .val (.int (2 : Int32))] [(.int (3 : Int32)), (.int (0 : Int32)), (.int (2 : Int32))])
    refine own_go (fun t k => XS.iadd X37.here hx rfl (hb hby d_prog_52_method_8_5) rfl k) ?_
    show Go _ _ _ _ _ T37 (mkF m 6 #[.val (.ref a1), .val (.int (0 : Int32)), .val (.int (3 : Int32)), .val (.int (2 : Int32))] [(.int (3 : Int32)), (.int (2 : Int32))])
    refine own_go (fun t k => XS.icmpNo X37.here hx rfl (hb hby d_prog_52_method_8_6) rfl (by decide) k) ?_
    show Go _ _ _ _ _ T37 (mkF m 9 #[.val (.ref a1), .val (.int (0 : Int32)), .val (.int (3 : Int32)), .val (.int (2 : Int32))] [])
    refine own_go (fun t k => XS.aloadN X37.here hx rfl (hb hby d_prog_52_method_8_9) rfl rfl k) ?_
    show Go _ _ _ _ _ T37 (mkF m 10 #[.val (.ref a1), .val (.int (0 : Int32)), .val (.int (3 : Int32)), .val (.int (2 : Int32))] [(.ref a1)])
    obtain ⟨T38, X38, e38, st38⟩ := getF X37 hx hZ hown (host := "") (Or.inl (hw _ (List.mem_of_getElem? (i := 19) rfl))) Via.refl e37 F_t (g := (mkF m 10 #[.val (.ref a1), .val (.int (0 : Int32)), .val (.int (3 : Int32)), .val (.int (2 : Int32))] [(.ref a1)])) rfl rfl (hb hby d_prog_52_method_8_10)
    refine own_go (fun t k => st38 t k) ?_
    show Go _ _ _ _ _ T38 (mkF m 13 #[.val (.ref a1), .val (.int (0 : Int32)), .val (.int (3 : Int32)), .val (.int (2 : Int32))] [(.ref b)])
    refine own_go (fun t k => XS.iloadN X38.here hx rfl (hb hby d_prog_52_method_8_13) rfl k) ?_
    show Go _ _ _ _ _ T38 (mkF m 14 #[.val (.ref a1), .val (.int (0 : Int32)), .val (.int (3 : Int32)), .val (.int (2 : Int32))] [(.int (2 : Int32)), (.ref b)])
    refine own_go (fun t k => XT.dup2 X38.here hx rfl (hb hby d_prog_52_method_8_14) rfl rfl rfl k) ?_
    show Go _ _ _ _ _ T38 (mkF m 15 #[.val (.ref a1), .val (.int (0 : Int32)), .val (.int (3 : Int32)), .val (.int (2 : Int32))] [(.int (2 : Int32)), (.ref b), (.int (2 : Int32)), (.ref b)])
    obtain ⟨cl39, Ar39, q39, S39, N39z, H39, G39⟩ := id V37
    have hin39 := inb_of S39 (j := (2 : Int32)) (z := (4 : Int32)) ⟨by decide, by decide⟩
    have hat39 : cl39.slots[((2 : Int32)).toNatClampNeg]? = some (.int t2) := H39 _ (Nat.lt_of_not_le fun q => hin39 (Or.inr q))
    refine own_go (fun t k => X38.iaload hx (j := (2 : Int32)) (v := (.int t2)) (by rw [e38]; exact Ar39.1) (State.isArrayOf_alike hZ.alike Ar39.2.1) Ar39.2.2 hin39 hat39 (g := (mkF m 15 #[.val (.ref a1), .val (.int (0 : Int32)), .val (.int (3 : Int32)), .val (.int (2 : Int32))] [(.int (2 : Int32)), (.ref b), (.int (2 : Int32)), (.ref b)])) rfl rfl (hb hby d_prog_52_method_8_15) _ k) ?_
    show Go _ _ _ _ _ T38 (mkF m 16 #[.val (.ref a1), .val (.int (0 : Int32)), .val (.int (3 : Int32)), .val (.int (2 : Int32))] [(.int t2), (.int (2 : Int32)), (.ref b)])
    refine own_go (fun t k => XS.iconst X38.here hx rfl (hb hby d_prog_52_method_8_16) k) ?_
    show Go _ _ _ _ _ T38 (mkF m 17 #[.val (.ref a1), .val (.int (0 : Int32)), .val (.int (3 : Int32)), .val (.int (2 : Int32))] [(.int (1 : Int32)), (.int t2), (.int (2 : Int32)), (.ref b)])
    refine own_go (fun t k => XS.iadd X38.here hx rfl (hb hby d_prog_52_method_8_17) rfl k) ?_
    show Go _ _ _ _ _ T38 (mkF m 18 #[.val (.ref a1), .val (.int (0 : Int32)), .val (.int (3 : Int32)), .val (.int (2 : Int32))] [(.int (t2 + (1 : Int32))), (.int (2 : Int32)), (.ref b)])
    obtain ⟨cl40, Ar40, q40, S40, N40z, H40, G40⟩ := V37
    have hin40 := inb_of S40 (j := (2 : Int32)) (z := (4 : Int32)) ⟨by decide, by decide⟩
    obtain ⟨T40, h40, X40, e40, W40, st40⟩ := stI X38 hx hZ e38 Ar40 (j := (2 : Int32)) hin40 (g := (mkF m 18 #[.val (.ref a1), .val (.int (0 : Int32)), .val (.int (3 : Int32)), .val (.int (2 : Int32))] [(.int (t2 + (1 : Int32))), (.int (2 : Int32)), (.ref b)])) rfl rfl (hb hby d_prog_52_method_8_18)
    replace E_a1 := E_a1.wr W40
    replace F_t := F_t.other W40 (Or.inl hne)
    have V40 : Arv Z h40 b k .int (4 : Int32) [(.int (t0 + (1 : Int32))), (.int (t1 + (1 : Int32))), (.int (t2 + (1 : Int32))), (.int t3)] (.int (0 : Int32)) := Arv.set Ar40 q40 S40 N40z H40 G40 rfl W40 2 rfl (Nat.le_of_ble_eq_true rfl)
    have N40 := Fr.snoc X40 N37 g_b
    have hn40 : n0 ≤ h40.size := Nat.le_trans hn37 (Keep.of_wr W40).1
    have K40 := K37.wr W40 (Or.inl (List.mem_of_getElem? (i := 0) rfl))
    refine own_go (fun t k => st40 t k) ?_
    show Go _ _ _ _ _ T40 (mkF m 19 #[.val (.ref a1), .val (.int (0 : Int32)), .val (.int (3 : Int32)), .val (.int (2 : Int32))] [])
    refine own_go (fun t k => XS.iinc X40.here hx rfl (hb hby d_prog_52_method_8_19) rfl (l' := #[.val (.ref a1), .val (.int (0 : Int32)), .val (.int (3 : Int32)), .val (.int (3 : Int32))]) rfl k) ?_
    show Go _ _ _ _ _ T40 (mkF m 22 #[.val (.ref a1), .val (.int (0 : Int32)), .val (.int (3 : Int32)), .val (.int (3 : Int32))] [])
    refine own_go (fun t k => XS.goto X40.here hx rfl (pc0 := 22) (pc' := 2) rfl (hb hby d_prog_52_method_8_22) (by decide) (by decide) k) ?_
    show Go _ _ _ _ _ T40 (mkF m 2 #[.val (.ref a1), .val (.int (0 : Int32)), .val (.int (3 : Int32)), .val (.int (3 : Int32))] [])
    refine own_go (fun t k => XS.iloadN X40.here hx rfl (hb hby d_prog_52_method_8_2) rfl k) ?_
    show Go _ _ _ _ _ T40 (mkF m 3 #[.val (.ref a1), .val (.int (0 : Int32)), .val (.int (3 : Int32)), .val (.int (3 : Int32))] [(.int (3 : Int32))])
    refine own_go (fun t k => XS.iloadN X40.here hx rfl (hb hby d_prog_52_method_8_3) rfl k) ?_
    show Go _ _ _ _ _ T40 (mkF m 4 #[.val (.ref a1), .val (.int (0 : Int32)), .val (.int (3 : Int32)), .val (.int (3 : Int32))] [(.int (0 : Int32)), (.int (3 : Int32))])
    refine own_go (fun t k => XS.iloadN X40.here hx rfl (hb hby d_prog_52_method_8_4) rfl k) ?_
    show Go _ _ _ _ _ T40 (mkF m 5 #[.val (.ref a1), .val (.int (0 : Int32)), .val (.int (3 : Int32)), .val (.int (3 : Int32))] [(.int (3 : Int32)), (.int (0 : Int32)), (.int (3 : Int32))])
    refine own_go (fun t k => XS.iadd X40.here hx rfl (hb hby d_prog_52_method_8_5) rfl k) ?_
    show Go _ _ _ _ _ T40 (mkF m 6 #[.val (.ref a1), .val (.int (0 : Int32)), .val (.int (3 : Int32)), .val (.int (3 : Int32))] [(.int (3 : Int32)), (.int (3 : Int32))])
    refine own_go (fun t k => XS.icmpYes X40.here hx rfl (pc0 := 6) (pc' := 25) rfl (hb hby d_prog_52_method_8_6) rfl (by decide) (by decide) (by decide) k) ?_
    show Go _ _ _ _ _ T40 (mkF m 25 #[.val (.ref a1), .val (.int (0 : Int32)), .val (.int (3 : Int32)), .val (.int (3 : Int32))] [])
    refine own_retV X40 hx (own_lvN X40 hlk (by decide) (by decide)) hret (hb hby d_prog_52_method_8_25) ?_
    rw [e40]
    have i0 : own_in (0 : Int32) (0 : Int32) (3 : Int32) = 1 := by decide
    have i1 : own_in (1 : Int32) (0 : Int32) (3 : Int32) = 1 := by decide
    have i2 : own_in (2 : Int32) (0 : Int32) (3 : Int32) = 1 := by decide
    have i3 : own_in (3 : Int32) (0 : Int32) (3 : Int32) = 0 := by decide
    refine ⟨rfl, N40, K40, ?_⟩
    have hV := V40
    rw [i0, i1, i2, i3]
    simpa only [Int32.add_zero] using hV
  · skip
    show Go _ _ _ _ _ s₁ (mkF m 0 #[.val (.ref a1), .val (.int (0 : Int32)), .val (.int (4 : Int32)), .unset] [])
    refine own_go (fun t k => XS.iloadN X0.here hx rfl (hb hby d_prog_52_method_8_0) rfl k) ?_
    show Go _ _ _ _ _ s₁ (mkF m 1 #[.val (.ref a1), .val (.int (0 : Int32)), .val (.int (4 : Int32)), .unset] [(.int (0 : Int32))])
    refine own_go (fun t k => XS.istoreN X0.here hx rfl (hb hby d_prog_52_method_8_1) rfl (l' := #[.val (.ref a1), .val (.int (0 : Int32)), .val (.int (4 : Int32)), .val (.int (0 : Int32))]) rfl k) ?_
    show Go _ _ _ _ _ s₁ (mkF m 2 #[.val (.ref a1), .val (.int (0 : Int32)), .val (.int (4 : Int32)), .val (.int (0 : Int32))] [])
    refine own_go (fun t k => XS.iloadN X0.here hx rfl (hb hby d_prog_52_method_8_2) rfl k) ?_
    show Go _ _ _ _ _ s₁ (mkF m 3 #[.val (.ref a1), .val (.int (0 : Int32)), .val (.int (4 : Int32)), .val (.int (0 : Int32))] [(.int (0 : Int32))])
    refine own_go (fun t k => XS.iloadN X0.here hx rfl (hb hby d_prog_52_method_8_3) rfl k) ?_
    show Go _ _ _ _ _ s₁ (mkF m 4 #[.val (.ref a1), .val (.int (0 : Int32)), .val (.int (4 : Int32)), .val (.int (0 : Int32))] [(.int (0 : Int32)), (.int (0 : Int32))])
    refine own_go (fun t k => XS.iloadN X0.here hx rfl (hb hby d_prog_52_method_8_4) rfl k) ?_
    show Go _ _ _ _ _ s₁ (mkF m 5 #[.val (.ref a1), .val (.int (0 : Int32)), .val (.int (4 : Int32)), .val (.int (0 : Int32))] [(.int (4 : Int32)), (.int (0 : Int32)), (.int (0 : Int32))])
    refine own_go (fun t k => XS.iadd X0.here hx rfl (hb hby d_prog_52_method_8_5) rfl k) ?_
    show Go _ _ _ _ _ s₁ (mkF m 6 #[.val (.ref a1), .val (.int (0 : Int32)), .val (.int (4 : Int32)), .val (.int (0 : Int32))] [(.int (4 : Int32)), (.int (0 : Int32))])
    refine own_go (fun t k => XS.icmpNo X0.here hx rfl (hb hby d_prog_52_method_8_6) rfl (by decide) k) ?_
    show Go _ _ _ _ _ s₁ (mkF m 9 #[.val (.ref a1), .val (.int (0 : Int32)), .val (.int (4 : Int32)), .val (.int (0 : Int32))] [])
    refine own_go (fun t k => XS.aloadN X0.here hx rfl (hb hby d_prog_52_method_8_9) rfl rfl k) ?_
    show Go _ _ _ _ _ s₁ (mkF m 10 #[.val (.ref a1), .val (.int (0 : Int32)), .val (.int (4 : Int32)), .val (.int (0 : Int32))] [(.ref a1)])
    obtain ⟨T41, X41, e41, st41⟩ := getF X0 hx hZ hown (host := "") (Or.inl (hw _ (List.mem_of_getElem? (i := 19) rfl))) Via.refl e0 F_t (g := (mkF m 10 #[.val (.ref a1), .val (.int (0 : Int32)), .val (.int (4 : Int32)), .val (.int (0 : Int32))] [(.ref a1)])) rfl rfl (hb hby d_prog_52_method_8_10)
    refine own_go (fun t k => st41 t k) ?_
    show Go _ _ _ _ _ T41 (mkF m 13 #[.val (.ref a1), .val (.int (0 : Int32)), .val (.int (4 : Int32)), .val (.int (0 : Int32))] [(.ref b)])
    refine own_go (fun t k => XS.iloadN X41.here hx rfl (hb hby d_prog_52_method_8_13) rfl k) ?_
    show Go _ _ _ _ _ T41 (mkF m 14 #[.val (.ref a1), .val (.int (0 : Int32)), .val (.int (4 : Int32)), .val (.int (0 : Int32))] [(.int (0 : Int32)), (.ref b)])
    refine own_go (fun t k => XT.dup2 X41.here hx rfl (hb hby d_prog_52_method_8_14) rfl rfl rfl k) ?_
    show Go _ _ _ _ _ T41 (mkF m 15 #[.val (.ref a1), .val (.int (0 : Int32)), .val (.int (4 : Int32)), .val (.int (0 : Int32))] [(.int (0 : Int32)), (.ref b), (.int (0 : Int32)), (.ref b)])
    obtain ⟨cl42, Ar42, q42, S42, N42z, H42, G42⟩ := id V_b
    have hin42 := inb_of S42 (j := (0 : Int32)) (z := (4 : Int32)) ⟨by decide, by decide⟩
    have hat42 : cl42.slots[((0 : Int32)).toNatClampNeg]? = some (.int t0) := H42 _ (Nat.lt_of_not_le fun q => hin42 (Or.inr q))
    refine own_go (fun t k => X41.iaload hx (j := (0 : Int32)) (v := (.int t0)) (by rw [e41]; exact Ar42.1) (State.isArrayOf_alike hZ.alike Ar42.2.1) Ar42.2.2 hin42 hat42 (g := (mkF m 15 #[.val (.ref a1), .val (.int (0 : Int32)), .val (.int (4 : Int32)), .val (.int (0 : Int32))] [(.int (0 : Int32)), (.ref b), (.int (0 : Int32)), (.ref b)])) rfl rfl (hb hby d_prog_52_method_8_15) _ k) ?_
    show Go _ _ _ _ _ T41 (mkF m 16 #[.val (.ref a1), .val (.int (0 : Int32)), .val (.int (4 : Int32)), .val (.int (0 : Int32))] [(.int t0), (.int (0 : Int32)), (.ref b)])
    refine own_go (fun t k => XS.iconst X41.here hx rfl (hb hby d_prog_52_method_8_16) k) ?_
    show Go _ _ _ _ _ T41 (mkF m 17 #[.val (.ref a1), .val (.int (0 : Int32)), .val (.int (4 : Int32)), .val (.int (0 : Int32))] [(.int (1 : Int32)), (.int t0), (.int (0 : Int32)), (.ref b)])
    refine own_go (fun t k => XS.iadd X41.here hx rfl (hb hby d_prog_52_method_8_17) rfl k) ?_
    show Go _ _ _ _ _ T41 (mkF m 18 #[.val (.ref a1), .val (.int (0 : Int32)), .val (.int (4 : Int32)), .val (.int (0 : Int32))] [(.int (t0 + (1 : Int32))), (.int (0 : Int32)), (.ref b)])
    obtain ⟨cl43, Ar43, q43, S43, N43z, H43, G43⟩ := V_b
    have hin43 := inb_of S43 (j := (0 : Int32)) (z := (4 : Int32)) ⟨by decide, by decide⟩
    obtain ⟨T43, h43, X43, e43, W43, st43⟩ := stI X41 hx hZ e41 Ar43 (j := (0 : Int32)) hin43 (g := (mkF m 18 #[.val (.ref a1), .val (.int (0 : Int32)), .val (.int (4 : Int32)), .val (.int (0 : Int32))] [(.int (t0 + (1 : Int32))), (.int (0 : Int32)), (.ref b)])) rfl rfl (hb hby d_prog_52_method_8_18)
    replace E_a1 := E_a1.wr W43
    replace F_t := F_t.other W43 (Or.inl hne)
    have V43 : Arv Z h43 b k .int (4 : Int32) [(.int (t0 + (1 : Int32))), (.int t1), (.int t2), (.int t3)] (.int (0 : Int32)) := Arv.set Ar43 q43 S43 N43z H43 G43 rfl W43 0 rfl (Nat.le_of_ble_eq_true rfl)
    have N43 := Fr.snoc X43 N0 g_b
    have hn43 : n0 ≤ h43.size := Nat.le_trans hn0 (Keep.of_wr W43).1
    have K43 := K0.wr W43 (Or.inl (List.mem_of_getElem? (i := 0) rfl))
    refine own_go (fun t k => st43 t k) ?_
    show Go _ _ _ _ _ T43 (mkF m 19 #[.val (.ref a1), .val (.int (0 : Int32)), .val (.int (4 : Int32)), .val (.int (0 : Int32))] [])
    refine own_go (fun t k => XS.iinc X43.here hx rfl (hb hby d_prog_52_method_8_19) rfl (l' := #[.val (.ref a1), .val (.int (0 : Int32)), .val (.int (4 : Int32)), .val (.int (1 : Int32))]) rfl k) ?_
    show Go _ _ _ _ _ T43 (mkF m 22 #[.val (.ref a1), .val (.int (0 : Int32)), .val (.int (4 : Int32)), .val (.int (1 : Int32))] [])
    refine own_go (fun t k => XS.goto X43.here hx rfl (pc0 := 22) (pc' := 2) rfl (hb hby d_prog_52_method_8_22) (by decide) (by decide) k) ?_
    show Go _ _ _ _ _ T43 (mkF m 2 #[.val (.ref a1), .val (.int (0 : Int32)), .val (.int (4 : Int32)), .val (.int (1 : Int32))] [])
    refine own_go (fun t k => XS.iloadN X43.here hx rfl (hb hby d_prog_52_method_8_2) rfl k) ?_
    show Go _ _ _ _ _ T43 (mkF m 3 #[.val (.ref a1), .val (.int (0 : Int32)), .val (.int (4 : Int32)), .val (.int (1 : Int32))] [(.int (1 : Int32))])
    refine own_go (fun t k => XS.iloadN X43.here hx rfl (hb hby d_prog_52_method_8_3) rfl k) ?_
    show Go _ _ _ _ _ T43 (mkF m 4 #[.val (.ref a1), .val (.int (0 : Int32)), .val (.int (4 : Int32)), .val (.int (1 : Int32))] [(.int (0 : Int32)), (.int (1 : Int32))])
    refine own_go (fun t k => XS.iloadN X43.here hx rfl (hb hby d_prog_52_method_8_4) rfl k) ?_
    show Go _ _ _ _ _ T43 (mkF m 5 #[.val (.ref a1), .val (.int (0 : Int32)), .val (.int (4 : Int32)), .val (.int (1 : Int32))] [(.int (4 : Int32)), (.int (0 : Int32)), (.int (1 : Int32))])
    refine own_go (fun t k => XS.iadd X43.here hx rfl (hb hby d_prog_52_method_8_5) rfl k) ?_
    show Go _ _ _ _ _ T43 (mkF m 6 #[.val (.ref a1), .val (.int (0 : Int32)), .val (.int (4 : Int32)), .val (.int (1 : Int32))] [(.int (4 : Int32)), (.int (1 : Int32))])
    refine own_go (fun t k => XS.icmpNo X43.here hx rfl (hb hby d_prog_52_method_8_6) rfl (by decide) k) ?_
    show Go _ _ _ _ _ T43 (mkF m 9 #[.val (.ref a1), .val (.int (0 : Int32)), .val (.int (4 : Int32)), .val (.int (1 : Int32))] [])
    refine own_go (fun t k => XS.aloadN X43.here hx rfl (hb hby d_prog_52_method_8_9) rfl rfl k) ?_
    show Go _ _ _ _ _ T43 (mkF m 10 #[.val (.ref a1), .val (.int (0 : Int32)), .val (.int (4 : Int32)), .val (.int (1 : Int32))] [(.ref a1)])
    obtain ⟨T44, X44, e44, st44⟩ := getF X43 hx hZ hown (host := "") (Or.inl (hw _ (List.mem_of_getElem? (i := 19) rfl))) Via.refl e43 F_t (g := (mkF m 10 #[.val (.ref a1), .val (.int (0 : Int32)), .val (.int (4 : Int32)), .val (.int (1 : Int32))] [(.ref a1)])) rfl rfl (hb hby d_prog_52_method_8_10)
    refine own_go (fun t k => st44 t k) ?_
    show Go _ _ _ _ _ T44 (mkF m 13 #[.val (.ref a1), .val (.int (0 : Int32)), .val (.int (4 : Int32)), .val (.int (1 : Int32))] [(.ref b)])
    refine own_go (fun t k => XS.iloadN X44.here hx rfl (hb hby d_prog_52_method_8_13) rfl k) ?_
    show Go _ _ _ _ _ T44 (mkF m 14 #[.val (.ref a1), .val (.int (0 : Int32)), .val (.int (4 : Int32)), .val (.int (1 : Int32))] [(.int (1 : Int32)), (.ref b)])
    refine own_go (fun t k => XT.dup2 X44.here hx rfl (hb hby d_prog_52_method_8_14) rfl rfl rfl k) ?_
    show Go _ _ _ _ _ T44 (mkF m 15 #[.val (.ref a1), .val (.int (0 : Int32)), .val (.int (4 : Int32)), .val (.int (1 : Int32))] [(.int (1 : Int32)), (.ref b), (.int (1 : Int32)), (.ref b)])
    obtain ⟨cl45, Ar45, q45, S45, N45z, H45, G45⟩ := id V43
    have hin45 := inb_of S45 (j := (1 : Int32)) (z := (4 : Int32)) ⟨by decide, by decide⟩
    have hat45 : cl45.slots[((1 : Int32)).toNatClampNeg]? = some (.int t1) := H45 _ (Nat.lt_of_not_le fun q => hin45 (Or.inr q))
    refine own_go (fun t k => X44.iaload hx (j := (1 : Int32)) (v := (.int t1)) (by rw [e44]; exact Ar45.1) (State.isArrayOf_alike hZ.alike Ar45.2.1) Ar45.2.2 hin45 hat45 (g := (mkF m 15 #[.val (.ref a1), .val (.int (0 : Int32)), .val (.int (4 : Int32)), .val (.int (1 : Int32))] [(.int (1 : Int32)), (.ref b), (.int (1 : Int32)), (.ref b)])) rfl rfl (hb hby d_prog_52_method_8_15) _ k) ?_
    show Go _ _ _ _ _ T44 (mkF m 16 #[.val (.ref a1), .val (.int (0 : Int32)), .val (.int (4 : Int32)), .val (.int (1 : Int32))] [(.int t1), (.int (1 : Int32)), (.ref b)])
    refine own_go (fun t k => XS.iconst X44.here hx rfl (hb hby d_prog_52_method_8_16) k) ?_
    show Go _ _ _ _ _ T44 (mkF m 17 #[.val (.ref a1), .val (.int (0 : Int32)), .val (.int (4 : Int32)), .val (.int (1 : Int32))] [(.int (1 : Int32)), (.int t1), (.int (1 : Int32)), (.ref b)])
    refine own_go (fun t k => XS.iadd X44.here hx rfl (hb hby d_prog_52_method_8_17) rfl k) ?_
    show Go _ _ _ _ _ T44 (mkF m 18 #[.val (.ref a1), .val (.int (0 : Int32)), .val (.int (4 : Int32)), .val (.int (1 : Int32))] [(.int (t1 + (1 : Int32))), (.int (1 : Int32)), (.ref b)])
    obtain ⟨cl46, Ar46, q46, S46, N46z, H46, G46⟩ := V43
    have hin46 := inb_of S46 (j := (1 : Int32)) (z := (4 : Int32)) ⟨by decide, by decide⟩
    obtain ⟨T46, h46, X46, e46, W46, st46⟩ := stI X44 hx hZ e44 Ar46 (j := (1 : Int32)) hin46 (g := (mkF m 18 #[.val (.ref a1), .val (.int (0 : Int32)), .val (.int (4 : Int32)), .val (.int (1 : Int32))] [(.int (t1 + (1 : Int32))), (.int (1 : Int32)), (.ref b)])) rfl rfl (hb hby d_prog_52_method_8_18)
    replace E_a1 := E_a1.wr W46
    replace F_t := F_t.other W46 (Or.inl hne)
    have V46 : Arv Z h46 b k .int (4 : Int32) [(.int (t0 + (1 : Int32))), (.int (t1 + (1 : Int32))), (.int t2), (.int t3)] (.int (0 : Int32)) := Arv.set Ar46 q46 S46 N46z H46 G46 rfl W46 1 rfl (Nat.le_of_ble_eq_true rfl)
    have N46 := Fr.snoc X46 N43 g_b
    have hn46 : n0 ≤ h46.size := Nat.le_trans hn43 (Keep.of_wr W46).1
    have K46 := K43.wr W46 (Or.inl (List.mem_of_getElem? (i := 0) rfl))
    refine own_go (fun t k => st46 t k) ?_
    show Go _ _ _ _ _ T46 (mkF m 19 #[.val (.ref a1), .val (.int (0 : Int32)), .val (.int (4 : Int32)), .val (.int (1 : Int32))] [])
    refine own_go (fun t k => XS.iinc X46.here hx rfl (hb hby d_prog_52_method_8_19) rfl (l' := #[.val (.ref a1), .val (.int (0 : Int32)), .val (.int (4 : Int32)), .val (.int (2 : Int32))]) rfl k) ?_
    show Go _ _ _ _ _ T46 (mkF m 22 #[.val (.ref a1), .val (.int (0 : Int32)), .val (.int (4 : Int32)), .val (.int (2 : Int32))] [])
    refine own_go (fun t k => XS.goto X46.here hx rfl (pc0 := 22) (pc' := 2) rfl (hb hby d_prog_52_method_8_22) (by decide) (by decide) k) ?_
    show Go _ _ _ _ _ T46 (mkF m 2 #[.val (.ref a1), .val (.int (0 : Int32)), .val (.int (4 : Int32)), .val (.int (2 : Int32))] [])
    refine own_go (fun t k => XS.iloadN X46.here hx rfl (hb hby d_prog_52_method_8_2) rfl k) ?_
    show Go _ _ _ _ _ T46 (mkF m 3 #[.val (.ref a1), .val (.int (0 : Int32)), .val (.int (4 : Int32)), .val (.int (2 : Int32))] [(.int (2 : Int32))])
    refine own_go (fun t k => XS.iloadN X46.here hx rfl (hb hby d_prog_52_method_8_3) rfl k) ?_
    show Go _ _ _ _ _ T46 (mkF m 4 #[.val (.ref a1), .val (.int (0 : Int32)), .val (.int (4 : Int32)), .val (.int (2 : Int32))] [(.int (0 : Int32)), (.int (2 : Int32))])
    refine own_go (fun t k => XS.iloadN X46.here hx rfl (hb hby d_prog_52_method_8_4) rfl k) ?_
    show Go _ _ _ _ _ T46 (mkF m 5 #[.val (.ref a1), .val (.int (0 : Int32)), .val (.int (4 : Int32)), .val (.int (2 : Int32))] [(.int (4 : Int32)), (.int (0 : Int32)), (.int (2 : Int32))])
    refine own_go (fun t k => XS.iadd X46.here hx rfl (hb hby d_prog_52_method_8_5) rfl k) ?_
    show Go _ _ _ _ _ T46 (mkF m 6 #[.val (.ref a1), .val (.int (0 : Int32)), .val (.int (4 : Int32)), .val (.int (2 : Int32))] [(.int (4 : Int32)), (.int (2 : Int32))])
    refine own_go (fun t k => XS.icmpNo X46.here hx rfl (hb hby d_prog_52_method_8_6) rfl (by decide) k) ?_
    show Go _ _ _ _ _ T46 (mkF m 9 #[.val (.ref a1), .val (.int (0 : Int32)), .val (.int (4 : Int32)), .val (.int (2 : Int32))] [])
    refine own_go (fun t k => XS.aloadN X46.here hx rfl (hb hby d_prog_52_method_8_9) rfl rfl k) ?_
    show Go _ _ _ _ _ T46 (mkF m 10 #[.val (.ref a1), .val (.int (0 : Int32)), .val (.int (4 : Int32)), .val (.int (2 : Int32))] [(.ref a1)])
    obtain ⟨T47, X47, e47, st47⟩ := getF X46 hx hZ hown (host := "") (Or.inl (hw _ (List.mem_of_getElem? (i := 19) rfl))) Via.refl e46 F_t (g := (mkF m 10 #[.val (.ref a1), .val (.int (0 : Int32)), .val (.int (4 : Int32)), .val (.int (2 : Int32))] [(.ref a1)])) rfl rfl (hb hby d_prog_52_method_8_10)
    refine own_go (fun t k => st47 t k) ?_
    show Go _ _ _ _ _ T47 (mkF m 13 #[.val (.ref a1), .val (.int (0 : Int32)), .val (.int (4 : Int32)), .val (.int (2 : Int32))] [(.ref b)])
    refine own_go (fun t k => XS.iloadN X47.here hx rfl (hb hby d_prog_52_method_8_13) rfl k) ?_
    show Go _ _ _ _ _ T47 (mkF m 14 #[.val (.ref a1), .val (.int (0 : Int32)), .val (.int (4 : Int32)), .val (.int (2 : Int32))] [(.int (2 : Int32)), (.ref b)])
    refine own_go (fun t k => XT.dup2 X47.here hx rfl (hb hby d_prog_52_method_8_14) rfl rfl rfl k) ?_
    show Go _ _ _ _ _ T47 (mkF m 15 #[.val (.ref a1), .val (.int (0 : Int32)), .val (.int (4 : Int32)), .val (.int (2 : Int32))] [(.int (2 : Int32)), (.ref b), (.int (2 : Int32)), (.ref b)])
    obtain ⟨cl48, Ar48, q48, S48, N48z, H48, G48⟩ := id V46
    have hin48 := inb_of S48 (j := (2 : Int32)) (z := (4 : Int32)) ⟨by decide, by decide⟩
    have hat48 : cl48.slots[((2 : Int32)).toNatClampNeg]? = some (.int t2) := H48 _ (Nat.lt_of_not_le fun q => hin48 (Or.inr q))
    refine own_go (fun t k => X47.iaload hx (j := (2 : Int32)) (v := (.int t2)) (by rw [e47]; exact Ar48.1) (State.isArrayOf_alike hZ.alike Ar48.2.1) Ar48.2.2 hin48 hat48 (g := (mkF m 15 #[.val (.ref a1), .val (.int (0 : Int32)), .val (.int (4 : Int32)), .val (.int (2 : Int32))] [(.int (2 : Int32)), (.ref b), (.int (2 : Int32)), (.ref b)])) rfl rfl (hb hby d_prog_52_method_8_15) _ k) ?_
    show Go _ _ _ _ _ T47 (mkF m 16 #[.val (.ref a1), .val (.int (0 : Int32)), .val (.int (4 : Int32)), .val (.int (2 : Int32))] [(.int t2), (.int (2 : Int32)), (.ref b)])
    refine own_go (fun t k => XS.iconst X47.here hx rfl (hb hby d_prog_52_method_8_16) k) ?_
    show Go _ _ _ _ _ T47 (mkF m 17 #[.val (.ref a1), .val (.int (0 : Int32)), .val (.int (4 : Int32)), .val (.int (2 : Int32))] [(.int (1 : Int32)), (.int t2), (.int (2 : Int32)), (.ref b)])
    refine own_go (fun t k => XS.iadd X47.here hx rfl (hb hby d_prog_52_method_8_17) rfl k) ?_
    show Go _ _ _ _ _ T47 (mkF m 18 #[.val (.ref a1), .val (.int (0 : Int32)), .val (.int (4 : Int32)), .val (.int (2 : Int32))] [(.int (t2 + (1 : Int32))), (.int (2 : Int32)), (.ref b)])
    obtain ⟨cl49, Ar49, q49, S49, N49z, H49, G49⟩ := V46
    have hin49 := inb_of S49 (j := (2 : Int32)) (z := (4 : Int32)) ⟨by decide, by decide⟩
    obtain ⟨T49, h49, X49, e49, W49, st49⟩ := stI X47 hx hZ e47 Ar49 (j := (2 : Int32)) hin49 (g := (mkF m 18 #[.val (.ref a1), .val (.int (0 : Int32)), .val (.int (4 : Int32)), .val (.int (2 : Int32))] [(.int (t2 + (1 : Int32))), (.int (2 : Int32)), (.ref b)])) rfl rfl (hb hby d_prog_52_method_8_18)
    replace E_a1 := E_a1.wr W49
    replace F_t := F_t.other W49 (Or.inl hne)
    have V49 : Arv Z h49 b k .int (4 : Int32) [(.int (t0 + (1 : Int32))), (.int (t1 + (1 : Int32))), (.int (t2 + (1 : Int32))), (.int t3)] (.int (0 : Int32)) := Arv.set Ar49 q49 S49 N49z H49 G49 rfl W49 2 rfl (Nat.le_of_ble_eq_true rfl)
    have N49 := Fr.snoc X49 N46 g_b
    have hn49 : n0 ≤ h49.size := Nat.le_trans hn46 (Keep.of_wr W49).1
    have K49 := K46.wr W49 (Or.inl (List.mem_of_getElem? (i := 0) rfl))
    refine own_go (fun t k => st49 t k) ?_
    show Go _ _ _ _ _ T49 (mkF m 19 #[.val (.ref a1), .val (.int (0 : Int32)), .val (.int (4 : Int32)), .val (.int (2 : Int32))] [])
    refine own_go (fun t k => XS.iinc X49.here hx rfl (hb hby d_prog_52_method_8_19) rfl (l' := #[.val (.ref a1), .val (.int (0 : Int32)), .val (.int (4 : Int32)), .val (.int (3 : Int32))]) rfl k) ?_
    show Go _ _ _ _ _ T49 (mkF m 22 #[.val (.ref a1), .val (.int (0 : Int32)), .val (.int (4 : Int32)), .val (.int (3 : Int32))] [])
    refine own_go (fun t k => XS.goto X49.here hx rfl (pc0 := 22) (pc' := 2) rfl (hb hby d_prog_52_method_8_22) (by decide) (by decide) k) ?_
    show Go _ _ _ _ _ T49 (mkF m 2 #[.val (.ref a1), .val (.int (0 : Int32)), .val (.int (4 : Int32)), .val (.int (3 : Int32))] [])
    refine own_go (fun t k => XS.iloadN X49.here hx rfl (hb hby d_prog_52_method_8_2) rfl k) ?_
    show Go _ _ _ _ _ T49 (mkF m 3 #[.val (.ref a1), .val (.int (0 : Int32)), .val (.int (4 : Int32)), .val (.int (3 : Int32))] [(.int (3 : Int32))])
    refine own_go (fun t k => XS.iloadN X49.here hx rfl (hb hby d_prog_52_method_8_3) rfl k) ?_
    show Go _ _ _ _ _ T49 (mkF m 4 #[.val (.ref a1), .val (.int (0 : Int32)), .val (.int (4 : Int32)), .val (.int (3 : Int32))] [(.int (0 : Int32)), (.int (3 : Int32))])
    refine own_go (fun t k => XS.iloadN X49.here hx rfl (hb hby d_prog_52_method_8_4) rfl k) ?_
    show Go _ _ _ _ _ T49 (mkF m 5 #[.val (.ref a1), .val (.int (0 : Int32)), .val (.int (4 : Int32)), .val (.int (3 : Int32))] [(.int (4 : Int32)), (.int (0 : Int32)), (.int (3 : Int32))])
    refine own_go (fun t k => XS.iadd X49.here hx rfl (hb hby d_prog_52_method_8_5) rfl k) ?_
    show Go _ _ _ _ _ T49 (mkF m 6 #[.val (.ref a1), .val (.int (0 : Int32)), .val (.int (4 : Int32)), .val (.int (3 : Int32))] [(.int (4 : Int32)), (.int (3 : Int32))])
    refine own_go (fun t k => XS.icmpNo X49.here hx rfl (hb hby d_prog_52_method_8_6) rfl (by decide) k) ?_
    show Go _ _ _ _ _ T49 (mkF m 9 #[.val (.ref a1), .val (.int (0 : Int32)), .val (.int (4 : Int32)), .val (.int (3 : Int32))] [])
    refine own_go (fun t k => XS.aloadN X49.here hx rfl (hb hby d_prog_52_method_8_9) rfl rfl k) ?_
    show Go _ _ _ _ _ T49 (mkF m 10 #[.val (.ref a1), .val (.int (0 : Int32)), .val (.int (4 : Int32)), .val (.int (3 : Int32))] [(.ref a1)])
    obtain ⟨T50, X50, e50, st50⟩ := getF X49 hx hZ hown (host := "") (Or.inl (hw _ (List.mem_of_getElem? (i := 19) rfl))) Via.refl e49 F_t (g := (mkF m 10 #[.val (.ref a1), .val (.int (0 : Int32)), .val (.int (4 : Int32)), .val (.int (3 : Int32))] [(.ref a1)])) rfl rfl (hb hby d_prog_52_method_8_10)
    refine own_go (fun t k => st50 t k) ?_
    show Go _ _ _ _ _ T50 (mkF m 13 #[.val (.ref a1), .val (.int (0 : Int32)), .val (.int (4 : Int32)), .val (.int (3 : Int32))] [(.ref b)])
    refine own_go (fun t k => XS.iloadN X50.here hx rfl (hb hby d_prog_52_method_8_13) rfl k) ?_
    show Go _ _ _ _ _ T50 (mkF m 14 #[.val (.ref a1), .val (.int (0 : Int32)), .val (.int (4 : Int32)), .val (.int (3 : Int32))] [(.int (3 : Int32)), (.ref b)])
    refine own_go (fun t k => XT.dup2 X50.here hx rfl (hb hby d_prog_52_method_8_14) rfl rfl rfl k) ?_
    show Go _ _ _ _ _ T50 (mkF m 15 #[.val (.ref a1), .val (.int (0 : Int32)), .val (.int (4 : Int32)), .val (.int (3 : Int32))] [(.int (3 : Int32)), (.ref b), (.int (3 : Int32)), (.ref b)])
    obtain ⟨cl51, Ar51, q51, S51, N51z, H51, G51⟩ := id V49
    have hin51 := inb_of S51 (j := (3 : Int32)) (z := (4 : Int32)) ⟨by decide, by decide⟩
    have hat51 : cl51.slots[((3 : Int32)).toNatClampNeg]? = some (.int t3) := H51 _ (Nat.lt_of_not_le fun q => hin51 (Or.inr q))
    refine own_go (fun t k => X50.iaload hx (j := (3 : Int32)) (v := (.int t3)) (by rw [e50]; exact Ar51.1) (State.isArrayOf_alike hZ.alike Ar51.2.1) Ar51.2.2 hin51 hat51 (g := (mkF m 15 #[.val (.ref a1), .val (.int (0 : Int32)), .val (.int (4 : Int32)), .val (.int (3 : Int32))] [(.int (3 : Int32)), (.ref b), (.int (3 : Int32)), (.ref b)])) rfl rfl (hb hby d_prog_52_method_8_15) _ k) ?_
    show Go _ _ _ _ _ T50 (mkF m 16 #[.val (.ref a1), .val (.int (0 : Int32)), .val (.int (4 : Int32)), .val (.int (3 : Int32))] [(.int t3), (.int (3 : Int32)), (.ref b)])
    refine own_go (fun t k => XS.iconst X50.here hx rfl (hb hby d_prog_52_method_8_16) k) ?_
    show Go _ _ _ _ _ T50 (mkF m 17 #[.val (.ref a1), .val (.int (0 : Int32)), .val (.int (4 : Int32)), .val (.int (3 : Int32))] [(.int (1 : Int32)), (.int t3), (.int (3 : Int32)), (.ref b)])
    refine own_go (fun t k => XS.iadd X50.here hx rfl (hb hby d_prog_52_method_8_17) rfl k) ?_
    show Go _ _ _ _ _ T50 (mkF m 18 #[.val (.ref a1), .val (.int (0 : Int32)), .val (.int (4 : Int32)), .val (.int (3 : Int32))] [(.int (t3 + (1 : Int32))), (.int (3 : Int32)), (.ref b)])
    obtain ⟨cl52, Ar52, q52, S52, N52z, H52, G52⟩ := V49
    have hin52 := inb_of S52 (j := (3 : Int32)) (z := (4 : Int32)) ⟨by decide, by decide⟩
    obtain ⟨T52, h52, X52, e52, W52, st52⟩ := stI X50 hx hZ e50 Ar52 (j := (3 : Int32)) hin52 (g := (mkF m 18 #[.val (.ref a1), .val (.int (0 : Int32)), .val (.int (4 : Int32)), .val (.int (3 : Int32))] [(.int (t3 + (1 : Int32))), (.int (3 : Int32)), (.ref b)])) rfl rfl (hb hby d_prog_52_method_8_18)
    replace E_a1 := E_a1.wr W52
    replace F_t := F_t.other W52 (Or.inl hne)
    have V52 : Arv Z h52 b k .int (4 : Int32) [(.int (t0 + (1 : Int32))), (.int (t1 + (1 : Int32))), (.int (t2 + (1 : Int32))), (.int (t3 + (1 : Int32)))] (.int (0 : Int32)) := Arv.set Ar52 q52 S52 N52z H52 G52 rfl W52 3 rfl (Nat.le_of_ble_eq_true rfl)
    have N52 := Fr.snoc X52 N49 g_b
    have hn52 : n0 ≤ h52.size := Nat.le_trans hn49 (Keep.of_wr W52).1
    have K52 := K49.wr W52 (Or.inl (List.mem_of_getElem? (i := 0) rfl))
    refine own_go (fun t k => st52 t k) ?_
    show Go _ _ _ _ _ T52 (mkF m 19 #[.val (.ref a1), .val (.int (0 : Int32)), .val (.int (4 : Int32)), .val (.int (3 : Int32))] [])
    refine own_go (fun t k => XS.iinc X52.here hx rfl (hb hby d_prog_52_method_8_19) rfl (l' := #[.val (.ref a1), .val (.int (0 : Int32)), .val (.int (4 : Int32)), .val (.int (4 : Int32))]) rfl k) ?_
    show Go _ _ _ _ _ T52 (mkF m 22 #[.val (.ref a1), .val (.int (0 : Int32)), .val (.int (4 : Int32)), .val (.int (4 : Int32))] [])
    refine own_go (fun t k => XS.goto X52.here hx rfl (pc0 := 22) (pc' := 2) rfl (hb hby d_prog_52_method_8_22) (by decide) (by decide) k) ?_
    show Go _ _ _ _ _ T52 (mkF m 2 #[.val (.ref a1), .val (.int (0 : Int32)), .val (.int (4 : Int32)), .val (.int (4 : Int32))] [])
    refine own_go (fun t k => XS.iloadN X52.here hx rfl (hb hby d_prog_52_method_8_2) rfl k) ?_
    show Go _ _ _ _ _ T52 (mkF m 3 #[.val (.ref a1), .val (.int (0 : Int32)), .val (.int (4 : Int32)), .val (.int (4 : Int32))] [(.int (4 : Int32))])
    refine own_go (fun t k => XS.iloadN X52.here hx rfl (hb hby d_prog_52_method_8_3) rfl k) ?_
    show Go _ _ _ _ _ T52 (mkF m 4 #[.val (.ref a1), .val (.int (0 : Int32)), .val (.int (4 : Int32)), .val (.int (4 : Int32))] [(.int (0 : Int32)), (.int (4 : Int32))])
    refine own_go (fun t k => XS.iloadN X52.here hx rfl (hb hby d_prog_52_method_8_4) rfl k) ?_
    show Go _ _ _ _ _ T52 (mkF m 5 #[.val (.ref a1), .val (.int (0 : Int32)), .val (.int (4 : Int32)), .val (.int (4 : Int32))] [(.int (4 : Int32)), (.int (0 : Int32)), (.int (4 : Int32))])
    refine own_go (fun t k => XS.iadd X52.here hx rfl (hb hby d_prog_52_method_8_5) rfl k) ?_
    show Go _ _ _ _ _ T52 (mkF m 6 #[.val (.ref a1), .val (.int (0 : Int32)), .val (.int (4 : Int32)), .val (.int (4 : Int32))] [(.int (4 : Int32)), (.int (4 : Int32))])
    refine own_go (fun t k => XS.icmpYes X52.here hx rfl (pc0 := 6) (pc' := 25) rfl (hb hby d_prog_52_method_8_6) rfl (by decide) (by decide) (by decide) k) ?_
    show Go _ _ _ _ _ T52 (mkF m 25 #[.val (.ref a1), .val (.int (0 : Int32)), .val (.int (4 : Int32)), .val (.int (4 : Int32))] [])
    refine own_retV X52 hx (own_lvN X52 hlk (by decide) (by decide)) hret (hb hby d_prog_52_method_8_25) ?_
    rw [e52]
    have i0 : own_in (0 : Int32) (0 : Int32) (4 : Int32) = 1 := by decide
    have i1 : own_in (1 : Int32) (0 : Int32) (4 : Int32) = 1 := by decide
    have i2 : own_in (2 : Int32) (0 : Int32) (4 : Int32) = 1 := by decide
    have i3 : own_in (3 : Int32) (0 : Int32) (4 : Int32) = 1 := by decide
    refine ⟨rfl, N52, K52, ?_⟩
    have hV := V52
    rw [i0, i1, i2, i3]
    simpa only [Int32.add_zero] using hV
  · skip
    show Go _ _ _ _ _ s₁ (mkF m 0 #[.val (.ref a1), .val (.int (1 : Int32)), .val (.int (0 : Int32)), .unset] [])
    refine own_go (fun t k => XS.iloadN X0.here hx rfl (hb hby d_prog_52_method_8_0) rfl k) ?_
    show Go _ _ _ _ _ s₁ (mkF m 1 #[.val (.ref a1), .val (.int (1 : Int32)), .val (.int (0 : Int32)), .unset] [(.int (1 : Int32))])
    refine own_go (fun t k => XS.istoreN X0.here hx rfl (hb hby d_prog_52_method_8_1) rfl (l' := #[.val (.ref a1), .val (.int (1 : Int32)), .val (.int (0 : Int32)), .val (.int (1 : Int32))]) rfl k) ?_
    show Go _ _ _ _ _ s₁ (mkF m 2 #[.val (.ref a1), .val (.int (1 : Int32)), .val (.int (0 : Int32)), .val (.int (1 : Int32))] [])
    refine own_go (fun t k => XS.iloadN X0.here hx rfl (hb hby d_prog_52_method_8_2) rfl k) ?_
    show Go _ _ _ _ _ s₁ (mkF m 3 #[.val (.ref a1), .val (.int (1 : Int32)), .val (.int (0 : Int32)), .val (.int (1 : Int32))] [(.int (1 : Int32))])
    refine own_go (fun t k => XS.iloadN X0.here hx rfl (hb hby d_prog_52_method_8_3) rfl k) ?_
    show Go _ _ _ _ _ s₁ (mkF m 4 #[.val (.ref a1), .val (.int (1 : Int32)), .val (.int (0 : Int32)), .val (.int (1 : Int32))] [(.int (1 : Int32)), (.int (1 : Int32))])
    refine own_go (fun t k => XS.iloadN X0.here hx rfl (hb hby d_prog_52_method_8_4) rfl k) ?_
    show Go _ _ _ _ _ s₁ (mkF m 5 #[.val (.ref a1), .val (.int (1 : Int32)), .val (.int (0 : Int32)), .val (.int (1 : Int32))] [(.int (0 : Int32)), (.int (1 : Int32)), (.int (1 : Int32))])
    refine own_go (fun t k => XS.iadd X0.here hx rfl (hb hby d_prog_52_method_8_5) rfl k) ?_
    show Go _ _ _ _ _ s₁ (mkF m 6 #[.val (.ref a1), .val (.int (1 : Int32)), .val (.int (0 : Int32)), .val (.int (1 : Int32))] [(.int (1 : Int32)), (.int (1 : Int32))])
    refine own_go (fun t k => XS.icmpYes X0.here hx rfl (pc0 := 6) (pc' := 25) rfl (hb hby d_prog_52_method_8_6) rfl (by decide) (by decide) (by decide) k) ?_
    show Go _ _ _ _ _ s₁ (mkF m 25 #[.val (.ref a1), .val (.int (1 : Int32)), .val (.int (0 : Int32)), .val (.int (1 : Int32))] [])
    refine own_retV X0 hx (own_lvN X0 hlk (by decide) (by decide)) hret (hb hby d_prog_52_method_8_25) ?_
    rw [e0]
    have i0 : own_in (0 : Int32) (1 : Int32) (0 : Int32) = 0 := by decide
    have i1 : own_in (1 : Int32) (1 : Int32) (0 : Int32) = 0 := by decide
    have i2 : own_in (2 : Int32) (1 : Int32) (0 : Int32) = 0 := by decide
    have i3 : own_in (3 : Int32) (1 : Int32) (0 : Int32) = 0 := by decide
    refine ⟨rfl, N0, K0, ?_⟩
    have hV := V_b
    rw [i0, i1, i2, i3]
    simpa only [Int32.add_zero] using hV
  · skip
    show Go _ _ _ _ _ s₁ (mkF m 0 #[.val (.ref a1), .val (.int (1 : Int32)), .val (.int (1 : Int32)), .unset] [])
    refine own_go (fun t k => XS.iloadN X0.here hx rfl (hb hby d_prog_52_method_8_0) rfl k) ?_
    show Go _ _ _ _ _ s₁ (mkF m 1 #[.val (.ref a1), .val (.int (1 : Int32)), .val (.int (1 : Int32)), .unset] [(.int (1 : Int32))])
    refine own_go (fun t k => XS.istoreN X0.here hx rfl (hb hby d_prog_52_method_8_1) rfl (l' := #[.val (.ref a1), .val (.int (1 : Int32)), .val (.int (1 : Int32)), .val (.int (1 : Int32))]) rfl k) ?_
    show Go _ _ _ _ _ s₁ (mkF m 2 #[.val (.ref a1), .val (.int (1 : Int32)), .val (.int (1 : Int32)), .val (.int (1 : Int32))] [])
    refine own_go (fun t k => XS.iloadN X0.here hx rfl (hb hby d_prog_52_method_8_2) rfl k) ?_
    show Go _ _ _ _ _ s₁ (mkF m 3 #[.val (.ref a1), .val (.int (1 : Int32)), .val (.int (1 : Int32)), .val (.int (1 : Int32))] [(.int (1 : Int32))])
    refine own_go (fun t k => XS.iloadN X0.here hx rfl (hb hby d_prog_52_method_8_3) rfl k) ?_
    show Go _ _ _ _ _ s₁ (mkF m 4 #[.val (.ref a1), .val (.int (1 : Int32)), .val (.int (1 : Int32)), .val (.int (1 : Int32))] [(.int (1 : Int32)), (.int (1 : Int32))])
    refine own_go (fun t k => XS.iloadN X0.here hx rfl (hb hby d_prog_52_method_8_4) rfl k) ?_
    show Go _ _ _ _ _ s₁ (mkF m 5 #[.val (.ref a1), .val (.int (1 : Int32)), .val (.int (1 : Int32)), .val (.int (1 : Int32))] [(.int (1 : Int32)), (.int (1 : Int32)), (.int (1 : Int32))])
    refine own_go (fun t k => XS.iadd X0.here hx rfl (hb hby d_prog_52_method_8_5) rfl k) ?_
    show Go _ _ _ _ _ s₁ (mkF m 6 #[.val (.ref a1), .val (.int (1 : Int32)), .val (.int (1 : Int32)), .val (.int (1 : Int32))] [(.int (2 : Int32)), (.int (1 : Int32))])
    refine own_go (fun t k => XS.icmpNo X0.here hx rfl (hb hby d_prog_52_method_8_6) rfl (by decide) k) ?_
    show Go _ _ _ _ _ s₁ (mkF m 9 #[.val (.ref a1), .val (.int (1 : Int32)), .val (.int (1 : Int32)), .val (.int (1 : Int32))] [])
    refine own_go (fun t k => XS.aloadN X0.here hx rfl (hb hby d_prog_52_method_8_9) rfl rfl k) ?_
    show Go _ _ _ _ _ s₁ (mkF m 10 #[.val (.ref a1), .val (.int (1 : Int32)), .val (.int (1 : Int32)), .val (.int (1 : Int32))] [(.ref a1)])
    obtain ⟨T53, X53, e53, st53⟩ := getF X0 hx hZ hown (host := "") (Or.inl (hw _ (List.mem_of_getElem? (i := 19) rfl))) Via.refl e0 F_t (g := (mkF m 10 #[.val (.ref a1), .val (.int (1 : Int32)), .val (.int (1 : Int32)), .val (.int (1 : Int32))] [(.ref a1)])) rfl rfl (hb hby d_prog_52_method_8_10)
    refine own_go (fun t k => st53 t k) ?_
    show Go _ _ _ _ _ T53 (mkF m 13 #[.val (.ref a1), .val (.int (1 : Int32)), .val (.int (1 : Int32)), .val (.int (1 : Int32))] [(.ref b)])
    refine own_go (fun t k => XS.iloadN X53.here hx rfl (hb hby d_prog_52_method_8_13) rfl k) ?_
    show Go _ _ _ _ _ T53 (mkF m 14 #[.val (.ref a1), .val (.int (1 : Int32)), .val (.int (1 : Int32)), .val (.int (1 : Int32))] [(.int (1 : Int32)), (.ref b)])
    refine own_go (fun t k => XT.dup2 X53.here hx rfl (hb hby d_prog_52_method_8_14) rfl rfl rfl k) ?_
    show Go _ _ _ _ _ T53 (mkF m 15 #[.val (.ref a1), .val (.int (1 : Int32)), .val (.int (1 : Int32)), .val (.int (1 : Int32))] [(.int (1 : Int32)), (.ref b), (.int (1 : Int32)), (.ref b)])
    obtain ⟨cl54, Ar54, q54, S54, N54z, H54, G54⟩ := id V_b
    have hin54 := inb_of S54 (j := (1 : Int32)) (z := (4 : Int32)) ⟨by decide, by decide⟩
    have hat54 : cl54.slots[((1 : Int32)).toNatClampNeg]? = some (.int t1) := H54 _ (Nat.lt_of_not_le fun q => hin54 (Or.inr q))
    refine own_go (fun t k => X53.iaload hx (j := (1 : Int32)) (v := (.int t1)) (by rw [e53]; exact Ar54.1) (State.isArrayOf_alike hZ.alike Ar54.2.1) Ar54.2.2 hin54 hat54 (g := (mkF m 15 #[.val (.ref a1), .val (.int (1 : Int32)), .val (.int (1 : Int32)), .val (.int (1 : Int32))] [(.int (1 : Int32)), (.ref b), (.int (1 : Int32)), (.ref b)])) rfl rfl (hb hby d_prog_52_method_8_15) _ k) ?_
    show Go _ _ _ _ _ T53 (mkF m 16 #[.val (.ref a1), .val (.int (1 : Int32)), .val (.int (1 : Int32)), .val (.int (1 : Int32))] [(.int t1), (.int (1 : Int32)), (.ref b)])
    refine own_go (fun t k => XS.iconst X53.here hx rfl (hb hby d_prog_52_method_8_16) k) ?_
    show Go _ _ _ _ _ T53 (mkF m 17 #[.val (.ref a1), .val (.int (1 : Int32)), .val (.int (1 : Int32)), .val (.int (1 : Int32))] [(.int (1 : Int32)), (.int t1), (.int (1 : Int32)), (.ref b)])
    refine own_go (fun t k => XS.iadd X53.here hx rfl (hb hby d_prog_52_method_8_17) rfl k) ?_
    show Go _ _ _ _ _ T53 (mkF m 18 #[.val (.ref a1), .val (.int (1 : Int32)), .val (.int (1 : Int32)), .val (.int (1 : Int32))] [(.int (t1 + (1 : Int32))), (.int (1 : Int32)), (.ref b)])
    obtain ⟨cl55, Ar55, q55, S55, N55z, H55, G55⟩ := V_b
    have hin55 := inb_of S55 (j := (1 : Int32)) (z := (4 : Int32)) ⟨by decide, by decide⟩
    obtain ⟨T55, h55, X55, e55, W55, st55⟩ := stI X53 hx hZ e53 Ar55 (j := (1 : Int32)) hin55 (g := (mkF m 18 #[.val (.ref a1), .val (.int (1 : Int32)), .val (.int (1 : Int32)), .val (.int (1 : Int32))] [(.int (t1 + (1 : Int32))), (.int (1 : Int32)), (.ref b)])) rfl rfl (hb hby d_prog_52_method_8_18)
    replace E_a1 := E_a1.wr W55
    replace F_t := F_t.other W55 (Or.inl hne)
    have V55 : Arv Z h55 b k .int (4 : Int32) [(.int t0), (.int (t1 + (1 : Int32))), (.int t2), (.int t3)] (.int (0 : Int32)) := Arv.set Ar55 q55 S55 N55z H55 G55 rfl W55 1 rfl (Nat.le_of_ble_eq_true rfl)
    have N55 := Fr.snoc X55 N0 g_b
    have hn55 : n0 ≤ h55.size := Nat.le_trans hn0 (Keep.of_wr W55).1
    have K55 := K0.wr W55 (Or.inl (List.mem_of_getElem? (i := 0) rfl))
    refine own_go (fun t k => st55 t k) ?_
    show Go _ _ _ _ _ T55 (mkF m 19 #[.val (.ref a1), .val (.int (1 : Int32)), .val (.int (1 : Int32)), .val (.int (1 : Int32))] [])
    refine own_go (fun t k => XS.iinc X55.here hx rfl (hb hby d_prog_52_method_8_19) rfl (l' := #[.val (.ref a1), .val (.int (1 : Int32)), .val (.int (1 : Int32)), .val (.int (2 : Int32))]) rfl k) ?_
    show Go _ _ _ _ _ T55 (mkF m 22 #[.val (.ref a1), .val (.int (1 : Int32)), .val (.int (1 : Int32)), .val (.int (2 : Int32))] [])
    refine own_go (fun t k => XS.goto X55.here hx rfl (pc0 := 22) (pc' := 2) rfl (hb hby d_prog_52_method_8_22) (by decide) (by decide) k) ?_
    show Go _ _ _ _ _ T55 (mkF m 2 #[.val (.ref a1), .val (.int (1 : Int32)), .val (.int (1 : Int32)), .val (.int (2 : Int32))] [])
    refine own_go (fun t k => XS.iloadN X55.here hx rfl (hb hby d_prog_52_method_8_2) rfl k) ?_
    show Go _ _ _ _ _ T55 (mkF m 3 #[.val (.ref a1), .val (.int (1 : Int32)), .val (.int (1 : Int32)), .val (.int (2 : Int32))] [(.int (2 : Int32))])
    refine own_go (fun t k => XS.iloadN X55.here hx rfl (hb hby d_prog_52_method_8_3) rfl k) ?_
    show Go _ _ _ _ _ T55 (mkF m 4 #[.val (.ref a1), .val (.int (1 : Int32)), .val (.int (1 : Int32)), .val (.int (2 : Int32))] [(.int (1 : Int32)), (.int (2 : Int32))])
    refine own_go (fun t k => XS.iloadN X55.here hx rfl (hb hby d_prog_52_method_8_4) rfl k) ?_
    show Go _ _ _ _ _ T55 (mkF m 5 #[.val (.ref a1), .val (.int (1 : Int32)), .val (.int (1 : Int32)), .val (.int (2 : Int32))] [(.int (1 : Int32)), (.int (1 : Int32)), (.int (2 : Int32))])
    refine own_go (fun t k => XS.iadd X55.here hx rfl (hb hby d_prog_52_method_8_5) rfl k) ?_
    show Go _ _ _ _ _ T55 (mkF m 6 #[.val (.ref a1), .val (.int (1 : Int32)), .val (.int (1 : Int32)), .val (.int (2 : Int32))] [(.int (2 : Int32)), (.int (2 : Int32))])
    refine own_go (fun t k => XS.icmpYes X55.here hx rfl (pc0 := 6) (pc' := 25) rfl (hb hby d_prog_52_method_8_6) rfl (by decide) (by decide) (by decide) k) ?_
    show Go _ _ _ _ _ T55 (mkF m 25 #[.val (.ref a1), .val (.int (1 : Int32)), .val (.int (1 : Int32)), .val (.int (2 : Int32))] [])
    refine own_retV X55 hx (own_lvN X55 hlk (by decide) (by decide)) hret (hb hby d_prog_52_method_8_25) ?_
    rw [e55]
    have i0 : own_in (0 : Int32) (1 : Int32) (1 : Int32) = 0 := by decide
    have i1 : own_in (1 : Int32) (1 : Int32) (1 : Int32) = 1 := by decide
    have i2 : own_in (2 : Int32) (1 : Int32) (1 : Int32) = 0 := by decide
    have i3 : own_in (3 : Int32) (1 : Int32) (1 : Int32) = 0 := by decide
    refine ⟨rfl, N55, K55, ?_⟩
    have hV := V55
    rw [i0, i1, i2, i3]
    simpa only [Int32.add_zero] using hV
  · skip
    show Go _ _ _ _ _ s₁ (mkF m 0 #[.val (.ref a1), .val (.int (1 : Int32)), .val (.int (2 : Int32)), .unset] [])
    refine own_go (fun t k => XS.iloadN X0.here hx rfl (hb hby d_prog_52_method_8_0) rfl k) ?_
    show Go _ _ _ _ _ s₁ (mkF m 1 #[.val (.ref a1), .val (.int (1 : Int32)), .val (.int (2 : Int32)), .unset] [(.int (1 : Int32))])
    refine own_go (fun t k => XS.istoreN X0.here hx rfl (hb hby d_prog_52_method_8_1) rfl (l' := #[.val (.ref a1), .val (.int (1 : Int32)), .val (.int (2 : Int32)), .val (.int (1 : Int32))]) rfl k) ?_
    show Go _ _ _ _ _ s₁ (mkF m 2 #[.val (.ref a1), .val (.int (1 : Int32)), .val (.int (2 : Int32)), .val (.int (1 : Int32))] [])
    refine own_go (fun t k => XS.iloadN X0.here hx rfl (hb hby d_prog_52_method_8_2) rfl k) ?_
    show Go _ _ _ _ _ s₁ (mkF m 3 #[.val (.ref a1), .val (.int (1 : Int32)), .val (.int (2 : Int32)), .val (.int (1 : Int32))] [(.int (1 : Int32))])
    refine own_go (fun t k => XS.iloadN X0.here hx rfl (hb hby d_prog_52_method_8_3) rfl k) ?_
    show Go _ _ _ _ _ s₁ (mkF m 4 #[.val (.ref a1), .val (.int (1 : Int32)), .val (.int (2 : Int32)), .val (.int (1 : Int32))] [(.int (1 : Int32)), (.int (1 : Int32))])
    refine own_go (fun t k => XS.iloadN X0.here hx rfl (hb hby d_prog_52_method_8_4) rfl k) ?_
    show Go _ _ _ _ _ s₁ (mkF m 5 #[.val (.ref a1), .val (.int (1 : Int32)), .val (.int (2 : Int32)), .val (.int (1 : Int32))] [(.int (2 : Int32)), (.int (1 : Int32)), (.int (1 : Int32))])
    refine own_go (fun t k => XS.iadd X0.here hx rfl (hb hby d_prog_52_method_8_5) rfl k) ?_
    show Go _ _ _ _ _ s₁ (mkF m 6 #[.val (.ref a1), .val (.int (1 : Int32)), .val (.int (2 : Int32)), .val (.int (1 : Int32))] [(.int (3 : Int32)), (.int (1 : Int32))])
    refine own_go (fun t k => XS.icmpNo X0.here hx rfl (hb hby d_prog_52_method_8_6) rfl (by decide) k) ?_
    show Go _ _ _ _ _ s₁ (mkF m 9 #[.val (.ref a1), .val (.int (1 : Int32)), .val (.int (2 : Int32)), .val (.int (1 : Int32))] [])
    refine own_go (fun t k => XS.aloadN X0.here hx rfl (hb hby d_prog_52_method_8_9) rfl rfl k) ?_
    show Go _ _ _ _ _ s₁ (mkF m 10 #[.val (.ref a1), .val (.int (1 : Int32)), .val (.int (2 : Int32)), .val (.int (1 : Int32))] [(.ref a1)])
    obtain ⟨T56, X56, e56, st56⟩ := getF X0 hx hZ hown (host := "") (Or.inl (hw _ (List.mem_of_getElem? (i := 19) rfl))) Via.refl e0 F_t (g := (mkF m 10 #[.val (.ref a1), .val (.int (1 : Int32)), .val (.int (2 : Int32)), .val (.int (1 : Int32))] [(.ref a1)])) rfl rfl (hb hby d_prog_52_method_8_10)
    refine own_go (fun t k => st56 t k) ?_
    show Go _ _ _ _ _ T56 (mkF m 13 #[.val (.ref a1), .val (.int (1 : Int32)), .val (.int (2 : Int32)), .val (.int (1 : Int32))] [(.ref b)])
    refine own_go (fun t k => XS.iloadN X56.here hx rfl (hb hby d_prog_52_method_8_13) rfl k) ?_
    show Go _ _ _ _ _ T56 (mkF m 14 #[.val (.ref a1), .val (.int (1 : Int32)), .val (.int (2 : Int32)), .val (.int (1 : Int32))] [(.int (1 : Int32)), (.ref b)])
    refine own_go (fun t k => XT.dup2 X56.here hx rfl (hb hby d_prog_52_method_8_14) rfl rfl rfl k) ?_
    show Go _ _ _ _ _ T56 (mkF m 15 #[.val (.ref a1), .val (.int (1 : Int32)), .val (.int (2 : Int32)), .val (.int (1 : Int32))] [(.int (1 : Int32)), (.ref b), (.int (1 : Int32)), (.ref b)])
    obtain ⟨cl57, Ar57, q57, S57, N57z, H57, G57⟩ := id V_b
    have hin57 := inb_of S57 (j := (1 : Int32)) (z := (4 : Int32)) ⟨by decide, by decide⟩
    have hat57 : cl57.slots[((1 : Int32)).toNatClampNeg]? = some (.int t1) := H57 _ (Nat.lt_of_not_le fun q => hin57 (Or.inr q))
    refine own_go (fun t k => X56.iaload hx (j := (1 : Int32)) (v := (.int t1)) (by rw [e56]; exact Ar57.1) (State.isArrayOf_alike hZ.alike Ar57.2.1) Ar57.2.2 hin57 hat57 (g := (mkF m 15 #[.val (.ref a1), .val (.int (1 : Int32)), .val (.int (2 : Int32)), .val (.int (1 : Int32))] [(.int (1 : Int32)), (.ref b), (.int (1 : Int32)), (.ref b)])) rfl rfl (hb hby d_prog_52_method_8_15) _ k) ?_
    show Go _ _ _ _ _ T56 (mkF m 16 #[.val (.ref a1), .val (.int (1 : Int32)), .val (.int (2 : Int32)), .val (.int (1 : Int32))] [(.int t1), (.int (1 : Int32)), (.ref b)])
    refine own_go (fun t k => XS.iconst X56.here hx rfl (hb hby d_prog_52_method_8_16) k) ?_
    show Go _ _ _ _ _ T56 (mkF m 17 #[.val (.ref a1), .val (.int (1 : Int32)), .val (.int (2 : Int32)), .val (.int (1 : Int32))] [(.int (1 : Int32)), (.int t1), (.int (1 : Int32)), (.ref b)])
    refine own_go (fun t k => XS.iadd X56.here hx rfl (hb hby d_prog_52_method_8_17) rfl k) ?_
    show Go _ _ _ _ _ T56 (mkF m 18 #[.val (.ref a1), .val (.int (1 : Int32)), .val (.int (2 : Int32)), .val (.int (1 : Int32))] [(.int (t1 + (1 : Int32))), (.int (1 : Int32)), (.ref b)])
    obtain ⟨cl58, Ar58, q58, S58, N58z, H58, G58⟩ := V_b
    have hin58 := inb_of S58 (j := (1 : Int32)) (z := (4 : Int32)) ⟨by decide, by decide⟩
    obtain ⟨T58, h58, X58, e58, W58, st58⟩ := stI X56 hx hZ e56 Ar58 (j := (1 : Int32)) hin58 (g := (mkF m 18 #[.val (.ref a1), .val (.int (1 : Int32)), .val (.int (2 : Int32)), .val (.int (1 : Int32))] [(.int (t1 + (1 : Int32))), (.int (1 : Int32)), (.ref b)])) rfl rfl (hb hby d_prog_52_method_8_18)
    replace E_a1 := E_a1.wr W58
    replace F_t := F_t.other W58 (Or.inl hne)
    have V58 : Arv Z h58 b k .int (4 : Int32) [(.int t0), (.int (t1 + (1 : Int32))), (.int t2), (.int t3)] (.int (0 : Int32)) := Arv.set Ar58 q58 S58 N58z H58 G58 rfl W58 1 rfl (Nat.le_of_ble_eq_true rfl)
    have N58 := Fr.snoc X58 N0 g_b
    have hn58 : n0 ≤ h58.size := Nat.le_trans hn0 (Keep.of_wr W58).1
    have K58 := K0.wr W58 (Or.inl (List.mem_of_getElem? (i := 0) rfl))
    refine own_go (fun t k => st58 t k) ?_
    show Go _ _ _ _ _ T58 (mkF m 19 #[.val (.ref a1), .val (.int (1 : Int32)), .val (.int (2 : Int32)), .val (.int (1 : Int32))] [])
    refine own_go (fun t k => XS.iinc X58.here hx rfl (hb hby d_prog_52_method_8_19) rfl (l' := #[.val (.ref a1), .val (.int (1 : Int32)), .val (.int (2 : Int32)), .val (.int (2 : Int32))]) rfl k) ?_
    show Go _ _ _ _ _ T58 (mkF m 22 #[.val (.ref a1), .val (.int (1 : Int32)), .val (.int (2 : Int32)), .val (.int (2 : Int32))] [])
    refine own_go (fun t k => XS.goto X58.here hx rfl (pc0 := 22) (pc' := 2) rfl (hb hby d_prog_52_method_8_22) (by decide) (by decide) k) ?_
    show Go _ _ _ _ _ T58 (mkF m 2 #[.val (.ref a1), .val (.int (1 : Int32)), .val (.int (2 : Int32)), .val (.int (2 : Int32))] [])
    refine own_go (fun t k => XS.iloadN X58.here hx rfl (hb hby d_prog_52_method_8_2) rfl k) ?_
    show Go _ _ _ _ _ T58 (mkF m 3 #[.val (.ref a1), .val (.int (1 : Int32)), .val (.int (2 : Int32)), .val (.int (2 : Int32))] [(.int (2 : Int32))])
    refine own_go (fun t k => XS.iloadN X58.here hx rfl (hb hby d_prog_52_method_8_3) rfl k) ?_
    show Go _ _ _ _ _ T58 (mkF m 4 #[.val (.ref a1), .val (.int (1 : Int32)), .val (.int (2 : Int32)), .val (.int (2 : Int32))] [(.int (1 : Int32)), (.int (2 : Int32))])
    refine own_go (fun t k => XS.iloadN X58.here hx rfl (hb hby d_prog_52_method_8_4) rfl k) ?_
    show Go _ _ _ _ _ T58 (mkF m 5 #[.val (.ref a1), .val (.int (1 : Int32)), .val (.int (2 : Int32)), .val (.int (2 : Int32))] [(.int (2 : Int32)), (.int (1 : Int32)), (.int (2 : Int32))])
    refine own_go (fun t k => XS.iadd X58.here hx rfl (hb hby d_prog_52_method_8_5) rfl k) ?_
    show Go _ _ _ _ _ T58 (mkF m 6 #[.val (.ref a1), .val (.int (1 : Int32)), .val (.int (2 : Int32)), .val (.int (2 : Int32))] [(.int (3 : Int32)), (.int (2 : Int32))])
    refine own_go (fun t k => XS.icmpNo X58.here hx rfl (hb hby d_prog_52_method_8_6) rfl (by decide) k) ?_
    show Go _ _ _ _ _ T58 (mkF m 9 #[.val (.ref a1), .val (.int (1 : Int32)), .val (.int (2 : Int32)), .val (.int (2 : Int32))] [])
    refine own_go (fun t k => XS.aloadN X58.here hx rfl (hb hby d_prog_52_method_8_9) rfl rfl k) ?_
    show Go _ _ _ _ _ T58 (mkF m 10 #[.val (.ref a1), .val (.int (1 : Int32)), .val (.int (2 : Int32)), .val (.int (2 : Int32))] [(.ref a1)])
    obtain ⟨T59, X59, e59, st59⟩ := getF X58 hx hZ hown (host := "") (Or.inl (hw _ (List.mem_of_getElem? (i := 19) rfl))) Via.refl e58 F_t (g := (mkF m 10 #[.val (.ref a1), .val (.int (1 : Int32)), .val (.int (2 : Int32)), .val (.int (2 : Int32))] [(.ref a1)])) rfl rfl (hb hby d_prog_52_method_8_10)
    refine own_go (fun t k => st59 t k) ?_
    show Go _ _ _ _ _ T59 (mkF m 13 #[.val (.ref a1), .val (.int (1 : Int32)), .val (.int (2 : Int32)), .val (.int (2 : Int32))] [(.ref b)])
    refine own_go (fun t k => XS.iloadN X59.here hx rfl (hb hby d_prog_52_method_8_13) rfl k) ?_
    show Go _ _ _ _ _ T59 (mkF m 14 #[.val (.ref a1), .val (.int (1 : Int32)), .val (.int (2 : Int32)), .val (.int (2 : Int32))] [(.int (2 : Int32)), (.ref b)])
    refine own_go (fun t k => XT.dup2 X59.here hx rfl (hb hby d_prog_52_method_8_14) rfl rfl rfl k) ?_
    show Go _ _ _ _ _ T59 (mkF m 15 #[.val (.ref a1), .val (.int (1 : Int32)), .val (.int (2 : Int32)), .val (.int (2 : Int32))] [(.int (2 : Int32)), (.ref b), (.int (2 : Int32)), (.ref b)])
    obtain ⟨cl60, Ar60, q60, S60, N60z, H60, G60⟩ := id V58
    have hin60 := inb_of S60 (j := (2 : Int32)) (z := (4 : Int32)) ⟨by decide, by decide⟩
    have hat60 : cl60.slots[((2 : Int32)).toNatClampNeg]? = some (.int t2) := H60 _ (Nat.lt_of_not_le fun q => hin60 (Or.inr q))
    refine own_go (fun t k => X59.iaload hx (j := (2 : Int32)) (v := (.int t2)) (by rw [e59]; exact Ar60.1) (State.isArrayOf_alike hZ.alike Ar60.2.1) Ar60.2.2 hin60 hat60 (g := (mkF m 15 #[.val (.ref a1), .val (.int (1 : Int32)), .val (.int (2 : Int32)), .val (.int (2 : Int32))] [(.int (2 : Int32)), (.ref b), (.int (2 : Int32)), (.ref b)])) rfl rfl (hb hby d_prog_52_method_8_15) _ k) ?_
    show Go _ _ _ _ _ T59 (mkF m 16 #[.val (.ref a1), .val (.int (1 : Int32)), .val (.int (2 : Int32)), .val (.int (2 : Int32))] [(.int t2), (.int (2 : Int32)), (.ref b)])
    refine own_go (fun t k => XS.iconst X59.here hx rfl (hb hby d_prog_52_method_8_16) k) ?_
    show Go _ _ _ _ _ T59 (mkF m 17 #[.val (.ref a1), .val (.int (1 : Int32)), .val (.int (2 : Int32)), .val (.int (2 : Int32))] [(.int (1 : Int32)), (.int t2), (.int (2 : Int32)), (.ref b)])
    refine own_go (fun t k => XS.iadd X59.here hx rfl (hb hby d_prog_52_method_8_17) rfl k) ?_
    show Go _ _ _ _ _ T59 (mkF m 18 #[.val (.ref a1), .val (.int (1 : Int32)), .val (.int (2 : Int32)), .val (.int (2 : Int32))] [(.int (t2 + (1 : Int32))), (.int (2 : Int32)), (.ref b)])
    obtain ⟨cl61, Ar61, q61, S61, N61z, H61, G61⟩ := V58
    have hin61 := inb_of S61 (j := (2 : Int32)) (z := (4 : Int32)) ⟨by decide, by decide⟩
    obtain ⟨T61, h61, X61, e61, W61, st61⟩ := stI X59 hx hZ e59 Ar61 (j := (2 : Int32)) hin61 (g := (mkF m 18 #[.val (.ref a1), .val (.int (1 : Int32)), .val (.int (2 : Int32)), .val (.int (2 : Int32))] [(.int (t2 + (1 : Int32))), (.int (2 : Int32)), (.ref b)])) rfl rfl (hb hby d_prog_52_method_8_18)
    replace E_a1 := E_a1.wr W61
    replace F_t := F_t.other W61 (Or.inl hne)
    have V61 : Arv Z h61 b k .int (4 : Int32) [(.int t0), (.int (t1 + (1 : Int32))), (.int (t2 + (1 : Int32))), (.int t3)] (.int (0 : Int32)) := Arv.set Ar61 q61 S61 N61z H61 G61 rfl W61 2 rfl (Nat.le_of_ble_eq_true rfl)
    have N61 := Fr.snoc X61 N58 g_b
    have hn61 : n0 ≤ h61.size := Nat.le_trans hn58 (Keep.of_wr W61).1
    have K61 := K58.wr W61 (Or.inl (List.mem_of_getElem? (i := 0) rfl))
    refine own_go (fun t k => st61 t k) ?_
    show Go _ _ _ _ _ T61 (mkF m 19 #[.val (.ref a1), .val (.int (1 : Int32)), .val (.int (2 : Int32)), .val (.int (2 : Int32))] [])
    refine own_go (fun t k => XS.iinc X61.here hx rfl (hb hby d_prog_52_method_8_19) rfl (l' := #[.val (.ref a1), .val (.int (1 : Int32)), .val (.int (2 : Int32)), .val (.int (3 : Int32))]) rfl k) ?_
    show Go _ _ _ _ _ T61 (mkF m 22 #[.val (.ref a1), .val (.int (1 : Int32)), .val (.int (2 : Int32)), .val (.int (3 : Int32))] [])
    refine own_go (fun t k => XS.goto X61.here hx rfl (pc0 := 22) (pc' := 2) rfl (hb hby d_prog_52_method_8_22) (by decide) (by decide) k) ?_
    show Go _ _ _ _ _ T61 (mkF m 2 #[.val (.ref a1), .val (.int (1 : Int32)), .val (.int (2 : Int32)), .val (.int (3 : Int32))] [])
    refine own_go (fun t k => XS.iloadN X61.here hx rfl (hb hby d_prog_52_method_8_2) rfl k) ?_
    show Go _ _ _ _ _ T61 (mkF m 3 #[.val (.ref a1), .val (.int (1 : Int32)), .val (.int (2 : Int32)), .val (.int (3 : Int32))] [(.int (3 : Int32))])
    refine own_go (fun t k => XS.iloadN X61.here hx rfl (hb hby d_prog_52_method_8_3) rfl k) ?_
    show Go _ _ _ _ _ T61 (mkF m 4 #[.val (.ref a1), .val (.int (1 : Int32)), .val (.int (2 : Int32)), .val (.int (3 : Int32))] [(.int (1 : Int32)), (.int (3 : Int32))])
    refine own_go (fun t k => XS.iloadN X61.here hx rfl (hb hby d_prog_52_method_8_4) rfl k) ?_
    show Go _ _ _ _ _ T61 (mkF m 5 #[.val (.ref a1), .val (.int (1 : Int32)), .val (.int (2 : Int32)), .val (.int (3 : Int32))] [(.int (2 : Int32)), (.int (1 : Int32)), (.int (3 : Int32))])
    refine own_go (fun t k => XS.iadd X61.here hx rfl (hb hby d_prog_52_method_8_5) rfl k) ?_
    show Go _ _ _ _ _ T61 (mkF m 6 #[.val (.ref a1), .val (.int (1 : Int32)), .val (.int (2 : Int32)), .val (.int (3 : Int32))] [(.int (3 : Int32)), (.int (3 : Int32))])
    refine own_go (fun t k => XS.icmpYes X61.here hx rfl (pc0 := 6) (pc' := 25) rfl (hb hby d_prog_52_method_8_6) rfl (by decide) (by decide) (by decide) k) ?_
    show Go _ _ _ _ _ T61 (mkF m 25 #[.val (.ref a1), .val (.int (1 : Int32)), .val (.int (2 : Int32)), .val (.int (3 : Int32))] [])
    refine own_retV X61 hx (own_lvN X61 hlk (by decide) (by decide)) hret (hb hby d_prog_52_method_8_25) ?_
    rw [e61]
    have i0 : own_in (0 : Int32) (1 : Int32) (2 : Int32) = 0 := by decide
    have i1 : own_in (1 : Int32) (1 : Int32) (2 : Int32) = 1 := by decide
    have i2 : own_in (2 : Int32) (1 : Int32) (2 : Int32) = 1 := by decide
    have i3 : own_in (3 : Int32) (1 : Int32) (2 : Int32) = 0 := by decide
    refine ⟨rfl, N61, K61, ?_⟩
    have hV := V61
    rw [i0, i1, i2, i3]
    simpa only [Int32.add_zero] using hV
  · skip
    show Go _ _ _ _ _ s₁ (mkF m 0 #[.val (.ref a1), .val (.int (1 : Int32)), .val (.int (3 : Int32)), .unset] [])
    refine own_go (fun t k => XS.iloadN X0.here hx rfl (hb hby d_prog_52_method_8_0) rfl k) ?_
    show Go _ _ _ _ _ s₁ (mkF m 1 #[.val (.ref a1), .val (.int (1 : Int32)), .val (.int (3 : Int32)), .unset] [(.int (1 : Int32))])
    refine own_go (fun t k => XS.istoreN X0.here hx rfl (hb hby d_prog_52_method_8_1) rfl (l' := #[.val (.ref a1), .val (.int (1 : Int32)), .val (.int (3 : Int32)), .val (.int (1 : Int32))]) rfl k) ?_
    show Go _ _ _ _ _ s₁ (mkF m 2 #[.val (.ref a1), .val (.int (1 : Int32)), .val (.int (3 : Int32)), .val (.int (1 : Int32))] [])
    refine own_go (fun t k => XS.iloadN X0.here hx rfl (hb hby d_prog_52_method_8_2) rfl k) ?_
    show Go _ _ _ _ _ s₁ (mkF m 3 #[.val (.ref a1), .val (.int (1 : Int32)), .val (.int (3 : Int32)), .val (.int (1 : Int32))] [(.int (1 : Int32))])
    refine own_go (fun t k => XS.iloadN X0.here hx rfl (hb hby d_prog_52_method_8_3) rfl k) ?_
    show Go _ _ _ _ _ s₁ (mkF m 4 #[.val (.ref a1), .val (.int (1 : Int32)), .val (.int (3 : Int32)), .val (.int (1 : Int32))] [(.int (1 : Int32)), (.int (1 : Int32))])
    refine own_go (fun t k => XS.iloadN X0.here hx rfl (hb hby d_prog_52_method_8_4) rfl k) ?_
    show Go _ _ _ _ _ s₁ (mkF m 5 #[.val (.ref a1), .val (.int (1 : Int32)), .val (.int (3 : Int32)), .val (.int (1 : Int32))] [(.int (3 : Int32)), (.int (1 : Int32)), (.int (1 : Int32))])
    refine own_go (fun t k => XS.iadd X0.here hx rfl (hb hby d_prog_52_method_8_5) rfl k) ?_
    show Go _ _ _ _ _ s₁ (mkF m 6 #[.val (.ref a1), .val (.int (1 : Int32)), .val (.int (3 : Int32)), .val (.int (1 : Int32))] [(.int (4 : Int32)), (.int (1 : Int32))])
    refine own_go (fun t k => XS.icmpNo X0.here hx rfl (hb hby d_prog_52_method_8_6) rfl (by decide) k) ?_
    show Go _ _ _ _ _ s₁ (mkF m 9 #[.val (.ref a1), .val (.int (1 : Int32)), .val (.int (3 : Int32)), .val (.int (1 : Int32))] [])
    refine own_go (fun t k => XS.aloadN X0.here hx rfl (hb hby d_prog_52_method_8_9) rfl rfl k) ?_
    show Go _ _ _ _ _ s₁ (mkF m 10 #[.val (.ref a1), .val (.int (1 : Int32)), .val (.int (3 : Int32)), .val (.int (1 : Int32))] [(.ref a1)])
    obtain ⟨T62, X62, e62, st62⟩ := getF X0 hx hZ hown (host := "") (Or.inl (hw _ (List.mem_of_getElem? (i := 19) rfl))) Via.refl e0 F_t (g := (mkF m 10 #[.val (.ref a1), .val (.int (1 : Int32)), .val (.int (3 : Int32)), .val (.int (1 : Int32))] [(.ref a1)])) rfl rfl (hb hby d_prog_52_method_8_10)
    refine own_go (fun t k => st62 t k) ?_
    show Go _ _ _ _ _ T62 (mkF m 13 #[.val (.ref a1), .val (.int (1 : Int32)), .val (.int (3 : Int32)), .val (.int (1 : Int32))] [(.ref b)])
    refine own_go (fun t k => XS.iloadN X62.here hx rfl (hb hby d_prog_52_method_8_13) rfl k) ?_
    show Go _ _ _ _ _ T62 (mkF m 14 #[.val (.ref a1), .val (.int (1 : Int32)), .val (.int (3 : Int32)), .val (.int (1 : Int32))] [(.int (1 : Int32)), (.ref b)])
    refine own_go (fun t k => XT.dup2 X62.here hx rfl (hb hby d_prog_52_method_8_14) rfl rfl rfl k) ?_
    show Go _ _ _ _ _ T62 (mkF m 15 #[.val (.ref a1), .val (.int (1 : Int32)), .val (.int (3 : Int32)), .val (.int (1 : Int32))] [(.int (1 : Int32)), (.ref b), (.int (1 : Int32)), (.ref b)])
    obtain ⟨cl63, Ar63, q63, S63, N63z, H63, G63⟩ := id V_b
    have hin63 := inb_of S63 (j := (1 : Int32)) (z := (4 : Int32)) ⟨by decide, by decide⟩
    have hat63 : cl63.slots[((1 : Int32)).toNatClampNeg]? = some (.int t1) := H63 _ (Nat.lt_of_not_le fun q => hin63 (Or.inr q))
    refine own_go (fun t k => X62.iaload hx (j := (1 : Int32)) (v := (.int t1)) (by rw [e62]; exact Ar63.1) (State.isArrayOf_alike hZ.alike Ar63.2.1) Ar63.2.2 hin63 hat63 (g := (mkF m 15 #[.val (.ref a1), .val (.int (1 : Int32)), .val (.int (3 : Int32)), .val (.int (1 : Int32))] [(.int (1 : Int32)), (.ref b), (.int (1 : Int32)), (.ref b)])) rfl rfl (hb hby d_prog_52_method_8_15) _ k) ?_
    show Go _ _ _ _ _ T62 (mkF m 16 #[.val (.ref a1), .val (.int (1 : Int32)), .val (.int (3 : Int32)), .val (.int (1 : Int32))] [(.int t1), (.int (1 : Int32)), (.ref b)])
    refine own_go (fun t k => XS.iconst X62.here hx rfl (hb hby d_prog_52_method_8_16) k) ?_
    show Go _ _ _ _ _ T62 (mkF m 17 #[.val (.ref a1), .val (.int (1 : Int32)), .val (.int (3 : Int32)), .val (.int (1 : Int32))] [(.int (1 : Int32)), (.int t1), (.int (1 : Int32)), (.ref b)])
    refine own_go (fun t k => XS.iadd X62.here hx rfl (hb hby d_prog_52_method_8_17) rfl k) ?_
    show Go _ _ _ _ _ T62 (mkF m 18 #[.val (.ref a1), .val (.int (1 : Int32)), .val (.int (3 : Int32)), .val (.int (1 : Int32))] [(.int (t1 + (1 : Int32))), (.int (1 : Int32)), (.ref b)])
    obtain ⟨cl64, Ar64, q64, S64, N64z, H64, G64⟩ := V_b
    have hin64 := inb_of S64 (j := (1 : Int32)) (z := (4 : Int32)) ⟨by decide, by decide⟩
    obtain ⟨T64, h64, X64, e64, W64, st64⟩ := stI X62 hx hZ e62 Ar64 (j := (1 : Int32)) hin64 (g := (mkF m 18 #[.val (.ref a1), .val (.int (1 : Int32)), .val (.int (3 : Int32)), .val (.int (1 : Int32))] [(.int (t1 + (1 : Int32))), (.int (1 : Int32)), (.ref b)])) rfl rfl (hb hby d_prog_52_method_8_18)
    replace E_a1 := E_a1.wr W64
    replace F_t := F_t.other W64 (Or.inl hne)
    have V64 : Arv Z h64 b k .int (4 : Int32) [(.int t0), (.int (t1 + (1 : Int32))), (.int t2), (.int t3)] (.int (0 : Int32)) := Arv.set Ar64 q64 S64 N64z H64 G64 rfl W64 1 rfl (Nat.le_of_ble_eq_true rfl)
    have N64 := Fr.snoc X64 N0 g_b
    have hn64 : n0 ≤ h64.size := Nat.le_trans hn0 (Keep.of_wr W64).1
    have K64 := K0.wr W64 (Or.inl (List.mem_of_getElem? (i := 0) rfl))
    refine own_go (fun t k => st64 t k) ?_
    show Go _ _ _ _ _ T64 (mkF m 19 #[.val (.ref a1), .val (.int (1 : Int32)), .val (.int (3 : Int32)), .val (.int (1 : Int32))] [])
    refine own_go (fun t k => XS.iinc X64.here hx rfl (hb hby d_prog_52_method_8_19) rfl (l' := #[.val (.ref a1), .val (.int (1 : Int32)), .val (.int (3 : Int32)), .val (.int (2 : Int32))]) rfl k) ?_
    show Go _ _ _ _ _ T64 (mkF m 22 #[.val (.ref a1), .val (.int (1 : Int32)), .val (.int (3 : Int32)), .val (.int (2 : Int32))] [])
    refine own_go (fun t k => XS.goto X64.here hx rfl (pc0 := 22) (pc' := 2) rfl (hb hby d_prog_52_method_8_22) (by decide) (by decide) k) ?_
    show Go _ _ _ _ _ T64 (mkF m 2 #[.val (.ref a1), .val (.int (1 : Int32)), .val (.int (3 : Int32)), .val (.int (2 : Int32))] [])
    refine own_go (fun t k => XS.iloadN X64.here hx rfl (hb hby d_prog_52_method_8_2) rfl k) ?_
    show Go _ _ _ _ _ T64 (mkF m 3 #[.val (.ref a1), .val (.int (1 : Int32)), .val (.int (3 : Int32)), .val (.int (2 : Int32))] [(.int (2 : Int32))])
    refine own_go (fun t k => XS.iloadN X64.here hx rfl (hb hby d_prog_52_method_8_3) rfl k) ?_
    show Go _ _ _ _ _ T64 (mkF m 4 #[.val (.ref a1), .val (.int (1 : Int32)), .val (.int (3 : Int32)), .val (.int (2 : Int32))] [(.int (1 : Int32)), (.int (2 : Int32))])
    refine own_go (fun t k => XS.iloadN X64.here hx rfl (hb hby d_prog_52_method_8_4) rfl k) ?_
    show Go _ _ _ _ _ T64 (mkF m 5 #[.val (.ref a1), .val (.int (1 : Int32)), .val (.int (3 : Int32)), .val (.int (2 : Int32))] [(.int (3 : Int32)), (.int (1 : Int32)), (.int (2 : Int32))])
    refine own_go (fun t k => XS.iadd X64.here hx rfl (hb hby d_prog_52_method_8_5) rfl k) ?_
    show Go _ _ _ _ _ T64 (mkF m 6 #[.val (.ref a1), .val (.int (1 : Int32)), .val (.int (3 : Int32)), .val (.int (2 : Int32))] [(.int (4 : Int32)), (.int (2 : Int32))])
    refine own_go (fun t k => XS.icmpNo X64.here hx rfl (hb hby d_prog_52_method_8_6) rfl (by decide) k) ?_
    show Go _ _ _ _ _ T64 (mkF m 9 #[.val (.ref a1), .val (.int (1 : Int32)), .val (.int (3 : Int32)), .val (.int (2 : Int32))] [])
    refine own_go (fun t k => XS.aloadN X64.here hx rfl (hb hby d_prog_52_method_8_9) rfl rfl k) ?_
    show Go _ _ _ _ _ T64 (mkF m 10 #[.val (.ref a1), .val (.int (1 : Int32)), .val (.int (3 : Int32)), .val (.int (2 : Int32))] [(.ref a1)])
    obtain ⟨T65, X65, e65, st65⟩ := getF X64 hx hZ hown (host := "") (Or.inl (hw _ (List.mem_of_getElem? (i := 19) rfl))) Via.refl e64 F_t (g := (mkF m 10 #[.val (.ref a1), .val (.int (1 : Int32)), .val (.int (3 : Int32)), .val (.int (2 : Int32))] [(.ref a1)])) rfl rfl (hb hby d_prog_52_method_8_10)
    refine own_go (fun t k => st65 t k) ?_
    show Go _ _ _ _ _ T65 (mkF m 13 #[.val (.ref a1), .val (.int (1 : Int32)), .val (.int (3 : Int32)), .val (.int (2 : Int32))] [(.ref b)])
    refine own_go (fun t k => XS.iloadN X65.here hx rfl (hb hby d_prog_52_method_8_13) rfl k) ?_
    show Go _ _ _ _ _ T65 (mkF m 14 #[.val (.ref a1), .val (.int (1 : Int32)), .val (.int (3 : Int32)), .val (.int (2 : Int32))] [(.int (2 : Int32)), (.ref b)])
    refine own_go (fun t k => XT.dup2 X65.here hx rfl (hb hby d_prog_52_method_8_14) rfl rfl rfl k) ?_
    show Go _ _ _ _ _ T65 (mkF m 15 #[.val (.ref a1), .val (.int (1 : Int32)), .val (.int (3 : Int32)), .val (.int (2 : Int32))] [(.int (2 : Int32)), (.ref b), (.int (2 : Int32)), (.ref b)])
    obtain ⟨cl66, Ar66, q66, S66, N66z, H66, G66⟩ := id V64
    have hin66 := inb_of S66 (j := (2 : Int32)) (z := (4 : Int32)) ⟨by decide, by decide⟩
    have hat66 : cl66.slots[((2 : Int32)).toNatClampNeg]? = some (.int t2) := H66 _ (Nat.lt_of_not_le fun q => hin66 (Or.inr q))
    refine own_go (fun t k => X65.iaload hx (j := (2 : Int32)) (v := (.int t2)) (by rw [e65]; exact Ar66.1) (State.isArrayOf_alike hZ.alike Ar66.2.1) Ar66.2.2 hin66 hat66 (g := (mkF m 15 #[.val (.ref a1), .val (.int (1 : Int32)), .val (.int (3 : Int32)), .val (.int (2 : Int32))] [(.int (2 : Int32)), (.ref b), (.int (2 : Int32)), (.ref b)])) rfl rfl (hb hby d_prog_52_method_8_15) _ k) ?_
    show Go _ _ _ _ _ T65 (mkF m 16 #[.val (.ref a1), .val (.int (1 : Int32)), .val (.int (3 : Int32)), .val (.int (2 : Int32))] [(.int t2), (.int (2 : Int32)), (.ref b)])
    refine own_go (fun t k => XS.iconst X65.here hx rfl (hb hby d_prog_52_method_8_16) k) ?_
    show Go _ _ _ _ _ T65 (mkF m 17 #[.val (.ref a1), .val (.int (1 : Int32)), .val (.int (3 : Int32)), .val (.int (2 : Int32))] [(.int (1 : Int32)), (.int t2), (.int (2 : Int32)), (.ref b)])
    refine own_go (fun t k => XS.iadd X65.here hx rfl (hb hby d_prog_52_method_8_17) rfl k) ?_
    show Go _ _ _ _ _ T65 (mkF m 18 #[.val (.ref a1), .val (.int (1 : Int32)), .val (.int (3 : Int32)), .val (.int (2 : Int32))] [(.int (t2 + (1 : Int32))), (.int (2 : Int32)), (.ref b)])
    obtain ⟨cl67, Ar67, q67, S67, N67z, H67, G67⟩ := V64
    have hin67 := inb_of S67 (j := (2 : Int32)) (z := (4 : Int32)) ⟨by decide, by decide⟩
    obtain ⟨T67, h67, X67, e67, W67, st67⟩ := stI X65 hx hZ e65 Ar67 (j := (2 : Int32)) hin67 (g := (mkF m 18 #[.val (.ref a1), .val (.int (1 : Int32)), .val (.int (3 : Int32)), .val (.int (2 : Int32))] [(.int (t2 + (1 : Int32))), (.int (2 : Int32)), (.ref b)])) rfl rfl (hb hby d_prog_52_method_8_18)
    replace E_a1 := E_a1.wr W67
    replace F_t := F_t.other W67 (Or.inl hne)
    have V67 : Arv Z h67 b k .int (4 : Int32) [(.int t0), (.int (t1 + (1 : Int32))), (.int (t2 + (1 : Int32))), (.int t3)] (.int (0 : Int32)) := Arv.set Ar67 q67 S67 N67z H67 G67 rfl W67 2 rfl (Nat.le_of_ble_eq_true rfl)
    have N67 := Fr.snoc X67 N64 g_b
    have hn67 : n0 ≤ h67.size := Nat.le_trans hn64 (Keep.of_wr W67).1
    have K67 := K64.wr W67 (Or.inl (List.mem_of_getElem? (i := 0) rfl))
    refine own_go (fun t k => st67 t k) ?_
    show Go _ _ _ _ _ T67 (mkF m 19 #[.val (.ref a1), .val (.int (1 : Int32)), .val (.int (3 : Int32)), .val (.int (2 : Int32))] [])
    refine own_go (fun t k => XS.iinc X67.here hx rfl (hb hby d_prog_52_method_8_19) rfl (l' := #[.val (.ref a1), .val (.int (1 : Int32)), .val (.int (3 : Int32)), .val (.int (3 : Int32))]) rfl k) ?_
    show Go _ _ _ _ _ T67 (mkF m 22 #[.val (.ref a1), .val (.int (1 : Int32)), .val (.int (3 : Int32)), .val (.int (3 : Int32))] [])
    refine own_go (fun t k => XS.goto X67.here hx rfl (pc0 := 22) (pc' := 2) rfl (hb hby d_prog_52_method_8_22) (by decide) (by decide) k) ?_
    show Go _ _ _ _ _ T67 (mkF m 2 #[.val (.ref a1), .val (.int (1 : Int32)), .val (.int (3 : Int32)), .val (.int (3 : Int32))] [])
    refine own_go (fun t k => XS.iloadN X67.here hx rfl (hb hby d_prog_52_method_8_2) rfl k) ?_
    show Go _ _ _ _ _ T67 (mkF m 3 #[.val (.ref a1), .val (.int (1 : Int32)), .val (.int (3 : Int32)), .val (.int (3 : Int32))] [(.int (3 : Int32))])
    refine own_go (fun t k => XS.iloadN X67.here hx rfl (hb hby d_prog_52_method_8_3) rfl k) ?_
    show Go _ _ _ _ _ T67 (mkF m 4 #[.val (.ref a1), .val (.int (1 : Int32)), .val (.int (3 : Int32)), .val (.int (3 : Int32))] [(.int (1 : Int32)), (.int (3 : Int32))])
    refine own_go (fun t k => XS.iloadN X67.here hx rfl (hb hby d_prog_52_method_8_4) rfl k) ?_
    show Go _ _ _ _ _ T67 (mkF m 5 #[.val (.ref a1), .val (.int (1 : Int32)), .val (.int (3 : Int32)), .val (.int (3 : Int32))] [(.int (3 : Int32)), (.int (1 : Int32)), (.int (3 : Int32))])
    refine own_go (fun t k => XS.iadd X67.here hx rfl (hb hby d_prog_52_method_8_5) rfl k) ?_
    show Go _ _ _ _ _ T67 (mkF m 6 #[.val (.ref a1), .val (.int (1 : Int32)), .val (.int (3 : Int32)), .val (.int (3 : Int32))] [(.int (4 : Int32)), (.int (3 : Int32))])
    refine own_go (fun t k => XS.icmpNo X67.here hx rfl (hb hby d_prog_52_method_8_6) rfl (by decide) k) ?_
    show Go _ _ _ _ _ T67 (mkF m 9 #[.val (.ref a1), .val (.int (1 : Int32)), .val (.int (3 : Int32)), .val (.int (3 : Int32))] [])
    refine own_go (fun t k => XS.aloadN X67.here hx rfl (hb hby d_prog_52_method_8_9) rfl rfl k) ?_
    show Go _ _ _ _ _ T67 (mkF m 10 #[.val (.ref a1), .val (.int (1 : Int32)), .val (.int (3 : Int32)), .val (.int (3 : Int32))] [(.ref a1)])
    obtain ⟨T68, X68, e68, st68⟩ := getF X67 hx hZ hown (host := "") (Or.inl (hw _ (List.mem_of_getElem? (i := 19) rfl))) Via.refl e67 F_t (g := (mkF m 10 #[.val (.ref a1), .val (.int (1 : Int32)), .val (.int (3 : Int32)), .val (.int (3 : Int32))] [(.ref a1)])) rfl rfl (hb hby d_prog_52_method_8_10)
    refine own_go (fun t k => st68 t k) ?_
    show Go _ _ _ _ _ T68 (mkF m 13 #[.val (.ref a1), .val (.int (1 : Int32)), .val (.int (3 : Int32)), .val (.int (3 : Int32))] [(.ref b)])
    refine own_go (fun t k => XS.iloadN X68.here hx rfl (hb hby d_prog_52_method_8_13) rfl k) ?_
    show Go _ _ _ _ _ T68 (mkF m 14 #[.val (.ref a1), .val (.int (1 : Int32)), .val (.int (3 : Int32)), .val (.int (3 : Int32))] [(.int (3 : Int32)), (.ref b)])
    refine own_go (fun t k => XT.dup2 X68.here hx rfl (hb hby d_prog_52_method_8_14) rfl rfl rfl k) ?_
    show Go _ _ _ _ _ T68 (mkF m 15 #[.val (.ref a1), .val (.int (1 : Int32)), .val (.int (3 : Int32)), .val (.int (3 : Int32))] [(.int (3 : Int32)), (.ref b), (.int (3 : Int32)), (.ref b)])
    obtain ⟨cl69, Ar69, q69, S69, N69z, H69, G69⟩ := id V67
    have hin69 := inb_of S69 (j := (3 : Int32)) (z := (4 : Int32)) ⟨by decide, by decide⟩
    have hat69 : cl69.slots[((3 : Int32)).toNatClampNeg]? = some (.int t3) := H69 _ (Nat.lt_of_not_le fun q => hin69 (Or.inr q))
    refine own_go (fun t k => X68.iaload hx (j := (3 : Int32)) (v := (.int t3)) (by rw [e68]; exact Ar69.1) (State.isArrayOf_alike hZ.alike Ar69.2.1) Ar69.2.2 hin69 hat69 (g := (mkF m 15 #[.val (.ref a1), .val (.int (1 : Int32)), .val (.int (3 : Int32)), .val (.int (3 : Int32))] [(.int (3 : Int32)), (.ref b), (.int (3 : Int32)), (.ref b)])) rfl rfl (hb hby d_prog_52_method_8_15) _ k) ?_
    show Go _ _ _ _ _ T68 (mkF m 16 #[.val (.ref a1), .val (.int (1 : Int32)), .val (.int (3 : Int32)), .val (.int (3 : Int32))] [(.int t3), (.int (3 : Int32)), (.ref b)])
    refine own_go (fun t k => XS.iconst X68.here hx rfl (hb hby d_prog_52_method_8_16) k) ?_
    show Go _ _ _ _ _ T68 (mkF m 17 #[.val (.ref a1), .val (.int (1 : Int32)), .val (.int (3 : Int32)), .val (.int (3 : Int32))] [(.int (1 : Int32)), (.int t3), (.int (3 : Int32)), (.ref b)])
    refine own_go (fun t k => XS.iadd X68.here hx rfl (hb hby d_prog_52_method_8_17) rfl k) ?_
    show Go _ _ _ _ _ T68 (mkF m 18 #[.val (.ref a1), .val (.int (1 : Int32)), .val (.int (3 : Int32)), .val (.int (3 : Int32))] [(.int (t3 + (1 : Int32))), (.int (3 : Int32)), (.ref b)])
    obtain ⟨cl70, Ar70, q70, S70, N70z, H70, G70⟩ := V67
    have hin70 := inb_of S70 (j := (3 : Int32)) (z := (4 : Int32)) ⟨by decide, by decide⟩
    obtain ⟨T70, h70, X70, e70, W70, st70⟩ := stI X68 hx hZ e68 Ar70 (j := (3 : Int32)) hin70 (g := (mkF m 18 #[.val (.ref a1), .val (.int (1 : Int32)), .val (.int (3 : Int32)), .val (.int (3 : Int32))] [(.int (t3 + (1 : Int32))), (.int (3 : Int32)), (.ref b)])) rfl rfl (hb hby d_prog_52_method_8_18)
    replace E_a1 := E_a1.wr W70
    replace F_t := F_t.other W70 (Or.inl hne)
    have V70 : Arv Z h70 b k .int (4 : Int32) [(.int t0), (.int (t1 + (1 : Int32))), (.int (t2 + (1 : Int32))), (.int (t3 + (1 : Int32)))] (.int (0 : Int32)) := Arv.set Ar70 q70 S70 N70z H70 G70 rfl W70 3 rfl (Nat.le_of_ble_eq_true rfl)
    have N70 := Fr.snoc X70 N67 g_b
    have hn70 : n0 ≤ h70.size := Nat.le_trans hn67 (Keep.of_wr W70).1
    have K70 := K67.wr W70 (Or.inl (List.mem_of_getElem? (i := 0) rfl))
    refine own_go (fun t k => st70 t k) ?_
    show Go _ _ _ _ _ T70 (mkF m 19 #[.val (.ref a1), .val (.int (1 : Int32)), .val (.int (3 : Int32)), .val (.int (3 : Int32))] [])
    refine own_go (fun t k => XS.iinc X70.here hx rfl (hb hby d_prog_52_method_8_19) rfl (l' := #[.val (.ref a1), .val (.int (1 : Int32)), .val (.int (3 : Int32)), .val (.int (4 : Int32))]) rfl k) ?_
    show Go _ _ _ _ _ T70 (mkF m 22 #[.val (.ref a1), .val (.int (1 : Int32)), .val (.int (3 : Int32)), .val (.int (4 : Int32))] [])
    refine own_go (fun t k => XS.goto X70.here hx rfl (pc0 := 22) (pc' := 2) rfl (hb hby d_prog_52_method_8_22) (by decide) (by decide) k) ?_
    show Go _ _ _ _ _ T70 (mkF m 2 #[.val (.ref a1), .val (.int (1 : Int32)), .val (.int (3 : Int32)), .val (.int (4 : Int32))] [])
    refine own_go (fun t k => XS.iloadN X70.here hx rfl (hb hby d_prog_52_method_8_2) rfl k) ?_
    show Go _ _ _ _ _ T70 (mkF m 3 #[.val (.ref a1), .val (.int (1 : Int32)), .val (.int (3 : Int32)), .val (.int (4 : Int32))] [(.int (4 : Int32))])
    refine own_go (fun t k => XS.iloadN X70.here hx rfl (hb hby d_prog_52_method_8_3) rfl k) ?_
    show Go _ _ _ _ _ T70 (mkF m 4 #[.val (.ref a1), .val (.int (1 : Int32)), .val (.int (3 : Int32)), .val (.int (4 : Int32))] [(.int (1 : Int32)), (.int (4 : Int32))])
    refine own_go (fun t k => XS.iloadN X70.here hx rfl (hb hby d_prog_52_method_8_4) rfl k) ?_
    show Go _ _ _ _ _ T70 (mkF m 5 #[.val (.ref a1), .val (.int (1 : Int32)), .val (.int (3 : Int32)), .val (.int (4 : Int32))] [(.int (3 : Int32)), (.int (1 : Int32)), (.int (4 : Int32))])
    refine own_go (fun t k => XS.iadd X70.here hx rfl (hb hby d_prog_52_method_8_5) rfl k) ?_
    show Go _ _ _ _ _ T70 (mkF m 6 #[.val (.ref a1), .val (.int (1 : Int32)), .val (.int (3 : Int32)), .val (.int (4 : Int32))] [(.int (4 : Int32)), (.int (4 : Int32))])
    refine own_go (fun t k => XS.icmpYes X70.here hx rfl (pc0 := 6) (pc' := 25) rfl (hb hby d_prog_52_method_8_6) rfl (by decide) (by decide) (by decide) k) ?_
    show Go _ _ _ _ _ T70 (mkF m 25 #[.val (.ref a1), .val (.int (1 : Int32)), .val (.int (3 : Int32)), .val (.int (4 : Int32))] [])
    refine own_retV X70 hx (own_lvN X70 hlk (by decide) (by decide)) hret (hb hby d_prog_52_method_8_25) ?_
    rw [e70]
    have i0 : own_in (0 : Int32) (1 : Int32) (3 : Int32) = 0 := by decide
    have i1 : own_in (1 : Int32) (1 : Int32) (3 : Int32) = 1 := by decide
    have i2 : own_in (2 : Int32) (1 : Int32) (3 : Int32) = 1 := by decide
    have i3 : own_in (3 : Int32) (1 : Int32) (3 : Int32) = 1 := by decide
    refine ⟨rfl, N70, K70, ?_⟩
    have hV := V70
    rw [i0, i1, i2, i3]
    simpa only [Int32.add_zero] using hV
  · skip
    show Go _ _ _ _ _ s₁ (mkF m 0 #[.val (.ref a1), .val (.int (2 : Int32)), .val (.int (0 : Int32)), .unset] [])
    refine own_go (fun t k => XS.iloadN X0.here hx rfl (hb hby d_prog_52_method_8_0) rfl k) ?_
    show Go _ _ _ _ _ s₁ (mkF m 1 #[.val (.ref a1), .val (.int (2 : Int32)), .val (.int (0 : Int32)), .unset] [(.int (2 : Int32))])
    refine own_go (fun t k => XS.istoreN X0.here hx rfl (hb hby d_prog_52_method_8_1) rfl (l' := #[.val (.ref a1), .val (.int (2 : Int32)), .val (.int (0 : Int32)), .val (.int (2 : Int32))]) rfl k) ?_
    show Go _ _ _ _ _ s₁ (mkF m 2 #[.val (.ref a1), .val (.int (2 : Int32)), .val (.int (0 : Int32)), .val (.int (2 : Int32))] [])
    refine own_go (fun t k => XS.iloadN X0.here hx rfl (hb hby d_prog_52_method_8_2) rfl k) ?_
    show Go _ _ _ _ _ s₁ (mkF m 3 #[.val (.ref a1), .val (.int (2 : Int32)), .val (.int (0 : Int32)), .val (.int (2 : Int32))] [(.int (2 : Int32))])
    refine own_go (fun t k => XS.iloadN X0.here hx rfl (hb hby d_prog_52_method_8_3) rfl k) ?_
    show Go _ _ _ _ _ s₁ (mkF m 4 #[.val (.ref a1), .val (.int (2 : Int32)), .val (.int (0 : Int32)), .val (.int (2 : Int32))] [(.int (2 : Int32)), (.int (2 : Int32))])
    refine own_go (fun t k => XS.iloadN X0.here hx rfl (hb hby d_prog_52_method_8_4) rfl k) ?_
    show Go _ _ _ _ _ s₁ (mkF m 5 #[.val (.ref a1), .val (.int (2 : Int32)), .val (.int (0 : Int32)), .val (.int (2 : Int32))] [(.int (0 : Int32)), (.int (2 : Int32)), (.int (2 : Int32))])
    refine own_go (fun t k => XS.iadd X0.here hx rfl (hb hby d_prog_52_method_8_5) rfl k) ?_
    show Go _ _ _ _ _ s₁ (mkF m 6 #[.val (.ref a1), .val (.int (2 : Int32)), .val (.int (0 : Int32)), .val (.int (2 : Int32))] [(.int (2 : Int32)), (.int (2 : Int32))])
    refine own_go (fun t k => XS.icmpYes X0.here hx rfl (pc0 := 6) (pc' := 25) rfl (hb hby d_prog_52_method_8_6) rfl (by decide) (by decide) (by decide) k) ?_
    show Go _ _ _ _ _ s₁ (mkF m 25 #[.val (.ref a1), .val (.int (2 : Int32)), .val (.int (0 : Int32)), .val (.int (2 : Int32))] [])
    refine own_retV X0 hx (own_lvN X0 hlk (by decide) (by decide)) hret (hb hby d_prog_52_method_8_25) ?_
    rw [e0]
    have i0 : own_in (0 : Int32) (2 : Int32) (0 : Int32) = 0 := by decide
    have i1 : own_in (1 : Int32) (2 : Int32) (0 : Int32) = 0 := by decide
    have i2 : own_in (2 : Int32) (2 : Int32) (0 : Int32) = 0 := by decide
    have i3 : own_in (3 : Int32) (2 : Int32) (0 : Int32) = 0 := by decide
    refine ⟨rfl, N0, K0, ?_⟩
    have hV := V_b
    rw [i0, i1, i2, i3]
    simpa only [Int32.add_zero] using hV
  · skip
    show Go _ _ _ _ _ s₁ (mkF m 0 #[.val (.ref a1), .val (.int (2 : Int32)), .val (.int (1 : Int32)), .unset] [])
    refine own_go (fun t k => XS.iloadN X0.here hx rfl (hb hby d_prog_52_method_8_0) rfl k) ?_
    show Go _ _ _ _ _ s₁ (mkF m 1 #[.val (.ref a1), .val (.int (2 : Int32)), .val (.int (1 : Int32)), .unset] [(.int (2 : Int32))])
    refine own_go (fun t k => XS.istoreN X0.here hx rfl (hb hby d_prog_52_method_8_1) rfl (l' := #[.val (.ref a1), .val (.int (2 : Int32)), .val (.int (1 : Int32)), .val (.int (2 : Int32))]) rfl k) ?_
    show Go _ _ _ _ _ s₁ (mkF m 2 #[.val (.ref a1), .val (.int (2 : Int32)), .val (.int (1 : Int32)), .val (.int (2 : Int32))] [])
    refine own_go (fun t k => XS.iloadN X0.here hx rfl (hb hby d_prog_52_method_8_2) rfl k) ?_
    show Go _ _ _ _ _ s₁ (mkF m 3 #[.val (.ref a1), .val (.int (2 : Int32)), .val (.int (1 : Int32)), .val (.int (2 : Int32))] [(.int (2 : Int32))])
    refine own_go (fun t k => XS.iloadN X0.here hx rfl (hb hby d_prog_52_method_8_3) rfl k) ?_
    show Go _ _ _ _ _ s₁ (mkF m 4 #[.val (.ref a1), .val (.int (2 : Int32)), .val (.int (1 : Int32)), .val (.int (2 : Int32))] [(.int (2 : Int32)), (.int (2 : Int32))])
    refine own_go (fun t k => XS.iloadN X0.here hx rfl (hb hby d_prog_52_method_8_4) rfl k) ?_
    show Go _ _ _ _ _ s₁ (mkF m 5 #[.val (.ref a1), .val (.int (2 : Int32)), .val (.int (1 : Int32)), .val (.int (2 : Int32))] [(.int (1 : Int32)), (.int (2 : Int32)), (.int (2 : Int32))])
    refine own_go (fun t k => XS.iadd X0.here hx rfl (hb hby d_prog_52_method_8_5) rfl k) ?_
    show Go _ _ _ _ _ s₁ (mkF m 6 #[.val (.ref a1), .val (.int (2 : Int32)), .val (.int (1 : Int32)), .val (.int (2 : Int32))] [(.int (3 : Int32)), (.int (2 : Int32))])
    refine own_go (fun t k => XS.icmpNo X0.here hx rfl (hb hby d_prog_52_method_8_6) rfl (by decide) k) ?_
    show Go _ _ _ _ _ s₁ (mkF m 9 #[.val (.ref a1), .val (.int (2 : Int32)), .val (.int (1 : Int32)), .val (.int (2 : Int32))] [])
    refine own_go (fun t k => XS.aloadN X0.here hx rfl (hb hby d_prog_52_method_8_9) rfl rfl k) ?_
    show Go _ _ _ _ _ s₁ (mkF m 10 #[.val (.ref a1), .val (.int (2 : Int32)), .val (.int (1 : Int32)), .val (.int (2 : Int32))] [(.ref a1)])
    obtain ⟨T71, X71, e71, st71⟩ := getF X0 hx hZ hown (host := "") (Or.inl (hw _ (List.mem_of_getElem? (i := 19) rfl))) Via.refl e0 F_t (g := (mkF m 10 #[.val (.ref a1), .val (.int (2 : Int32)), .val (.int (1 : Int32)), .val (.int (2 : Int32))] [(.ref a1)])) rfl rfl (hb hby d_prog_52_method_8_10)
    refine own_go (fun t k => st71 t k) ?_
    show Go _ _ _ _ _ T71 (mkF m 13 #[.val (.ref a1), .val (.int (2 : Int32)), .val (.int (1 : Int32)), .val (.int (2 : Int32))] [(.ref b)])
    refine own_go (fun t k => XS.iloadN X71.here hx rfl (hb hby d_prog_52_method_8_13) rfl k) ?_
    show Go _ _ _ _ _ T71 (mkF m 14 #[.val (.ref a1), .val (.int (2 : Int32)), .val (.int (1 : Int32)), .val (.int (2 : Int32))] [(.int (2 : Int32)), (.ref b)])
    refine own_go (fun t k => XT.dup2 X71.here hx rfl (hb hby d_prog_52_method_8_14) rfl rfl rfl k) ?_
    show Go _ _ _ _ _ T71 (mkF m 15 #[.val (.ref a1), .val (.int (2 : Int32)), .val (.int (1 : Int32)), .val (.int (2 : Int32))] [(.int (2 : Int32)), (.ref b), (.int (2 : Int32)), (.ref b)])
    obtain ⟨cl72, Ar72, q72, S72, N72z, H72, G72⟩ := id V_b
    have hin72 := inb_of S72 (j := (2 : Int32)) (z := (4 : Int32)) ⟨by decide, by decide⟩
    have hat72 : cl72.slots[((2 : Int32)).toNatClampNeg]? = some (.int t2) := H72 _ (Nat.lt_of_not_le fun q => hin72 (Or.inr q))
    refine own_go (fun t k => X71.iaload hx (j := (2 : Int32)) (v := (.int t2)) (by rw [e71]; exact Ar72.1) (State.isArrayOf_alike hZ.alike Ar72.2.1) Ar72.2.2 hin72 hat72 (g := (mkF m 15 #[.val (.ref a1), .val (.int (2 : Int32)), .val (.int (1 : Int32)), .val (.int (2 : Int32))] [(.int (2 : Int32)), (.ref b), (.int (2 : Int32)), (.ref b)])) rfl rfl (hb hby d_prog_52_method_8_15) _ k) ?_
    show Go _ _ _ _ _ T71 (mkF m 16 #[.val (.ref a1), .val (.int (2 : Int32)), .val (.int (1 : Int32)), .val (.int (2 : Int32))] [(.int t2), (.int (2 : Int32)), (.ref b)])
    refine own_go (fun t k => XS.iconst X71.here hx rfl (hb hby d_prog_52_method_8_16) k) ?_
    show Go _ _ _ _ _ T71 (mkF m 17 #[.val (.ref a1), .val (.int (2 : Int32)), .val (.int (1 : Int32)), .val (.int (2 : Int32))] [(.int (1 : Int32)), (.int t2), (.int (2 : Int32)), (.ref b)])
    refine own_go (fun t k => XS.iadd X71.here hx rfl (hb hby d_prog_52_method_8_17) rfl k) ?_
    show Go _ _ _ _ _ T71 (mkF m 18 #[.val (.ref a1), .val (.int (2 : Int32)), .val (.int (1 : Int32)), .val (.int (2 : Int32))] [(.int (t2 + (1 : Int32))), (.int (2 : Int32)), (.ref b)])
    obtain ⟨cl73, Ar73, q73, S73, N73z, H73, G73⟩ := V_b
    have hin73 := inb_of S73 (j := (2 : Int32)) (z := (4 : Int32)) ⟨by decide, by decide⟩
    obtain ⟨T73, h73, X73, e73, W73, st73⟩ := stI X71 hx hZ e71 Ar73 (j := (2 : Int32)) hin73 (g := (mkF m 18 #[.val (.ref a1), .val (.int (2 : Int32)), .val (.int (1 : Int32)), .val (.int (2 : Int32))] [(.int (t2 + (1 : Int32))), (.int (2 : Int32)), (.ref b)])) rfl rfl (hb hby d_prog_52_method_8_18)
    replace E_a1 := E_a1.wr W73
    replace F_t := F_t.other W73 (Or.inl hne)
    have V73 : Arv Z h73 b k .int (4 : Int32) [(.int t0), (.int t1), (.int (t2 + (1 : Int32))), (.int t3)] (.int (0 : Int32)) := Arv.set Ar73 q73 S73 N73z H73 G73 rfl W73 2 rfl (Nat.le_of_ble_eq_true rfl)
    have N73 := Fr.snoc X73 N0 g_b
    have hn73 : n0 ≤ h73.size := Nat.le_trans hn0 (Keep.of_wr W73).1
    have K73 := K0.wr W73 (Or.inl (List.mem_of_getElem? (i := 0) rfl))
    refine own_go (fun t k => st73 t k) ?_
    show Go _ _ _ _ _ T73 (mkF m 19 #[.val (.ref a1), .val (.int (2 : Int32)), .val (.int (1 : Int32)), .val (.int (2 : Int32))] [])
    refine own_go (fun t k => XS.iinc X73.here hx rfl (hb hby d_prog_52_method_8_19) rfl (l' := #[.val (.ref a1), .val (.int (2 : Int32)), .val (.int (1 : Int32)), .val (.int (3 : Int32))]) rfl k) ?_
    show Go _ _ _ _ _ T73 (mkF m 22 #[.val (.ref a1), .val (.int (2 : Int32)), .val (.int (1 : Int32)), .val (.int (3 : Int32))] [])
    refine own_go (fun t k => XS.goto X73.here hx rfl (pc0 := 22) (pc' := 2) rfl (hb hby d_prog_52_method_8_22) (by decide) (by decide) k) ?_
    show Go _ _ _ _ _ T73 (mkF m 2 #[.val (.ref a1), .val (.int (2 : Int32)), .val (.int (1 : Int32)), .val (.int (3 : Int32))] [])
    refine own_go (fun t k => XS.iloadN X73.here hx rfl (hb hby d_prog_52_method_8_2) rfl k) ?_
    show Go _ _ _ _ _ T73 (mkF m 3 #[.val (.ref a1), .val (.int (2 : Int32)), .val (.int (1 : Int32)), .val (.int (3 : Int32))] [(.int (3 : Int32))])
    refine own_go (fun t k => XS.iloadN X73.here hx rfl (hb hby d_prog_52_method_8_3) rfl k) ?_
    show Go _ _ _ _ _ T73 (mkF m 4 #[.val (.ref a1), .val (.int (2 : Int32)), .val (.int (1 : Int32)), .val (.int (3 : Int32))] [(.int (2 : Int32)), (.int (3 : Int32))])
    refine own_go (fun t k => XS.iloadN X73.here hx rfl (hb hby d_prog_52_method_8_4) rfl k) ?_
    show Go _ _ _ _ _ T73 (mkF m 5 #[.val (.ref a1), .val (.int (2 : Int32)), .val (.int (1 : Int32)), .val (.int (3 : Int32))] [(.int (1 : Int32)), (.int (2 : Int32)), (.int (3 : Int32))])
    refine own_go (fun t k => XS.iadd X73.here hx rfl (hb hby d_prog_52_method_8_5) rfl k) ?_
    show Go _ _ _ _ _ T73 (mkF m 6 #[.val (.ref a1), .val (.int (2 : Int32)), .val (.int (1 : Int32)), .val (.int (3 : Int32))] [(.int (3 : Int32)), (.int (3 : Int32))])
    refine own_go (fun t k => XS.icmpYes X73.here hx rfl (pc0 := 6) (pc' := 25) rfl (hb hby d_prog_52_method_8_6) rfl (by decide) (by decide) (by decide) k) ?_
    show Go _ _ _ _ _ T73 (mkF m 25 #[.val (.ref a1), .val (.int (2 : Int32)), .val (.int (1 : Int32)), .val (.int (3 : Int32))] [])
    refine own_retV X73 hx (own_lvN X73 hlk (by decide) (by decide)) hret (hb hby d_prog_52_method_8_25) ?_
    rw [e73]
    have i0 : own_in (0 : Int32) (2 : Int32) (1 : Int32) = 0 := by decide
    have i1 : own_in (1 : Int32) (2 : Int32) (1 : Int32) = 0 := by decide
    have i2 : own_in (2 : Int32) (2 : Int32) (1 : Int32) = 1 := by decide
    have i3 : own_in (3 : Int32) (2 : Int32) (1 : Int32) = 0 := by decide
    refine ⟨rfl, N73, K73, ?_⟩
    have hV := V73
    rw [i0, i1, i2, i3]
    simpa only [Int32.add_zero] using hV
  · skip
    show Go _ _ _ _ _ s₁ (mkF m 0 #[.val (.ref a1), .val (.int (2 : Int32)), .val (.int (2 : Int32)), .unset] [])
    refine own_go (fun t k => XS.iloadN X0.here hx rfl (hb hby d_prog_52_method_8_0) rfl k) ?_
    show Go _ _ _ _ _ s₁ (mkF m 1 #[.val (.ref a1), .val (.int (2 : Int32)), .val (.int (2 : Int32)), .unset] [(.int (2 : Int32))])
    refine own_go (fun t k => XS.istoreN X0.here hx rfl (hb hby d_prog_52_method_8_1) rfl (l' := #[.val (.ref a1), .val (.int (2 : Int32)), .val (.int (2 : Int32)), .val (.int (2 : Int32))]) rfl k) ?_
    show Go _ _ _ _ _ s₁ (mkF m 2 #[.val (.ref a1), .val (.int (2 : Int32)), .val (.int (2 : Int32)), .val (.int (2 : Int32))] [])
    refine own_go (fun t k => XS.iloadN X0.here hx rfl (hb hby d_prog_52_method_8_2) rfl k) ?_
    show Go _ _ _ _ _ s₁ (mkF m 3 #[.val (.ref a1), .val (.int (2 : Int32)), .val (.int (2 : Int32)), .val (.int (2 : Int32))] [(.int (2 : Int32))])
    refine own_go (fun t k => XS.iloadN X0.here hx rfl (hb hby d_prog_52_method_8_3) rfl k) ?_
    show Go _ _ _ _ _ s₁ (mkF m 4 #[.val (.ref a1), .val (.int (2 : Int32)), .val (.int (2 : Int32)), .val (.int (2 : Int32))] [(.int (2 : Int32)), (.int (2 : Int32))])
    refine own_go (fun t k => XS.iloadN X0.here hx rfl (hb hby d_prog_52_method_8_4) rfl k) ?_
    show Go _ _ _ _ _ s₁ (mkF m 5 #[.val (.ref a1), .val (.int (2 : Int32)), .val (.int (2 : Int32)), .val (.int (2 : Int32))] [(.int (2 : Int32)), (.int (2 : Int32)), (.int (2 : Int32))])
    refine own_go (fun t k => XS.iadd X0.here hx rfl (hb hby d_prog_52_method_8_5) rfl k) ?_
    show Go _ _ _ _ _ s₁ (mkF m 6 #[.val (.ref a1), .val (.int (2 : Int32)), .val (.int (2 : Int32)), .val (.int (2 : Int32))] [(.int (4 : Int32)), (.int (2 : Int32))])
    refine own_go (fun t k => XS.icmpNo X0.here hx rfl (hb hby d_prog_52_method_8_6) rfl (by decide) k) ?_
    show Go _ _ _ _ _ s₁ (mkF m 9 #[.val (.ref a1), .val (.int (2 : Int32)), .val (.int (2 : Int32)), .val (.int (2 : Int32))] [])
    refine own_go (fun t k => XS.aloadN X0.here hx rfl (hb hby d_prog_52_method_8_9) rfl rfl k) ?_
    show Go _ _ _ _ _ s₁ (mkF m 10 #[.val (.ref a1), .val (.int (2 : Int32)), .val (.int (2 : Int32)), .val (.int (2 : Int32))] [(.ref a1)])
    obtain ⟨T74, X74, e74, st74⟩ := getF X0 hx hZ hown (host := "") (Or.inl (hw _ (List.mem_of_getElem? (i := 19) rfl))) Via.refl e0 F_t (g := (mkF m 10 #[.val (.ref a1), .val (.int (2 : Int32)), .val (.int (2 : Int32)), .val (.int (2 : Int32))] [(.ref a1)])) rfl rfl (hb hby d_prog_52_method_8_10)
    refine own_go (fun t k => st74 t k) ?_
    show Go _ _ _ _ _ T74 (mkF m 13 #[.val (.ref a1), .val (.int (2 : Int32)), .val (.int (2 : Int32)), .val (.int (2 : Int32))] [(.ref b)])
    refine own_go (fun t k => XS.iloadN X74.here hx rfl (hb hby d_prog_52_method_8_13) rfl k) ?_
    show Go _ _ _ _ _ T74 (mkF m 14 #[.val (.ref a1), .val (.int (2 : Int32)), .val (.int (2 : Int32)), .val (.int (2 : Int32))] [(.int (2 : Int32)), (.ref b)])
    refine own_go (fun t k => XT.dup2 X74.here hx rfl (hb hby d_prog_52_method_8_14) rfl rfl rfl k) ?_
    show Go _ _ _ _ _ T74 (mkF m 15 #[.val (.ref a1), .val (.int (2 : Int32)), .val (.int (2 : Int32)), .val (.int (2 : Int32))] [(.int (2 : Int32)), (.ref b), (.int (2 : Int32)), (.ref b)])
    obtain ⟨cl75, Ar75, q75, S75, N75z, H75, G75⟩ := id V_b
    have hin75 := inb_of S75 (j := (2 : Int32)) (z := (4 : Int32)) ⟨by decide, by decide⟩
    have hat75 : cl75.slots[((2 : Int32)).toNatClampNeg]? = some (.int t2) := H75 _ (Nat.lt_of_not_le fun q => hin75 (Or.inr q))
    refine own_go (fun t k => X74.iaload hx (j := (2 : Int32)) (v := (.int t2)) (by rw [e74]; exact Ar75.1) (State.isArrayOf_alike hZ.alike Ar75.2.1) Ar75.2.2 hin75 hat75 (g := (mkF m 15 #[.val (.ref a1), .val (.int (2 : Int32)), .val (.int (2 : Int32)), .val (.int (2 : Int32))] [(.int (2 : Int32)), (.ref b), (.int (2 : Int32)), (.ref b)])) rfl rfl (hb hby d_prog_52_method_8_15) _ k) ?_
    show Go _ _ _ _ _ T74 (mkF m 16 #[.val (.ref a1), .val (.int (2 : Int32)), .val (.int (2 : Int32)), .val (.int (2 : Int32))] [(.int t2), (.int (2 : Int32)), (.ref b)])
    refine own_go (fun t k => XS.iconst X74.here hx rfl (hb hby d_prog_52_method_8_16) k) ?_
    show Go _ _ _ _ _ T74 (mkF m 17 #[.val (.ref a1), .val (.int (2 : Int32)), .val (.int (2 : Int32)), .val (.int (2 : Int32))] [(.int (1 : Int32)), (.int t2), (.int (2 : Int32)), (.ref b)])
    refine own_go (fun t k => XS.iadd X74.here hx rfl (hb hby d_prog_52_method_8_17) rfl k) ?_
    show Go _ _ _ _ _ T74 (mkF m 18 #[.val (.ref a1), .val (.int (2 : Int32)), .val (.int (2 : Int32)), .val (.int (2 : Int32))] [(.int (t2 + (1 : Int32))), (.int (2 : Int32)), (.ref b)])
    obtain ⟨cl76, Ar76, q76, S76, N76z, H76, G76⟩ := V_b
    have hin76 := inb_of S76 (j := (2 : Int32)) (z := (4 : Int32)) ⟨by decide, by decide⟩
    obtain ⟨T76, h76, X76, e76, W76, st76⟩ := stI X74 hx hZ e74 Ar76 (j := (2 : Int32)) hin76 (g := (mkF m 18 #[.val (.ref a1), .val (.int (2 : Int32)), .val (.int (2 : Int32)), .val (.int (2 : Int32))] [(.int (t2 + (1 : Int32))), (.int (2 : Int32)), (.ref b)])) rfl rfl (hb hby d_prog_52_method_8_18)
    replace E_a1 := E_a1.wr W76
    replace F_t := F_t.other W76 (Or.inl hne)
    have V76 : Arv Z h76 b k .int (4 : Int32) [(.int t0), (.int t1), (.int (t2 + (1 : Int32))), (.int t3)] (.int (0 : Int32)) := Arv.set Ar76 q76 S76 N76z H76 G76 rfl W76 2 rfl (Nat.le_of_ble_eq_true rfl)
    have N76 := Fr.snoc X76 N0 g_b
    have hn76 : n0 ≤ h76.size := Nat.le_trans hn0 (Keep.of_wr W76).1
    have K76 := K0.wr W76 (Or.inl (List.mem_of_getElem? (i := 0) rfl))
    refine own_go (fun t k => st76 t k) ?_
    show Go _ _ _ _ _ T76 (mkF m 19 #[.val (.ref a1), .val (.int (2 : Int32)), .val (.int (2 : Int32)), .val (.int (2 : Int32))] [])
    refine own_go (fun t k => XS.iinc X76.here hx rfl (hb hby d_prog_52_method_8_19) rfl (l' := #[.val (.ref a1), .val (.int (2 : Int32)), .val (.int (2 : Int32)), .val (.int (3 : Int32))]) rfl k) ?_
    show Go _ _ _ _ _ T76 (mkF m 22 #[.val (.ref a1), .val (.int (2 : Int32)), .val (.int (2 : Int32)), .val (.int (3 : Int32))] [])
    refine own_go (fun t k => XS.goto X76.here hx rfl (pc0 := 22) (pc' := 2) rfl (hb hby d_prog_52_method_8_22) (by decide) (by decide) k) ?_
    show Go _ _ _ _ _ T76 (mkF m 2 #[.val (.ref a1), .val (.int (2 : Int32)), .val (.int (2 : Int32)), .val (.int (3 : Int32))] [])
    refine own_go (fun t k => XS.iloadN X76.here hx rfl (hb hby d_prog_52_method_8_2) rfl k) ?_
    show Go _ _ _ _ _ T76 (mkF m 3 #[.val (.ref a1), .val (.int (2 : Int32)), .val (.int (2 : Int32)), .val (.int (3 : Int32))] [(.int (3 : Int32))])
    refine own_go (fun t k => XS.iloadN X76.here hx rfl (hb hby d_prog_52_method_8_3) rfl k) ?_
    show Go _ _ _ _ _ T76 (mkF m 4 #[.val (.ref a1), .val (.int (2 : Int32)), .val (.int (2 : Int32)), .val (.int (3 : Int32))] [(.int (2 : Int32)), (.int (3 : Int32))])
    refine own_go (fun t k => XS.iloadN X76.here hx rfl (hb hby d_prog_52_method_8_4) rfl k) ?_
    show Go _ _ _ _ _ T76 (mkF m 5 #[.val (.ref a1), .val (.int (2 : Int32)), .val (.int (2 : Int32)), .val (.int (3 : Int32))] [(.int (2 : Int32)), (.int (2 : Int32)), (.int (3 : Int32))])
    refine own_go (fun t k => XS.iadd X76.here hx rfl (hb hby d_prog_52_method_8_5) rfl k) ?_
    show Go _ _ _ _ _ T76 (mkF m 6 #[.val (.ref a1), .val (.int (2 : Int32)), .val (.int (2 : Int32)), .val (.int (3 : Int32))] [(.int (4 : Int32)), (.int (3 : Int32))])
    refine own_go (fun t k => XS.icmpNo X76.here hx rfl (hb hby d_prog_52_method_8_6) rfl (by decide) k) ?_
    show Go _ _ _ _ _ T76 (mkF m 9 #[.val (.ref a1), .val (.int (2 : Int32)), .val (.int (2 : Int32)), .val (.int (3 : Int32))] [])
    refine own_go (fun t k => XS.aloadN X76.here hx rfl (hb hby d_prog_52_method_8_9) rfl rfl k) ?_
    show Go _ _ _ _ _ T76 (mkF m 10 #[.val (.ref a1), .val (.int (2 : Int32)), .val (.int (2 : Int32)), .val (.int (3 : Int32))] [(.ref a1)])
    obtain ⟨T77, X77, e77, st77⟩ := getF X76 hx hZ hown (host := "") (Or.inl (hw _ (List.mem_of_getElem? (i := 19) rfl))) Via.refl e76 F_t (g := (mkF m 10 #[.val (.ref a1), .val (.int (2 : Int32)), .val (.int (2 : Int32)), .val (.int (3 : Int32))] [(.ref a1)])) rfl rfl (hb hby d_prog_52_method_8_10)
    refine own_go (fun t k => st77 t k) ?_
    show Go _ _ _ _ _ T77 (mkF m 13 #[.val (.ref a1), .val (.int (2 : Int32)), .val (.int (2 : Int32)), .val (.int (3 : Int32))] [(.ref b)])
    refine own_go (fun t k => XS.iloadN X77.here hx rfl (hb hby d_prog_52_method_8_13) rfl k) ?_
    show Go _ _ _ _ _ T77 (mkF m 14 #[.val (.ref a1), .val (.int (2 : Int32)), .val (.int (2 : Int32)), .val (.int (3 : Int32))] [(.int (3 : Int32)), (.ref b)])
    refine own_go (fun t k => XT.dup2 X77.here hx rfl (hb hby d_prog_52_method_8_14) rfl rfl rfl k) ?_
    show Go _ _ _ _ _ T77 (mkF m 15 #[.val (.ref a1), .val (.int (2 : Int32)), .val (.int (2 : Int32)), .val (.int (3 : Int32))] [(.int (3 : Int32)), (.ref b), (.int (3 : Int32)), (.ref b)])
    obtain ⟨cl78, Ar78, q78, S78, N78z, H78, G78⟩ := id V76
    have hin78 := inb_of S78 (j := (3 : Int32)) (z := (4 : Int32)) ⟨by decide, by decide⟩
    have hat78 : cl78.slots[((3 : Int32)).toNatClampNeg]? = some (.int t3) := H78 _ (Nat.lt_of_not_le fun q => hin78 (Or.inr q))
    refine own_go (fun t k => X77.iaload hx (j := (3 : Int32)) (v := (.int t3)) (by rw [e77]; exact Ar78.1) (State.isArrayOf_alike hZ.alike Ar78.2.1) Ar78.2.2 hin78 hat78 (g := (mkF m 15 #[.val (.ref a1), .val (.int (2 : Int32)), .val (.int (2 : Int32)), .val (.int (3 : Int32))] [(.int (3 : Int32)), (.ref b), (.int (3 : Int32)), (.ref b)])) rfl rfl (hb hby d_prog_52_method_8_15) _ k) ?_
    show Go _ _ _ _ _ T77 (mkF m 16 #[.val (.ref a1), .val (.int (2 : Int32)), .val (.int (2 : Int32)), .val (.int (3 : Int32))] [(.int t3), (.int (3 : Int32)), (.ref b)])
    refine own_go (fun t k => XS.iconst X77.here hx rfl (hb hby d_prog_52_method_8_16) k) ?_
    show Go _ _ _ _ _ T77 (mkF m 17 #[.val (.ref a1), .val (.int (2 : Int32)), .val (.int (2 : Int32)), .val (.int (3 : Int32))] [(.int (1 : Int32)), (.int t3), (.int (3 : Int32)), (.ref b)])
    refine own_go (fun t k => XS.iadd X77.here hx rfl (hb hby d_prog_52_method_8_17) rfl k) ?_
    show Go _ _ _ _ _ T77 (mkF m 18 #[.val (.ref a1), .val (.int (2 : Int32)), .val (.int (2 : Int32)), .val (.int (3 : Int32))] [(.int (t3 + (1 : Int32))), (.int (3 : Int32)), (.ref b)])
    obtain ⟨cl79, Ar79, q79, S79, N79z, H79, G79⟩ := V76
    have hin79 := inb_of S79 (j := (3 : Int32)) (z := (4 : Int32)) ⟨by decide, by decide⟩
    obtain ⟨T79, h79, X79, e79, W79, st79⟩ := stI X77 hx hZ e77 Ar79 (j := (3 : Int32)) hin79 (g := (mkF m 18 #[.val (.ref a1), .val (.int (2 : Int32)), .val (.int (2 : Int32)), .val (.int (3 : Int32))] [(.int (t3 + (1 : Int32))), (.int (3 : Int32)), (.ref b)])) rfl rfl (hb hby d_prog_52_method_8_18)
    replace E_a1 := E_a1.wr W79
    replace F_t := F_t.other W79 (Or.inl hne)
    have V79 : Arv Z h79 b k .int (4 : Int32) [(.int t0), (.int t1), (.int (t2 + (1 : Int32))), (.int (t3 + (1 : Int32)))] (.int (0 : Int32)) := Arv.set Ar79 q79 S79 N79z H79 G79 rfl W79 3 rfl (Nat.le_of_ble_eq_true rfl)
    have N79 := Fr.snoc X79 N76 g_b
    have hn79 : n0 ≤ h79.size := Nat.le_trans hn76 (Keep.of_wr W79).1
    have K79 := K76.wr W79 (Or.inl (List.mem_of_getElem? (i := 0) rfl))
    refine own_go (fun t k => st79 t k) ?_
    show Go _ _ _ _ _ T79 (mkF m 19 #[.val (.ref a1), .val (.int (2 : Int32)), .val (.int (2 : Int32)), .val (.int (3 : Int32))] [])
    refine own_go (fun t k => XS.iinc X79.here hx rfl (hb hby d_prog_52_method_8_19) rfl (l' := #[.val (.ref a1), .val (.int (2 : Int32)), .val (.int (2 : Int32)), .val (.int (4 : Int32))]) rfl k) ?_
    show Go _ _ _ _ _ T79 (mkF m 22 #[.val (.ref a1), .val (.int (2 : Int32)), .val (.int (2 : Int32)), .val (.int (4 : Int32))] [])
    refine own_go (fun t k => XS.goto X79.here hx rfl (pc0 := 22) (pc' := 2) rfl (hb hby d_prog_52_method_8_22) (by decide) (by decide) k) ?_
    show Go _ _ _ _ _ T79 (mkF m 2 #[.val (.ref a1), .val (.int (2 : Int32)), .val (.int (2 : Int32)), .val (.int (4 : Int32))] [])
    refine own_go (fun t k => XS.iloadN X79.here hx rfl (hb hby d_prog_52_method_8_2) rfl k) ?_
    show Go _ _ _ _ _ T79 (mkF m 3 #[.val (.ref a1), .val (.int (2 : Int32)), .val (.int (2 : Int32)), .val (.int (4 : Int32))] [(.int (4 : Int32))])
    refine own_go (fun t k => XS.iloadN X79.here hx rfl (hb hby d_prog_52_method_8_3) rfl k) ?_
    show Go _ _ _ _ _ T79 (mkF m 4 #[.val (.ref a1), .val (.int (2 : Int32)), .val (.int (2 : Int32)), .val (.int (4 : Int32))] [(.int (2 : Int32)), (.int (4 : Int32))])
    refine own_go (fun t k => XS.iloadN X79.here hx rfl (hb hby d_prog_52_method_8_4) rfl k) ?_
    show Go _ _ _ _ _ T79 (mkF m 5 #[.val (.ref a1), .val (.int (2 : Int32)), .val (.int (2 : Int32)), .val (.int (4 : Int32))] [(.int (2 : Int32)), (.int (2 : Int32)), (.int (4 : Int32))])
    refine own_go (fun t k => XS.iadd X79.here hx rfl (hb hby d_prog_52_method_8_5) rfl k) ?_
    show Go _ _ _ _ _ T79 (mkF m 6 #[.val (.ref a1), .val (.int (2 : Int32)), .val (.int (2 : Int32)), .val (.int (4 : Int32))] [(.int (4 : Int32)), (.int (4 : Int32))])
    refine own_go (fun t k => XS.icmpYes X79.here hx rfl (pc0 := 6) (pc' := 25) rfl (hb hby d_prog_52_method_8_6) rfl (by decide) (by decide) (by decide) k) ?_
    show Go _ _ _ _ _ T79 (mkF m 25 #[.val (.ref a1), .val (.int (2 : Int32)), .val (.int (2 : Int32)), .val (.int (4 : Int32))] [])
    refine own_retV X79 hx (own_lvN X79 hlk (by decide) (by decide)) hret (hb hby d_prog_52_method_8_25) ?_
    rw [e79]
    have i0 : own_in (0 : Int32) (2 : Int32) (2 : Int32) = 0 := by decide
    have i1 : own_in (1 : Int32) (2 : Int32) (2 : Int32) = 0 := by decide
    have i2 : own_in (2 : Int32) (2 : Int32) (2 : Int32) = 1 := by decide
    have i3 : own_in (3 : Int32) (2 : Int32) (2 : Int32) = 1 := by decide
    refine ⟨rfl, N79, K79, ?_⟩
    have hV := V79
    rw [i0, i1, i2, i3]
    simpa only [Int32.add_zero] using hV
  · skip
    show Go _ _ _ _ _ s₁ (mkF m 0 #[.val (.ref a1), .val (.int (3 : Int32)), .val (.int (0 : Int32)), .unset] [])
    refine own_go (fun t k => XS.iloadN X0.here hx rfl (hb hby d_prog_52_method_8_0) rfl k) ?_
    show Go _ _ _ _ _ s₁ (mkF m 1 #[.val (.ref a1), .val (.int (3 : Int32)), .val (.int (0 : Int32)), .unset] [(.int (3 : Int32))])
    refine own_go (fun t k => XS.istoreN X0.here hx rfl (hb hby d_prog_52_method_8_1) rfl (l' := #[.val (.ref a1), .val (.int (3 : Int32)), .val (.int (0 : Int32)), .val (.int (3 : Int32))]) rfl k) ?_
    show Go _ _ _ _ _ s₁ (mkF m 2 #[.val (.ref a1), .val (.int (3 : Int32)), .val (.int (0 : Int32)), .val (.int (3 : Int32))] [])
    refine own_go (fun t k => XS.iloadN X0.here hx rfl (hb hby d_prog_52_method_8_2) rfl k) ?_
    show Go _ _ _ _ _ s₁ (mkF m 3 #[.val (.ref a1), .val (.int (3 : Int32)), .val (.int (0 : Int32)), .val (.int (3 : Int32))] [(.int (3 : Int32))])
    refine own_go (fun t k => XS.iloadN X0.here hx rfl (hb hby d_prog_52_method_8_3) rfl k) ?_
    show Go _ _ _ _ _ s₁ (mkF m 4 #[.val (.ref a1), .val (.int (3 : Int32)), .val (.int (0 : Int32)), .val (.int (3 : Int32))] [(.int (3 : Int32)), (.int (3 : Int32))])
    refine own_go (fun t k => XS.iloadN X0.here hx rfl (hb hby d_prog_52_method_8_4) rfl k) ?_
    show Go _ _ _ _ _ s₁ (mkF m 5 #[.val (.ref a1), .val (.int (3 : Int32)), .val (.int (0 : Int32)), .val (.int (3 : Int32))] [(.int (0 : Int32)), (.int (3 : Int32)), (.int (3 : Int32))])
    refine own_go (fun t k => XS.iadd X0.here hx rfl (hb hby d_prog_52_method_8_5) rfl k) ?_
    show Go _ _ _ _ _ s₁ (mkF m 6 #[.val (.ref a1), .val (.int (3 : Int32)), .val (.int (0 : Int32)), .val (.int (3 : Int32))] [(.int (3 : Int32)), (.int (3 : Int32))])
    refine own_go (fun t k => XS.icmpYes X0.here hx rfl (pc0 := 6) (pc' := 25) rfl (hb hby d_prog_52_method_8_6) rfl (by decide) (by decide) (by decide) k) ?_
    show Go _ _ _ _ _ s₁ (mkF m 25 #[.val (.ref a1), .val (.int (3 : Int32)), .val (.int (0 : Int32)), .val (.int (3 : Int32))] [])
    refine own_retV X0 hx (own_lvN X0 hlk (by decide) (by decide)) hret (hb hby d_prog_52_method_8_25) ?_
    rw [e0]
    have i0 : own_in (0 : Int32) (3 : Int32) (0 : Int32) = 0 := by decide
    have i1 : own_in (1 : Int32) (3 : Int32) (0 : Int32) = 0 := by decide
    have i2 : own_in (2 : Int32) (3 : Int32) (0 : Int32) = 0 := by decide
    have i3 : own_in (3 : Int32) (3 : Int32) (0 : Int32) = 0 := by decide
    refine ⟨rfl, N0, K0, ?_⟩
    have hV := V_b
    rw [i0, i1, i2, i3]
    simpa only [Int32.add_zero] using hV
  · skip
    show Go _ _ _ _ _ s₁ (mkF m 0 #[.val (.ref a1), .val (.int (3 : Int32)), .val (.int (1 : Int32)), .unset] [])
    refine own_go (fun t k => XS.iloadN X0.here hx rfl (hb hby d_prog_52_method_8_0) rfl k) ?_
    show Go _ _ _ _ _ s₁ (mkF m 1 #[.val (.ref a1), .val (.int (3 : Int32)), .val (.int (1 : Int32)), .unset] [(.int (3 : Int32))])
    refine own_go (fun t k => XS.istoreN X0.here hx rfl (hb hby d_prog_52_method_8_1) rfl (l' := #[.val (.ref a1), .val (.int (3 : Int32)), .val (.int (1 : Int32)), .val (.int (3 : Int32))]) rfl k) ?_
    show Go _ _ _ _ _ s₁ (mkF m 2 #[.val (.ref a1), .val (.int (3 : Int32)), .val (.int (1 : Int32)), .val (.int (3 : Int32))] [])
    refine own_go (fun t k => XS.iloadN X0.here hx rfl (hb hby d_prog_52_method_8_2) rfl k) ?_
    show Go _ _ _ _ _ s₁ (mkF m 3 #[.val (.ref a1), .val (.int (3 : Int32)), .val (.int (1 : Int32)), .val (.int (3 : Int32))] [(.int (3 : Int32))])
    refine own_go (fun t k => XS.iloadN X0.here hx rfl (hb hby d_prog_52_method_8_3) rfl k) ?_
    show Go _ _ _ _ _ s₁ (mkF m 4 #[.val (.ref a1), .val (.int (3 : Int32)), .val (.int (1 : Int32)), .val (.int (3 : Int32))] [(.int (3 : Int32)), (.int (3 : Int32))])
    refine own_go (fun t k => XS.iloadN X0.here hx rfl (hb hby d_prog_52_method_8_4) rfl k) ?_
    show Go _ _ _ _ _ s₁ (mkF m 5 #[.val (.ref a1), .val (.int (3 : Int32)), .val (.int (1 : Int32)), .val (.int (3 : Int32))] [(.int (1 : Int32)), (.int (3 : Int32)), (.int (3 : Int32))])
    refine own_go (fun t k => XS.iadd X0.here hx rfl (hb hby d_prog_52_method_8_5) rfl k) ?_
    show Go _ _ _ _ _ s₁ (mkF m 6 #[.val (.ref a1), .val (.int (3 : Int32)), .val (.int (1 : Int32)), .val (.int (3 : Int32))] [(.int (4 : Int32)), (.int (3 : Int32))])
    refine own_go (fun t k => XS.icmpNo X0.here hx rfl (hb hby d_prog_52_method_8_6) rfl (by decide) k) ?_
    show Go _ _ _ _ _ s₁ (mkF m 9 #[.val (.ref a1), .val (.int (3 : Int32)), .val (.int (1 : Int32)), .val (.int (3 : Int32))] [])
    refine own_go (fun t k => XS.aloadN X0.here hx rfl (hb hby d_prog_52_method_8_9) rfl rfl k) ?_
    show Go _ _ _ _ _ s₁ (mkF m 10 #[.val (.ref a1), .val (.int (3 : Int32)), .val (.int (1 : Int32)), .val (.int (3 : Int32))] [(.ref a1)])
    obtain ⟨T80, X80, e80, st80⟩ := getF X0 hx hZ hown (host := "") (Or.inl (hw _ (List.mem_of_getElem? (i := 19) rfl))) Via.refl e0 F_t (g := (mkF m 10 #[.val (.ref a1), .val (.int (3 : Int32)), .val (.int (1 : Int32)), .val (.int (3 : Int32))] [(.ref a1)])) rfl rfl (hb hby d_prog_52_method_8_10)
    refine own_go (fun t k => st80 t k) ?_
    show Go _ _ _ _ _ T80 (mkF m 13 #[.val (.ref a1), .val (.int (3 : Int32)), .val (.int (1 : Int32)), .val (.int (3 : Int32))] [(.ref b)])
    refine own_go (fun t k => XS.iloadN X80.here hx rfl (hb hby d_prog_52_method_8_13) rfl k) ?_
    show Go _ _ _ _ _ T80 (mkF m 14 #[.val (.ref a1), .val (.int (3 : Int32)), .val (.int (1 : Int32)), .val (.int (3 : Int32))] [(.int (3 : Int32)), (.ref b)])
    refine own_go (fun t k => XT.dup2 X80.here hx rfl (hb hby d_prog_52_method_8_14) rfl rfl rfl k) ?_
    show Go _ _ _ _ _ T80 (mkF m 15 #[.val (.ref a1), .val (.int (3 : Int32)), .val (.int (1 : Int32)), .val (.int (3 : Int32))] [(.int (3 : Int32)), (.ref b), (.int (3 : Int32)), (.ref b)])
    obtain ⟨cl81, Ar81, q81, S81, N81z, H81, G81⟩ := id V_b
    have hin81 := inb_of S81 (j := (3 : Int32)) (z := (4 : Int32)) ⟨by decide, by decide⟩
    have hat81 : cl81.slots[((3 : Int32)).toNatClampNeg]? = some (.int t3) := H81 _ (Nat.lt_of_not_le fun q => hin81 (Or.inr q))
    refine own_go (fun t k => X80.iaload hx (j := (3 : Int32)) (v := (.int t3)) (by rw [e80]; exact Ar81.1) (State.isArrayOf_alike hZ.alike Ar81.2.1) Ar81.2.2 hin81 hat81 (g := (mkF m 15 #[.val (.ref a1), .val (.int (3 : Int32)), .val (.int (1 : Int32)), .val (.int (3 : Int32))] [(.int (3 : Int32)), (.ref b), (.int (3 : Int32)), (.ref b)])) rfl rfl (hb hby d_prog_52_method_8_15) _ k) ?_
    show Go _ _ _ _ _ T80 (mkF m 16 #[.val (.ref a1), .val (.int (3 : Int32)), .val (.int (1 : Int32)), .val (.int (3 : Int32))] [(.int t3), (.int (3 : Int32)), (.ref b)])
    refine own_go (fun t k => XS.iconst X80.here hx rfl (hb hby d_prog_52_method_8_16) k) ?_
    show Go _ _ _ _ _ T80 (mkF m 17 #[.val (.ref a1), .val (.int (3 : Int32)), .val (.int (1 : Int32)), .val (.int (3 : Int32))] [(.int (1 : Int32)), (.int t3), (.int (3 : Int32)), (.ref b)])
    refine own_go (fun t k => XS.iadd X80.here hx rfl (hb hby d_prog_52_method_8_17) rfl k) ?_
    show Go _ _ _ _ _ T80 (mkF m 18 #[.val (.ref a1), .val (.int (3 : Int32)), .val (.int (1 : Int32)), .val (.int (3 : Int32))] [(.int (t3 + (1 : Int32))), (.int (3 : Int32)), (.ref b)])
    obtain ⟨cl82, Ar82, q82, S82, N82z, H82, G82⟩ := V_b
    have hin82 := inb_of S82 (j := (3 : Int32)) (z := (4 : Int32)) ⟨by decide, by decide⟩
    obtain ⟨T82, h82, X82, e82, W82, st82⟩ := stI X80 hx hZ e80 Ar82 (j := (3 : Int32)) hin82 (g := (mkF m 18 #[.val (.ref a1), .val (.int (3 : Int32)), .val (.int (1 : Int32)), .val (.int (3 : Int32))] [(.int (t3 + (1 : Int32))), (.int (3 : Int32)), (.ref b)])) rfl rfl (hb hby d_prog_52_method_8_18)
    replace E_a1 := E_a1.wr W82
    replace F_t := F_t.other W82 (Or.inl hne)
    have V82 : Arv Z h82 b k .int (4 : Int32) [(.int t0), (.int t1), (.int t2), (.int (t3 + (1 : Int32)))] (.int (0 : Int32)) := Arv.set Ar82 q82 S82 N82z H82 G82 rfl W82 3 rfl (Nat.le_of_ble_eq_true rfl)
    have N82 := Fr.snoc X82 N0 g_b
    have hn82 : n0 ≤ h82.size := Nat.le_trans hn0 (Keep.of_wr W82).1
    have K82 := K0.wr W82 (Or.inl (List.mem_of_getElem? (i := 0) rfl))
    refine own_go (fun t k => st82 t k) ?_
    show Go _ _ _ _ _ T82 (mkF m 19 #[.val (.ref a1), .val (.int (3 : Int32)), .val (.int (1 : Int32)), .val (.int (3 : Int32))] [])
    refine own_go (fun t k => XS.iinc X82.here hx rfl (hb hby d_prog_52_method_8_19) rfl (l' := #[.val (.ref a1), .val (.int (3 : Int32)), .val (.int (1 : Int32)), .val (.int (4 : Int32))]) rfl k) ?_
    show Go _ _ _ _ _ T82 (mkF m 22 #[.val (.ref a1), .val (.int (3 : Int32)), .val (.int (1 : Int32)), .val (.int (4 : Int32))] [])
    refine own_go (fun t k => XS.goto X82.here hx rfl (pc0 := 22) (pc' := 2) rfl (hb hby d_prog_52_method_8_22) (by decide) (by decide) k) ?_
    show Go _ _ _ _ _ T82 (mkF m 2 #[.val (.ref a1), .val (.int (3 : Int32)), .val (.int (1 : Int32)), .val (.int (4 : Int32))] [])
    refine own_go (fun t k => XS.iloadN X82.here hx rfl (hb hby d_prog_52_method_8_2) rfl k) ?_
    show Go _ _ _ _ _ T82 (mkF m 3 #[.val (.ref a1), .val (.int (3 : Int32)), .val (.int (1 : Int32)), .val (.int (4 : Int32))] [(.int (4 : Int32))])
    refine own_go (fun t k => XS.iloadN X82.here hx rfl (hb hby d_prog_52_method_8_3) rfl k) ?_
    show Go _ _ _ _ _ T82 (mkF m 4 #[.val (.ref a1), .val (.int (3 : Int32)), .val (.int (1 : Int32)), .val (.int (4 : Int32))] [(.int (3 : Int32)), (.int (4 : Int32))])
    refine own_go (fun t k => XS.iloadN X82.here hx rfl (hb hby d_prog_52_method_8_4) rfl k) ?_
    show Go _ _ _ _ _ T82 (mkF m 5 #[.val (.ref a1), .val (.int (3 : Int32)), .val (.int (1 : Int32)), .val (.int (4 : Int32))] [(.int (1 : Int32)), (.int (3 : Int32)), (.int (4 : Int32))])
    refine own_go (fun t k => XS.iadd X82.here hx rfl (hb hby d_prog_52_method_8_5) rfl k) ?_
    show Go _ _ _ _ _ T82 (mkF m 6 #[.val (.ref a1), .val (.int (3 : Int32)), .val (.int (1 : Int32)), .val (.int (4 : Int32))] [(.int (4 : Int32)), (.int (4 : Int32))])
    refine own_go (fun t k => XS.icmpYes X82.here hx rfl (pc0 := 6) (pc' := 25) rfl (hb hby d_prog_52_method_8_6) rfl (by decide) (by decide) (by decide) k) ?_
    show Go _ _ _ _ _ T82 (mkF m 25 #[.val (.ref a1), .val (.int (3 : Int32)), .val (.int (1 : Int32)), .val (.int (4 : Int32))] [])
    refine own_retV X82 hx (own_lvN X82 hlk (by decide) (by decide)) hret (hb hby d_prog_52_method_8_25) ?_
    rw [e82]
    have i0 : own_in (0 : Int32) (3 : Int32) (1 : Int32) = 0 := by decide
    have i1 : own_in (1 : Int32) (3 : Int32) (1 : Int32) = 0 := by decide
    have i2 : own_in (2 : Int32) (3 : Int32) (1 : Int32) = 0 := by decide
    have i3 : own_in (3 : Int32) (3 : Int32) (1 : Int32) = 1 := by decide
    refine ⟨rfl, N82, K82, ?_⟩
    have hV := V82
    rw [i0, i1, i2, i3]
    simpa only [Int32.add_zero] using hV
theorem d_prog_52_method_4_0 : Jvm.ClassFile.decode prog_52_method_4_code 0 = .ok (.iconst 1, 1) := by decide +kernel
theorem d_prog_52_method_4_1 : Jvm.ClassFile.decode prog_52_method_4_code 1 = .ok (.istore_n 3, 1) := by decide +kernel
theorem d_prog_52_method_4_2 : Jvm.ClassFile.decode prog_52_method_4_code 2 = .ok (.iload_n 1, 1) := by decide +kernel
theorem d_prog_52_method_4_3 : Jvm.ClassFile.decode prog_52_method_4_code 3 = .ok (.istore 4, 2) := by decide +kernel
theorem d_prog_52_method_4_5 : Jvm.ClassFile.decode prog_52_method_4_code 5 = .ok (.iload 4, 2) := by decide +kernel
theorem d_prog_52_method_4_7 : Jvm.ClassFile.decode prog_52_method_4_code 7 = .ok (.iload_n 1, 1) := by decide +kernel
theorem d_prog_52_method_4_8 : Jvm.ClassFile.decode prog_52_method_4_code 8 = .ok (.iload_n 2, 1) := by decide +kernel
theorem d_prog_52_method_4_9 : Jvm.ClassFile.decode prog_52_method_4_code 9 = .ok (.iadd, 1) := by decide +kernel
theorem d_prog_52_method_4_10 : Jvm.ClassFile.decode prog_52_method_4_code 10 = .ok (.if_icmp .ge 33, 3) := by decide +kernel
theorem d_prog_52_method_4_43 : Jvm.ClassFile.decode prog_52_method_4_code 43 = .ok (.iload_n 3, 1) := by decide +kernel
theorem d_prog_52_method_4_44 : Jvm.ClassFile.decode prog_52_method_4_code 44 = .ok (.ireturn, 1) := by decide +kernel
theorem d_prog_52_method_4_13 : Jvm.ClassFile.decode prog_52_method_4_code 13 = .ok (.iload_n 3, 1) := by decide +kernel
theorem d_prog_52_method_4_14 : Jvm.ClassFile.decode prog_52_method_4_code 14 = .ok (.ifCond .eq 29, 3) := by decide +kernel
theorem d_prog_52_method_4_17 : Jvm.ClassFile.decode prog_52_method_4_code 17 = .ok (.aload_n 0, 1) := by decide +kernel
theorem d_prog_52_method_4_18 : Jvm.ClassFile.decode prog_52_method_4_code 18 = .ok (.getfield 22, 3) := by decide +kernel
theorem d_prog_52_method_4_21 : Jvm.ClassFile.decode prog_52_method_4_code 21 = .ok (.iload 4, 2) := by decide +kernel
theorem d_prog_52_method_4_23 : Jvm.ClassFile.decode prog_52_method_4_code 23 = .ok (.iaload, 1) := by decide +kernel
theorem d_prog_52_method_4_24 : Jvm.ClassFile.decode prog_52_method_4_code 24 = .ok (.aload_n 0, 1) := by decide +kernel
theorem d_prog_52_method_4_25 : Jvm.ClassFile.decode prog_52_method_4_code 25 = .ok (.getfield 18, 3) := by decide +kernel
theorem d_prog_52_method_4_28 : Jvm.ClassFile.decode prog_52_method_4_code 28 = .ok (.if_icmp .ge 7, 3) := by decide +kernel
theorem d_prog_52_method_4_35 : Jvm.ClassFile.decode prog_52_method_4_code 35 = .ok (.iconst 0, 1) := by decide +kernel
theorem d_prog_52_method_4_36 : Jvm.ClassFile.decode prog_52_method_4_code 36 = .ok (.istore_n 3, 1) := by decide +kernel
theorem d_prog_52_method_4_37 : Jvm.ClassFile.decode prog_52_method_4_code 37 = .ok (.iinc 4 1, 3) := by decide +kernel
theorem d_prog_52_method_4_40 : Jvm.ClassFile.decode prog_52_method_4_code 40 = .ok (.goto (-35), 3) := by decide +kernel
theorem d_prog_52_method_4_31 : Jvm.ClassFile.decode prog_52_method_4_code 31 = .ok (.iconst 1, 1) := by decide +kernel
theorem d_prog_52_method_4_32 : Jvm.ClassFile.decode prog_52_method_4_code 32 = .ok (.goto 4, 3) := by decide +kernel
theorem own_ef_rm_free (m : MethodId) (x0 : Addr) (x1 : Int32) (x2 : Int32) : entryFrame m #[(.ref x0), (.int x1), (.int x2)] 5 = mkF m 0 #[.val (.ref x0), .val (.int x1), .val (.int x2), .unset, .unset] [] := by first | (simp [entryFrame, mkF, argsToLocals, Value.category]; done) | rfl
set_option maxRecDepth 65536 in
set_option maxHeartbeats 40000000 in
theorem rm_free (l : Launch) (Z : State) (a0 : Array Value) (hw : ∀ d ∈ tables_1, d.before a0 Z = true) (ws : List Jvm.Cond) (a1 : Addr) (b : Addr) (k : ClassId) (sq : Int32) (dq : Int32) (cnt : Int32) (t0 : Int32) (t1 : Int32) (t2 : Int32) (t3 : Int32) (r : Int32) (h0 : Heap) (n0 : Nat) (hn0 : n0 ≤ h0.size) (E_a1 : Exa Z h0 a1 "com/example/trailworks/trailworks/works/Crews") (F_t : Fld Z h0 a1 "com/example/trailworks/trailworks/works/Crews" "m_taken" "[I" (.ref b)) (F_c : Fld Z h0 a1 "com/example/trailworks/trailworks/works/Crews" "m_count" "I" (.int cnt)) (V_b : Arv Z h0 b k .int (4 : Int32) [(.int t0), (.int t1), (.int t2), (.int t3)] (.int (0 : Int32))) (hsd : OwnSd sq dq) (hr : own_free t0 t1 t2 t3 cnt sq dq = r) :
    OwnMet l Z (⟨"com/example/trailworks/trailworks/works/Crews", "free", "(II)Z"⟩ : MethodName) prog_52_method_4_code 5 (some .boolean) ws ({ frames := 0, cells := 0, slots := 0, locals := 0 } : Room) #[(.ref a1), (.int sq), (.int dq)] h0 (OwnP (some (.int r)) h0 n0) := by
  refine own_body (plainFor_of_name own_pn1) ?_
  intro p e s m below meth c s₁ X0 hx hby hml hret hlk hown0 hnm hZ e0 hs0
  have hown : s.vm.findClass "com/example/trailworks/trailworks/works/Crews" = some m.cls := hown0
  have N0 := Fr.nil n0
  refine own_entry (own_ef_rm_free m a1 sq dq) ?_
  rcases hsd with ⟨rfl, rfl⟩ | ⟨rfl, rfl⟩ | ⟨rfl, rfl⟩ | ⟨rfl, rfl⟩ | ⟨rfl, rfl⟩ | ⟨rfl, rfl⟩ | ⟨rfl, rfl⟩ | ⟨rfl, rfl⟩ | ⟨rfl, rfl⟩ | ⟨rfl, rfl⟩ | ⟨rfl, rfl⟩ | ⟨rfl, rfl⟩ | ⟨rfl, rfl⟩ | ⟨rfl, rfl⟩
  · skip
    show Go _ _ _ _ _ s₁ (mkF m 0 #[.val (.ref a1), .val (.int (0 : Int32)), .val (.int (0 : Int32)), .unset, .unset] [])
    refine own_go (fun t k => XS.iconst X0.here hx rfl (hb hby d_prog_52_method_4_0) k) ?_
    show Go _ _ _ _ _ s₁ (mkF m 1 #[.val (.ref a1), .val (.int (0 : Int32)), .val (.int (0 : Int32)), .unset, .unset] [(.int (1 : Int32))])
    refine own_go (fun t k => XS.istoreN X0.here hx rfl (hb hby d_prog_52_method_4_1) rfl (l' := #[.val (.ref a1), .val (.int (0 : Int32)), .val (.int (0 : Int32)), .val (.int (1 : Int32)), .unset]) rfl k) ?_
    show Go _ _ _ _ _ s₁ (mkF m 2 #[.val (.ref a1), .val (.int (0 : Int32)), .val (.int (0 : Int32)), .val (.int (1 : Int32)), .unset] [])
    refine own_go (fun t k => XS.iloadN X0.here hx rfl (hb hby d_prog_52_method_4_2) rfl k) ?_
    show Go _ _ _ _ _ s₁ (mkF m 3 #[.val (.ref a1), .val (.int (0 : Int32)), .val (.int (0 : Int32)), .val (.int (1 : Int32)), .unset] [(.int (0 : Int32))])
    refine own_go (fun t k => XS.istore X0.here hx rfl (hb hby d_prog_52_method_4_3) rfl (l' := #[.val (.ref a1), .val (.int (0 : Int32)), .val (.int (0 : Int32)), .val (.int (1 : Int32)), .val (.int (0 : Int32))]) rfl k) ?_
    show Go _ _ _ _ _ s₁ (mkF m 5 #[.val (.ref a1), .val (.int (0 : Int32)), .val (.int (0 : Int32)), .val (.int (1 : Int32)), .val (.int (0 : Int32))] [])
    refine own_go (fun t k => XS.iload X0.here hx rfl (hb hby d_prog_52_method_4_5) rfl k) ?_
    show Go _ _ _ _ _ s₁ (mkF m 7 #[.val (.ref a1), .val (.int (0 : Int32)), .val (.int (0 : Int32)), .val (.int (1 : Int32)), .val (.int (0 : Int32))] [(.int (0 : Int32))])
    refine own_go (fun t k => XS.iloadN X0.here hx rfl (hb hby d_prog_52_method_4_7) rfl k) ?_
    show Go _ _ _ _ _ s₁ (mkF m 8 #[.val (.ref a1), .val (.int (0 : Int32)), .val (.int (0 : Int32)), .val (.int (1 : Int32)), .val (.int (0 : Int32))] [(.int (0 : Int32)), (.int (0 : Int32))])
    refine own_go (fun t k => XS.iloadN X0.here hx rfl (hb hby d_prog_52_method_4_8) rfl k) ?_
    show Go _ _ _ _ _ s₁ (mkF m 9 #[.val (.ref a1), .val (.int (0 : Int32)), .val (.int (0 : Int32)), .val (.int (1 : Int32)), .val (.int (0 : Int32))] [(.int (0 : Int32)), (.int (0 : Int32)), (.int (0 : Int32))])
    refine own_go (fun t k => XS.iadd X0.here hx rfl (hb hby d_prog_52_method_4_9) rfl k) ?_
    show Go _ _ _ _ _ s₁ (mkF m 10 #[.val (.ref a1), .val (.int (0 : Int32)), .val (.int (0 : Int32)), .val (.int (1 : Int32)), .val (.int (0 : Int32))] [(.int (0 : Int32)), (.int (0 : Int32))])
    refine own_go (fun t k => XS.icmpYes X0.here hx rfl (pc0 := 10) (pc' := 43) rfl (hb hby d_prog_52_method_4_10) rfl (by decide) (by decide) (by decide) k) ?_
    show Go _ _ _ _ _ s₁ (mkF m 43 #[.val (.ref a1), .val (.int (0 : Int32)), .val (.int (0 : Int32)), .val (.int (1 : Int32)), .val (.int (0 : Int32))] [])
    refine own_go (fun t k => XS.iloadN X0.here hx rfl (hb hby d_prog_52_method_4_43) rfl k) ?_
    show Go _ _ _ _ _ s₁ (mkF m 44 #[.val (.ref a1), .val (.int (0 : Int32)), .val (.int (0 : Int32)), .val (.int (1 : Int32)), .val (.int (0 : Int32))] [(.int (1 : Int32))])
    refine own_retN X0 hx (own_lvN X0 hlk (by decide) (by decide)) (t := .boolean) hret (by simp) (hb hby d_prog_52_method_4_44) ?_
    have i0 : own_in (0 : Int32) (0 : Int32) (0 : Int32) = 0 := by decide
    have i1 : own_in (1 : Int32) (0 : Int32) (0 : Int32) = 0 := by decide
    have i2 : own_in (2 : Int32) (0 : Int32) (0 : Int32) = 0 := by decide
    have i3 : own_in (3 : Int32) (0 : Int32) (0 : Int32) = 0 := by decide
    have e : own_free t0 t1 t2 t3 cnt (0 : Int32) (0 : Int32) = (1 : Int32) := by simp [own_free, own_okp, i0, i1, i2, i3]
    exact ⟨(by rw [← hr, e]; try rfl), N0, e0⟩
  · skip
    show Go _ _ _ _ _ s₁ (mkF m 0 #[.val (.ref a1), .val (.int (0 : Int32)), .val (.int (1 : Int32)), .unset, .unset] [])
    refine own_go (fun t k => XS.iconst X0.here hx rfl (hb hby d_prog_52_method_4_0) k) ?_
    show Go _ _ _ _ _ s₁ (mkF m 1 #[.val (.ref a1), .val (.int (0 : Int32)), .val (.int (1 : Int32)), .unset, .unset] [(.int (1 : Int32))])
    refine own_go (fun t k => XS.istoreN X0.here hx rfl (hb hby d_prog_52_method_4_1) rfl (l' := #[.val (.ref a1), .val (.int (0 : Int32)), .val (.int (1 : Int32)), .val (.int (1 : Int32)), .unset]) rfl k) ?_
    show Go _ _ _ _ _ s₁ (mkF m 2 #[.val (.ref a1), .val (.int (0 : Int32)), .val (.int (1 : Int32)), .val (.int (1 : Int32)), .unset] [])
    refine own_go (fun t k => XS.iloadN X0.here hx rfl (hb hby d_prog_52_method_4_2) rfl k) ?_
    show Go _ _ _ _ _ s₁ (mkF m 3 #[.val (.ref a1), .val (.int (0 : Int32)), .val (.int (1 : Int32)), .val (.int (1 : Int32)), .unset] [(.int (0 : Int32))])
    refine own_go (fun t k => XS.istore X0.here hx rfl (hb hby d_prog_52_method_4_3) rfl (l' := #[.val (.ref a1), .val (.int (0 : Int32)), .val (.int (1 : Int32)), .val (.int (1 : Int32)), .val (.int (0 : Int32))]) rfl k) ?_
    show Go _ _ _ _ _ s₁ (mkF m 5 #[.val (.ref a1), .val (.int (0 : Int32)), .val (.int (1 : Int32)), .val (.int (1 : Int32)), .val (.int (0 : Int32))] [])
    refine own_go (fun t k => XS.iload X0.here hx rfl (hb hby d_prog_52_method_4_5) rfl k) ?_
    show Go _ _ _ _ _ s₁ (mkF m 7 #[.val (.ref a1), .val (.int (0 : Int32)), .val (.int (1 : Int32)), .val (.int (1 : Int32)), .val (.int (0 : Int32))] [(.int (0 : Int32))])
    refine own_go (fun t k => XS.iloadN X0.here hx rfl (hb hby d_prog_52_method_4_7) rfl k) ?_
    show Go _ _ _ _ _ s₁ (mkF m 8 #[.val (.ref a1), .val (.int (0 : Int32)), .val (.int (1 : Int32)), .val (.int (1 : Int32)), .val (.int (0 : Int32))] [(.int (0 : Int32)), (.int (0 : Int32))])
    refine own_go (fun t k => XS.iloadN X0.here hx rfl (hb hby d_prog_52_method_4_8) rfl k) ?_
    show Go _ _ _ _ _ s₁ (mkF m 9 #[.val (.ref a1), .val (.int (0 : Int32)), .val (.int (1 : Int32)), .val (.int (1 : Int32)), .val (.int (0 : Int32))] [(.int (1 : Int32)), (.int (0 : Int32)), (.int (0 : Int32))])
    refine own_go (fun t k => XS.iadd X0.here hx rfl (hb hby d_prog_52_method_4_9) rfl k) ?_
    show Go _ _ _ _ _ s₁ (mkF m 10 #[.val (.ref a1), .val (.int (0 : Int32)), .val (.int (1 : Int32)), .val (.int (1 : Int32)), .val (.int (0 : Int32))] [(.int (1 : Int32)), (.int (0 : Int32))])
    refine own_go (fun t k => XS.icmpNo X0.here hx rfl (hb hby d_prog_52_method_4_10) rfl (by decide) k) ?_
    show Go _ _ _ _ _ s₁ (mkF m 13 #[.val (.ref a1), .val (.int (0 : Int32)), .val (.int (1 : Int32)), .val (.int (1 : Int32)), .val (.int (0 : Int32))] [])
    refine own_go (fun t k => XS.iloadN X0.here hx rfl (hb hby d_prog_52_method_4_13) rfl k) ?_
    show Go _ _ _ _ _ s₁ (mkF m 14 #[.val (.ref a1), .val (.int (0 : Int32)), .val (.int (1 : Int32)), .val (.int (1 : Int32)), .val (.int (0 : Int32))] [(.int (1 : Int32))])
    refine own_go (fun t k => XS.ifNo X0.here hx rfl (hb hby d_prog_52_method_4_14) rfl (by decide) k) ?_
    show Go _ _ _ _ _ s₁ (mkF m 17 #[.val (.ref a1), .val (.int (0 : Int32)), .val (.int (1 : Int32)), .val (.int (1 : Int32)), .val (.int (0 : Int32))] [])
    refine own_go (fun t k => XS.aloadN X0.here hx rfl (hb hby d_prog_52_method_4_17) rfl rfl k) ?_
    show Go _ _ _ _ _ s₁ (mkF m 18 #[.val (.ref a1), .val (.int (0 : Int32)), .val (.int (1 : Int32)), .val (.int (1 : Int32)), .val (.int (0 : Int32))] [(.ref a1)])
    obtain ⟨T83, X83, e83, st83⟩ := getF X0 hx hZ hown (host := "") (Or.inl (hw _ (List.mem_of_getElem? (i := 19) rfl))) Via.refl e0 F_t (g := (mkF m 18 #[.val (.ref a1), .val (.int (0 : Int32)), .val (.int (1 : Int32)), .val (.int (1 : Int32)), .val (.int (0 : Int32))] [(.ref a1)])) rfl rfl (hb hby d_prog_52_method_4_18)
    refine own_go (fun t k => st83 t k) ?_
    show Go _ _ _ _ _ T83 (mkF m 21 #[.val (.ref a1), .val (.int (0 : Int32)), .val (.int (1 : Int32)), .val (.int (1 : Int32)), .val (.int (0 : Int32))] [(.ref b)])
    refine own_go (fun t k => XS.iload X83.here hx rfl (hb hby d_prog_52_method_4_21) rfl k) ?_
    show Go _ _ _ _ _ T83 (mkF m 23 #[.val (.ref a1), .val (.int (0 : Int32)), .val (.int (1 : Int32)), .val (.int (1 : Int32)), .val (.int (0 : Int32))] [(.int (0 : Int32)), (.ref b)])
    obtain ⟨cl84, Ar84, q84, S84, N84z, H84, G84⟩ := id V_b
    have hin84 := inb_of S84 (j := (0 : Int32)) (z := (4 : Int32)) ⟨by decide, by decide⟩
    have hat84 : cl84.slots[((0 : Int32)).toNatClampNeg]? = some (.int t0) := H84 _ (Nat.lt_of_not_le fun q => hin84 (Or.inr q))
    refine own_go (fun t k => X83.iaload hx (j := (0 : Int32)) (v := (.int t0)) (by rw [e83]; exact Ar84.1) (State.isArrayOf_alike hZ.alike Ar84.2.1) Ar84.2.2 hin84 hat84 (g := (mkF m 23 #[.val (.ref a1), .val (.int (0 : Int32)), .val (.int (1 : Int32)), .val (.int (1 : Int32)), .val (.int (0 : Int32))] [(.int (0 : Int32)), (.ref b)])) rfl rfl (hb hby d_prog_52_method_4_23) _ k) ?_
    show Go _ _ _ _ _ T83 (mkF m 24 #[.val (.ref a1), .val (.int (0 : Int32)), .val (.int (1 : Int32)), .val (.int (1 : Int32)), .val (.int (0 : Int32))] [(.int t0)])
    refine own_go (fun t k => XS.aloadN X83.here hx rfl (hb hby d_prog_52_method_4_24) rfl rfl k) ?_
    show Go _ _ _ _ _ T83 (mkF m 25 #[.val (.ref a1), .val (.int (0 : Int32)), .val (.int (1 : Int32)), .val (.int (1 : Int32)), .val (.int (0 : Int32))] [(.ref a1), (.int t0)])
    obtain ⟨T85, X85, e85, st85⟩ := getF X83 hx hZ hown (host := "") (Or.inl (hw _ (List.mem_of_getElem? (i := 16) rfl))) Via.refl e83 F_c (g := (mkF m 25 #[.val (.ref a1), .val (.int (0 : Int32)), .val (.int (1 : Int32)), .val (.int (1 : Int32)), .val (.int (0 : Int32))] [(.ref a1), (.int t0)])) rfl rfl (hb hby d_prog_52_method_4_25)
    refine own_go (fun t k => st85 t k) ?_
    show Go _ _ _ _ _ T85 (mkF m 28 #[.val (.ref a1), .val (.int (0 : Int32)), .val (.int (1 : Int32)), .val (.int (1 : Int32)), .val (.int (0 : Int32))] [(.int cnt), (.int t0)])
    refine own_icmpM (t0 < cnt) X85 hx (hb hby d_prog_52_method_4_28) (own_ge _ _) (by decide) (by decide) (pc' := 35) (fun hc86 => ?_) (fun hc86 => ?_)
    · skip
      show Go _ _ _ _ _ T85 (mkF m 35 #[.val (.ref a1), .val (.int (0 : Int32)), .val (.int (1 : Int32)), .val (.int (1 : Int32)), .val (.int (0 : Int32))] [])
      refine own_go (fun t k => XS.iconst X85.here hx rfl (hb hby d_prog_52_method_4_35) k) ?_
      show Go _ _ _ _ _ T85 (mkF m 36 #[.val (.ref a1), .val (.int (0 : Int32)), .val (.int (1 : Int32)), .val (.int (1 : Int32)), .val (.int (0 : Int32))] [(.int (0 : Int32))])
      refine own_go (fun t k => XS.istoreN X85.here hx rfl (hb hby d_prog_52_method_4_36) rfl (l' := #[.val (.ref a1), .val (.int (0 : Int32)), .val (.int (1 : Int32)), .val (.int (0 : Int32)), .val (.int (0 : Int32))]) rfl k) ?_
      show Go _ _ _ _ _ T85 (mkF m 37 #[.val (.ref a1), .val (.int (0 : Int32)), .val (.int (1 : Int32)), .val (.int (0 : Int32)), .val (.int (0 : Int32))] [])
      refine own_go (fun t k => XS.iinc X85.here hx rfl (hb hby d_prog_52_method_4_37) rfl (l' := #[.val (.ref a1), .val (.int (0 : Int32)), .val (.int (1 : Int32)), .val (.int (0 : Int32)), .val (.int (1 : Int32))]) rfl k) ?_
      show Go _ _ _ _ _ T85 (mkF m 40 #[.val (.ref a1), .val (.int (0 : Int32)), .val (.int (1 : Int32)), .val (.int (0 : Int32)), .val (.int (1 : Int32))] [])
      refine own_go (fun t k => XS.goto X85.here hx rfl (pc0 := 40) (pc' := 5) rfl (hb hby d_prog_52_method_4_40) (by decide) (by decide) k) ?_
      show Go _ _ _ _ _ T85 (mkF m 5 #[.val (.ref a1), .val (.int (0 : Int32)), .val (.int (1 : Int32)), .val (.int (0 : Int32)), .val (.int (1 : Int32))] [])
      refine own_go (fun t k => XS.iload X85.here hx rfl (hb hby d_prog_52_method_4_5) rfl k) ?_
      show Go _ _ _ _ _ T85 (mkF m 7 #[.val (.ref a1), .val (.int (0 : Int32)), .val (.int (1 : Int32)), .val (.int (0 : Int32)), .val (.int (1 : Int32))] [(.int (1 : Int32))])
      refine own_go (fun t k => XS.iloadN X85.here hx rfl (hb hby d_prog_52_method_4_7) rfl k) ?_
      show Go _ _ _ _ _ T85 (mkF m 8 #[.val (.ref a1), .val (.int (0 : Int32)), .val (.int (1 : Int32)), .val (.int (0 : Int32)), .val (.int (1 : Int32))] [(.int (0 : Int32)), (.int (1 : Int32))])
      refine own_go (fun t k => XS.iloadN X85.here hx rfl (hb hby d_prog_52_method_4_8) rfl k) ?_
      show Go _ _ _ _ _ T85 (mkF m 9 #[.val (.ref a1), .val (.int (0 : Int32)), .val (.int (1 : Int32)), .val (.int (0 : Int32)), .val (.int (1 : Int32))] [(.int (1 : Int32)), (.int (0 : Int32)), (.int (1 : Int32))])
      refine own_go (fun t k => XS.iadd X85.here hx rfl (hb hby d_prog_52_method_4_9) rfl k) ?_
      show Go _ _ _ _ _ T85 (mkF m 10 #[.val (.ref a1), .val (.int (0 : Int32)), .val (.int (1 : Int32)), .val (.int (0 : Int32)), .val (.int (1 : Int32))] [(.int (1 : Int32)), (.int (1 : Int32))])
      refine own_go (fun t k => XS.icmpYes X85.here hx rfl (pc0 := 10) (pc' := 43) rfl (hb hby d_prog_52_method_4_10) rfl (by decide) (by decide) (by decide) k) ?_
      show Go _ _ _ _ _ T85 (mkF m 43 #[.val (.ref a1), .val (.int (0 : Int32)), .val (.int (1 : Int32)), .val (.int (0 : Int32)), .val (.int (1 : Int32))] [])
      refine own_go (fun t k => XS.iloadN X85.here hx rfl (hb hby d_prog_52_method_4_43) rfl k) ?_
      show Go _ _ _ _ _ T85 (mkF m 44 #[.val (.ref a1), .val (.int (0 : Int32)), .val (.int (1 : Int32)), .val (.int (0 : Int32)), .val (.int (1 : Int32))] [(.int (0 : Int32))])
      refine own_retN X85 hx (own_lvN X85 hlk (by decide) (by decide)) (t := .boolean) hret (by simp) (hb hby d_prog_52_method_4_44) ?_
      have i0 : own_in (0 : Int32) (0 : Int32) (1 : Int32) = 1 := by decide
      have i1 : own_in (1 : Int32) (0 : Int32) (1 : Int32) = 0 := by decide
      have i2 : own_in (2 : Int32) (0 : Int32) (1 : Int32) = 0 := by decide
      have i3 : own_in (3 : Int32) (0 : Int32) (1 : Int32) = 0 := by decide
      have e : own_free t0 t1 t2 t3 cnt (0 : Int32) (1 : Int32) = (0 : Int32) := by simp [own_free, own_okp, i0, i1, i2, i3, hc86]
      exact ⟨(by rw [← hr, e]; try rfl), N0, e85⟩
    · skip
      show Go _ _ _ _ _ T85 (mkF m 31 #[.val (.ref a1), .val (.int (0 : Int32)), .val (.int (1 : Int32)), .val (.int (1 : Int32)), .val (.int (0 : Int32))] [])
      refine own_go (fun t k => XS.iconst X85.here hx rfl (hb hby d_prog_52_method_4_31) k) ?_
      show Go _ _ _ _ _ T85 (mkF m 32 #[.val (.ref a1), .val (.int (0 : Int32)), .val (.int (1 : Int32)), .val (.int (1 : Int32)), .val (.int (0 : Int32))] [(.int (1 : Int32))])
      refine own_go (fun t k => XS.goto X85.here hx rfl (pc0 := 32) (pc' := 36) rfl (hb hby d_prog_52_method_4_32) (by decide) (by decide) k) ?_
      show Go _ _ _ _ _ T85 (mkF m 36 #[.val (.ref a1), .val (.int (0 : Int32)), .val (.int (1 : Int32)), .val (.int (1 : Int32)), .val (.int (0 : Int32))] [(.int (1 : Int32))])
      refine own_go (fun t k => XS.istoreN X85.here hx rfl (hb hby d_prog_52_method_4_36) rfl (l' := #[.val (.ref a1), .val (.int (0 : Int32)), .val (.int (1 : Int32)), .val (.int (1 : Int32)), .val (.int (0 : Int32))]) rfl k) ?_
      show Go _ _ _ _ _ T85 (mkF m 37 #[.val (.ref a1), .val (.int (0 : Int32)), .val (.int (1 : Int32)), .val (.int (1 : Int32)), .val (.int (0 : Int32))] [])
      refine own_go (fun t k => XS.iinc X85.here hx rfl (hb hby d_prog_52_method_4_37) rfl (l' := #[.val (.ref a1), .val (.int (0 : Int32)), .val (.int (1 : Int32)), .val (.int (1 : Int32)), .val (.int (1 : Int32))]) rfl k) ?_
      show Go _ _ _ _ _ T85 (mkF m 40 #[.val (.ref a1), .val (.int (0 : Int32)), .val (.int (1 : Int32)), .val (.int (1 : Int32)), .val (.int (1 : Int32))] [])
      refine own_go (fun t k => XS.goto X85.here hx rfl (pc0 := 40) (pc' := 5) rfl (hb hby d_prog_52_method_4_40) (by decide) (by decide) k) ?_
      show Go _ _ _ _ _ T85 (mkF m 5 #[.val (.ref a1), .val (.int (0 : Int32)), .val (.int (1 : Int32)), .val (.int (1 : Int32)), .val (.int (1 : Int32))] [])
      refine own_go (fun t k => XS.iload X85.here hx rfl (hb hby d_prog_52_method_4_5) rfl k) ?_
      show Go _ _ _ _ _ T85 (mkF m 7 #[.val (.ref a1), .val (.int (0 : Int32)), .val (.int (1 : Int32)), .val (.int (1 : Int32)), .val (.int (1 : Int32))] [(.int (1 : Int32))])
      refine own_go (fun t k => XS.iloadN X85.here hx rfl (hb hby d_prog_52_method_4_7) rfl k) ?_
      show Go _ _ _ _ _ T85 (mkF m 8 #[.val (.ref a1), .val (.int (0 : Int32)), .val (.int (1 : Int32)), .val (.int (1 : Int32)), .val (.int (1 : Int32))] [(.int (0 : Int32)), (.int (1 : Int32))])
      refine own_go (fun t k => XS.iloadN X85.here hx rfl (hb hby d_prog_52_method_4_8) rfl k) ?_
      show Go _ _ _ _ _ T85 (mkF m 9 #[.val (.ref a1), .val (.int (0 : Int32)), .val (.int (1 : Int32)), .val (.int (1 : Int32)), .val (.int (1 : Int32))] [(.int (1 : Int32)), (.int (0 : Int32)), (.int (1 : Int32))])
      refine own_go (fun t k => XS.iadd X85.here hx rfl (hb hby d_prog_52_method_4_9) rfl k) ?_
      show Go _ _ _ _ _ T85 (mkF m 10 #[.val (.ref a1), .val (.int (0 : Int32)), .val (.int (1 : Int32)), .val (.int (1 : Int32)), .val (.int (1 : Int32))] [(.int (1 : Int32)), (.int (1 : Int32))])
      refine own_go (fun t k => XS.icmpYes X85.here hx rfl (pc0 := 10) (pc' := 43) rfl (hb hby d_prog_52_method_4_10) rfl (by decide) (by decide) (by decide) k) ?_
      show Go _ _ _ _ _ T85 (mkF m 43 #[.val (.ref a1), .val (.int (0 : Int32)), .val (.int (1 : Int32)), .val (.int (1 : Int32)), .val (.int (1 : Int32))] [])
      refine own_go (fun t k => XS.iloadN X85.here hx rfl (hb hby d_prog_52_method_4_43) rfl k) ?_
      show Go _ _ _ _ _ T85 (mkF m 44 #[.val (.ref a1), .val (.int (0 : Int32)), .val (.int (1 : Int32)), .val (.int (1 : Int32)), .val (.int (1 : Int32))] [(.int (1 : Int32))])
      refine own_retN X85 hx (own_lvN X85 hlk (by decide) (by decide)) (t := .boolean) hret (by simp) (hb hby d_prog_52_method_4_44) ?_
      have i0 : own_in (0 : Int32) (0 : Int32) (1 : Int32) = 1 := by decide
      have i1 : own_in (1 : Int32) (0 : Int32) (1 : Int32) = 0 := by decide
      have i2 : own_in (2 : Int32) (0 : Int32) (1 : Int32) = 0 := by decide
      have i3 : own_in (3 : Int32) (0 : Int32) (1 : Int32) = 0 := by decide
      have e : own_free t0 t1 t2 t3 cnt (0 : Int32) (1 : Int32) = (1 : Int32) := by simp [own_free, own_okp, i0, i1, i2, i3, hc86]
      exact ⟨(by rw [← hr, e]; try rfl), N0, e85⟩
  · skip
    show Go _ _ _ _ _ s₁ (mkF m 0 #[.val (.ref a1), .val (.int (0 : Int32)), .val (.int (2 : Int32)), .unset, .unset] [])
    refine own_go (fun t k => XS.iconst X0.here hx rfl (hb hby d_prog_52_method_4_0) k) ?_
    show Go _ _ _ _ _ s₁ (mkF m 1 #[.val (.ref a1), .val (.int (0 : Int32)), .val (.int (2 : Int32)), .unset, .unset] [(.int (1 : Int32))])
    refine own_go (fun t k => XS.istoreN X0.here hx rfl (hb hby d_prog_52_method_4_1) rfl (l' := #[.val (.ref a1), .val (.int (0 : Int32)), .val (.int (2 : Int32)), .val (.int (1 : Int32)), .unset]) rfl k) ?_
    show Go _ _ _ _ _ s₁ (mkF m 2 #[.val (.ref a1), .val (.int (0 : Int32)), .val (.int (2 : Int32)), .val (.int (1 : Int32)), .unset] [])
    refine own_go (fun t k => XS.iloadN X0.here hx rfl (hb hby d_prog_52_method_4_2) rfl k) ?_
    show Go _ _ _ _ _ s₁ (mkF m 3 #[.val (.ref a1), .val (.int (0 : Int32)), .val (.int (2 : Int32)), .val (.int (1 : Int32)), .unset] [(.int (0 : Int32))])
    refine own_go (fun t k => XS.istore X0.here hx rfl (hb hby d_prog_52_method_4_3) rfl (l' := #[.val (.ref a1), .val (.int (0 : Int32)), .val (.int (2 : Int32)), .val (.int (1 : Int32)), .val (.int (0 : Int32))]) rfl k) ?_
    show Go _ _ _ _ _ s₁ (mkF m 5 #[.val (.ref a1), .val (.int (0 : Int32)), .val (.int (2 : Int32)), .val (.int (1 : Int32)), .val (.int (0 : Int32))] [])
    refine own_go (fun t k => XS.iload X0.here hx rfl (hb hby d_prog_52_method_4_5) rfl k) ?_
    show Go _ _ _ _ _ s₁ (mkF m 7 #[.val (.ref a1), .val (.int (0 : Int32)), .val (.int (2 : Int32)), .val (.int (1 : Int32)), .val (.int (0 : Int32))] [(.int (0 : Int32))])
    refine own_go (fun t k => XS.iloadN X0.here hx rfl (hb hby d_prog_52_method_4_7) rfl k) ?_
    show Go _ _ _ _ _ s₁ (mkF m 8 #[.val (.ref a1), .val (.int (0 : Int32)), .val (.int (2 : Int32)), .val (.int (1 : Int32)), .val (.int (0 : Int32))] [(.int (0 : Int32)), (.int (0 : Int32))])
    refine own_go (fun t k => XS.iloadN X0.here hx rfl (hb hby d_prog_52_method_4_8) rfl k) ?_
    show Go _ _ _ _ _ s₁ (mkF m 9 #[.val (.ref a1), .val (.int (0 : Int32)), .val (.int (2 : Int32)), .val (.int (1 : Int32)), .val (.int (0 : Int32))] [(.int (2 : Int32)), (.int (0 : Int32)), (.int (0 : Int32))])
    refine own_go (fun t k => XS.iadd X0.here hx rfl (hb hby d_prog_52_method_4_9) rfl k) ?_
    show Go _ _ _ _ _ s₁ (mkF m 10 #[.val (.ref a1), .val (.int (0 : Int32)), .val (.int (2 : Int32)), .val (.int (1 : Int32)), .val (.int (0 : Int32))] [(.int (2 : Int32)), (.int (0 : Int32))])
    refine own_go (fun t k => XS.icmpNo X0.here hx rfl (hb hby d_prog_52_method_4_10) rfl (by decide) k) ?_
    show Go _ _ _ _ _ s₁ (mkF m 13 #[.val (.ref a1), .val (.int (0 : Int32)), .val (.int (2 : Int32)), .val (.int (1 : Int32)), .val (.int (0 : Int32))] [])
    refine own_go (fun t k => XS.iloadN X0.here hx rfl (hb hby d_prog_52_method_4_13) rfl k) ?_
    show Go _ _ _ _ _ s₁ (mkF m 14 #[.val (.ref a1), .val (.int (0 : Int32)), .val (.int (2 : Int32)), .val (.int (1 : Int32)), .val (.int (0 : Int32))] [(.int (1 : Int32))])
    refine own_go (fun t k => XS.ifNo X0.here hx rfl (hb hby d_prog_52_method_4_14) rfl (by decide) k) ?_
    show Go _ _ _ _ _ s₁ (mkF m 17 #[.val (.ref a1), .val (.int (0 : Int32)), .val (.int (2 : Int32)), .val (.int (1 : Int32)), .val (.int (0 : Int32))] [])
    refine own_go (fun t k => XS.aloadN X0.here hx rfl (hb hby d_prog_52_method_4_17) rfl rfl k) ?_
    show Go _ _ _ _ _ s₁ (mkF m 18 #[.val (.ref a1), .val (.int (0 : Int32)), .val (.int (2 : Int32)), .val (.int (1 : Int32)), .val (.int (0 : Int32))] [(.ref a1)])
    obtain ⟨T87, X87, e87, st87⟩ := getF X0 hx hZ hown (host := "") (Or.inl (hw _ (List.mem_of_getElem? (i := 19) rfl))) Via.refl e0 F_t (g := (mkF m 18 #[.val (.ref a1), .val (.int (0 : Int32)), .val (.int (2 : Int32)), .val (.int (1 : Int32)), .val (.int (0 : Int32))] [(.ref a1)])) rfl rfl (hb hby d_prog_52_method_4_18)
    refine own_go (fun t k => st87 t k) ?_
    show Go _ _ _ _ _ T87 (mkF m 21 #[.val (.ref a1), .val (.int (0 : Int32)), .val (.int (2 : Int32)), .val (.int (1 : Int32)), .val (.int (0 : Int32))] [(.ref b)])
    refine own_go (fun t k => XS.iload X87.here hx rfl (hb hby d_prog_52_method_4_21) rfl k) ?_
    show Go _ _ _ _ _ T87 (mkF m 23 #[.val (.ref a1), .val (.int (0 : Int32)), .val (.int (2 : Int32)), .val (.int (1 : Int32)), .val (.int (0 : Int32))] [(.int (0 : Int32)), (.ref b)])
    obtain ⟨cl88, Ar88, q88, S88, N88z, H88, G88⟩ := id V_b
    have hin88 := inb_of S88 (j := (0 : Int32)) (z := (4 : Int32)) ⟨by decide, by decide⟩
    have hat88 : cl88.slots[((0 : Int32)).toNatClampNeg]? = some (.int t0) := H88 _ (Nat.lt_of_not_le fun q => hin88 (Or.inr q))
    refine own_go (fun t k => X87.iaload hx (j := (0 : Int32)) (v := (.int t0)) (by rw [e87]; exact Ar88.1) (State.isArrayOf_alike hZ.alike Ar88.2.1) Ar88.2.2 hin88 hat88 (g := (mkF m 23 #[.val (.ref a1), .val (.int (0 : Int32)), .val (.int (2 : Int32)), .val (.int (1 : Int32)), .val (.int (0 : Int32))] [(.int (0 : Int32)), (.ref b)])) rfl rfl (hb hby d_prog_52_method_4_23) _ k) ?_
    show Go _ _ _ _ _ T87 (mkF m 24 #[.val (.ref a1), .val (.int (0 : Int32)), .val (.int (2 : Int32)), .val (.int (1 : Int32)), .val (.int (0 : Int32))] [(.int t0)])
    refine own_go (fun t k => XS.aloadN X87.here hx rfl (hb hby d_prog_52_method_4_24) rfl rfl k) ?_
    show Go _ _ _ _ _ T87 (mkF m 25 #[.val (.ref a1), .val (.int (0 : Int32)), .val (.int (2 : Int32)), .val (.int (1 : Int32)), .val (.int (0 : Int32))] [(.ref a1), (.int t0)])
    obtain ⟨T89, X89, e89, st89⟩ := getF X87 hx hZ hown (host := "") (Or.inl (hw _ (List.mem_of_getElem? (i := 16) rfl))) Via.refl e87 F_c (g := (mkF m 25 #[.val (.ref a1), .val (.int (0 : Int32)), .val (.int (2 : Int32)), .val (.int (1 : Int32)), .val (.int (0 : Int32))] [(.ref a1), (.int t0)])) rfl rfl (hb hby d_prog_52_method_4_25)
    refine own_go (fun t k => st89 t k) ?_
    show Go _ _ _ _ _ T89 (mkF m 28 #[.val (.ref a1), .val (.int (0 : Int32)), .val (.int (2 : Int32)), .val (.int (1 : Int32)), .val (.int (0 : Int32))] [(.int cnt), (.int t0)])
    refine own_icmpM (t0 < cnt) X89 hx (hb hby d_prog_52_method_4_28) (own_ge _ _) (by decide) (by decide) (pc' := 35) (fun hc90 => ?_) (fun hc90 => ?_)
    · skip
      show Go _ _ _ _ _ T89 (mkF m 35 #[.val (.ref a1), .val (.int (0 : Int32)), .val (.int (2 : Int32)), .val (.int (1 : Int32)), .val (.int (0 : Int32))] [])
      refine own_go (fun t k => XS.iconst X89.here hx rfl (hb hby d_prog_52_method_4_35) k) ?_
      show Go _ _ _ _ _ T89 (mkF m 36 #[.val (.ref a1), .val (.int (0 : Int32)), .val (.int (2 : Int32)), .val (.int (1 : Int32)), .val (.int (0 : Int32))] [(.int (0 : Int32))])
      refine own_go (fun t k => XS.istoreN X89.here hx rfl (hb hby d_prog_52_method_4_36) rfl (l' := #[.val (.ref a1), .val (.int (0 : Int32)), .val (.int (2 : Int32)), .val (.int (0 : Int32)), .val (.int (0 : Int32))]) rfl k) ?_
      show Go _ _ _ _ _ T89 (mkF m 37 #[.val (.ref a1), .val (.int (0 : Int32)), .val (.int (2 : Int32)), .val (.int (0 : Int32)), .val (.int (0 : Int32))] [])
      refine own_go (fun t k => XS.iinc X89.here hx rfl (hb hby d_prog_52_method_4_37) rfl (l' := #[.val (.ref a1), .val (.int (0 : Int32)), .val (.int (2 : Int32)), .val (.int (0 : Int32)), .val (.int (1 : Int32))]) rfl k) ?_
      show Go _ _ _ _ _ T89 (mkF m 40 #[.val (.ref a1), .val (.int (0 : Int32)), .val (.int (2 : Int32)), .val (.int (0 : Int32)), .val (.int (1 : Int32))] [])
      refine own_go (fun t k => XS.goto X89.here hx rfl (pc0 := 40) (pc' := 5) rfl (hb hby d_prog_52_method_4_40) (by decide) (by decide) k) ?_
      show Go _ _ _ _ _ T89 (mkF m 5 #[.val (.ref a1), .val (.int (0 : Int32)), .val (.int (2 : Int32)), .val (.int (0 : Int32)), .val (.int (1 : Int32))] [])
      refine own_go (fun t k => XS.iload X89.here hx rfl (hb hby d_prog_52_method_4_5) rfl k) ?_
      show Go _ _ _ _ _ T89 (mkF m 7 #[.val (.ref a1), .val (.int (0 : Int32)), .val (.int (2 : Int32)), .val (.int (0 : Int32)), .val (.int (1 : Int32))] [(.int (1 : Int32))])
      refine own_go (fun t k => XS.iloadN X89.here hx rfl (hb hby d_prog_52_method_4_7) rfl k) ?_
      show Go _ _ _ _ _ T89 (mkF m 8 #[.val (.ref a1), .val (.int (0 : Int32)), .val (.int (2 : Int32)), .val (.int (0 : Int32)), .val (.int (1 : Int32))] [(.int (0 : Int32)), (.int (1 : Int32))])
      refine own_go (fun t k => XS.iloadN X89.here hx rfl (hb hby d_prog_52_method_4_8) rfl k) ?_
      show Go _ _ _ _ _ T89 (mkF m 9 #[.val (.ref a1), .val (.int (0 : Int32)), .val (.int (2 : Int32)), .val (.int (0 : Int32)), .val (.int (1 : Int32))] [(.int (2 : Int32)), (.int (0 : Int32)), (.int (1 : Int32))])
      refine own_go (fun t k => XS.iadd X89.here hx rfl (hb hby d_prog_52_method_4_9) rfl k) ?_
      show Go _ _ _ _ _ T89 (mkF m 10 #[.val (.ref a1), .val (.int (0 : Int32)), .val (.int (2 : Int32)), .val (.int (0 : Int32)), .val (.int (1 : Int32))] [(.int (2 : Int32)), (.int (1 : Int32))])
      refine own_go (fun t k => XS.icmpNo X89.here hx rfl (hb hby d_prog_52_method_4_10) rfl (by decide) k) ?_
      show Go _ _ _ _ _ T89 (mkF m 13 #[.val (.ref a1), .val (.int (0 : Int32)), .val (.int (2 : Int32)), .val (.int (0 : Int32)), .val (.int (1 : Int32))] [])
      refine own_go (fun t k => XS.iloadN X89.here hx rfl (hb hby d_prog_52_method_4_13) rfl k) ?_
      show Go _ _ _ _ _ T89 (mkF m 14 #[.val (.ref a1), .val (.int (0 : Int32)), .val (.int (2 : Int32)), .val (.int (0 : Int32)), .val (.int (1 : Int32))] [(.int (0 : Int32))])
      refine own_go (fun t k => XS.ifYes X89.here hx rfl (pc0 := 14) (pc' := 43) rfl (hb hby d_prog_52_method_4_14) rfl (by decide) (by decide) (by decide) k) ?_
      show Go _ _ _ _ _ T89 (mkF m 43 #[.val (.ref a1), .val (.int (0 : Int32)), .val (.int (2 : Int32)), .val (.int (0 : Int32)), .val (.int (1 : Int32))] [])
      refine own_go (fun t k => XS.iloadN X89.here hx rfl (hb hby d_prog_52_method_4_43) rfl k) ?_
      show Go _ _ _ _ _ T89 (mkF m 44 #[.val (.ref a1), .val (.int (0 : Int32)), .val (.int (2 : Int32)), .val (.int (0 : Int32)), .val (.int (1 : Int32))] [(.int (0 : Int32))])
      refine own_retN X89 hx (own_lvN X89 hlk (by decide) (by decide)) (t := .boolean) hret (by simp) (hb hby d_prog_52_method_4_44) ?_
      have i0 : own_in (0 : Int32) (0 : Int32) (2 : Int32) = 1 := by decide
      have i1 : own_in (1 : Int32) (0 : Int32) (2 : Int32) = 1 := by decide
      have i2 : own_in (2 : Int32) (0 : Int32) (2 : Int32) = 0 := by decide
      have i3 : own_in (3 : Int32) (0 : Int32) (2 : Int32) = 0 := by decide
      have e : own_free t0 t1 t2 t3 cnt (0 : Int32) (2 : Int32) = (0 : Int32) := by simp [own_free, own_okp, i0, i1, i2, i3, hc90]
      exact ⟨(by rw [← hr, e]; try rfl), N0, e89⟩
    · skip
      show Go _ _ _ _ _ T89 (mkF m 31 #[.val (.ref a1), .val (.int (0 : Int32)), .val (.int (2 : Int32)), .val (.int (1 : Int32)), .val (.int (0 : Int32))] [])
      refine own_go (fun t k => XS.iconst X89.here hx rfl (hb hby d_prog_52_method_4_31) k) ?_
      show Go _ _ _ _ _ T89 (mkF m 32 #[.val (.ref a1), .val (.int (0 : Int32)), .val (.int (2 : Int32)), .val (.int (1 : Int32)), .val (.int (0 : Int32))] [(.int (1 : Int32))])
      refine own_go (fun t k => XS.goto X89.here hx rfl (pc0 := 32) (pc' := 36) rfl (hb hby d_prog_52_method_4_32) (by decide) (by decide) k) ?_
      show Go _ _ _ _ _ T89 (mkF m 36 #[.val (.ref a1), .val (.int (0 : Int32)), .val (.int (2 : Int32)), .val (.int (1 : Int32)), .val (.int (0 : Int32))] [(.int (1 : Int32))])
      refine own_go (fun t k => XS.istoreN X89.here hx rfl (hb hby d_prog_52_method_4_36) rfl (l' := #[.val (.ref a1), .val (.int (0 : Int32)), .val (.int (2 : Int32)), .val (.int (1 : Int32)), .val (.int (0 : Int32))]) rfl k) ?_
      show Go _ _ _ _ _ T89 (mkF m 37 #[.val (.ref a1), .val (.int (0 : Int32)), .val (.int (2 : Int32)), .val (.int (1 : Int32)), .val (.int (0 : Int32))] [])
      refine own_go (fun t k => XS.iinc X89.here hx rfl (hb hby d_prog_52_method_4_37) rfl (l' := #[.val (.ref a1), .val (.int (0 : Int32)), .val (.int (2 : Int32)), .val (.int (1 : Int32)), .val (.int (1 : Int32))]) rfl k) ?_
      show Go _ _ _ _ _ T89 (mkF m 40 #[.val (.ref a1), .val (.int (0 : Int32)), .val (.int (2 : Int32)), .val (.int (1 : Int32)), .val (.int (1 : Int32))] [])
      refine own_go (fun t k => XS.goto X89.here hx rfl (pc0 := 40) (pc' := 5) rfl (hb hby d_prog_52_method_4_40) (by decide) (by decide) k) ?_
      show Go _ _ _ _ _ T89 (mkF m 5 #[.val (.ref a1), .val (.int (0 : Int32)), .val (.int (2 : Int32)), .val (.int (1 : Int32)), .val (.int (1 : Int32))] [])
      refine own_go (fun t k => XS.iload X89.here hx rfl (hb hby d_prog_52_method_4_5) rfl k) ?_
      show Go _ _ _ _ _ T89 (mkF m 7 #[.val (.ref a1), .val (.int (0 : Int32)), .val (.int (2 : Int32)), .val (.int (1 : Int32)), .val (.int (1 : Int32))] [(.int (1 : Int32))])
      refine own_go (fun t k => XS.iloadN X89.here hx rfl (hb hby d_prog_52_method_4_7) rfl k) ?_
      show Go _ _ _ _ _ T89 (mkF m 8 #[.val (.ref a1), .val (.int (0 : Int32)), .val (.int (2 : Int32)), .val (.int (1 : Int32)), .val (.int (1 : Int32))] [(.int (0 : Int32)), (.int (1 : Int32))])
      refine own_go (fun t k => XS.iloadN X89.here hx rfl (hb hby d_prog_52_method_4_8) rfl k) ?_
      show Go _ _ _ _ _ T89 (mkF m 9 #[.val (.ref a1), .val (.int (0 : Int32)), .val (.int (2 : Int32)), .val (.int (1 : Int32)), .val (.int (1 : Int32))] [(.int (2 : Int32)), (.int (0 : Int32)), (.int (1 : Int32))])
      refine own_go (fun t k => XS.iadd X89.here hx rfl (hb hby d_prog_52_method_4_9) rfl k) ?_
      show Go _ _ _ _ _ T89 (mkF m 10 #[.val (.ref a1), .val (.int (0 : Int32)), .val (.int (2 : Int32)), .val (.int (1 : Int32)), .val (.int (1 : Int32))] [(.int (2 : Int32)), (.int (1 : Int32))])
      refine own_go (fun t k => XS.icmpNo X89.here hx rfl (hb hby d_prog_52_method_4_10) rfl (by decide) k) ?_
      show Go _ _ _ _ _ T89 (mkF m 13 #[.val (.ref a1), .val (.int (0 : Int32)), .val (.int (2 : Int32)), .val (.int (1 : Int32)), .val (.int (1 : Int32))] [])
      refine own_go (fun t k => XS.iloadN X89.here hx rfl (hb hby d_prog_52_method_4_13) rfl k) ?_
      show Go _ _ _ _ _ T89 (mkF m 14 #[.val (.ref a1), .val (.int (0 : Int32)), .val (.int (2 : Int32)), .val (.int (1 : Int32)), .val (.int (1 : Int32))] [(.int (1 : Int32))])
      refine own_go (fun t k => XS.ifNo X89.here hx rfl (hb hby d_prog_52_method_4_14) rfl (by decide) k) ?_
      show Go _ _ _ _ _ T89 (mkF m 17 #[.val (.ref a1), .val (.int (0 : Int32)), .val (.int (2 : Int32)), .val (.int (1 : Int32)), .val (.int (1 : Int32))] [])
      refine own_go (fun t k => XS.aloadN X89.here hx rfl (hb hby d_prog_52_method_4_17) rfl rfl k) ?_
      show Go _ _ _ _ _ T89 (mkF m 18 #[.val (.ref a1), .val (.int (0 : Int32)), .val (.int (2 : Int32)), .val (.int (1 : Int32)), .val (.int (1 : Int32))] [(.ref a1)])
      obtain ⟨T91, X91, e91, st91⟩ := getF X89 hx hZ hown (host := "") (Or.inl (hw _ (List.mem_of_getElem? (i := 19) rfl))) Via.refl e89 F_t (g := (mkF m 18 #[.val (.ref a1), .val (.int (0 : Int32)), .val (.int (2 : Int32)), .val (.int (1 : Int32)), .val (.int (1 : Int32))] [(.ref a1)])) rfl rfl (hb hby d_prog_52_method_4_18)
      refine own_go (fun t k => st91 t k) ?_
      show Go _ _ _ _ _ T91 (mkF m 21 #[.val (.ref a1), .val (.int (0 : Int32)), .val (.int (2 : Int32)), .val (.int (1 : Int32)), .val (.int (1 : Int32))] [(.ref b)])
      refine own_go (fun t k => XS.iload X91.here hx rfl (hb hby d_prog_52_method_4_21) rfl k) ?_
      show Go _ _ _ _ _ T91 (mkF m 23 #[.val (.ref a1), .val (.int (0 : Int32)), .val (.int (2 : Int32)), .val (.int (1 : Int32)), .val (.int (1 : Int32))] [(.int (1 : Int32)), (.ref b)])
      obtain ⟨cl92, Ar92, q92, S92, N92z, H92, G92⟩ := id V_b
      have hin92 := inb_of S92 (j := (1 : Int32)) (z := (4 : Int32)) ⟨by decide, by decide⟩
      have hat92 : cl92.slots[((1 : Int32)).toNatClampNeg]? = some (.int t1) := H92 _ (Nat.lt_of_not_le fun q => hin92 (Or.inr q))
      refine own_go (fun t k => X91.iaload hx (j := (1 : Int32)) (v := (.int t1)) (by rw [e91]; exact Ar92.1) (State.isArrayOf_alike hZ.alike Ar92.2.1) Ar92.2.2 hin92 hat92 (g := (mkF m 23 #[.val (.ref a1), .val (.int (0 : Int32)), .val (.int (2 : Int32)), .val (.int (1 : Int32)), .val (.int (1 : Int32))] [(.int (1 : Int32)), (.ref b)])) rfl rfl (hb hby d_prog_52_method_4_23) _ k) ?_
      show Go _ _ _ _ _ T91 (mkF m 24 #[.val (.ref a1), .val (.int (0 : Int32)), .val (.int (2 : Int32)), .val (.int (1 : Int32)), .val (.int (1 : Int32))] [(.int t1)])
      refine own_go (fun t k => XS.aloadN X91.here hx rfl (hb hby d_prog_52_method_4_24) rfl rfl k) ?_
      show Go _ _ _ _ _ T91 (mkF m 25 #[.val (.ref a1), .val (.int (0 : Int32)), .val (.int (2 : Int32)), .val (.int (1 : Int32)), .val (.int (1 : Int32))] [(.ref a1), (.int t1)])
      obtain ⟨T93, X93, e93, st93⟩ := getF X91 hx hZ hown (host := "") (Or.inl (hw _ (List.mem_of_getElem? (i := 16) rfl))) Via.refl e91 F_c (g := (mkF m 25 #[.val (.ref a1), .val (.int (0 : Int32)), .val (.int (2 : Int32)), .val (.int (1 : Int32)), .val (.int (1 : Int32))] [(.ref a1), (.int t1)])) rfl rfl (hb hby d_prog_52_method_4_25)
      refine own_go (fun t k => st93 t k) ?_
      show Go _ _ _ _ _ T93 (mkF m 28 #[.val (.ref a1), .val (.int (0 : Int32)), .val (.int (2 : Int32)), .val (.int (1 : Int32)), .val (.int (1 : Int32))] [(.int cnt), (.int t1)])
      refine own_icmpM (t1 < cnt) X93 hx (hb hby d_prog_52_method_4_28) (own_ge _ _) (by decide) (by decide) (pc' := 35) (fun hc94 => ?_) (fun hc94 => ?_)
      · skip
        show Go _ _ _ _ _ T93 (mkF m 35 #[.val (.ref a1), .val (.int (0 : Int32)), .val (.int (2 : Int32)), .val (.int (1 : Int32)), .val (.int (1 : Int32))] [])
        refine own_go (fun t k => XS.iconst X93.here hx rfl (hb hby d_prog_52_method_4_35) k) ?_
        show Go _ _ _ _ _ T93 (mkF m 36 #[.val (.ref a1), .val (.int (0 : Int32)), .val (.int (2 : Int32)), .val (.int (1 : Int32)), .val (.int (1 : Int32))] [(.int (0 : Int32))])
        refine own_go (fun t k => XS.istoreN X93.here hx rfl (hb hby d_prog_52_method_4_36) rfl (l' := #[.val (.ref a1), .val (.int (0 : Int32)), .val (.int (2 : Int32)), .val (.int (0 : Int32)), .val (.int (1 : Int32))]) rfl k) ?_
        show Go _ _ _ _ _ T93 (mkF m 37 #[.val (.ref a1), .val (.int (0 : Int32)), .val (.int (2 : Int32)), .val (.int (0 : Int32)), .val (.int (1 : Int32))] [])
        refine own_go (fun t k => XS.iinc X93.here hx rfl (hb hby d_prog_52_method_4_37) rfl (l' := #[.val (.ref a1), .val (.int (0 : Int32)), .val (.int (2 : Int32)), .val (.int (0 : Int32)), .val (.int (2 : Int32))]) rfl k) ?_
        show Go _ _ _ _ _ T93 (mkF m 40 #[.val (.ref a1), .val (.int (0 : Int32)), .val (.int (2 : Int32)), .val (.int (0 : Int32)), .val (.int (2 : Int32))] [])
        refine own_go (fun t k => XS.goto X93.here hx rfl (pc0 := 40) (pc' := 5) rfl (hb hby d_prog_52_method_4_40) (by decide) (by decide) k) ?_
        show Go _ _ _ _ _ T93 (mkF m 5 #[.val (.ref a1), .val (.int (0 : Int32)), .val (.int (2 : Int32)), .val (.int (0 : Int32)), .val (.int (2 : Int32))] [])
        refine own_go (fun t k => XS.iload X93.here hx rfl (hb hby d_prog_52_method_4_5) rfl k) ?_
        show Go _ _ _ _ _ T93 (mkF m 7 #[.val (.ref a1), .val (.int (0 : Int32)), .val (.int (2 : Int32)), .val (.int (0 : Int32)), .val (.int (2 : Int32))] [(.int (2 : Int32))])
        refine own_go (fun t k => XS.iloadN X93.here hx rfl (hb hby d_prog_52_method_4_7) rfl k) ?_
        show Go _ _ _ _ _ T93 (mkF m 8 #[.val (.ref a1), .val (.int (0 : Int32)), .val (.int (2 : Int32)), .val (.int (0 : Int32)), .val (.int (2 : Int32))] [(.int (0 : Int32)), (.int (2 : Int32))])
        refine own_go (fun t k => XS.iloadN X93.here hx rfl (hb hby d_prog_52_method_4_8) rfl k) ?_
        show Go _ _ _ _ _ T93 (mkF m 9 #[.val (.ref a1), .val (.int (0 : Int32)), .val (.int (2 : Int32)), .val (.int (0 : Int32)), .val (.int (2 : Int32))] [(.int (2 : Int32)), (.int (0 : Int32)), (.int (2 : Int32))])
        refine own_go (fun t k => XS.iadd X93.here hx rfl (hb hby d_prog_52_method_4_9) rfl k) ?_
        show Go _ _ _ _ _ T93 (mkF m 10 #[.val (.ref a1), .val (.int (0 : Int32)), .val (.int (2 : Int32)), .val (.int (0 : Int32)), .val (.int (2 : Int32))] [(.int (2 : Int32)), (.int (2 : Int32))])
        refine own_go (fun t k => XS.icmpYes X93.here hx rfl (pc0 := 10) (pc' := 43) rfl (hb hby d_prog_52_method_4_10) rfl (by decide) (by decide) (by decide) k) ?_
        show Go _ _ _ _ _ T93 (mkF m 43 #[.val (.ref a1), .val (.int (0 : Int32)), .val (.int (2 : Int32)), .val (.int (0 : Int32)), .val (.int (2 : Int32))] [])
        refine own_go (fun t k => XS.iloadN X93.here hx rfl (hb hby d_prog_52_method_4_43) rfl k) ?_
        show Go _ _ _ _ _ T93 (mkF m 44 #[.val (.ref a1), .val (.int (0 : Int32)), .val (.int (2 : Int32)), .val (.int (0 : Int32)), .val (.int (2 : Int32))] [(.int (0 : Int32))])
        refine own_retN X93 hx (own_lvN X93 hlk (by decide) (by decide)) (t := .boolean) hret (by simp) (hb hby d_prog_52_method_4_44) ?_
        have i0 : own_in (0 : Int32) (0 : Int32) (2 : Int32) = 1 := by decide
        have i1 : own_in (1 : Int32) (0 : Int32) (2 : Int32) = 1 := by decide
        have i2 : own_in (2 : Int32) (0 : Int32) (2 : Int32) = 0 := by decide
        have i3 : own_in (3 : Int32) (0 : Int32) (2 : Int32) = 0 := by decide
        have e : own_free t0 t1 t2 t3 cnt (0 : Int32) (2 : Int32) = (0 : Int32) := by simp [own_free, own_okp, i0, i1, i2, i3, hc90, hc94]
        exact ⟨(by rw [← hr, e]; try rfl), N0, e93⟩
      · skip
        show Go _ _ _ _ _ T93 (mkF m 31 #[.val (.ref a1), .val (.int (0 : Int32)), .val (.int (2 : Int32)), .val (.int (1 : Int32)), .val (.int (1 : Int32))] [])
        refine own_go (fun t k => XS.iconst X93.here hx rfl (hb hby d_prog_52_method_4_31) k) ?_
        show Go _ _ _ _ _ T93 (mkF m 32 #[.val (.ref a1), .val (.int (0 : Int32)), .val (.int (2 : Int32)), .val (.int (1 : Int32)), .val (.int (1 : Int32))] [(.int (1 : Int32))])
        refine own_go (fun t k => XS.goto X93.here hx rfl (pc0 := 32) (pc' := 36) rfl (hb hby d_prog_52_method_4_32) (by decide) (by decide) k) ?_
        show Go _ _ _ _ _ T93 (mkF m 36 #[.val (.ref a1), .val (.int (0 : Int32)), .val (.int (2 : Int32)), .val (.int (1 : Int32)), .val (.int (1 : Int32))] [(.int (1 : Int32))])
        refine own_go (fun t k => XS.istoreN X93.here hx rfl (hb hby d_prog_52_method_4_36) rfl (l' := #[.val (.ref a1), .val (.int (0 : Int32)), .val (.int (2 : Int32)), .val (.int (1 : Int32)), .val (.int (1 : Int32))]) rfl k) ?_
        show Go _ _ _ _ _ T93 (mkF m 37 #[.val (.ref a1), .val (.int (0 : Int32)), .val (.int (2 : Int32)), .val (.int (1 : Int32)), .val (.int (1 : Int32))] [])
        refine own_go (fun t k => XS.iinc X93.here hx rfl (hb hby d_prog_52_method_4_37) rfl (l' := #[.val (.ref a1), .val (.int (0 : Int32)), .val (.int (2 : Int32)), .val (.int (1 : Int32)), .val (.int (2 : Int32))]) rfl k) ?_
        show Go _ _ _ _ _ T93 (mkF m 40 #[.val (.ref a1), .val (.int (0 : Int32)), .val (.int (2 : Int32)), .val (.int (1 : Int32)), .val (.int (2 : Int32))] [])
        refine own_go (fun t k => XS.goto X93.here hx rfl (pc0 := 40) (pc' := 5) rfl (hb hby d_prog_52_method_4_40) (by decide) (by decide) k) ?_
        show Go _ _ _ _ _ T93 (mkF m 5 #[.val (.ref a1), .val (.int (0 : Int32)), .val (.int (2 : Int32)), .val (.int (1 : Int32)), .val (.int (2 : Int32))] [])
        refine own_go (fun t k => XS.iload X93.here hx rfl (hb hby d_prog_52_method_4_5) rfl k) ?_
        show Go _ _ _ _ _ T93 (mkF m 7 #[.val (.ref a1), .val (.int (0 : Int32)), .val (.int (2 : Int32)), .val (.int (1 : Int32)), .val (.int (2 : Int32))] [(.int (2 : Int32))])
        refine own_go (fun t k => XS.iloadN X93.here hx rfl (hb hby d_prog_52_method_4_7) rfl k) ?_
        show Go _ _ _ _ _ T93 (mkF m 8 #[.val (.ref a1), .val (.int (0 : Int32)), .val (.int (2 : Int32)), .val (.int (1 : Int32)), .val (.int (2 : Int32))] [(.int (0 : Int32)), (.int (2 : Int32))])
        refine own_go (fun t k => XS.iloadN X93.here hx rfl (hb hby d_prog_52_method_4_8) rfl k) ?_
        show Go _ _ _ _ _ T93 (mkF m 9 #[.val (.ref a1), .val (.int (0 : Int32)), .val (.int (2 : Int32)), .val (.int (1 : Int32)), .val (.int (2 : Int32))] [(.int (2 : Int32)), (.int (0 : Int32)), (.int (2 : Int32))])
        refine own_go (fun t k => XS.iadd X93.here hx rfl (hb hby d_prog_52_method_4_9) rfl k) ?_
        show Go _ _ _ _ _ T93 (mkF m 10 #[.val (.ref a1), .val (.int (0 : Int32)), .val (.int (2 : Int32)), .val (.int (1 : Int32)), .val (.int (2 : Int32))] [(.int (2 : Int32)), (.int (2 : Int32))])
        refine own_go (fun t k => XS.icmpYes X93.here hx rfl (pc0 := 10) (pc' := 43) rfl (hb hby d_prog_52_method_4_10) rfl (by decide) (by decide) (by decide) k) ?_
        show Go _ _ _ _ _ T93 (mkF m 43 #[.val (.ref a1), .val (.int (0 : Int32)), .val (.int (2 : Int32)), .val (.int (1 : Int32)), .val (.int (2 : Int32))] [])
        refine own_go (fun t k => XS.iloadN X93.here hx rfl (hb hby d_prog_52_method_4_43) rfl k) ?_
        show Go _ _ _ _ _ T93 (mkF m 44 #[.val (.ref a1), .val (.int (0 : Int32)), .val (.int (2 : Int32)), .val (.int (1 : Int32)), .val (.int (2 : Int32))] [(.int (1 : Int32))])
        refine own_retN X93 hx (own_lvN X93 hlk (by decide) (by decide)) (t := .boolean) hret (by simp) (hb hby d_prog_52_method_4_44) ?_
        have i0 : own_in (0 : Int32) (0 : Int32) (2 : Int32) = 1 := by decide
        have i1 : own_in (1 : Int32) (0 : Int32) (2 : Int32) = 1 := by decide
        have i2 : own_in (2 : Int32) (0 : Int32) (2 : Int32) = 0 := by decide
        have i3 : own_in (3 : Int32) (0 : Int32) (2 : Int32) = 0 := by decide
        have e : own_free t0 t1 t2 t3 cnt (0 : Int32) (2 : Int32) = (1 : Int32) := by simp [own_free, own_okp, i0, i1, i2, i3, hc90, hc94]
        exact ⟨(by rw [← hr, e]; try rfl), N0, e93⟩
  · skip
    show Go _ _ _ _ _ s₁ (mkF m 0 #[.val (.ref a1), .val (.int (0 : Int32)), .val (.int (3 : Int32)), .unset, .unset] [])
    refine own_go (fun t k => XS.iconst X0.here hx rfl (hb hby d_prog_52_method_4_0) k) ?_
    show Go _ _ _ _ _ s₁ (mkF m 1 #[.val (.ref a1), .val (.int (0 : Int32)), .val (.int (3 : Int32)), .unset, .unset] [(.int (1 : Int32))])
    refine own_go (fun t k => XS.istoreN X0.here hx rfl (hb hby d_prog_52_method_4_1) rfl (l' := #[.val (.ref a1), .val (.int (0 : Int32)), .val (.int (3 : Int32)), .val (.int (1 : Int32)), .unset]) rfl k) ?_
    show Go _ _ _ _ _ s₁ (mkF m 2 #[.val (.ref a1), .val (.int (0 : Int32)), .val (.int (3 : Int32)), .val (.int (1 : Int32)), .unset] [])
    refine own_go (fun t k => XS.iloadN X0.here hx rfl (hb hby d_prog_52_method_4_2) rfl k) ?_
    show Go _ _ _ _ _ s₁ (mkF m 3 #[.val (.ref a1), .val (.int (0 : Int32)), .val (.int (3 : Int32)), .val (.int (1 : Int32)), .unset] [(.int (0 : Int32))])
    refine own_go (fun t k => XS.istore X0.here hx rfl (hb hby d_prog_52_method_4_3) rfl (l' := #[.val (.ref a1), .val (.int (0 : Int32)), .val (.int (3 : Int32)), .val (.int (1 : Int32)), .val (.int (0 : Int32))]) rfl k) ?_
    show Go _ _ _ _ _ s₁ (mkF m 5 #[.val (.ref a1), .val (.int (0 : Int32)), .val (.int (3 : Int32)), .val (.int (1 : Int32)), .val (.int (0 : Int32))] [])
    refine own_go (fun t k => XS.iload X0.here hx rfl (hb hby d_prog_52_method_4_5) rfl k) ?_
    show Go _ _ _ _ _ s₁ (mkF m 7 #[.val (.ref a1), .val (.int (0 : Int32)), .val (.int (3 : Int32)), .val (.int (1 : Int32)), .val (.int (0 : Int32))] [(.int (0 : Int32))])
    refine own_go (fun t k => XS.iloadN X0.here hx rfl (hb hby d_prog_52_method_4_7) rfl k) ?_
    show Go _ _ _ _ _ s₁ (mkF m 8 #[.val (.ref a1), .val (.int (0 : Int32)), .val (.int (3 : Int32)), .val (.int (1 : Int32)), .val (.int (0 : Int32))] [(.int (0 : Int32)), (.int (0 : Int32))])
    refine own_go (fun t k => XS.iloadN X0.here hx rfl (hb hby d_prog_52_method_4_8) rfl k) ?_
    show Go _ _ _ _ _ s₁ (mkF m 9 #[.val (.ref a1), .val (.int (0 : Int32)), .val (.int (3 : Int32)), .val (.int (1 : Int32)), .val (.int (0 : Int32))] [(.int (3 : Int32)), (.int (0 : Int32)), (.int (0 : Int32))])
    refine own_go (fun t k => XS.iadd X0.here hx rfl (hb hby d_prog_52_method_4_9) rfl k) ?_
    show Go _ _ _ _ _ s₁ (mkF m 10 #[.val (.ref a1), .val (.int (0 : Int32)), .val (.int (3 : Int32)), .val (.int (1 : Int32)), .val (.int (0 : Int32))] [(.int (3 : Int32)), (.int (0 : Int32))])
    refine own_go (fun t k => XS.icmpNo X0.here hx rfl (hb hby d_prog_52_method_4_10) rfl (by decide) k) ?_
    show Go _ _ _ _ _ s₁ (mkF m 13 #[.val (.ref a1), .val (.int (0 : Int32)), .val (.int (3 : Int32)), .val (.int (1 : Int32)), .val (.int (0 : Int32))] [])
    refine own_go (fun t k => XS.iloadN X0.here hx rfl (hb hby d_prog_52_method_4_13) rfl k) ?_
    show Go _ _ _ _ _ s₁ (mkF m 14 #[.val (.ref a1), .val (.int (0 : Int32)), .val (.int (3 : Int32)), .val (.int (1 : Int32)), .val (.int (0 : Int32))] [(.int (1 : Int32))])
    refine own_go (fun t k => XS.ifNo X0.here hx rfl (hb hby d_prog_52_method_4_14) rfl (by decide) k) ?_
    show Go _ _ _ _ _ s₁ (mkF m 17 #[.val (.ref a1), .val (.int (0 : Int32)), .val (.int (3 : Int32)), .val (.int (1 : Int32)), .val (.int (0 : Int32))] [])
    refine own_go (fun t k => XS.aloadN X0.here hx rfl (hb hby d_prog_52_method_4_17) rfl rfl k) ?_
    show Go _ _ _ _ _ s₁ (mkF m 18 #[.val (.ref a1), .val (.int (0 : Int32)), .val (.int (3 : Int32)), .val (.int (1 : Int32)), .val (.int (0 : Int32))] [(.ref a1)])
    obtain ⟨T95, X95, e95, st95⟩ := getF X0 hx hZ hown (host := "") (Or.inl (hw _ (List.mem_of_getElem? (i := 19) rfl))) Via.refl e0 F_t (g := (mkF m 18 #[.val (.ref a1), .val (.int (0 : Int32)), .val (.int (3 : Int32)), .val (.int (1 : Int32)), .val (.int (0 : Int32))] [(.ref a1)])) rfl rfl (hb hby d_prog_52_method_4_18)
    refine own_go (fun t k => st95 t k) ?_
    show Go _ _ _ _ _ T95 (mkF m 21 #[.val (.ref a1), .val (.int (0 : Int32)), .val (.int (3 : Int32)), .val (.int (1 : Int32)), .val (.int (0 : Int32))] [(.ref b)])
    refine own_go (fun t k => XS.iload X95.here hx rfl (hb hby d_prog_52_method_4_21) rfl k) ?_
    show Go _ _ _ _ _ T95 (mkF m 23 #[.val (.ref a1), .val (.int (0 : Int32)), .val (.int (3 : Int32)), .val (.int (1 : Int32)), .val (.int (0 : Int32))] [(.int (0 : Int32)), (.ref b)])
    obtain ⟨cl96, Ar96, q96, S96, N96z, H96, G96⟩ := id V_b
    have hin96 := inb_of S96 (j := (0 : Int32)) (z := (4 : Int32)) ⟨by decide, by decide⟩
    have hat96 : cl96.slots[((0 : Int32)).toNatClampNeg]? = some (.int t0) := H96 _ (Nat.lt_of_not_le fun q => hin96 (Or.inr q))
    refine own_go (fun t k => X95.iaload hx (j := (0 : Int32)) (v := (.int t0)) (by rw [e95]; exact Ar96.1) (State.isArrayOf_alike hZ.alike Ar96.2.1) Ar96.2.2 hin96 hat96 (g := (mkF m 23 #[.val (.ref a1), .val (.int (0 : Int32)), .val (.int (3 : Int32)), .val (.int (1 : Int32)), .val (.int (0 : Int32))] [(.int (0 : Int32)), (.ref b)])) rfl rfl (hb hby d_prog_52_method_4_23) _ k) ?_
    show Go _ _ _ _ _ T95 (mkF m 24 #[.val (.ref a1), .val (.int (0 : Int32)), .val (.int (3 : Int32)), .val (.int (1 : Int32)), .val (.int (0 : Int32))] [(.int t0)])
    refine own_go (fun t k => XS.aloadN X95.here hx rfl (hb hby d_prog_52_method_4_24) rfl rfl k) ?_
    show Go _ _ _ _ _ T95 (mkF m 25 #[.val (.ref a1), .val (.int (0 : Int32)), .val (.int (3 : Int32)), .val (.int (1 : Int32)), .val (.int (0 : Int32))] [(.ref a1), (.int t0)])
    obtain ⟨T97, X97, e97, st97⟩ := getF X95 hx hZ hown (host := "") (Or.inl (hw _ (List.mem_of_getElem? (i := 16) rfl))) Via.refl e95 F_c (g := (mkF m 25 #[.val (.ref a1), .val (.int (0 : Int32)), .val (.int (3 : Int32)), .val (.int (1 : Int32)), .val (.int (0 : Int32))] [(.ref a1), (.int t0)])) rfl rfl (hb hby d_prog_52_method_4_25)
    refine own_go (fun t k => st97 t k) ?_
    show Go _ _ _ _ _ T97 (mkF m 28 #[.val (.ref a1), .val (.int (0 : Int32)), .val (.int (3 : Int32)), .val (.int (1 : Int32)), .val (.int (0 : Int32))] [(.int cnt), (.int t0)])
    refine own_icmpM (t0 < cnt) X97 hx (hb hby d_prog_52_method_4_28) (own_ge _ _) (by decide) (by decide) (pc' := 35) (fun hc98 => ?_) (fun hc98 => ?_)
    · skip
      show Go _ _ _ _ _ T97 (mkF m 35 #[.val (.ref a1), .val (.int (0 : Int32)), .val (.int (3 : Int32)), .val (.int (1 : Int32)), .val (.int (0 : Int32))] [])
      refine own_go (fun t k => XS.iconst X97.here hx rfl (hb hby d_prog_52_method_4_35) k) ?_
      show Go _ _ _ _ _ T97 (mkF m 36 #[.val (.ref a1), .val (.int (0 : Int32)), .val (.int (3 : Int32)), .val (.int (1 : Int32)), .val (.int (0 : Int32))] [(.int (0 : Int32))])
      refine own_go (fun t k => XS.istoreN X97.here hx rfl (hb hby d_prog_52_method_4_36) rfl (l' := #[.val (.ref a1), .val (.int (0 : Int32)), .val (.int (3 : Int32)), .val (.int (0 : Int32)), .val (.int (0 : Int32))]) rfl k) ?_
      show Go _ _ _ _ _ T97 (mkF m 37 #[.val (.ref a1), .val (.int (0 : Int32)), .val (.int (3 : Int32)), .val (.int (0 : Int32)), .val (.int (0 : Int32))] [])
      refine own_go (fun t k => XS.iinc X97.here hx rfl (hb hby d_prog_52_method_4_37) rfl (l' := #[.val (.ref a1), .val (.int (0 : Int32)), .val (.int (3 : Int32)), .val (.int (0 : Int32)), .val (.int (1 : Int32))]) rfl k) ?_
      show Go _ _ _ _ _ T97 (mkF m 40 #[.val (.ref a1), .val (.int (0 : Int32)), .val (.int (3 : Int32)), .val (.int (0 : Int32)), .val (.int (1 : Int32))] [])
      refine own_go (fun t k => XS.goto X97.here hx rfl (pc0 := 40) (pc' := 5) rfl (hb hby d_prog_52_method_4_40) (by decide) (by decide) k) ?_
      show Go _ _ _ _ _ T97 (mkF m 5 #[.val (.ref a1), .val (.int (0 : Int32)), .val (.int (3 : Int32)), .val (.int (0 : Int32)), .val (.int (1 : Int32))] [])
      refine own_go (fun t k => XS.iload X97.here hx rfl (hb hby d_prog_52_method_4_5) rfl k) ?_
      show Go _ _ _ _ _ T97 (mkF m 7 #[.val (.ref a1), .val (.int (0 : Int32)), .val (.int (3 : Int32)), .val (.int (0 : Int32)), .val (.int (1 : Int32))] [(.int (1 : Int32))])
      refine own_go (fun t k => XS.iloadN X97.here hx rfl (hb hby d_prog_52_method_4_7) rfl k) ?_
      show Go _ _ _ _ _ T97 (mkF m 8 #[.val (.ref a1), .val (.int (0 : Int32)), .val (.int (3 : Int32)), .val (.int (0 : Int32)), .val (.int (1 : Int32))] [(.int (0 : Int32)), (.int (1 : Int32))])
      refine own_go (fun t k => XS.iloadN X97.here hx rfl (hb hby d_prog_52_method_4_8) rfl k) ?_
      show Go _ _ _ _ _ T97 (mkF m 9 #[.val (.ref a1), .val (.int (0 : Int32)), .val (.int (3 : Int32)), .val (.int (0 : Int32)), .val (.int (1 : Int32))] [(.int (3 : Int32)), (.int (0 : Int32)), (.int (1 : Int32))])
      refine own_go (fun t k => XS.iadd X97.here hx rfl (hb hby d_prog_52_method_4_9) rfl k) ?_
      show Go _ _ _ _ _ T97 (mkF m 10 #[.val (.ref a1), .val (.int (0 : Int32)), .val (.int (3 : Int32)), .val (.int (0 : Int32)), .val (.int (1 : Int32))] [(.int (3 : Int32)), (.int (1 : Int32))])
      refine own_go (fun t k => XS.icmpNo X97.here hx rfl (hb hby d_prog_52_method_4_10) rfl (by decide) k) ?_
      show Go _ _ _ _ _ T97 (mkF m 13 #[.val (.ref a1), .val (.int (0 : Int32)), .val (.int (3 : Int32)), .val (.int (0 : Int32)), .val (.int (1 : Int32))] [])
      refine own_go (fun t k => XS.iloadN X97.here hx rfl (hb hby d_prog_52_method_4_13) rfl k) ?_
      show Go _ _ _ _ _ T97 (mkF m 14 #[.val (.ref a1), .val (.int (0 : Int32)), .val (.int (3 : Int32)), .val (.int (0 : Int32)), .val (.int (1 : Int32))] [(.int (0 : Int32))])
      refine own_go (fun t k => XS.ifYes X97.here hx rfl (pc0 := 14) (pc' := 43) rfl (hb hby d_prog_52_method_4_14) rfl (by decide) (by decide) (by decide) k) ?_
      show Go _ _ _ _ _ T97 (mkF m 43 #[.val (.ref a1), .val (.int (0 : Int32)), .val (.int (3 : Int32)), .val (.int (0 : Int32)), .val (.int (1 : Int32))] [])
      refine own_go (fun t k => XS.iloadN X97.here hx rfl (hb hby d_prog_52_method_4_43) rfl k) ?_
      show Go _ _ _ _ _ T97 (mkF m 44 #[.val (.ref a1), .val (.int (0 : Int32)), .val (.int (3 : Int32)), .val (.int (0 : Int32)), .val (.int (1 : Int32))] [(.int (0 : Int32))])
      refine own_retN X97 hx (own_lvN X97 hlk (by decide) (by decide)) (t := .boolean) hret (by simp) (hb hby d_prog_52_method_4_44) ?_
      have i0 : own_in (0 : Int32) (0 : Int32) (3 : Int32) = 1 := by decide
      have i1 : own_in (1 : Int32) (0 : Int32) (3 : Int32) = 1 := by decide
      have i2 : own_in (2 : Int32) (0 : Int32) (3 : Int32) = 1 := by decide
      have i3 : own_in (3 : Int32) (0 : Int32) (3 : Int32) = 0 := by decide
      have e : own_free t0 t1 t2 t3 cnt (0 : Int32) (3 : Int32) = (0 : Int32) := by simp [own_free, own_okp, i0, i1, i2, i3, hc98]
      exact ⟨(by rw [← hr, e]; try rfl), N0, e97⟩
    · skip
      show Go _ _ _ _ _ T97 (mkF m 31 #[.val (.ref a1), .val (.int (0 : Int32)), .val (.int (3 : Int32)), .val (.int (1 : Int32)), .val (.int (0 : Int32))] [])
      refine own_go (fun t k => XS.iconst X97.here hx rfl (hb hby d_prog_52_method_4_31) k) ?_
      show Go _ _ _ _ _ T97 (mkF m 32 #[.val (.ref a1), .val (.int (0 : Int32)), .val (.int (3 : Int32)), .val (.int (1 : Int32)), .val (.int (0 : Int32))] [(.int (1 : Int32))])
      refine own_go (fun t k => XS.goto X97.here hx rfl (pc0 := 32) (pc' := 36) rfl (hb hby d_prog_52_method_4_32) (by decide) (by decide) k) ?_
      show Go _ _ _ _ _ T97 (mkF m 36 #[.val (.ref a1), .val (.int (0 : Int32)), .val (.int (3 : Int32)), .val (.int (1 : Int32)), .val (.int (0 : Int32))] [(.int (1 : Int32))])
      refine own_go (fun t k => XS.istoreN X97.here hx rfl (hb hby d_prog_52_method_4_36) rfl (l' := #[.val (.ref a1), .val (.int (0 : Int32)), .val (.int (3 : Int32)), .val (.int (1 : Int32)), .val (.int (0 : Int32))]) rfl k) ?_
      show Go _ _ _ _ _ T97 (mkF m 37 #[.val (.ref a1), .val (.int (0 : Int32)), .val (.int (3 : Int32)), .val (.int (1 : Int32)), .val (.int (0 : Int32))] [])
      refine own_go (fun t k => XS.iinc X97.here hx rfl (hb hby d_prog_52_method_4_37) rfl (l' := #[.val (.ref a1), .val (.int (0 : Int32)), .val (.int (3 : Int32)), .val (.int (1 : Int32)), .val (.int (1 : Int32))]) rfl k) ?_
      show Go _ _ _ _ _ T97 (mkF m 40 #[.val (.ref a1), .val (.int (0 : Int32)), .val (.int (3 : Int32)), .val (.int (1 : Int32)), .val (.int (1 : Int32))] [])
      refine own_go (fun t k => XS.goto X97.here hx rfl (pc0 := 40) (pc' := 5) rfl (hb hby d_prog_52_method_4_40) (by decide) (by decide) k) ?_
      show Go _ _ _ _ _ T97 (mkF m 5 #[.val (.ref a1), .val (.int (0 : Int32)), .val (.int (3 : Int32)), .val (.int (1 : Int32)), .val (.int (1 : Int32))] [])
      refine own_go (fun t k => XS.iload X97.here hx rfl (hb hby d_prog_52_method_4_5) rfl k) ?_
      show Go _ _ _ _ _ T97 (mkF m 7 #[.val (.ref a1), .val (.int (0 : Int32)), .val (.int (3 : Int32)), .val (.int (1 : Int32)), .val (.int (1 : Int32))] [(.int (1 : Int32))])
      refine own_go (fun t k => XS.iloadN X97.here hx rfl (hb hby d_prog_52_method_4_7) rfl k) ?_
      show Go _ _ _ _ _ T97 (mkF m 8 #[.val (.ref a1), .val (.int (0 : Int32)), .val (.int (3 : Int32)), .val (.int (1 : Int32)), .val (.int (1 : Int32))] [(.int (0 : Int32)), (.int (1 : Int32))])
      refine own_go (fun t k => XS.iloadN X97.here hx rfl (hb hby d_prog_52_method_4_8) rfl k) ?_
      show Go _ _ _ _ _ T97 (mkF m 9 #[.val (.ref a1), .val (.int (0 : Int32)), .val (.int (3 : Int32)), .val (.int (1 : Int32)), .val (.int (1 : Int32))] [(.int (3 : Int32)), (.int (0 : Int32)), (.int (1 : Int32))])
      refine own_go (fun t k => XS.iadd X97.here hx rfl (hb hby d_prog_52_method_4_9) rfl k) ?_
      show Go _ _ _ _ _ T97 (mkF m 10 #[.val (.ref a1), .val (.int (0 : Int32)), .val (.int (3 : Int32)), .val (.int (1 : Int32)), .val (.int (1 : Int32))] [(.int (3 : Int32)), (.int (1 : Int32))])
      refine own_go (fun t k => XS.icmpNo X97.here hx rfl (hb hby d_prog_52_method_4_10) rfl (by decide) k) ?_
      show Go _ _ _ _ _ T97 (mkF m 13 #[.val (.ref a1), .val (.int (0 : Int32)), .val (.int (3 : Int32)), .val (.int (1 : Int32)), .val (.int (1 : Int32))] [])
      refine own_go (fun t k => XS.iloadN X97.here hx rfl (hb hby d_prog_52_method_4_13) rfl k) ?_
      show Go _ _ _ _ _ T97 (mkF m 14 #[.val (.ref a1), .val (.int (0 : Int32)), .val (.int (3 : Int32)), .val (.int (1 : Int32)), .val (.int (1 : Int32))] [(.int (1 : Int32))])
      refine own_go (fun t k => XS.ifNo X97.here hx rfl (hb hby d_prog_52_method_4_14) rfl (by decide) k) ?_
      show Go _ _ _ _ _ T97 (mkF m 17 #[.val (.ref a1), .val (.int (0 : Int32)), .val (.int (3 : Int32)), .val (.int (1 : Int32)), .val (.int (1 : Int32))] [])
      refine own_go (fun t k => XS.aloadN X97.here hx rfl (hb hby d_prog_52_method_4_17) rfl rfl k) ?_
      show Go _ _ _ _ _ T97 (mkF m 18 #[.val (.ref a1), .val (.int (0 : Int32)), .val (.int (3 : Int32)), .val (.int (1 : Int32)), .val (.int (1 : Int32))] [(.ref a1)])
      obtain ⟨T99, X99, e99, st99⟩ := getF X97 hx hZ hown (host := "") (Or.inl (hw _ (List.mem_of_getElem? (i := 19) rfl))) Via.refl e97 F_t (g := (mkF m 18 #[.val (.ref a1), .val (.int (0 : Int32)), .val (.int (3 : Int32)), .val (.int (1 : Int32)), .val (.int (1 : Int32))] [(.ref a1)])) rfl rfl (hb hby d_prog_52_method_4_18)
      refine own_go (fun t k => st99 t k) ?_
      show Go _ _ _ _ _ T99 (mkF m 21 #[.val (.ref a1), .val (.int (0 : Int32)), .val (.int (3 : Int32)), .val (.int (1 : Int32)), .val (.int (1 : Int32))] [(.ref b)])
      refine own_go (fun t k => XS.iload X99.here hx rfl (hb hby d_prog_52_method_4_21) rfl k) ?_
      show Go _ _ _ _ _ T99 (mkF m 23 #[.val (.ref a1), .val (.int (0 : Int32)), .val (.int (3 : Int32)), .val (.int (1 : Int32)), .val (.int (1 : Int32))] [(.int (1 : Int32)), (.ref b)])
      obtain ⟨cl100, Ar100, q100, S100, N100z, H100, G100⟩ := id V_b
      have hin100 := inb_of S100 (j := (1 : Int32)) (z := (4 : Int32)) ⟨by decide, by decide⟩
      have hat100 : cl100.slots[((1 : Int32)).toNatClampNeg]? = some (.int t1) := H100 _ (Nat.lt_of_not_le fun q => hin100 (Or.inr q))
      refine own_go (fun t k => X99.iaload hx (j := (1 : Int32)) (v := (.int t1)) (by rw [e99]; exact Ar100.1) (State.isArrayOf_alike hZ.alike Ar100.2.1) Ar100.2.2 hin100 hat100 (g := (mkF m 23 #[.val (.ref a1), .val (.int (0 : Int32)), .val (.int (3 : Int32)), .val (.int (1 : Int32)), .val (.int (1 : Int32))] [(.int (1 : Int32)), (.ref b)])) rfl rfl (hb hby d_prog_52_method_4_23) _ k) ?_
      show Go _ _ _ _ _ T99 (mkF m 24 #[.val (.ref a1), .val (.int (0 : Int32)), .val (.int (3 : Int32)), .val (.int (1 : Int32)), .val (.int (1 : Int32))] [(.int t1)])
      refine own_go (fun t k => XS.aloadN X99.here hx rfl (hb hby d_prog_52_method_4_24) rfl rfl k) ?_
      show Go _ _ _ _ _ T99 (mkF m 25 #[.val (.ref a1), .val (.int (0 : Int32)), .val (.int (3 : Int32)), .val (.int (1 : Int32)), .val (.int (1 : Int32))] [(.ref a1), (.int t1)])
      obtain ⟨T101, X101, e101, st101⟩ := getF X99 hx hZ hown (host := "") (Or.inl (hw _ (List.mem_of_getElem? (i := 16) rfl))) Via.refl e99 F_c (g := (mkF m 25 #[.val (.ref a1), .val (.int (0 : Int32)), .val (.int (3 : Int32)), .val (.int (1 : Int32)), .val (.int (1 : Int32))] [(.ref a1), (.int t1)])) rfl rfl (hb hby d_prog_52_method_4_25)
      refine own_go (fun t k => st101 t k) ?_
      show Go _ _ _ _ _ T101 (mkF m 28 #[.val (.ref a1), .val (.int (0 : Int32)), .val (.int (3 : Int32)), .val (.int (1 : Int32)), .val (.int (1 : Int32))] [(.int cnt), (.int t1)])
      refine own_icmpM (t1 < cnt) X101 hx (hb hby d_prog_52_method_4_28) (own_ge _ _) (by decide) (by decide) (pc' := 35) (fun hc102 => ?_) (fun hc102 => ?_)
      · skip
        show Go _ _ _ _ _ T101 (mkF m 35 #[.val (.ref a1), .val (.int (0 : Int32)), .val (.int (3 : Int32)), .val (.int (1 : Int32)), .val (.int (1 : Int32))] [])
        refine own_go (fun t k => XS.iconst X101.here hx rfl (hb hby d_prog_52_method_4_35) k) ?_
        show Go _ _ _ _ _ T101 (mkF m 36 #[.val (.ref a1), .val (.int (0 : Int32)), .val (.int (3 : Int32)), .val (.int (1 : Int32)), .val (.int (1 : Int32))] [(.int (0 : Int32))])
        refine own_go (fun t k => XS.istoreN X101.here hx rfl (hb hby d_prog_52_method_4_36) rfl (l' := #[.val (.ref a1), .val (.int (0 : Int32)), .val (.int (3 : Int32)), .val (.int (0 : Int32)), .val (.int (1 : Int32))]) rfl k) ?_
        show Go _ _ _ _ _ T101 (mkF m 37 #[.val (.ref a1), .val (.int (0 : Int32)), .val (.int (3 : Int32)), .val (.int (0 : Int32)), .val (.int (1 : Int32))] [])
        refine own_go (fun t k => XS.iinc X101.here hx rfl (hb hby d_prog_52_method_4_37) rfl (l' := #[.val (.ref a1), .val (.int (0 : Int32)), .val (.int (3 : Int32)), .val (.int (0 : Int32)), .val (.int (2 : Int32))]) rfl k) ?_
        show Go _ _ _ _ _ T101 (mkF m 40 #[.val (.ref a1), .val (.int (0 : Int32)), .val (.int (3 : Int32)), .val (.int (0 : Int32)), .val (.int (2 : Int32))] [])
        refine own_go (fun t k => XS.goto X101.here hx rfl (pc0 := 40) (pc' := 5) rfl (hb hby d_prog_52_method_4_40) (by decide) (by decide) k) ?_
        show Go _ _ _ _ _ T101 (mkF m 5 #[.val (.ref a1), .val (.int (0 : Int32)), .val (.int (3 : Int32)), .val (.int (0 : Int32)), .val (.int (2 : Int32))] [])
        refine own_go (fun t k => XS.iload X101.here hx rfl (hb hby d_prog_52_method_4_5) rfl k) ?_
        show Go _ _ _ _ _ T101 (mkF m 7 #[.val (.ref a1), .val (.int (0 : Int32)), .val (.int (3 : Int32)), .val (.int (0 : Int32)), .val (.int (2 : Int32))] [(.int (2 : Int32))])
        refine own_go (fun t k => XS.iloadN X101.here hx rfl (hb hby d_prog_52_method_4_7) rfl k) ?_
        show Go _ _ _ _ _ T101 (mkF m 8 #[.val (.ref a1), .val (.int (0 : Int32)), .val (.int (3 : Int32)), .val (.int (0 : Int32)), .val (.int (2 : Int32))] [(.int (0 : Int32)), (.int (2 : Int32))])
        refine own_go (fun t k => XS.iloadN X101.here hx rfl (hb hby d_prog_52_method_4_8) rfl k) ?_
        show Go _ _ _ _ _ T101 (mkF m 9 #[.val (.ref a1), .val (.int (0 : Int32)), .val (.int (3 : Int32)), .val (.int (0 : Int32)), .val (.int (2 : Int32))] [(.int (3 : Int32)), (.int (0 : Int32)), (.int (2 : Int32))])
        refine own_go (fun t k => XS.iadd X101.here hx rfl (hb hby d_prog_52_method_4_9) rfl k) ?_
        show Go _ _ _ _ _ T101 (mkF m 10 #[.val (.ref a1), .val (.int (0 : Int32)), .val (.int (3 : Int32)), .val (.int (0 : Int32)), .val (.int (2 : Int32))] [(.int (3 : Int32)), (.int (2 : Int32))])
        refine own_go (fun t k => XS.icmpNo X101.here hx rfl (hb hby d_prog_52_method_4_10) rfl (by decide) k) ?_
        show Go _ _ _ _ _ T101 (mkF m 13 #[.val (.ref a1), .val (.int (0 : Int32)), .val (.int (3 : Int32)), .val (.int (0 : Int32)), .val (.int (2 : Int32))] [])
        refine own_go (fun t k => XS.iloadN X101.here hx rfl (hb hby d_prog_52_method_4_13) rfl k) ?_
        show Go _ _ _ _ _ T101 (mkF m 14 #[.val (.ref a1), .val (.int (0 : Int32)), .val (.int (3 : Int32)), .val (.int (0 : Int32)), .val (.int (2 : Int32))] [(.int (0 : Int32))])
        refine own_go (fun t k => XS.ifYes X101.here hx rfl (pc0 := 14) (pc' := 43) rfl (hb hby d_prog_52_method_4_14) rfl (by decide) (by decide) (by decide) k) ?_
        show Go _ _ _ _ _ T101 (mkF m 43 #[.val (.ref a1), .val (.int (0 : Int32)), .val (.int (3 : Int32)), .val (.int (0 : Int32)), .val (.int (2 : Int32))] [])
        refine own_go (fun t k => XS.iloadN X101.here hx rfl (hb hby d_prog_52_method_4_43) rfl k) ?_
        show Go _ _ _ _ _ T101 (mkF m 44 #[.val (.ref a1), .val (.int (0 : Int32)), .val (.int (3 : Int32)), .val (.int (0 : Int32)), .val (.int (2 : Int32))] [(.int (0 : Int32))])
        refine own_retN X101 hx (own_lvN X101 hlk (by decide) (by decide)) (t := .boolean) hret (by simp) (hb hby d_prog_52_method_4_44) ?_
        have i0 : own_in (0 : Int32) (0 : Int32) (3 : Int32) = 1 := by decide
        have i1 : own_in (1 : Int32) (0 : Int32) (3 : Int32) = 1 := by decide
        have i2 : own_in (2 : Int32) (0 : Int32) (3 : Int32) = 1 := by decide
        have i3 : own_in (3 : Int32) (0 : Int32) (3 : Int32) = 0 := by decide
        have e : own_free t0 t1 t2 t3 cnt (0 : Int32) (3 : Int32) = (0 : Int32) := by simp [own_free, own_okp, i0, i1, i2, i3, hc98, hc102]
        exact ⟨(by rw [← hr, e]; try rfl), N0, e101⟩
      · skip
        show Go _ _ _ _ _ T101 (mkF m 31 #[.val (.ref a1), .val (.int (0 : Int32)), .val (.int (3 : Int32)), .val (.int (1 : Int32)), .val (.int (1 : Int32))] [])
        refine own_go (fun t k => XS.iconst X101.here hx rfl (hb hby d_prog_52_method_4_31) k) ?_
        show Go _ _ _ _ _ T101 (mkF m 32 #[.val (.ref a1), .val (.int (0 : Int32)), .val (.int (3 : Int32)), .val (.int (1 : Int32)), .val (.int (1 : Int32))] [(.int (1 : Int32))])
        refine own_go (fun t k => XS.goto X101.here hx rfl (pc0 := 32) (pc' := 36) rfl (hb hby d_prog_52_method_4_32) (by decide) (by decide) k) ?_
        show Go _ _ _ _ _ T101 (mkF m 36 #[.val (.ref a1), .val (.int (0 : Int32)), .val (.int (3 : Int32)), .val (.int (1 : Int32)), .val (.int (1 : Int32))] [(.int (1 : Int32))])
        refine own_go (fun t k => XS.istoreN X101.here hx rfl (hb hby d_prog_52_method_4_36) rfl (l' := #[.val (.ref a1), .val (.int (0 : Int32)), .val (.int (3 : Int32)), .val (.int (1 : Int32)), .val (.int (1 : Int32))]) rfl k) ?_
        show Go _ _ _ _ _ T101 (mkF m 37 #[.val (.ref a1), .val (.int (0 : Int32)), .val (.int (3 : Int32)), .val (.int (1 : Int32)), .val (.int (1 : Int32))] [])
        refine own_go (fun t k => XS.iinc X101.here hx rfl (hb hby d_prog_52_method_4_37) rfl (l' := #[.val (.ref a1), .val (.int (0 : Int32)), .val (.int (3 : Int32)), .val (.int (1 : Int32)), .val (.int (2 : Int32))]) rfl k) ?_
        show Go _ _ _ _ _ T101 (mkF m 40 #[.val (.ref a1), .val (.int (0 : Int32)), .val (.int (3 : Int32)), .val (.int (1 : Int32)), .val (.int (2 : Int32))] [])
        refine own_go (fun t k => XS.goto X101.here hx rfl (pc0 := 40) (pc' := 5) rfl (hb hby d_prog_52_method_4_40) (by decide) (by decide) k) ?_
        show Go _ _ _ _ _ T101 (mkF m 5 #[.val (.ref a1), .val (.int (0 : Int32)), .val (.int (3 : Int32)), .val (.int (1 : Int32)), .val (.int (2 : Int32))] [])
        refine own_go (fun t k => XS.iload X101.here hx rfl (hb hby d_prog_52_method_4_5) rfl k) ?_
        show Go _ _ _ _ _ T101 (mkF m 7 #[.val (.ref a1), .val (.int (0 : Int32)), .val (.int (3 : Int32)), .val (.int (1 : Int32)), .val (.int (2 : Int32))] [(.int (2 : Int32))])
        refine own_go (fun t k => XS.iloadN X101.here hx rfl (hb hby d_prog_52_method_4_7) rfl k) ?_
        show Go _ _ _ _ _ T101 (mkF m 8 #[.val (.ref a1), .val (.int (0 : Int32)), .val (.int (3 : Int32)), .val (.int (1 : Int32)), .val (.int (2 : Int32))] [(.int (0 : Int32)), (.int (2 : Int32))])
        refine own_go (fun t k => XS.iloadN X101.here hx rfl (hb hby d_prog_52_method_4_8) rfl k) ?_
        show Go _ _ _ _ _ T101 (mkF m 9 #[.val (.ref a1), .val (.int (0 : Int32)), .val (.int (3 : Int32)), .val (.int (1 : Int32)), .val (.int (2 : Int32))] [(.int (3 : Int32)), (.int (0 : Int32)), (.int (2 : Int32))])
        refine own_go (fun t k => XS.iadd X101.here hx rfl (hb hby d_prog_52_method_4_9) rfl k) ?_
        show Go _ _ _ _ _ T101 (mkF m 10 #[.val (.ref a1), .val (.int (0 : Int32)), .val (.int (3 : Int32)), .val (.int (1 : Int32)), .val (.int (2 : Int32))] [(.int (3 : Int32)), (.int (2 : Int32))])
        refine own_go (fun t k => XS.icmpNo X101.here hx rfl (hb hby d_prog_52_method_4_10) rfl (by decide) k) ?_
        show Go _ _ _ _ _ T101 (mkF m 13 #[.val (.ref a1), .val (.int (0 : Int32)), .val (.int (3 : Int32)), .val (.int (1 : Int32)), .val (.int (2 : Int32))] [])
        refine own_go (fun t k => XS.iloadN X101.here hx rfl (hb hby d_prog_52_method_4_13) rfl k) ?_
        show Go _ _ _ _ _ T101 (mkF m 14 #[.val (.ref a1), .val (.int (0 : Int32)), .val (.int (3 : Int32)), .val (.int (1 : Int32)), .val (.int (2 : Int32))] [(.int (1 : Int32))])
        refine own_go (fun t k => XS.ifNo X101.here hx rfl (hb hby d_prog_52_method_4_14) rfl (by decide) k) ?_
        show Go _ _ _ _ _ T101 (mkF m 17 #[.val (.ref a1), .val (.int (0 : Int32)), .val (.int (3 : Int32)), .val (.int (1 : Int32)), .val (.int (2 : Int32))] [])
        refine own_go (fun t k => XS.aloadN X101.here hx rfl (hb hby d_prog_52_method_4_17) rfl rfl k) ?_
        show Go _ _ _ _ _ T101 (mkF m 18 #[.val (.ref a1), .val (.int (0 : Int32)), .val (.int (3 : Int32)), .val (.int (1 : Int32)), .val (.int (2 : Int32))] [(.ref a1)])
        obtain ⟨T103, X103, e103, st103⟩ := getF X101 hx hZ hown (host := "") (Or.inl (hw _ (List.mem_of_getElem? (i := 19) rfl))) Via.refl e101 F_t (g := (mkF m 18 #[.val (.ref a1), .val (.int (0 : Int32)), .val (.int (3 : Int32)), .val (.int (1 : Int32)), .val (.int (2 : Int32))] [(.ref a1)])) rfl rfl (hb hby d_prog_52_method_4_18)
        refine own_go (fun t k => st103 t k) ?_
        show Go _ _ _ _ _ T103 (mkF m 21 #[.val (.ref a1), .val (.int (0 : Int32)), .val (.int (3 : Int32)), .val (.int (1 : Int32)), .val (.int (2 : Int32))] [(.ref b)])
        refine own_go (fun t k => XS.iload X103.here hx rfl (hb hby d_prog_52_method_4_21) rfl k) ?_
        show Go _ _ _ _ _ T103 (mkF m 23 #[.val (.ref a1), .val (.int (0 : Int32)), .val (.int (3 : Int32)), .val (.int (1 : Int32)), .val (.int (2 : Int32))] [(.int (2 : Int32)), (.ref b)])
        obtain ⟨cl104, Ar104, q104, S104, N104z, H104, G104⟩ := id V_b
        have hin104 := inb_of S104 (j := (2 : Int32)) (z := (4 : Int32)) ⟨by decide, by decide⟩
        have hat104 : cl104.slots[((2 : Int32)).toNatClampNeg]? = some (.int t2) := H104 _ (Nat.lt_of_not_le fun q => hin104 (Or.inr q))
        refine own_go (fun t k => X103.iaload hx (j := (2 : Int32)) (v := (.int t2)) (by rw [e103]; exact Ar104.1) (State.isArrayOf_alike hZ.alike Ar104.2.1) Ar104.2.2 hin104 hat104 (g := (mkF m 23 #[.val (.ref a1), .val (.int (0 : Int32)), .val (.int (3 : Int32)), .val (.int (1 : Int32)), .val (.int (2 : Int32))] [(.int (2 : Int32)), (.ref b)])) rfl rfl (hb hby d_prog_52_method_4_23) _ k) ?_
        show Go _ _ _ _ _ T103 (mkF m 24 #[.val (.ref a1), .val (.int (0 : Int32)), .val (.int (3 : Int32)), .val (.int (1 : Int32)), .val (.int (2 : Int32))] [(.int t2)])
        refine own_go (fun t k => XS.aloadN X103.here hx rfl (hb hby d_prog_52_method_4_24) rfl rfl k) ?_
        show Go _ _ _ _ _ T103 (mkF m 25 #[.val (.ref a1), .val (.int (0 : Int32)), .val (.int (3 : Int32)), .val (.int (1 : Int32)), .val (.int (2 : Int32))] [(.ref a1), (.int t2)])
        obtain ⟨T105, X105, e105, st105⟩ := getF X103 hx hZ hown (host := "") (Or.inl (hw _ (List.mem_of_getElem? (i := 16) rfl))) Via.refl e103 F_c (g := (mkF m 25 #[.val (.ref a1), .val (.int (0 : Int32)), .val (.int (3 : Int32)), .val (.int (1 : Int32)), .val (.int (2 : Int32))] [(.ref a1), (.int t2)])) rfl rfl (hb hby d_prog_52_method_4_25)
        refine own_go (fun t k => st105 t k) ?_
        show Go _ _ _ _ _ T105 (mkF m 28 #[.val (.ref a1), .val (.int (0 : Int32)), .val (.int (3 : Int32)), .val (.int (1 : Int32)), .val (.int (2 : Int32))] [(.int cnt), (.int t2)])
        refine own_icmpM (t2 < cnt) X105 hx (hb hby d_prog_52_method_4_28) (own_ge _ _) (by decide) (by decide) (pc' := 35) (fun hc106 => ?_) (fun hc106 => ?_)
        · skip
          show Go _ _ _ _ _ T105 (mkF m 35 #[.val (.ref a1), .val (.int (0 : Int32)), .val (.int (3 : Int32)), .val (.int (1 : Int32)), .val (.int (2 : Int32))] [])
          refine own_go (fun t k => XS.iconst X105.here hx rfl (hb hby d_prog_52_method_4_35) k) ?_
          show Go _ _ _ _ _ T105 (mkF m 36 #[.val (.ref a1), .val (.int (0 : Int32)), .val (.int (3 : Int32)), .val (.int (1 : Int32)), .val (.int (2 : Int32))] [(.int (0 : Int32))])
          refine own_go (fun t k => XS.istoreN X105.here hx rfl (hb hby d_prog_52_method_4_36) rfl (l' := #[.val (.ref a1), .val (.int (0 : Int32)), .val (.int (3 : Int32)), .val (.int (0 : Int32)), .val (.int (2 : Int32))]) rfl k) ?_
          show Go _ _ _ _ _ T105 (mkF m 37 #[.val (.ref a1), .val (.int (0 : Int32)), .val (.int (3 : Int32)), .val (.int (0 : Int32)), .val (.int (2 : Int32))] [])
          refine own_go (fun t k => XS.iinc X105.here hx rfl (hb hby d_prog_52_method_4_37) rfl (l' := #[.val (.ref a1), .val (.int (0 : Int32)), .val (.int (3 : Int32)), .val (.int (0 : Int32)), .val (.int (3 : Int32))]) rfl k) ?_
          show Go _ _ _ _ _ T105 (mkF m 40 #[.val (.ref a1), .val (.int (0 : Int32)), .val (.int (3 : Int32)), .val (.int (0 : Int32)), .val (.int (3 : Int32))] [])
          refine own_go (fun t k => XS.goto X105.here hx rfl (pc0 := 40) (pc' := 5) rfl (hb hby d_prog_52_method_4_40) (by decide) (by decide) k) ?_
          show Go _ _ _ _ _ T105 (mkF m 5 #[.val (.ref a1), .val (.int (0 : Int32)), .val (.int (3 : Int32)), .val (.int (0 : Int32)), .val (.int (3 : Int32))] [])
          refine own_go (fun t k => XS.iload X105.here hx rfl (hb hby d_prog_52_method_4_5) rfl k) ?_
          show Go _ _ _ _ _ T105 (mkF m 7 #[.val (.ref a1), .val (.int (0 : Int32)), .val (.int (3 : Int32)), .val (.int (0 : Int32)), .val (.int (3 : Int32))] [(.int (3 : Int32))])
          refine own_go (fun t k => XS.iloadN X105.here hx rfl (hb hby d_prog_52_method_4_7) rfl k) ?_
          show Go _ _ _ _ _ T105 (mkF m 8 #[.val (.ref a1), .val (.int (0 : Int32)), .val (.int (3 : Int32)), .val (.int (0 : Int32)), .val (.int (3 : Int32))] [(.int (0 : Int32)), (.int (3 : Int32))])
          refine own_go (fun t k => XS.iloadN X105.here hx rfl (hb hby d_prog_52_method_4_8) rfl k) ?_
          show Go _ _ _ _ _ T105 (mkF m 9 #[.val (.ref a1), .val (.int (0 : Int32)), .val (.int (3 : Int32)), .val (.int (0 : Int32)), .val (.int (3 : Int32))] [(.int (3 : Int32)), (.int (0 : Int32)), (.int (3 : Int32))])
          refine own_go (fun t k => XS.iadd X105.here hx rfl (hb hby d_prog_52_method_4_9) rfl k) ?_
          show Go _ _ _ _ _ T105 (mkF m 10 #[.val (.ref a1), .val (.int (0 : Int32)), .val (.int (3 : Int32)), .val (.int (0 : Int32)), .val (.int (3 : Int32))] [(.int (3 : Int32)), (.int (3 : Int32))])
          refine own_go (fun t k => XS.icmpYes X105.here hx rfl (pc0 := 10) (pc' := 43) rfl (hb hby d_prog_52_method_4_10) rfl (by decide) (by decide) (by decide) k) ?_
          show Go _ _ _ _ _ T105 (mkF m 43 #[.val (.ref a1), .val (.int (0 : Int32)), .val (.int (3 : Int32)), .val (.int (0 : Int32)), .val (.int (3 : Int32))] [])
          refine own_go (fun t k => XS.iloadN X105.here hx rfl (hb hby d_prog_52_method_4_43) rfl k) ?_
          show Go _ _ _ _ _ T105 (mkF m 44 #[.val (.ref a1), .val (.int (0 : Int32)), .val (.int (3 : Int32)), .val (.int (0 : Int32)), .val (.int (3 : Int32))] [(.int (0 : Int32))])
          refine own_retN X105 hx (own_lvN X105 hlk (by decide) (by decide)) (t := .boolean) hret (by simp) (hb hby d_prog_52_method_4_44) ?_
          have i0 : own_in (0 : Int32) (0 : Int32) (3 : Int32) = 1 := by decide
          have i1 : own_in (1 : Int32) (0 : Int32) (3 : Int32) = 1 := by decide
          have i2 : own_in (2 : Int32) (0 : Int32) (3 : Int32) = 1 := by decide
          have i3 : own_in (3 : Int32) (0 : Int32) (3 : Int32) = 0 := by decide
          have e : own_free t0 t1 t2 t3 cnt (0 : Int32) (3 : Int32) = (0 : Int32) := by simp [own_free, own_okp, i0, i1, i2, i3, hc98, hc102, hc106]
          exact ⟨(by rw [← hr, e]; try rfl), N0, e105⟩
        · skip
          show Go _ _ _ _ _ T105 (mkF m 31 #[.val (.ref a1), .val (.int (0 : Int32)), .val (.int (3 : Int32)), .val (.int (1 : Int32)), .val (.int (2 : Int32))] [])
          refine own_go (fun t k => XS.iconst X105.here hx rfl (hb hby d_prog_52_method_4_31) k) ?_
          show Go _ _ _ _ _ T105 (mkF m 32 #[.val (.ref a1), .val (.int (0 : Int32)), .val (.int (3 : Int32)), .val (.int (1 : Int32)), .val (.int (2 : Int32))] [(.int (1 : Int32))])
          refine own_go (fun t k => XS.goto X105.here hx rfl (pc0 := 32) (pc' := 36) rfl (hb hby d_prog_52_method_4_32) (by decide) (by decide) k) ?_
          show Go _ _ _ _ _ T105 (mkF m 36 #[.val (.ref a1), .val (.int (0 : Int32)), .val (.int (3 : Int32)), .val (.int (1 : Int32)), .val (.int (2 : Int32))] [(.int (1 : Int32))])
          refine own_go (fun t k => XS.istoreN X105.here hx rfl (hb hby d_prog_52_method_4_36) rfl (l' := #[.val (.ref a1), .val (.int (0 : Int32)), .val (.int (3 : Int32)), .val (.int (1 : Int32)), .val (.int (2 : Int32))]) rfl k) ?_
          show Go _ _ _ _ _ T105 (mkF m 37 #[.val (.ref a1), .val (.int (0 : Int32)), .val (.int (3 : Int32)), .val (.int (1 : Int32)), .val (.int (2 : Int32))] [])
          refine own_go (fun t k => XS.iinc X105.here hx rfl (hb hby d_prog_52_method_4_37) rfl (l' := #[.val (.ref a1), .val (.int (0 : Int32)), .val (.int (3 : Int32)), .val (.int (1 : Int32)), .val (.int (3 : Int32))]) rfl k) ?_
          show Go _ _ _ _ _ T105 (mkF m 40 #[.val (.ref a1), .val (.int (0 : Int32)), .val (.int (3 : Int32)), .val (.int (1 : Int32)), .val (.int (3 : Int32))] [])
          refine own_go (fun t k => XS.goto X105.here hx rfl (pc0 := 40) (pc' := 5) rfl (hb hby d_prog_52_method_4_40) (by decide) (by decide) k) ?_
          show Go _ _ _ _ _ T105 (mkF m 5 #[.val (.ref a1), .val (.int (0 : Int32)), .val (.int (3 : Int32)), .val (.int (1 : Int32)), .val (.int (3 : Int32))] [])
          refine own_go (fun t k => XS.iload X105.here hx rfl (hb hby d_prog_52_method_4_5) rfl k) ?_
          show Go _ _ _ _ _ T105 (mkF m 7 #[.val (.ref a1), .val (.int (0 : Int32)), .val (.int (3 : Int32)), .val (.int (1 : Int32)), .val (.int (3 : Int32))] [(.int (3 : Int32))])
          refine own_go (fun t k => XS.iloadN X105.here hx rfl (hb hby d_prog_52_method_4_7) rfl k) ?_
          show Go _ _ _ _ _ T105 (mkF m 8 #[.val (.ref a1), .val (.int (0 : Int32)), .val (.int (3 : Int32)), .val (.int (1 : Int32)), .val (.int (3 : Int32))] [(.int (0 : Int32)), (.int (3 : Int32))])
          refine own_go (fun t k => XS.iloadN X105.here hx rfl (hb hby d_prog_52_method_4_8) rfl k) ?_
          show Go _ _ _ _ _ T105 (mkF m 9 #[.val (.ref a1), .val (.int (0 : Int32)), .val (.int (3 : Int32)), .val (.int (1 : Int32)), .val (.int (3 : Int32))] [(.int (3 : Int32)), (.int (0 : Int32)), (.int (3 : Int32))])
          refine own_go (fun t k => XS.iadd X105.here hx rfl (hb hby d_prog_52_method_4_9) rfl k) ?_
          show Go _ _ _ _ _ T105 (mkF m 10 #[.val (.ref a1), .val (.int (0 : Int32)), .val (.int (3 : Int32)), .val (.int (1 : Int32)), .val (.int (3 : Int32))] [(.int (3 : Int32)), (.int (3 : Int32))])
          refine own_go (fun t k => XS.icmpYes X105.here hx rfl (pc0 := 10) (pc' := 43) rfl (hb hby d_prog_52_method_4_10) rfl (by decide) (by decide) (by decide) k) ?_
          show Go _ _ _ _ _ T105 (mkF m 43 #[.val (.ref a1), .val (.int (0 : Int32)), .val (.int (3 : Int32)), .val (.int (1 : Int32)), .val (.int (3 : Int32))] [])
          refine own_go (fun t k => XS.iloadN X105.here hx rfl (hb hby d_prog_52_method_4_43) rfl k) ?_
          show Go _ _ _ _ _ T105 (mkF m 44 #[.val (.ref a1), .val (.int (0 : Int32)), .val (.int (3 : Int32)), .val (.int (1 : Int32)), .val (.int (3 : Int32))] [(.int (1 : Int32))])
          refine own_retN X105 hx (own_lvN X105 hlk (by decide) (by decide)) (t := .boolean) hret (by simp) (hb hby d_prog_52_method_4_44) ?_
          have i0 : own_in (0 : Int32) (0 : Int32) (3 : Int32) = 1 := by decide
          have i1 : own_in (1 : Int32) (0 : Int32) (3 : Int32) = 1 := by decide
          have i2 : own_in (2 : Int32) (0 : Int32) (3 : Int32) = 1 := by decide
          have i3 : own_in (3 : Int32) (0 : Int32) (3 : Int32) = 0 := by decide
          have e : own_free t0 t1 t2 t3 cnt (0 : Int32) (3 : Int32) = (1 : Int32) := by simp [own_free, own_okp, i0, i1, i2, i3, hc98, hc102, hc106]
          exact ⟨(by rw [← hr, e]; try rfl), N0, e105⟩
  · skip
    show Go _ _ _ _ _ s₁ (mkF m 0 #[.val (.ref a1), .val (.int (0 : Int32)), .val (.int (4 : Int32)), .unset, .unset] [])
    refine own_go (fun t k => XS.iconst X0.here hx rfl (hb hby d_prog_52_method_4_0) k) ?_
    show Go _ _ _ _ _ s₁ (mkF m 1 #[.val (.ref a1), .val (.int (0 : Int32)), .val (.int (4 : Int32)), .unset, .unset] [(.int (1 : Int32))])
    refine own_go (fun t k => XS.istoreN X0.here hx rfl (hb hby d_prog_52_method_4_1) rfl (l' := #[.val (.ref a1), .val (.int (0 : Int32)), .val (.int (4 : Int32)), .val (.int (1 : Int32)), .unset]) rfl k) ?_
    show Go _ _ _ _ _ s₁ (mkF m 2 #[.val (.ref a1), .val (.int (0 : Int32)), .val (.int (4 : Int32)), .val (.int (1 : Int32)), .unset] [])
    refine own_go (fun t k => XS.iloadN X0.here hx rfl (hb hby d_prog_52_method_4_2) rfl k) ?_
    show Go _ _ _ _ _ s₁ (mkF m 3 #[.val (.ref a1), .val (.int (0 : Int32)), .val (.int (4 : Int32)), .val (.int (1 : Int32)), .unset] [(.int (0 : Int32))])
    refine own_go (fun t k => XS.istore X0.here hx rfl (hb hby d_prog_52_method_4_3) rfl (l' := #[.val (.ref a1), .val (.int (0 : Int32)), .val (.int (4 : Int32)), .val (.int (1 : Int32)), .val (.int (0 : Int32))]) rfl k) ?_
    show Go _ _ _ _ _ s₁ (mkF m 5 #[.val (.ref a1), .val (.int (0 : Int32)), .val (.int (4 : Int32)), .val (.int (1 : Int32)), .val (.int (0 : Int32))] [])
    refine own_go (fun t k => XS.iload X0.here hx rfl (hb hby d_prog_52_method_4_5) rfl k) ?_
    show Go _ _ _ _ _ s₁ (mkF m 7 #[.val (.ref a1), .val (.int (0 : Int32)), .val (.int (4 : Int32)), .val (.int (1 : Int32)), .val (.int (0 : Int32))] [(.int (0 : Int32))])
    refine own_go (fun t k => XS.iloadN X0.here hx rfl (hb hby d_prog_52_method_4_7) rfl k) ?_
    show Go _ _ _ _ _ s₁ (mkF m 8 #[.val (.ref a1), .val (.int (0 : Int32)), .val (.int (4 : Int32)), .val (.int (1 : Int32)), .val (.int (0 : Int32))] [(.int (0 : Int32)), (.int (0 : Int32))])
    refine own_go (fun t k => XS.iloadN X0.here hx rfl (hb hby d_prog_52_method_4_8) rfl k) ?_
    show Go _ _ _ _ _ s₁ (mkF m 9 #[.val (.ref a1), .val (.int (0 : Int32)), .val (.int (4 : Int32)), .val (.int (1 : Int32)), .val (.int (0 : Int32))] [(.int (4 : Int32)), (.int (0 : Int32)), (.int (0 : Int32))])
    refine own_go (fun t k => XS.iadd X0.here hx rfl (hb hby d_prog_52_method_4_9) rfl k) ?_
    show Go _ _ _ _ _ s₁ (mkF m 10 #[.val (.ref a1), .val (.int (0 : Int32)), .val (.int (4 : Int32)), .val (.int (1 : Int32)), .val (.int (0 : Int32))] [(.int (4 : Int32)), (.int (0 : Int32))])
    refine own_go (fun t k => XS.icmpNo X0.here hx rfl (hb hby d_prog_52_method_4_10) rfl (by decide) k) ?_
    show Go _ _ _ _ _ s₁ (mkF m 13 #[.val (.ref a1), .val (.int (0 : Int32)), .val (.int (4 : Int32)), .val (.int (1 : Int32)), .val (.int (0 : Int32))] [])
    refine own_go (fun t k => XS.iloadN X0.here hx rfl (hb hby d_prog_52_method_4_13) rfl k) ?_
    show Go _ _ _ _ _ s₁ (mkF m 14 #[.val (.ref a1), .val (.int (0 : Int32)), .val (.int (4 : Int32)), .val (.int (1 : Int32)), .val (.int (0 : Int32))] [(.int (1 : Int32))])
    refine own_go (fun t k => XS.ifNo X0.here hx rfl (hb hby d_prog_52_method_4_14) rfl (by decide) k) ?_
    show Go _ _ _ _ _ s₁ (mkF m 17 #[.val (.ref a1), .val (.int (0 : Int32)), .val (.int (4 : Int32)), .val (.int (1 : Int32)), .val (.int (0 : Int32))] [])
    refine own_go (fun t k => XS.aloadN X0.here hx rfl (hb hby d_prog_52_method_4_17) rfl rfl k) ?_
    show Go _ _ _ _ _ s₁ (mkF m 18 #[.val (.ref a1), .val (.int (0 : Int32)), .val (.int (4 : Int32)), .val (.int (1 : Int32)), .val (.int (0 : Int32))] [(.ref a1)])
    obtain ⟨T107, X107, e107, st107⟩ := getF X0 hx hZ hown (host := "") (Or.inl (hw _ (List.mem_of_getElem? (i := 19) rfl))) Via.refl e0 F_t (g := (mkF m 18 #[.val (.ref a1), .val (.int (0 : Int32)), .val (.int (4 : Int32)), .val (.int (1 : Int32)), .val (.int (0 : Int32))] [(.ref a1)])) rfl rfl (hb hby d_prog_52_method_4_18)
    refine own_go (fun t k => st107 t k) ?_
    show Go _ _ _ _ _ T107 (mkF m 21 #[.val (.ref a1), .val (.int (0 : Int32)), .val (.int (4 : Int32)), .val (.int (1 : Int32)), .val (.int (0 : Int32))] [(.ref b)])
    refine own_go (fun t k => XS.iload X107.here hx rfl (hb hby d_prog_52_method_4_21) rfl k) ?_
    show Go _ _ _ _ _ T107 (mkF m 23 #[.val (.ref a1), .val (.int (0 : Int32)), .val (.int (4 : Int32)), .val (.int (1 : Int32)), .val (.int (0 : Int32))] [(.int (0 : Int32)), (.ref b)])
    obtain ⟨cl108, Ar108, q108, S108, N108z, H108, G108⟩ := id V_b
    have hin108 := inb_of S108 (j := (0 : Int32)) (z := (4 : Int32)) ⟨by decide, by decide⟩
    have hat108 : cl108.slots[((0 : Int32)).toNatClampNeg]? = some (.int t0) := H108 _ (Nat.lt_of_not_le fun q => hin108 (Or.inr q))
    refine own_go (fun t k => X107.iaload hx (j := (0 : Int32)) (v := (.int t0)) (by rw [e107]; exact Ar108.1) (State.isArrayOf_alike hZ.alike Ar108.2.1) Ar108.2.2 hin108 hat108 (g := (mkF m 23 #[.val (.ref a1), .val (.int (0 : Int32)), .val (.int (4 : Int32)), .val (.int (1 : Int32)), .val (.int (0 : Int32))] [(.int (0 : Int32)), (.ref b)])) rfl rfl (hb hby d_prog_52_method_4_23) _ k) ?_
    show Go _ _ _ _ _ T107 (mkF m 24 #[.val (.ref a1), .val (.int (0 : Int32)), .val (.int (4 : Int32)), .val (.int (1 : Int32)), .val (.int (0 : Int32))] [(.int t0)])
    refine own_go (fun t k => XS.aloadN X107.here hx rfl (hb hby d_prog_52_method_4_24) rfl rfl k) ?_
    show Go _ _ _ _ _ T107 (mkF m 25 #[.val (.ref a1), .val (.int (0 : Int32)), .val (.int (4 : Int32)), .val (.int (1 : Int32)), .val (.int (0 : Int32))] [(.ref a1), (.int t0)])
    obtain ⟨T109, X109, e109, st109⟩ := getF X107 hx hZ hown (host := "") (Or.inl (hw _ (List.mem_of_getElem? (i := 16) rfl))) Via.refl e107 F_c (g := (mkF m 25 #[.val (.ref a1), .val (.int (0 : Int32)), .val (.int (4 : Int32)), .val (.int (1 : Int32)), .val (.int (0 : Int32))] [(.ref a1), (.int t0)])) rfl rfl (hb hby d_prog_52_method_4_25)
    refine own_go (fun t k => st109 t k) ?_
    show Go _ _ _ _ _ T109 (mkF m 28 #[.val (.ref a1), .val (.int (0 : Int32)), .val (.int (4 : Int32)), .val (.int (1 : Int32)), .val (.int (0 : Int32))] [(.int cnt), (.int t0)])
    refine own_icmpM (t0 < cnt) X109 hx (hb hby d_prog_52_method_4_28) (own_ge _ _) (by decide) (by decide) (pc' := 35) (fun hc110 => ?_) (fun hc110 => ?_)
    · skip
      show Go _ _ _ _ _ T109 (mkF m 35 #[.val (.ref a1), .val (.int (0 : Int32)), .val (.int (4 : Int32)), .val (.int (1 : Int32)), .val (.int (0 : Int32))] [])
      refine own_go (fun t k => XS.iconst X109.here hx rfl (hb hby d_prog_52_method_4_35) k) ?_
      show Go _ _ _ _ _ T109 (mkF m 36 #[.val (.ref a1), .val (.int (0 : Int32)), .val (.int (4 : Int32)), .val (.int (1 : Int32)), .val (.int (0 : Int32))] [(.int (0 : Int32))])
      refine own_go (fun t k => XS.istoreN X109.here hx rfl (hb hby d_prog_52_method_4_36) rfl (l' := #[.val (.ref a1), .val (.int (0 : Int32)), .val (.int (4 : Int32)), .val (.int (0 : Int32)), .val (.int (0 : Int32))]) rfl k) ?_
      show Go _ _ _ _ _ T109 (mkF m 37 #[.val (.ref a1), .val (.int (0 : Int32)), .val (.int (4 : Int32)), .val (.int (0 : Int32)), .val (.int (0 : Int32))] [])
      refine own_go (fun t k => XS.iinc X109.here hx rfl (hb hby d_prog_52_method_4_37) rfl (l' := #[.val (.ref a1), .val (.int (0 : Int32)), .val (.int (4 : Int32)), .val (.int (0 : Int32)), .val (.int (1 : Int32))]) rfl k) ?_
      show Go _ _ _ _ _ T109 (mkF m 40 #[.val (.ref a1), .val (.int (0 : Int32)), .val (.int (4 : Int32)), .val (.int (0 : Int32)), .val (.int (1 : Int32))] [])
      refine own_go (fun t k => XS.goto X109.here hx rfl (pc0 := 40) (pc' := 5) rfl (hb hby d_prog_52_method_4_40) (by decide) (by decide) k) ?_
      show Go _ _ _ _ _ T109 (mkF m 5 #[.val (.ref a1), .val (.int (0 : Int32)), .val (.int (4 : Int32)), .val (.int (0 : Int32)), .val (.int (1 : Int32))] [])
      refine own_go (fun t k => XS.iload X109.here hx rfl (hb hby d_prog_52_method_4_5) rfl k) ?_
      show Go _ _ _ _ _ T109 (mkF m 7 #[.val (.ref a1), .val (.int (0 : Int32)), .val (.int (4 : Int32)), .val (.int (0 : Int32)), .val (.int (1 : Int32))] [(.int (1 : Int32))])
      refine own_go (fun t k => XS.iloadN X109.here hx rfl (hb hby d_prog_52_method_4_7) rfl k) ?_
      show Go _ _ _ _ _ T109 (mkF m 8 #[.val (.ref a1), .val (.int (0 : Int32)), .val (.int (4 : Int32)), .val (.int (0 : Int32)), .val (.int (1 : Int32))] [(.int (0 : Int32)), (.int (1 : Int32))])
      refine own_go (fun t k => XS.iloadN X109.here hx rfl (hb hby d_prog_52_method_4_8) rfl k) ?_
      show Go _ _ _ _ _ T109 (mkF m 9 #[.val (.ref a1), .val (.int (0 : Int32)), .val (.int (4 : Int32)), .val (.int (0 : Int32)), .val (.int (1 : Int32))] [(.int (4 : Int32)), (.int (0 : Int32)), (.int (1 : Int32))])
      refine own_go (fun t k => XS.iadd X109.here hx rfl (hb hby d_prog_52_method_4_9) rfl k) ?_
      show Go _ _ _ _ _ T109 (mkF m 10 #[.val (.ref a1), .val (.int (0 : Int32)), .val (.int (4 : Int32)), .val (.int (0 : Int32)), .val (.int (1 : Int32))] [(.int (4 : Int32)), (.int (1 : Int32))])
      refine own_go (fun t k => XS.icmpNo X109.here hx rfl (hb hby d_prog_52_method_4_10) rfl (by decide) k) ?_
      show Go _ _ _ _ _ T109 (mkF m 13 #[.val (.ref a1), .val (.int (0 : Int32)), .val (.int (4 : Int32)), .val (.int (0 : Int32)), .val (.int (1 : Int32))] [])
      refine own_go (fun t k => XS.iloadN X109.here hx rfl (hb hby d_prog_52_method_4_13) rfl k) ?_
      show Go _ _ _ _ _ T109 (mkF m 14 #[.val (.ref a1), .val (.int (0 : Int32)), .val (.int (4 : Int32)), .val (.int (0 : Int32)), .val (.int (1 : Int32))] [(.int (0 : Int32))])
      refine own_go (fun t k => XS.ifYes X109.here hx rfl (pc0 := 14) (pc' := 43) rfl (hb hby d_prog_52_method_4_14) rfl (by decide) (by decide) (by decide) k) ?_
      show Go _ _ _ _ _ T109 (mkF m 43 #[.val (.ref a1), .val (.int (0 : Int32)), .val (.int (4 : Int32)), .val (.int (0 : Int32)), .val (.int (1 : Int32))] [])
      refine own_go (fun t k => XS.iloadN X109.here hx rfl (hb hby d_prog_52_method_4_43) rfl k) ?_
      show Go _ _ _ _ _ T109 (mkF m 44 #[.val (.ref a1), .val (.int (0 : Int32)), .val (.int (4 : Int32)), .val (.int (0 : Int32)), .val (.int (1 : Int32))] [(.int (0 : Int32))])
      refine own_retN X109 hx (own_lvN X109 hlk (by decide) (by decide)) (t := .boolean) hret (by simp) (hb hby d_prog_52_method_4_44) ?_
      have i0 : own_in (0 : Int32) (0 : Int32) (4 : Int32) = 1 := by decide
      have i1 : own_in (1 : Int32) (0 : Int32) (4 : Int32) = 1 := by decide
      have i2 : own_in (2 : Int32) (0 : Int32) (4 : Int32) = 1 := by decide
      have i3 : own_in (3 : Int32) (0 : Int32) (4 : Int32) = 1 := by decide
      have e : own_free t0 t1 t2 t3 cnt (0 : Int32) (4 : Int32) = (0 : Int32) := by simp [own_free, own_okp, i0, i1, i2, i3, hc110]
      exact ⟨(by rw [← hr, e]; try rfl), N0, e109⟩
    · skip
      show Go _ _ _ _ _ T109 (mkF m 31 #[.val (.ref a1), .val (.int (0 : Int32)), .val (.int (4 : Int32)), .val (.int (1 : Int32)), .val (.int (0 : Int32))] [])
      refine own_go (fun t k => XS.iconst X109.here hx rfl (hb hby d_prog_52_method_4_31) k) ?_
      show Go _ _ _ _ _ T109 (mkF m 32 #[.val (.ref a1), .val (.int (0 : Int32)), .val (.int (4 : Int32)), .val (.int (1 : Int32)), .val (.int (0 : Int32))] [(.int (1 : Int32))])
      refine own_go (fun t k => XS.goto X109.here hx rfl (pc0 := 32) (pc' := 36) rfl (hb hby d_prog_52_method_4_32) (by decide) (by decide) k) ?_
      show Go _ _ _ _ _ T109 (mkF m 36 #[.val (.ref a1), .val (.int (0 : Int32)), .val (.int (4 : Int32)), .val (.int (1 : Int32)), .val (.int (0 : Int32))] [(.int (1 : Int32))])
      refine own_go (fun t k => XS.istoreN X109.here hx rfl (hb hby d_prog_52_method_4_36) rfl (l' := #[.val (.ref a1), .val (.int (0 : Int32)), .val (.int (4 : Int32)), .val (.int (1 : Int32)), .val (.int (0 : Int32))]) rfl k) ?_
      show Go _ _ _ _ _ T109 (mkF m 37 #[.val (.ref a1), .val (.int (0 : Int32)), .val (.int (4 : Int32)), .val (.int (1 : Int32)), .val (.int (0 : Int32))] [])
      refine own_go (fun t k => XS.iinc X109.here hx rfl (hb hby d_prog_52_method_4_37) rfl (l' := #[.val (.ref a1), .val (.int (0 : Int32)), .val (.int (4 : Int32)), .val (.int (1 : Int32)), .val (.int (1 : Int32))]) rfl k) ?_
      show Go _ _ _ _ _ T109 (mkF m 40 #[.val (.ref a1), .val (.int (0 : Int32)), .val (.int (4 : Int32)), .val (.int (1 : Int32)), .val (.int (1 : Int32))] [])
      refine own_go (fun t k => XS.goto X109.here hx rfl (pc0 := 40) (pc' := 5) rfl (hb hby d_prog_52_method_4_40) (by decide) (by decide) k) ?_
      show Go _ _ _ _ _ T109 (mkF m 5 #[.val (.ref a1), .val (.int (0 : Int32)), .val (.int (4 : Int32)), .val (.int (1 : Int32)), .val (.int (1 : Int32))] [])
      refine own_go (fun t k => XS.iload X109.here hx rfl (hb hby d_prog_52_method_4_5) rfl k) ?_
      show Go _ _ _ _ _ T109 (mkF m 7 #[.val (.ref a1), .val (.int (0 : Int32)), .val (.int (4 : Int32)), .val (.int (1 : Int32)), .val (.int (1 : Int32))] [(.int (1 : Int32))])
      refine own_go (fun t k => XS.iloadN X109.here hx rfl (hb hby d_prog_52_method_4_7) rfl k) ?_
      show Go _ _ _ _ _ T109 (mkF m 8 #[.val (.ref a1), .val (.int (0 : Int32)), .val (.int (4 : Int32)), .val (.int (1 : Int32)), .val (.int (1 : Int32))] [(.int (0 : Int32)), (.int (1 : Int32))])
      refine own_go (fun t k => XS.iloadN X109.here hx rfl (hb hby d_prog_52_method_4_8) rfl k) ?_
      show Go _ _ _ _ _ T109 (mkF m 9 #[.val (.ref a1), .val (.int (0 : Int32)), .val (.int (4 : Int32)), .val (.int (1 : Int32)), .val (.int (1 : Int32))] [(.int (4 : Int32)), (.int (0 : Int32)), (.int (1 : Int32))])
      refine own_go (fun t k => XS.iadd X109.here hx rfl (hb hby d_prog_52_method_4_9) rfl k) ?_
      show Go _ _ _ _ _ T109 (mkF m 10 #[.val (.ref a1), .val (.int (0 : Int32)), .val (.int (4 : Int32)), .val (.int (1 : Int32)), .val (.int (1 : Int32))] [(.int (4 : Int32)), (.int (1 : Int32))])
      refine own_go (fun t k => XS.icmpNo X109.here hx rfl (hb hby d_prog_52_method_4_10) rfl (by decide) k) ?_
      show Go _ _ _ _ _ T109 (mkF m 13 #[.val (.ref a1), .val (.int (0 : Int32)), .val (.int (4 : Int32)), .val (.int (1 : Int32)), .val (.int (1 : Int32))] [])
      refine own_go (fun t k => XS.iloadN X109.here hx rfl (hb hby d_prog_52_method_4_13) rfl k) ?_
      show Go _ _ _ _ _ T109 (mkF m 14 #[.val (.ref a1), .val (.int (0 : Int32)), .val (.int (4 : Int32)), .val (.int (1 : Int32)), .val (.int (1 : Int32))] [(.int (1 : Int32))])
      refine own_go (fun t k => XS.ifNo X109.here hx rfl (hb hby d_prog_52_method_4_14) rfl (by decide) k) ?_
      show Go _ _ _ _ _ T109 (mkF m 17 #[.val (.ref a1), .val (.int (0 : Int32)), .val (.int (4 : Int32)), .val (.int (1 : Int32)), .val (.int (1 : Int32))] [])
      refine own_go (fun t k => XS.aloadN X109.here hx rfl (hb hby d_prog_52_method_4_17) rfl rfl k) ?_
      show Go _ _ _ _ _ T109 (mkF m 18 #[.val (.ref a1), .val (.int (0 : Int32)), .val (.int (4 : Int32)), .val (.int (1 : Int32)), .val (.int (1 : Int32))] [(.ref a1)])
      obtain ⟨T111, X111, e111, st111⟩ := getF X109 hx hZ hown (host := "") (Or.inl (hw _ (List.mem_of_getElem? (i := 19) rfl))) Via.refl e109 F_t (g := (mkF m 18 #[.val (.ref a1), .val (.int (0 : Int32)), .val (.int (4 : Int32)), .val (.int (1 : Int32)), .val (.int (1 : Int32))] [(.ref a1)])) rfl rfl (hb hby d_prog_52_method_4_18)
      refine own_go (fun t k => st111 t k) ?_
      show Go _ _ _ _ _ T111 (mkF m 21 #[.val (.ref a1), .val (.int (0 : Int32)), .val (.int (4 : Int32)), .val (.int (1 : Int32)), .val (.int (1 : Int32))] [(.ref b)])
      refine own_go (fun t k => XS.iload X111.here hx rfl (hb hby d_prog_52_method_4_21) rfl k) ?_
      show Go _ _ _ _ _ T111 (mkF m 23 #[.val (.ref a1), .val (.int (0 : Int32)), .val (.int (4 : Int32)), .val (.int (1 : Int32)), .val (.int (1 : Int32))] [(.int (1 : Int32)), (.ref b)])
      obtain ⟨cl112, Ar112, q112, S112, N112z, H112, G112⟩ := id V_b
      have hin112 := inb_of S112 (j := (1 : Int32)) (z := (4 : Int32)) ⟨by decide, by decide⟩
      have hat112 : cl112.slots[((1 : Int32)).toNatClampNeg]? = some (.int t1) := H112 _ (Nat.lt_of_not_le fun q => hin112 (Or.inr q))
      refine own_go (fun t k => X111.iaload hx (j := (1 : Int32)) (v := (.int t1)) (by rw [e111]; exact Ar112.1) (State.isArrayOf_alike hZ.alike Ar112.2.1) Ar112.2.2 hin112 hat112 (g := (mkF m 23 #[.val (.ref a1), .val (.int (0 : Int32)), .val (.int (4 : Int32)), .val (.int (1 : Int32)), .val (.int (1 : Int32))] [(.int (1 : Int32)), (.ref b)])) rfl rfl (hb hby d_prog_52_method_4_23) _ k) ?_
      show Go _ _ _ _ _ T111 (mkF m 24 #[.val (.ref a1), .val (.int (0 : Int32)), .val (.int (4 : Int32)), .val (.int (1 : Int32)), .val (.int (1 : Int32))] [(.int t1)])
      refine own_go (fun t k => XS.aloadN X111.here hx rfl (hb hby d_prog_52_method_4_24) rfl rfl k) ?_
      show Go _ _ _ _ _ T111 (mkF m 25 #[.val (.ref a1), .val (.int (0 : Int32)), .val (.int (4 : Int32)), .val (.int (1 : Int32)), .val (.int (1 : Int32))] [(.ref a1), (.int t1)])
      obtain ⟨T113, X113, e113, st113⟩ := getF X111 hx hZ hown (host := "") (Or.inl (hw _ (List.mem_of_getElem? (i := 16) rfl))) Via.refl e111 F_c (g := (mkF m 25 #[.val (.ref a1), .val (.int (0 : Int32)), .val (.int (4 : Int32)), .val (.int (1 : Int32)), .val (.int (1 : Int32))] [(.ref a1), (.int t1)])) rfl rfl (hb hby d_prog_52_method_4_25)
      refine own_go (fun t k => st113 t k) ?_
      show Go _ _ _ _ _ T113 (mkF m 28 #[.val (.ref a1), .val (.int (0 : Int32)), .val (.int (4 : Int32)), .val (.int (1 : Int32)), .val (.int (1 : Int32))] [(.int cnt), (.int t1)])
      refine own_icmpM (t1 < cnt) X113 hx (hb hby d_prog_52_method_4_28) (own_ge _ _) (by decide) (by decide) (pc' := 35) (fun hc114 => ?_) (fun hc114 => ?_)
      · skip
        show Go _ _ _ _ _ T113 (mkF m 35 #[.val (.ref a1), .val (.int (0 : Int32)), .val (.int (4 : Int32)), .val (.int (1 : Int32)), .val (.int (1 : Int32))] [])
        refine own_go (fun t k => XS.iconst X113.here hx rfl (hb hby d_prog_52_method_4_35) k) ?_
        show Go _ _ _ _ _ T113 (mkF m 36 #[.val (.ref a1), .val (.int (0 : Int32)), .val (.int (4 : Int32)), .val (.int (1 : Int32)), .val (.int (1 : Int32))] [(.int (0 : Int32))])
        refine own_go (fun t k => XS.istoreN X113.here hx rfl (hb hby d_prog_52_method_4_36) rfl (l' := #[.val (.ref a1), .val (.int (0 : Int32)), .val (.int (4 : Int32)), .val (.int (0 : Int32)), .val (.int (1 : Int32))]) rfl k) ?_
        show Go _ _ _ _ _ T113 (mkF m 37 #[.val (.ref a1), .val (.int (0 : Int32)), .val (.int (4 : Int32)), .val (.int (0 : Int32)), .val (.int (1 : Int32))] [])
        refine own_go (fun t k => XS.iinc X113.here hx rfl (hb hby d_prog_52_method_4_37) rfl (l' := #[.val (.ref a1), .val (.int (0 : Int32)), .val (.int (4 : Int32)), .val (.int (0 : Int32)), .val (.int (2 : Int32))]) rfl k) ?_
        show Go _ _ _ _ _ T113 (mkF m 40 #[.val (.ref a1), .val (.int (0 : Int32)), .val (.int (4 : Int32)), .val (.int (0 : Int32)), .val (.int (2 : Int32))] [])
        refine own_go (fun t k => XS.goto X113.here hx rfl (pc0 := 40) (pc' := 5) rfl (hb hby d_prog_52_method_4_40) (by decide) (by decide) k) ?_
        show Go _ _ _ _ _ T113 (mkF m 5 #[.val (.ref a1), .val (.int (0 : Int32)), .val (.int (4 : Int32)), .val (.int (0 : Int32)), .val (.int (2 : Int32))] [])
        refine own_go (fun t k => XS.iload X113.here hx rfl (hb hby d_prog_52_method_4_5) rfl k) ?_
        show Go _ _ _ _ _ T113 (mkF m 7 #[.val (.ref a1), .val (.int (0 : Int32)), .val (.int (4 : Int32)), .val (.int (0 : Int32)), .val (.int (2 : Int32))] [(.int (2 : Int32))])
        refine own_go (fun t k => XS.iloadN X113.here hx rfl (hb hby d_prog_52_method_4_7) rfl k) ?_
        show Go _ _ _ _ _ T113 (mkF m 8 #[.val (.ref a1), .val (.int (0 : Int32)), .val (.int (4 : Int32)), .val (.int (0 : Int32)), .val (.int (2 : Int32))] [(.int (0 : Int32)), (.int (2 : Int32))])
        refine own_go (fun t k => XS.iloadN X113.here hx rfl (hb hby d_prog_52_method_4_8) rfl k) ?_
        show Go _ _ _ _ _ T113 (mkF m 9 #[.val (.ref a1), .val (.int (0 : Int32)), .val (.int (4 : Int32)), .val (.int (0 : Int32)), .val (.int (2 : Int32))] [(.int (4 : Int32)), (.int (0 : Int32)), (.int (2 : Int32))])
        refine own_go (fun t k => XS.iadd X113.here hx rfl (hb hby d_prog_52_method_4_9) rfl k) ?_
        show Go _ _ _ _ _ T113 (mkF m 10 #[.val (.ref a1), .val (.int (0 : Int32)), .val (.int (4 : Int32)), .val (.int (0 : Int32)), .val (.int (2 : Int32))] [(.int (4 : Int32)), (.int (2 : Int32))])
        refine own_go (fun t k => XS.icmpNo X113.here hx rfl (hb hby d_prog_52_method_4_10) rfl (by decide) k) ?_
        show Go _ _ _ _ _ T113 (mkF m 13 #[.val (.ref a1), .val (.int (0 : Int32)), .val (.int (4 : Int32)), .val (.int (0 : Int32)), .val (.int (2 : Int32))] [])
        refine own_go (fun t k => XS.iloadN X113.here hx rfl (hb hby d_prog_52_method_4_13) rfl k) ?_
        show Go _ _ _ _ _ T113 (mkF m 14 #[.val (.ref a1), .val (.int (0 : Int32)), .val (.int (4 : Int32)), .val (.int (0 : Int32)), .val (.int (2 : Int32))] [(.int (0 : Int32))])
        refine own_go (fun t k => XS.ifYes X113.here hx rfl (pc0 := 14) (pc' := 43) rfl (hb hby d_prog_52_method_4_14) rfl (by decide) (by decide) (by decide) k) ?_
        show Go _ _ _ _ _ T113 (mkF m 43 #[.val (.ref a1), .val (.int (0 : Int32)), .val (.int (4 : Int32)), .val (.int (0 : Int32)), .val (.int (2 : Int32))] [])
        refine own_go (fun t k => XS.iloadN X113.here hx rfl (hb hby d_prog_52_method_4_43) rfl k) ?_
        show Go _ _ _ _ _ T113 (mkF m 44 #[.val (.ref a1), .val (.int (0 : Int32)), .val (.int (4 : Int32)), .val (.int (0 : Int32)), .val (.int (2 : Int32))] [(.int (0 : Int32))])
        refine own_retN X113 hx (own_lvN X113 hlk (by decide) (by decide)) (t := .boolean) hret (by simp) (hb hby d_prog_52_method_4_44) ?_
        have i0 : own_in (0 : Int32) (0 : Int32) (4 : Int32) = 1 := by decide
        have i1 : own_in (1 : Int32) (0 : Int32) (4 : Int32) = 1 := by decide
        have i2 : own_in (2 : Int32) (0 : Int32) (4 : Int32) = 1 := by decide
        have i3 : own_in (3 : Int32) (0 : Int32) (4 : Int32) = 1 := by decide
        have e : own_free t0 t1 t2 t3 cnt (0 : Int32) (4 : Int32) = (0 : Int32) := by simp [own_free, own_okp, i0, i1, i2, i3, hc110, hc114]
        exact ⟨(by rw [← hr, e]; try rfl), N0, e113⟩
      · skip
        show Go _ _ _ _ _ T113 (mkF m 31 #[.val (.ref a1), .val (.int (0 : Int32)), .val (.int (4 : Int32)), .val (.int (1 : Int32)), .val (.int (1 : Int32))] [])
        refine own_go (fun t k => XS.iconst X113.here hx rfl (hb hby d_prog_52_method_4_31) k) ?_
        show Go _ _ _ _ _ T113 (mkF m 32 #[.val (.ref a1), .val (.int (0 : Int32)), .val (.int (4 : Int32)), .val (.int (1 : Int32)), .val (.int (1 : Int32))] [(.int (1 : Int32))])
        refine own_go (fun t k => XS.goto X113.here hx rfl (pc0 := 32) (pc' := 36) rfl (hb hby d_prog_52_method_4_32) (by decide) (by decide) k) ?_
        show Go _ _ _ _ _ T113 (mkF m 36 #[.val (.ref a1), .val (.int (0 : Int32)), .val (.int (4 : Int32)), .val (.int (1 : Int32)), .val (.int (1 : Int32))] [(.int (1 : Int32))])
        refine own_go (fun t k => XS.istoreN X113.here hx rfl (hb hby d_prog_52_method_4_36) rfl (l' := #[.val (.ref a1), .val (.int (0 : Int32)), .val (.int (4 : Int32)), .val (.int (1 : Int32)), .val (.int (1 : Int32))]) rfl k) ?_
        show Go _ _ _ _ _ T113 (mkF m 37 #[.val (.ref a1), .val (.int (0 : Int32)), .val (.int (4 : Int32)), .val (.int (1 : Int32)), .val (.int (1 : Int32))] [])
        refine own_go (fun t k => XS.iinc X113.here hx rfl (hb hby d_prog_52_method_4_37) rfl (l' := #[.val (.ref a1), .val (.int (0 : Int32)), .val (.int (4 : Int32)), .val (.int (1 : Int32)), .val (.int (2 : Int32))]) rfl k) ?_
        show Go _ _ _ _ _ T113 (mkF m 40 #[.val (.ref a1), .val (.int (0 : Int32)), .val (.int (4 : Int32)), .val (.int (1 : Int32)), .val (.int (2 : Int32))] [])
        refine own_go (fun t k => XS.goto X113.here hx rfl (pc0 := 40) (pc' := 5) rfl (hb hby d_prog_52_method_4_40) (by decide) (by decide) k) ?_
        show Go _ _ _ _ _ T113 (mkF m 5 #[.val (.ref a1), .val (.int (0 : Int32)), .val (.int (4 : Int32)), .val (.int (1 : Int32)), .val (.int (2 : Int32))] [])
        refine own_go (fun t k => XS.iload X113.here hx rfl (hb hby d_prog_52_method_4_5) rfl k) ?_
        show Go _ _ _ _ _ T113 (mkF m 7 #[.val (.ref a1), .val (.int (0 : Int32)), .val (.int (4 : Int32)), .val (.int (1 : Int32)), .val (.int (2 : Int32))] [(.int (2 : Int32))])
        refine own_go (fun t k => XS.iloadN X113.here hx rfl (hb hby d_prog_52_method_4_7) rfl k) ?_
        show Go _ _ _ _ _ T113 (mkF m 8 #[.val (.ref a1), .val (.int (0 : Int32)), .val (.int (4 : Int32)), .val (.int (1 : Int32)), .val (.int (2 : Int32))] [(.int (0 : Int32)), (.int (2 : Int32))])
        refine own_go (fun t k => XS.iloadN X113.here hx rfl (hb hby d_prog_52_method_4_8) rfl k) ?_
        show Go _ _ _ _ _ T113 (mkF m 9 #[.val (.ref a1), .val (.int (0 : Int32)), .val (.int (4 : Int32)), .val (.int (1 : Int32)), .val (.int (2 : Int32))] [(.int (4 : Int32)), (.int (0 : Int32)), (.int (2 : Int32))])
        refine own_go (fun t k => XS.iadd X113.here hx rfl (hb hby d_prog_52_method_4_9) rfl k) ?_
        show Go _ _ _ _ _ T113 (mkF m 10 #[.val (.ref a1), .val (.int (0 : Int32)), .val (.int (4 : Int32)), .val (.int (1 : Int32)), .val (.int (2 : Int32))] [(.int (4 : Int32)), (.int (2 : Int32))])
        refine own_go (fun t k => XS.icmpNo X113.here hx rfl (hb hby d_prog_52_method_4_10) rfl (by decide) k) ?_
        show Go _ _ _ _ _ T113 (mkF m 13 #[.val (.ref a1), .val (.int (0 : Int32)), .val (.int (4 : Int32)), .val (.int (1 : Int32)), .val (.int (2 : Int32))] [])
        refine own_go (fun t k => XS.iloadN X113.here hx rfl (hb hby d_prog_52_method_4_13) rfl k) ?_
        show Go _ _ _ _ _ T113 (mkF m 14 #[.val (.ref a1), .val (.int (0 : Int32)), .val (.int (4 : Int32)), .val (.int (1 : Int32)), .val (.int (2 : Int32))] [(.int (1 : Int32))])
        refine own_go (fun t k => XS.ifNo X113.here hx rfl (hb hby d_prog_52_method_4_14) rfl (by decide) k) ?_
        show Go _ _ _ _ _ T113 (mkF m 17 #[.val (.ref a1), .val (.int (0 : Int32)), .val (.int (4 : Int32)), .val (.int (1 : Int32)), .val (.int (2 : Int32))] [])
        refine own_go (fun t k => XS.aloadN X113.here hx rfl (hb hby d_prog_52_method_4_17) rfl rfl k) ?_
        show Go _ _ _ _ _ T113 (mkF m 18 #[.val (.ref a1), .val (.int (0 : Int32)), .val (.int (4 : Int32)), .val (.int (1 : Int32)), .val (.int (2 : Int32))] [(.ref a1)])
        obtain ⟨T115, X115, e115, st115⟩ := getF X113 hx hZ hown (host := "") (Or.inl (hw _ (List.mem_of_getElem? (i := 19) rfl))) Via.refl e113 F_t (g := (mkF m 18 #[.val (.ref a1), .val (.int (0 : Int32)), .val (.int (4 : Int32)), .val (.int (1 : Int32)), .val (.int (2 : Int32))] [(.ref a1)])) rfl rfl (hb hby d_prog_52_method_4_18)
        refine own_go (fun t k => st115 t k) ?_
        show Go _ _ _ _ _ T115 (mkF m 21 #[.val (.ref a1), .val (.int (0 : Int32)), .val (.int (4 : Int32)), .val (.int (1 : Int32)), .val (.int (2 : Int32))] [(.ref b)])
        refine own_go (fun t k => XS.iload X115.here hx rfl (hb hby d_prog_52_method_4_21) rfl k) ?_
        show Go _ _ _ _ _ T115 (mkF m 23 #[.val (.ref a1), .val (.int (0 : Int32)), .val (.int (4 : Int32)), .val (.int (1 : Int32)), .val (.int (2 : Int32))] [(.int (2 : Int32)), (.ref b)])
        obtain ⟨cl116, Ar116, q116, S116, N116z, H116, G116⟩ := id V_b
        have hin116 := inb_of S116 (j := (2 : Int32)) (z := (4 : Int32)) ⟨by decide, by decide⟩
        have hat116 : cl116.slots[((2 : Int32)).toNatClampNeg]? = some (.int t2) := H116 _ (Nat.lt_of_not_le fun q => hin116 (Or.inr q))
        refine own_go (fun t k => X115.iaload hx (j := (2 : Int32)) (v := (.int t2)) (by rw [e115]; exact Ar116.1) (State.isArrayOf_alike hZ.alike Ar116.2.1) Ar116.2.2 hin116 hat116 (g := (mkF m 23 #[.val (.ref a1), .val (.int (0 : Int32)), .val (.int (4 : Int32)), .val (.int (1 : Int32)), .val (.int (2 : Int32))] [(.int (2 : Int32)), (.ref b)])) rfl rfl (hb hby d_prog_52_method_4_23) _ k) ?_
        show Go _ _ _ _ _ T115 (mkF m 24 #[.val (.ref a1), .val (.int (0 : Int32)), .val (.int (4 : Int32)), .val (.int (1 : Int32)), .val (.int (2 : Int32))] [(.int t2)])
        refine own_go (fun t k => XS.aloadN X115.here hx rfl (hb hby d_prog_52_method_4_24) rfl rfl k) ?_
        show Go _ _ _ _ _ T115 (mkF m 25 #[.val (.ref a1), .val (.int (0 : Int32)), .val (.int (4 : Int32)), .val (.int (1 : Int32)), .val (.int (2 : Int32))] [(.ref a1), (.int t2)])
        obtain ⟨T117, X117, e117, st117⟩ := getF X115 hx hZ hown (host := "") (Or.inl (hw _ (List.mem_of_getElem? (i := 16) rfl))) Via.refl e115 F_c (g := (mkF m 25 #[.val (.ref a1), .val (.int (0 : Int32)), .val (.int (4 : Int32)), .val (.int (1 : Int32)), .val (.int (2 : Int32))] [(.ref a1), (.int t2)])) rfl rfl (hb hby d_prog_52_method_4_25)
        refine own_go (fun t k => st117 t k) ?_
        show Go _ _ _ _ _ T117 (mkF m 28 #[.val (.ref a1), .val (.int (0 : Int32)), .val (.int (4 : Int32)), .val (.int (1 : Int32)), .val (.int (2 : Int32))] [(.int cnt), (.int t2)])
        refine own_icmpM (t2 < cnt) X117 hx (hb hby d_prog_52_method_4_28) (own_ge _ _) (by decide) (by decide) (pc' := 35) (fun hc118 => ?_) (fun hc118 => ?_)
        · skip
          show Go _ _ _ _ _ T117 (mkF m 35 #[.val (.ref a1), .val (.int (0 : Int32)), .val (.int (4 : Int32)), .val (.int (1 : Int32)), .val (.int (2 : Int32))] [])
          refine own_go (fun t k => XS.iconst X117.here hx rfl (hb hby d_prog_52_method_4_35) k) ?_
          show Go _ _ _ _ _ T117 (mkF m 36 #[.val (.ref a1), .val (.int (0 : Int32)), .val (.int (4 : Int32)), .val (.int (1 : Int32)), .val (.int (2 : Int32))] [(.int (0 : Int32))])
          refine own_go (fun t k => XS.istoreN X117.here hx rfl (hb hby d_prog_52_method_4_36) rfl (l' := #[.val (.ref a1), .val (.int (0 : Int32)), .val (.int (4 : Int32)), .val (.int (0 : Int32)), .val (.int (2 : Int32))]) rfl k) ?_
          show Go _ _ _ _ _ T117 (mkF m 37 #[.val (.ref a1), .val (.int (0 : Int32)), .val (.int (4 : Int32)), .val (.int (0 : Int32)), .val (.int (2 : Int32))] [])
          refine own_go (fun t k => XS.iinc X117.here hx rfl (hb hby d_prog_52_method_4_37) rfl (l' := #[.val (.ref a1), .val (.int (0 : Int32)), .val (.int (4 : Int32)), .val (.int (0 : Int32)), .val (.int (3 : Int32))]) rfl k) ?_
          show Go _ _ _ _ _ T117 (mkF m 40 #[.val (.ref a1), .val (.int (0 : Int32)), .val (.int (4 : Int32)), .val (.int (0 : Int32)), .val (.int (3 : Int32))] [])
          refine own_go (fun t k => XS.goto X117.here hx rfl (pc0 := 40) (pc' := 5) rfl (hb hby d_prog_52_method_4_40) (by decide) (by decide) k) ?_
          show Go _ _ _ _ _ T117 (mkF m 5 #[.val (.ref a1), .val (.int (0 : Int32)), .val (.int (4 : Int32)), .val (.int (0 : Int32)), .val (.int (3 : Int32))] [])
          refine own_go (fun t k => XS.iload X117.here hx rfl (hb hby d_prog_52_method_4_5) rfl k) ?_
          show Go _ _ _ _ _ T117 (mkF m 7 #[.val (.ref a1), .val (.int (0 : Int32)), .val (.int (4 : Int32)), .val (.int (0 : Int32)), .val (.int (3 : Int32))] [(.int (3 : Int32))])
          refine own_go (fun t k => XS.iloadN X117.here hx rfl (hb hby d_prog_52_method_4_7) rfl k) ?_
          show Go _ _ _ _ _ T117 (mkF m 8 #[.val (.ref a1), .val (.int (0 : Int32)), .val (.int (4 : Int32)), .val (.int (0 : Int32)), .val (.int (3 : Int32))] [(.int (0 : Int32)), (.int (3 : Int32))])
          refine own_go (fun t k => XS.iloadN X117.here hx rfl (hb hby d_prog_52_method_4_8) rfl k) ?_
          show Go _ _ _ _ _ T117 (mkF m 9 #[.val (.ref a1), .val (.int (0 : Int32)), .val (.int (4 : Int32)), .val (.int (0 : Int32)), .val (.int (3 : Int32))] [(.int (4 : Int32)), (.int (0 : Int32)), (.int (3 : Int32))])
          refine own_go (fun t k => XS.iadd X117.here hx rfl (hb hby d_prog_52_method_4_9) rfl k) ?_
          show Go _ _ _ _ _ T117 (mkF m 10 #[.val (.ref a1), .val (.int (0 : Int32)), .val (.int (4 : Int32)), .val (.int (0 : Int32)), .val (.int (3 : Int32))] [(.int (4 : Int32)), (.int (3 : Int32))])
          refine own_go (fun t k => XS.icmpNo X117.here hx rfl (hb hby d_prog_52_method_4_10) rfl (by decide) k) ?_
          show Go _ _ _ _ _ T117 (mkF m 13 #[.val (.ref a1), .val (.int (0 : Int32)), .val (.int (4 : Int32)), .val (.int (0 : Int32)), .val (.int (3 : Int32))] [])
          refine own_go (fun t k => XS.iloadN X117.here hx rfl (hb hby d_prog_52_method_4_13) rfl k) ?_
          show Go _ _ _ _ _ T117 (mkF m 14 #[.val (.ref a1), .val (.int (0 : Int32)), .val (.int (4 : Int32)), .val (.int (0 : Int32)), .val (.int (3 : Int32))] [(.int (0 : Int32))])
          refine own_go (fun t k => XS.ifYes X117.here hx rfl (pc0 := 14) (pc' := 43) rfl (hb hby d_prog_52_method_4_14) rfl (by decide) (by decide) (by decide) k) ?_
          show Go _ _ _ _ _ T117 (mkF m 43 #[.val (.ref a1), .val (.int (0 : Int32)), .val (.int (4 : Int32)), .val (.int (0 : Int32)), .val (.int (3 : Int32))] [])
          refine own_go (fun t k => XS.iloadN X117.here hx rfl (hb hby d_prog_52_method_4_43) rfl k) ?_
          show Go _ _ _ _ _ T117 (mkF m 44 #[.val (.ref a1), .val (.int (0 : Int32)), .val (.int (4 : Int32)), .val (.int (0 : Int32)), .val (.int (3 : Int32))] [(.int (0 : Int32))])
          refine own_retN X117 hx (own_lvN X117 hlk (by decide) (by decide)) (t := .boolean) hret (by simp) (hb hby d_prog_52_method_4_44) ?_
          have i0 : own_in (0 : Int32) (0 : Int32) (4 : Int32) = 1 := by decide
          have i1 : own_in (1 : Int32) (0 : Int32) (4 : Int32) = 1 := by decide
          have i2 : own_in (2 : Int32) (0 : Int32) (4 : Int32) = 1 := by decide
          have i3 : own_in (3 : Int32) (0 : Int32) (4 : Int32) = 1 := by decide
          have e : own_free t0 t1 t2 t3 cnt (0 : Int32) (4 : Int32) = (0 : Int32) := by simp [own_free, own_okp, i0, i1, i2, i3, hc110, hc114, hc118]
          exact ⟨(by rw [← hr, e]; try rfl), N0, e117⟩
        · skip
          show Go _ _ _ _ _ T117 (mkF m 31 #[.val (.ref a1), .val (.int (0 : Int32)), .val (.int (4 : Int32)), .val (.int (1 : Int32)), .val (.int (2 : Int32))] [])
          refine own_go (fun t k => XS.iconst X117.here hx rfl (hb hby d_prog_52_method_4_31) k) ?_
          show Go _ _ _ _ _ T117 (mkF m 32 #[.val (.ref a1), .val (.int (0 : Int32)), .val (.int (4 : Int32)), .val (.int (1 : Int32)), .val (.int (2 : Int32))] [(.int (1 : Int32))])
          refine own_go (fun t k => XS.goto X117.here hx rfl (pc0 := 32) (pc' := 36) rfl (hb hby d_prog_52_method_4_32) (by decide) (by decide) k) ?_
          show Go _ _ _ _ _ T117 (mkF m 36 #[.val (.ref a1), .val (.int (0 : Int32)), .val (.int (4 : Int32)), .val (.int (1 : Int32)), .val (.int (2 : Int32))] [(.int (1 : Int32))])
          refine own_go (fun t k => XS.istoreN X117.here hx rfl (hb hby d_prog_52_method_4_36) rfl (l' := #[.val (.ref a1), .val (.int (0 : Int32)), .val (.int (4 : Int32)), .val (.int (1 : Int32)), .val (.int (2 : Int32))]) rfl k) ?_
          show Go _ _ _ _ _ T117 (mkF m 37 #[.val (.ref a1), .val (.int (0 : Int32)), .val (.int (4 : Int32)), .val (.int (1 : Int32)), .val (.int (2 : Int32))] [])
          refine own_go (fun t k => XS.iinc X117.here hx rfl (hb hby d_prog_52_method_4_37) rfl (l' := #[.val (.ref a1), .val (.int (0 : Int32)), .val (.int (4 : Int32)), .val (.int (1 : Int32)), .val (.int (3 : Int32))]) rfl k) ?_
          show Go _ _ _ _ _ T117 (mkF m 40 #[.val (.ref a1), .val (.int (0 : Int32)), .val (.int (4 : Int32)), .val (.int (1 : Int32)), .val (.int (3 : Int32))] [])
          refine own_go (fun t k => XS.goto X117.here hx rfl (pc0 := 40) (pc' := 5) rfl (hb hby d_prog_52_method_4_40) (by decide) (by decide) k) ?_
          show Go _ _ _ _ _ T117 (mkF m 5 #[.val (.ref a1), .val (.int (0 : Int32)), .val (.int (4 : Int32)), .val (.int (1 : Int32)), .val (.int (3 : Int32))] [])
          refine own_go (fun t k => XS.iload X117.here hx rfl (hb hby d_prog_52_method_4_5) rfl k) ?_
          show Go _ _ _ _ _ T117 (mkF m 7 #[.val (.ref a1), .val (.int (0 : Int32)), .val (.int (4 : Int32)), .val (.int (1 : Int32)), .val (.int (3 : Int32))] [(.int (3 : Int32))])
          refine own_go (fun t k => XS.iloadN X117.here hx rfl (hb hby d_prog_52_method_4_7) rfl k) ?_
          show Go _ _ _ _ _ T117 (mkF m 8 #[.val (.ref a1), .val (.int (0 : Int32)), .val (.int (4 : Int32)), .val (.int (1 : Int32)), .val (.int (3 : Int32))] [(.int (0 : Int32)), (.int (3 : Int32))])
          refine own_go (fun t k => XS.iloadN X117.here hx rfl (hb hby d_prog_52_method_4_8) rfl k) ?_
          show Go _ _ _ _ _ T117 (mkF m 9 #[.val (.ref a1), .val (.int (0 : Int32)), .val (.int (4 : Int32)), .val (.int (1 : Int32)), .val (.int (3 : Int32))] [(.int (4 : Int32)), (.int (0 : Int32)), (.int (3 : Int32))])
          refine own_go (fun t k => XS.iadd X117.here hx rfl (hb hby d_prog_52_method_4_9) rfl k) ?_
          show Go _ _ _ _ _ T117 (mkF m 10 #[.val (.ref a1), .val (.int (0 : Int32)), .val (.int (4 : Int32)), .val (.int (1 : Int32)), .val (.int (3 : Int32))] [(.int (4 : Int32)), (.int (3 : Int32))])
          refine own_go (fun t k => XS.icmpNo X117.here hx rfl (hb hby d_prog_52_method_4_10) rfl (by decide) k) ?_
          show Go _ _ _ _ _ T117 (mkF m 13 #[.val (.ref a1), .val (.int (0 : Int32)), .val (.int (4 : Int32)), .val (.int (1 : Int32)), .val (.int (3 : Int32))] [])
          refine own_go (fun t k => XS.iloadN X117.here hx rfl (hb hby d_prog_52_method_4_13) rfl k) ?_
          show Go _ _ _ _ _ T117 (mkF m 14 #[.val (.ref a1), .val (.int (0 : Int32)), .val (.int (4 : Int32)), .val (.int (1 : Int32)), .val (.int (3 : Int32))] [(.int (1 : Int32))])
          refine own_go (fun t k => XS.ifNo X117.here hx rfl (hb hby d_prog_52_method_4_14) rfl (by decide) k) ?_
          show Go _ _ _ _ _ T117 (mkF m 17 #[.val (.ref a1), .val (.int (0 : Int32)), .val (.int (4 : Int32)), .val (.int (1 : Int32)), .val (.int (3 : Int32))] [])
          refine own_go (fun t k => XS.aloadN X117.here hx rfl (hb hby d_prog_52_method_4_17) rfl rfl k) ?_
          show Go _ _ _ _ _ T117 (mkF m 18 #[.val (.ref a1), .val (.int (0 : Int32)), .val (.int (4 : Int32)), .val (.int (1 : Int32)), .val (.int (3 : Int32))] [(.ref a1)])
          obtain ⟨T119, X119, e119, st119⟩ := getF X117 hx hZ hown (host := "") (Or.inl (hw _ (List.mem_of_getElem? (i := 19) rfl))) Via.refl e117 F_t (g := (mkF m 18 #[.val (.ref a1), .val (.int (0 : Int32)), .val (.int (4 : Int32)), .val (.int (1 : Int32)), .val (.int (3 : Int32))] [(.ref a1)])) rfl rfl (hb hby d_prog_52_method_4_18)
          refine own_go (fun t k => st119 t k) ?_
          show Go _ _ _ _ _ T119 (mkF m 21 #[.val (.ref a1), .val (.int (0 : Int32)), .val (.int (4 : Int32)), .val (.int (1 : Int32)), .val (.int (3 : Int32))] [(.ref b)])
          refine own_go (fun t k => XS.iload X119.here hx rfl (hb hby d_prog_52_method_4_21) rfl k) ?_
          show Go _ _ _ _ _ T119 (mkF m 23 #[.val (.ref a1), .val (.int (0 : Int32)), .val (.int (4 : Int32)), .val (.int (1 : Int32)), .val (.int (3 : Int32))] [(.int (3 : Int32)), (.ref b)])
          obtain ⟨cl120, Ar120, q120, S120, N120z, H120, G120⟩ := id V_b
          have hin120 := inb_of S120 (j := (3 : Int32)) (z := (4 : Int32)) ⟨by decide, by decide⟩
          have hat120 : cl120.slots[((3 : Int32)).toNatClampNeg]? = some (.int t3) := H120 _ (Nat.lt_of_not_le fun q => hin120 (Or.inr q))
          refine own_go (fun t k => X119.iaload hx (j := (3 : Int32)) (v := (.int t3)) (by rw [e119]; exact Ar120.1) (State.isArrayOf_alike hZ.alike Ar120.2.1) Ar120.2.2 hin120 hat120 (g := (mkF m 23 #[.val (.ref a1), .val (.int (0 : Int32)), .val (.int (4 : Int32)), .val (.int (1 : Int32)), .val (.int (3 : Int32))] [(.int (3 : Int32)), (.ref b)])) rfl rfl (hb hby d_prog_52_method_4_23) _ k) ?_
          show Go _ _ _ _ _ T119 (mkF m 24 #[.val (.ref a1), .val (.int (0 : Int32)), .val (.int (4 : Int32)), .val (.int (1 : Int32)), .val (.int (3 : Int32))] [(.int t3)])
          refine own_go (fun t k => XS.aloadN X119.here hx rfl (hb hby d_prog_52_method_4_24) rfl rfl k) ?_
          show Go _ _ _ _ _ T119 (mkF m 25 #[.val (.ref a1), .val (.int (0 : Int32)), .val (.int (4 : Int32)), .val (.int (1 : Int32)), .val (.int (3 : Int32))] [(.ref a1), (.int t3)])
          obtain ⟨T121, X121, e121, st121⟩ := getF X119 hx hZ hown (host := "") (Or.inl (hw _ (List.mem_of_getElem? (i := 16) rfl))) Via.refl e119 F_c (g := (mkF m 25 #[.val (.ref a1), .val (.int (0 : Int32)), .val (.int (4 : Int32)), .val (.int (1 : Int32)), .val (.int (3 : Int32))] [(.ref a1), (.int t3)])) rfl rfl (hb hby d_prog_52_method_4_25)
          refine own_go (fun t k => st121 t k) ?_
          show Go _ _ _ _ _ T121 (mkF m 28 #[.val (.ref a1), .val (.int (0 : Int32)), .val (.int (4 : Int32)), .val (.int (1 : Int32)), .val (.int (3 : Int32))] [(.int cnt), (.int t3)])
          refine own_icmpM (t3 < cnt) X121 hx (hb hby d_prog_52_method_4_28) (own_ge _ _) (by decide) (by decide) (pc' := 35) (fun hc122 => ?_) (fun hc122 => ?_)
          · skip
            show Go _ _ _ _ _ T121 (mkF m 35 #[.val (.ref a1), .val (.int (0 : Int32)), .val (.int (4 : Int32)), .val (.int (1 : Int32)), .val (.int (3 : Int32))] [])
            refine own_go (fun t k => XS.iconst X121.here hx rfl (hb hby d_prog_52_method_4_35) k) ?_
            show Go _ _ _ _ _ T121 (mkF m 36 #[.val (.ref a1), .val (.int (0 : Int32)), .val (.int (4 : Int32)), .val (.int (1 : Int32)), .val (.int (3 : Int32))] [(.int (0 : Int32))])
            refine own_go (fun t k => XS.istoreN X121.here hx rfl (hb hby d_prog_52_method_4_36) rfl (l' := #[.val (.ref a1), .val (.int (0 : Int32)), .val (.int (4 : Int32)), .val (.int (0 : Int32)), .val (.int (3 : Int32))]) rfl k) ?_
            show Go _ _ _ _ _ T121 (mkF m 37 #[.val (.ref a1), .val (.int (0 : Int32)), .val (.int (4 : Int32)), .val (.int (0 : Int32)), .val (.int (3 : Int32))] [])
            refine own_go (fun t k => XS.iinc X121.here hx rfl (hb hby d_prog_52_method_4_37) rfl (l' := #[.val (.ref a1), .val (.int (0 : Int32)), .val (.int (4 : Int32)), .val (.int (0 : Int32)), .val (.int (4 : Int32))]) rfl k) ?_
            show Go _ _ _ _ _ T121 (mkF m 40 #[.val (.ref a1), .val (.int (0 : Int32)), .val (.int (4 : Int32)), .val (.int (0 : Int32)), .val (.int (4 : Int32))] [])
            refine own_go (fun t k => XS.goto X121.here hx rfl (pc0 := 40) (pc' := 5) rfl (hb hby d_prog_52_method_4_40) (by decide) (by decide) k) ?_
            show Go _ _ _ _ _ T121 (mkF m 5 #[.val (.ref a1), .val (.int (0 : Int32)), .val (.int (4 : Int32)), .val (.int (0 : Int32)), .val (.int (4 : Int32))] [])
            refine own_go (fun t k => XS.iload X121.here hx rfl (hb hby d_prog_52_method_4_5) rfl k) ?_
            show Go _ _ _ _ _ T121 (mkF m 7 #[.val (.ref a1), .val (.int (0 : Int32)), .val (.int (4 : Int32)), .val (.int (0 : Int32)), .val (.int (4 : Int32))] [(.int (4 : Int32))])
            refine own_go (fun t k => XS.iloadN X121.here hx rfl (hb hby d_prog_52_method_4_7) rfl k) ?_
            show Go _ _ _ _ _ T121 (mkF m 8 #[.val (.ref a1), .val (.int (0 : Int32)), .val (.int (4 : Int32)), .val (.int (0 : Int32)), .val (.int (4 : Int32))] [(.int (0 : Int32)), (.int (4 : Int32))])
            refine own_go (fun t k => XS.iloadN X121.here hx rfl (hb hby d_prog_52_method_4_8) rfl k) ?_
            show Go _ _ _ _ _ T121 (mkF m 9 #[.val (.ref a1), .val (.int (0 : Int32)), .val (.int (4 : Int32)), .val (.int (0 : Int32)), .val (.int (4 : Int32))] [(.int (4 : Int32)), (.int (0 : Int32)), (.int (4 : Int32))])
            refine own_go (fun t k => XS.iadd X121.here hx rfl (hb hby d_prog_52_method_4_9) rfl k) ?_
            show Go _ _ _ _ _ T121 (mkF m 10 #[.val (.ref a1), .val (.int (0 : Int32)), .val (.int (4 : Int32)), .val (.int (0 : Int32)), .val (.int (4 : Int32))] [(.int (4 : Int32)), (.int (4 : Int32))])
            refine own_go (fun t k => XS.icmpYes X121.here hx rfl (pc0 := 10) (pc' := 43) rfl (hb hby d_prog_52_method_4_10) rfl (by decide) (by decide) (by decide) k) ?_
            show Go _ _ _ _ _ T121 (mkF m 43 #[.val (.ref a1), .val (.int (0 : Int32)), .val (.int (4 : Int32)), .val (.int (0 : Int32)), .val (.int (4 : Int32))] [])
            refine own_go (fun t k => XS.iloadN X121.here hx rfl (hb hby d_prog_52_method_4_43) rfl k) ?_
            show Go _ _ _ _ _ T121 (mkF m 44 #[.val (.ref a1), .val (.int (0 : Int32)), .val (.int (4 : Int32)), .val (.int (0 : Int32)), .val (.int (4 : Int32))] [(.int (0 : Int32))])
            refine own_retN X121 hx (own_lvN X121 hlk (by decide) (by decide)) (t := .boolean) hret (by simp) (hb hby d_prog_52_method_4_44) ?_
            have i0 : own_in (0 : Int32) (0 : Int32) (4 : Int32) = 1 := by decide
            have i1 : own_in (1 : Int32) (0 : Int32) (4 : Int32) = 1 := by decide
            have i2 : own_in (2 : Int32) (0 : Int32) (4 : Int32) = 1 := by decide
            have i3 : own_in (3 : Int32) (0 : Int32) (4 : Int32) = 1 := by decide
            have e : own_free t0 t1 t2 t3 cnt (0 : Int32) (4 : Int32) = (0 : Int32) := by simp [own_free, own_okp, i0, i1, i2, i3, hc110, hc114, hc118, hc122]
            exact ⟨(by rw [← hr, e]; try rfl), N0, e121⟩
          · skip
            show Go _ _ _ _ _ T121 (mkF m 31 #[.val (.ref a1), .val (.int (0 : Int32)), .val (.int (4 : Int32)), .val (.int (1 : Int32)), .val (.int (3 : Int32))] [])
            refine own_go (fun t k => XS.iconst X121.here hx rfl (hb hby d_prog_52_method_4_31) k) ?_
            show Go _ _ _ _ _ T121 (mkF m 32 #[.val (.ref a1), .val (.int (0 : Int32)), .val (.int (4 : Int32)), .val (.int (1 : Int32)), .val (.int (3 : Int32))] [(.int (1 : Int32))])
            refine own_go (fun t k => XS.goto X121.here hx rfl (pc0 := 32) (pc' := 36) rfl (hb hby d_prog_52_method_4_32) (by decide) (by decide) k) ?_
            show Go _ _ _ _ _ T121 (mkF m 36 #[.val (.ref a1), .val (.int (0 : Int32)), .val (.int (4 : Int32)), .val (.int (1 : Int32)), .val (.int (3 : Int32))] [(.int (1 : Int32))])
            refine own_go (fun t k => XS.istoreN X121.here hx rfl (hb hby d_prog_52_method_4_36) rfl (l' := #[.val (.ref a1), .val (.int (0 : Int32)), .val (.int (4 : Int32)), .val (.int (1 : Int32)), .val (.int (3 : Int32))]) rfl k) ?_
            show Go _ _ _ _ _ T121 (mkF m 37 #[.val (.ref a1), .val (.int (0 : Int32)), .val (.int (4 : Int32)), .val (.int (1 : Int32)), .val (.int (3 : Int32))] [])
            refine own_go (fun t k => XS.iinc X121.here hx rfl (hb hby d_prog_52_method_4_37) rfl (l' := #[.val (.ref a1), .val (.int (0 : Int32)), .val (.int (4 : Int32)), .val (.int (1 : Int32)), .val (.int (4 : Int32))]) rfl k) ?_
            show Go _ _ _ _ _ T121 (mkF m 40 #[.val (.ref a1), .val (.int (0 : Int32)), .val (.int (4 : Int32)), .val (.int (1 : Int32)), .val (.int (4 : Int32))] [])
            refine own_go (fun t k => XS.goto X121.here hx rfl (pc0 := 40) (pc' := 5) rfl (hb hby d_prog_52_method_4_40) (by decide) (by decide) k) ?_
            show Go _ _ _ _ _ T121 (mkF m 5 #[.val (.ref a1), .val (.int (0 : Int32)), .val (.int (4 : Int32)), .val (.int (1 : Int32)), .val (.int (4 : Int32))] [])
            refine own_go (fun t k => XS.iload X121.here hx rfl (hb hby d_prog_52_method_4_5) rfl k) ?_
            show Go _ _ _ _ _ T121 (mkF m 7 #[.val (.ref a1), .val (.int (0 : Int32)), .val (.int (4 : Int32)), .val (.int (1 : Int32)), .val (.int (4 : Int32))] [(.int (4 : Int32))])
            refine own_go (fun t k => XS.iloadN X121.here hx rfl (hb hby d_prog_52_method_4_7) rfl k) ?_
            show Go _ _ _ _ _ T121 (mkF m 8 #[.val (.ref a1), .val (.int (0 : Int32)), .val (.int (4 : Int32)), .val (.int (1 : Int32)), .val (.int (4 : Int32))] [(.int (0 : Int32)), (.int (4 : Int32))])
            refine own_go (fun t k => XS.iloadN X121.here hx rfl (hb hby d_prog_52_method_4_8) rfl k) ?_
            show Go _ _ _ _ _ T121 (mkF m 9 #[.val (.ref a1), .val (.int (0 : Int32)), .val (.int (4 : Int32)), .val (.int (1 : Int32)), .val (.int (4 : Int32))] [(.int (4 : Int32)), (.int (0 : Int32)), (.int (4 : Int32))])
            refine own_go (fun t k => XS.iadd X121.here hx rfl (hb hby d_prog_52_method_4_9) rfl k) ?_
            show Go _ _ _ _ _ T121 (mkF m 10 #[.val (.ref a1), .val (.int (0 : Int32)), .val (.int (4 : Int32)), .val (.int (1 : Int32)), .val (.int (4 : Int32))] [(.int (4 : Int32)), (.int (4 : Int32))])
            refine own_go (fun t k => XS.icmpYes X121.here hx rfl (pc0 := 10) (pc' := 43) rfl (hb hby d_prog_52_method_4_10) rfl (by decide) (by decide) (by decide) k) ?_
            show Go _ _ _ _ _ T121 (mkF m 43 #[.val (.ref a1), .val (.int (0 : Int32)), .val (.int (4 : Int32)), .val (.int (1 : Int32)), .val (.int (4 : Int32))] [])
            refine own_go (fun t k => XS.iloadN X121.here hx rfl (hb hby d_prog_52_method_4_43) rfl k) ?_
            show Go _ _ _ _ _ T121 (mkF m 44 #[.val (.ref a1), .val (.int (0 : Int32)), .val (.int (4 : Int32)), .val (.int (1 : Int32)), .val (.int (4 : Int32))] [(.int (1 : Int32))])
            refine own_retN X121 hx (own_lvN X121 hlk (by decide) (by decide)) (t := .boolean) hret (by simp) (hb hby d_prog_52_method_4_44) ?_
            have i0 : own_in (0 : Int32) (0 : Int32) (4 : Int32) = 1 := by decide
            have i1 : own_in (1 : Int32) (0 : Int32) (4 : Int32) = 1 := by decide
            have i2 : own_in (2 : Int32) (0 : Int32) (4 : Int32) = 1 := by decide
            have i3 : own_in (3 : Int32) (0 : Int32) (4 : Int32) = 1 := by decide
            have e : own_free t0 t1 t2 t3 cnt (0 : Int32) (4 : Int32) = (1 : Int32) := by simp [own_free, own_okp, i0, i1, i2, i3, hc110, hc114, hc118, hc122]
            exact ⟨(by rw [← hr, e]; try rfl), N0, e121⟩
  · skip
    show Go _ _ _ _ _ s₁ (mkF m 0 #[.val (.ref a1), .val (.int (1 : Int32)), .val (.int (0 : Int32)), .unset, .unset] [])
    refine own_go (fun t k => XS.iconst X0.here hx rfl (hb hby d_prog_52_method_4_0) k) ?_
    show Go _ _ _ _ _ s₁ (mkF m 1 #[.val (.ref a1), .val (.int (1 : Int32)), .val (.int (0 : Int32)), .unset, .unset] [(.int (1 : Int32))])
    refine own_go (fun t k => XS.istoreN X0.here hx rfl (hb hby d_prog_52_method_4_1) rfl (l' := #[.val (.ref a1), .val (.int (1 : Int32)), .val (.int (0 : Int32)), .val (.int (1 : Int32)), .unset]) rfl k) ?_
    show Go _ _ _ _ _ s₁ (mkF m 2 #[.val (.ref a1), .val (.int (1 : Int32)), .val (.int (0 : Int32)), .val (.int (1 : Int32)), .unset] [])
    refine own_go (fun t k => XS.iloadN X0.here hx rfl (hb hby d_prog_52_method_4_2) rfl k) ?_
    show Go _ _ _ _ _ s₁ (mkF m 3 #[.val (.ref a1), .val (.int (1 : Int32)), .val (.int (0 : Int32)), .val (.int (1 : Int32)), .unset] [(.int (1 : Int32))])
    refine own_go (fun t k => XS.istore X0.here hx rfl (hb hby d_prog_52_method_4_3) rfl (l' := #[.val (.ref a1), .val (.int (1 : Int32)), .val (.int (0 : Int32)), .val (.int (1 : Int32)), .val (.int (1 : Int32))]) rfl k) ?_
    show Go _ _ _ _ _ s₁ (mkF m 5 #[.val (.ref a1), .val (.int (1 : Int32)), .val (.int (0 : Int32)), .val (.int (1 : Int32)), .val (.int (1 : Int32))] [])
    refine own_go (fun t k => XS.iload X0.here hx rfl (hb hby d_prog_52_method_4_5) rfl k) ?_
    show Go _ _ _ _ _ s₁ (mkF m 7 #[.val (.ref a1), .val (.int (1 : Int32)), .val (.int (0 : Int32)), .val (.int (1 : Int32)), .val (.int (1 : Int32))] [(.int (1 : Int32))])
    refine own_go (fun t k => XS.iloadN X0.here hx rfl (hb hby d_prog_52_method_4_7) rfl k) ?_
    show Go _ _ _ _ _ s₁ (mkF m 8 #[.val (.ref a1), .val (.int (1 : Int32)), .val (.int (0 : Int32)), .val (.int (1 : Int32)), .val (.int (1 : Int32))] [(.int (1 : Int32)), (.int (1 : Int32))])
    refine own_go (fun t k => XS.iloadN X0.here hx rfl (hb hby d_prog_52_method_4_8) rfl k) ?_
    show Go _ _ _ _ _ s₁ (mkF m 9 #[.val (.ref a1), .val (.int (1 : Int32)), .val (.int (0 : Int32)), .val (.int (1 : Int32)), .val (.int (1 : Int32))] [(.int (0 : Int32)), (.int (1 : Int32)), (.int (1 : Int32))])
    refine own_go (fun t k => XS.iadd X0.here hx rfl (hb hby d_prog_52_method_4_9) rfl k) ?_
    show Go _ _ _ _ _ s₁ (mkF m 10 #[.val (.ref a1), .val (.int (1 : Int32)), .val (.int (0 : Int32)), .val (.int (1 : Int32)), .val (.int (1 : Int32))] [(.int (1 : Int32)), (.int (1 : Int32))])
    refine own_go (fun t k => XS.icmpYes X0.here hx rfl (pc0 := 10) (pc' := 43) rfl (hb hby d_prog_52_method_4_10) rfl (by decide) (by decide) (by decide) k) ?_
    show Go _ _ _ _ _ s₁ (mkF m 43 #[.val (.ref a1), .val (.int (1 : Int32)), .val (.int (0 : Int32)), .val (.int (1 : Int32)), .val (.int (1 : Int32))] [])
    refine own_go (fun t k => XS.iloadN X0.here hx rfl (hb hby d_prog_52_method_4_43) rfl k) ?_
    show Go _ _ _ _ _ s₁ (mkF m 44 #[.val (.ref a1), .val (.int (1 : Int32)), .val (.int (0 : Int32)), .val (.int (1 : Int32)), .val (.int (1 : Int32))] [(.int (1 : Int32))])
    refine own_retN X0 hx (own_lvN X0 hlk (by decide) (by decide)) (t := .boolean) hret (by simp) (hb hby d_prog_52_method_4_44) ?_
    have i0 : own_in (0 : Int32) (1 : Int32) (0 : Int32) = 0 := by decide
    have i1 : own_in (1 : Int32) (1 : Int32) (0 : Int32) = 0 := by decide
    have i2 : own_in (2 : Int32) (1 : Int32) (0 : Int32) = 0 := by decide
    have i3 : own_in (3 : Int32) (1 : Int32) (0 : Int32) = 0 := by decide
    have e : own_free t0 t1 t2 t3 cnt (1 : Int32) (0 : Int32) = (1 : Int32) := by simp [own_free, own_okp, i0, i1, i2, i3]
    exact ⟨(by rw [← hr, e]; try rfl), N0, e0⟩
  · skip
    show Go _ _ _ _ _ s₁ (mkF m 0 #[.val (.ref a1), .val (.int (1 : Int32)), .val (.int (1 : Int32)), .unset, .unset] [])
    refine own_go (fun t k => XS.iconst X0.here hx rfl (hb hby d_prog_52_method_4_0) k) ?_
    show Go _ _ _ _ _ s₁ (mkF m 1 #[.val (.ref a1), .val (.int (1 : Int32)), .val (.int (1 : Int32)), .unset, .unset] [(.int (1 : Int32))])
    refine own_go (fun t k => XS.istoreN X0.here hx rfl (hb hby d_prog_52_method_4_1) rfl (l' := #[.val (.ref a1), .val (.int (1 : Int32)), .val (.int (1 : Int32)), .val (.int (1 : Int32)), .unset]) rfl k) ?_
    show Go _ _ _ _ _ s₁ (mkF m 2 #[.val (.ref a1), .val (.int (1 : Int32)), .val (.int (1 : Int32)), .val (.int (1 : Int32)), .unset] [])
    refine own_go (fun t k => XS.iloadN X0.here hx rfl (hb hby d_prog_52_method_4_2) rfl k) ?_
    show Go _ _ _ _ _ s₁ (mkF m 3 #[.val (.ref a1), .val (.int (1 : Int32)), .val (.int (1 : Int32)), .val (.int (1 : Int32)), .unset] [(.int (1 : Int32))])
    refine own_go (fun t k => XS.istore X0.here hx rfl (hb hby d_prog_52_method_4_3) rfl (l' := #[.val (.ref a1), .val (.int (1 : Int32)), .val (.int (1 : Int32)), .val (.int (1 : Int32)), .val (.int (1 : Int32))]) rfl k) ?_
    show Go _ _ _ _ _ s₁ (mkF m 5 #[.val (.ref a1), .val (.int (1 : Int32)), .val (.int (1 : Int32)), .val (.int (1 : Int32)), .val (.int (1 : Int32))] [])
    refine own_go (fun t k => XS.iload X0.here hx rfl (hb hby d_prog_52_method_4_5) rfl k) ?_
    show Go _ _ _ _ _ s₁ (mkF m 7 #[.val (.ref a1), .val (.int (1 : Int32)), .val (.int (1 : Int32)), .val (.int (1 : Int32)), .val (.int (1 : Int32))] [(.int (1 : Int32))])
    refine own_go (fun t k => XS.iloadN X0.here hx rfl (hb hby d_prog_52_method_4_7) rfl k) ?_
    show Go _ _ _ _ _ s₁ (mkF m 8 #[.val (.ref a1), .val (.int (1 : Int32)), .val (.int (1 : Int32)), .val (.int (1 : Int32)), .val (.int (1 : Int32))] [(.int (1 : Int32)), (.int (1 : Int32))])
    refine own_go (fun t k => XS.iloadN X0.here hx rfl (hb hby d_prog_52_method_4_8) rfl k) ?_
    show Go _ _ _ _ _ s₁ (mkF m 9 #[.val (.ref a1), .val (.int (1 : Int32)), .val (.int (1 : Int32)), .val (.int (1 : Int32)), .val (.int (1 : Int32))] [(.int (1 : Int32)), (.int (1 : Int32)), (.int (1 : Int32))])
    refine own_go (fun t k => XS.iadd X0.here hx rfl (hb hby d_prog_52_method_4_9) rfl k) ?_
    show Go _ _ _ _ _ s₁ (mkF m 10 #[.val (.ref a1), .val (.int (1 : Int32)), .val (.int (1 : Int32)), .val (.int (1 : Int32)), .val (.int (1 : Int32))] [(.int (2 : Int32)), (.int (1 : Int32))])
    refine own_go (fun t k => XS.icmpNo X0.here hx rfl (hb hby d_prog_52_method_4_10) rfl (by decide) k) ?_
    show Go _ _ _ _ _ s₁ (mkF m 13 #[.val (.ref a1), .val (.int (1 : Int32)), .val (.int (1 : Int32)), .val (.int (1 : Int32)), .val (.int (1 : Int32))] [])
    refine own_go (fun t k => XS.iloadN X0.here hx rfl (hb hby d_prog_52_method_4_13) rfl k) ?_
    show Go _ _ _ _ _ s₁ (mkF m 14 #[.val (.ref a1), .val (.int (1 : Int32)), .val (.int (1 : Int32)), .val (.int (1 : Int32)), .val (.int (1 : Int32))] [(.int (1 : Int32))])
    refine own_go (fun t k => XS.ifNo X0.here hx rfl (hb hby d_prog_52_method_4_14) rfl (by decide) k) ?_
    show Go _ _ _ _ _ s₁ (mkF m 17 #[.val (.ref a1), .val (.int (1 : Int32)), .val (.int (1 : Int32)), .val (.int (1 : Int32)), .val (.int (1 : Int32))] [])
    refine own_go (fun t k => XS.aloadN X0.here hx rfl (hb hby d_prog_52_method_4_17) rfl rfl k) ?_
    show Go _ _ _ _ _ s₁ (mkF m 18 #[.val (.ref a1), .val (.int (1 : Int32)), .val (.int (1 : Int32)), .val (.int (1 : Int32)), .val (.int (1 : Int32))] [(.ref a1)])
    obtain ⟨T123, X123, e123, st123⟩ := getF X0 hx hZ hown (host := "") (Or.inl (hw _ (List.mem_of_getElem? (i := 19) rfl))) Via.refl e0 F_t (g := (mkF m 18 #[.val (.ref a1), .val (.int (1 : Int32)), .val (.int (1 : Int32)), .val (.int (1 : Int32)), .val (.int (1 : Int32))] [(.ref a1)])) rfl rfl (hb hby d_prog_52_method_4_18)
    refine own_go (fun t k => st123 t k) ?_
    show Go _ _ _ _ _ T123 (mkF m 21 #[.val (.ref a1), .val (.int (1 : Int32)), .val (.int (1 : Int32)), .val (.int (1 : Int32)), .val (.int (1 : Int32))] [(.ref b)])
    refine own_go (fun t k => XS.iload X123.here hx rfl (hb hby d_prog_52_method_4_21) rfl k) ?_
    show Go _ _ _ _ _ T123 (mkF m 23 #[.val (.ref a1), .val (.int (1 : Int32)), .val (.int (1 : Int32)), .val (.int (1 : Int32)), .val (.int (1 : Int32))] [(.int (1 : Int32)), (.ref b)])
    obtain ⟨cl124, Ar124, q124, S124, N124z, H124, G124⟩ := id V_b
    have hin124 := inb_of S124 (j := (1 : Int32)) (z := (4 : Int32)) ⟨by decide, by decide⟩
    have hat124 : cl124.slots[((1 : Int32)).toNatClampNeg]? = some (.int t1) := H124 _ (Nat.lt_of_not_le fun q => hin124 (Or.inr q))
    refine own_go (fun t k => X123.iaload hx (j := (1 : Int32)) (v := (.int t1)) (by rw [e123]; exact Ar124.1) (State.isArrayOf_alike hZ.alike Ar124.2.1) Ar124.2.2 hin124 hat124 (g := (mkF m 23 #[.val (.ref a1), .val (.int (1 : Int32)), .val (.int (1 : Int32)), .val (.int (1 : Int32)), .val (.int (1 : Int32))] [(.int (1 : Int32)), (.ref b)])) rfl rfl (hb hby d_prog_52_method_4_23) _ k) ?_
    show Go _ _ _ _ _ T123 (mkF m 24 #[.val (.ref a1), .val (.int (1 : Int32)), .val (.int (1 : Int32)), .val (.int (1 : Int32)), .val (.int (1 : Int32))] [(.int t1)])
    refine own_go (fun t k => XS.aloadN X123.here hx rfl (hb hby d_prog_52_method_4_24) rfl rfl k) ?_
    show Go _ _ _ _ _ T123 (mkF m 25 #[.val (.ref a1), .val (.int (1 : Int32)), .val (.int (1 : Int32)), .val (.int (1 : Int32)), .val (.int (1 : Int32))] [(.ref a1), (.int t1)])
    obtain ⟨T125, X125, e125, st125⟩ := getF X123 hx hZ hown (host := "") (Or.inl (hw _ (List.mem_of_getElem? (i := 16) rfl))) Via.refl e123 F_c (g := (mkF m 25 #[.val (.ref a1), .val (.int (1 : Int32)), .val (.int (1 : Int32)), .val (.int (1 : Int32)), .val (.int (1 : Int32))] [(.ref a1), (.int t1)])) rfl rfl (hb hby d_prog_52_method_4_25)
    refine own_go (fun t k => st125 t k) ?_
    show Go _ _ _ _ _ T125 (mkF m 28 #[.val (.ref a1), .val (.int (1 : Int32)), .val (.int (1 : Int32)), .val (.int (1 : Int32)), .val (.int (1 : Int32))] [(.int cnt), (.int t1)])
    refine own_icmpM (t1 < cnt) X125 hx (hb hby d_prog_52_method_4_28) (own_ge _ _) (by decide) (by decide) (pc' := 35) (fun hc126 => ?_) (fun hc126 => ?_)
    · skip
      show Go _ _ _ _ _ T125 (mkF m 35 #[.val (.ref a1), .val (.int (1 : Int32)), .val (.int (1 : Int32)), .val (.int (1 : Int32)), .val (.int (1 : Int32))] [])
      refine own_go (fun t k => XS.iconst X125.here hx rfl (hb hby d_prog_52_method_4_35) k) ?_
      show Go _ _ _ _ _ T125 (mkF m 36 #[.val (.ref a1), .val (.int (1 : Int32)), .val (.int (1 : Int32)), .val (.int (1 : Int32)), .val (.int (1 : Int32))] [(.int (0 : Int32))])
      refine own_go (fun t k => XS.istoreN X125.here hx rfl (hb hby d_prog_52_method_4_36) rfl (l' := #[.val (.ref a1), .val (.int (1 : Int32)), .val (.int (1 : Int32)), .val (.int (0 : Int32)), .val (.int (1 : Int32))]) rfl k) ?_
      show Go _ _ _ _ _ T125 (mkF m 37 #[.val (.ref a1), .val (.int (1 : Int32)), .val (.int (1 : Int32)), .val (.int (0 : Int32)), .val (.int (1 : Int32))] [])
      refine own_go (fun t k => XS.iinc X125.here hx rfl (hb hby d_prog_52_method_4_37) rfl (l' := #[.val (.ref a1), .val (.int (1 : Int32)), .val (.int (1 : Int32)), .val (.int (0 : Int32)), .val (.int (2 : Int32))]) rfl k) ?_
      show Go _ _ _ _ _ T125 (mkF m 40 #[.val (.ref a1), .val (.int (1 : Int32)), .val (.int (1 : Int32)), .val (.int (0 : Int32)), .val (.int (2 : Int32))] [])
      refine own_go (fun t k => XS.goto X125.here hx rfl (pc0 := 40) (pc' := 5) rfl (hb hby d_prog_52_method_4_40) (by decide) (by decide) k) ?_
      show Go _ _ _ _ _ T125 (mkF m 5 #[.val (.ref a1), .val (.int (1 : Int32)), .val (.int (1 : Int32)), .val (.int (0 : Int32)), .val (.int (2 : Int32))] [])
      refine own_go (fun t k => XS.iload X125.here hx rfl (hb hby d_prog_52_method_4_5) rfl k) ?_
      show Go _ _ _ _ _ T125 (mkF m 7 #[.val (.ref a1), .val (.int (1 : Int32)), .val (.int (1 : Int32)), .val (.int (0 : Int32)), .val (.int (2 : Int32))] [(.int (2 : Int32))])
      refine own_go (fun t k => XS.iloadN X125.here hx rfl (hb hby d_prog_52_method_4_7) rfl k) ?_
      show Go _ _ _ _ _ T125 (mkF m 8 #[.val (.ref a1), .val (.int (1 : Int32)), .val (.int (1 : Int32)), .val (.int (0 : Int32)), .val (.int (2 : Int32))] [(.int (1 : Int32)), (.int (2 : Int32))])
      refine own_go (fun t k => XS.iloadN X125.here hx rfl (hb hby d_prog_52_method_4_8) rfl k) ?_
      show Go _ _ _ _ _ T125 (mkF m 9 #[.val (.ref a1), .val (.int (1 : Int32)), .val (.int (1 : Int32)), .val (.int (0 : Int32)), .val (.int (2 : Int32))] [(.int (1 : Int32)), (.int (1 : Int32)), (.int (2 : Int32))])
      refine own_go (fun t k => XS.iadd X125.here hx rfl (hb hby d_prog_52_method_4_9) rfl k) ?_
      show Go _ _ _ _ _ T125 (mkF m 10 #[.val (.ref a1), .val (.int (1 : Int32)), .val (.int (1 : Int32)), .val (.int (0 : Int32)), .val (.int (2 : Int32))] [(.int (2 : Int32)), (.int (2 : Int32))])
      refine own_go (fun t k => XS.icmpYes X125.here hx rfl (pc0 := 10) (pc' := 43) rfl (hb hby d_prog_52_method_4_10) rfl (by decide) (by decide) (by decide) k) ?_
      show Go _ _ _ _ _ T125 (mkF m 43 #[.val (.ref a1), .val (.int (1 : Int32)), .val (.int (1 : Int32)), .val (.int (0 : Int32)), .val (.int (2 : Int32))] [])
      refine own_go (fun t k => XS.iloadN X125.here hx rfl (hb hby d_prog_52_method_4_43) rfl k) ?_
      show Go _ _ _ _ _ T125 (mkF m 44 #[.val (.ref a1), .val (.int (1 : Int32)), .val (.int (1 : Int32)), .val (.int (0 : Int32)), .val (.int (2 : Int32))] [(.int (0 : Int32))])
      refine own_retN X125 hx (own_lvN X125 hlk (by decide) (by decide)) (t := .boolean) hret (by simp) (hb hby d_prog_52_method_4_44) ?_
      have i0 : own_in (0 : Int32) (1 : Int32) (1 : Int32) = 0 := by decide
      have i1 : own_in (1 : Int32) (1 : Int32) (1 : Int32) = 1 := by decide
      have i2 : own_in (2 : Int32) (1 : Int32) (1 : Int32) = 0 := by decide
      have i3 : own_in (3 : Int32) (1 : Int32) (1 : Int32) = 0 := by decide
      have e : own_free t0 t1 t2 t3 cnt (1 : Int32) (1 : Int32) = (0 : Int32) := by simp [own_free, own_okp, i0, i1, i2, i3, hc126]
      exact ⟨(by rw [← hr, e]; try rfl), N0, e125⟩
    · skip
      show Go _ _ _ _ _ T125 (mkF m 31 #[.val (.ref a1), .val (.int (1 : Int32)), .val (.int (1 : Int32)), .val (.int (1 : Int32)), .val (.int (1 : Int32))] [])
      refine own_go (fun t k => XS.iconst X125.here hx rfl (hb hby d_prog_52_method_4_31) k) ?_
      show Go _ _ _ _ _ T125 (mkF m 32 #[.val (.ref a1), .val (.int (1 : Int32)), .val (.int (1 : Int32)), .val (.int (1 : Int32)), .val (.int (1 : Int32))] [(.int (1 : Int32))])
      refine own_go (fun t k => XS.goto X125.here hx rfl (pc0 := 32) (pc' := 36) rfl (hb hby d_prog_52_method_4_32) (by decide) (by decide) k) ?_
      show Go _ _ _ _ _ T125 (mkF m 36 #[.val (.ref a1), .val (.int (1 : Int32)), .val (.int (1 : Int32)), .val (.int (1 : Int32)), .val (.int (1 : Int32))] [(.int (1 : Int32))])
      refine own_go (fun t k => XS.istoreN X125.here hx rfl (hb hby d_prog_52_method_4_36) rfl (l' := #[.val (.ref a1), .val (.int (1 : Int32)), .val (.int (1 : Int32)), .val (.int (1 : Int32)), .val (.int (1 : Int32))]) rfl k) ?_
      show Go _ _ _ _ _ T125 (mkF m 37 #[.val (.ref a1), .val (.int (1 : Int32)), .val (.int (1 : Int32)), .val (.int (1 : Int32)), .val (.int (1 : Int32))] [])
      refine own_go (fun t k => XS.iinc X125.here hx rfl (hb hby d_prog_52_method_4_37) rfl (l' := #[.val (.ref a1), .val (.int (1 : Int32)), .val (.int (1 : Int32)), .val (.int (1 : Int32)), .val (.int (2 : Int32))]) rfl k) ?_
      show Go _ _ _ _ _ T125 (mkF m 40 #[.val (.ref a1), .val (.int (1 : Int32)), .val (.int (1 : Int32)), .val (.int (1 : Int32)), .val (.int (2 : Int32))] [])
      refine own_go (fun t k => XS.goto X125.here hx rfl (pc0 := 40) (pc' := 5) rfl (hb hby d_prog_52_method_4_40) (by decide) (by decide) k) ?_
      show Go _ _ _ _ _ T125 (mkF m 5 #[.val (.ref a1), .val (.int (1 : Int32)), .val (.int (1 : Int32)), .val (.int (1 : Int32)), .val (.int (2 : Int32))] [])
      refine own_go (fun t k => XS.iload X125.here hx rfl (hb hby d_prog_52_method_4_5) rfl k) ?_
      show Go _ _ _ _ _ T125 (mkF m 7 #[.val (.ref a1), .val (.int (1 : Int32)), .val (.int (1 : Int32)), .val (.int (1 : Int32)), .val (.int (2 : Int32))] [(.int (2 : Int32))])
      refine own_go (fun t k => XS.iloadN X125.here hx rfl (hb hby d_prog_52_method_4_7) rfl k) ?_
      show Go _ _ _ _ _ T125 (mkF m 8 #[.val (.ref a1), .val (.int (1 : Int32)), .val (.int (1 : Int32)), .val (.int (1 : Int32)), .val (.int (2 : Int32))] [(.int (1 : Int32)), (.int (2 : Int32))])
      refine own_go (fun t k => XS.iloadN X125.here hx rfl (hb hby d_prog_52_method_4_8) rfl k) ?_
      show Go _ _ _ _ _ T125 (mkF m 9 #[.val (.ref a1), .val (.int (1 : Int32)), .val (.int (1 : Int32)), .val (.int (1 : Int32)), .val (.int (2 : Int32))] [(.int (1 : Int32)), (.int (1 : Int32)), (.int (2 : Int32))])
      refine own_go (fun t k => XS.iadd X125.here hx rfl (hb hby d_prog_52_method_4_9) rfl k) ?_
      show Go _ _ _ _ _ T125 (mkF m 10 #[.val (.ref a1), .val (.int (1 : Int32)), .val (.int (1 : Int32)), .val (.int (1 : Int32)), .val (.int (2 : Int32))] [(.int (2 : Int32)), (.int (2 : Int32))])
      refine own_go (fun t k => XS.icmpYes X125.here hx rfl (pc0 := 10) (pc' := 43) rfl (hb hby d_prog_52_method_4_10) rfl (by decide) (by decide) (by decide) k) ?_
      show Go _ _ _ _ _ T125 (mkF m 43 #[.val (.ref a1), .val (.int (1 : Int32)), .val (.int (1 : Int32)), .val (.int (1 : Int32)), .val (.int (2 : Int32))] [])
      refine own_go (fun t k => XS.iloadN X125.here hx rfl (hb hby d_prog_52_method_4_43) rfl k) ?_
      show Go _ _ _ _ _ T125 (mkF m 44 #[.val (.ref a1), .val (.int (1 : Int32)), .val (.int (1 : Int32)), .val (.int (1 : Int32)), .val (.int (2 : Int32))] [(.int (1 : Int32))])
      refine own_retN X125 hx (own_lvN X125 hlk (by decide) (by decide)) (t := .boolean) hret (by simp) (hb hby d_prog_52_method_4_44) ?_
      have i0 : own_in (0 : Int32) (1 : Int32) (1 : Int32) = 0 := by decide
      have i1 : own_in (1 : Int32) (1 : Int32) (1 : Int32) = 1 := by decide
      have i2 : own_in (2 : Int32) (1 : Int32) (1 : Int32) = 0 := by decide
      have i3 : own_in (3 : Int32) (1 : Int32) (1 : Int32) = 0 := by decide
      have e : own_free t0 t1 t2 t3 cnt (1 : Int32) (1 : Int32) = (1 : Int32) := by simp [own_free, own_okp, i0, i1, i2, i3, hc126]
      exact ⟨(by rw [← hr, e]; try rfl), N0, e125⟩
  · skip
    show Go _ _ _ _ _ s₁ (mkF m 0 #[.val (.ref a1), .val (.int (1 : Int32)), .val (.int (2 : Int32)), .unset, .unset] [])
    refine own_go (fun t k => XS.iconst X0.here hx rfl (hb hby d_prog_52_method_4_0) k) ?_
    show Go _ _ _ _ _ s₁ (mkF m 1 #[.val (.ref a1), .val (.int (1 : Int32)), .val (.int (2 : Int32)), .unset, .unset] [(.int (1 : Int32))])
    refine own_go (fun t k => XS.istoreN X0.here hx rfl (hb hby d_prog_52_method_4_1) rfl (l' := #[.val (.ref a1), .val (.int (1 : Int32)), .val (.int (2 : Int32)), .val (.int (1 : Int32)), .unset]) rfl k) ?_
    show Go _ _ _ _ _ s₁ (mkF m 2 #[.val (.ref a1), .val (.int (1 : Int32)), .val (.int (2 : Int32)), .val (.int (1 : Int32)), .unset] [])
    refine own_go (fun t k => XS.iloadN X0.here hx rfl (hb hby d_prog_52_method_4_2) rfl k) ?_
    show Go _ _ _ _ _ s₁ (mkF m 3 #[.val (.ref a1), .val (.int (1 : Int32)), .val (.int (2 : Int32)), .val (.int (1 : Int32)), .unset] [(.int (1 : Int32))])
    refine own_go (fun t k => XS.istore X0.here hx rfl (hb hby d_prog_52_method_4_3) rfl (l' := #[.val (.ref a1), .val (.int (1 : Int32)), .val (.int (2 : Int32)), .val (.int (1 : Int32)), .val (.int (1 : Int32))]) rfl k) ?_
    show Go _ _ _ _ _ s₁ (mkF m 5 #[.val (.ref a1), .val (.int (1 : Int32)), .val (.int (2 : Int32)), .val (.int (1 : Int32)), .val (.int (1 : Int32))] [])
    refine own_go (fun t k => XS.iload X0.here hx rfl (hb hby d_prog_52_method_4_5) rfl k) ?_
    show Go _ _ _ _ _ s₁ (mkF m 7 #[.val (.ref a1), .val (.int (1 : Int32)), .val (.int (2 : Int32)), .val (.int (1 : Int32)), .val (.int (1 : Int32))] [(.int (1 : Int32))])
    refine own_go (fun t k => XS.iloadN X0.here hx rfl (hb hby d_prog_52_method_4_7) rfl k) ?_
    show Go _ _ _ _ _ s₁ (mkF m 8 #[.val (.ref a1), .val (.int (1 : Int32)), .val (.int (2 : Int32)), .val (.int (1 : Int32)), .val (.int (1 : Int32))] [(.int (1 : Int32)), (.int (1 : Int32))])
    refine own_go (fun t k => XS.iloadN X0.here hx rfl (hb hby d_prog_52_method_4_8) rfl k) ?_
    show Go _ _ _ _ _ s₁ (mkF m 9 #[.val (.ref a1), .val (.int (1 : Int32)), .val (.int (2 : Int32)), .val (.int (1 : Int32)), .val (.int (1 : Int32))] [(.int (2 : Int32)), (.int (1 : Int32)), (.int (1 : Int32))])
    refine own_go (fun t k => XS.iadd X0.here hx rfl (hb hby d_prog_52_method_4_9) rfl k) ?_
    show Go _ _ _ _ _ s₁ (mkF m 10 #[.val (.ref a1), .val (.int (1 : Int32)), .val (.int (2 : Int32)), .val (.int (1 : Int32)), .val (.int (1 : Int32))] [(.int (3 : Int32)), (.int (1 : Int32))])
    refine own_go (fun t k => XS.icmpNo X0.here hx rfl (hb hby d_prog_52_method_4_10) rfl (by decide) k) ?_
    show Go _ _ _ _ _ s₁ (mkF m 13 #[.val (.ref a1), .val (.int (1 : Int32)), .val (.int (2 : Int32)), .val (.int (1 : Int32)), .val (.int (1 : Int32))] [])
    refine own_go (fun t k => XS.iloadN X0.here hx rfl (hb hby d_prog_52_method_4_13) rfl k) ?_
    show Go _ _ _ _ _ s₁ (mkF m 14 #[.val (.ref a1), .val (.int (1 : Int32)), .val (.int (2 : Int32)), .val (.int (1 : Int32)), .val (.int (1 : Int32))] [(.int (1 : Int32))])
    refine own_go (fun t k => XS.ifNo X0.here hx rfl (hb hby d_prog_52_method_4_14) rfl (by decide) k) ?_
    show Go _ _ _ _ _ s₁ (mkF m 17 #[.val (.ref a1), .val (.int (1 : Int32)), .val (.int (2 : Int32)), .val (.int (1 : Int32)), .val (.int (1 : Int32))] [])
    refine own_go (fun t k => XS.aloadN X0.here hx rfl (hb hby d_prog_52_method_4_17) rfl rfl k) ?_
    show Go _ _ _ _ _ s₁ (mkF m 18 #[.val (.ref a1), .val (.int (1 : Int32)), .val (.int (2 : Int32)), .val (.int (1 : Int32)), .val (.int (1 : Int32))] [(.ref a1)])
    obtain ⟨T127, X127, e127, st127⟩ := getF X0 hx hZ hown (host := "") (Or.inl (hw _ (List.mem_of_getElem? (i := 19) rfl))) Via.refl e0 F_t (g := (mkF m 18 #[.val (.ref a1), .val (.int (1 : Int32)), .val (.int (2 : Int32)), .val (.int (1 : Int32)), .val (.int (1 : Int32))] [(.ref a1)])) rfl rfl (hb hby d_prog_52_method_4_18)
    refine own_go (fun t k => st127 t k) ?_
    show Go _ _ _ _ _ T127 (mkF m 21 #[.val (.ref a1), .val (.int (1 : Int32)), .val (.int (2 : Int32)), .val (.int (1 : Int32)), .val (.int (1 : Int32))] [(.ref b)])
    refine own_go (fun t k => XS.iload X127.here hx rfl (hb hby d_prog_52_method_4_21) rfl k) ?_
    show Go _ _ _ _ _ T127 (mkF m 23 #[.val (.ref a1), .val (.int (1 : Int32)), .val (.int (2 : Int32)), .val (.int (1 : Int32)), .val (.int (1 : Int32))] [(.int (1 : Int32)), (.ref b)])
    obtain ⟨cl128, Ar128, q128, S128, N128z, H128, G128⟩ := id V_b
    have hin128 := inb_of S128 (j := (1 : Int32)) (z := (4 : Int32)) ⟨by decide, by decide⟩
    have hat128 : cl128.slots[((1 : Int32)).toNatClampNeg]? = some (.int t1) := H128 _ (Nat.lt_of_not_le fun q => hin128 (Or.inr q))
    refine own_go (fun t k => X127.iaload hx (j := (1 : Int32)) (v := (.int t1)) (by rw [e127]; exact Ar128.1) (State.isArrayOf_alike hZ.alike Ar128.2.1) Ar128.2.2 hin128 hat128 (g := (mkF m 23 #[.val (.ref a1), .val (.int (1 : Int32)), .val (.int (2 : Int32)), .val (.int (1 : Int32)), .val (.int (1 : Int32))] [(.int (1 : Int32)), (.ref b)])) rfl rfl (hb hby d_prog_52_method_4_23) _ k) ?_
    show Go _ _ _ _ _ T127 (mkF m 24 #[.val (.ref a1), .val (.int (1 : Int32)), .val (.int (2 : Int32)), .val (.int (1 : Int32)), .val (.int (1 : Int32))] [(.int t1)])
    refine own_go (fun t k => XS.aloadN X127.here hx rfl (hb hby d_prog_52_method_4_24) rfl rfl k) ?_
    show Go _ _ _ _ _ T127 (mkF m 25 #[.val (.ref a1), .val (.int (1 : Int32)), .val (.int (2 : Int32)), .val (.int (1 : Int32)), .val (.int (1 : Int32))] [(.ref a1), (.int t1)])
    obtain ⟨T129, X129, e129, st129⟩ := getF X127 hx hZ hown (host := "") (Or.inl (hw _ (List.mem_of_getElem? (i := 16) rfl))) Via.refl e127 F_c (g := (mkF m 25 #[.val (.ref a1), .val (.int (1 : Int32)), .val (.int (2 : Int32)), .val (.int (1 : Int32)), .val (.int (1 : Int32))] [(.ref a1), (.int t1)])) rfl rfl (hb hby d_prog_52_method_4_25)
    refine own_go (fun t k => st129 t k) ?_
    show Go _ _ _ _ _ T129 (mkF m 28 #[.val (.ref a1), .val (.int (1 : Int32)), .val (.int (2 : Int32)), .val (.int (1 : Int32)), .val (.int (1 : Int32))] [(.int cnt), (.int t1)])
    refine own_icmpM (t1 < cnt) X129 hx (hb hby d_prog_52_method_4_28) (own_ge _ _) (by decide) (by decide) (pc' := 35) (fun hc130 => ?_) (fun hc130 => ?_)
    · skip
      show Go _ _ _ _ _ T129 (mkF m 35 #[.val (.ref a1), .val (.int (1 : Int32)), .val (.int (2 : Int32)), .val (.int (1 : Int32)), .val (.int (1 : Int32))] [])
      refine own_go (fun t k => XS.iconst X129.here hx rfl (hb hby d_prog_52_method_4_35) k) ?_
      show Go _ _ _ _ _ T129 (mkF m 36 #[.val (.ref a1), .val (.int (1 : Int32)), .val (.int (2 : Int32)), .val (.int (1 : Int32)), .val (.int (1 : Int32))] [(.int (0 : Int32))])
      refine own_go (fun t k => XS.istoreN X129.here hx rfl (hb hby d_prog_52_method_4_36) rfl (l' := #[.val (.ref a1), .val (.int (1 : Int32)), .val (.int (2 : Int32)), .val (.int (0 : Int32)), .val (.int (1 : Int32))]) rfl k) ?_
      show Go _ _ _ _ _ T129 (mkF m 37 #[.val (.ref a1), .val (.int (1 : Int32)), .val (.int (2 : Int32)), .val (.int (0 : Int32)), .val (.int (1 : Int32))] [])
      refine own_go (fun t k => XS.iinc X129.here hx rfl (hb hby d_prog_52_method_4_37) rfl (l' := #[.val (.ref a1), .val (.int (1 : Int32)), .val (.int (2 : Int32)), .val (.int (0 : Int32)), .val (.int (2 : Int32))]) rfl k) ?_
      show Go _ _ _ _ _ T129 (mkF m 40 #[.val (.ref a1), .val (.int (1 : Int32)), .val (.int (2 : Int32)), .val (.int (0 : Int32)), .val (.int (2 : Int32))] [])
      refine own_go (fun t k => XS.goto X129.here hx rfl (pc0 := 40) (pc' := 5) rfl (hb hby d_prog_52_method_4_40) (by decide) (by decide) k) ?_
      show Go _ _ _ _ _ T129 (mkF m 5 #[.val (.ref a1), .val (.int (1 : Int32)), .val (.int (2 : Int32)), .val (.int (0 : Int32)), .val (.int (2 : Int32))] [])
      refine own_go (fun t k => XS.iload X129.here hx rfl (hb hby d_prog_52_method_4_5) rfl k) ?_
      show Go _ _ _ _ _ T129 (mkF m 7 #[.val (.ref a1), .val (.int (1 : Int32)), .val (.int (2 : Int32)), .val (.int (0 : Int32)), .val (.int (2 : Int32))] [(.int (2 : Int32))])
      refine own_go (fun t k => XS.iloadN X129.here hx rfl (hb hby d_prog_52_method_4_7) rfl k) ?_
      show Go _ _ _ _ _ T129 (mkF m 8 #[.val (.ref a1), .val (.int (1 : Int32)), .val (.int (2 : Int32)), .val (.int (0 : Int32)), .val (.int (2 : Int32))] [(.int (1 : Int32)), (.int (2 : Int32))])
      refine own_go (fun t k => XS.iloadN X129.here hx rfl (hb hby d_prog_52_method_4_8) rfl k) ?_
      show Go _ _ _ _ _ T129 (mkF m 9 #[.val (.ref a1), .val (.int (1 : Int32)), .val (.int (2 : Int32)), .val (.int (0 : Int32)), .val (.int (2 : Int32))] [(.int (2 : Int32)), (.int (1 : Int32)), (.int (2 : Int32))])
      refine own_go (fun t k => XS.iadd X129.here hx rfl (hb hby d_prog_52_method_4_9) rfl k) ?_
      show Go _ _ _ _ _ T129 (mkF m 10 #[.val (.ref a1), .val (.int (1 : Int32)), .val (.int (2 : Int32)), .val (.int (0 : Int32)), .val (.int (2 : Int32))] [(.int (3 : Int32)), (.int (2 : Int32))])
      refine own_go (fun t k => XS.icmpNo X129.here hx rfl (hb hby d_prog_52_method_4_10) rfl (by decide) k) ?_
      show Go _ _ _ _ _ T129 (mkF m 13 #[.val (.ref a1), .val (.int (1 : Int32)), .val (.int (2 : Int32)), .val (.int (0 : Int32)), .val (.int (2 : Int32))] [])
      refine own_go (fun t k => XS.iloadN X129.here hx rfl (hb hby d_prog_52_method_4_13) rfl k) ?_
      show Go _ _ _ _ _ T129 (mkF m 14 #[.val (.ref a1), .val (.int (1 : Int32)), .val (.int (2 : Int32)), .val (.int (0 : Int32)), .val (.int (2 : Int32))] [(.int (0 : Int32))])
      refine own_go (fun t k => XS.ifYes X129.here hx rfl (pc0 := 14) (pc' := 43) rfl (hb hby d_prog_52_method_4_14) rfl (by decide) (by decide) (by decide) k) ?_
      show Go _ _ _ _ _ T129 (mkF m 43 #[.val (.ref a1), .val (.int (1 : Int32)), .val (.int (2 : Int32)), .val (.int (0 : Int32)), .val (.int (2 : Int32))] [])
      refine own_go (fun t k => XS.iloadN X129.here hx rfl (hb hby d_prog_52_method_4_43) rfl k) ?_
      show Go _ _ _ _ _ T129 (mkF m 44 #[.val (.ref a1), .val (.int (1 : Int32)), .val (.int (2 : Int32)), .val (.int (0 : Int32)), .val (.int (2 : Int32))] [(.int (0 : Int32))])
      refine own_retN X129 hx (own_lvN X129 hlk (by decide) (by decide)) (t := .boolean) hret (by simp) (hb hby d_prog_52_method_4_44) ?_
      have i0 : own_in (0 : Int32) (1 : Int32) (2 : Int32) = 0 := by decide
      have i1 : own_in (1 : Int32) (1 : Int32) (2 : Int32) = 1 := by decide
      have i2 : own_in (2 : Int32) (1 : Int32) (2 : Int32) = 1 := by decide
      have i3 : own_in (3 : Int32) (1 : Int32) (2 : Int32) = 0 := by decide
      have e : own_free t0 t1 t2 t3 cnt (1 : Int32) (2 : Int32) = (0 : Int32) := by simp [own_free, own_okp, i0, i1, i2, i3, hc130]
      exact ⟨(by rw [← hr, e]; try rfl), N0, e129⟩
    · skip
      show Go _ _ _ _ _ T129 (mkF m 31 #[.val (.ref a1), .val (.int (1 : Int32)), .val (.int (2 : Int32)), .val (.int (1 : Int32)), .val (.int (1 : Int32))] [])
      refine own_go (fun t k => XS.iconst X129.here hx rfl (hb hby d_prog_52_method_4_31) k) ?_
      show Go _ _ _ _ _ T129 (mkF m 32 #[.val (.ref a1), .val (.int (1 : Int32)), .val (.int (2 : Int32)), .val (.int (1 : Int32)), .val (.int (1 : Int32))] [(.int (1 : Int32))])
      refine own_go (fun t k => XS.goto X129.here hx rfl (pc0 := 32) (pc' := 36) rfl (hb hby d_prog_52_method_4_32) (by decide) (by decide) k) ?_
      show Go _ _ _ _ _ T129 (mkF m 36 #[.val (.ref a1), .val (.int (1 : Int32)), .val (.int (2 : Int32)), .val (.int (1 : Int32)), .val (.int (1 : Int32))] [(.int (1 : Int32))])
      refine own_go (fun t k => XS.istoreN X129.here hx rfl (hb hby d_prog_52_method_4_36) rfl (l' := #[.val (.ref a1), .val (.int (1 : Int32)), .val (.int (2 : Int32)), .val (.int (1 : Int32)), .val (.int (1 : Int32))]) rfl k) ?_
      show Go _ _ _ _ _ T129 (mkF m 37 #[.val (.ref a1), .val (.int (1 : Int32)), .val (.int (2 : Int32)), .val (.int (1 : Int32)), .val (.int (1 : Int32))] [])
      refine own_go (fun t k => XS.iinc X129.here hx rfl (hb hby d_prog_52_method_4_37) rfl (l' := #[.val (.ref a1), .val (.int (1 : Int32)), .val (.int (2 : Int32)), .val (.int (1 : Int32)), .val (.int (2 : Int32))]) rfl k) ?_
      show Go _ _ _ _ _ T129 (mkF m 40 #[.val (.ref a1), .val (.int (1 : Int32)), .val (.int (2 : Int32)), .val (.int (1 : Int32)), .val (.int (2 : Int32))] [])
      refine own_go (fun t k => XS.goto X129.here hx rfl (pc0 := 40) (pc' := 5) rfl (hb hby d_prog_52_method_4_40) (by decide) (by decide) k) ?_
      show Go _ _ _ _ _ T129 (mkF m 5 #[.val (.ref a1), .val (.int (1 : Int32)), .val (.int (2 : Int32)), .val (.int (1 : Int32)), .val (.int (2 : Int32))] [])
      refine own_go (fun t k => XS.iload X129.here hx rfl (hb hby d_prog_52_method_4_5) rfl k) ?_
      show Go _ _ _ _ _ T129 (mkF m 7 #[.val (.ref a1), .val (.int (1 : Int32)), .val (.int (2 : Int32)), .val (.int (1 : Int32)), .val (.int (2 : Int32))] [(.int (2 : Int32))])
      refine own_go (fun t k => XS.iloadN X129.here hx rfl (hb hby d_prog_52_method_4_7) rfl k) ?_
      show Go _ _ _ _ _ T129 (mkF m 8 #[.val (.ref a1), .val (.int (1 : Int32)), .val (.int (2 : Int32)), .val (.int (1 : Int32)), .val (.int (2 : Int32))] [(.int (1 : Int32)), (.int (2 : Int32))])
      refine own_go (fun t k => XS.iloadN X129.here hx rfl (hb hby d_prog_52_method_4_8) rfl k) ?_
      show Go _ _ _ _ _ T129 (mkF m 9 #[.val (.ref a1), .val (.int (1 : Int32)), .val (.int (2 : Int32)), .val (.int (1 : Int32)), .val (.int (2 : Int32))] [(.int (2 : Int32)), (.int (1 : Int32)), (.int (2 : Int32))])
      refine own_go (fun t k => XS.iadd X129.here hx rfl (hb hby d_prog_52_method_4_9) rfl k) ?_
      show Go _ _ _ _ _ T129 (mkF m 10 #[.val (.ref a1), .val (.int (1 : Int32)), .val (.int (2 : Int32)), .val (.int (1 : Int32)), .val (.int (2 : Int32))] [(.int (3 : Int32)), (.int (2 : Int32))])
      refine own_go (fun t k => XS.icmpNo X129.here hx rfl (hb hby d_prog_52_method_4_10) rfl (by decide) k) ?_
      show Go _ _ _ _ _ T129 (mkF m 13 #[.val (.ref a1), .val (.int (1 : Int32)), .val (.int (2 : Int32)), .val (.int (1 : Int32)), .val (.int (2 : Int32))] [])
      refine own_go (fun t k => XS.iloadN X129.here hx rfl (hb hby d_prog_52_method_4_13) rfl k) ?_
      show Go _ _ _ _ _ T129 (mkF m 14 #[.val (.ref a1), .val (.int (1 : Int32)), .val (.int (2 : Int32)), .val (.int (1 : Int32)), .val (.int (2 : Int32))] [(.int (1 : Int32))])
      refine own_go (fun t k => XS.ifNo X129.here hx rfl (hb hby d_prog_52_method_4_14) rfl (by decide) k) ?_
      show Go _ _ _ _ _ T129 (mkF m 17 #[.val (.ref a1), .val (.int (1 : Int32)), .val (.int (2 : Int32)), .val (.int (1 : Int32)), .val (.int (2 : Int32))] [])
      refine own_go (fun t k => XS.aloadN X129.here hx rfl (hb hby d_prog_52_method_4_17) rfl rfl k) ?_
      show Go _ _ _ _ _ T129 (mkF m 18 #[.val (.ref a1), .val (.int (1 : Int32)), .val (.int (2 : Int32)), .val (.int (1 : Int32)), .val (.int (2 : Int32))] [(.ref a1)])
      obtain ⟨T131, X131, e131, st131⟩ := getF X129 hx hZ hown (host := "") (Or.inl (hw _ (List.mem_of_getElem? (i := 19) rfl))) Via.refl e129 F_t (g := (mkF m 18 #[.val (.ref a1), .val (.int (1 : Int32)), .val (.int (2 : Int32)), .val (.int (1 : Int32)), .val (.int (2 : Int32))] [(.ref a1)])) rfl rfl (hb hby d_prog_52_method_4_18)
      refine own_go (fun t k => st131 t k) ?_
      show Go _ _ _ _ _ T131 (mkF m 21 #[.val (.ref a1), .val (.int (1 : Int32)), .val (.int (2 : Int32)), .val (.int (1 : Int32)), .val (.int (2 : Int32))] [(.ref b)])
      refine own_go (fun t k => XS.iload X131.here hx rfl (hb hby d_prog_52_method_4_21) rfl k) ?_
      show Go _ _ _ _ _ T131 (mkF m 23 #[.val (.ref a1), .val (.int (1 : Int32)), .val (.int (2 : Int32)), .val (.int (1 : Int32)), .val (.int (2 : Int32))] [(.int (2 : Int32)), (.ref b)])
      obtain ⟨cl132, Ar132, q132, S132, N132z, H132, G132⟩ := id V_b
      have hin132 := inb_of S132 (j := (2 : Int32)) (z := (4 : Int32)) ⟨by decide, by decide⟩
      have hat132 : cl132.slots[((2 : Int32)).toNatClampNeg]? = some (.int t2) := H132 _ (Nat.lt_of_not_le fun q => hin132 (Or.inr q))
      refine own_go (fun t k => X131.iaload hx (j := (2 : Int32)) (v := (.int t2)) (by rw [e131]; exact Ar132.1) (State.isArrayOf_alike hZ.alike Ar132.2.1) Ar132.2.2 hin132 hat132 (g := (mkF m 23 #[.val (.ref a1), .val (.int (1 : Int32)), .val (.int (2 : Int32)), .val (.int (1 : Int32)), .val (.int (2 : Int32))] [(.int (2 : Int32)), (.ref b)])) rfl rfl (hb hby d_prog_52_method_4_23) _ k) ?_
      show Go _ _ _ _ _ T131 (mkF m 24 #[.val (.ref a1), .val (.int (1 : Int32)), .val (.int (2 : Int32)), .val (.int (1 : Int32)), .val (.int (2 : Int32))] [(.int t2)])
      refine own_go (fun t k => XS.aloadN X131.here hx rfl (hb hby d_prog_52_method_4_24) rfl rfl k) ?_
      show Go _ _ _ _ _ T131 (mkF m 25 #[.val (.ref a1), .val (.int (1 : Int32)), .val (.int (2 : Int32)), .val (.int (1 : Int32)), .val (.int (2 : Int32))] [(.ref a1), (.int t2)])
      obtain ⟨T133, X133, e133, st133⟩ := getF X131 hx hZ hown (host := "") (Or.inl (hw _ (List.mem_of_getElem? (i := 16) rfl))) Via.refl e131 F_c (g := (mkF m 25 #[.val (.ref a1), .val (.int (1 : Int32)), .val (.int (2 : Int32)), .val (.int (1 : Int32)), .val (.int (2 : Int32))] [(.ref a1), (.int t2)])) rfl rfl (hb hby d_prog_52_method_4_25)
      refine own_go (fun t k => st133 t k) ?_
      show Go _ _ _ _ _ T133 (mkF m 28 #[.val (.ref a1), .val (.int (1 : Int32)), .val (.int (2 : Int32)), .val (.int (1 : Int32)), .val (.int (2 : Int32))] [(.int cnt), (.int t2)])
      refine own_icmpM (t2 < cnt) X133 hx (hb hby d_prog_52_method_4_28) (own_ge _ _) (by decide) (by decide) (pc' := 35) (fun hc134 => ?_) (fun hc134 => ?_)
      · skip
        show Go _ _ _ _ _ T133 (mkF m 35 #[.val (.ref a1), .val (.int (1 : Int32)), .val (.int (2 : Int32)), .val (.int (1 : Int32)), .val (.int (2 : Int32))] [])
        refine own_go (fun t k => XS.iconst X133.here hx rfl (hb hby d_prog_52_method_4_35) k) ?_
        show Go _ _ _ _ _ T133 (mkF m 36 #[.val (.ref a1), .val (.int (1 : Int32)), .val (.int (2 : Int32)), .val (.int (1 : Int32)), .val (.int (2 : Int32))] [(.int (0 : Int32))])
        refine own_go (fun t k => XS.istoreN X133.here hx rfl (hb hby d_prog_52_method_4_36) rfl (l' := #[.val (.ref a1), .val (.int (1 : Int32)), .val (.int (2 : Int32)), .val (.int (0 : Int32)), .val (.int (2 : Int32))]) rfl k) ?_
        show Go _ _ _ _ _ T133 (mkF m 37 #[.val (.ref a1), .val (.int (1 : Int32)), .val (.int (2 : Int32)), .val (.int (0 : Int32)), .val (.int (2 : Int32))] [])
        refine own_go (fun t k => XS.iinc X133.here hx rfl (hb hby d_prog_52_method_4_37) rfl (l' := #[.val (.ref a1), .val (.int (1 : Int32)), .val (.int (2 : Int32)), .val (.int (0 : Int32)), .val (.int (3 : Int32))]) rfl k) ?_
        show Go _ _ _ _ _ T133 (mkF m 40 #[.val (.ref a1), .val (.int (1 : Int32)), .val (.int (2 : Int32)), .val (.int (0 : Int32)), .val (.int (3 : Int32))] [])
        refine own_go (fun t k => XS.goto X133.here hx rfl (pc0 := 40) (pc' := 5) rfl (hb hby d_prog_52_method_4_40) (by decide) (by decide) k) ?_
        show Go _ _ _ _ _ T133 (mkF m 5 #[.val (.ref a1), .val (.int (1 : Int32)), .val (.int (2 : Int32)), .val (.int (0 : Int32)), .val (.int (3 : Int32))] [])
        refine own_go (fun t k => XS.iload X133.here hx rfl (hb hby d_prog_52_method_4_5) rfl k) ?_
        show Go _ _ _ _ _ T133 (mkF m 7 #[.val (.ref a1), .val (.int (1 : Int32)), .val (.int (2 : Int32)), .val (.int (0 : Int32)), .val (.int (3 : Int32))] [(.int (3 : Int32))])
        refine own_go (fun t k => XS.iloadN X133.here hx rfl (hb hby d_prog_52_method_4_7) rfl k) ?_
        show Go _ _ _ _ _ T133 (mkF m 8 #[.val (.ref a1), .val (.int (1 : Int32)), .val (.int (2 : Int32)), .val (.int (0 : Int32)), .val (.int (3 : Int32))] [(.int (1 : Int32)), (.int (3 : Int32))])
        refine own_go (fun t k => XS.iloadN X133.here hx rfl (hb hby d_prog_52_method_4_8) rfl k) ?_
        show Go _ _ _ _ _ T133 (mkF m 9 #[.val (.ref a1), .val (.int (1 : Int32)), .val (.int (2 : Int32)), .val (.int (0 : Int32)), .val (.int (3 : Int32))] [(.int (2 : Int32)), (.int (1 : Int32)), (.int (3 : Int32))])
        refine own_go (fun t k => XS.iadd X133.here hx rfl (hb hby d_prog_52_method_4_9) rfl k) ?_
        show Go _ _ _ _ _ T133 (mkF m 10 #[.val (.ref a1), .val (.int (1 : Int32)), .val (.int (2 : Int32)), .val (.int (0 : Int32)), .val (.int (3 : Int32))] [(.int (3 : Int32)), (.int (3 : Int32))])
        refine own_go (fun t k => XS.icmpYes X133.here hx rfl (pc0 := 10) (pc' := 43) rfl (hb hby d_prog_52_method_4_10) rfl (by decide) (by decide) (by decide) k) ?_
        show Go _ _ _ _ _ T133 (mkF m 43 #[.val (.ref a1), .val (.int (1 : Int32)), .val (.int (2 : Int32)), .val (.int (0 : Int32)), .val (.int (3 : Int32))] [])
        refine own_go (fun t k => XS.iloadN X133.here hx rfl (hb hby d_prog_52_method_4_43) rfl k) ?_
        show Go _ _ _ _ _ T133 (mkF m 44 #[.val (.ref a1), .val (.int (1 : Int32)), .val (.int (2 : Int32)), .val (.int (0 : Int32)), .val (.int (3 : Int32))] [(.int (0 : Int32))])
        refine own_retN X133 hx (own_lvN X133 hlk (by decide) (by decide)) (t := .boolean) hret (by simp) (hb hby d_prog_52_method_4_44) ?_
        have i0 : own_in (0 : Int32) (1 : Int32) (2 : Int32) = 0 := by decide
        have i1 : own_in (1 : Int32) (1 : Int32) (2 : Int32) = 1 := by decide
        have i2 : own_in (2 : Int32) (1 : Int32) (2 : Int32) = 1 := by decide
        have i3 : own_in (3 : Int32) (1 : Int32) (2 : Int32) = 0 := by decide
        have e : own_free t0 t1 t2 t3 cnt (1 : Int32) (2 : Int32) = (0 : Int32) := by simp [own_free, own_okp, i0, i1, i2, i3, hc130, hc134]
        exact ⟨(by rw [← hr, e]; try rfl), N0, e133⟩
      · skip
        show Go _ _ _ _ _ T133 (mkF m 31 #[.val (.ref a1), .val (.int (1 : Int32)), .val (.int (2 : Int32)), .val (.int (1 : Int32)), .val (.int (2 : Int32))] [])
        refine own_go (fun t k => XS.iconst X133.here hx rfl (hb hby d_prog_52_method_4_31) k) ?_
        show Go _ _ _ _ _ T133 (mkF m 32 #[.val (.ref a1), .val (.int (1 : Int32)), .val (.int (2 : Int32)), .val (.int (1 : Int32)), .val (.int (2 : Int32))] [(.int (1 : Int32))])
        refine own_go (fun t k => XS.goto X133.here hx rfl (pc0 := 32) (pc' := 36) rfl (hb hby d_prog_52_method_4_32) (by decide) (by decide) k) ?_
        show Go _ _ _ _ _ T133 (mkF m 36 #[.val (.ref a1), .val (.int (1 : Int32)), .val (.int (2 : Int32)), .val (.int (1 : Int32)), .val (.int (2 : Int32))] [(.int (1 : Int32))])
        refine own_go (fun t k => XS.istoreN X133.here hx rfl (hb hby d_prog_52_method_4_36) rfl (l' := #[.val (.ref a1), .val (.int (1 : Int32)), .val (.int (2 : Int32)), .val (.int (1 : Int32)), .val (.int (2 : Int32))]) rfl k) ?_
        show Go _ _ _ _ _ T133 (mkF m 37 #[.val (.ref a1), .val (.int (1 : Int32)), .val (.int (2 : Int32)), .val (.int (1 : Int32)), .val (.int (2 : Int32))] [])
        refine own_go (fun t k => XS.iinc X133.here hx rfl (hb hby d_prog_52_method_4_37) rfl (l' := #[.val (.ref a1), .val (.int (1 : Int32)), .val (.int (2 : Int32)), .val (.int (1 : Int32)), .val (.int (3 : Int32))]) rfl k) ?_
        show Go _ _ _ _ _ T133 (mkF m 40 #[.val (.ref a1), .val (.int (1 : Int32)), .val (.int (2 : Int32)), .val (.int (1 : Int32)), .val (.int (3 : Int32))] [])
        refine own_go (fun t k => XS.goto X133.here hx rfl (pc0 := 40) (pc' := 5) rfl (hb hby d_prog_52_method_4_40) (by decide) (by decide) k) ?_
        show Go _ _ _ _ _ T133 (mkF m 5 #[.val (.ref a1), .val (.int (1 : Int32)), .val (.int (2 : Int32)), .val (.int (1 : Int32)), .val (.int (3 : Int32))] [])
        refine own_go (fun t k => XS.iload X133.here hx rfl (hb hby d_prog_52_method_4_5) rfl k) ?_
        show Go _ _ _ _ _ T133 (mkF m 7 #[.val (.ref a1), .val (.int (1 : Int32)), .val (.int (2 : Int32)), .val (.int (1 : Int32)), .val (.int (3 : Int32))] [(.int (3 : Int32))])
        refine own_go (fun t k => XS.iloadN X133.here hx rfl (hb hby d_prog_52_method_4_7) rfl k) ?_
        show Go _ _ _ _ _ T133 (mkF m 8 #[.val (.ref a1), .val (.int (1 : Int32)), .val (.int (2 : Int32)), .val (.int (1 : Int32)), .val (.int (3 : Int32))] [(.int (1 : Int32)), (.int (3 : Int32))])
        refine own_go (fun t k => XS.iloadN X133.here hx rfl (hb hby d_prog_52_method_4_8) rfl k) ?_
        show Go _ _ _ _ _ T133 (mkF m 9 #[.val (.ref a1), .val (.int (1 : Int32)), .val (.int (2 : Int32)), .val (.int (1 : Int32)), .val (.int (3 : Int32))] [(.int (2 : Int32)), (.int (1 : Int32)), (.int (3 : Int32))])
        refine own_go (fun t k => XS.iadd X133.here hx rfl (hb hby d_prog_52_method_4_9) rfl k) ?_
        show Go _ _ _ _ _ T133 (mkF m 10 #[.val (.ref a1), .val (.int (1 : Int32)), .val (.int (2 : Int32)), .val (.int (1 : Int32)), .val (.int (3 : Int32))] [(.int (3 : Int32)), (.int (3 : Int32))])
        refine own_go (fun t k => XS.icmpYes X133.here hx rfl (pc0 := 10) (pc' := 43) rfl (hb hby d_prog_52_method_4_10) rfl (by decide) (by decide) (by decide) k) ?_
        show Go _ _ _ _ _ T133 (mkF m 43 #[.val (.ref a1), .val (.int (1 : Int32)), .val (.int (2 : Int32)), .val (.int (1 : Int32)), .val (.int (3 : Int32))] [])
        refine own_go (fun t k => XS.iloadN X133.here hx rfl (hb hby d_prog_52_method_4_43) rfl k) ?_
        show Go _ _ _ _ _ T133 (mkF m 44 #[.val (.ref a1), .val (.int (1 : Int32)), .val (.int (2 : Int32)), .val (.int (1 : Int32)), .val (.int (3 : Int32))] [(.int (1 : Int32))])
        refine own_retN X133 hx (own_lvN X133 hlk (by decide) (by decide)) (t := .boolean) hret (by simp) (hb hby d_prog_52_method_4_44) ?_
        have i0 : own_in (0 : Int32) (1 : Int32) (2 : Int32) = 0 := by decide
        have i1 : own_in (1 : Int32) (1 : Int32) (2 : Int32) = 1 := by decide
        have i2 : own_in (2 : Int32) (1 : Int32) (2 : Int32) = 1 := by decide
        have i3 : own_in (3 : Int32) (1 : Int32) (2 : Int32) = 0 := by decide
        have e : own_free t0 t1 t2 t3 cnt (1 : Int32) (2 : Int32) = (1 : Int32) := by simp [own_free, own_okp, i0, i1, i2, i3, hc130, hc134]
        exact ⟨(by rw [← hr, e]; try rfl), N0, e133⟩
  · skip
    show Go _ _ _ _ _ s₁ (mkF m 0 #[.val (.ref a1), .val (.int (1 : Int32)), .val (.int (3 : Int32)), .unset, .unset] [])
    refine own_go (fun t k => XS.iconst X0.here hx rfl (hb hby d_prog_52_method_4_0) k) ?_
    show Go _ _ _ _ _ s₁ (mkF m 1 #[.val (.ref a1), .val (.int (1 : Int32)), .val (.int (3 : Int32)), .unset, .unset] [(.int (1 : Int32))])
    refine own_go (fun t k => XS.istoreN X0.here hx rfl (hb hby d_prog_52_method_4_1) rfl (l' := #[.val (.ref a1), .val (.int (1 : Int32)), .val (.int (3 : Int32)), .val (.int (1 : Int32)), .unset]) rfl k) ?_
    show Go _ _ _ _ _ s₁ (mkF m 2 #[.val (.ref a1), .val (.int (1 : Int32)), .val (.int (3 : Int32)), .val (.int (1 : Int32)), .unset] [])
    refine own_go (fun t k => XS.iloadN X0.here hx rfl (hb hby d_prog_52_method_4_2) rfl k) ?_
    show Go _ _ _ _ _ s₁ (mkF m 3 #[.val (.ref a1), .val (.int (1 : Int32)), .val (.int (3 : Int32)), .val (.int (1 : Int32)), .unset] [(.int (1 : Int32))])
    refine own_go (fun t k => XS.istore X0.here hx rfl (hb hby d_prog_52_method_4_3) rfl (l' := #[.val (.ref a1), .val (.int (1 : Int32)), .val (.int (3 : Int32)), .val (.int (1 : Int32)), .val (.int (1 : Int32))]) rfl k) ?_
    show Go _ _ _ _ _ s₁ (mkF m 5 #[.val (.ref a1), .val (.int (1 : Int32)), .val (.int (3 : Int32)), .val (.int (1 : Int32)), .val (.int (1 : Int32))] [])
    refine own_go (fun t k => XS.iload X0.here hx rfl (hb hby d_prog_52_method_4_5) rfl k) ?_
    show Go _ _ _ _ _ s₁ (mkF m 7 #[.val (.ref a1), .val (.int (1 : Int32)), .val (.int (3 : Int32)), .val (.int (1 : Int32)), .val (.int (1 : Int32))] [(.int (1 : Int32))])
    refine own_go (fun t k => XS.iloadN X0.here hx rfl (hb hby d_prog_52_method_4_7) rfl k) ?_
    show Go _ _ _ _ _ s₁ (mkF m 8 #[.val (.ref a1), .val (.int (1 : Int32)), .val (.int (3 : Int32)), .val (.int (1 : Int32)), .val (.int (1 : Int32))] [(.int (1 : Int32)), (.int (1 : Int32))])
    refine own_go (fun t k => XS.iloadN X0.here hx rfl (hb hby d_prog_52_method_4_8) rfl k) ?_
    show Go _ _ _ _ _ s₁ (mkF m 9 #[.val (.ref a1), .val (.int (1 : Int32)), .val (.int (3 : Int32)), .val (.int (1 : Int32)), .val (.int (1 : Int32))] [(.int (3 : Int32)), (.int (1 : Int32)), (.int (1 : Int32))])
    refine own_go (fun t k => XS.iadd X0.here hx rfl (hb hby d_prog_52_method_4_9) rfl k) ?_
    show Go _ _ _ _ _ s₁ (mkF m 10 #[.val (.ref a1), .val (.int (1 : Int32)), .val (.int (3 : Int32)), .val (.int (1 : Int32)), .val (.int (1 : Int32))] [(.int (4 : Int32)), (.int (1 : Int32))])
    refine own_go (fun t k => XS.icmpNo X0.here hx rfl (hb hby d_prog_52_method_4_10) rfl (by decide) k) ?_
    show Go _ _ _ _ _ s₁ (mkF m 13 #[.val (.ref a1), .val (.int (1 : Int32)), .val (.int (3 : Int32)), .val (.int (1 : Int32)), .val (.int (1 : Int32))] [])
    refine own_go (fun t k => XS.iloadN X0.here hx rfl (hb hby d_prog_52_method_4_13) rfl k) ?_
    show Go _ _ _ _ _ s₁ (mkF m 14 #[.val (.ref a1), .val (.int (1 : Int32)), .val (.int (3 : Int32)), .val (.int (1 : Int32)), .val (.int (1 : Int32))] [(.int (1 : Int32))])
    refine own_go (fun t k => XS.ifNo X0.here hx rfl (hb hby d_prog_52_method_4_14) rfl (by decide) k) ?_
    show Go _ _ _ _ _ s₁ (mkF m 17 #[.val (.ref a1), .val (.int (1 : Int32)), .val (.int (3 : Int32)), .val (.int (1 : Int32)), .val (.int (1 : Int32))] [])
    refine own_go (fun t k => XS.aloadN X0.here hx rfl (hb hby d_prog_52_method_4_17) rfl rfl k) ?_
    show Go _ _ _ _ _ s₁ (mkF m 18 #[.val (.ref a1), .val (.int (1 : Int32)), .val (.int (3 : Int32)), .val (.int (1 : Int32)), .val (.int (1 : Int32))] [(.ref a1)])
    obtain ⟨T135, X135, e135, st135⟩ := getF X0 hx hZ hown (host := "") (Or.inl (hw _ (List.mem_of_getElem? (i := 19) rfl))) Via.refl e0 F_t (g := (mkF m 18 #[.val (.ref a1), .val (.int (1 : Int32)), .val (.int (3 : Int32)), .val (.int (1 : Int32)), .val (.int (1 : Int32))] [(.ref a1)])) rfl rfl (hb hby d_prog_52_method_4_18)
    refine own_go (fun t k => st135 t k) ?_
    show Go _ _ _ _ _ T135 (mkF m 21 #[.val (.ref a1), .val (.int (1 : Int32)), .val (.int (3 : Int32)), .val (.int (1 : Int32)), .val (.int (1 : Int32))] [(.ref b)])
    refine own_go (fun t k => XS.iload X135.here hx rfl (hb hby d_prog_52_method_4_21) rfl k) ?_
    show Go _ _ _ _ _ T135 (mkF m 23 #[.val (.ref a1), .val (.int (1 : Int32)), .val (.int (3 : Int32)), .val (.int (1 : Int32)), .val (.int (1 : Int32))] [(.int (1 : Int32)), (.ref b)])
    obtain ⟨cl136, Ar136, q136, S136, N136z, H136, G136⟩ := id V_b
    have hin136 := inb_of S136 (j := (1 : Int32)) (z := (4 : Int32)) ⟨by decide, by decide⟩
    have hat136 : cl136.slots[((1 : Int32)).toNatClampNeg]? = some (.int t1) := H136 _ (Nat.lt_of_not_le fun q => hin136 (Or.inr q))
    refine own_go (fun t k => X135.iaload hx (j := (1 : Int32)) (v := (.int t1)) (by rw [e135]; exact Ar136.1) (State.isArrayOf_alike hZ.alike Ar136.2.1) Ar136.2.2 hin136 hat136 (g := (mkF m 23 #[.val (.ref a1), .val (.int (1 : Int32)), .val (.int (3 : Int32)), .val (.int (1 : Int32)), .val (.int (1 : Int32))] [(.int (1 : Int32)), (.ref b)])) rfl rfl (hb hby d_prog_52_method_4_23) _ k) ?_
    show Go _ _ _ _ _ T135 (mkF m 24 #[.val (.ref a1), .val (.int (1 : Int32)), .val (.int (3 : Int32)), .val (.int (1 : Int32)), .val (.int (1 : Int32))] [(.int t1)])
    refine own_go (fun t k => XS.aloadN X135.here hx rfl (hb hby d_prog_52_method_4_24) rfl rfl k) ?_
    show Go _ _ _ _ _ T135 (mkF m 25 #[.val (.ref a1), .val (.int (1 : Int32)), .val (.int (3 : Int32)), .val (.int (1 : Int32)), .val (.int (1 : Int32))] [(.ref a1), (.int t1)])
    obtain ⟨T137, X137, e137, st137⟩ := getF X135 hx hZ hown (host := "") (Or.inl (hw _ (List.mem_of_getElem? (i := 16) rfl))) Via.refl e135 F_c (g := (mkF m 25 #[.val (.ref a1), .val (.int (1 : Int32)), .val (.int (3 : Int32)), .val (.int (1 : Int32)), .val (.int (1 : Int32))] [(.ref a1), (.int t1)])) rfl rfl (hb hby d_prog_52_method_4_25)
    refine own_go (fun t k => st137 t k) ?_
    show Go _ _ _ _ _ T137 (mkF m 28 #[.val (.ref a1), .val (.int (1 : Int32)), .val (.int (3 : Int32)), .val (.int (1 : Int32)), .val (.int (1 : Int32))] [(.int cnt), (.int t1)])
    refine own_icmpM (t1 < cnt) X137 hx (hb hby d_prog_52_method_4_28) (own_ge _ _) (by decide) (by decide) (pc' := 35) (fun hc138 => ?_) (fun hc138 => ?_)
    · skip
      show Go _ _ _ _ _ T137 (mkF m 35 #[.val (.ref a1), .val (.int (1 : Int32)), .val (.int (3 : Int32)), .val (.int (1 : Int32)), .val (.int (1 : Int32))] [])
      refine own_go (fun t k => XS.iconst X137.here hx rfl (hb hby d_prog_52_method_4_35) k) ?_
      show Go _ _ _ _ _ T137 (mkF m 36 #[.val (.ref a1), .val (.int (1 : Int32)), .val (.int (3 : Int32)), .val (.int (1 : Int32)), .val (.int (1 : Int32))] [(.int (0 : Int32))])
      refine own_go (fun t k => XS.istoreN X137.here hx rfl (hb hby d_prog_52_method_4_36) rfl (l' := #[.val (.ref a1), .val (.int (1 : Int32)), .val (.int (3 : Int32)), .val (.int (0 : Int32)), .val (.int (1 : Int32))]) rfl k) ?_
      show Go _ _ _ _ _ T137 (mkF m 37 #[.val (.ref a1), .val (.int (1 : Int32)), .val (.int (3 : Int32)), .val (.int (0 : Int32)), .val (.int (1 : Int32))] [])
      refine own_go (fun t k => XS.iinc X137.here hx rfl (hb hby d_prog_52_method_4_37) rfl (l' := #[.val (.ref a1), .val (.int (1 : Int32)), .val (.int (3 : Int32)), .val (.int (0 : Int32)), .val (.int (2 : Int32))]) rfl k) ?_
      show Go _ _ _ _ _ T137 (mkF m 40 #[.val (.ref a1), .val (.int (1 : Int32)), .val (.int (3 : Int32)), .val (.int (0 : Int32)), .val (.int (2 : Int32))] [])
      refine own_go (fun t k => XS.goto X137.here hx rfl (pc0 := 40) (pc' := 5) rfl (hb hby d_prog_52_method_4_40) (by decide) (by decide) k) ?_
      show Go _ _ _ _ _ T137 (mkF m 5 #[.val (.ref a1), .val (.int (1 : Int32)), .val (.int (3 : Int32)), .val (.int (0 : Int32)), .val (.int (2 : Int32))] [])
      refine own_go (fun t k => XS.iload X137.here hx rfl (hb hby d_prog_52_method_4_5) rfl k) ?_
      show Go _ _ _ _ _ T137 (mkF m 7 #[.val (.ref a1), .val (.int (1 : Int32)), .val (.int (3 : Int32)), .val (.int (0 : Int32)), .val (.int (2 : Int32))] [(.int (2 : Int32))])
      refine own_go (fun t k => XS.iloadN X137.here hx rfl (hb hby d_prog_52_method_4_7) rfl k) ?_
      show Go _ _ _ _ _ T137 (mkF m 8 #[.val (.ref a1), .val (.int (1 : Int32)), .val (.int (3 : Int32)), .val (.int (0 : Int32)), .val (.int (2 : Int32))] [(.int (1 : Int32)), (.int (2 : Int32))])
      refine own_go (fun t k => XS.iloadN X137.here hx rfl (hb hby d_prog_52_method_4_8) rfl k) ?_
      show Go _ _ _ _ _ T137 (mkF m 9 #[.val (.ref a1), .val (.int (1 : Int32)), .val (.int (3 : Int32)), .val (.int (0 : Int32)), .val (.int (2 : Int32))] [(.int (3 : Int32)), (.int (1 : Int32)), (.int (2 : Int32))])
      refine own_go (fun t k => XS.iadd X137.here hx rfl (hb hby d_prog_52_method_4_9) rfl k) ?_
      show Go _ _ _ _ _ T137 (mkF m 10 #[.val (.ref a1), .val (.int (1 : Int32)), .val (.int (3 : Int32)), .val (.int (0 : Int32)), .val (.int (2 : Int32))] [(.int (4 : Int32)), (.int (2 : Int32))])
      refine own_go (fun t k => XS.icmpNo X137.here hx rfl (hb hby d_prog_52_method_4_10) rfl (by decide) k) ?_
      show Go _ _ _ _ _ T137 (mkF m 13 #[.val (.ref a1), .val (.int (1 : Int32)), .val (.int (3 : Int32)), .val (.int (0 : Int32)), .val (.int (2 : Int32))] [])
      refine own_go (fun t k => XS.iloadN X137.here hx rfl (hb hby d_prog_52_method_4_13) rfl k) ?_
      show Go _ _ _ _ _ T137 (mkF m 14 #[.val (.ref a1), .val (.int (1 : Int32)), .val (.int (3 : Int32)), .val (.int (0 : Int32)), .val (.int (2 : Int32))] [(.int (0 : Int32))])
      refine own_go (fun t k => XS.ifYes X137.here hx rfl (pc0 := 14) (pc' := 43) rfl (hb hby d_prog_52_method_4_14) rfl (by decide) (by decide) (by decide) k) ?_
      show Go _ _ _ _ _ T137 (mkF m 43 #[.val (.ref a1), .val (.int (1 : Int32)), .val (.int (3 : Int32)), .val (.int (0 : Int32)), .val (.int (2 : Int32))] [])
      refine own_go (fun t k => XS.iloadN X137.here hx rfl (hb hby d_prog_52_method_4_43) rfl k) ?_
      show Go _ _ _ _ _ T137 (mkF m 44 #[.val (.ref a1), .val (.int (1 : Int32)), .val (.int (3 : Int32)), .val (.int (0 : Int32)), .val (.int (2 : Int32))] [(.int (0 : Int32))])
      refine own_retN X137 hx (own_lvN X137 hlk (by decide) (by decide)) (t := .boolean) hret (by simp) (hb hby d_prog_52_method_4_44) ?_
      have i0 : own_in (0 : Int32) (1 : Int32) (3 : Int32) = 0 := by decide
      have i1 : own_in (1 : Int32) (1 : Int32) (3 : Int32) = 1 := by decide
      have i2 : own_in (2 : Int32) (1 : Int32) (3 : Int32) = 1 := by decide
      have i3 : own_in (3 : Int32) (1 : Int32) (3 : Int32) = 1 := by decide
      have e : own_free t0 t1 t2 t3 cnt (1 : Int32) (3 : Int32) = (0 : Int32) := by simp [own_free, own_okp, i0, i1, i2, i3, hc138]
      exact ⟨(by rw [← hr, e]; try rfl), N0, e137⟩
    · skip
      show Go _ _ _ _ _ T137 (mkF m 31 #[.val (.ref a1), .val (.int (1 : Int32)), .val (.int (3 : Int32)), .val (.int (1 : Int32)), .val (.int (1 : Int32))] [])
      refine own_go (fun t k => XS.iconst X137.here hx rfl (hb hby d_prog_52_method_4_31) k) ?_
      show Go _ _ _ _ _ T137 (mkF m 32 #[.val (.ref a1), .val (.int (1 : Int32)), .val (.int (3 : Int32)), .val (.int (1 : Int32)), .val (.int (1 : Int32))] [(.int (1 : Int32))])
      refine own_go (fun t k => XS.goto X137.here hx rfl (pc0 := 32) (pc' := 36) rfl (hb hby d_prog_52_method_4_32) (by decide) (by decide) k) ?_
      show Go _ _ _ _ _ T137 (mkF m 36 #[.val (.ref a1), .val (.int (1 : Int32)), .val (.int (3 : Int32)), .val (.int (1 : Int32)), .val (.int (1 : Int32))] [(.int (1 : Int32))])
      refine own_go (fun t k => XS.istoreN X137.here hx rfl (hb hby d_prog_52_method_4_36) rfl (l' := #[.val (.ref a1), .val (.int (1 : Int32)), .val (.int (3 : Int32)), .val (.int (1 : Int32)), .val (.int (1 : Int32))]) rfl k) ?_
      show Go _ _ _ _ _ T137 (mkF m 37 #[.val (.ref a1), .val (.int (1 : Int32)), .val (.int (3 : Int32)), .val (.int (1 : Int32)), .val (.int (1 : Int32))] [])
      refine own_go (fun t k => XS.iinc X137.here hx rfl (hb hby d_prog_52_method_4_37) rfl (l' := #[.val (.ref a1), .val (.int (1 : Int32)), .val (.int (3 : Int32)), .val (.int (1 : Int32)), .val (.int (2 : Int32))]) rfl k) ?_
      show Go _ _ _ _ _ T137 (mkF m 40 #[.val (.ref a1), .val (.int (1 : Int32)), .val (.int (3 : Int32)), .val (.int (1 : Int32)), .val (.int (2 : Int32))] [])
      refine own_go (fun t k => XS.goto X137.here hx rfl (pc0 := 40) (pc' := 5) rfl (hb hby d_prog_52_method_4_40) (by decide) (by decide) k) ?_
      show Go _ _ _ _ _ T137 (mkF m 5 #[.val (.ref a1), .val (.int (1 : Int32)), .val (.int (3 : Int32)), .val (.int (1 : Int32)), .val (.int (2 : Int32))] [])
      refine own_go (fun t k => XS.iload X137.here hx rfl (hb hby d_prog_52_method_4_5) rfl k) ?_
      show Go _ _ _ _ _ T137 (mkF m 7 #[.val (.ref a1), .val (.int (1 : Int32)), .val (.int (3 : Int32)), .val (.int (1 : Int32)), .val (.int (2 : Int32))] [(.int (2 : Int32))])
      refine own_go (fun t k => XS.iloadN X137.here hx rfl (hb hby d_prog_52_method_4_7) rfl k) ?_
      show Go _ _ _ _ _ T137 (mkF m 8 #[.val (.ref a1), .val (.int (1 : Int32)), .val (.int (3 : Int32)), .val (.int (1 : Int32)), .val (.int (2 : Int32))] [(.int (1 : Int32)), (.int (2 : Int32))])
      refine own_go (fun t k => XS.iloadN X137.here hx rfl (hb hby d_prog_52_method_4_8) rfl k) ?_
      show Go _ _ _ _ _ T137 (mkF m 9 #[.val (.ref a1), .val (.int (1 : Int32)), .val (.int (3 : Int32)), .val (.int (1 : Int32)), .val (.int (2 : Int32))] [(.int (3 : Int32)), (.int (1 : Int32)), (.int (2 : Int32))])
      refine own_go (fun t k => XS.iadd X137.here hx rfl (hb hby d_prog_52_method_4_9) rfl k) ?_
      show Go _ _ _ _ _ T137 (mkF m 10 #[.val (.ref a1), .val (.int (1 : Int32)), .val (.int (3 : Int32)), .val (.int (1 : Int32)), .val (.int (2 : Int32))] [(.int (4 : Int32)), (.int (2 : Int32))])
      refine own_go (fun t k => XS.icmpNo X137.here hx rfl (hb hby d_prog_52_method_4_10) rfl (by decide) k) ?_
      show Go _ _ _ _ _ T137 (mkF m 13 #[.val (.ref a1), .val (.int (1 : Int32)), .val (.int (3 : Int32)), .val (.int (1 : Int32)), .val (.int (2 : Int32))] [])
      refine own_go (fun t k => XS.iloadN X137.here hx rfl (hb hby d_prog_52_method_4_13) rfl k) ?_
      show Go _ _ _ _ _ T137 (mkF m 14 #[.val (.ref a1), .val (.int (1 : Int32)), .val (.int (3 : Int32)), .val (.int (1 : Int32)), .val (.int (2 : Int32))] [(.int (1 : Int32))])
      refine own_go (fun t k => XS.ifNo X137.here hx rfl (hb hby d_prog_52_method_4_14) rfl (by decide) k) ?_
      show Go _ _ _ _ _ T137 (mkF m 17 #[.val (.ref a1), .val (.int (1 : Int32)), .val (.int (3 : Int32)), .val (.int (1 : Int32)), .val (.int (2 : Int32))] [])
      refine own_go (fun t k => XS.aloadN X137.here hx rfl (hb hby d_prog_52_method_4_17) rfl rfl k) ?_
      show Go _ _ _ _ _ T137 (mkF m 18 #[.val (.ref a1), .val (.int (1 : Int32)), .val (.int (3 : Int32)), .val (.int (1 : Int32)), .val (.int (2 : Int32))] [(.ref a1)])
      obtain ⟨T139, X139, e139, st139⟩ := getF X137 hx hZ hown (host := "") (Or.inl (hw _ (List.mem_of_getElem? (i := 19) rfl))) Via.refl e137 F_t (g := (mkF m 18 #[.val (.ref a1), .val (.int (1 : Int32)), .val (.int (3 : Int32)), .val (.int (1 : Int32)), .val (.int (2 : Int32))] [(.ref a1)])) rfl rfl (hb hby d_prog_52_method_4_18)
      refine own_go (fun t k => st139 t k) ?_
      show Go _ _ _ _ _ T139 (mkF m 21 #[.val (.ref a1), .val (.int (1 : Int32)), .val (.int (3 : Int32)), .val (.int (1 : Int32)), .val (.int (2 : Int32))] [(.ref b)])
      refine own_go (fun t k => XS.iload X139.here hx rfl (hb hby d_prog_52_method_4_21) rfl k) ?_
      show Go _ _ _ _ _ T139 (mkF m 23 #[.val (.ref a1), .val (.int (1 : Int32)), .val (.int (3 : Int32)), .val (.int (1 : Int32)), .val (.int (2 : Int32))] [(.int (2 : Int32)), (.ref b)])
      obtain ⟨cl140, Ar140, q140, S140, N140z, H140, G140⟩ := id V_b
      have hin140 := inb_of S140 (j := (2 : Int32)) (z := (4 : Int32)) ⟨by decide, by decide⟩
      have hat140 : cl140.slots[((2 : Int32)).toNatClampNeg]? = some (.int t2) := H140 _ (Nat.lt_of_not_le fun q => hin140 (Or.inr q))
      refine own_go (fun t k => X139.iaload hx (j := (2 : Int32)) (v := (.int t2)) (by rw [e139]; exact Ar140.1) (State.isArrayOf_alike hZ.alike Ar140.2.1) Ar140.2.2 hin140 hat140 (g := (mkF m 23 #[.val (.ref a1), .val (.int (1 : Int32)), .val (.int (3 : Int32)), .val (.int (1 : Int32)), .val (.int (2 : Int32))] [(.int (2 : Int32)), (.ref b)])) rfl rfl (hb hby d_prog_52_method_4_23) _ k) ?_
      show Go _ _ _ _ _ T139 (mkF m 24 #[.val (.ref a1), .val (.int (1 : Int32)), .val (.int (3 : Int32)), .val (.int (1 : Int32)), .val (.int (2 : Int32))] [(.int t2)])
      refine own_go (fun t k => XS.aloadN X139.here hx rfl (hb hby d_prog_52_method_4_24) rfl rfl k) ?_
      show Go _ _ _ _ _ T139 (mkF m 25 #[.val (.ref a1), .val (.int (1 : Int32)), .val (.int (3 : Int32)), .val (.int (1 : Int32)), .val (.int (2 : Int32))] [(.ref a1), (.int t2)])
      obtain ⟨T141, X141, e141, st141⟩ := getF X139 hx hZ hown (host := "") (Or.inl (hw _ (List.mem_of_getElem? (i := 16) rfl))) Via.refl e139 F_c (g := (mkF m 25 #[.val (.ref a1), .val (.int (1 : Int32)), .val (.int (3 : Int32)), .val (.int (1 : Int32)), .val (.int (2 : Int32))] [(.ref a1), (.int t2)])) rfl rfl (hb hby d_prog_52_method_4_25)
      refine own_go (fun t k => st141 t k) ?_
      show Go _ _ _ _ _ T141 (mkF m 28 #[.val (.ref a1), .val (.int (1 : Int32)), .val (.int (3 : Int32)), .val (.int (1 : Int32)), .val (.int (2 : Int32))] [(.int cnt), (.int t2)])
      refine own_icmpM (t2 < cnt) X141 hx (hb hby d_prog_52_method_4_28) (own_ge _ _) (by decide) (by decide) (pc' := 35) (fun hc142 => ?_) (fun hc142 => ?_)
      · skip
        show Go _ _ _ _ _ T141 (mkF m 35 #[.val (.ref a1), .val (.int (1 : Int32)), .val (.int (3 : Int32)), .val (.int (1 : Int32)), .val (.int (2 : Int32))] [])
        refine own_go (fun t k => XS.iconst X141.here hx rfl (hb hby d_prog_52_method_4_35) k) ?_
        show Go _ _ _ _ _ T141 (mkF m 36 #[.val (.ref a1), .val (.int (1 : Int32)), .val (.int (3 : Int32)), .val (.int (1 : Int32)), .val (.int (2 : Int32))] [(.int (0 : Int32))])
        refine own_go (fun t k => XS.istoreN X141.here hx rfl (hb hby d_prog_52_method_4_36) rfl (l' := #[.val (.ref a1), .val (.int (1 : Int32)), .val (.int (3 : Int32)), .val (.int (0 : Int32)), .val (.int (2 : Int32))]) rfl k) ?_
        show Go _ _ _ _ _ T141 (mkF m 37 #[.val (.ref a1), .val (.int (1 : Int32)), .val (.int (3 : Int32)), .val (.int (0 : Int32)), .val (.int (2 : Int32))] [])
        refine own_go (fun t k => XS.iinc X141.here hx rfl (hb hby d_prog_52_method_4_37) rfl (l' := #[.val (.ref a1), .val (.int (1 : Int32)), .val (.int (3 : Int32)), .val (.int (0 : Int32)), .val (.int (3 : Int32))]) rfl k) ?_
        show Go _ _ _ _ _ T141 (mkF m 40 #[.val (.ref a1), .val (.int (1 : Int32)), .val (.int (3 : Int32)), .val (.int (0 : Int32)), .val (.int (3 : Int32))] [])
        refine own_go (fun t k => XS.goto X141.here hx rfl (pc0 := 40) (pc' := 5) rfl (hb hby d_prog_52_method_4_40) (by decide) (by decide) k) ?_
        show Go _ _ _ _ _ T141 (mkF m 5 #[.val (.ref a1), .val (.int (1 : Int32)), .val (.int (3 : Int32)), .val (.int (0 : Int32)), .val (.int (3 : Int32))] [])
        refine own_go (fun t k => XS.iload X141.here hx rfl (hb hby d_prog_52_method_4_5) rfl k) ?_
        show Go _ _ _ _ _ T141 (mkF m 7 #[.val (.ref a1), .val (.int (1 : Int32)), .val (.int (3 : Int32)), .val (.int (0 : Int32)), .val (.int (3 : Int32))] [(.int (3 : Int32))])
        refine own_go (fun t k => XS.iloadN X141.here hx rfl (hb hby d_prog_52_method_4_7) rfl k) ?_
        show Go _ _ _ _ _ T141 (mkF m 8 #[.val (.ref a1), .val (.int (1 : Int32)), .val (.int (3 : Int32)), .val (.int (0 : Int32)), .val (.int (3 : Int32))] [(.int (1 : Int32)), (.int (3 : Int32))])
        refine own_go (fun t k => XS.iloadN X141.here hx rfl (hb hby d_prog_52_method_4_8) rfl k) ?_
        show Go _ _ _ _ _ T141 (mkF m 9 #[.val (.ref a1), .val (.int (1 : Int32)), .val (.int (3 : Int32)), .val (.int (0 : Int32)), .val (.int (3 : Int32))] [(.int (3 : Int32)), (.int (1 : Int32)), (.int (3 : Int32))])
        refine own_go (fun t k => XS.iadd X141.here hx rfl (hb hby d_prog_52_method_4_9) rfl k) ?_
        show Go _ _ _ _ _ T141 (mkF m 10 #[.val (.ref a1), .val (.int (1 : Int32)), .val (.int (3 : Int32)), .val (.int (0 : Int32)), .val (.int (3 : Int32))] [(.int (4 : Int32)), (.int (3 : Int32))])
        refine own_go (fun t k => XS.icmpNo X141.here hx rfl (hb hby d_prog_52_method_4_10) rfl (by decide) k) ?_
        show Go _ _ _ _ _ T141 (mkF m 13 #[.val (.ref a1), .val (.int (1 : Int32)), .val (.int (3 : Int32)), .val (.int (0 : Int32)), .val (.int (3 : Int32))] [])
        refine own_go (fun t k => XS.iloadN X141.here hx rfl (hb hby d_prog_52_method_4_13) rfl k) ?_
        show Go _ _ _ _ _ T141 (mkF m 14 #[.val (.ref a1), .val (.int (1 : Int32)), .val (.int (3 : Int32)), .val (.int (0 : Int32)), .val (.int (3 : Int32))] [(.int (0 : Int32))])
        refine own_go (fun t k => XS.ifYes X141.here hx rfl (pc0 := 14) (pc' := 43) rfl (hb hby d_prog_52_method_4_14) rfl (by decide) (by decide) (by decide) k) ?_
        show Go _ _ _ _ _ T141 (mkF m 43 #[.val (.ref a1), .val (.int (1 : Int32)), .val (.int (3 : Int32)), .val (.int (0 : Int32)), .val (.int (3 : Int32))] [])
        refine own_go (fun t k => XS.iloadN X141.here hx rfl (hb hby d_prog_52_method_4_43) rfl k) ?_
        show Go _ _ _ _ _ T141 (mkF m 44 #[.val (.ref a1), .val (.int (1 : Int32)), .val (.int (3 : Int32)), .val (.int (0 : Int32)), .val (.int (3 : Int32))] [(.int (0 : Int32))])
        refine own_retN X141 hx (own_lvN X141 hlk (by decide) (by decide)) (t := .boolean) hret (by simp) (hb hby d_prog_52_method_4_44) ?_
        have i0 : own_in (0 : Int32) (1 : Int32) (3 : Int32) = 0 := by decide
        have i1 : own_in (1 : Int32) (1 : Int32) (3 : Int32) = 1 := by decide
        have i2 : own_in (2 : Int32) (1 : Int32) (3 : Int32) = 1 := by decide
        have i3 : own_in (3 : Int32) (1 : Int32) (3 : Int32) = 1 := by decide
        have e : own_free t0 t1 t2 t3 cnt (1 : Int32) (3 : Int32) = (0 : Int32) := by simp [own_free, own_okp, i0, i1, i2, i3, hc138, hc142]
        exact ⟨(by rw [← hr, e]; try rfl), N0, e141⟩
      · skip
        show Go _ _ _ _ _ T141 (mkF m 31 #[.val (.ref a1), .val (.int (1 : Int32)), .val (.int (3 : Int32)), .val (.int (1 : Int32)), .val (.int (2 : Int32))] [])
        refine own_go (fun t k => XS.iconst X141.here hx rfl (hb hby d_prog_52_method_4_31) k) ?_
        show Go _ _ _ _ _ T141 (mkF m 32 #[.val (.ref a1), .val (.int (1 : Int32)), .val (.int (3 : Int32)), .val (.int (1 : Int32)), .val (.int (2 : Int32))] [(.int (1 : Int32))])
        refine own_go (fun t k => XS.goto X141.here hx rfl (pc0 := 32) (pc' := 36) rfl (hb hby d_prog_52_method_4_32) (by decide) (by decide) k) ?_
        show Go _ _ _ _ _ T141 (mkF m 36 #[.val (.ref a1), .val (.int (1 : Int32)), .val (.int (3 : Int32)), .val (.int (1 : Int32)), .val (.int (2 : Int32))] [(.int (1 : Int32))])
        refine own_go (fun t k => XS.istoreN X141.here hx rfl (hb hby d_prog_52_method_4_36) rfl (l' := #[.val (.ref a1), .val (.int (1 : Int32)), .val (.int (3 : Int32)), .val (.int (1 : Int32)), .val (.int (2 : Int32))]) rfl k) ?_
        show Go _ _ _ _ _ T141 (mkF m 37 #[.val (.ref a1), .val (.int (1 : Int32)), .val (.int (3 : Int32)), .val (.int (1 : Int32)), .val (.int (2 : Int32))] [])
        refine own_go (fun t k => XS.iinc X141.here hx rfl (hb hby d_prog_52_method_4_37) rfl (l' := #[.val (.ref a1), .val (.int (1 : Int32)), .val (.int (3 : Int32)), .val (.int (1 : Int32)), .val (.int (3 : Int32))]) rfl k) ?_
        show Go _ _ _ _ _ T141 (mkF m 40 #[.val (.ref a1), .val (.int (1 : Int32)), .val (.int (3 : Int32)), .val (.int (1 : Int32)), .val (.int (3 : Int32))] [])
        refine own_go (fun t k => XS.goto X141.here hx rfl (pc0 := 40) (pc' := 5) rfl (hb hby d_prog_52_method_4_40) (by decide) (by decide) k) ?_
        show Go _ _ _ _ _ T141 (mkF m 5 #[.val (.ref a1), .val (.int (1 : Int32)), .val (.int (3 : Int32)), .val (.int (1 : Int32)), .val (.int (3 : Int32))] [])
        refine own_go (fun t k => XS.iload X141.here hx rfl (hb hby d_prog_52_method_4_5) rfl k) ?_
        show Go _ _ _ _ _ T141 (mkF m 7 #[.val (.ref a1), .val (.int (1 : Int32)), .val (.int (3 : Int32)), .val (.int (1 : Int32)), .val (.int (3 : Int32))] [(.int (3 : Int32))])
        refine own_go (fun t k => XS.iloadN X141.here hx rfl (hb hby d_prog_52_method_4_7) rfl k) ?_
        show Go _ _ _ _ _ T141 (mkF m 8 #[.val (.ref a1), .val (.int (1 : Int32)), .val (.int (3 : Int32)), .val (.int (1 : Int32)), .val (.int (3 : Int32))] [(.int (1 : Int32)), (.int (3 : Int32))])
        refine own_go (fun t k => XS.iloadN X141.here hx rfl (hb hby d_prog_52_method_4_8) rfl k) ?_
        show Go _ _ _ _ _ T141 (mkF m 9 #[.val (.ref a1), .val (.int (1 : Int32)), .val (.int (3 : Int32)), .val (.int (1 : Int32)), .val (.int (3 : Int32))] [(.int (3 : Int32)), (.int (1 : Int32)), (.int (3 : Int32))])
        refine own_go (fun t k => XS.iadd X141.here hx rfl (hb hby d_prog_52_method_4_9) rfl k) ?_
        show Go _ _ _ _ _ T141 (mkF m 10 #[.val (.ref a1), .val (.int (1 : Int32)), .val (.int (3 : Int32)), .val (.int (1 : Int32)), .val (.int (3 : Int32))] [(.int (4 : Int32)), (.int (3 : Int32))])
        refine own_go (fun t k => XS.icmpNo X141.here hx rfl (hb hby d_prog_52_method_4_10) rfl (by decide) k) ?_
        show Go _ _ _ _ _ T141 (mkF m 13 #[.val (.ref a1), .val (.int (1 : Int32)), .val (.int (3 : Int32)), .val (.int (1 : Int32)), .val (.int (3 : Int32))] [])
        refine own_go (fun t k => XS.iloadN X141.here hx rfl (hb hby d_prog_52_method_4_13) rfl k) ?_
        show Go _ _ _ _ _ T141 (mkF m 14 #[.val (.ref a1), .val (.int (1 : Int32)), .val (.int (3 : Int32)), .val (.int (1 : Int32)), .val (.int (3 : Int32))] [(.int (1 : Int32))])
        refine own_go (fun t k => XS.ifNo X141.here hx rfl (hb hby d_prog_52_method_4_14) rfl (by decide) k) ?_
        show Go _ _ _ _ _ T141 (mkF m 17 #[.val (.ref a1), .val (.int (1 : Int32)), .val (.int (3 : Int32)), .val (.int (1 : Int32)), .val (.int (3 : Int32))] [])
        refine own_go (fun t k => XS.aloadN X141.here hx rfl (hb hby d_prog_52_method_4_17) rfl rfl k) ?_
        show Go _ _ _ _ _ T141 (mkF m 18 #[.val (.ref a1), .val (.int (1 : Int32)), .val (.int (3 : Int32)), .val (.int (1 : Int32)), .val (.int (3 : Int32))] [(.ref a1)])
        obtain ⟨T143, X143, e143, st143⟩ := getF X141 hx hZ hown (host := "") (Or.inl (hw _ (List.mem_of_getElem? (i := 19) rfl))) Via.refl e141 F_t (g := (mkF m 18 #[.val (.ref a1), .val (.int (1 : Int32)), .val (.int (3 : Int32)), .val (.int (1 : Int32)), .val (.int (3 : Int32))] [(.ref a1)])) rfl rfl (hb hby d_prog_52_method_4_18)
        refine own_go (fun t k => st143 t k) ?_
        show Go _ _ _ _ _ T143 (mkF m 21 #[.val (.ref a1), .val (.int (1 : Int32)), .val (.int (3 : Int32)), .val (.int (1 : Int32)), .val (.int (3 : Int32))] [(.ref b)])
        refine own_go (fun t k => XS.iload X143.here hx rfl (hb hby d_prog_52_method_4_21) rfl k) ?_
        show Go _ _ _ _ _ T143 (mkF m 23 #[.val (.ref a1), .val (.int (1 : Int32)), .val (.int (3 : Int32)), .val (.int (1 : Int32)), .val (.int (3 : Int32))] [(.int (3 : Int32)), (.ref b)])
        obtain ⟨cl144, Ar144, q144, S144, N144z, H144, G144⟩ := id V_b
        have hin144 := inb_of S144 (j := (3 : Int32)) (z := (4 : Int32)) ⟨by decide, by decide⟩
        have hat144 : cl144.slots[((3 : Int32)).toNatClampNeg]? = some (.int t3) := H144 _ (Nat.lt_of_not_le fun q => hin144 (Or.inr q))
        refine own_go (fun t k => X143.iaload hx (j := (3 : Int32)) (v := (.int t3)) (by rw [e143]; exact Ar144.1) (State.isArrayOf_alike hZ.alike Ar144.2.1) Ar144.2.2 hin144 hat144 (g := (mkF m 23 #[.val (.ref a1), .val (.int (1 : Int32)), .val (.int (3 : Int32)), .val (.int (1 : Int32)), .val (.int (3 : Int32))] [(.int (3 : Int32)), (.ref b)])) rfl rfl (hb hby d_prog_52_method_4_23) _ k) ?_
        show Go _ _ _ _ _ T143 (mkF m 24 #[.val (.ref a1), .val (.int (1 : Int32)), .val (.int (3 : Int32)), .val (.int (1 : Int32)), .val (.int (3 : Int32))] [(.int t3)])
        refine own_go (fun t k => XS.aloadN X143.here hx rfl (hb hby d_prog_52_method_4_24) rfl rfl k) ?_
        show Go _ _ _ _ _ T143 (mkF m 25 #[.val (.ref a1), .val (.int (1 : Int32)), .val (.int (3 : Int32)), .val (.int (1 : Int32)), .val (.int (3 : Int32))] [(.ref a1), (.int t3)])
        obtain ⟨T145, X145, e145, st145⟩ := getF X143 hx hZ hown (host := "") (Or.inl (hw _ (List.mem_of_getElem? (i := 16) rfl))) Via.refl e143 F_c (g := (mkF m 25 #[.val (.ref a1), .val (.int (1 : Int32)), .val (.int (3 : Int32)), .val (.int (1 : Int32)), .val (.int (3 : Int32))] [(.ref a1), (.int t3)])) rfl rfl (hb hby d_prog_52_method_4_25)
        refine own_go (fun t k => st145 t k) ?_
        show Go _ _ _ _ _ T145 (mkF m 28 #[.val (.ref a1), .val (.int (1 : Int32)), .val (.int (3 : Int32)), .val (.int (1 : Int32)), .val (.int (3 : Int32))] [(.int cnt), (.int t3)])
        refine own_icmpM (t3 < cnt) X145 hx (hb hby d_prog_52_method_4_28) (own_ge _ _) (by decide) (by decide) (pc' := 35) (fun hc146 => ?_) (fun hc146 => ?_)
        · skip
          show Go _ _ _ _ _ T145 (mkF m 35 #[.val (.ref a1), .val (.int (1 : Int32)), .val (.int (3 : Int32)), .val (.int (1 : Int32)), .val (.int (3 : Int32))] [])
          refine own_go (fun t k => XS.iconst X145.here hx rfl (hb hby d_prog_52_method_4_35) k) ?_
          show Go _ _ _ _ _ T145 (mkF m 36 #[.val (.ref a1), .val (.int (1 : Int32)), .val (.int (3 : Int32)), .val (.int (1 : Int32)), .val (.int (3 : Int32))] [(.int (0 : Int32))])
          refine own_go (fun t k => XS.istoreN X145.here hx rfl (hb hby d_prog_52_method_4_36) rfl (l' := #[.val (.ref a1), .val (.int (1 : Int32)), .val (.int (3 : Int32)), .val (.int (0 : Int32)), .val (.int (3 : Int32))]) rfl k) ?_
          show Go _ _ _ _ _ T145 (mkF m 37 #[.val (.ref a1), .val (.int (1 : Int32)), .val (.int (3 : Int32)), .val (.int (0 : Int32)), .val (.int (3 : Int32))] [])
          refine own_go (fun t k => XS.iinc X145.here hx rfl (hb hby d_prog_52_method_4_37) rfl (l' := #[.val (.ref a1), .val (.int (1 : Int32)), .val (.int (3 : Int32)), .val (.int (0 : Int32)), .val (.int (4 : Int32))]) rfl k) ?_
          show Go _ _ _ _ _ T145 (mkF m 40 #[.val (.ref a1), .val (.int (1 : Int32)), .val (.int (3 : Int32)), .val (.int (0 : Int32)), .val (.int (4 : Int32))] [])
          refine own_go (fun t k => XS.goto X145.here hx rfl (pc0 := 40) (pc' := 5) rfl (hb hby d_prog_52_method_4_40) (by decide) (by decide) k) ?_
          show Go _ _ _ _ _ T145 (mkF m 5 #[.val (.ref a1), .val (.int (1 : Int32)), .val (.int (3 : Int32)), .val (.int (0 : Int32)), .val (.int (4 : Int32))] [])
          refine own_go (fun t k => XS.iload X145.here hx rfl (hb hby d_prog_52_method_4_5) rfl k) ?_
          show Go _ _ _ _ _ T145 (mkF m 7 #[.val (.ref a1), .val (.int (1 : Int32)), .val (.int (3 : Int32)), .val (.int (0 : Int32)), .val (.int (4 : Int32))] [(.int (4 : Int32))])
          refine own_go (fun t k => XS.iloadN X145.here hx rfl (hb hby d_prog_52_method_4_7) rfl k) ?_
          show Go _ _ _ _ _ T145 (mkF m 8 #[.val (.ref a1), .val (.int (1 : Int32)), .val (.int (3 : Int32)), .val (.int (0 : Int32)), .val (.int (4 : Int32))] [(.int (1 : Int32)), (.int (4 : Int32))])
          refine own_go (fun t k => XS.iloadN X145.here hx rfl (hb hby d_prog_52_method_4_8) rfl k) ?_
          show Go _ _ _ _ _ T145 (mkF m 9 #[.val (.ref a1), .val (.int (1 : Int32)), .val (.int (3 : Int32)), .val (.int (0 : Int32)), .val (.int (4 : Int32))] [(.int (3 : Int32)), (.int (1 : Int32)), (.int (4 : Int32))])
          refine own_go (fun t k => XS.iadd X145.here hx rfl (hb hby d_prog_52_method_4_9) rfl k) ?_
          show Go _ _ _ _ _ T145 (mkF m 10 #[.val (.ref a1), .val (.int (1 : Int32)), .val (.int (3 : Int32)), .val (.int (0 : Int32)), .val (.int (4 : Int32))] [(.int (4 : Int32)), (.int (4 : Int32))])
          refine own_go (fun t k => XS.icmpYes X145.here hx rfl (pc0 := 10) (pc' := 43) rfl (hb hby d_prog_52_method_4_10) rfl (by decide) (by decide) (by decide) k) ?_
          show Go _ _ _ _ _ T145 (mkF m 43 #[.val (.ref a1), .val (.int (1 : Int32)), .val (.int (3 : Int32)), .val (.int (0 : Int32)), .val (.int (4 : Int32))] [])
          refine own_go (fun t k => XS.iloadN X145.here hx rfl (hb hby d_prog_52_method_4_43) rfl k) ?_
          show Go _ _ _ _ _ T145 (mkF m 44 #[.val (.ref a1), .val (.int (1 : Int32)), .val (.int (3 : Int32)), .val (.int (0 : Int32)), .val (.int (4 : Int32))] [(.int (0 : Int32))])
          refine own_retN X145 hx (own_lvN X145 hlk (by decide) (by decide)) (t := .boolean) hret (by simp) (hb hby d_prog_52_method_4_44) ?_
          have i0 : own_in (0 : Int32) (1 : Int32) (3 : Int32) = 0 := by decide
          have i1 : own_in (1 : Int32) (1 : Int32) (3 : Int32) = 1 := by decide
          have i2 : own_in (2 : Int32) (1 : Int32) (3 : Int32) = 1 := by decide
          have i3 : own_in (3 : Int32) (1 : Int32) (3 : Int32) = 1 := by decide
          have e : own_free t0 t1 t2 t3 cnt (1 : Int32) (3 : Int32) = (0 : Int32) := by simp [own_free, own_okp, i0, i1, i2, i3, hc138, hc142, hc146]
          exact ⟨(by rw [← hr, e]; try rfl), N0, e145⟩
        · skip
          show Go _ _ _ _ _ T145 (mkF m 31 #[.val (.ref a1), .val (.int (1 : Int32)), .val (.int (3 : Int32)), .val (.int (1 : Int32)), .val (.int (3 : Int32))] [])
          refine own_go (fun t k => XS.iconst X145.here hx rfl (hb hby d_prog_52_method_4_31) k) ?_
          show Go _ _ _ _ _ T145 (mkF m 32 #[.val (.ref a1), .val (.int (1 : Int32)), .val (.int (3 : Int32)), .val (.int (1 : Int32)), .val (.int (3 : Int32))] [(.int (1 : Int32))])
          refine own_go (fun t k => XS.goto X145.here hx rfl (pc0 := 32) (pc' := 36) rfl (hb hby d_prog_52_method_4_32) (by decide) (by decide) k) ?_
          show Go _ _ _ _ _ T145 (mkF m 36 #[.val (.ref a1), .val (.int (1 : Int32)), .val (.int (3 : Int32)), .val (.int (1 : Int32)), .val (.int (3 : Int32))] [(.int (1 : Int32))])
          refine own_go (fun t k => XS.istoreN X145.here hx rfl (hb hby d_prog_52_method_4_36) rfl (l' := #[.val (.ref a1), .val (.int (1 : Int32)), .val (.int (3 : Int32)), .val (.int (1 : Int32)), .val (.int (3 : Int32))]) rfl k) ?_
          show Go _ _ _ _ _ T145 (mkF m 37 #[.val (.ref a1), .val (.int (1 : Int32)), .val (.int (3 : Int32)), .val (.int (1 : Int32)), .val (.int (3 : Int32))] [])
          refine own_go (fun t k => XS.iinc X145.here hx rfl (hb hby d_prog_52_method_4_37) rfl (l' := #[.val (.ref a1), .val (.int (1 : Int32)), .val (.int (3 : Int32)), .val (.int (1 : Int32)), .val (.int (4 : Int32))]) rfl k) ?_
          show Go _ _ _ _ _ T145 (mkF m 40 #[.val (.ref a1), .val (.int (1 : Int32)), .val (.int (3 : Int32)), .val (.int (1 : Int32)), .val (.int (4 : Int32))] [])
          refine own_go (fun t k => XS.goto X145.here hx rfl (pc0 := 40) (pc' := 5) rfl (hb hby d_prog_52_method_4_40) (by decide) (by decide) k) ?_
          show Go _ _ _ _ _ T145 (mkF m 5 #[.val (.ref a1), .val (.int (1 : Int32)), .val (.int (3 : Int32)), .val (.int (1 : Int32)), .val (.int (4 : Int32))] [])
          refine own_go (fun t k => XS.iload X145.here hx rfl (hb hby d_prog_52_method_4_5) rfl k) ?_
          show Go _ _ _ _ _ T145 (mkF m 7 #[.val (.ref a1), .val (.int (1 : Int32)), .val (.int (3 : Int32)), .val (.int (1 : Int32)), .val (.int (4 : Int32))] [(.int (4 : Int32))])
          refine own_go (fun t k => XS.iloadN X145.here hx rfl (hb hby d_prog_52_method_4_7) rfl k) ?_
          show Go _ _ _ _ _ T145 (mkF m 8 #[.val (.ref a1), .val (.int (1 : Int32)), .val (.int (3 : Int32)), .val (.int (1 : Int32)), .val (.int (4 : Int32))] [(.int (1 : Int32)), (.int (4 : Int32))])
          refine own_go (fun t k => XS.iloadN X145.here hx rfl (hb hby d_prog_52_method_4_8) rfl k) ?_
          show Go _ _ _ _ _ T145 (mkF m 9 #[.val (.ref a1), .val (.int (1 : Int32)), .val (.int (3 : Int32)), .val (.int (1 : Int32)), .val (.int (4 : Int32))] [(.int (3 : Int32)), (.int (1 : Int32)), (.int (4 : Int32))])
          refine own_go (fun t k => XS.iadd X145.here hx rfl (hb hby d_prog_52_method_4_9) rfl k) ?_
          show Go _ _ _ _ _ T145 (mkF m 10 #[.val (.ref a1), .val (.int (1 : Int32)), .val (.int (3 : Int32)), .val (.int (1 : Int32)), .val (.int (4 : Int32))] [(.int (4 : Int32)), (.int (4 : Int32))])
          refine own_go (fun t k => XS.icmpYes X145.here hx rfl (pc0 := 10) (pc' := 43) rfl (hb hby d_prog_52_method_4_10) rfl (by decide) (by decide) (by decide) k) ?_
          show Go _ _ _ _ _ T145 (mkF m 43 #[.val (.ref a1), .val (.int (1 : Int32)), .val (.int (3 : Int32)), .val (.int (1 : Int32)), .val (.int (4 : Int32))] [])
          refine own_go (fun t k => XS.iloadN X145.here hx rfl (hb hby d_prog_52_method_4_43) rfl k) ?_
          show Go _ _ _ _ _ T145 (mkF m 44 #[.val (.ref a1), .val (.int (1 : Int32)), .val (.int (3 : Int32)), .val (.int (1 : Int32)), .val (.int (4 : Int32))] [(.int (1 : Int32))])
          refine own_retN X145 hx (own_lvN X145 hlk (by decide) (by decide)) (t := .boolean) hret (by simp) (hb hby d_prog_52_method_4_44) ?_
          have i0 : own_in (0 : Int32) (1 : Int32) (3 : Int32) = 0 := by decide
          have i1 : own_in (1 : Int32) (1 : Int32) (3 : Int32) = 1 := by decide
          have i2 : own_in (2 : Int32) (1 : Int32) (3 : Int32) = 1 := by decide
          have i3 : own_in (3 : Int32) (1 : Int32) (3 : Int32) = 1 := by decide
          have e : own_free t0 t1 t2 t3 cnt (1 : Int32) (3 : Int32) = (1 : Int32) := by simp [own_free, own_okp, i0, i1, i2, i3, hc138, hc142, hc146]
          exact ⟨(by rw [← hr, e]; try rfl), N0, e145⟩
  · skip
    show Go _ _ _ _ _ s₁ (mkF m 0 #[.val (.ref a1), .val (.int (2 : Int32)), .val (.int (0 : Int32)), .unset, .unset] [])
    refine own_go (fun t k => XS.iconst X0.here hx rfl (hb hby d_prog_52_method_4_0) k) ?_
    show Go _ _ _ _ _ s₁ (mkF m 1 #[.val (.ref a1), .val (.int (2 : Int32)), .val (.int (0 : Int32)), .unset, .unset] [(.int (1 : Int32))])
    refine own_go (fun t k => XS.istoreN X0.here hx rfl (hb hby d_prog_52_method_4_1) rfl (l' := #[.val (.ref a1), .val (.int (2 : Int32)), .val (.int (0 : Int32)), .val (.int (1 : Int32)), .unset]) rfl k) ?_
    show Go _ _ _ _ _ s₁ (mkF m 2 #[.val (.ref a1), .val (.int (2 : Int32)), .val (.int (0 : Int32)), .val (.int (1 : Int32)), .unset] [])
    refine own_go (fun t k => XS.iloadN X0.here hx rfl (hb hby d_prog_52_method_4_2) rfl k) ?_
    show Go _ _ _ _ _ s₁ (mkF m 3 #[.val (.ref a1), .val (.int (2 : Int32)), .val (.int (0 : Int32)), .val (.int (1 : Int32)), .unset] [(.int (2 : Int32))])
    refine own_go (fun t k => XS.istore X0.here hx rfl (hb hby d_prog_52_method_4_3) rfl (l' := #[.val (.ref a1), .val (.int (2 : Int32)), .val (.int (0 : Int32)), .val (.int (1 : Int32)), .val (.int (2 : Int32))]) rfl k) ?_
    show Go _ _ _ _ _ s₁ (mkF m 5 #[.val (.ref a1), .val (.int (2 : Int32)), .val (.int (0 : Int32)), .val (.int (1 : Int32)), .val (.int (2 : Int32))] [])
    refine own_go (fun t k => XS.iload X0.here hx rfl (hb hby d_prog_52_method_4_5) rfl k) ?_
    show Go _ _ _ _ _ s₁ (mkF m 7 #[.val (.ref a1), .val (.int (2 : Int32)), .val (.int (0 : Int32)), .val (.int (1 : Int32)), .val (.int (2 : Int32))] [(.int (2 : Int32))])
    refine own_go (fun t k => XS.iloadN X0.here hx rfl (hb hby d_prog_52_method_4_7) rfl k) ?_
    show Go _ _ _ _ _ s₁ (mkF m 8 #[.val (.ref a1), .val (.int (2 : Int32)), .val (.int (0 : Int32)), .val (.int (1 : Int32)), .val (.int (2 : Int32))] [(.int (2 : Int32)), (.int (2 : Int32))])
    refine own_go (fun t k => XS.iloadN X0.here hx rfl (hb hby d_prog_52_method_4_8) rfl k) ?_
    show Go _ _ _ _ _ s₁ (mkF m 9 #[.val (.ref a1), .val (.int (2 : Int32)), .val (.int (0 : Int32)), .val (.int (1 : Int32)), .val (.int (2 : Int32))] [(.int (0 : Int32)), (.int (2 : Int32)), (.int (2 : Int32))])
    refine own_go (fun t k => XS.iadd X0.here hx rfl (hb hby d_prog_52_method_4_9) rfl k) ?_
    show Go _ _ _ _ _ s₁ (mkF m 10 #[.val (.ref a1), .val (.int (2 : Int32)), .val (.int (0 : Int32)), .val (.int (1 : Int32)), .val (.int (2 : Int32))] [(.int (2 : Int32)), (.int (2 : Int32))])
    refine own_go (fun t k => XS.icmpYes X0.here hx rfl (pc0 := 10) (pc' := 43) rfl (hb hby d_prog_52_method_4_10) rfl (by decide) (by decide) (by decide) k) ?_
    show Go _ _ _ _ _ s₁ (mkF m 43 #[.val (.ref a1), .val (.int (2 : Int32)), .val (.int (0 : Int32)), .val (.int (1 : Int32)), .val (.int (2 : Int32))] [])
    refine own_go (fun t k => XS.iloadN X0.here hx rfl (hb hby d_prog_52_method_4_43) rfl k) ?_
    show Go _ _ _ _ _ s₁ (mkF m 44 #[.val (.ref a1), .val (.int (2 : Int32)), .val (.int (0 : Int32)), .val (.int (1 : Int32)), .val (.int (2 : Int32))] [(.int (1 : Int32))])
    refine own_retN X0 hx (own_lvN X0 hlk (by decide) (by decide)) (t := .boolean) hret (by simp) (hb hby d_prog_52_method_4_44) ?_
    have i0 : own_in (0 : Int32) (2 : Int32) (0 : Int32) = 0 := by decide
    have i1 : own_in (1 : Int32) (2 : Int32) (0 : Int32) = 0 := by decide
    have i2 : own_in (2 : Int32) (2 : Int32) (0 : Int32) = 0 := by decide
    have i3 : own_in (3 : Int32) (2 : Int32) (0 : Int32) = 0 := by decide
    have e : own_free t0 t1 t2 t3 cnt (2 : Int32) (0 : Int32) = (1 : Int32) := by simp [own_free, own_okp, i0, i1, i2, i3]
    exact ⟨(by rw [← hr, e]; try rfl), N0, e0⟩
  · skip
    show Go _ _ _ _ _ s₁ (mkF m 0 #[.val (.ref a1), .val (.int (2 : Int32)), .val (.int (1 : Int32)), .unset, .unset] [])
    refine own_go (fun t k => XS.iconst X0.here hx rfl (hb hby d_prog_52_method_4_0) k) ?_
    show Go _ _ _ _ _ s₁ (mkF m 1 #[.val (.ref a1), .val (.int (2 : Int32)), .val (.int (1 : Int32)), .unset, .unset] [(.int (1 : Int32))])
    refine own_go (fun t k => XS.istoreN X0.here hx rfl (hb hby d_prog_52_method_4_1) rfl (l' := #[.val (.ref a1), .val (.int (2 : Int32)), .val (.int (1 : Int32)), .val (.int (1 : Int32)), .unset]) rfl k) ?_
    show Go _ _ _ _ _ s₁ (mkF m 2 #[.val (.ref a1), .val (.int (2 : Int32)), .val (.int (1 : Int32)), .val (.int (1 : Int32)), .unset] [])
    refine own_go (fun t k => XS.iloadN X0.here hx rfl (hb hby d_prog_52_method_4_2) rfl k) ?_
    show Go _ _ _ _ _ s₁ (mkF m 3 #[.val (.ref a1), .val (.int (2 : Int32)), .val (.int (1 : Int32)), .val (.int (1 : Int32)), .unset] [(.int (2 : Int32))])
    refine own_go (fun t k => XS.istore X0.here hx rfl (hb hby d_prog_52_method_4_3) rfl (l' := #[.val (.ref a1), .val (.int (2 : Int32)), .val (.int (1 : Int32)), .val (.int (1 : Int32)), .val (.int (2 : Int32))]) rfl k) ?_
    show Go _ _ _ _ _ s₁ (mkF m 5 #[.val (.ref a1), .val (.int (2 : Int32)), .val (.int (1 : Int32)), .val (.int (1 : Int32)), .val (.int (2 : Int32))] [])
    refine own_go (fun t k => XS.iload X0.here hx rfl (hb hby d_prog_52_method_4_5) rfl k) ?_
    show Go _ _ _ _ _ s₁ (mkF m 7 #[.val (.ref a1), .val (.int (2 : Int32)), .val (.int (1 : Int32)), .val (.int (1 : Int32)), .val (.int (2 : Int32))] [(.int (2 : Int32))])
    refine own_go (fun t k => XS.iloadN X0.here hx rfl (hb hby d_prog_52_method_4_7) rfl k) ?_
    show Go _ _ _ _ _ s₁ (mkF m 8 #[.val (.ref a1), .val (.int (2 : Int32)), .val (.int (1 : Int32)), .val (.int (1 : Int32)), .val (.int (2 : Int32))] [(.int (2 : Int32)), (.int (2 : Int32))])
    refine own_go (fun t k => XS.iloadN X0.here hx rfl (hb hby d_prog_52_method_4_8) rfl k) ?_
    show Go _ _ _ _ _ s₁ (mkF m 9 #[.val (.ref a1), .val (.int (2 : Int32)), .val (.int (1 : Int32)), .val (.int (1 : Int32)), .val (.int (2 : Int32))] [(.int (1 : Int32)), (.int (2 : Int32)), (.int (2 : Int32))])
    refine own_go (fun t k => XS.iadd X0.here hx rfl (hb hby d_prog_52_method_4_9) rfl k) ?_
    show Go _ _ _ _ _ s₁ (mkF m 10 #[.val (.ref a1), .val (.int (2 : Int32)), .val (.int (1 : Int32)), .val (.int (1 : Int32)), .val (.int (2 : Int32))] [(.int (3 : Int32)), (.int (2 : Int32))])
    refine own_go (fun t k => XS.icmpNo X0.here hx rfl (hb hby d_prog_52_method_4_10) rfl (by decide) k) ?_
    show Go _ _ _ _ _ s₁ (mkF m 13 #[.val (.ref a1), .val (.int (2 : Int32)), .val (.int (1 : Int32)), .val (.int (1 : Int32)), .val (.int (2 : Int32))] [])
    refine own_go (fun t k => XS.iloadN X0.here hx rfl (hb hby d_prog_52_method_4_13) rfl k) ?_
    show Go _ _ _ _ _ s₁ (mkF m 14 #[.val (.ref a1), .val (.int (2 : Int32)), .val (.int (1 : Int32)), .val (.int (1 : Int32)), .val (.int (2 : Int32))] [(.int (1 : Int32))])
    refine own_go (fun t k => XS.ifNo X0.here hx rfl (hb hby d_prog_52_method_4_14) rfl (by decide) k) ?_
    show Go _ _ _ _ _ s₁ (mkF m 17 #[.val (.ref a1), .val (.int (2 : Int32)), .val (.int (1 : Int32)), .val (.int (1 : Int32)), .val (.int (2 : Int32))] [])
    refine own_go (fun t k => XS.aloadN X0.here hx rfl (hb hby d_prog_52_method_4_17) rfl rfl k) ?_
    show Go _ _ _ _ _ s₁ (mkF m 18 #[.val (.ref a1), .val (.int (2 : Int32)), .val (.int (1 : Int32)), .val (.int (1 : Int32)), .val (.int (2 : Int32))] [(.ref a1)])
    obtain ⟨T147, X147, e147, st147⟩ := getF X0 hx hZ hown (host := "") (Or.inl (hw _ (List.mem_of_getElem? (i := 19) rfl))) Via.refl e0 F_t (g := (mkF m 18 #[.val (.ref a1), .val (.int (2 : Int32)), .val (.int (1 : Int32)), .val (.int (1 : Int32)), .val (.int (2 : Int32))] [(.ref a1)])) rfl rfl (hb hby d_prog_52_method_4_18)
    refine own_go (fun t k => st147 t k) ?_
    show Go _ _ _ _ _ T147 (mkF m 21 #[.val (.ref a1), .val (.int (2 : Int32)), .val (.int (1 : Int32)), .val (.int (1 : Int32)), .val (.int (2 : Int32))] [(.ref b)])
    refine own_go (fun t k => XS.iload X147.here hx rfl (hb hby d_prog_52_method_4_21) rfl k) ?_
    show Go _ _ _ _ _ T147 (mkF m 23 #[.val (.ref a1), .val (.int (2 : Int32)), .val (.int (1 : Int32)), .val (.int (1 : Int32)), .val (.int (2 : Int32))] [(.int (2 : Int32)), (.ref b)])
    obtain ⟨cl148, Ar148, q148, S148, N148z, H148, G148⟩ := id V_b
    have hin148 := inb_of S148 (j := (2 : Int32)) (z := (4 : Int32)) ⟨by decide, by decide⟩
    have hat148 : cl148.slots[((2 : Int32)).toNatClampNeg]? = some (.int t2) := H148 _ (Nat.lt_of_not_le fun q => hin148 (Or.inr q))
    refine own_go (fun t k => X147.iaload hx (j := (2 : Int32)) (v := (.int t2)) (by rw [e147]; exact Ar148.1) (State.isArrayOf_alike hZ.alike Ar148.2.1) Ar148.2.2 hin148 hat148 (g := (mkF m 23 #[.val (.ref a1), .val (.int (2 : Int32)), .val (.int (1 : Int32)), .val (.int (1 : Int32)), .val (.int (2 : Int32))] [(.int (2 : Int32)), (.ref b)])) rfl rfl (hb hby d_prog_52_method_4_23) _ k) ?_
    show Go _ _ _ _ _ T147 (mkF m 24 #[.val (.ref a1), .val (.int (2 : Int32)), .val (.int (1 : Int32)), .val (.int (1 : Int32)), .val (.int (2 : Int32))] [(.int t2)])
    refine own_go (fun t k => XS.aloadN X147.here hx rfl (hb hby d_prog_52_method_4_24) rfl rfl k) ?_
    show Go _ _ _ _ _ T147 (mkF m 25 #[.val (.ref a1), .val (.int (2 : Int32)), .val (.int (1 : Int32)), .val (.int (1 : Int32)), .val (.int (2 : Int32))] [(.ref a1), (.int t2)])
    obtain ⟨T149, X149, e149, st149⟩ := getF X147 hx hZ hown (host := "") (Or.inl (hw _ (List.mem_of_getElem? (i := 16) rfl))) Via.refl e147 F_c (g := (mkF m 25 #[.val (.ref a1), .val (.int (2 : Int32)), .val (.int (1 : Int32)), .val (.int (1 : Int32)), .val (.int (2 : Int32))] [(.ref a1), (.int t2)])) rfl rfl (hb hby d_prog_52_method_4_25)
    refine own_go (fun t k => st149 t k) ?_
    show Go _ _ _ _ _ T149 (mkF m 28 #[.val (.ref a1), .val (.int (2 : Int32)), .val (.int (1 : Int32)), .val (.int (1 : Int32)), .val (.int (2 : Int32))] [(.int cnt), (.int t2)])
    refine own_icmpM (t2 < cnt) X149 hx (hb hby d_prog_52_method_4_28) (own_ge _ _) (by decide) (by decide) (pc' := 35) (fun hc150 => ?_) (fun hc150 => ?_)
    · skip
      show Go _ _ _ _ _ T149 (mkF m 35 #[.val (.ref a1), .val (.int (2 : Int32)), .val (.int (1 : Int32)), .val (.int (1 : Int32)), .val (.int (2 : Int32))] [])
      refine own_go (fun t k => XS.iconst X149.here hx rfl (hb hby d_prog_52_method_4_35) k) ?_
      show Go _ _ _ _ _ T149 (mkF m 36 #[.val (.ref a1), .val (.int (2 : Int32)), .val (.int (1 : Int32)), .val (.int (1 : Int32)), .val (.int (2 : Int32))] [(.int (0 : Int32))])
      refine own_go (fun t k => XS.istoreN X149.here hx rfl (hb hby d_prog_52_method_4_36) rfl (l' := #[.val (.ref a1), .val (.int (2 : Int32)), .val (.int (1 : Int32)), .val (.int (0 : Int32)), .val (.int (2 : Int32))]) rfl k) ?_
      show Go _ _ _ _ _ T149 (mkF m 37 #[.val (.ref a1), .val (.int (2 : Int32)), .val (.int (1 : Int32)), .val (.int (0 : Int32)), .val (.int (2 : Int32))] [])
      refine own_go (fun t k => XS.iinc X149.here hx rfl (hb hby d_prog_52_method_4_37) rfl (l' := #[.val (.ref a1), .val (.int (2 : Int32)), .val (.int (1 : Int32)), .val (.int (0 : Int32)), .val (.int (3 : Int32))]) rfl k) ?_
      show Go _ _ _ _ _ T149 (mkF m 40 #[.val (.ref a1), .val (.int (2 : Int32)), .val (.int (1 : Int32)), .val (.int (0 : Int32)), .val (.int (3 : Int32))] [])
      refine own_go (fun t k => XS.goto X149.here hx rfl (pc0 := 40) (pc' := 5) rfl (hb hby d_prog_52_method_4_40) (by decide) (by decide) k) ?_
      show Go _ _ _ _ _ T149 (mkF m 5 #[.val (.ref a1), .val (.int (2 : Int32)), .val (.int (1 : Int32)), .val (.int (0 : Int32)), .val (.int (3 : Int32))] [])
      refine own_go (fun t k => XS.iload X149.here hx rfl (hb hby d_prog_52_method_4_5) rfl k) ?_
      show Go _ _ _ _ _ T149 (mkF m 7 #[.val (.ref a1), .val (.int (2 : Int32)), .val (.int (1 : Int32)), .val (.int (0 : Int32)), .val (.int (3 : Int32))] [(.int (3 : Int32))])
      refine own_go (fun t k => XS.iloadN X149.here hx rfl (hb hby d_prog_52_method_4_7) rfl k) ?_
      show Go _ _ _ _ _ T149 (mkF m 8 #[.val (.ref a1), .val (.int (2 : Int32)), .val (.int (1 : Int32)), .val (.int (0 : Int32)), .val (.int (3 : Int32))] [(.int (2 : Int32)), (.int (3 : Int32))])
      refine own_go (fun t k => XS.iloadN X149.here hx rfl (hb hby d_prog_52_method_4_8) rfl k) ?_
      show Go _ _ _ _ _ T149 (mkF m 9 #[.val (.ref a1), .val (.int (2 : Int32)), .val (.int (1 : Int32)), .val (.int (0 : Int32)), .val (.int (3 : Int32))] [(.int (1 : Int32)), (.int (2 : Int32)), (.int (3 : Int32))])
      refine own_go (fun t k => XS.iadd X149.here hx rfl (hb hby d_prog_52_method_4_9) rfl k) ?_
      show Go _ _ _ _ _ T149 (mkF m 10 #[.val (.ref a1), .val (.int (2 : Int32)), .val (.int (1 : Int32)), .val (.int (0 : Int32)), .val (.int (3 : Int32))] [(.int (3 : Int32)), (.int (3 : Int32))])
      refine own_go (fun t k => XS.icmpYes X149.here hx rfl (pc0 := 10) (pc' := 43) rfl (hb hby d_prog_52_method_4_10) rfl (by decide) (by decide) (by decide) k) ?_
      show Go _ _ _ _ _ T149 (mkF m 43 #[.val (.ref a1), .val (.int (2 : Int32)), .val (.int (1 : Int32)), .val (.int (0 : Int32)), .val (.int (3 : Int32))] [])
      refine own_go (fun t k => XS.iloadN X149.here hx rfl (hb hby d_prog_52_method_4_43) rfl k) ?_
      show Go _ _ _ _ _ T149 (mkF m 44 #[.val (.ref a1), .val (.int (2 : Int32)), .val (.int (1 : Int32)), .val (.int (0 : Int32)), .val (.int (3 : Int32))] [(.int (0 : Int32))])
      refine own_retN X149 hx (own_lvN X149 hlk (by decide) (by decide)) (t := .boolean) hret (by simp) (hb hby d_prog_52_method_4_44) ?_
      have i0 : own_in (0 : Int32) (2 : Int32) (1 : Int32) = 0 := by decide
      have i1 : own_in (1 : Int32) (2 : Int32) (1 : Int32) = 0 := by decide
      have i2 : own_in (2 : Int32) (2 : Int32) (1 : Int32) = 1 := by decide
      have i3 : own_in (3 : Int32) (2 : Int32) (1 : Int32) = 0 := by decide
      have e : own_free t0 t1 t2 t3 cnt (2 : Int32) (1 : Int32) = (0 : Int32) := by simp [own_free, own_okp, i0, i1, i2, i3, hc150]
      exact ⟨(by rw [← hr, e]; try rfl), N0, e149⟩
    · skip
      show Go _ _ _ _ _ T149 (mkF m 31 #[.val (.ref a1), .val (.int (2 : Int32)), .val (.int (1 : Int32)), .val (.int (1 : Int32)), .val (.int (2 : Int32))] [])
      refine own_go (fun t k => XS.iconst X149.here hx rfl (hb hby d_prog_52_method_4_31) k) ?_
      show Go _ _ _ _ _ T149 (mkF m 32 #[.val (.ref a1), .val (.int (2 : Int32)), .val (.int (1 : Int32)), .val (.int (1 : Int32)), .val (.int (2 : Int32))] [(.int (1 : Int32))])
      refine own_go (fun t k => XS.goto X149.here hx rfl (pc0 := 32) (pc' := 36) rfl (hb hby d_prog_52_method_4_32) (by decide) (by decide) k) ?_
      show Go _ _ _ _ _ T149 (mkF m 36 #[.val (.ref a1), .val (.int (2 : Int32)), .val (.int (1 : Int32)), .val (.int (1 : Int32)), .val (.int (2 : Int32))] [(.int (1 : Int32))])
      refine own_go (fun t k => XS.istoreN X149.here hx rfl (hb hby d_prog_52_method_4_36) rfl (l' := #[.val (.ref a1), .val (.int (2 : Int32)), .val (.int (1 : Int32)), .val (.int (1 : Int32)), .val (.int (2 : Int32))]) rfl k) ?_
      show Go _ _ _ _ _ T149 (mkF m 37 #[.val (.ref a1), .val (.int (2 : Int32)), .val (.int (1 : Int32)), .val (.int (1 : Int32)), .val (.int (2 : Int32))] [])
      refine own_go (fun t k => XS.iinc X149.here hx rfl (hb hby d_prog_52_method_4_37) rfl (l' := #[.val (.ref a1), .val (.int (2 : Int32)), .val (.int (1 : Int32)), .val (.int (1 : Int32)), .val (.int (3 : Int32))]) rfl k) ?_
      show Go _ _ _ _ _ T149 (mkF m 40 #[.val (.ref a1), .val (.int (2 : Int32)), .val (.int (1 : Int32)), .val (.int (1 : Int32)), .val (.int (3 : Int32))] [])
      refine own_go (fun t k => XS.goto X149.here hx rfl (pc0 := 40) (pc' := 5) rfl (hb hby d_prog_52_method_4_40) (by decide) (by decide) k) ?_
      show Go _ _ _ _ _ T149 (mkF m 5 #[.val (.ref a1), .val (.int (2 : Int32)), .val (.int (1 : Int32)), .val (.int (1 : Int32)), .val (.int (3 : Int32))] [])
      refine own_go (fun t k => XS.iload X149.here hx rfl (hb hby d_prog_52_method_4_5) rfl k) ?_
      show Go _ _ _ _ _ T149 (mkF m 7 #[.val (.ref a1), .val (.int (2 : Int32)), .val (.int (1 : Int32)), .val (.int (1 : Int32)), .val (.int (3 : Int32))] [(.int (3 : Int32))])
      refine own_go (fun t k => XS.iloadN X149.here hx rfl (hb hby d_prog_52_method_4_7) rfl k) ?_
      show Go _ _ _ _ _ T149 (mkF m 8 #[.val (.ref a1), .val (.int (2 : Int32)), .val (.int (1 : Int32)), .val (.int (1 : Int32)), .val (.int (3 : Int32))] [(.int (2 : Int32)), (.int (3 : Int32))])
      refine own_go (fun t k => XS.iloadN X149.here hx rfl (hb hby d_prog_52_method_4_8) rfl k) ?_
      show Go _ _ _ _ _ T149 (mkF m 9 #[.val (.ref a1), .val (.int (2 : Int32)), .val (.int (1 : Int32)), .val (.int (1 : Int32)), .val (.int (3 : Int32))] [(.int (1 : Int32)), (.int (2 : Int32)), (.int (3 : Int32))])
      refine own_go (fun t k => XS.iadd X149.here hx rfl (hb hby d_prog_52_method_4_9) rfl k) ?_
      show Go _ _ _ _ _ T149 (mkF m 10 #[.val (.ref a1), .val (.int (2 : Int32)), .val (.int (1 : Int32)), .val (.int (1 : Int32)), .val (.int (3 : Int32))] [(.int (3 : Int32)), (.int (3 : Int32))])
      refine own_go (fun t k => XS.icmpYes X149.here hx rfl (pc0 := 10) (pc' := 43) rfl (hb hby d_prog_52_method_4_10) rfl (by decide) (by decide) (by decide) k) ?_
      show Go _ _ _ _ _ T149 (mkF m 43 #[.val (.ref a1), .val (.int (2 : Int32)), .val (.int (1 : Int32)), .val (.int (1 : Int32)), .val (.int (3 : Int32))] [])
      refine own_go (fun t k => XS.iloadN X149.here hx rfl (hb hby d_prog_52_method_4_43) rfl k) ?_
      show Go _ _ _ _ _ T149 (mkF m 44 #[.val (.ref a1), .val (.int (2 : Int32)), .val (.int (1 : Int32)), .val (.int (1 : Int32)), .val (.int (3 : Int32))] [(.int (1 : Int32))])
      refine own_retN X149 hx (own_lvN X149 hlk (by decide) (by decide)) (t := .boolean) hret (by simp) (hb hby d_prog_52_method_4_44) ?_
      have i0 : own_in (0 : Int32) (2 : Int32) (1 : Int32) = 0 := by decide
      have i1 : own_in (1 : Int32) (2 : Int32) (1 : Int32) = 0 := by decide
      have i2 : own_in (2 : Int32) (2 : Int32) (1 : Int32) = 1 := by decide
      have i3 : own_in (3 : Int32) (2 : Int32) (1 : Int32) = 0 := by decide
      have e : own_free t0 t1 t2 t3 cnt (2 : Int32) (1 : Int32) = (1 : Int32) := by simp [own_free, own_okp, i0, i1, i2, i3, hc150]
      exact ⟨(by rw [← hr, e]; try rfl), N0, e149⟩
  · skip
    show Go _ _ _ _ _ s₁ (mkF m 0 #[.val (.ref a1), .val (.int (2 : Int32)), .val (.int (2 : Int32)), .unset, .unset] [])
    refine own_go (fun t k => XS.iconst X0.here hx rfl (hb hby d_prog_52_method_4_0) k) ?_
    show Go _ _ _ _ _ s₁ (mkF m 1 #[.val (.ref a1), .val (.int (2 : Int32)), .val (.int (2 : Int32)), .unset, .unset] [(.int (1 : Int32))])
    refine own_go (fun t k => XS.istoreN X0.here hx rfl (hb hby d_prog_52_method_4_1) rfl (l' := #[.val (.ref a1), .val (.int (2 : Int32)), .val (.int (2 : Int32)), .val (.int (1 : Int32)), .unset]) rfl k) ?_
    show Go _ _ _ _ _ s₁ (mkF m 2 #[.val (.ref a1), .val (.int (2 : Int32)), .val (.int (2 : Int32)), .val (.int (1 : Int32)), .unset] [])
    refine own_go (fun t k => XS.iloadN X0.here hx rfl (hb hby d_prog_52_method_4_2) rfl k) ?_
    show Go _ _ _ _ _ s₁ (mkF m 3 #[.val (.ref a1), .val (.int (2 : Int32)), .val (.int (2 : Int32)), .val (.int (1 : Int32)), .unset] [(.int (2 : Int32))])
    refine own_go (fun t k => XS.istore X0.here hx rfl (hb hby d_prog_52_method_4_3) rfl (l' := #[.val (.ref a1), .val (.int (2 : Int32)), .val (.int (2 : Int32)), .val (.int (1 : Int32)), .val (.int (2 : Int32))]) rfl k) ?_
    show Go _ _ _ _ _ s₁ (mkF m 5 #[.val (.ref a1), .val (.int (2 : Int32)), .val (.int (2 : Int32)), .val (.int (1 : Int32)), .val (.int (2 : Int32))] [])
    refine own_go (fun t k => XS.iload X0.here hx rfl (hb hby d_prog_52_method_4_5) rfl k) ?_
    show Go _ _ _ _ _ s₁ (mkF m 7 #[.val (.ref a1), .val (.int (2 : Int32)), .val (.int (2 : Int32)), .val (.int (1 : Int32)), .val (.int (2 : Int32))] [(.int (2 : Int32))])
    refine own_go (fun t k => XS.iloadN X0.here hx rfl (hb hby d_prog_52_method_4_7) rfl k) ?_
    show Go _ _ _ _ _ s₁ (mkF m 8 #[.val (.ref a1), .val (.int (2 : Int32)), .val (.int (2 : Int32)), .val (.int (1 : Int32)), .val (.int (2 : Int32))] [(.int (2 : Int32)), (.int (2 : Int32))])
    refine own_go (fun t k => XS.iloadN X0.here hx rfl (hb hby d_prog_52_method_4_8) rfl k) ?_
    show Go _ _ _ _ _ s₁ (mkF m 9 #[.val (.ref a1), .val (.int (2 : Int32)), .val (.int (2 : Int32)), .val (.int (1 : Int32)), .val (.int (2 : Int32))] [(.int (2 : Int32)), (.int (2 : Int32)), (.int (2 : Int32))])
    refine own_go (fun t k => XS.iadd X0.here hx rfl (hb hby d_prog_52_method_4_9) rfl k) ?_
    show Go _ _ _ _ _ s₁ (mkF m 10 #[.val (.ref a1), .val (.int (2 : Int32)), .val (.int (2 : Int32)), .val (.int (1 : Int32)), .val (.int (2 : Int32))] [(.int (4 : Int32)), (.int (2 : Int32))])
    refine own_go (fun t k => XS.icmpNo X0.here hx rfl (hb hby d_prog_52_method_4_10) rfl (by decide) k) ?_
    show Go _ _ _ _ _ s₁ (mkF m 13 #[.val (.ref a1), .val (.int (2 : Int32)), .val (.int (2 : Int32)), .val (.int (1 : Int32)), .val (.int (2 : Int32))] [])
    refine own_go (fun t k => XS.iloadN X0.here hx rfl (hb hby d_prog_52_method_4_13) rfl k) ?_
    show Go _ _ _ _ _ s₁ (mkF m 14 #[.val (.ref a1), .val (.int (2 : Int32)), .val (.int (2 : Int32)), .val (.int (1 : Int32)), .val (.int (2 : Int32))] [(.int (1 : Int32))])
    refine own_go (fun t k => XS.ifNo X0.here hx rfl (hb hby d_prog_52_method_4_14) rfl (by decide) k) ?_
    show Go _ _ _ _ _ s₁ (mkF m 17 #[.val (.ref a1), .val (.int (2 : Int32)), .val (.int (2 : Int32)), .val (.int (1 : Int32)), .val (.int (2 : Int32))] [])
    refine own_go (fun t k => XS.aloadN X0.here hx rfl (hb hby d_prog_52_method_4_17) rfl rfl k) ?_
    show Go _ _ _ _ _ s₁ (mkF m 18 #[.val (.ref a1), .val (.int (2 : Int32)), .val (.int (2 : Int32)), .val (.int (1 : Int32)), .val (.int (2 : Int32))] [(.ref a1)])
    obtain ⟨T151, X151, e151, st151⟩ := getF X0 hx hZ hown (host := "") (Or.inl (hw _ (List.mem_of_getElem? (i := 19) rfl))) Via.refl e0 F_t (g := (mkF m 18 #[.val (.ref a1), .val (.int (2 : Int32)), .val (.int (2 : Int32)), .val (.int (1 : Int32)), .val (.int (2 : Int32))] [(.ref a1)])) rfl rfl (hb hby d_prog_52_method_4_18)
    refine own_go (fun t k => st151 t k) ?_
    show Go _ _ _ _ _ T151 (mkF m 21 #[.val (.ref a1), .val (.int (2 : Int32)), .val (.int (2 : Int32)), .val (.int (1 : Int32)), .val (.int (2 : Int32))] [(.ref b)])
    refine own_go (fun t k => XS.iload X151.here hx rfl (hb hby d_prog_52_method_4_21) rfl k) ?_
    show Go _ _ _ _ _ T151 (mkF m 23 #[.val (.ref a1), .val (.int (2 : Int32)), .val (.int (2 : Int32)), .val (.int (1 : Int32)), .val (.int (2 : Int32))] [(.int (2 : Int32)), (.ref b)])
    obtain ⟨cl152, Ar152, q152, S152, N152z, H152, G152⟩ := id V_b
    have hin152 := inb_of S152 (j := (2 : Int32)) (z := (4 : Int32)) ⟨by decide, by decide⟩
    have hat152 : cl152.slots[((2 : Int32)).toNatClampNeg]? = some (.int t2) := H152 _ (Nat.lt_of_not_le fun q => hin152 (Or.inr q))
    refine own_go (fun t k => X151.iaload hx (j := (2 : Int32)) (v := (.int t2)) (by rw [e151]; exact Ar152.1) (State.isArrayOf_alike hZ.alike Ar152.2.1) Ar152.2.2 hin152 hat152 (g := (mkF m 23 #[.val (.ref a1), .val (.int (2 : Int32)), .val (.int (2 : Int32)), .val (.int (1 : Int32)), .val (.int (2 : Int32))] [(.int (2 : Int32)), (.ref b)])) rfl rfl (hb hby d_prog_52_method_4_23) _ k) ?_
    show Go _ _ _ _ _ T151 (mkF m 24 #[.val (.ref a1), .val (.int (2 : Int32)), .val (.int (2 : Int32)), .val (.int (1 : Int32)), .val (.int (2 : Int32))] [(.int t2)])
    refine own_go (fun t k => XS.aloadN X151.here hx rfl (hb hby d_prog_52_method_4_24) rfl rfl k) ?_
    show Go _ _ _ _ _ T151 (mkF m 25 #[.val (.ref a1), .val (.int (2 : Int32)), .val (.int (2 : Int32)), .val (.int (1 : Int32)), .val (.int (2 : Int32))] [(.ref a1), (.int t2)])
    obtain ⟨T153, X153, e153, st153⟩ := getF X151 hx hZ hown (host := "") (Or.inl (hw _ (List.mem_of_getElem? (i := 16) rfl))) Via.refl e151 F_c (g := (mkF m 25 #[.val (.ref a1), .val (.int (2 : Int32)), .val (.int (2 : Int32)), .val (.int (1 : Int32)), .val (.int (2 : Int32))] [(.ref a1), (.int t2)])) rfl rfl (hb hby d_prog_52_method_4_25)
    refine own_go (fun t k => st153 t k) ?_
    show Go _ _ _ _ _ T153 (mkF m 28 #[.val (.ref a1), .val (.int (2 : Int32)), .val (.int (2 : Int32)), .val (.int (1 : Int32)), .val (.int (2 : Int32))] [(.int cnt), (.int t2)])
    refine own_icmpM (t2 < cnt) X153 hx (hb hby d_prog_52_method_4_28) (own_ge _ _) (by decide) (by decide) (pc' := 35) (fun hc154 => ?_) (fun hc154 => ?_)
    · skip
      show Go _ _ _ _ _ T153 (mkF m 35 #[.val (.ref a1), .val (.int (2 : Int32)), .val (.int (2 : Int32)), .val (.int (1 : Int32)), .val (.int (2 : Int32))] [])
      refine own_go (fun t k => XS.iconst X153.here hx rfl (hb hby d_prog_52_method_4_35) k) ?_
      show Go _ _ _ _ _ T153 (mkF m 36 #[.val (.ref a1), .val (.int (2 : Int32)), .val (.int (2 : Int32)), .val (.int (1 : Int32)), .val (.int (2 : Int32))] [(.int (0 : Int32))])
      refine own_go (fun t k => XS.istoreN X153.here hx rfl (hb hby d_prog_52_method_4_36) rfl (l' := #[.val (.ref a1), .val (.int (2 : Int32)), .val (.int (2 : Int32)), .val (.int (0 : Int32)), .val (.int (2 : Int32))]) rfl k) ?_
      show Go _ _ _ _ _ T153 (mkF m 37 #[.val (.ref a1), .val (.int (2 : Int32)), .val (.int (2 : Int32)), .val (.int (0 : Int32)), .val (.int (2 : Int32))] [])
      refine own_go (fun t k => XS.iinc X153.here hx rfl (hb hby d_prog_52_method_4_37) rfl (l' := #[.val (.ref a1), .val (.int (2 : Int32)), .val (.int (2 : Int32)), .val (.int (0 : Int32)), .val (.int (3 : Int32))]) rfl k) ?_
      show Go _ _ _ _ _ T153 (mkF m 40 #[.val (.ref a1), .val (.int (2 : Int32)), .val (.int (2 : Int32)), .val (.int (0 : Int32)), .val (.int (3 : Int32))] [])
      refine own_go (fun t k => XS.goto X153.here hx rfl (pc0 := 40) (pc' := 5) rfl (hb hby d_prog_52_method_4_40) (by decide) (by decide) k) ?_
      show Go _ _ _ _ _ T153 (mkF m 5 #[.val (.ref a1), .val (.int (2 : Int32)), .val (.int (2 : Int32)), .val (.int (0 : Int32)), .val (.int (3 : Int32))] [])
      refine own_go (fun t k => XS.iload X153.here hx rfl (hb hby d_prog_52_method_4_5) rfl k) ?_
      show Go _ _ _ _ _ T153 (mkF m 7 #[.val (.ref a1), .val (.int (2 : Int32)), .val (.int (2 : Int32)), .val (.int (0 : Int32)), .val (.int (3 : Int32))] [(.int (3 : Int32))])
      refine own_go (fun t k => XS.iloadN X153.here hx rfl (hb hby d_prog_52_method_4_7) rfl k) ?_
      show Go _ _ _ _ _ T153 (mkF m 8 #[.val (.ref a1), .val (.int (2 : Int32)), .val (.int (2 : Int32)), .val (.int (0 : Int32)), .val (.int (3 : Int32))] [(.int (2 : Int32)), (.int (3 : Int32))])
      refine own_go (fun t k => XS.iloadN X153.here hx rfl (hb hby d_prog_52_method_4_8) rfl k) ?_
      show Go _ _ _ _ _ T153 (mkF m 9 #[.val (.ref a1), .val (.int (2 : Int32)), .val (.int (2 : Int32)), .val (.int (0 : Int32)), .val (.int (3 : Int32))] [(.int (2 : Int32)), (.int (2 : Int32)), (.int (3 : Int32))])
      refine own_go (fun t k => XS.iadd X153.here hx rfl (hb hby d_prog_52_method_4_9) rfl k) ?_
      show Go _ _ _ _ _ T153 (mkF m 10 #[.val (.ref a1), .val (.int (2 : Int32)), .val (.int (2 : Int32)), .val (.int (0 : Int32)), .val (.int (3 : Int32))] [(.int (4 : Int32)), (.int (3 : Int32))])
      refine own_go (fun t k => XS.icmpNo X153.here hx rfl (hb hby d_prog_52_method_4_10) rfl (by decide) k) ?_
      show Go _ _ _ _ _ T153 (mkF m 13 #[.val (.ref a1), .val (.int (2 : Int32)), .val (.int (2 : Int32)), .val (.int (0 : Int32)), .val (.int (3 : Int32))] [])
      refine own_go (fun t k => XS.iloadN X153.here hx rfl (hb hby d_prog_52_method_4_13) rfl k) ?_
      show Go _ _ _ _ _ T153 (mkF m 14 #[.val (.ref a1), .val (.int (2 : Int32)), .val (.int (2 : Int32)), .val (.int (0 : Int32)), .val (.int (3 : Int32))] [(.int (0 : Int32))])
      refine own_go (fun t k => XS.ifYes X153.here hx rfl (pc0 := 14) (pc' := 43) rfl (hb hby d_prog_52_method_4_14) rfl (by decide) (by decide) (by decide) k) ?_
      show Go _ _ _ _ _ T153 (mkF m 43 #[.val (.ref a1), .val (.int (2 : Int32)), .val (.int (2 : Int32)), .val (.int (0 : Int32)), .val (.int (3 : Int32))] [])
      refine own_go (fun t k => XS.iloadN X153.here hx rfl (hb hby d_prog_52_method_4_43) rfl k) ?_
      show Go _ _ _ _ _ T153 (mkF m 44 #[.val (.ref a1), .val (.int (2 : Int32)), .val (.int (2 : Int32)), .val (.int (0 : Int32)), .val (.int (3 : Int32))] [(.int (0 : Int32))])
      refine own_retN X153 hx (own_lvN X153 hlk (by decide) (by decide)) (t := .boolean) hret (by simp) (hb hby d_prog_52_method_4_44) ?_
      have i0 : own_in (0 : Int32) (2 : Int32) (2 : Int32) = 0 := by decide
      have i1 : own_in (1 : Int32) (2 : Int32) (2 : Int32) = 0 := by decide
      have i2 : own_in (2 : Int32) (2 : Int32) (2 : Int32) = 1 := by decide
      have i3 : own_in (3 : Int32) (2 : Int32) (2 : Int32) = 1 := by decide
      have e : own_free t0 t1 t2 t3 cnt (2 : Int32) (2 : Int32) = (0 : Int32) := by simp [own_free, own_okp, i0, i1, i2, i3, hc154]
      exact ⟨(by rw [← hr, e]; try rfl), N0, e153⟩
    · skip
      show Go _ _ _ _ _ T153 (mkF m 31 #[.val (.ref a1), .val (.int (2 : Int32)), .val (.int (2 : Int32)), .val (.int (1 : Int32)), .val (.int (2 : Int32))] [])
      refine own_go (fun t k => XS.iconst X153.here hx rfl (hb hby d_prog_52_method_4_31) k) ?_
      show Go _ _ _ _ _ T153 (mkF m 32 #[.val (.ref a1), .val (.int (2 : Int32)), .val (.int (2 : Int32)), .val (.int (1 : Int32)), .val (.int (2 : Int32))] [(.int (1 : Int32))])
      refine own_go (fun t k => XS.goto X153.here hx rfl (pc0 := 32) (pc' := 36) rfl (hb hby d_prog_52_method_4_32) (by decide) (by decide) k) ?_
      show Go _ _ _ _ _ T153 (mkF m 36 #[.val (.ref a1), .val (.int (2 : Int32)), .val (.int (2 : Int32)), .val (.int (1 : Int32)), .val (.int (2 : Int32))] [(.int (1 : Int32))])
      refine own_go (fun t k => XS.istoreN X153.here hx rfl (hb hby d_prog_52_method_4_36) rfl (l' := #[.val (.ref a1), .val (.int (2 : Int32)), .val (.int (2 : Int32)), .val (.int (1 : Int32)), .val (.int (2 : Int32))]) rfl k) ?_
      show Go _ _ _ _ _ T153 (mkF m 37 #[.val (.ref a1), .val (.int (2 : Int32)), .val (.int (2 : Int32)), .val (.int (1 : Int32)), .val (.int (2 : Int32))] [])
      refine own_go (fun t k => XS.iinc X153.here hx rfl (hb hby d_prog_52_method_4_37) rfl (l' := #[.val (.ref a1), .val (.int (2 : Int32)), .val (.int (2 : Int32)), .val (.int (1 : Int32)), .val (.int (3 : Int32))]) rfl k) ?_
      show Go _ _ _ _ _ T153 (mkF m 40 #[.val (.ref a1), .val (.int (2 : Int32)), .val (.int (2 : Int32)), .val (.int (1 : Int32)), .val (.int (3 : Int32))] [])
      refine own_go (fun t k => XS.goto X153.here hx rfl (pc0 := 40) (pc' := 5) rfl (hb hby d_prog_52_method_4_40) (by decide) (by decide) k) ?_
      show Go _ _ _ _ _ T153 (mkF m 5 #[.val (.ref a1), .val (.int (2 : Int32)), .val (.int (2 : Int32)), .val (.int (1 : Int32)), .val (.int (3 : Int32))] [])
      refine own_go (fun t k => XS.iload X153.here hx rfl (hb hby d_prog_52_method_4_5) rfl k) ?_
      show Go _ _ _ _ _ T153 (mkF m 7 #[.val (.ref a1), .val (.int (2 : Int32)), .val (.int (2 : Int32)), .val (.int (1 : Int32)), .val (.int (3 : Int32))] [(.int (3 : Int32))])
      refine own_go (fun t k => XS.iloadN X153.here hx rfl (hb hby d_prog_52_method_4_7) rfl k) ?_
      show Go _ _ _ _ _ T153 (mkF m 8 #[.val (.ref a1), .val (.int (2 : Int32)), .val (.int (2 : Int32)), .val (.int (1 : Int32)), .val (.int (3 : Int32))] [(.int (2 : Int32)), (.int (3 : Int32))])
      refine own_go (fun t k => XS.iloadN X153.here hx rfl (hb hby d_prog_52_method_4_8) rfl k) ?_
      show Go _ _ _ _ _ T153 (mkF m 9 #[.val (.ref a1), .val (.int (2 : Int32)), .val (.int (2 : Int32)), .val (.int (1 : Int32)), .val (.int (3 : Int32))] [(.int (2 : Int32)), (.int (2 : Int32)), (.int (3 : Int32))])
      refine own_go (fun t k => XS.iadd X153.here hx rfl (hb hby d_prog_52_method_4_9) rfl k) ?_
      show Go _ _ _ _ _ T153 (mkF m 10 #[.val (.ref a1), .val (.int (2 : Int32)), .val (.int (2 : Int32)), .val (.int (1 : Int32)), .val (.int (3 : Int32))] [(.int (4 : Int32)), (.int (3 : Int32))])
      refine own_go (fun t k => XS.icmpNo X153.here hx rfl (hb hby d_prog_52_method_4_10) rfl (by decide) k) ?_
      show Go _ _ _ _ _ T153 (mkF m 13 #[.val (.ref a1), .val (.int (2 : Int32)), .val (.int (2 : Int32)), .val (.int (1 : Int32)), .val (.int (3 : Int32))] [])
      refine own_go (fun t k => XS.iloadN X153.here hx rfl (hb hby d_prog_52_method_4_13) rfl k) ?_
      show Go _ _ _ _ _ T153 (mkF m 14 #[.val (.ref a1), .val (.int (2 : Int32)), .val (.int (2 : Int32)), .val (.int (1 : Int32)), .val (.int (3 : Int32))] [(.int (1 : Int32))])
      refine own_go (fun t k => XS.ifNo X153.here hx rfl (hb hby d_prog_52_method_4_14) rfl (by decide) k) ?_
      show Go _ _ _ _ _ T153 (mkF m 17 #[.val (.ref a1), .val (.int (2 : Int32)), .val (.int (2 : Int32)), .val (.int (1 : Int32)), .val (.int (3 : Int32))] [])
      refine own_go (fun t k => XS.aloadN X153.here hx rfl (hb hby d_prog_52_method_4_17) rfl rfl k) ?_
      show Go _ _ _ _ _ T153 (mkF m 18 #[.val (.ref a1), .val (.int (2 : Int32)), .val (.int (2 : Int32)), .val (.int (1 : Int32)), .val (.int (3 : Int32))] [(.ref a1)])
      obtain ⟨T155, X155, e155, st155⟩ := getF X153 hx hZ hown (host := "") (Or.inl (hw _ (List.mem_of_getElem? (i := 19) rfl))) Via.refl e153 F_t (g := (mkF m 18 #[.val (.ref a1), .val (.int (2 : Int32)), .val (.int (2 : Int32)), .val (.int (1 : Int32)), .val (.int (3 : Int32))] [(.ref a1)])) rfl rfl (hb hby d_prog_52_method_4_18)
      refine own_go (fun t k => st155 t k) ?_
      show Go _ _ _ _ _ T155 (mkF m 21 #[.val (.ref a1), .val (.int (2 : Int32)), .val (.int (2 : Int32)), .val (.int (1 : Int32)), .val (.int (3 : Int32))] [(.ref b)])
      refine own_go (fun t k => XS.iload X155.here hx rfl (hb hby d_prog_52_method_4_21) rfl k) ?_
      show Go _ _ _ _ _ T155 (mkF m 23 #[.val (.ref a1), .val (.int (2 : Int32)), .val (.int (2 : Int32)), .val (.int (1 : Int32)), .val (.int (3 : Int32))] [(.int (3 : Int32)), (.ref b)])
      obtain ⟨cl156, Ar156, q156, S156, N156z, H156, G156⟩ := id V_b
      have hin156 := inb_of S156 (j := (3 : Int32)) (z := (4 : Int32)) ⟨by decide, by decide⟩
      have hat156 : cl156.slots[((3 : Int32)).toNatClampNeg]? = some (.int t3) := H156 _ (Nat.lt_of_not_le fun q => hin156 (Or.inr q))
      refine own_go (fun t k => X155.iaload hx (j := (3 : Int32)) (v := (.int t3)) (by rw [e155]; exact Ar156.1) (State.isArrayOf_alike hZ.alike Ar156.2.1) Ar156.2.2 hin156 hat156 (g := (mkF m 23 #[.val (.ref a1), .val (.int (2 : Int32)), .val (.int (2 : Int32)), .val (.int (1 : Int32)), .val (.int (3 : Int32))] [(.int (3 : Int32)), (.ref b)])) rfl rfl (hb hby d_prog_52_method_4_23) _ k) ?_
      show Go _ _ _ _ _ T155 (mkF m 24 #[.val (.ref a1), .val (.int (2 : Int32)), .val (.int (2 : Int32)), .val (.int (1 : Int32)), .val (.int (3 : Int32))] [(.int t3)])
      refine own_go (fun t k => XS.aloadN X155.here hx rfl (hb hby d_prog_52_method_4_24) rfl rfl k) ?_
      show Go _ _ _ _ _ T155 (mkF m 25 #[.val (.ref a1), .val (.int (2 : Int32)), .val (.int (2 : Int32)), .val (.int (1 : Int32)), .val (.int (3 : Int32))] [(.ref a1), (.int t3)])
      obtain ⟨T157, X157, e157, st157⟩ := getF X155 hx hZ hown (host := "") (Or.inl (hw _ (List.mem_of_getElem? (i := 16) rfl))) Via.refl e155 F_c (g := (mkF m 25 #[.val (.ref a1), .val (.int (2 : Int32)), .val (.int (2 : Int32)), .val (.int (1 : Int32)), .val (.int (3 : Int32))] [(.ref a1), (.int t3)])) rfl rfl (hb hby d_prog_52_method_4_25)
      refine own_go (fun t k => st157 t k) ?_
      show Go _ _ _ _ _ T157 (mkF m 28 #[.val (.ref a1), .val (.int (2 : Int32)), .val (.int (2 : Int32)), .val (.int (1 : Int32)), .val (.int (3 : Int32))] [(.int cnt), (.int t3)])
      refine own_icmpM (t3 < cnt) X157 hx (hb hby d_prog_52_method_4_28) (own_ge _ _) (by decide) (by decide) (pc' := 35) (fun hc158 => ?_) (fun hc158 => ?_)
      · skip
        show Go _ _ _ _ _ T157 (mkF m 35 #[.val (.ref a1), .val (.int (2 : Int32)), .val (.int (2 : Int32)), .val (.int (1 : Int32)), .val (.int (3 : Int32))] [])
        refine own_go (fun t k => XS.iconst X157.here hx rfl (hb hby d_prog_52_method_4_35) k) ?_
        show Go _ _ _ _ _ T157 (mkF m 36 #[.val (.ref a1), .val (.int (2 : Int32)), .val (.int (2 : Int32)), .val (.int (1 : Int32)), .val (.int (3 : Int32))] [(.int (0 : Int32))])
        refine own_go (fun t k => XS.istoreN X157.here hx rfl (hb hby d_prog_52_method_4_36) rfl (l' := #[.val (.ref a1), .val (.int (2 : Int32)), .val (.int (2 : Int32)), .val (.int (0 : Int32)), .val (.int (3 : Int32))]) rfl k) ?_
        show Go _ _ _ _ _ T157 (mkF m 37 #[.val (.ref a1), .val (.int (2 : Int32)), .val (.int (2 : Int32)), .val (.int (0 : Int32)), .val (.int (3 : Int32))] [])
        refine own_go (fun t k => XS.iinc X157.here hx rfl (hb hby d_prog_52_method_4_37) rfl (l' := #[.val (.ref a1), .val (.int (2 : Int32)), .val (.int (2 : Int32)), .val (.int (0 : Int32)), .val (.int (4 : Int32))]) rfl k) ?_
        show Go _ _ _ _ _ T157 (mkF m 40 #[.val (.ref a1), .val (.int (2 : Int32)), .val (.int (2 : Int32)), .val (.int (0 : Int32)), .val (.int (4 : Int32))] [])
        refine own_go (fun t k => XS.goto X157.here hx rfl (pc0 := 40) (pc' := 5) rfl (hb hby d_prog_52_method_4_40) (by decide) (by decide) k) ?_
        show Go _ _ _ _ _ T157 (mkF m 5 #[.val (.ref a1), .val (.int (2 : Int32)), .val (.int (2 : Int32)), .val (.int (0 : Int32)), .val (.int (4 : Int32))] [])
        refine own_go (fun t k => XS.iload X157.here hx rfl (hb hby d_prog_52_method_4_5) rfl k) ?_
        show Go _ _ _ _ _ T157 (mkF m 7 #[.val (.ref a1), .val (.int (2 : Int32)), .val (.int (2 : Int32)), .val (.int (0 : Int32)), .val (.int (4 : Int32))] [(.int (4 : Int32))])
        refine own_go (fun t k => XS.iloadN X157.here hx rfl (hb hby d_prog_52_method_4_7) rfl k) ?_
        show Go _ _ _ _ _ T157 (mkF m 8 #[.val (.ref a1), .val (.int (2 : Int32)), .val (.int (2 : Int32)), .val (.int (0 : Int32)), .val (.int (4 : Int32))] [(.int (2 : Int32)), (.int (4 : Int32))])
        refine own_go (fun t k => XS.iloadN X157.here hx rfl (hb hby d_prog_52_method_4_8) rfl k) ?_
        show Go _ _ _ _ _ T157 (mkF m 9 #[.val (.ref a1), .val (.int (2 : Int32)), .val (.int (2 : Int32)), .val (.int (0 : Int32)), .val (.int (4 : Int32))] [(.int (2 : Int32)), (.int (2 : Int32)), (.int (4 : Int32))])
        refine own_go (fun t k => XS.iadd X157.here hx rfl (hb hby d_prog_52_method_4_9) rfl k) ?_
        show Go _ _ _ _ _ T157 (mkF m 10 #[.val (.ref a1), .val (.int (2 : Int32)), .val (.int (2 : Int32)), .val (.int (0 : Int32)), .val (.int (4 : Int32))] [(.int (4 : Int32)), (.int (4 : Int32))])
        refine own_go (fun t k => XS.icmpYes X157.here hx rfl (pc0 := 10) (pc' := 43) rfl (hb hby d_prog_52_method_4_10) rfl (by decide) (by decide) (by decide) k) ?_
        show Go _ _ _ _ _ T157 (mkF m 43 #[.val (.ref a1), .val (.int (2 : Int32)), .val (.int (2 : Int32)), .val (.int (0 : Int32)), .val (.int (4 : Int32))] [])
        refine own_go (fun t k => XS.iloadN X157.here hx rfl (hb hby d_prog_52_method_4_43) rfl k) ?_
        show Go _ _ _ _ _ T157 (mkF m 44 #[.val (.ref a1), .val (.int (2 : Int32)), .val (.int (2 : Int32)), .val (.int (0 : Int32)), .val (.int (4 : Int32))] [(.int (0 : Int32))])
        refine own_retN X157 hx (own_lvN X157 hlk (by decide) (by decide)) (t := .boolean) hret (by simp) (hb hby d_prog_52_method_4_44) ?_
        have i0 : own_in (0 : Int32) (2 : Int32) (2 : Int32) = 0 := by decide
        have i1 : own_in (1 : Int32) (2 : Int32) (2 : Int32) = 0 := by decide
        have i2 : own_in (2 : Int32) (2 : Int32) (2 : Int32) = 1 := by decide
        have i3 : own_in (3 : Int32) (2 : Int32) (2 : Int32) = 1 := by decide
        have e : own_free t0 t1 t2 t3 cnt (2 : Int32) (2 : Int32) = (0 : Int32) := by simp [own_free, own_okp, i0, i1, i2, i3, hc154, hc158]
        exact ⟨(by rw [← hr, e]; try rfl), N0, e157⟩
      · skip
        show Go _ _ _ _ _ T157 (mkF m 31 #[.val (.ref a1), .val (.int (2 : Int32)), .val (.int (2 : Int32)), .val (.int (1 : Int32)), .val (.int (3 : Int32))] [])
        refine own_go (fun t k => XS.iconst X157.here hx rfl (hb hby d_prog_52_method_4_31) k) ?_
        show Go _ _ _ _ _ T157 (mkF m 32 #[.val (.ref a1), .val (.int (2 : Int32)), .val (.int (2 : Int32)), .val (.int (1 : Int32)), .val (.int (3 : Int32))] [(.int (1 : Int32))])
        refine own_go (fun t k => XS.goto X157.here hx rfl (pc0 := 32) (pc' := 36) rfl (hb hby d_prog_52_method_4_32) (by decide) (by decide) k) ?_
        show Go _ _ _ _ _ T157 (mkF m 36 #[.val (.ref a1), .val (.int (2 : Int32)), .val (.int (2 : Int32)), .val (.int (1 : Int32)), .val (.int (3 : Int32))] [(.int (1 : Int32))])
        refine own_go (fun t k => XS.istoreN X157.here hx rfl (hb hby d_prog_52_method_4_36) rfl (l' := #[.val (.ref a1), .val (.int (2 : Int32)), .val (.int (2 : Int32)), .val (.int (1 : Int32)), .val (.int (3 : Int32))]) rfl k) ?_
        show Go _ _ _ _ _ T157 (mkF m 37 #[.val (.ref a1), .val (.int (2 : Int32)), .val (.int (2 : Int32)), .val (.int (1 : Int32)), .val (.int (3 : Int32))] [])
        refine own_go (fun t k => XS.iinc X157.here hx rfl (hb hby d_prog_52_method_4_37) rfl (l' := #[.val (.ref a1), .val (.int (2 : Int32)), .val (.int (2 : Int32)), .val (.int (1 : Int32)), .val (.int (4 : Int32))]) rfl k) ?_
        show Go _ _ _ _ _ T157 (mkF m 40 #[.val (.ref a1), .val (.int (2 : Int32)), .val (.int (2 : Int32)), .val (.int (1 : Int32)), .val (.int (4 : Int32))] [])
        refine own_go (fun t k => XS.goto X157.here hx rfl (pc0 := 40) (pc' := 5) rfl (hb hby d_prog_52_method_4_40) (by decide) (by decide) k) ?_
        show Go _ _ _ _ _ T157 (mkF m 5 #[.val (.ref a1), .val (.int (2 : Int32)), .val (.int (2 : Int32)), .val (.int (1 : Int32)), .val (.int (4 : Int32))] [])
        refine own_go (fun t k => XS.iload X157.here hx rfl (hb hby d_prog_52_method_4_5) rfl k) ?_
        show Go _ _ _ _ _ T157 (mkF m 7 #[.val (.ref a1), .val (.int (2 : Int32)), .val (.int (2 : Int32)), .val (.int (1 : Int32)), .val (.int (4 : Int32))] [(.int (4 : Int32))])
        refine own_go (fun t k => XS.iloadN X157.here hx rfl (hb hby d_prog_52_method_4_7) rfl k) ?_
        show Go _ _ _ _ _ T157 (mkF m 8 #[.val (.ref a1), .val (.int (2 : Int32)), .val (.int (2 : Int32)), .val (.int (1 : Int32)), .val (.int (4 : Int32))] [(.int (2 : Int32)), (.int (4 : Int32))])
        refine own_go (fun t k => XS.iloadN X157.here hx rfl (hb hby d_prog_52_method_4_8) rfl k) ?_
        show Go _ _ _ _ _ T157 (mkF m 9 #[.val (.ref a1), .val (.int (2 : Int32)), .val (.int (2 : Int32)), .val (.int (1 : Int32)), .val (.int (4 : Int32))] [(.int (2 : Int32)), (.int (2 : Int32)), (.int (4 : Int32))])
        refine own_go (fun t k => XS.iadd X157.here hx rfl (hb hby d_prog_52_method_4_9) rfl k) ?_
        show Go _ _ _ _ _ T157 (mkF m 10 #[.val (.ref a1), .val (.int (2 : Int32)), .val (.int (2 : Int32)), .val (.int (1 : Int32)), .val (.int (4 : Int32))] [(.int (4 : Int32)), (.int (4 : Int32))])
        refine own_go (fun t k => XS.icmpYes X157.here hx rfl (pc0 := 10) (pc' := 43) rfl (hb hby d_prog_52_method_4_10) rfl (by decide) (by decide) (by decide) k) ?_
        show Go _ _ _ _ _ T157 (mkF m 43 #[.val (.ref a1), .val (.int (2 : Int32)), .val (.int (2 : Int32)), .val (.int (1 : Int32)), .val (.int (4 : Int32))] [])
        refine own_go (fun t k => XS.iloadN X157.here hx rfl (hb hby d_prog_52_method_4_43) rfl k) ?_
        show Go _ _ _ _ _ T157 (mkF m 44 #[.val (.ref a1), .val (.int (2 : Int32)), .val (.int (2 : Int32)), .val (.int (1 : Int32)), .val (.int (4 : Int32))] [(.int (1 : Int32))])
        refine own_retN X157 hx (own_lvN X157 hlk (by decide) (by decide)) (t := .boolean) hret (by simp) (hb hby d_prog_52_method_4_44) ?_
        have i0 : own_in (0 : Int32) (2 : Int32) (2 : Int32) = 0 := by decide
        have i1 : own_in (1 : Int32) (2 : Int32) (2 : Int32) = 0 := by decide
        have i2 : own_in (2 : Int32) (2 : Int32) (2 : Int32) = 1 := by decide
        have i3 : own_in (3 : Int32) (2 : Int32) (2 : Int32) = 1 := by decide
        have e : own_free t0 t1 t2 t3 cnt (2 : Int32) (2 : Int32) = (1 : Int32) := by simp [own_free, own_okp, i0, i1, i2, i3, hc154, hc158]
        exact ⟨(by rw [← hr, e]; try rfl), N0, e157⟩
  · skip
    show Go _ _ _ _ _ s₁ (mkF m 0 #[.val (.ref a1), .val (.int (3 : Int32)), .val (.int (0 : Int32)), .unset, .unset] [])
    refine own_go (fun t k => XS.iconst X0.here hx rfl (hb hby d_prog_52_method_4_0) k) ?_
    show Go _ _ _ _ _ s₁ (mkF m 1 #[.val (.ref a1), .val (.int (3 : Int32)), .val (.int (0 : Int32)), .unset, .unset] [(.int (1 : Int32))])
    refine own_go (fun t k => XS.istoreN X0.here hx rfl (hb hby d_prog_52_method_4_1) rfl (l' := #[.val (.ref a1), .val (.int (3 : Int32)), .val (.int (0 : Int32)), .val (.int (1 : Int32)), .unset]) rfl k) ?_
    show Go _ _ _ _ _ s₁ (mkF m 2 #[.val (.ref a1), .val (.int (3 : Int32)), .val (.int (0 : Int32)), .val (.int (1 : Int32)), .unset] [])
    refine own_go (fun t k => XS.iloadN X0.here hx rfl (hb hby d_prog_52_method_4_2) rfl k) ?_
    show Go _ _ _ _ _ s₁ (mkF m 3 #[.val (.ref a1), .val (.int (3 : Int32)), .val (.int (0 : Int32)), .val (.int (1 : Int32)), .unset] [(.int (3 : Int32))])
    refine own_go (fun t k => XS.istore X0.here hx rfl (hb hby d_prog_52_method_4_3) rfl (l' := #[.val (.ref a1), .val (.int (3 : Int32)), .val (.int (0 : Int32)), .val (.int (1 : Int32)), .val (.int (3 : Int32))]) rfl k) ?_
    show Go _ _ _ _ _ s₁ (mkF m 5 #[.val (.ref a1), .val (.int (3 : Int32)), .val (.int (0 : Int32)), .val (.int (1 : Int32)), .val (.int (3 : Int32))] [])
    refine own_go (fun t k => XS.iload X0.here hx rfl (hb hby d_prog_52_method_4_5) rfl k) ?_
    show Go _ _ _ _ _ s₁ (mkF m 7 #[.val (.ref a1), .val (.int (3 : Int32)), .val (.int (0 : Int32)), .val (.int (1 : Int32)), .val (.int (3 : Int32))] [(.int (3 : Int32))])
    refine own_go (fun t k => XS.iloadN X0.here hx rfl (hb hby d_prog_52_method_4_7) rfl k) ?_
    show Go _ _ _ _ _ s₁ (mkF m 8 #[.val (.ref a1), .val (.int (3 : Int32)), .val (.int (0 : Int32)), .val (.int (1 : Int32)), .val (.int (3 : Int32))] [(.int (3 : Int32)), (.int (3 : Int32))])
    refine own_go (fun t k => XS.iloadN X0.here hx rfl (hb hby d_prog_52_method_4_8) rfl k) ?_
    show Go _ _ _ _ _ s₁ (mkF m 9 #[.val (.ref a1), .val (.int (3 : Int32)), .val (.int (0 : Int32)), .val (.int (1 : Int32)), .val (.int (3 : Int32))] [(.int (0 : Int32)), (.int (3 : Int32)), (.int (3 : Int32))])
    refine own_go (fun t k => XS.iadd X0.here hx rfl (hb hby d_prog_52_method_4_9) rfl k) ?_
    show Go _ _ _ _ _ s₁ (mkF m 10 #[.val (.ref a1), .val (.int (3 : Int32)), .val (.int (0 : Int32)), .val (.int (1 : Int32)), .val (.int (3 : Int32))] [(.int (3 : Int32)), (.int (3 : Int32))])
    refine own_go (fun t k => XS.icmpYes X0.here hx rfl (pc0 := 10) (pc' := 43) rfl (hb hby d_prog_52_method_4_10) rfl (by decide) (by decide) (by decide) k) ?_
    show Go _ _ _ _ _ s₁ (mkF m 43 #[.val (.ref a1), .val (.int (3 : Int32)), .val (.int (0 : Int32)), .val (.int (1 : Int32)), .val (.int (3 : Int32))] [])
    refine own_go (fun t k => XS.iloadN X0.here hx rfl (hb hby d_prog_52_method_4_43) rfl k) ?_
    show Go _ _ _ _ _ s₁ (mkF m 44 #[.val (.ref a1), .val (.int (3 : Int32)), .val (.int (0 : Int32)), .val (.int (1 : Int32)), .val (.int (3 : Int32))] [(.int (1 : Int32))])
    refine own_retN X0 hx (own_lvN X0 hlk (by decide) (by decide)) (t := .boolean) hret (by simp) (hb hby d_prog_52_method_4_44) ?_
    have i0 : own_in (0 : Int32) (3 : Int32) (0 : Int32) = 0 := by decide
    have i1 : own_in (1 : Int32) (3 : Int32) (0 : Int32) = 0 := by decide
    have i2 : own_in (2 : Int32) (3 : Int32) (0 : Int32) = 0 := by decide
    have i3 : own_in (3 : Int32) (3 : Int32) (0 : Int32) = 0 := by decide
    have e : own_free t0 t1 t2 t3 cnt (3 : Int32) (0 : Int32) = (1 : Int32) := by simp [own_free, own_okp, i0, i1, i2, i3]
    exact ⟨(by rw [← hr, e]; try rfl), N0, e0⟩
  · skip
    show Go _ _ _ _ _ s₁ (mkF m 0 #[.val (.ref a1), .val (.int (3 : Int32)), .val (.int (1 : Int32)), .unset, .unset] [])
    refine own_go (fun t k => XS.iconst X0.here hx rfl (hb hby d_prog_52_method_4_0) k) ?_
    show Go _ _ _ _ _ s₁ (mkF m 1 #[.val (.ref a1), .val (.int (3 : Int32)), .val (.int (1 : Int32)), .unset, .unset] [(.int (1 : Int32))])
    refine own_go (fun t k => XS.istoreN X0.here hx rfl (hb hby d_prog_52_method_4_1) rfl (l' := #[.val (.ref a1), .val (.int (3 : Int32)), .val (.int (1 : Int32)), .val (.int (1 : Int32)), .unset]) rfl k) ?_
    show Go _ _ _ _ _ s₁ (mkF m 2 #[.val (.ref a1), .val (.int (3 : Int32)), .val (.int (1 : Int32)), .val (.int (1 : Int32)), .unset] [])
    refine own_go (fun t k => XS.iloadN X0.here hx rfl (hb hby d_prog_52_method_4_2) rfl k) ?_
    show Go _ _ _ _ _ s₁ (mkF m 3 #[.val (.ref a1), .val (.int (3 : Int32)), .val (.int (1 : Int32)), .val (.int (1 : Int32)), .unset] [(.int (3 : Int32))])
    refine own_go (fun t k => XS.istore X0.here hx rfl (hb hby d_prog_52_method_4_3) rfl (l' := #[.val (.ref a1), .val (.int (3 : Int32)), .val (.int (1 : Int32)), .val (.int (1 : Int32)), .val (.int (3 : Int32))]) rfl k) ?_
    show Go _ _ _ _ _ s₁ (mkF m 5 #[.val (.ref a1), .val (.int (3 : Int32)), .val (.int (1 : Int32)), .val (.int (1 : Int32)), .val (.int (3 : Int32))] [])
    refine own_go (fun t k => XS.iload X0.here hx rfl (hb hby d_prog_52_method_4_5) rfl k) ?_
    show Go _ _ _ _ _ s₁ (mkF m 7 #[.val (.ref a1), .val (.int (3 : Int32)), .val (.int (1 : Int32)), .val (.int (1 : Int32)), .val (.int (3 : Int32))] [(.int (3 : Int32))])
    refine own_go (fun t k => XS.iloadN X0.here hx rfl (hb hby d_prog_52_method_4_7) rfl k) ?_
    show Go _ _ _ _ _ s₁ (mkF m 8 #[.val (.ref a1), .val (.int (3 : Int32)), .val (.int (1 : Int32)), .val (.int (1 : Int32)), .val (.int (3 : Int32))] [(.int (3 : Int32)), (.int (3 : Int32))])
    refine own_go (fun t k => XS.iloadN X0.here hx rfl (hb hby d_prog_52_method_4_8) rfl k) ?_
    show Go _ _ _ _ _ s₁ (mkF m 9 #[.val (.ref a1), .val (.int (3 : Int32)), .val (.int (1 : Int32)), .val (.int (1 : Int32)), .val (.int (3 : Int32))] [(.int (1 : Int32)), (.int (3 : Int32)), (.int (3 : Int32))])
    refine own_go (fun t k => XS.iadd X0.here hx rfl (hb hby d_prog_52_method_4_9) rfl k) ?_
    show Go _ _ _ _ _ s₁ (mkF m 10 #[.val (.ref a1), .val (.int (3 : Int32)), .val (.int (1 : Int32)), .val (.int (1 : Int32)), .val (.int (3 : Int32))] [(.int (4 : Int32)), (.int (3 : Int32))])
    refine own_go (fun t k => XS.icmpNo X0.here hx rfl (hb hby d_prog_52_method_4_10) rfl (by decide) k) ?_
    show Go _ _ _ _ _ s₁ (mkF m 13 #[.val (.ref a1), .val (.int (3 : Int32)), .val (.int (1 : Int32)), .val (.int (1 : Int32)), .val (.int (3 : Int32))] [])
    refine own_go (fun t k => XS.iloadN X0.here hx rfl (hb hby d_prog_52_method_4_13) rfl k) ?_
    show Go _ _ _ _ _ s₁ (mkF m 14 #[.val (.ref a1), .val (.int (3 : Int32)), .val (.int (1 : Int32)), .val (.int (1 : Int32)), .val (.int (3 : Int32))] [(.int (1 : Int32))])
    refine own_go (fun t k => XS.ifNo X0.here hx rfl (hb hby d_prog_52_method_4_14) rfl (by decide) k) ?_
    show Go _ _ _ _ _ s₁ (mkF m 17 #[.val (.ref a1), .val (.int (3 : Int32)), .val (.int (1 : Int32)), .val (.int (1 : Int32)), .val (.int (3 : Int32))] [])
    refine own_go (fun t k => XS.aloadN X0.here hx rfl (hb hby d_prog_52_method_4_17) rfl rfl k) ?_
    show Go _ _ _ _ _ s₁ (mkF m 18 #[.val (.ref a1), .val (.int (3 : Int32)), .val (.int (1 : Int32)), .val (.int (1 : Int32)), .val (.int (3 : Int32))] [(.ref a1)])
    obtain ⟨T159, X159, e159, st159⟩ := getF X0 hx hZ hown (host := "") (Or.inl (hw _ (List.mem_of_getElem? (i := 19) rfl))) Via.refl e0 F_t (g := (mkF m 18 #[.val (.ref a1), .val (.int (3 : Int32)), .val (.int (1 : Int32)), .val (.int (1 : Int32)), .val (.int (3 : Int32))] [(.ref a1)])) rfl rfl (hb hby d_prog_52_method_4_18)
    refine own_go (fun t k => st159 t k) ?_
    show Go _ _ _ _ _ T159 (mkF m 21 #[.val (.ref a1), .val (.int (3 : Int32)), .val (.int (1 : Int32)), .val (.int (1 : Int32)), .val (.int (3 : Int32))] [(.ref b)])
    refine own_go (fun t k => XS.iload X159.here hx rfl (hb hby d_prog_52_method_4_21) rfl k) ?_
    show Go _ _ _ _ _ T159 (mkF m 23 #[.val (.ref a1), .val (.int (3 : Int32)), .val (.int (1 : Int32)), .val (.int (1 : Int32)), .val (.int (3 : Int32))] [(.int (3 : Int32)), (.ref b)])
    obtain ⟨cl160, Ar160, q160, S160, N160z, H160, G160⟩ := id V_b
    have hin160 := inb_of S160 (j := (3 : Int32)) (z := (4 : Int32)) ⟨by decide, by decide⟩
    have hat160 : cl160.slots[((3 : Int32)).toNatClampNeg]? = some (.int t3) := H160 _ (Nat.lt_of_not_le fun q => hin160 (Or.inr q))
    refine own_go (fun t k => X159.iaload hx (j := (3 : Int32)) (v := (.int t3)) (by rw [e159]; exact Ar160.1) (State.isArrayOf_alike hZ.alike Ar160.2.1) Ar160.2.2 hin160 hat160 (g := (mkF m 23 #[.val (.ref a1), .val (.int (3 : Int32)), .val (.int (1 : Int32)), .val (.int (1 : Int32)), .val (.int (3 : Int32))] [(.int (3 : Int32)), (.ref b)])) rfl rfl (hb hby d_prog_52_method_4_23) _ k) ?_
    show Go _ _ _ _ _ T159 (mkF m 24 #[.val (.ref a1), .val (.int (3 : Int32)), .val (.int (1 : Int32)), .val (.int (1 : Int32)), .val (.int (3 : Int32))] [(.int t3)])
    refine own_go (fun t k => XS.aloadN X159.here hx rfl (hb hby d_prog_52_method_4_24) rfl rfl k) ?_
    show Go _ _ _ _ _ T159 (mkF m 25 #[.val (.ref a1), .val (.int (3 : Int32)), .val (.int (1 : Int32)), .val (.int (1 : Int32)), .val (.int (3 : Int32))] [(.ref a1), (.int t3)])
    obtain ⟨T161, X161, e161, st161⟩ := getF X159 hx hZ hown (host := "") (Or.inl (hw _ (List.mem_of_getElem? (i := 16) rfl))) Via.refl e159 F_c (g := (mkF m 25 #[.val (.ref a1), .val (.int (3 : Int32)), .val (.int (1 : Int32)), .val (.int (1 : Int32)), .val (.int (3 : Int32))] [(.ref a1), (.int t3)])) rfl rfl (hb hby d_prog_52_method_4_25)
    refine own_go (fun t k => st161 t k) ?_
    show Go _ _ _ _ _ T161 (mkF m 28 #[.val (.ref a1), .val (.int (3 : Int32)), .val (.int (1 : Int32)), .val (.int (1 : Int32)), .val (.int (3 : Int32))] [(.int cnt), (.int t3)])
    refine own_icmpM (t3 < cnt) X161 hx (hb hby d_prog_52_method_4_28) (own_ge _ _) (by decide) (by decide) (pc' := 35) (fun hc162 => ?_) (fun hc162 => ?_)
    · skip
      show Go _ _ _ _ _ T161 (mkF m 35 #[.val (.ref a1), .val (.int (3 : Int32)), .val (.int (1 : Int32)), .val (.int (1 : Int32)), .val (.int (3 : Int32))] [])
      refine own_go (fun t k => XS.iconst X161.here hx rfl (hb hby d_prog_52_method_4_35) k) ?_
      show Go _ _ _ _ _ T161 (mkF m 36 #[.val (.ref a1), .val (.int (3 : Int32)), .val (.int (1 : Int32)), .val (.int (1 : Int32)), .val (.int (3 : Int32))] [(.int (0 : Int32))])
      refine own_go (fun t k => XS.istoreN X161.here hx rfl (hb hby d_prog_52_method_4_36) rfl (l' := #[.val (.ref a1), .val (.int (3 : Int32)), .val (.int (1 : Int32)), .val (.int (0 : Int32)), .val (.int (3 : Int32))]) rfl k) ?_
      show Go _ _ _ _ _ T161 (mkF m 37 #[.val (.ref a1), .val (.int (3 : Int32)), .val (.int (1 : Int32)), .val (.int (0 : Int32)), .val (.int (3 : Int32))] [])
      refine own_go (fun t k => XS.iinc X161.here hx rfl (hb hby d_prog_52_method_4_37) rfl (l' := #[.val (.ref a1), .val (.int (3 : Int32)), .val (.int (1 : Int32)), .val (.int (0 : Int32)), .val (.int (4 : Int32))]) rfl k) ?_
      show Go _ _ _ _ _ T161 (mkF m 40 #[.val (.ref a1), .val (.int (3 : Int32)), .val (.int (1 : Int32)), .val (.int (0 : Int32)), .val (.int (4 : Int32))] [])
      refine own_go (fun t k => XS.goto X161.here hx rfl (pc0 := 40) (pc' := 5) rfl (hb hby d_prog_52_method_4_40) (by decide) (by decide) k) ?_
      show Go _ _ _ _ _ T161 (mkF m 5 #[.val (.ref a1), .val (.int (3 : Int32)), .val (.int (1 : Int32)), .val (.int (0 : Int32)), .val (.int (4 : Int32))] [])
      refine own_go (fun t k => XS.iload X161.here hx rfl (hb hby d_prog_52_method_4_5) rfl k) ?_
      show Go _ _ _ _ _ T161 (mkF m 7 #[.val (.ref a1), .val (.int (3 : Int32)), .val (.int (1 : Int32)), .val (.int (0 : Int32)), .val (.int (4 : Int32))] [(.int (4 : Int32))])
      refine own_go (fun t k => XS.iloadN X161.here hx rfl (hb hby d_prog_52_method_4_7) rfl k) ?_
      show Go _ _ _ _ _ T161 (mkF m 8 #[.val (.ref a1), .val (.int (3 : Int32)), .val (.int (1 : Int32)), .val (.int (0 : Int32)), .val (.int (4 : Int32))] [(.int (3 : Int32)), (.int (4 : Int32))])
      refine own_go (fun t k => XS.iloadN X161.here hx rfl (hb hby d_prog_52_method_4_8) rfl k) ?_
      show Go _ _ _ _ _ T161 (mkF m 9 #[.val (.ref a1), .val (.int (3 : Int32)), .val (.int (1 : Int32)), .val (.int (0 : Int32)), .val (.int (4 : Int32))] [(.int (1 : Int32)), (.int (3 : Int32)), (.int (4 : Int32))])
      refine own_go (fun t k => XS.iadd X161.here hx rfl (hb hby d_prog_52_method_4_9) rfl k) ?_
      show Go _ _ _ _ _ T161 (mkF m 10 #[.val (.ref a1), .val (.int (3 : Int32)), .val (.int (1 : Int32)), .val (.int (0 : Int32)), .val (.int (4 : Int32))] [(.int (4 : Int32)), (.int (4 : Int32))])
      refine own_go (fun t k => XS.icmpYes X161.here hx rfl (pc0 := 10) (pc' := 43) rfl (hb hby d_prog_52_method_4_10) rfl (by decide) (by decide) (by decide) k) ?_
      show Go _ _ _ _ _ T161 (mkF m 43 #[.val (.ref a1), .val (.int (3 : Int32)), .val (.int (1 : Int32)), .val (.int (0 : Int32)), .val (.int (4 : Int32))] [])
      refine own_go (fun t k => XS.iloadN X161.here hx rfl (hb hby d_prog_52_method_4_43) rfl k) ?_
      show Go _ _ _ _ _ T161 (mkF m 44 #[.val (.ref a1), .val (.int (3 : Int32)), .val (.int (1 : Int32)), .val (.int (0 : Int32)), .val (.int (4 : Int32))] [(.int (0 : Int32))])
      refine own_retN X161 hx (own_lvN X161 hlk (by decide) (by decide)) (t := .boolean) hret (by simp) (hb hby d_prog_52_method_4_44) ?_
      have i0 : own_in (0 : Int32) (3 : Int32) (1 : Int32) = 0 := by decide
      have i1 : own_in (1 : Int32) (3 : Int32) (1 : Int32) = 0 := by decide
      have i2 : own_in (2 : Int32) (3 : Int32) (1 : Int32) = 0 := by decide
      have i3 : own_in (3 : Int32) (3 : Int32) (1 : Int32) = 1 := by decide
      have e : own_free t0 t1 t2 t3 cnt (3 : Int32) (1 : Int32) = (0 : Int32) := by simp [own_free, own_okp, i0, i1, i2, i3, hc162]
      exact ⟨(by rw [← hr, e]; try rfl), N0, e161⟩
    · skip
      show Go _ _ _ _ _ T161 (mkF m 31 #[.val (.ref a1), .val (.int (3 : Int32)), .val (.int (1 : Int32)), .val (.int (1 : Int32)), .val (.int (3 : Int32))] [])
      refine own_go (fun t k => XS.iconst X161.here hx rfl (hb hby d_prog_52_method_4_31) k) ?_
      show Go _ _ _ _ _ T161 (mkF m 32 #[.val (.ref a1), .val (.int (3 : Int32)), .val (.int (1 : Int32)), .val (.int (1 : Int32)), .val (.int (3 : Int32))] [(.int (1 : Int32))])
      refine own_go (fun t k => XS.goto X161.here hx rfl (pc0 := 32) (pc' := 36) rfl (hb hby d_prog_52_method_4_32) (by decide) (by decide) k) ?_
      show Go _ _ _ _ _ T161 (mkF m 36 #[.val (.ref a1), .val (.int (3 : Int32)), .val (.int (1 : Int32)), .val (.int (1 : Int32)), .val (.int (3 : Int32))] [(.int (1 : Int32))])
      refine own_go (fun t k => XS.istoreN X161.here hx rfl (hb hby d_prog_52_method_4_36) rfl (l' := #[.val (.ref a1), .val (.int (3 : Int32)), .val (.int (1 : Int32)), .val (.int (1 : Int32)), .val (.int (3 : Int32))]) rfl k) ?_
      show Go _ _ _ _ _ T161 (mkF m 37 #[.val (.ref a1), .val (.int (3 : Int32)), .val (.int (1 : Int32)), .val (.int (1 : Int32)), .val (.int (3 : Int32))] [])
      refine own_go (fun t k => XS.iinc X161.here hx rfl (hb hby d_prog_52_method_4_37) rfl (l' := #[.val (.ref a1), .val (.int (3 : Int32)), .val (.int (1 : Int32)), .val (.int (1 : Int32)), .val (.int (4 : Int32))]) rfl k) ?_
      show Go _ _ _ _ _ T161 (mkF m 40 #[.val (.ref a1), .val (.int (3 : Int32)), .val (.int (1 : Int32)), .val (.int (1 : Int32)), .val (.int (4 : Int32))] [])
      refine own_go (fun t k => XS.goto X161.here hx rfl (pc0 := 40) (pc' := 5) rfl (hb hby d_prog_52_method_4_40) (by decide) (by decide) k) ?_
      show Go _ _ _ _ _ T161 (mkF m 5 #[.val (.ref a1), .val (.int (3 : Int32)), .val (.int (1 : Int32)), .val (.int (1 : Int32)), .val (.int (4 : Int32))] [])
      refine own_go (fun t k => XS.iload X161.here hx rfl (hb hby d_prog_52_method_4_5) rfl k) ?_
      show Go _ _ _ _ _ T161 (mkF m 7 #[.val (.ref a1), .val (.int (3 : Int32)), .val (.int (1 : Int32)), .val (.int (1 : Int32)), .val (.int (4 : Int32))] [(.int (4 : Int32))])
      refine own_go (fun t k => XS.iloadN X161.here hx rfl (hb hby d_prog_52_method_4_7) rfl k) ?_
      show Go _ _ _ _ _ T161 (mkF m 8 #[.val (.ref a1), .val (.int (3 : Int32)), .val (.int (1 : Int32)), .val (.int (1 : Int32)), .val (.int (4 : Int32))] [(.int (3 : Int32)), (.int (4 : Int32))])
      refine own_go (fun t k => XS.iloadN X161.here hx rfl (hb hby d_prog_52_method_4_8) rfl k) ?_
      show Go _ _ _ _ _ T161 (mkF m 9 #[.val (.ref a1), .val (.int (3 : Int32)), .val (.int (1 : Int32)), .val (.int (1 : Int32)), .val (.int (4 : Int32))] [(.int (1 : Int32)), (.int (3 : Int32)), (.int (4 : Int32))])
      refine own_go (fun t k => XS.iadd X161.here hx rfl (hb hby d_prog_52_method_4_9) rfl k) ?_
      show Go _ _ _ _ _ T161 (mkF m 10 #[.val (.ref a1), .val (.int (3 : Int32)), .val (.int (1 : Int32)), .val (.int (1 : Int32)), .val (.int (4 : Int32))] [(.int (4 : Int32)), (.int (4 : Int32))])
      refine own_go (fun t k => XS.icmpYes X161.here hx rfl (pc0 := 10) (pc' := 43) rfl (hb hby d_prog_52_method_4_10) rfl (by decide) (by decide) (by decide) k) ?_
      show Go _ _ _ _ _ T161 (mkF m 43 #[.val (.ref a1), .val (.int (3 : Int32)), .val (.int (1 : Int32)), .val (.int (1 : Int32)), .val (.int (4 : Int32))] [])
      refine own_go (fun t k => XS.iloadN X161.here hx rfl (hb hby d_prog_52_method_4_43) rfl k) ?_
      show Go _ _ _ _ _ T161 (mkF m 44 #[.val (.ref a1), .val (.int (3 : Int32)), .val (.int (1 : Int32)), .val (.int (1 : Int32)), .val (.int (4 : Int32))] [(.int (1 : Int32))])
      refine own_retN X161 hx (own_lvN X161 hlk (by decide) (by decide)) (t := .boolean) hret (by simp) (hb hby d_prog_52_method_4_44) ?_
      have i0 : own_in (0 : Int32) (3 : Int32) (1 : Int32) = 0 := by decide
      have i1 : own_in (1 : Int32) (3 : Int32) (1 : Int32) = 0 := by decide
      have i2 : own_in (2 : Int32) (3 : Int32) (1 : Int32) = 0 := by decide
      have i3 : own_in (3 : Int32) (3 : Int32) (1 : Int32) = 1 := by decide
      have e : own_free t0 t1 t2 t3 cnt (3 : Int32) (1 : Int32) = (1 : Int32) := by simp [own_free, own_okp, i0, i1, i2, i3, hc162]
      exact ⟨(by rw [← hr, e]; try rfl), N0, e161⟩
theorem own_pd2 : parseMethodDescriptor "(II)V" = some ⟨[.int, .int], none⟩ := by decide +kernel
theorem own_pd3 : parseMethodDescriptor "(II)Z" = some ⟨[.int, .int], some .boolean⟩ := by decide +kernel
theorem own_pd4 : parseMethodDescriptor "(IIIIIIIIII)Z" = some ⟨[.int, .int, .int, .int, .int, .int, .int, .int, .int, .int], some .boolean⟩ := by decide +kernel
theorem own_ef_rm0 (m : MethodId) (x0 : Int32) (x1 : Int32) (x2 : Int32) (x3 : Int32) (x4 : Int32) : entryFrame m #[(.int x0), (.int x1), (.int x2), (.int x3), (.int x4)] maxLocals = mkF m 0 #[.val (.int x0), .val (.int x1), .val (.int x2), .val (.int x3), .val (.int x4), .unset, .unset, .unset, .unset, .unset, .unset, .unset, .unset, .unset, .unset, .unset, .unset] [] := by first | (simp [entryFrame, mkF, argsToLocals, Value.category, maxLocals]; done) | rfl
set_option maxRecDepth 65536 in
set_option maxHeartbeats 40000000 in
theorem rm0 (l : Launch) (Z : State) (a0 : Array Value) (hw : ∀ d ∈ tables_1, d.before a0 Z = true) (ws : List Jvm.Cond) (p1 : Int32) (p2 : Int32) (p3 : Int32) (p4 : Int32) (p5 : Int32) (h0 : Heap) (n0 : Nat) (hn0 : n0 ≤ h0.size)  :
    OwnMet l Z x code maxLocals ret ws room_1 #[(.int p1), (.int p2), (.int p3), (.int p4), (.int p5)] h0 (OwnR (some (.int 1)) n0) := by
  refine own_body (plainFor_of_name own_pn0) ?_
  intro p e s m below meth c s₁ X0 hx hby hml hret hlk hown0 hnm hZ e0 hs0
  have hown : s.vm.findClass "com/example/trailworks/trailworks/works/CrewsFreePinLaw" = some m.cls := hown0
  have N0 := Fr.nil n0
  refine own_entry (own_ef_rm0 m p1 p2 p3 p4 p5) ?_
  show Go _ _ _ _ _ s₁ (mkF m 0 #[.val (.int p1), .val (.int p2), .val (.int p3), .val (.int p4), .val (.int p5), .unset, .unset, .unset, .unset, .unset, .unset, .unset, .unset, .unset, .unset, .unset, .unset] [])
  refine own_go (fun t k => XS.iloadN X0.here hx rfl (hb hby at_0) rfl k) ?_
  show Go _ _ _ _ _ s₁ (mkF m 1 #[.val (.int p1), .val (.int p2), .val (.int p3), .val (.int p4), .val (.int p5), .unset, .unset, .unset, .unset, .unset, .unset, .unset, .unset, .unset, .unset, .unset, .unset] [(.int p1)])
  refine own_go (fun t k => XS.iconst X0.here hx rfl (hb hby at_1) k) ?_
  show Go _ _ _ _ _ s₁ (mkF m 2 #[.val (.int p1), .val (.int p2), .val (.int p3), .val (.int p4), .val (.int p5), .unset, .unset, .unset, .unset, .unset, .unset, .unset, .unset, .unset, .unset, .unset, .unset] [(.int (3 : Int32)), (.int p1)])
  refine own_go (fun t k => XS.iand X0.here hx rfl (hb hby at_2) rfl k) ?_
  show Go _ _ _ _ _ s₁ (mkF m 3 #[.val (.int p1), .val (.int p2), .val (.int p3), .val (.int p4), .val (.int p5), .unset, .unset, .unset, .unset, .unset, .unset, .unset, .unset, .unset, .unset, .unset, .unset] [(.int (p1 &&& (3 : Int32)))])
  refine own_go (fun t k => XS.iconst X0.here hx rfl (hb hby at_3) k) ?_
  show Go _ _ _ _ _ s₁ (mkF m 4 #[.val (.int p1), .val (.int p2), .val (.int p3), .val (.int p4), .val (.int p5), .unset, .unset, .unset, .unset, .unset, .unset, .unset, .unset, .unset, .unset, .unset, .unset] [(.int (3 : Int32)), (.int (p1 &&& (3 : Int32)))])
  refine own_go (fun t k => iremM X0 hx rfl (hb hby at_4) rfl (by decide) k) ?_
  show Go _ _ _ _ _ s₁ (mkF m 5 #[.val (.int p1), .val (.int p2), .val (.int p3), .val (.int p4), .val (.int p5), .unset, .unset, .unset, .unset, .unset, .unset, .unset, .unset, .unset, .unset, .unset, .unset] [(.int ((p1 &&& (3 : Int32)) % (3 : Int32)))])
  refine own_go (fun t k => XS.iconst X0.here hx rfl (hb hby at_5) k) ?_
  show Go _ _ _ _ _ s₁ (mkF m 6 #[.val (.int p1), .val (.int p2), .val (.int p3), .val (.int p4), .val (.int p5), .unset, .unset, .unset, .unset, .unset, .unset, .unset, .unset, .unset, .unset, .unset, .unset] [(.int (1 : Int32)), (.int ((p1 &&& (3 : Int32)) % (3 : Int32)))])
  refine own_go (fun t k => XS.iadd X0.here hx rfl (hb hby at_6) rfl k) ?_
  show Go _ _ _ _ _ s₁ (mkF m 7 #[.val (.int p1), .val (.int p2), .val (.int p3), .val (.int p4), .val (.int p5), .unset, .unset, .unset, .unset, .unset, .unset, .unset, .unset, .unset, .unset, .unset, .unset] [(.int (((p1 &&& (3 : Int32)) % (3 : Int32)) + (1 : Int32)))])
  refine own_go (fun t k => XS.istore X0.here hx rfl (hb hby at_7) rfl (l' := #[.val (.int p1), .val (.int p2), .val (.int p3), .val (.int p4), .val (.int p5), .val (.int (((p1 &&& (3 : Int32)) % (3 : Int32)) + (1 : Int32))), .unset, .unset, .unset, .unset, .unset, .unset, .unset, .unset, .unset, .unset, .unset]) rfl k) ?_
  show Go _ _ _ _ _ s₁ (mkF m 9 #[.val (.int p1), .val (.int p2), .val (.int p3), .val (.int p4), .val (.int p5), .val (.int (((p1 &&& (3 : Int32)) % (3 : Int32)) + (1 : Int32))), .unset, .unset, .unset, .unset, .unset, .unset, .unset, .unset, .unset, .unset, .unset] [])
  have hcnt := own_cnt p1
  generalize (((p1 &&& (3 : Int32)) % (3 : Int32)) + (1 : Int32)) = cnt at hcnt ⊢
  show Go _ _ _ _ _ s₁ (mkF m 9 #[.val (.int p1), .val (.int p2), .val (.int p3), .val (.int p4), .val (.int p5), .val (.int cnt), .unset, .unset, .unset, .unset, .unset, .unset, .unset, .unset, .unset, .unset, .unset] [])
  refine own_go (fun t k => XS.iloadN X0.here hx rfl (hb hby at_9) rfl k) ?_
  show Go _ _ _ _ _ s₁ (mkF m 10 #[.val (.int p1), .val (.int p2), .val (.int p3), .val (.int p4), .val (.int p5), .val (.int cnt), .unset, .unset, .unset, .unset, .unset, .unset, .unset, .unset, .unset, .unset, .unset] [(.int p2)])
  refine own_go (fun t k => XS.iconst X0.here hx rfl (hb hby at_10) k) ?_
  show Go _ _ _ _ _ s₁ (mkF m 11 #[.val (.int p1), .val (.int p2), .val (.int p3), .val (.int p4), .val (.int p5), .val (.int cnt), .unset, .unset, .unset, .unset, .unset, .unset, .unset, .unset, .unset, .unset, .unset] [(.int (3 : Int32)), (.int p2)])
  refine own_go (fun t k => XS.iand X0.here hx rfl (hb hby at_11) rfl k) ?_
  show Go _ _ _ _ _ s₁ (mkF m 12 #[.val (.int p1), .val (.int p2), .val (.int p3), .val (.int p4), .val (.int p5), .val (.int cnt), .unset, .unset, .unset, .unset, .unset, .unset, .unset, .unset, .unset, .unset, .unset] [(.int (p2 &&& (3 : Int32)))])
  refine own_go (fun t k => XS.istore X0.here hx rfl (hb hby at_12) rfl (l' := #[.val (.int p1), .val (.int p2), .val (.int p3), .val (.int p4), .val (.int p5), .val (.int cnt), .val (.int (p2 &&& (3 : Int32))), .unset, .unset, .unset, .unset, .unset, .unset, .unset, .unset, .unset, .unset]) rfl k) ?_
  show Go _ _ _ _ _ s₁ (mkF m 14 #[.val (.int p1), .val (.int p2), .val (.int p3), .val (.int p4), .val (.int p5), .val (.int cnt), .val (.int (p2 &&& (3 : Int32))), .unset, .unset, .unset, .unset, .unset, .unset, .unset, .unset, .unset, .unset] [])
  refine own_go (fun t k => XS.iloadN X0.here hx rfl (hb hby at_14) rfl k) ?_
  show Go _ _ _ _ _ s₁ (mkF m 15 #[.val (.int p1), .val (.int p2), .val (.int p3), .val (.int p4), .val (.int p5), .val (.int cnt), .val (.int (p2 &&& (3 : Int32))), .unset, .unset, .unset, .unset, .unset, .unset, .unset, .unset, .unset, .unset] [(.int p2)])
  refine own_go (fun t k => XS.iconst X0.here hx rfl (hb hby at_15) k) ?_
  show Go _ _ _ _ _ s₁ (mkF m 16 #[.val (.int p1), .val (.int p2), .val (.int p3), .val (.int p4), .val (.int p5), .val (.int cnt), .val (.int (p2 &&& (3 : Int32))), .unset, .unset, .unset, .unset, .unset, .unset, .unset, .unset, .unset, .unset] [(.int (2 : Int32)), (.int p2)])
  refine own_go (fun t k => XS.iushr X0.here hx rfl (hb hby at_16) rfl k) ?_
  show Go _ _ _ _ _ s₁ (mkF m 17 #[.val (.int p1), .val (.int p2), .val (.int p3), .val (.int p4), .val (.int p5), .val (.int cnt), .val (.int (p2 &&& (3 : Int32))), .unset, .unset, .unset, .unset, .unset, .unset, .unset, .unset, .unset, .unset] [(.int ((p2.toUInt32 >>> ((2 : Int32) &&& 31).toUInt32).toInt32))])
  refine own_go (fun t k => XS.bipush X0.here hx rfl (hb hby at_17) k) ?_
  show Go _ _ _ _ _ s₁ (mkF m 19 #[.val (.int p1), .val (.int p2), .val (.int p3), .val (.int p4), .val (.int p5), .val (.int cnt), .val (.int (p2 &&& (3 : Int32))), .unset, .unset, .unset, .unset, .unset, .unset, .unset, .unset, .unset, .unset] [(.int (7 : Int32)), (.int ((p2.toUInt32 >>> ((2 : Int32) &&& 31).toUInt32).toInt32))])
  refine own_go (fun t k => XS.iand X0.here hx rfl (hb hby at_19) rfl k) ?_
  show Go _ _ _ _ _ s₁ (mkF m 20 #[.val (.int p1), .val (.int p2), .val (.int p3), .val (.int p4), .val (.int p5), .val (.int cnt), .val (.int (p2 &&& (3 : Int32))), .unset, .unset, .unset, .unset, .unset, .unset, .unset, .unset, .unset, .unset] [(.int (((p2.toUInt32 >>> ((2 : Int32) &&& 31).toUInt32).toInt32) &&& (7 : Int32)))])
  refine own_go (fun t k => XS.iconst X0.here hx rfl (hb hby at_20) k) ?_
  show Go _ _ _ _ _ s₁ (mkF m 21 #[.val (.int p1), .val (.int p2), .val (.int p3), .val (.int p4), .val (.int p5), .val (.int cnt), .val (.int (p2 &&& (3 : Int32))), .unset, .unset, .unset, .unset, .unset, .unset, .unset, .unset, .unset, .unset] [(.int (5 : Int32)), (.int (((p2.toUInt32 >>> ((2 : Int32) &&& 31).toUInt32).toInt32) &&& (7 : Int32)))])
  refine own_go (fun t k => XS.iload X0.here hx rfl (hb hby at_21) rfl k) ?_
  show Go _ _ _ _ _ s₁ (mkF m 23 #[.val (.int p1), .val (.int p2), .val (.int p3), .val (.int p4), .val (.int p5), .val (.int cnt), .val (.int (p2 &&& (3 : Int32))), .unset, .unset, .unset, .unset, .unset, .unset, .unset, .unset, .unset, .unset] [(.int (p2 &&& (3 : Int32))), (.int (5 : Int32)), (.int (((p2.toUInt32 >>> ((2 : Int32) &&& 31).toUInt32).toInt32) &&& (7 : Int32)))])
  refine own_go (fun t k => XS.isub X0.here hx rfl (hb hby at_23) rfl k) ?_
  show Go _ _ _ _ _ s₁ (mkF m 24 #[.val (.int p1), .val (.int p2), .val (.int p3), .val (.int p4), .val (.int p5), .val (.int cnt), .val (.int (p2 &&& (3 : Int32))), .unset, .unset, .unset, .unset, .unset, .unset, .unset, .unset, .unset, .unset] [(.int ((5 : Int32) - (p2 &&& (3 : Int32)))), (.int (((p2.toUInt32 >>> ((2 : Int32) &&& 31).toUInt32).toInt32) &&& (7 : Int32)))])
  refine own_go (fun t k => iremM X0 hx rfl (hb hby at_24) rfl (own_nz5 p2) k) ?_
  show Go _ _ _ _ _ s₁ (mkF m 25 #[.val (.int p1), .val (.int p2), .val (.int p3), .val (.int p4), .val (.int p5), .val (.int cnt), .val (.int (p2 &&& (3 : Int32))), .unset, .unset, .unset, .unset, .unset, .unset, .unset, .unset, .unset, .unset] [(.int ((((p2.toUInt32 >>> ((2 : Int32) &&& 31).toUInt32).toInt32) &&& (7 : Int32)) % ((5 : Int32) - (p2 &&& (3 : Int32)))))])
  refine own_go (fun t k => XS.istore X0.here hx rfl (hb hby at_25) rfl (l' := #[.val (.int p1), .val (.int p2), .val (.int p3), .val (.int p4), .val (.int p5), .val (.int cnt), .val (.int (p2 &&& (3 : Int32))), .val (.int ((((p2.toUInt32 >>> ((2 : Int32) &&& 31).toUInt32).toInt32) &&& (7 : Int32)) % ((5 : Int32) - (p2 &&& (3 : Int32))))), .unset, .unset, .unset, .unset, .unset, .unset, .unset, .unset, .unset]) rfl k) ?_
  show Go _ _ _ _ _ s₁ (mkF m 27 #[.val (.int p1), .val (.int p2), .val (.int p3), .val (.int p4), .val (.int p5), .val (.int cnt), .val (.int (p2 &&& (3 : Int32))), .val (.int ((((p2.toUInt32 >>> ((2 : Int32) &&& 31).toUInt32).toInt32) &&& (7 : Int32)) % ((5 : Int32) - (p2 &&& (3 : Int32))))), .unset, .unset, .unset, .unset, .unset, .unset, .unset, .unset, .unset] [])
  have hsd1 := own_sdof p2
  generalize ((((p2.toUInt32 >>> ((2 : Int32) &&& 31).toUInt32).toInt32) &&& (7 : Int32)) % ((5 : Int32) - (p2 &&& (3 : Int32)))) = d1 at hsd1 ⊢
  generalize (p2 &&& (3 : Int32)) = s1 at hsd1 ⊢
  show Go _ _ _ _ _ s₁ (mkF m 27 #[.val (.int p1), .val (.int p2), .val (.int p3), .val (.int p4), .val (.int p5), .val (.int cnt), .val (.int s1), .val (.int d1), .unset, .unset, .unset, .unset, .unset, .unset, .unset, .unset, .unset] [])
  refine own_go (fun t k => XS.iloadN X0.here hx rfl (hb hby at_27) rfl k) ?_
  show Go _ _ _ _ _ s₁ (mkF m 28 #[.val (.int p1), .val (.int p2), .val (.int p3), .val (.int p4), .val (.int p5), .val (.int cnt), .val (.int s1), .val (.int d1), .unset, .unset, .unset, .unset, .unset, .unset, .unset, .unset, .unset] [(.int p3)])
  refine own_go (fun t k => XS.iconst X0.here hx rfl (hb hby at_28) k) ?_
  show Go _ _ _ _ _ s₁ (mkF m 29 #[.val (.int p1), .val (.int p2), .val (.int p3), .val (.int p4), .val (.int p5), .val (.int cnt), .val (.int s1), .val (.int d1), .unset, .unset, .unset, .unset, .unset, .unset, .unset, .unset, .unset] [(.int (3 : Int32)), (.int p3)])
  refine own_go (fun t k => XS.iand X0.here hx rfl (hb hby at_29) rfl k) ?_
  show Go _ _ _ _ _ s₁ (mkF m 30 #[.val (.int p1), .val (.int p2), .val (.int p3), .val (.int p4), .val (.int p5), .val (.int cnt), .val (.int s1), .val (.int d1), .unset, .unset, .unset, .unset, .unset, .unset, .unset, .unset, .unset] [(.int (p3 &&& (3 : Int32)))])
  refine own_go (fun t k => XS.istore X0.here hx rfl (hb hby at_30) rfl (l' := #[.val (.int p1), .val (.int p2), .val (.int p3), .val (.int p4), .val (.int p5), .val (.int cnt), .val (.int s1), .val (.int d1), .val (.int (p3 &&& (3 : Int32))), .unset, .unset, .unset, .unset, .unset, .unset, .unset, .unset]) rfl k) ?_
  show Go _ _ _ _ _ s₁ (mkF m 32 #[.val (.int p1), .val (.int p2), .val (.int p3), .val (.int p4), .val (.int p5), .val (.int cnt), .val (.int s1), .val (.int d1), .val (.int (p3 &&& (3 : Int32))), .unset, .unset, .unset, .unset, .unset, .unset, .unset, .unset] [])
  refine own_go (fun t k => XS.iloadN X0.here hx rfl (hb hby at_32) rfl k) ?_
  show Go _ _ _ _ _ s₁ (mkF m 33 #[.val (.int p1), .val (.int p2), .val (.int p3), .val (.int p4), .val (.int p5), .val (.int cnt), .val (.int s1), .val (.int d1), .val (.int (p3 &&& (3 : Int32))), .unset, .unset, .unset, .unset, .unset, .unset, .unset, .unset] [(.int p3)])
  refine own_go (fun t k => XS.iconst X0.here hx rfl (hb hby at_33) k) ?_
  show Go _ _ _ _ _ s₁ (mkF m 34 #[.val (.int p1), .val (.int p2), .val (.int p3), .val (.int p4), .val (.int p5), .val (.int cnt), .val (.int s1), .val (.int d1), .val (.int (p3 &&& (3 : Int32))), .unset, .unset, .unset, .unset, .unset, .unset, .unset, .unset] [(.int (2 : Int32)), (.int p3)])
  refine own_go (fun t k => XS.iushr X0.here hx rfl (hb hby at_34) rfl k) ?_
  show Go _ _ _ _ _ s₁ (mkF m 35 #[.val (.int p1), .val (.int p2), .val (.int p3), .val (.int p4), .val (.int p5), .val (.int cnt), .val (.int s1), .val (.int d1), .val (.int (p3 &&& (3 : Int32))), .unset, .unset, .unset, .unset, .unset, .unset, .unset, .unset] [(.int ((p3.toUInt32 >>> ((2 : Int32) &&& 31).toUInt32).toInt32))])
  refine own_go (fun t k => XS.bipush X0.here hx rfl (hb hby at_35) k) ?_
  show Go _ _ _ _ _ s₁ (mkF m 37 #[.val (.int p1), .val (.int p2), .val (.int p3), .val (.int p4), .val (.int p5), .val (.int cnt), .val (.int s1), .val (.int d1), .val (.int (p3 &&& (3 : Int32))), .unset, .unset, .unset, .unset, .unset, .unset, .unset, .unset] [(.int (7 : Int32)), (.int ((p3.toUInt32 >>> ((2 : Int32) &&& 31).toUInt32).toInt32))])
  refine own_go (fun t k => XS.iand X0.here hx rfl (hb hby at_37) rfl k) ?_
  show Go _ _ _ _ _ s₁ (mkF m 38 #[.val (.int p1), .val (.int p2), .val (.int p3), .val (.int p4), .val (.int p5), .val (.int cnt), .val (.int s1), .val (.int d1), .val (.int (p3 &&& (3 : Int32))), .unset, .unset, .unset, .unset, .unset, .unset, .unset, .unset] [(.int (((p3.toUInt32 >>> ((2 : Int32) &&& 31).toUInt32).toInt32) &&& (7 : Int32)))])
  refine own_go (fun t k => XS.iconst X0.here hx rfl (hb hby at_38) k) ?_
  show Go _ _ _ _ _ s₁ (mkF m 39 #[.val (.int p1), .val (.int p2), .val (.int p3), .val (.int p4), .val (.int p5), .val (.int cnt), .val (.int s1), .val (.int d1), .val (.int (p3 &&& (3 : Int32))), .unset, .unset, .unset, .unset, .unset, .unset, .unset, .unset] [(.int (5 : Int32)), (.int (((p3.toUInt32 >>> ((2 : Int32) &&& 31).toUInt32).toInt32) &&& (7 : Int32)))])
  refine own_go (fun t k => XS.iload X0.here hx rfl (hb hby at_39) rfl k) ?_
  show Go _ _ _ _ _ s₁ (mkF m 41 #[.val (.int p1), .val (.int p2), .val (.int p3), .val (.int p4), .val (.int p5), .val (.int cnt), .val (.int s1), .val (.int d1), .val (.int (p3 &&& (3 : Int32))), .unset, .unset, .unset, .unset, .unset, .unset, .unset, .unset] [(.int (p3 &&& (3 : Int32))), (.int (5 : Int32)), (.int (((p3.toUInt32 >>> ((2 : Int32) &&& 31).toUInt32).toInt32) &&& (7 : Int32)))])
  refine own_go (fun t k => XS.isub X0.here hx rfl (hb hby at_41) rfl k) ?_
  show Go _ _ _ _ _ s₁ (mkF m 42 #[.val (.int p1), .val (.int p2), .val (.int p3), .val (.int p4), .val (.int p5), .val (.int cnt), .val (.int s1), .val (.int d1), .val (.int (p3 &&& (3 : Int32))), .unset, .unset, .unset, .unset, .unset, .unset, .unset, .unset] [(.int ((5 : Int32) - (p3 &&& (3 : Int32)))), (.int (((p3.toUInt32 >>> ((2 : Int32) &&& 31).toUInt32).toInt32) &&& (7 : Int32)))])
  refine own_go (fun t k => iremM X0 hx rfl (hb hby at_42) rfl (own_nz5 p3) k) ?_
  show Go _ _ _ _ _ s₁ (mkF m 43 #[.val (.int p1), .val (.int p2), .val (.int p3), .val (.int p4), .val (.int p5), .val (.int cnt), .val (.int s1), .val (.int d1), .val (.int (p3 &&& (3 : Int32))), .unset, .unset, .unset, .unset, .unset, .unset, .unset, .unset] [(.int ((((p3.toUInt32 >>> ((2 : Int32) &&& 31).toUInt32).toInt32) &&& (7 : Int32)) % ((5 : Int32) - (p3 &&& (3 : Int32)))))])
  refine own_go (fun t k => XS.istore X0.here hx rfl (hb hby at_43) rfl (l' := #[.val (.int p1), .val (.int p2), .val (.int p3), .val (.int p4), .val (.int p5), .val (.int cnt), .val (.int s1), .val (.int d1), .val (.int (p3 &&& (3 : Int32))), .val (.int ((((p3.toUInt32 >>> ((2 : Int32) &&& 31).toUInt32).toInt32) &&& (7 : Int32)) % ((5 : Int32) - (p3 &&& (3 : Int32))))), .unset, .unset, .unset, .unset, .unset, .unset, .unset]) rfl k) ?_
  show Go _ _ _ _ _ s₁ (mkF m 45 #[.val (.int p1), .val (.int p2), .val (.int p3), .val (.int p4), .val (.int p5), .val (.int cnt), .val (.int s1), .val (.int d1), .val (.int (p3 &&& (3 : Int32))), .val (.int ((((p3.toUInt32 >>> ((2 : Int32) &&& 31).toUInt32).toInt32) &&& (7 : Int32)) % ((5 : Int32) - (p3 &&& (3 : Int32))))), .unset, .unset, .unset, .unset, .unset, .unset, .unset] [])
  have hsd2 := own_sdof p3
  generalize ((((p3.toUInt32 >>> ((2 : Int32) &&& 31).toUInt32).toInt32) &&& (7 : Int32)) % ((5 : Int32) - (p3 &&& (3 : Int32)))) = d2 at hsd2 ⊢
  generalize (p3 &&& (3 : Int32)) = s2 at hsd2 ⊢
  show Go _ _ _ _ _ s₁ (mkF m 45 #[.val (.int p1), .val (.int p2), .val (.int p3), .val (.int p4), .val (.int p5), .val (.int cnt), .val (.int s1), .val (.int d1), .val (.int s2), .val (.int d2), .unset, .unset, .unset, .unset, .unset, .unset, .unset] [])
  refine own_go (fun t k => XS.iloadN X0.here hx rfl (hb hby at_45) rfl k) ?_
  show Go _ _ _ _ _ s₁ (mkF m 46 #[.val (.int p1), .val (.int p2), .val (.int p3), .val (.int p4), .val (.int p5), .val (.int cnt), .val (.int s1), .val (.int d1), .val (.int s2), .val (.int d2), .unset, .unset, .unset, .unset, .unset, .unset, .unset] [(.int p4)])
  refine own_go (fun t k => XS.iconst X0.here hx rfl (hb hby at_46) k) ?_
  show Go _ _ _ _ _ s₁ (mkF m 47 #[.val (.int p1), .val (.int p2), .val (.int p3), .val (.int p4), .val (.int p5), .val (.int cnt), .val (.int s1), .val (.int d1), .val (.int s2), .val (.int d2), .unset, .unset, .unset, .unset, .unset, .unset, .unset] [(.int (3 : Int32)), (.int p4)])
  refine own_go (fun t k => XS.iand X0.here hx rfl (hb hby at_47) rfl k) ?_
  show Go _ _ _ _ _ s₁ (mkF m 48 #[.val (.int p1), .val (.int p2), .val (.int p3), .val (.int p4), .val (.int p5), .val (.int cnt), .val (.int s1), .val (.int d1), .val (.int s2), .val (.int d2), .unset, .unset, .unset, .unset, .unset, .unset, .unset] [(.int (p4 &&& (3 : Int32)))])
  refine own_go (fun t k => XS.istore X0.here hx rfl (hb hby at_48) rfl (l' := #[.val (.int p1), .val (.int p2), .val (.int p3), .val (.int p4), .val (.int p5), .val (.int cnt), .val (.int s1), .val (.int d1), .val (.int s2), .val (.int d2), .val (.int (p4 &&& (3 : Int32))), .unset, .unset, .unset, .unset, .unset, .unset]) rfl k) ?_
  show Go _ _ _ _ _ s₁ (mkF m 50 #[.val (.int p1), .val (.int p2), .val (.int p3), .val (.int p4), .val (.int p5), .val (.int cnt), .val (.int s1), .val (.int d1), .val (.int s2), .val (.int d2), .val (.int (p4 &&& (3 : Int32))), .unset, .unset, .unset, .unset, .unset, .unset] [])
  refine own_go (fun t k => XS.iloadN X0.here hx rfl (hb hby at_50) rfl k) ?_
  show Go _ _ _ _ _ s₁ (mkF m 51 #[.val (.int p1), .val (.int p2), .val (.int p3), .val (.int p4), .val (.int p5), .val (.int cnt), .val (.int s1), .val (.int d1), .val (.int s2), .val (.int d2), .val (.int (p4 &&& (3 : Int32))), .unset, .unset, .unset, .unset, .unset, .unset] [(.int p4)])
  refine own_go (fun t k => XS.iconst X0.here hx rfl (hb hby at_51) k) ?_
  show Go _ _ _ _ _ s₁ (mkF m 52 #[.val (.int p1), .val (.int p2), .val (.int p3), .val (.int p4), .val (.int p5), .val (.int cnt), .val (.int s1), .val (.int d1), .val (.int s2), .val (.int d2), .val (.int (p4 &&& (3 : Int32))), .unset, .unset, .unset, .unset, .unset, .unset] [(.int (2 : Int32)), (.int p4)])
  refine own_go (fun t k => XS.iushr X0.here hx rfl (hb hby at_52) rfl k) ?_
  show Go _ _ _ _ _ s₁ (mkF m 53 #[.val (.int p1), .val (.int p2), .val (.int p3), .val (.int p4), .val (.int p5), .val (.int cnt), .val (.int s1), .val (.int d1), .val (.int s2), .val (.int d2), .val (.int (p4 &&& (3 : Int32))), .unset, .unset, .unset, .unset, .unset, .unset] [(.int ((p4.toUInt32 >>> ((2 : Int32) &&& 31).toUInt32).toInt32))])
  refine own_go (fun t k => XS.bipush X0.here hx rfl (hb hby at_53) k) ?_
  show Go _ _ _ _ _ s₁ (mkF m 55 #[.val (.int p1), .val (.int p2), .val (.int p3), .val (.int p4), .val (.int p5), .val (.int cnt), .val (.int s1), .val (.int d1), .val (.int s2), .val (.int d2), .val (.int (p4 &&& (3 : Int32))), .unset, .unset, .unset, .unset, .unset, .unset] [(.int (7 : Int32)), (.int ((p4.toUInt32 >>> ((2 : Int32) &&& 31).toUInt32).toInt32))])
  refine own_go (fun t k => XS.iand X0.here hx rfl (hb hby at_55) rfl k) ?_
  show Go _ _ _ _ _ s₁ (mkF m 56 #[.val (.int p1), .val (.int p2), .val (.int p3), .val (.int p4), .val (.int p5), .val (.int cnt), .val (.int s1), .val (.int d1), .val (.int s2), .val (.int d2), .val (.int (p4 &&& (3 : Int32))), .unset, .unset, .unset, .unset, .unset, .unset] [(.int (((p4.toUInt32 >>> ((2 : Int32) &&& 31).toUInt32).toInt32) &&& (7 : Int32)))])
  refine own_go (fun t k => XS.iconst X0.here hx rfl (hb hby at_56) k) ?_
  show Go _ _ _ _ _ s₁ (mkF m 57 #[.val (.int p1), .val (.int p2), .val (.int p3), .val (.int p4), .val (.int p5), .val (.int cnt), .val (.int s1), .val (.int d1), .val (.int s2), .val (.int d2), .val (.int (p4 &&& (3 : Int32))), .unset, .unset, .unset, .unset, .unset, .unset] [(.int (5 : Int32)), (.int (((p4.toUInt32 >>> ((2 : Int32) &&& 31).toUInt32).toInt32) &&& (7 : Int32)))])
  refine own_go (fun t k => XS.iload X0.here hx rfl (hb hby at_57) rfl k) ?_
  show Go _ _ _ _ _ s₁ (mkF m 59 #[.val (.int p1), .val (.int p2), .val (.int p3), .val (.int p4), .val (.int p5), .val (.int cnt), .val (.int s1), .val (.int d1), .val (.int s2), .val (.int d2), .val (.int (p4 &&& (3 : Int32))), .unset, .unset, .unset, .unset, .unset, .unset] [(.int (p4 &&& (3 : Int32))), (.int (5 : Int32)), (.int (((p4.toUInt32 >>> ((2 : Int32) &&& 31).toUInt32).toInt32) &&& (7 : Int32)))])
  refine own_go (fun t k => XS.isub X0.here hx rfl (hb hby at_59) rfl k) ?_
  show Go _ _ _ _ _ s₁ (mkF m 60 #[.val (.int p1), .val (.int p2), .val (.int p3), .val (.int p4), .val (.int p5), .val (.int cnt), .val (.int s1), .val (.int d1), .val (.int s2), .val (.int d2), .val (.int (p4 &&& (3 : Int32))), .unset, .unset, .unset, .unset, .unset, .unset] [(.int ((5 : Int32) - (p4 &&& (3 : Int32)))), (.int (((p4.toUInt32 >>> ((2 : Int32) &&& 31).toUInt32).toInt32) &&& (7 : Int32)))])
  refine own_go (fun t k => iremM X0 hx rfl (hb hby at_60) rfl (own_nz5 p4) k) ?_
  show Go _ _ _ _ _ s₁ (mkF m 61 #[.val (.int p1), .val (.int p2), .val (.int p3), .val (.int p4), .val (.int p5), .val (.int cnt), .val (.int s1), .val (.int d1), .val (.int s2), .val (.int d2), .val (.int (p4 &&& (3 : Int32))), .unset, .unset, .unset, .unset, .unset, .unset] [(.int ((((p4.toUInt32 >>> ((2 : Int32) &&& 31).toUInt32).toInt32) &&& (7 : Int32)) % ((5 : Int32) - (p4 &&& (3 : Int32)))))])
  refine own_go (fun t k => XS.istore X0.here hx rfl (hb hby at_61) rfl (l' := #[.val (.int p1), .val (.int p2), .val (.int p3), .val (.int p4), .val (.int p5), .val (.int cnt), .val (.int s1), .val (.int d1), .val (.int s2), .val (.int d2), .val (.int (p4 &&& (3 : Int32))), .val (.int ((((p4.toUInt32 >>> ((2 : Int32) &&& 31).toUInt32).toInt32) &&& (7 : Int32)) % ((5 : Int32) - (p4 &&& (3 : Int32))))), .unset, .unset, .unset, .unset, .unset]) rfl k) ?_
  show Go _ _ _ _ _ s₁ (mkF m 63 #[.val (.int p1), .val (.int p2), .val (.int p3), .val (.int p4), .val (.int p5), .val (.int cnt), .val (.int s1), .val (.int d1), .val (.int s2), .val (.int d2), .val (.int (p4 &&& (3 : Int32))), .val (.int ((((p4.toUInt32 >>> ((2 : Int32) &&& 31).toUInt32).toInt32) &&& (7 : Int32)) % ((5 : Int32) - (p4 &&& (3 : Int32))))), .unset, .unset, .unset, .unset, .unset] [])
  have hsd3 := own_sdof p4
  generalize ((((p4.toUInt32 >>> ((2 : Int32) &&& 31).toUInt32).toInt32) &&& (7 : Int32)) % ((5 : Int32) - (p4 &&& (3 : Int32)))) = d3 at hsd3 ⊢
  generalize (p4 &&& (3 : Int32)) = s3 at hsd3 ⊢
  show Go _ _ _ _ _ s₁ (mkF m 63 #[.val (.int p1), .val (.int p2), .val (.int p3), .val (.int p4), .val (.int p5), .val (.int cnt), .val (.int s1), .val (.int d1), .val (.int s2), .val (.int d2), .val (.int s3), .val (.int d3), .unset, .unset, .unset, .unset, .unset] [])
  refine own_go (fun t k => XS.iload X0.here hx rfl (hb hby at_63) rfl k) ?_
  show Go _ _ _ _ _ s₁ (mkF m 65 #[.val (.int p1), .val (.int p2), .val (.int p3), .val (.int p4), .val (.int p5), .val (.int cnt), .val (.int s1), .val (.int d1), .val (.int s2), .val (.int d2), .val (.int s3), .val (.int d3), .unset, .unset, .unset, .unset, .unset] [(.int p5)])
  refine own_go (fun t k => XS.iconst X0.here hx rfl (hb hby at_65) k) ?_
  show Go _ _ _ _ _ s₁ (mkF m 66 #[.val (.int p1), .val (.int p2), .val (.int p3), .val (.int p4), .val (.int p5), .val (.int cnt), .val (.int s1), .val (.int d1), .val (.int s2), .val (.int d2), .val (.int s3), .val (.int d3), .unset, .unset, .unset, .unset, .unset] [(.int (3 : Int32)), (.int p5)])
  refine own_go (fun t k => XS.iand X0.here hx rfl (hb hby at_66) rfl k) ?_
  show Go _ _ _ _ _ s₁ (mkF m 67 #[.val (.int p1), .val (.int p2), .val (.int p3), .val (.int p4), .val (.int p5), .val (.int cnt), .val (.int s1), .val (.int d1), .val (.int s2), .val (.int d2), .val (.int s3), .val (.int d3), .unset, .unset, .unset, .unset, .unset] [(.int (p5 &&& (3 : Int32)))])
  refine own_go (fun t k => XS.istore X0.here hx rfl (hb hby at_67) rfl (l' := #[.val (.int p1), .val (.int p2), .val (.int p3), .val (.int p4), .val (.int p5), .val (.int cnt), .val (.int s1), .val (.int d1), .val (.int s2), .val (.int d2), .val (.int s3), .val (.int d3), .val (.int (p5 &&& (3 : Int32))), .unset, .unset, .unset, .unset]) rfl k) ?_
  show Go _ _ _ _ _ s₁ (mkF m 69 #[.val (.int p1), .val (.int p2), .val (.int p3), .val (.int p4), .val (.int p5), .val (.int cnt), .val (.int s1), .val (.int d1), .val (.int s2), .val (.int d2), .val (.int s3), .val (.int d3), .val (.int (p5 &&& (3 : Int32))), .unset, .unset, .unset, .unset] [])
  refine own_go (fun t k => XS.iload X0.here hx rfl (hb hby at_69) rfl k) ?_
  show Go _ _ _ _ _ s₁ (mkF m 71 #[.val (.int p1), .val (.int p2), .val (.int p3), .val (.int p4), .val (.int p5), .val (.int cnt), .val (.int s1), .val (.int d1), .val (.int s2), .val (.int d2), .val (.int s3), .val (.int d3), .val (.int (p5 &&& (3 : Int32))), .unset, .unset, .unset, .unset] [(.int p5)])
  refine own_go (fun t k => XS.iconst X0.here hx rfl (hb hby at_71) k) ?_
  show Go _ _ _ _ _ s₁ (mkF m 72 #[.val (.int p1), .val (.int p2), .val (.int p3), .val (.int p4), .val (.int p5), .val (.int cnt), .val (.int s1), .val (.int d1), .val (.int s2), .val (.int d2), .val (.int s3), .val (.int d3), .val (.int (p5 &&& (3 : Int32))), .unset, .unset, .unset, .unset] [(.int (2 : Int32)), (.int p5)])
  refine own_go (fun t k => XS.iushr X0.here hx rfl (hb hby at_72) rfl k) ?_
  show Go _ _ _ _ _ s₁ (mkF m 73 #[.val (.int p1), .val (.int p2), .val (.int p3), .val (.int p4), .val (.int p5), .val (.int cnt), .val (.int s1), .val (.int d1), .val (.int s2), .val (.int d2), .val (.int s3), .val (.int d3), .val (.int (p5 &&& (3 : Int32))), .unset, .unset, .unset, .unset] [(.int ((p5.toUInt32 >>> ((2 : Int32) &&& 31).toUInt32).toInt32))])
  refine own_go (fun t k => XS.bipush X0.here hx rfl (hb hby at_73) k) ?_
  show Go _ _ _ _ _ s₁ (mkF m 75 #[.val (.int p1), .val (.int p2), .val (.int p3), .val (.int p4), .val (.int p5), .val (.int cnt), .val (.int s1), .val (.int d1), .val (.int s2), .val (.int d2), .val (.int s3), .val (.int d3), .val (.int (p5 &&& (3 : Int32))), .unset, .unset, .unset, .unset] [(.int (7 : Int32)), (.int ((p5.toUInt32 >>> ((2 : Int32) &&& 31).toUInt32).toInt32))])
  refine own_go (fun t k => XS.iand X0.here hx rfl (hb hby at_75) rfl k) ?_
  show Go _ _ _ _ _ s₁ (mkF m 76 #[.val (.int p1), .val (.int p2), .val (.int p3), .val (.int p4), .val (.int p5), .val (.int cnt), .val (.int s1), .val (.int d1), .val (.int s2), .val (.int d2), .val (.int s3), .val (.int d3), .val (.int (p5 &&& (3 : Int32))), .unset, .unset, .unset, .unset] [(.int (((p5.toUInt32 >>> ((2 : Int32) &&& 31).toUInt32).toInt32) &&& (7 : Int32)))])
  refine own_go (fun t k => XS.iconst X0.here hx rfl (hb hby at_76) k) ?_
  show Go _ _ _ _ _ s₁ (mkF m 77 #[.val (.int p1), .val (.int p2), .val (.int p3), .val (.int p4), .val (.int p5), .val (.int cnt), .val (.int s1), .val (.int d1), .val (.int s2), .val (.int d2), .val (.int s3), .val (.int d3), .val (.int (p5 &&& (3 : Int32))), .unset, .unset, .unset, .unset] [(.int (5 : Int32)), (.int (((p5.toUInt32 >>> ((2 : Int32) &&& 31).toUInt32).toInt32) &&& (7 : Int32)))])
  refine own_go (fun t k => XS.iload X0.here hx rfl (hb hby at_77) rfl k) ?_
  show Go _ _ _ _ _ s₁ (mkF m 79 #[.val (.int p1), .val (.int p2), .val (.int p3), .val (.int p4), .val (.int p5), .val (.int cnt), .val (.int s1), .val (.int d1), .val (.int s2), .val (.int d2), .val (.int s3), .val (.int d3), .val (.int (p5 &&& (3 : Int32))), .unset, .unset, .unset, .unset] [(.int (p5 &&& (3 : Int32))), (.int (5 : Int32)), (.int (((p5.toUInt32 >>> ((2 : Int32) &&& 31).toUInt32).toInt32) &&& (7 : Int32)))])
  refine own_go (fun t k => XS.isub X0.here hx rfl (hb hby at_79) rfl k) ?_
  show Go _ _ _ _ _ s₁ (mkF m 80 #[.val (.int p1), .val (.int p2), .val (.int p3), .val (.int p4), .val (.int p5), .val (.int cnt), .val (.int s1), .val (.int d1), .val (.int s2), .val (.int d2), .val (.int s3), .val (.int d3), .val (.int (p5 &&& (3 : Int32))), .unset, .unset, .unset, .unset] [(.int ((5 : Int32) - (p5 &&& (3 : Int32)))), (.int (((p5.toUInt32 >>> ((2 : Int32) &&& 31).toUInt32).toInt32) &&& (7 : Int32)))])
  refine own_go (fun t k => iremM X0 hx rfl (hb hby at_80) rfl (own_nz5 p5) k) ?_
  show Go _ _ _ _ _ s₁ (mkF m 81 #[.val (.int p1), .val (.int p2), .val (.int p3), .val (.int p4), .val (.int p5), .val (.int cnt), .val (.int s1), .val (.int d1), .val (.int s2), .val (.int d2), .val (.int s3), .val (.int d3), .val (.int (p5 &&& (3 : Int32))), .unset, .unset, .unset, .unset] [(.int ((((p5.toUInt32 >>> ((2 : Int32) &&& 31).toUInt32).toInt32) &&& (7 : Int32)) % ((5 : Int32) - (p5 &&& (3 : Int32)))))])
  refine own_go (fun t k => XS.istore X0.here hx rfl (hb hby at_81) rfl (l' := #[.val (.int p1), .val (.int p2), .val (.int p3), .val (.int p4), .val (.int p5), .val (.int cnt), .val (.int s1), .val (.int d1), .val (.int s2), .val (.int d2), .val (.int s3), .val (.int d3), .val (.int (p5 &&& (3 : Int32))), .val (.int ((((p5.toUInt32 >>> ((2 : Int32) &&& 31).toUInt32).toInt32) &&& (7 : Int32)) % ((5 : Int32) - (p5 &&& (3 : Int32))))), .unset, .unset, .unset]) rfl k) ?_
  show Go _ _ _ _ _ s₁ (mkF m 83 #[.val (.int p1), .val (.int p2), .val (.int p3), .val (.int p4), .val (.int p5), .val (.int cnt), .val (.int s1), .val (.int d1), .val (.int s2), .val (.int d2), .val (.int s3), .val (.int d3), .val (.int (p5 &&& (3 : Int32))), .val (.int ((((p5.toUInt32 >>> ((2 : Int32) &&& 31).toUInt32).toInt32) &&& (7 : Int32)) % ((5 : Int32) - (p5 &&& (3 : Int32))))), .unset, .unset, .unset] [])
  have hsd4 := own_sdof p5
  generalize ((((p5.toUInt32 >>> ((2 : Int32) &&& 31).toUInt32).toInt32) &&& (7 : Int32)) % ((5 : Int32) - (p5 &&& (3 : Int32)))) = d4 at hsd4 ⊢
  generalize (p5 &&& (3 : Int32)) = s4 at hsd4 ⊢
  show Go _ _ _ _ _ s₁ (mkF m 83 #[.val (.int p1), .val (.int p2), .val (.int p3), .val (.int p4), .val (.int p5), .val (.int cnt), .val (.int s1), .val (.int d1), .val (.int s2), .val (.int d2), .val (.int s3), .val (.int d3), .val (.int s4), .val (.int d4), .unset, .unset, .unset] [])
  obtain ⟨T163, h163, X163, e163, E163, A163, D163, -, st163⟩ := newO X0 hx hZ hown (hw _ (List.mem_of_getElem? (i := 0) rfl)) (hw _ (List.mem_of_getElem? (i := 1) rfl)) (hw _ (List.mem_of_getElem? (i := 2) rfl)) e0 (g := (mkF m 83 #[.val (.int p1), .val (.int p2), .val (.int p3), .val (.int p4), .val (.int p5), .val (.int cnt), .val (.int s1), .val (.int d1), .val (.int s2), .val (.int d2), .val (.int s3), .val (.int d3), .val (.int s4), .val (.int d4), .unset, .unset, .unset] [])) rfl (hb hby at_83) (by decide) (by decide)
  obtain ⟨b163, g163⟩ : ∃ z, z = h0.size := ⟨_, rfl⟩
  rw [← g163] at A163 D163 st163
  have g_b163 : n0 ≤ b163 := by rw [g163]; exact hn0
  have hn163 : n0 ≤ h163.size := Nat.le_trans hn0 E163.1
  have F_m_count_b163 : Fld Z h163 b163 "com/example/trailworks/trailworks/works/Crews" "m_count" "I" (.int (0 : Int32)) := D163 (Or.inr (hw _ (List.mem_of_getElem? (i := 17) rfl))) (ty := .int) (by decide)
  have F_m_taken_b163 : Fld Z h163 b163 "com/example/trailworks/trailworks/works/Crews" "m_taken" "[I" .null := D163 (Or.inr (hw _ (List.mem_of_getElem? (i := 20) rfl))) (ty := (.array .int)) (by decide)
  refine own_go (fun t k => st163 t k) ?_
  show Go _ _ _ _ _ T163 (mkF m 86 #[.val (.int p1), .val (.int p2), .val (.int p3), .val (.int p4), .val (.int p5), .val (.int cnt), .val (.int s1), .val (.int d1), .val (.int s2), .val (.int d2), .val (.int s3), .val (.int d3), .val (.int s4), .val (.int d4), .unset, .unset, .unset] [(.ref b163)])
  refine own_go (fun t k => XS.dup X163.here hx rfl (hb hby at_86) rfl rfl k) ?_
  show Go _ _ _ _ _ T163 (mkF m 87 #[.val (.int p1), .val (.int p2), .val (.int p3), .val (.int p4), .val (.int p5), .val (.int cnt), .val (.int s1), .val (.int d1), .val (.int s2), .val (.int d2), .val (.int s3), .val (.int d3), .val (.int s4), .val (.int d4), .unset, .unset, .unset] [(.ref b163), (.ref b163)])
  refine own_go (fun t k => XS.iconst X163.here hx rfl (hb hby at_87) k) ?_
  show Go _ _ _ _ _ T163 (mkF m 88 #[.val (.int p1), .val (.int p2), .val (.int p3), .val (.int p4), .val (.int p5), .val (.int cnt), .val (.int s1), .val (.int d1), .val (.int s2), .val (.int d2), .val (.int s3), .val (.int d3), .val (.int s4), .val (.int d4), .unset, .unset, .unset] [(.int (4 : Int32)), (.ref b163), (.ref b163)])
  refine own_go (fun t k => XS.iload X163.here hx rfl (hb hby at_88) rfl k) ?_
  show Go _ _ _ _ _ T163 (mkF m 90 #[.val (.int p1), .val (.int p2), .val (.int p3), .val (.int p4), .val (.int p5), .val (.int cnt), .val (.int s1), .val (.int d1), .val (.int s2), .val (.int d2), .val (.int s3), .val (.int d3), .val (.int s4), .val (.int d4), .unset, .unset, .unset] [(.int cnt), (.int (4 : Int32)), (.ref b163), (.ref b163)])
  refine own_callI X163 hx hZ (y := (⟨"com/example/trailworks/trailworks/works/Crews", "<init>", "(II)V"⟩ : MethodName)) rfl hown (hw _ (List.mem_of_getElem? (i := 3) rfl)) (hw _ (List.mem_of_getElem? (i := 4) rfl)) (hw _ (List.mem_of_getElem? (i := 5) rfl)) (hw _ (List.mem_of_getElem? (i := 2) rfl)) (by decide) (rm_init l Z a0 hw [] b163 cnt h163 n0 hn163 hcnt A163 g_b163 F_m_count_b163 F_m_taken_b163) e163 (b := b163) (by rw [hml]; rfl) (argsL := [(.int (4 : Int32)), (.int cnt)]) (rest := [(.ref b163)]) rfl rfl (lenOf own_pd2 rfl) (W := 1) (Nat.le_of_eq rfl) (by decide) (by decide) (hb hby at_90) (by decide) (by decide) ?_
  intro v164 T164 L164 X164 q164
  obtain ⟨rfl, N164q, K164, Ex164, Fc164, bt, kt, gt, net, Ft164, Vt164⟩ := q164
  have N164 := Fr.app N0 N164q
  replace A163 := A163.keep K164
  have hn164 : n0 ≤ T164.heap.size := Nat.le_trans hn163 K164.1
  show Go _ _ _ _ _ T164 (mkF m 93 #[.val (.int p1), .val (.int p2), .val (.int p3), .val (.int p4), .val (.int p5), .val (.int cnt), .val (.int s1), .val (.int d1), .val (.int s2), .val (.int d2), .val (.int s3), .val (.int d3), .val (.int s4), .val (.int d4), .unset, .unset, .unset] [(.ref b163)])
  refine own_go (fun t k => XS.astore X164.here hx rfl (hb hby at_93) rfl rfl (l' := #[.val (.int p1), .val (.int p2), .val (.int p3), .val (.int p4), .val (.int p5), .val (.int cnt), .val (.int s1), .val (.int d1), .val (.int s2), .val (.int d2), .val (.int s3), .val (.int d3), .val (.int s4), .val (.int d4), .val (.ref b163), .unset, .unset]) rfl k) ?_
  show Go _ _ _ _ _ T164 (mkF m 95 #[.val (.int p1), .val (.int p2), .val (.int p3), .val (.int p4), .val (.int p5), .val (.int cnt), .val (.int s1), .val (.int d1), .val (.int s2), .val (.int d2), .val (.int s3), .val (.int d3), .val (.int s4), .val (.int d4), .val (.ref b163), .unset, .unset] [])
  refine own_go (fun t k => XS.aload X164.here hx rfl (hb hby at_95) rfl rfl k) ?_
  show Go _ _ _ _ _ T164 (mkF m 97 #[.val (.int p1), .val (.int p2), .val (.int p3), .val (.int p4), .val (.int p5), .val (.int cnt), .val (.int s1), .val (.int d1), .val (.int s2), .val (.int d2), .val (.int s3), .val (.int d3), .val (.int s4), .val (.int d4), .val (.ref b163), .unset, .unset] [(.ref b163)])
  refine own_go (fun t k => XS.iload X164.here hx rfl (hb hby at_97) rfl k) ?_
  show Go _ _ _ _ _ T164 (mkF m 99 #[.val (.int p1), .val (.int p2), .val (.int p3), .val (.int p4), .val (.int p5), .val (.int cnt), .val (.int s1), .val (.int d1), .val (.int s2), .val (.int d2), .val (.int s3), .val (.int d3), .val (.int s4), .val (.int d4), .val (.ref b163), .unset, .unset] [(.int s1), (.ref b163)])
  refine own_go (fun t k => XS.iload X164.here hx rfl (hb hby at_99) rfl k) ?_
  show Go _ _ _ _ _ T164 (mkF m 101 #[.val (.int p1), .val (.int p2), .val (.int p3), .val (.int p4), .val (.int p5), .val (.int cnt), .val (.int s1), .val (.int d1), .val (.int s2), .val (.int d2), .val (.int s3), .val (.int d3), .val (.int s4), .val (.int d4), .val (.ref b163), .unset, .unset] [(.int d1), (.int s1), (.ref b163)])
  refine own_callV X164 hx hZ (y := (⟨"com/example/trailworks/trailworks/works/Crews", "take", "(II)V"⟩ : MethodName)) hown (hw _ (List.mem_of_getElem? (i := 21) rfl)) (hw _ (List.mem_of_getElem? (i := 22) rfl)) (hw _ (List.mem_of_getElem? (i := 24) rfl)) (hw _ (List.mem_of_getElem? (i := 23) rfl)) (hw _ (List.mem_of_getElem? (i := 25) rfl)) (hw _ (List.mem_of_getElem? (i := 2) rfl)) (by decide) (rm_take l Z a0 hw [] b163 bt kt s1 d1 (0 : Int32) (0 : Int32) (0 : Int32) (0 : Int32) T164.heap n0 hn164 Ex164 Ft164 Vt164 gt net hsd1) rfl Ex164 (by rw [hml]; rfl) (argsL := [(.int s1), (.int d1)]) (rest := []) rfl rfl (lenOf own_pd2 rfl) (W := 0) (Nat.le_of_eq rfl) (by decide) (by decide) (hb hby at_101) (by decide) (by decide) ?_
  intro v165 T165 L165 X165 q165
  obtain ⟨rfl, N165q, K165, Vt165⟩ := q165
  have N165 := Fr.app N164 N165q
  replace Fc164 := Fc164.keep K165 (ninS net nin0)
  replace Ft164 := Ft164.keep K165 (ninS net nin0)
  replace Ex164 := Ex164.keep K165
  have hn165 : n0 ≤ T165.heap.size := Nat.le_trans hn164 K165.1
  show Go _ _ _ _ _ T165 (mkF m 104 #[.val (.int p1), .val (.int p2), .val (.int p3), .val (.int p4), .val (.int p5), .val (.int cnt), .val (.int s1), .val (.int d1), .val (.int s2), .val (.int d2), .val (.int s3), .val (.int d3), .val (.int s4), .val (.int d4), .val (.ref b163), .unset, .unset] [])
  refine own_go (fun t k => XS.aload X165.here hx rfl (hb hby at_104) rfl rfl k) ?_
  show Go _ _ _ _ _ T165 (mkF m 106 #[.val (.int p1), .val (.int p2), .val (.int p3), .val (.int p4), .val (.int p5), .val (.int cnt), .val (.int s1), .val (.int d1), .val (.int s2), .val (.int d2), .val (.int s3), .val (.int d3), .val (.int s4), .val (.int d4), .val (.ref b163), .unset, .unset] [(.ref b163)])
  refine own_go (fun t k => XS.iload X165.here hx rfl (hb hby at_106) rfl k) ?_
  show Go _ _ _ _ _ T165 (mkF m 108 #[.val (.int p1), .val (.int p2), .val (.int p3), .val (.int p4), .val (.int p5), .val (.int cnt), .val (.int s1), .val (.int d1), .val (.int s2), .val (.int d2), .val (.int s3), .val (.int d3), .val (.int s4), .val (.int d4), .val (.ref b163), .unset, .unset] [(.int s2), (.ref b163)])
  refine own_go (fun t k => XS.iload X165.here hx rfl (hb hby at_108) rfl k) ?_
  show Go _ _ _ _ _ T165 (mkF m 110 #[.val (.int p1), .val (.int p2), .val (.int p3), .val (.int p4), .val (.int p5), .val (.int cnt), .val (.int s1), .val (.int d1), .val (.int s2), .val (.int d2), .val (.int s3), .val (.int d3), .val (.int s4), .val (.int d4), .val (.ref b163), .unset, .unset] [(.int d2), (.int s2), (.ref b163)])
  refine own_callV X165 hx hZ (y := (⟨"com/example/trailworks/trailworks/works/Crews", "take", "(II)V"⟩ : MethodName)) hown (hw _ (List.mem_of_getElem? (i := 21) rfl)) (hw _ (List.mem_of_getElem? (i := 22) rfl)) (hw _ (List.mem_of_getElem? (i := 24) rfl)) (hw _ (List.mem_of_getElem? (i := 23) rfl)) (hw _ (List.mem_of_getElem? (i := 25) rfl)) (hw _ (List.mem_of_getElem? (i := 2) rfl)) (by decide) (rm_take l Z a0 hw [] b163 bt kt s2 d2 ((0 : Int32) + (own_in (0 : Int32) s1 d1)) ((0 : Int32) + (own_in (1 : Int32) s1 d1)) ((0 : Int32) + (own_in (2 : Int32) s1 d1)) ((0 : Int32) + (own_in (3 : Int32) s1 d1)) T165.heap n0 hn165 Ex164 Ft164 Vt165 gt net hsd2) rfl Ex164 (by rw [hml]; rfl) (argsL := [(.int s2), (.int d2)]) (rest := []) rfl rfl (lenOf own_pd2 rfl) (W := 0) (Nat.le_of_eq rfl) (by decide) (by decide) (hb hby at_110) (by decide) (by decide) ?_
  intro v166 T166 L166 X166 q166
  obtain ⟨rfl, N166q, K166, Vt166⟩ := q166
  have N166 := Fr.app N165 N166q
  replace Fc164 := Fc164.keep K166 (ninS net nin0)
  replace Ft164 := Ft164.keep K166 (ninS net nin0)
  replace Ex164 := Ex164.keep K166
  have hn166 : n0 ≤ T166.heap.size := Nat.le_trans hn165 K166.1
  show Go _ _ _ _ _ T166 (mkF m 113 #[.val (.int p1), .val (.int p2), .val (.int p3), .val (.int p4), .val (.int p5), .val (.int cnt), .val (.int s1), .val (.int d1), .val (.int s2), .val (.int d2), .val (.int s3), .val (.int d3), .val (.int s4), .val (.int d4), .val (.ref b163), .unset, .unset] [])
  refine own_go (fun t k => XS.aload X166.here hx rfl (hb hby at_113) rfl rfl k) ?_
  show Go _ _ _ _ _ T166 (mkF m 115 #[.val (.int p1), .val (.int p2), .val (.int p3), .val (.int p4), .val (.int p5), .val (.int cnt), .val (.int s1), .val (.int d1), .val (.int s2), .val (.int d2), .val (.int s3), .val (.int d3), .val (.int s4), .val (.int d4), .val (.ref b163), .unset, .unset] [(.ref b163)])
  refine own_go (fun t k => XS.iload X166.here hx rfl (hb hby at_115) rfl k) ?_
  show Go _ _ _ _ _ T166 (mkF m 117 #[.val (.int p1), .val (.int p2), .val (.int p3), .val (.int p4), .val (.int p5), .val (.int cnt), .val (.int s1), .val (.int d1), .val (.int s2), .val (.int d2), .val (.int s3), .val (.int d3), .val (.int s4), .val (.int d4), .val (.ref b163), .unset, .unset] [(.int s3), (.ref b163)])
  refine own_go (fun t k => XS.iload X166.here hx rfl (hb hby at_117) rfl k) ?_
  show Go _ _ _ _ _ T166 (mkF m 119 #[.val (.int p1), .val (.int p2), .val (.int p3), .val (.int p4), .val (.int p5), .val (.int cnt), .val (.int s1), .val (.int d1), .val (.int s2), .val (.int d2), .val (.int s3), .val (.int d3), .val (.int s4), .val (.int d4), .val (.ref b163), .unset, .unset] [(.int d3), (.int s3), (.ref b163)])
  refine own_callV X166 hx hZ (y := (⟨"com/example/trailworks/trailworks/works/Crews", "take", "(II)V"⟩ : MethodName)) hown (hw _ (List.mem_of_getElem? (i := 21) rfl)) (hw _ (List.mem_of_getElem? (i := 22) rfl)) (hw _ (List.mem_of_getElem? (i := 24) rfl)) (hw _ (List.mem_of_getElem? (i := 23) rfl)) (hw _ (List.mem_of_getElem? (i := 25) rfl)) (hw _ (List.mem_of_getElem? (i := 2) rfl)) (by decide) (rm_take l Z a0 hw [] b163 bt kt s3 d3 (((0 : Int32) + (own_in (0 : Int32) s1 d1)) + (own_in (0 : Int32) s2 d2)) (((0 : Int32) + (own_in (1 : Int32) s1 d1)) + (own_in (1 : Int32) s2 d2)) (((0 : Int32) + (own_in (2 : Int32) s1 d1)) + (own_in (2 : Int32) s2 d2)) (((0 : Int32) + (own_in (3 : Int32) s1 d1)) + (own_in (3 : Int32) s2 d2)) T166.heap n0 hn166 Ex164 Ft164 Vt166 gt net hsd3) rfl Ex164 (by rw [hml]; rfl) (argsL := [(.int s3), (.int d3)]) (rest := []) rfl rfl (lenOf own_pd2 rfl) (W := 0) (Nat.le_of_eq rfl) (by decide) (by decide) (hb hby at_119) (by decide) (by decide) ?_
  intro v167 T167 L167 X167 q167
  obtain ⟨rfl, N167q, K167, Vt167⟩ := q167
  have N167 := Fr.app N166 N167q
  replace Fc164 := Fc164.keep K167 (ninS net nin0)
  replace Ft164 := Ft164.keep K167 (ninS net nin0)
  replace Ex164 := Ex164.keep K167
  have hn167 : n0 ≤ T167.heap.size := Nat.le_trans hn166 K167.1
  show Go _ _ _ _ _ T167 (mkF m 122 #[.val (.int p1), .val (.int p2), .val (.int p3), .val (.int p4), .val (.int p5), .val (.int cnt), .val (.int s1), .val (.int d1), .val (.int s2), .val (.int d2), .val (.int s3), .val (.int d3), .val (.int s4), .val (.int d4), .val (.ref b163), .unset, .unset] [])
  refine own_go (fun t k => XS.aload X167.here hx rfl (hb hby at_122) rfl rfl k) ?_
  show Go _ _ _ _ _ T167 (mkF m 124 #[.val (.int p1), .val (.int p2), .val (.int p3), .val (.int p4), .val (.int p5), .val (.int cnt), .val (.int s1), .val (.int d1), .val (.int s2), .val (.int d2), .val (.int s3), .val (.int d3), .val (.int s4), .val (.int d4), .val (.ref b163), .unset, .unset] [(.ref b163)])
  refine own_go (fun t k => XS.iload X167.here hx rfl (hb hby at_124) rfl k) ?_
  show Go _ _ _ _ _ T167 (mkF m 126 #[.val (.int p1), .val (.int p2), .val (.int p3), .val (.int p4), .val (.int p5), .val (.int cnt), .val (.int s1), .val (.int d1), .val (.int s2), .val (.int d2), .val (.int s3), .val (.int d3), .val (.int s4), .val (.int d4), .val (.ref b163), .unset, .unset] [(.int s4), (.ref b163)])
  refine own_go (fun t k => XS.iload X167.here hx rfl (hb hby at_126) rfl k) ?_
  show Go _ _ _ _ _ T167 (mkF m 128 #[.val (.int p1), .val (.int p2), .val (.int p3), .val (.int p4), .val (.int p5), .val (.int cnt), .val (.int s1), .val (.int d1), .val (.int s2), .val (.int d2), .val (.int s3), .val (.int d3), .val (.int s4), .val (.int d4), .val (.ref b163), .unset, .unset] [(.int d4), (.int s4), (.ref b163)])
  refine own_callV X167 hx hZ (y := (⟨"com/example/trailworks/trailworks/works/Crews", "free", "(II)Z"⟩ : MethodName)) hown (hw _ (List.mem_of_getElem? (i := 26) rfl)) (hw _ (List.mem_of_getElem? (i := 27) rfl)) (hw _ (List.mem_of_getElem? (i := 29) rfl)) (hw _ (List.mem_of_getElem? (i := 28) rfl)) (hw _ (List.mem_of_getElem? (i := 30) rfl)) (hw _ (List.mem_of_getElem? (i := 2) rfl)) (by decide) (rm_free l Z a0 hw [] b163 bt kt s4 d4 cnt ((((0 : Int32) + (own_in (0 : Int32) s1 d1)) + (own_in (0 : Int32) s2 d2)) + (own_in (0 : Int32) s3 d3)) ((((0 : Int32) + (own_in (1 : Int32) s1 d1)) + (own_in (1 : Int32) s2 d2)) + (own_in (1 : Int32) s3 d3)) ((((0 : Int32) + (own_in (2 : Int32) s1 d1)) + (own_in (2 : Int32) s2 d2)) + (own_in (2 : Int32) s3 d3)) ((((0 : Int32) + (own_in (3 : Int32) s1 d1)) + (own_in (3 : Int32) s2 d2)) + (own_in (3 : Int32) s3 d3)) (own_free ((((0 : Int32) + (own_in (0 : Int32) s1 d1)) + (own_in (0 : Int32) s2 d2)) + (own_in (0 : Int32) s3 d3)) ((((0 : Int32) + (own_in (1 : Int32) s1 d1)) + (own_in (1 : Int32) s2 d2)) + (own_in (1 : Int32) s3 d3)) ((((0 : Int32) + (own_in (2 : Int32) s1 d1)) + (own_in (2 : Int32) s2 d2)) + (own_in (2 : Int32) s3 d3)) ((((0 : Int32) + (own_in (3 : Int32) s1 d1)) + (own_in (3 : Int32) s2 d2)) + (own_in (3 : Int32) s3 d3)) cnt s4 d4) T167.heap n0 hn167 Ex164 Ft164 Fc164 Vt167 hsd4 rfl) rfl Ex164 (by rw [hml]; rfl) (argsL := [(.int s4), (.int d4)]) (rest := []) rfl rfl (lenOf own_pd3 rfl) (W := 0) (Nat.le_of_eq rfl) (by decide) (by decide) (hb hby at_128) (by decide) (by decide) ?_
  intro v168 T168 L168 X168 q168
  obtain ⟨rfl, N168q, e168⟩ := q168
  have N168 := Fr.app N167 N168q
  show Go _ _ _ _ _ T168 (mkF m 131 #[.val (.int p1), .val (.int p2), .val (.int p3), .val (.int p4), .val (.int p5), .val (.int cnt), .val (.int s1), .val (.int d1), .val (.int s2), .val (.int d2), .val (.int s3), .val (.int d3), .val (.int s4), .val (.int d4), .val (.ref b163), .unset, .unset] [(.int (own_free ((((0 : Int32) + (own_in (0 : Int32) s1 d1)) + (own_in (0 : Int32) s2 d2)) + (own_in (0 : Int32) s3 d3)) ((((0 : Int32) + (own_in (1 : Int32) s1 d1)) + (own_in (1 : Int32) s2 d2)) + (own_in (1 : Int32) s3 d3)) ((((0 : Int32) + (own_in (2 : Int32) s1 d1)) + (own_in (2 : Int32) s2 d2)) + (own_in (2 : Int32) s3 d3)) ((((0 : Int32) + (own_in (3 : Int32) s1 d1)) + (own_in (3 : Int32) s2 d2)) + (own_in (3 : Int32) s3 d3)) cnt s4 d4))])
  refine own_go (fun t k => XS.istore X168.here hx rfl (hb hby at_131) rfl (l' := #[.val (.int p1), .val (.int p2), .val (.int p3), .val (.int p4), .val (.int p5), .val (.int cnt), .val (.int s1), .val (.int d1), .val (.int s2), .val (.int d2), .val (.int s3), .val (.int d3), .val (.int s4), .val (.int d4), .val (.ref b163), .val (.int (own_free ((((0 : Int32) + (own_in (0 : Int32) s1 d1)) + (own_in (0 : Int32) s2 d2)) + (own_in (0 : Int32) s3 d3)) ((((0 : Int32) + (own_in (1 : Int32) s1 d1)) + (own_in (1 : Int32) s2 d2)) + (own_in (1 : Int32) s3 d3)) ((((0 : Int32) + (own_in (2 : Int32) s1 d1)) + (own_in (2 : Int32) s2 d2)) + (own_in (2 : Int32) s3 d3)) ((((0 : Int32) + (own_in (3 : Int32) s1 d1)) + (own_in (3 : Int32) s2 d2)) + (own_in (3 : Int32) s3 d3)) cnt s4 d4)), .unset]) rfl k) ?_
  show Go _ _ _ _ _ T168 (mkF m 133 #[.val (.int p1), .val (.int p2), .val (.int p3), .val (.int p4), .val (.int p5), .val (.int cnt), .val (.int s1), .val (.int d1), .val (.int s2), .val (.int d2), .val (.int s3), .val (.int d3), .val (.int s4), .val (.int d4), .val (.ref b163), .val (.int (own_free ((((0 : Int32) + (own_in (0 : Int32) s1 d1)) + (own_in (0 : Int32) s2 d2)) + (own_in (0 : Int32) s3 d3)) ((((0 : Int32) + (own_in (1 : Int32) s1 d1)) + (own_in (1 : Int32) s2 d2)) + (own_in (1 : Int32) s3 d3)) ((((0 : Int32) + (own_in (2 : Int32) s1 d1)) + (own_in (2 : Int32) s2 d2)) + (own_in (2 : Int32) s3 d3)) ((((0 : Int32) + (own_in (3 : Int32) s1 d1)) + (own_in (3 : Int32) s2 d2)) + (own_in (3 : Int32) s3 d3)) cnt s4 d4)), .unset] [])
  refine own_go (fun t k => XS.iconst X168.here hx rfl (hb hby at_133) k) ?_
  show Go _ _ _ _ _ T168 (mkF m 134 #[.val (.int p1), .val (.int p2), .val (.int p3), .val (.int p4), .val (.int p5), .val (.int cnt), .val (.int s1), .val (.int d1), .val (.int s2), .val (.int d2), .val (.int s3), .val (.int d3), .val (.int s4), .val (.int d4), .val (.ref b163), .val (.int (own_free ((((0 : Int32) + (own_in (0 : Int32) s1 d1)) + (own_in (0 : Int32) s2 d2)) + (own_in (0 : Int32) s3 d3)) ((((0 : Int32) + (own_in (1 : Int32) s1 d1)) + (own_in (1 : Int32) s2 d2)) + (own_in (1 : Int32) s3 d3)) ((((0 : Int32) + (own_in (2 : Int32) s1 d1)) + (own_in (2 : Int32) s2 d2)) + (own_in (2 : Int32) s3 d3)) ((((0 : Int32) + (own_in (3 : Int32) s1 d1)) + (own_in (3 : Int32) s2 d2)) + (own_in (3 : Int32) s3 d3)) cnt s4 d4)), .unset] [(.int (0 : Int32))])
  refine own_go (fun t k => XS.iload X168.here hx rfl (hb hby at_134) rfl k) ?_
  show Go _ _ _ _ _ T168 (mkF m 136 #[.val (.int p1), .val (.int p2), .val (.int p3), .val (.int p4), .val (.int p5), .val (.int cnt), .val (.int s1), .val (.int d1), .val (.int s2), .val (.int d2), .val (.int s3), .val (.int d3), .val (.int s4), .val (.int d4), .val (.ref b163), .val (.int (own_free ((((0 : Int32) + (own_in (0 : Int32) s1 d1)) + (own_in (0 : Int32) s2 d2)) + (own_in (0 : Int32) s3 d3)) ((((0 : Int32) + (own_in (1 : Int32) s1 d1)) + (own_in (1 : Int32) s2 d2)) + (own_in (1 : Int32) s3 d3)) ((((0 : Int32) + (own_in (2 : Int32) s1 d1)) + (own_in (2 : Int32) s2 d2)) + (own_in (2 : Int32) s3 d3)) ((((0 : Int32) + (own_in (3 : Int32) s1 d1)) + (own_in (3 : Int32) s2 d2)) + (own_in (3 : Int32) s3 d3)) cnt s4 d4)), .unset] [(.int cnt), (.int (0 : Int32))])
  refine own_go (fun t k => XS.iload X168.here hx rfl (hb hby at_136) rfl k) ?_
  show Go _ _ _ _ _ T168 (mkF m 138 #[.val (.int p1), .val (.int p2), .val (.int p3), .val (.int p4), .val (.int p5), .val (.int cnt), .val (.int s1), .val (.int d1), .val (.int s2), .val (.int d2), .val (.int s3), .val (.int d3), .val (.int s4), .val (.int d4), .val (.ref b163), .val (.int (own_free ((((0 : Int32) + (own_in (0 : Int32) s1 d1)) + (own_in (0 : Int32) s2 d2)) + (own_in (0 : Int32) s3 d3)) ((((0 : Int32) + (own_in (1 : Int32) s1 d1)) + (own_in (1 : Int32) s2 d2)) + (own_in (1 : Int32) s3 d3)) ((((0 : Int32) + (own_in (2 : Int32) s1 d1)) + (own_in (2 : Int32) s2 d2)) + (own_in (2 : Int32) s3 d3)) ((((0 : Int32) + (own_in (3 : Int32) s1 d1)) + (own_in (3 : Int32) s2 d2)) + (own_in (3 : Int32) s3 d3)) cnt s4 d4)), .unset] [(.int s1), (.int cnt), (.int (0 : Int32))])
  refine own_go (fun t k => XS.iload X168.here hx rfl (hb hby at_138) rfl k) ?_
  show Go _ _ _ _ _ T168 (mkF m 140 #[.val (.int p1), .val (.int p2), .val (.int p3), .val (.int p4), .val (.int p5), .val (.int cnt), .val (.int s1), .val (.int d1), .val (.int s2), .val (.int d2), .val (.int s3), .val (.int d3), .val (.int s4), .val (.int d4), .val (.ref b163), .val (.int (own_free ((((0 : Int32) + (own_in (0 : Int32) s1 d1)) + (own_in (0 : Int32) s2 d2)) + (own_in (0 : Int32) s3 d3)) ((((0 : Int32) + (own_in (1 : Int32) s1 d1)) + (own_in (1 : Int32) s2 d2)) + (own_in (1 : Int32) s3 d3)) ((((0 : Int32) + (own_in (2 : Int32) s1 d1)) + (own_in (2 : Int32) s2 d2)) + (own_in (2 : Int32) s3 d3)) ((((0 : Int32) + (own_in (3 : Int32) s1 d1)) + (own_in (3 : Int32) s2 d2)) + (own_in (3 : Int32) s3 d3)) cnt s4 d4)), .unset] [(.int d1), (.int s1), (.int cnt), (.int (0 : Int32))])
  refine own_go (fun t k => XS.iload X168.here hx rfl (hb hby at_140) rfl k) ?_
  show Go _ _ _ _ _ T168 (mkF m 142 #[.val (.int p1), .val (.int p2), .val (.int p3), .val (.int p4), .val (.int p5), .val (.int cnt), .val (.int s1), .val (.int d1), .val (.int s2), .val (.int d2), .val (.int s3), .val (.int d3), .val (.int s4), .val (.int d4), .val (.ref b163), .val (.int (own_free ((((0 : Int32) + (own_in (0 : Int32) s1 d1)) + (own_in (0 : Int32) s2 d2)) + (own_in (0 : Int32) s3 d3)) ((((0 : Int32) + (own_in (1 : Int32) s1 d1)) + (own_in (1 : Int32) s2 d2)) + (own_in (1 : Int32) s3 d3)) ((((0 : Int32) + (own_in (2 : Int32) s1 d1)) + (own_in (2 : Int32) s2 d2)) + (own_in (2 : Int32) s3 d3)) ((((0 : Int32) + (own_in (3 : Int32) s1 d1)) + (own_in (3 : Int32) s2 d2)) + (own_in (3 : Int32) s3 d3)) cnt s4 d4)), .unset] [(.int s2), (.int d1), (.int s1), (.int cnt), (.int (0 : Int32))])
  refine own_go (fun t k => XS.iload X168.here hx rfl (hb hby at_142) rfl k) ?_
  show Go _ _ _ _ _ T168 (mkF m 144 #[.val (.int p1), .val (.int p2), .val (.int p3), .val (.int p4), .val (.int p5), .val (.int cnt), .val (.int s1), .val (.int d1), .val (.int s2), .val (.int d2), .val (.int s3), .val (.int d3), .val (.int s4), .val (.int d4), .val (.ref b163), .val (.int (own_free ((((0 : Int32) + (own_in (0 : Int32) s1 d1)) + (own_in (0 : Int32) s2 d2)) + (own_in (0 : Int32) s3 d3)) ((((0 : Int32) + (own_in (1 : Int32) s1 d1)) + (own_in (1 : Int32) s2 d2)) + (own_in (1 : Int32) s3 d3)) ((((0 : Int32) + (own_in (2 : Int32) s1 d1)) + (own_in (2 : Int32) s2 d2)) + (own_in (2 : Int32) s3 d3)) ((((0 : Int32) + (own_in (3 : Int32) s1 d1)) + (own_in (3 : Int32) s2 d2)) + (own_in (3 : Int32) s3 d3)) cnt s4 d4)), .unset] [(.int d2), (.int s2), (.int d1), (.int s1), (.int cnt), (.int (0 : Int32))])
  refine own_go (fun t k => XS.iload X168.here hx rfl (hb hby at_144) rfl k) ?_
  show Go _ _ _ _ _ T168 (mkF m 146 #[.val (.int p1), .val (.int p2), .val (.int p3), .val (.int p4), .val (.int p5), .val (.int cnt), .val (.int s1), .val (.int d1), .val (.int s2), .val (.int d2), .val (.int s3), .val (.int d3), .val (.int s4), .val (.int d4), .val (.ref b163), .val (.int (own_free ((((0 : Int32) + (own_in (0 : Int32) s1 d1)) + (own_in (0 : Int32) s2 d2)) + (own_in (0 : Int32) s3 d3)) ((((0 : Int32) + (own_in (1 : Int32) s1 d1)) + (own_in (1 : Int32) s2 d2)) + (own_in (1 : Int32) s3 d3)) ((((0 : Int32) + (own_in (2 : Int32) s1 d1)) + (own_in (2 : Int32) s2 d2)) + (own_in (2 : Int32) s3 d3)) ((((0 : Int32) + (own_in (3 : Int32) s1 d1)) + (own_in (3 : Int32) s2 d2)) + (own_in (3 : Int32) s3 d3)) cnt s4 d4)), .unset] [(.int s3), (.int d2), (.int s2), (.int d1), (.int s1), (.int cnt), (.int (0 : Int32))])
  refine own_go (fun t k => XS.iload X168.here hx rfl (hb hby at_146) rfl k) ?_
  show Go _ _ _ _ _ T168 (mkF m 148 #[.val (.int p1), .val (.int p2), .val (.int p3), .val (.int p4), .val (.int p5), .val (.int cnt), .val (.int s1), .val (.int d1), .val (.int s2), .val (.int d2), .val (.int s3), .val (.int d3), .val (.int s4), .val (.int d4), .val (.ref b163), .val (.int (own_free ((((0 : Int32) + (own_in (0 : Int32) s1 d1)) + (own_in (0 : Int32) s2 d2)) + (own_in (0 : Int32) s3 d3)) ((((0 : Int32) + (own_in (1 : Int32) s1 d1)) + (own_in (1 : Int32) s2 d2)) + (own_in (1 : Int32) s3 d3)) ((((0 : Int32) + (own_in (2 : Int32) s1 d1)) + (own_in (2 : Int32) s2 d2)) + (own_in (2 : Int32) s3 d3)) ((((0 : Int32) + (own_in (3 : Int32) s1 d1)) + (own_in (3 : Int32) s2 d2)) + (own_in (3 : Int32) s3 d3)) cnt s4 d4)), .unset] [(.int d3), (.int s3), (.int d2), (.int s2), (.int d1), (.int s1), (.int cnt), (.int (0 : Int32))])
  refine own_go (fun t k => XS.iload X168.here hx rfl (hb hby at_148) rfl k) ?_
  show Go _ _ _ _ _ T168 (mkF m 150 #[.val (.int p1), .val (.int p2), .val (.int p3), .val (.int p4), .val (.int p5), .val (.int cnt), .val (.int s1), .val (.int d1), .val (.int s2), .val (.int d2), .val (.int s3), .val (.int d3), .val (.int s4), .val (.int d4), .val (.ref b163), .val (.int (own_free ((((0 : Int32) + (own_in (0 : Int32) s1 d1)) + (own_in (0 : Int32) s2 d2)) + (own_in (0 : Int32) s3 d3)) ((((0 : Int32) + (own_in (1 : Int32) s1 d1)) + (own_in (1 : Int32) s2 d2)) + (own_in (1 : Int32) s3 d3)) ((((0 : Int32) + (own_in (2 : Int32) s1 d1)) + (own_in (2 : Int32) s2 d2)) + (own_in (2 : Int32) s3 d3)) ((((0 : Int32) + (own_in (3 : Int32) s1 d1)) + (own_in (3 : Int32) s2 d2)) + (own_in (3 : Int32) s3 d3)) cnt s4 d4)), .unset] [(.int s4), (.int d3), (.int s3), (.int d2), (.int s2), (.int d1), (.int s1), (.int cnt), (.int (0 : Int32))])
  refine own_go (fun t k => XS.iload X168.here hx rfl (hb hby at_150) rfl k) ?_
  show Go _ _ _ _ _ T168 (mkF m 152 #[.val (.int p1), .val (.int p2), .val (.int p3), .val (.int p4), .val (.int p5), .val (.int cnt), .val (.int s1), .val (.int d1), .val (.int s2), .val (.int d2), .val (.int s3), .val (.int d3), .val (.int s4), .val (.int d4), .val (.ref b163), .val (.int (own_free ((((0 : Int32) + (own_in (0 : Int32) s1 d1)) + (own_in (0 : Int32) s2 d2)) + (own_in (0 : Int32) s3 d3)) ((((0 : Int32) + (own_in (1 : Int32) s1 d1)) + (own_in (1 : Int32) s2 d2)) + (own_in (1 : Int32) s3 d3)) ((((0 : Int32) + (own_in (2 : Int32) s1 d1)) + (own_in (2 : Int32) s2 d2)) + (own_in (2 : Int32) s3 d3)) ((((0 : Int32) + (own_in (3 : Int32) s1 d1)) + (own_in (3 : Int32) s2 d2)) + (own_in (3 : Int32) s3 d3)) cnt s4 d4)), .unset] [(.int d4), (.int s4), (.int d3), (.int s3), (.int d2), (.int s2), (.int d1), (.int s1), (.int cnt), (.int (0 : Int32))])
  refine own_callS X168 hx hZ (y := (⟨"com/example/trailworks/trailworks/works/CrewsFreePinLaw", "ok", "(IIIIIIIIII)Z"⟩ : MethodName)) hown (hw _ (List.mem_of_getElem? (i := 31) rfl)) (hw _ (List.mem_of_getElem? (i := 32) rfl)) (hw _ (List.mem_of_getElem? (i := 33) rfl)) (hw _ (List.mem_of_getElem? (i := 34) rfl)) (by decide) (rm_ok l Z a0 hw [] (0 : Int32) cnt s1 d1 s2 d2 s3 d3 s4 d4 (own_ok (0 : Int32) cnt s1 d1 s2 d2 s3 d3 s4 d4) T167.heap n0 hn167  rfl) e168 (by rw [hml]; rfl) (argsL := [(.int (0 : Int32)), (.int cnt), (.int s1), (.int d1), (.int s2), (.int d2), (.int s3), (.int d3), (.int s4), (.int d4)]) (rest := []) rfl rfl (lenOf own_pd4 rfl) (W := 0) (Nat.le_of_eq rfl) (by decide) (by decide) (hb hby at_152) (by decide) (by decide) ?_
  intro v169 T169 L169 X169 q169
  obtain ⟨rfl, N169q, e169⟩ := q169
  have N169 := Fr.app N168 N169q
  show Go _ _ _ _ _ T169 (mkF m 155 #[.val (.int p1), .val (.int p2), .val (.int p3), .val (.int p4), .val (.int p5), .val (.int cnt), .val (.int s1), .val (.int d1), .val (.int s2), .val (.int d2), .val (.int s3), .val (.int d3), .val (.int s4), .val (.int d4), .val (.ref b163), .val (.int (own_free ((((0 : Int32) + (own_in (0 : Int32) s1 d1)) + (own_in (0 : Int32) s2 d2)) + (own_in (0 : Int32) s3 d3)) ((((0 : Int32) + (own_in (1 : Int32) s1 d1)) + (own_in (1 : Int32) s2 d2)) + (own_in (1 : Int32) s3 d3)) ((((0 : Int32) + (own_in (2 : Int32) s1 d1)) + (own_in (2 : Int32) s2 d2)) + (own_in (2 : Int32) s3 d3)) ((((0 : Int32) + (own_in (3 : Int32) s1 d1)) + (own_in (3 : Int32) s2 d2)) + (own_in (3 : Int32) s3 d3)) cnt s4 d4)), .unset] [(.int (own_ok (0 : Int32) cnt s1 d1 s2 d2 s3 d3 s4 d4))])
  refine own_ifP ((own_ok (0 : Int32) cnt s1 d1 s2 d2 s3 d3 s4 d4) = (0 : Int32)) X169 hx (hb hby at_155) (own_eq _ _) (by decide) (by decide) (pc' := 237) (fun hc170 => ?_) (fun hc170 => ?_)
  · skip
    show Go _ _ _ _ _ T169 (mkF m 237 #[.val (.int p1), .val (.int p2), .val (.int p3), .val (.int p4), .val (.int p5), .val (.int cnt), .val (.int s1), .val (.int d1), .val (.int s2), .val (.int d2), .val (.int s3), .val (.int d3), .val (.int s4), .val (.int d4), .val (.ref b163), .val (.int (own_free ((((0 : Int32) + (own_in (0 : Int32) s1 d1)) + (own_in (0 : Int32) s2 d2)) + (own_in (0 : Int32) s3 d3)) ((((0 : Int32) + (own_in (1 : Int32) s1 d1)) + (own_in (1 : Int32) s2 d2)) + (own_in (1 : Int32) s3 d3)) ((((0 : Int32) + (own_in (2 : Int32) s1 d1)) + (own_in (2 : Int32) s2 d2)) + (own_in (2 : Int32) s3 d3)) ((((0 : Int32) + (own_in (3 : Int32) s1 d1)) + (own_in (3 : Int32) s2 d2)) + (own_in (3 : Int32) s3 d3)) cnt s4 d4)), .unset] [])
    refine own_go (fun t k => XS.iconst X169.here hx rfl (hb hby at_237) k) ?_
    show Go _ _ _ _ _ T169 (mkF m 238 #[.val (.int p1), .val (.int p2), .val (.int p3), .val (.int p4), .val (.int p5), .val (.int cnt), .val (.int s1), .val (.int d1), .val (.int s2), .val (.int d2), .val (.int s3), .val (.int d3), .val (.int s4), .val (.int d4), .val (.ref b163), .val (.int (own_free ((((0 : Int32) + (own_in (0 : Int32) s1 d1)) + (own_in (0 : Int32) s2 d2)) + (own_in (0 : Int32) s3 d3)) ((((0 : Int32) + (own_in (1 : Int32) s1 d1)) + (own_in (1 : Int32) s2 d2)) + (own_in (1 : Int32) s3 d3)) ((((0 : Int32) + (own_in (2 : Int32) s1 d1)) + (own_in (2 : Int32) s2 d2)) + (own_in (2 : Int32) s3 d3)) ((((0 : Int32) + (own_in (3 : Int32) s1 d1)) + (own_in (3 : Int32) s2 d2)) + (own_in (3 : Int32) s3 d3)) cnt s4 d4)), .unset] [(.int (0 : Int32))])
    refine own_go (fun t k => XS.istore X169.here hx rfl (hb hby at_238) rfl (l' := #[.val (.int p1), .val (.int p2), .val (.int p3), .val (.int p4), .val (.int p5), .val (.int cnt), .val (.int s1), .val (.int d1), .val (.int s2), .val (.int d2), .val (.int s3), .val (.int d3), .val (.int s4), .val (.int d4), .val (.ref b163), .val (.int (own_free ((((0 : Int32) + (own_in (0 : Int32) s1 d1)) + (own_in (0 : Int32) s2 d2)) + (own_in (0 : Int32) s3 d3)) ((((0 : Int32) + (own_in (1 : Int32) s1 d1)) + (own_in (1 : Int32) s2 d2)) + (own_in (1 : Int32) s3 d3)) ((((0 : Int32) + (own_in (2 : Int32) s1 d1)) + (own_in (2 : Int32) s2 d2)) + (own_in (2 : Int32) s3 d3)) ((((0 : Int32) + (own_in (3 : Int32) s1 d1)) + (own_in (3 : Int32) s2 d2)) + (own_in (3 : Int32) s3 d3)) cnt s4 d4)), .val (.int (0 : Int32))]) rfl k) ?_
    show Go _ _ _ _ _ T169 (mkF m 240 #[.val (.int p1), .val (.int p2), .val (.int p3), .val (.int p4), .val (.int p5), .val (.int cnt), .val (.int s1), .val (.int d1), .val (.int s2), .val (.int d2), .val (.int s3), .val (.int d3), .val (.int s4), .val (.int d4), .val (.ref b163), .val (.int (own_free ((((0 : Int32) + (own_in (0 : Int32) s1 d1)) + (own_in (0 : Int32) s2 d2)) + (own_in (0 : Int32) s3 d3)) ((((0 : Int32) + (own_in (1 : Int32) s1 d1)) + (own_in (1 : Int32) s2 d2)) + (own_in (1 : Int32) s3 d3)) ((((0 : Int32) + (own_in (2 : Int32) s1 d1)) + (own_in (2 : Int32) s2 d2)) + (own_in (2 : Int32) s3 d3)) ((((0 : Int32) + (own_in (3 : Int32) s1 d1)) + (own_in (3 : Int32) s2 d2)) + (own_in (3 : Int32) s3 d3)) cnt s4 d4)), .val (.int (0 : Int32))] [])
    refine own_go (fun t k => XS.iload X169.here hx rfl (hb hby at_240) rfl k) ?_
    show Go _ _ _ _ _ T169 (mkF m 242 #[.val (.int p1), .val (.int p2), .val (.int p3), .val (.int p4), .val (.int p5), .val (.int cnt), .val (.int s1), .val (.int d1), .val (.int s2), .val (.int d2), .val (.int s3), .val (.int d3), .val (.int s4), .val (.int d4), .val (.ref b163), .val (.int (own_free ((((0 : Int32) + (own_in (0 : Int32) s1 d1)) + (own_in (0 : Int32) s2 d2)) + (own_in (0 : Int32) s3 d3)) ((((0 : Int32) + (own_in (1 : Int32) s1 d1)) + (own_in (1 : Int32) s2 d2)) + (own_in (1 : Int32) s3 d3)) ((((0 : Int32) + (own_in (2 : Int32) s1 d1)) + (own_in (2 : Int32) s2 d2)) + (own_in (2 : Int32) s3 d3)) ((((0 : Int32) + (own_in (3 : Int32) s1 d1)) + (own_in (3 : Int32) s2 d2)) + (own_in (3 : Int32) s3 d3)) cnt s4 d4)), .val (.int (0 : Int32))] [(.int (own_free ((((0 : Int32) + (own_in (0 : Int32) s1 d1)) + (own_in (0 : Int32) s2 d2)) + (own_in (0 : Int32) s3 d3)) ((((0 : Int32) + (own_in (1 : Int32) s1 d1)) + (own_in (1 : Int32) s2 d2)) + (own_in (1 : Int32) s3 d3)) ((((0 : Int32) + (own_in (2 : Int32) s1 d1)) + (own_in (2 : Int32) s2 d2)) + (own_in (2 : Int32) s3 d3)) ((((0 : Int32) + (own_in (3 : Int32) s1 d1)) + (own_in (3 : Int32) s2 d2)) + (own_in (3 : Int32) s3 d3)) cnt s4 d4))])
    refine own_go (fun t k => XS.iload X169.here hx rfl (hb hby at_242) rfl k) ?_
    have hg := own_fin0 cnt s1 d1 s2 d2 s3 d3 s4 d4 (Or.inl hc170)
    show Go _ _ _ _ _ T169 (mkF m 244 #[.val (.int p1), .val (.int p2), .val (.int p3), .val (.int p4), .val (.int p5), .val (.int cnt), .val (.int s1), .val (.int d1), .val (.int s2), .val (.int d2), .val (.int s3), .val (.int d3), .val (.int s4), .val (.int d4), .val (.ref b163), .val (.int (own_free ((((0 : Int32) + (own_in (0 : Int32) s1 d1)) + (own_in (0 : Int32) s2 d2)) + (own_in (0 : Int32) s3 d3)) ((((0 : Int32) + (own_in (1 : Int32) s1 d1)) + (own_in (1 : Int32) s2 d2)) + (own_in (1 : Int32) s3 d3)) ((((0 : Int32) + (own_in (2 : Int32) s1 d1)) + (own_in (2 : Int32) s2 d2)) + (own_in (2 : Int32) s3 d3)) ((((0 : Int32) + (own_in (3 : Int32) s1 d1)) + (own_in (3 : Int32) s2 d2)) + (own_in (3 : Int32) s3 d3)) cnt s4 d4)), .val (.int (0 : Int32))] [(.int (0 : Int32)), (.int (own_free ((((0 : Int32) + (own_in (0 : Int32) s1 d1)) + (own_in (0 : Int32) s2 d2)) + (own_in (0 : Int32) s3 d3)) ((((0 : Int32) + (own_in (1 : Int32) s1 d1)) + (own_in (1 : Int32) s2 d2)) + (own_in (1 : Int32) s3 d3)) ((((0 : Int32) + (own_in (2 : Int32) s1 d1)) + (own_in (2 : Int32) s2 d2)) + (own_in (2 : Int32) s3 d3)) ((((0 : Int32) + (own_in (3 : Int32) s1 d1)) + (own_in (3 : Int32) s2 d2)) + (own_in (3 : Int32) s3 d3)) cnt s4 d4))])
    refine own_go (fun t k => XS.icmpNo X169.here hx rfl (hb hby at_244) rfl (teq hg).2 k) ?_
    show Go _ _ _ _ _ T169 (mkF m 247 #[.val (.int p1), .val (.int p2), .val (.int p3), .val (.int p4), .val (.int p5), .val (.int cnt), .val (.int s1), .val (.int d1), .val (.int s2), .val (.int d2), .val (.int s3), .val (.int d3), .val (.int s4), .val (.int d4), .val (.ref b163), .val (.int (own_free ((((0 : Int32) + (own_in (0 : Int32) s1 d1)) + (own_in (0 : Int32) s2 d2)) + (own_in (0 : Int32) s3 d3)) ((((0 : Int32) + (own_in (1 : Int32) s1 d1)) + (own_in (1 : Int32) s2 d2)) + (own_in (1 : Int32) s3 d3)) ((((0 : Int32) + (own_in (2 : Int32) s1 d1)) + (own_in (2 : Int32) s2 d2)) + (own_in (2 : Int32) s3 d3)) ((((0 : Int32) + (own_in (3 : Int32) s1 d1)) + (own_in (3 : Int32) s2 d2)) + (own_in (3 : Int32) s3 d3)) cnt s4 d4)), .val (.int (0 : Int32))] [])
    refine own_go (fun t k => XS.iconst X169.here hx rfl (hb hby at_247) k) ?_
    show Go _ _ _ _ _ T169 (mkF m 248 #[.val (.int p1), .val (.int p2), .val (.int p3), .val (.int p4), .val (.int p5), .val (.int cnt), .val (.int s1), .val (.int d1), .val (.int s2), .val (.int d2), .val (.int s3), .val (.int d3), .val (.int s4), .val (.int d4), .val (.ref b163), .val (.int (own_free ((((0 : Int32) + (own_in (0 : Int32) s1 d1)) + (own_in (0 : Int32) s2 d2)) + (own_in (0 : Int32) s3 d3)) ((((0 : Int32) + (own_in (1 : Int32) s1 d1)) + (own_in (1 : Int32) s2 d2)) + (own_in (1 : Int32) s3 d3)) ((((0 : Int32) + (own_in (2 : Int32) s1 d1)) + (own_in (2 : Int32) s2 d2)) + (own_in (2 : Int32) s3 d3)) ((((0 : Int32) + (own_in (3 : Int32) s1 d1)) + (own_in (3 : Int32) s2 d2)) + (own_in (3 : Int32) s3 d3)) cnt s4 d4)), .val (.int (0 : Int32))] [(.int (1 : Int32))])
    refine own_go (fun t k => XS.goto X169.here hx rfl (pc0 := 248) (pc' := 252) rfl (hb hby at_248) (by decide) (by decide) k) ?_
    show Go _ _ _ _ _ T169 (mkF m 252 #[.val (.int p1), .val (.int p2), .val (.int p3), .val (.int p4), .val (.int p5), .val (.int cnt), .val (.int s1), .val (.int d1), .val (.int s2), .val (.int d2), .val (.int s3), .val (.int d3), .val (.int s4), .val (.int d4), .val (.ref b163), .val (.int (own_free ((((0 : Int32) + (own_in (0 : Int32) s1 d1)) + (own_in (0 : Int32) s2 d2)) + (own_in (0 : Int32) s3 d3)) ((((0 : Int32) + (own_in (1 : Int32) s1 d1)) + (own_in (1 : Int32) s2 d2)) + (own_in (1 : Int32) s3 d3)) ((((0 : Int32) + (own_in (2 : Int32) s1 d1)) + (own_in (2 : Int32) s2 d2)) + (own_in (2 : Int32) s3 d3)) ((((0 : Int32) + (own_in (3 : Int32) s1 d1)) + (own_in (3 : Int32) s2 d2)) + (own_in (3 : Int32) s3 d3)) cnt s4 d4)), .val (.int (0 : Int32))] [(.int (1 : Int32))])
    refine own_retN X169 hx (own_lvN X169 hlk (by decide) (by decide)) (t := .boolean) hret (by simp) (hb hby at_252) ?_
    exact ⟨rfl, N169⟩
  · skip
    show Go _ _ _ _ _ T169 (mkF m 158 #[.val (.int p1), .val (.int p2), .val (.int p3), .val (.int p4), .val (.int p5), .val (.int cnt), .val (.int s1), .val (.int d1), .val (.int s2), .val (.int d2), .val (.int s3), .val (.int d3), .val (.int s4), .val (.int d4), .val (.ref b163), .val (.int (own_free ((((0 : Int32) + (own_in (0 : Int32) s1 d1)) + (own_in (0 : Int32) s2 d2)) + (own_in (0 : Int32) s3 d3)) ((((0 : Int32) + (own_in (1 : Int32) s1 d1)) + (own_in (1 : Int32) s2 d2)) + (own_in (1 : Int32) s3 d3)) ((((0 : Int32) + (own_in (2 : Int32) s1 d1)) + (own_in (2 : Int32) s2 d2)) + (own_in (2 : Int32) s3 d3)) ((((0 : Int32) + (own_in (3 : Int32) s1 d1)) + (own_in (3 : Int32) s2 d2)) + (own_in (3 : Int32) s3 d3)) cnt s4 d4)), .unset] [])
    refine own_go (fun t k => XS.iconst X169.here hx rfl (hb hby at_158) k) ?_
    show Go _ _ _ _ _ T169 (mkF m 159 #[.val (.int p1), .val (.int p2), .val (.int p3), .val (.int p4), .val (.int p5), .val (.int cnt), .val (.int s1), .val (.int d1), .val (.int s2), .val (.int d2), .val (.int s3), .val (.int d3), .val (.int s4), .val (.int d4), .val (.ref b163), .val (.int (own_free ((((0 : Int32) + (own_in (0 : Int32) s1 d1)) + (own_in (0 : Int32) s2 d2)) + (own_in (0 : Int32) s3 d3)) ((((0 : Int32) + (own_in (1 : Int32) s1 d1)) + (own_in (1 : Int32) s2 d2)) + (own_in (1 : Int32) s3 d3)) ((((0 : Int32) + (own_in (2 : Int32) s1 d1)) + (own_in (2 : Int32) s2 d2)) + (own_in (2 : Int32) s3 d3)) ((((0 : Int32) + (own_in (3 : Int32) s1 d1)) + (own_in (3 : Int32) s2 d2)) + (own_in (3 : Int32) s3 d3)) cnt s4 d4)), .unset] [(.int (1 : Int32))])
    refine own_go (fun t k => XS.iload X169.here hx rfl (hb hby at_159) rfl k) ?_
    show Go _ _ _ _ _ T169 (mkF m 161 #[.val (.int p1), .val (.int p2), .val (.int p3), .val (.int p4), .val (.int p5), .val (.int cnt), .val (.int s1), .val (.int d1), .val (.int s2), .val (.int d2), .val (.int s3), .val (.int d3), .val (.int s4), .val (.int d4), .val (.ref b163), .val (.int (own_free ((((0 : Int32) + (own_in (0 : Int32) s1 d1)) + (own_in (0 : Int32) s2 d2)) + (own_in (0 : Int32) s3 d3)) ((((0 : Int32) + (own_in (1 : Int32) s1 d1)) + (own_in (1 : Int32) s2 d2)) + (own_in (1 : Int32) s3 d3)) ((((0 : Int32) + (own_in (2 : Int32) s1 d1)) + (own_in (2 : Int32) s2 d2)) + (own_in (2 : Int32) s3 d3)) ((((0 : Int32) + (own_in (3 : Int32) s1 d1)) + (own_in (3 : Int32) s2 d2)) + (own_in (3 : Int32) s3 d3)) cnt s4 d4)), .unset] [(.int cnt), (.int (1 : Int32))])
    refine own_go (fun t k => XS.iload X169.here hx rfl (hb hby at_161) rfl k) ?_
    show Go _ _ _ _ _ T169 (mkF m 163 #[.val (.int p1), .val (.int p2), .val (.int p3), .val (.int p4), .val (.int p5), .val (.int cnt), .val (.int s1), .val (.int d1), .val (.int s2), .val (.int d2), .val (.int s3), .val (.int d3), .val (.int s4), .val (.int d4), .val (.ref b163), .val (.int (own_free ((((0 : Int32) + (own_in (0 : Int32) s1 d1)) + (own_in (0 : Int32) s2 d2)) + (own_in (0 : Int32) s3 d3)) ((((0 : Int32) + (own_in (1 : Int32) s1 d1)) + (own_in (1 : Int32) s2 d2)) + (own_in (1 : Int32) s3 d3)) ((((0 : Int32) + (own_in (2 : Int32) s1 d1)) + (own_in (2 : Int32) s2 d2)) + (own_in (2 : Int32) s3 d3)) ((((0 : Int32) + (own_in (3 : Int32) s1 d1)) + (own_in (3 : Int32) s2 d2)) + (own_in (3 : Int32) s3 d3)) cnt s4 d4)), .unset] [(.int s1), (.int cnt), (.int (1 : Int32))])
    refine own_go (fun t k => XS.iload X169.here hx rfl (hb hby at_163) rfl k) ?_
    show Go _ _ _ _ _ T169 (mkF m 165 #[.val (.int p1), .val (.int p2), .val (.int p3), .val (.int p4), .val (.int p5), .val (.int cnt), .val (.int s1), .val (.int d1), .val (.int s2), .val (.int d2), .val (.int s3), .val (.int d3), .val (.int s4), .val (.int d4), .val (.ref b163), .val (.int (own_free ((((0 : Int32) + (own_in (0 : Int32) s1 d1)) + (own_in (0 : Int32) s2 d2)) + (own_in (0 : Int32) s3 d3)) ((((0 : Int32) + (own_in (1 : Int32) s1 d1)) + (own_in (1 : Int32) s2 d2)) + (own_in (1 : Int32) s3 d3)) ((((0 : Int32) + (own_in (2 : Int32) s1 d1)) + (own_in (2 : Int32) s2 d2)) + (own_in (2 : Int32) s3 d3)) ((((0 : Int32) + (own_in (3 : Int32) s1 d1)) + (own_in (3 : Int32) s2 d2)) + (own_in (3 : Int32) s3 d3)) cnt s4 d4)), .unset] [(.int d1), (.int s1), (.int cnt), (.int (1 : Int32))])
    refine own_go (fun t k => XS.iload X169.here hx rfl (hb hby at_165) rfl k) ?_
    show Go _ _ _ _ _ T169 (mkF m 167 #[.val (.int p1), .val (.int p2), .val (.int p3), .val (.int p4), .val (.int p5), .val (.int cnt), .val (.int s1), .val (.int d1), .val (.int s2), .val (.int d2), .val (.int s3), .val (.int d3), .val (.int s4), .val (.int d4), .val (.ref b163), .val (.int (own_free ((((0 : Int32) + (own_in (0 : Int32) s1 d1)) + (own_in (0 : Int32) s2 d2)) + (own_in (0 : Int32) s3 d3)) ((((0 : Int32) + (own_in (1 : Int32) s1 d1)) + (own_in (1 : Int32) s2 d2)) + (own_in (1 : Int32) s3 d3)) ((((0 : Int32) + (own_in (2 : Int32) s1 d1)) + (own_in (2 : Int32) s2 d2)) + (own_in (2 : Int32) s3 d3)) ((((0 : Int32) + (own_in (3 : Int32) s1 d1)) + (own_in (3 : Int32) s2 d2)) + (own_in (3 : Int32) s3 d3)) cnt s4 d4)), .unset] [(.int s2), (.int d1), (.int s1), (.int cnt), (.int (1 : Int32))])
    refine own_go (fun t k => XS.iload X169.here hx rfl (hb hby at_167) rfl k) ?_
    show Go _ _ _ _ _ T169 (mkF m 169 #[.val (.int p1), .val (.int p2), .val (.int p3), .val (.int p4), .val (.int p5), .val (.int cnt), .val (.int s1), .val (.int d1), .val (.int s2), .val (.int d2), .val (.int s3), .val (.int d3), .val (.int s4), .val (.int d4), .val (.ref b163), .val (.int (own_free ((((0 : Int32) + (own_in (0 : Int32) s1 d1)) + (own_in (0 : Int32) s2 d2)) + (own_in (0 : Int32) s3 d3)) ((((0 : Int32) + (own_in (1 : Int32) s1 d1)) + (own_in (1 : Int32) s2 d2)) + (own_in (1 : Int32) s3 d3)) ((((0 : Int32) + (own_in (2 : Int32) s1 d1)) + (own_in (2 : Int32) s2 d2)) + (own_in (2 : Int32) s3 d3)) ((((0 : Int32) + (own_in (3 : Int32) s1 d1)) + (own_in (3 : Int32) s2 d2)) + (own_in (3 : Int32) s3 d3)) cnt s4 d4)), .unset] [(.int d2), (.int s2), (.int d1), (.int s1), (.int cnt), (.int (1 : Int32))])
    refine own_go (fun t k => XS.iload X169.here hx rfl (hb hby at_169) rfl k) ?_
    show Go _ _ _ _ _ T169 (mkF m 171 #[.val (.int p1), .val (.int p2), .val (.int p3), .val (.int p4), .val (.int p5), .val (.int cnt), .val (.int s1), .val (.int d1), .val (.int s2), .val (.int d2), .val (.int s3), .val (.int d3), .val (.int s4), .val (.int d4), .val (.ref b163), .val (.int (own_free ((((0 : Int32) + (own_in (0 : Int32) s1 d1)) + (own_in (0 : Int32) s2 d2)) + (own_in (0 : Int32) s3 d3)) ((((0 : Int32) + (own_in (1 : Int32) s1 d1)) + (own_in (1 : Int32) s2 d2)) + (own_in (1 : Int32) s3 d3)) ((((0 : Int32) + (own_in (2 : Int32) s1 d1)) + (own_in (2 : Int32) s2 d2)) + (own_in (2 : Int32) s3 d3)) ((((0 : Int32) + (own_in (3 : Int32) s1 d1)) + (own_in (3 : Int32) s2 d2)) + (own_in (3 : Int32) s3 d3)) cnt s4 d4)), .unset] [(.int s3), (.int d2), (.int s2), (.int d1), (.int s1), (.int cnt), (.int (1 : Int32))])
    refine own_go (fun t k => XS.iload X169.here hx rfl (hb hby at_171) rfl k) ?_
    show Go _ _ _ _ _ T169 (mkF m 173 #[.val (.int p1), .val (.int p2), .val (.int p3), .val (.int p4), .val (.int p5), .val (.int cnt), .val (.int s1), .val (.int d1), .val (.int s2), .val (.int d2), .val (.int s3), .val (.int d3), .val (.int s4), .val (.int d4), .val (.ref b163), .val (.int (own_free ((((0 : Int32) + (own_in (0 : Int32) s1 d1)) + (own_in (0 : Int32) s2 d2)) + (own_in (0 : Int32) s3 d3)) ((((0 : Int32) + (own_in (1 : Int32) s1 d1)) + (own_in (1 : Int32) s2 d2)) + (own_in (1 : Int32) s3 d3)) ((((0 : Int32) + (own_in (2 : Int32) s1 d1)) + (own_in (2 : Int32) s2 d2)) + (own_in (2 : Int32) s3 d3)) ((((0 : Int32) + (own_in (3 : Int32) s1 d1)) + (own_in (3 : Int32) s2 d2)) + (own_in (3 : Int32) s3 d3)) cnt s4 d4)), .unset] [(.int d3), (.int s3), (.int d2), (.int s2), (.int d1), (.int s1), (.int cnt), (.int (1 : Int32))])
    refine own_go (fun t k => XS.iload X169.here hx rfl (hb hby at_173) rfl k) ?_
    show Go _ _ _ _ _ T169 (mkF m 175 #[.val (.int p1), .val (.int p2), .val (.int p3), .val (.int p4), .val (.int p5), .val (.int cnt), .val (.int s1), .val (.int d1), .val (.int s2), .val (.int d2), .val (.int s3), .val (.int d3), .val (.int s4), .val (.int d4), .val (.ref b163), .val (.int (own_free ((((0 : Int32) + (own_in (0 : Int32) s1 d1)) + (own_in (0 : Int32) s2 d2)) + (own_in (0 : Int32) s3 d3)) ((((0 : Int32) + (own_in (1 : Int32) s1 d1)) + (own_in (1 : Int32) s2 d2)) + (own_in (1 : Int32) s3 d3)) ((((0 : Int32) + (own_in (2 : Int32) s1 d1)) + (own_in (2 : Int32) s2 d2)) + (own_in (2 : Int32) s3 d3)) ((((0 : Int32) + (own_in (3 : Int32) s1 d1)) + (own_in (3 : Int32) s2 d2)) + (own_in (3 : Int32) s3 d3)) cnt s4 d4)), .unset] [(.int s4), (.int d3), (.int s3), (.int d2), (.int s2), (.int d1), (.int s1), (.int cnt), (.int (1 : Int32))])
    refine own_go (fun t k => XS.iload X169.here hx rfl (hb hby at_175) rfl k) ?_
    show Go _ _ _ _ _ T169 (mkF m 177 #[.val (.int p1), .val (.int p2), .val (.int p3), .val (.int p4), .val (.int p5), .val (.int cnt), .val (.int s1), .val (.int d1), .val (.int s2), .val (.int d2), .val (.int s3), .val (.int d3), .val (.int s4), .val (.int d4), .val (.ref b163), .val (.int (own_free ((((0 : Int32) + (own_in (0 : Int32) s1 d1)) + (own_in (0 : Int32) s2 d2)) + (own_in (0 : Int32) s3 d3)) ((((0 : Int32) + (own_in (1 : Int32) s1 d1)) + (own_in (1 : Int32) s2 d2)) + (own_in (1 : Int32) s3 d3)) ((((0 : Int32) + (own_in (2 : Int32) s1 d1)) + (own_in (2 : Int32) s2 d2)) + (own_in (2 : Int32) s3 d3)) ((((0 : Int32) + (own_in (3 : Int32) s1 d1)) + (own_in (3 : Int32) s2 d2)) + (own_in (3 : Int32) s3 d3)) cnt s4 d4)), .unset] [(.int d4), (.int s4), (.int d3), (.int s3), (.int d2), (.int s2), (.int d1), (.int s1), (.int cnt), (.int (1 : Int32))])
    refine own_callS X169 hx hZ (y := (⟨"com/example/trailworks/trailworks/works/CrewsFreePinLaw", "ok", "(IIIIIIIIII)Z"⟩ : MethodName)) hown (hw _ (List.mem_of_getElem? (i := 31) rfl)) (hw _ (List.mem_of_getElem? (i := 32) rfl)) (hw _ (List.mem_of_getElem? (i := 33) rfl)) (hw _ (List.mem_of_getElem? (i := 34) rfl)) (by decide) (rm_ok l Z a0 hw [] (1 : Int32) cnt s1 d1 s2 d2 s3 d3 s4 d4 (own_ok (1 : Int32) cnt s1 d1 s2 d2 s3 d3 s4 d4) T167.heap n0 hn167  rfl) e169 (by rw [hml]; rfl) (argsL := [(.int (1 : Int32)), (.int cnt), (.int s1), (.int d1), (.int s2), (.int d2), (.int s3), (.int d3), (.int s4), (.int d4)]) (rest := []) rfl rfl (lenOf own_pd4 rfl) (W := 0) (Nat.le_of_eq rfl) (by decide) (by decide) (hb hby at_177) (by decide) (by decide) ?_
    intro v171 T171 L171 X171 q171
    obtain ⟨rfl, N171q, e171⟩ := q171
    have N171 := Fr.app N169 N171q
    show Go _ _ _ _ _ T171 (mkF m 180 #[.val (.int p1), .val (.int p2), .val (.int p3), .val (.int p4), .val (.int p5), .val (.int cnt), .val (.int s1), .val (.int d1), .val (.int s2), .val (.int d2), .val (.int s3), .val (.int d3), .val (.int s4), .val (.int d4), .val (.ref b163), .val (.int (own_free ((((0 : Int32) + (own_in (0 : Int32) s1 d1)) + (own_in (0 : Int32) s2 d2)) + (own_in (0 : Int32) s3 d3)) ((((0 : Int32) + (own_in (1 : Int32) s1 d1)) + (own_in (1 : Int32) s2 d2)) + (own_in (1 : Int32) s3 d3)) ((((0 : Int32) + (own_in (2 : Int32) s1 d1)) + (own_in (2 : Int32) s2 d2)) + (own_in (2 : Int32) s3 d3)) ((((0 : Int32) + (own_in (3 : Int32) s1 d1)) + (own_in (3 : Int32) s2 d2)) + (own_in (3 : Int32) s3 d3)) cnt s4 d4)), .unset] [(.int (own_ok (1 : Int32) cnt s1 d1 s2 d2 s3 d3 s4 d4))])
    refine own_ifP ((own_ok (1 : Int32) cnt s1 d1 s2 d2 s3 d3 s4 d4) = (0 : Int32)) X171 hx (hb hby at_180) (own_eq _ _) (by decide) (by decide) (pc' := 237) (fun hc172 => ?_) (fun hc172 => ?_)
    · skip
      show Go _ _ _ _ _ T171 (mkF m 237 #[.val (.int p1), .val (.int p2), .val (.int p3), .val (.int p4), .val (.int p5), .val (.int cnt), .val (.int s1), .val (.int d1), .val (.int s2), .val (.int d2), .val (.int s3), .val (.int d3), .val (.int s4), .val (.int d4), .val (.ref b163), .val (.int (own_free ((((0 : Int32) + (own_in (0 : Int32) s1 d1)) + (own_in (0 : Int32) s2 d2)) + (own_in (0 : Int32) s3 d3)) ((((0 : Int32) + (own_in (1 : Int32) s1 d1)) + (own_in (1 : Int32) s2 d2)) + (own_in (1 : Int32) s3 d3)) ((((0 : Int32) + (own_in (2 : Int32) s1 d1)) + (own_in (2 : Int32) s2 d2)) + (own_in (2 : Int32) s3 d3)) ((((0 : Int32) + (own_in (3 : Int32) s1 d1)) + (own_in (3 : Int32) s2 d2)) + (own_in (3 : Int32) s3 d3)) cnt s4 d4)), .unset] [])
      refine own_go (fun t k => XS.iconst X171.here hx rfl (hb hby at_237) k) ?_
      show Go _ _ _ _ _ T171 (mkF m 238 #[.val (.int p1), .val (.int p2), .val (.int p3), .val (.int p4), .val (.int p5), .val (.int cnt), .val (.int s1), .val (.int d1), .val (.int s2), .val (.int d2), .val (.int s3), .val (.int d3), .val (.int s4), .val (.int d4), .val (.ref b163), .val (.int (own_free ((((0 : Int32) + (own_in (0 : Int32) s1 d1)) + (own_in (0 : Int32) s2 d2)) + (own_in (0 : Int32) s3 d3)) ((((0 : Int32) + (own_in (1 : Int32) s1 d1)) + (own_in (1 : Int32) s2 d2)) + (own_in (1 : Int32) s3 d3)) ((((0 : Int32) + (own_in (2 : Int32) s1 d1)) + (own_in (2 : Int32) s2 d2)) + (own_in (2 : Int32) s3 d3)) ((((0 : Int32) + (own_in (3 : Int32) s1 d1)) + (own_in (3 : Int32) s2 d2)) + (own_in (3 : Int32) s3 d3)) cnt s4 d4)), .unset] [(.int (0 : Int32))])
      refine own_go (fun t k => XS.istore X171.here hx rfl (hb hby at_238) rfl (l' := #[.val (.int p1), .val (.int p2), .val (.int p3), .val (.int p4), .val (.int p5), .val (.int cnt), .val (.int s1), .val (.int d1), .val (.int s2), .val (.int d2), .val (.int s3), .val (.int d3), .val (.int s4), .val (.int d4), .val (.ref b163), .val (.int (own_free ((((0 : Int32) + (own_in (0 : Int32) s1 d1)) + (own_in (0 : Int32) s2 d2)) + (own_in (0 : Int32) s3 d3)) ((((0 : Int32) + (own_in (1 : Int32) s1 d1)) + (own_in (1 : Int32) s2 d2)) + (own_in (1 : Int32) s3 d3)) ((((0 : Int32) + (own_in (2 : Int32) s1 d1)) + (own_in (2 : Int32) s2 d2)) + (own_in (2 : Int32) s3 d3)) ((((0 : Int32) + (own_in (3 : Int32) s1 d1)) + (own_in (3 : Int32) s2 d2)) + (own_in (3 : Int32) s3 d3)) cnt s4 d4)), .val (.int (0 : Int32))]) rfl k) ?_
      show Go _ _ _ _ _ T171 (mkF m 240 #[.val (.int p1), .val (.int p2), .val (.int p3), .val (.int p4), .val (.int p5), .val (.int cnt), .val (.int s1), .val (.int d1), .val (.int s2), .val (.int d2), .val (.int s3), .val (.int d3), .val (.int s4), .val (.int d4), .val (.ref b163), .val (.int (own_free ((((0 : Int32) + (own_in (0 : Int32) s1 d1)) + (own_in (0 : Int32) s2 d2)) + (own_in (0 : Int32) s3 d3)) ((((0 : Int32) + (own_in (1 : Int32) s1 d1)) + (own_in (1 : Int32) s2 d2)) + (own_in (1 : Int32) s3 d3)) ((((0 : Int32) + (own_in (2 : Int32) s1 d1)) + (own_in (2 : Int32) s2 d2)) + (own_in (2 : Int32) s3 d3)) ((((0 : Int32) + (own_in (3 : Int32) s1 d1)) + (own_in (3 : Int32) s2 d2)) + (own_in (3 : Int32) s3 d3)) cnt s4 d4)), .val (.int (0 : Int32))] [])
      refine own_go (fun t k => XS.iload X171.here hx rfl (hb hby at_240) rfl k) ?_
      show Go _ _ _ _ _ T171 (mkF m 242 #[.val (.int p1), .val (.int p2), .val (.int p3), .val (.int p4), .val (.int p5), .val (.int cnt), .val (.int s1), .val (.int d1), .val (.int s2), .val (.int d2), .val (.int s3), .val (.int d3), .val (.int s4), .val (.int d4), .val (.ref b163), .val (.int (own_free ((((0 : Int32) + (own_in (0 : Int32) s1 d1)) + (own_in (0 : Int32) s2 d2)) + (own_in (0 : Int32) s3 d3)) ((((0 : Int32) + (own_in (1 : Int32) s1 d1)) + (own_in (1 : Int32) s2 d2)) + (own_in (1 : Int32) s3 d3)) ((((0 : Int32) + (own_in (2 : Int32) s1 d1)) + (own_in (2 : Int32) s2 d2)) + (own_in (2 : Int32) s3 d3)) ((((0 : Int32) + (own_in (3 : Int32) s1 d1)) + (own_in (3 : Int32) s2 d2)) + (own_in (3 : Int32) s3 d3)) cnt s4 d4)), .val (.int (0 : Int32))] [(.int (own_free ((((0 : Int32) + (own_in (0 : Int32) s1 d1)) + (own_in (0 : Int32) s2 d2)) + (own_in (0 : Int32) s3 d3)) ((((0 : Int32) + (own_in (1 : Int32) s1 d1)) + (own_in (1 : Int32) s2 d2)) + (own_in (1 : Int32) s3 d3)) ((((0 : Int32) + (own_in (2 : Int32) s1 d1)) + (own_in (2 : Int32) s2 d2)) + (own_in (2 : Int32) s3 d3)) ((((0 : Int32) + (own_in (3 : Int32) s1 d1)) + (own_in (3 : Int32) s2 d2)) + (own_in (3 : Int32) s3 d3)) cnt s4 d4))])
      refine own_go (fun t k => XS.iload X171.here hx rfl (hb hby at_242) rfl k) ?_
      have hg := own_fin0 cnt s1 d1 s2 d2 s3 d3 s4 d4 (Or.inr (Or.inl hc172))
      show Go _ _ _ _ _ T171 (mkF m 244 #[.val (.int p1), .val (.int p2), .val (.int p3), .val (.int p4), .val (.int p5), .val (.int cnt), .val (.int s1), .val (.int d1), .val (.int s2), .val (.int d2), .val (.int s3), .val (.int d3), .val (.int s4), .val (.int d4), .val (.ref b163), .val (.int (own_free ((((0 : Int32) + (own_in (0 : Int32) s1 d1)) + (own_in (0 : Int32) s2 d2)) + (own_in (0 : Int32) s3 d3)) ((((0 : Int32) + (own_in (1 : Int32) s1 d1)) + (own_in (1 : Int32) s2 d2)) + (own_in (1 : Int32) s3 d3)) ((((0 : Int32) + (own_in (2 : Int32) s1 d1)) + (own_in (2 : Int32) s2 d2)) + (own_in (2 : Int32) s3 d3)) ((((0 : Int32) + (own_in (3 : Int32) s1 d1)) + (own_in (3 : Int32) s2 d2)) + (own_in (3 : Int32) s3 d3)) cnt s4 d4)), .val (.int (0 : Int32))] [(.int (0 : Int32)), (.int (own_free ((((0 : Int32) + (own_in (0 : Int32) s1 d1)) + (own_in (0 : Int32) s2 d2)) + (own_in (0 : Int32) s3 d3)) ((((0 : Int32) + (own_in (1 : Int32) s1 d1)) + (own_in (1 : Int32) s2 d2)) + (own_in (1 : Int32) s3 d3)) ((((0 : Int32) + (own_in (2 : Int32) s1 d1)) + (own_in (2 : Int32) s2 d2)) + (own_in (2 : Int32) s3 d3)) ((((0 : Int32) + (own_in (3 : Int32) s1 d1)) + (own_in (3 : Int32) s2 d2)) + (own_in (3 : Int32) s3 d3)) cnt s4 d4))])
      refine own_go (fun t k => XS.icmpNo X171.here hx rfl (hb hby at_244) rfl (teq hg).2 k) ?_
      show Go _ _ _ _ _ T171 (mkF m 247 #[.val (.int p1), .val (.int p2), .val (.int p3), .val (.int p4), .val (.int p5), .val (.int cnt), .val (.int s1), .val (.int d1), .val (.int s2), .val (.int d2), .val (.int s3), .val (.int d3), .val (.int s4), .val (.int d4), .val (.ref b163), .val (.int (own_free ((((0 : Int32) + (own_in (0 : Int32) s1 d1)) + (own_in (0 : Int32) s2 d2)) + (own_in (0 : Int32) s3 d3)) ((((0 : Int32) + (own_in (1 : Int32) s1 d1)) + (own_in (1 : Int32) s2 d2)) + (own_in (1 : Int32) s3 d3)) ((((0 : Int32) + (own_in (2 : Int32) s1 d1)) + (own_in (2 : Int32) s2 d2)) + (own_in (2 : Int32) s3 d3)) ((((0 : Int32) + (own_in (3 : Int32) s1 d1)) + (own_in (3 : Int32) s2 d2)) + (own_in (3 : Int32) s3 d3)) cnt s4 d4)), .val (.int (0 : Int32))] [])
      refine own_go (fun t k => XS.iconst X171.here hx rfl (hb hby at_247) k) ?_
      show Go _ _ _ _ _ T171 (mkF m 248 #[.val (.int p1), .val (.int p2), .val (.int p3), .val (.int p4), .val (.int p5), .val (.int cnt), .val (.int s1), .val (.int d1), .val (.int s2), .val (.int d2), .val (.int s3), .val (.int d3), .val (.int s4), .val (.int d4), .val (.ref b163), .val (.int (own_free ((((0 : Int32) + (own_in (0 : Int32) s1 d1)) + (own_in (0 : Int32) s2 d2)) + (own_in (0 : Int32) s3 d3)) ((((0 : Int32) + (own_in (1 : Int32) s1 d1)) + (own_in (1 : Int32) s2 d2)) + (own_in (1 : Int32) s3 d3)) ((((0 : Int32) + (own_in (2 : Int32) s1 d1)) + (own_in (2 : Int32) s2 d2)) + (own_in (2 : Int32) s3 d3)) ((((0 : Int32) + (own_in (3 : Int32) s1 d1)) + (own_in (3 : Int32) s2 d2)) + (own_in (3 : Int32) s3 d3)) cnt s4 d4)), .val (.int (0 : Int32))] [(.int (1 : Int32))])
      refine own_go (fun t k => XS.goto X171.here hx rfl (pc0 := 248) (pc' := 252) rfl (hb hby at_248) (by decide) (by decide) k) ?_
      show Go _ _ _ _ _ T171 (mkF m 252 #[.val (.int p1), .val (.int p2), .val (.int p3), .val (.int p4), .val (.int p5), .val (.int cnt), .val (.int s1), .val (.int d1), .val (.int s2), .val (.int d2), .val (.int s3), .val (.int d3), .val (.int s4), .val (.int d4), .val (.ref b163), .val (.int (own_free ((((0 : Int32) + (own_in (0 : Int32) s1 d1)) + (own_in (0 : Int32) s2 d2)) + (own_in (0 : Int32) s3 d3)) ((((0 : Int32) + (own_in (1 : Int32) s1 d1)) + (own_in (1 : Int32) s2 d2)) + (own_in (1 : Int32) s3 d3)) ((((0 : Int32) + (own_in (2 : Int32) s1 d1)) + (own_in (2 : Int32) s2 d2)) + (own_in (2 : Int32) s3 d3)) ((((0 : Int32) + (own_in (3 : Int32) s1 d1)) + (own_in (3 : Int32) s2 d2)) + (own_in (3 : Int32) s3 d3)) cnt s4 d4)), .val (.int (0 : Int32))] [(.int (1 : Int32))])
      refine own_retN X171 hx (own_lvN X171 hlk (by decide) (by decide)) (t := .boolean) hret (by simp) (hb hby at_252) ?_
      exact ⟨rfl, N171⟩
    · skip
      show Go _ _ _ _ _ T171 (mkF m 183 #[.val (.int p1), .val (.int p2), .val (.int p3), .val (.int p4), .val (.int p5), .val (.int cnt), .val (.int s1), .val (.int d1), .val (.int s2), .val (.int d2), .val (.int s3), .val (.int d3), .val (.int s4), .val (.int d4), .val (.ref b163), .val (.int (own_free ((((0 : Int32) + (own_in (0 : Int32) s1 d1)) + (own_in (0 : Int32) s2 d2)) + (own_in (0 : Int32) s3 d3)) ((((0 : Int32) + (own_in (1 : Int32) s1 d1)) + (own_in (1 : Int32) s2 d2)) + (own_in (1 : Int32) s3 d3)) ((((0 : Int32) + (own_in (2 : Int32) s1 d1)) + (own_in (2 : Int32) s2 d2)) + (own_in (2 : Int32) s3 d3)) ((((0 : Int32) + (own_in (3 : Int32) s1 d1)) + (own_in (3 : Int32) s2 d2)) + (own_in (3 : Int32) s3 d3)) cnt s4 d4)), .unset] [])
      refine own_go (fun t k => XS.iconst X171.here hx rfl (hb hby at_183) k) ?_
      show Go _ _ _ _ _ T171 (mkF m 184 #[.val (.int p1), .val (.int p2), .val (.int p3), .val (.int p4), .val (.int p5), .val (.int cnt), .val (.int s1), .val (.int d1), .val (.int s2), .val (.int d2), .val (.int s3), .val (.int d3), .val (.int s4), .val (.int d4), .val (.ref b163), .val (.int (own_free ((((0 : Int32) + (own_in (0 : Int32) s1 d1)) + (own_in (0 : Int32) s2 d2)) + (own_in (0 : Int32) s3 d3)) ((((0 : Int32) + (own_in (1 : Int32) s1 d1)) + (own_in (1 : Int32) s2 d2)) + (own_in (1 : Int32) s3 d3)) ((((0 : Int32) + (own_in (2 : Int32) s1 d1)) + (own_in (2 : Int32) s2 d2)) + (own_in (2 : Int32) s3 d3)) ((((0 : Int32) + (own_in (3 : Int32) s1 d1)) + (own_in (3 : Int32) s2 d2)) + (own_in (3 : Int32) s3 d3)) cnt s4 d4)), .unset] [(.int (2 : Int32))])
      refine own_go (fun t k => XS.iload X171.here hx rfl (hb hby at_184) rfl k) ?_
      show Go _ _ _ _ _ T171 (mkF m 186 #[.val (.int p1), .val (.int p2), .val (.int p3), .val (.int p4), .val (.int p5), .val (.int cnt), .val (.int s1), .val (.int d1), .val (.int s2), .val (.int d2), .val (.int s3), .val (.int d3), .val (.int s4), .val (.int d4), .val (.ref b163), .val (.int (own_free ((((0 : Int32) + (own_in (0 : Int32) s1 d1)) + (own_in (0 : Int32) s2 d2)) + (own_in (0 : Int32) s3 d3)) ((((0 : Int32) + (own_in (1 : Int32) s1 d1)) + (own_in (1 : Int32) s2 d2)) + (own_in (1 : Int32) s3 d3)) ((((0 : Int32) + (own_in (2 : Int32) s1 d1)) + (own_in (2 : Int32) s2 d2)) + (own_in (2 : Int32) s3 d3)) ((((0 : Int32) + (own_in (3 : Int32) s1 d1)) + (own_in (3 : Int32) s2 d2)) + (own_in (3 : Int32) s3 d3)) cnt s4 d4)), .unset] [(.int cnt), (.int (2 : Int32))])
      refine own_go (fun t k => XS.iload X171.here hx rfl (hb hby at_186) rfl k) ?_
      show Go _ _ _ _ _ T171 (mkF m 188 #[.val (.int p1), .val (.int p2), .val (.int p3), .val (.int p4), .val (.int p5), .val (.int cnt), .val (.int s1), .val (.int d1), .val (.int s2), .val (.int d2), .val (.int s3), .val (.int d3), .val (.int s4), .val (.int d4), .val (.ref b163), .val (.int (own_free ((((0 : Int32) + (own_in (0 : Int32) s1 d1)) + (own_in (0 : Int32) s2 d2)) + (own_in (0 : Int32) s3 d3)) ((((0 : Int32) + (own_in (1 : Int32) s1 d1)) + (own_in (1 : Int32) s2 d2)) + (own_in (1 : Int32) s3 d3)) ((((0 : Int32) + (own_in (2 : Int32) s1 d1)) + (own_in (2 : Int32) s2 d2)) + (own_in (2 : Int32) s3 d3)) ((((0 : Int32) + (own_in (3 : Int32) s1 d1)) + (own_in (3 : Int32) s2 d2)) + (own_in (3 : Int32) s3 d3)) cnt s4 d4)), .unset] [(.int s1), (.int cnt), (.int (2 : Int32))])
      refine own_go (fun t k => XS.iload X171.here hx rfl (hb hby at_188) rfl k) ?_
      show Go _ _ _ _ _ T171 (mkF m 190 #[.val (.int p1), .val (.int p2), .val (.int p3), .val (.int p4), .val (.int p5), .val (.int cnt), .val (.int s1), .val (.int d1), .val (.int s2), .val (.int d2), .val (.int s3), .val (.int d3), .val (.int s4), .val (.int d4), .val (.ref b163), .val (.int (own_free ((((0 : Int32) + (own_in (0 : Int32) s1 d1)) + (own_in (0 : Int32) s2 d2)) + (own_in (0 : Int32) s3 d3)) ((((0 : Int32) + (own_in (1 : Int32) s1 d1)) + (own_in (1 : Int32) s2 d2)) + (own_in (1 : Int32) s3 d3)) ((((0 : Int32) + (own_in (2 : Int32) s1 d1)) + (own_in (2 : Int32) s2 d2)) + (own_in (2 : Int32) s3 d3)) ((((0 : Int32) + (own_in (3 : Int32) s1 d1)) + (own_in (3 : Int32) s2 d2)) + (own_in (3 : Int32) s3 d3)) cnt s4 d4)), .unset] [(.int d1), (.int s1), (.int cnt), (.int (2 : Int32))])
      refine own_go (fun t k => XS.iload X171.here hx rfl (hb hby at_190) rfl k) ?_
      show Go _ _ _ _ _ T171 (mkF m 192 #[.val (.int p1), .val (.int p2), .val (.int p3), .val (.int p4), .val (.int p5), .val (.int cnt), .val (.int s1), .val (.int d1), .val (.int s2), .val (.int d2), .val (.int s3), .val (.int d3), .val (.int s4), .val (.int d4), .val (.ref b163), .val (.int (own_free ((((0 : Int32) + (own_in (0 : Int32) s1 d1)) + (own_in (0 : Int32) s2 d2)) + (own_in (0 : Int32) s3 d3)) ((((0 : Int32) + (own_in (1 : Int32) s1 d1)) + (own_in (1 : Int32) s2 d2)) + (own_in (1 : Int32) s3 d3)) ((((0 : Int32) + (own_in (2 : Int32) s1 d1)) + (own_in (2 : Int32) s2 d2)) + (own_in (2 : Int32) s3 d3)) ((((0 : Int32) + (own_in (3 : Int32) s1 d1)) + (own_in (3 : Int32) s2 d2)) + (own_in (3 : Int32) s3 d3)) cnt s4 d4)), .unset] [(.int s2), (.int d1), (.int s1), (.int cnt), (.int (2 : Int32))])
      refine own_go (fun t k => XS.iload X171.here hx rfl (hb hby at_192) rfl k) ?_
      show Go _ _ _ _ _ T171 (mkF m 194 #[.val (.int p1), .val (.int p2), .val (.int p3), .val (.int p4), .val (.int p5), .val (.int cnt), .val (.int s1), .val (.int d1), .val (.int s2), .val (.int d2), .val (.int s3), .val (.int d3), .val (.int s4), .val (.int d4), .val (.ref b163), .val (.int (own_free ((((0 : Int32) + (own_in (0 : Int32) s1 d1)) + (own_in (0 : Int32) s2 d2)) + (own_in (0 : Int32) s3 d3)) ((((0 : Int32) + (own_in (1 : Int32) s1 d1)) + (own_in (1 : Int32) s2 d2)) + (own_in (1 : Int32) s3 d3)) ((((0 : Int32) + (own_in (2 : Int32) s1 d1)) + (own_in (2 : Int32) s2 d2)) + (own_in (2 : Int32) s3 d3)) ((((0 : Int32) + (own_in (3 : Int32) s1 d1)) + (own_in (3 : Int32) s2 d2)) + (own_in (3 : Int32) s3 d3)) cnt s4 d4)), .unset] [(.int d2), (.int s2), (.int d1), (.int s1), (.int cnt), (.int (2 : Int32))])
      refine own_go (fun t k => XS.iload X171.here hx rfl (hb hby at_194) rfl k) ?_
      show Go _ _ _ _ _ T171 (mkF m 196 #[.val (.int p1), .val (.int p2), .val (.int p3), .val (.int p4), .val (.int p5), .val (.int cnt), .val (.int s1), .val (.int d1), .val (.int s2), .val (.int d2), .val (.int s3), .val (.int d3), .val (.int s4), .val (.int d4), .val (.ref b163), .val (.int (own_free ((((0 : Int32) + (own_in (0 : Int32) s1 d1)) + (own_in (0 : Int32) s2 d2)) + (own_in (0 : Int32) s3 d3)) ((((0 : Int32) + (own_in (1 : Int32) s1 d1)) + (own_in (1 : Int32) s2 d2)) + (own_in (1 : Int32) s3 d3)) ((((0 : Int32) + (own_in (2 : Int32) s1 d1)) + (own_in (2 : Int32) s2 d2)) + (own_in (2 : Int32) s3 d3)) ((((0 : Int32) + (own_in (3 : Int32) s1 d1)) + (own_in (3 : Int32) s2 d2)) + (own_in (3 : Int32) s3 d3)) cnt s4 d4)), .unset] [(.int s3), (.int d2), (.int s2), (.int d1), (.int s1), (.int cnt), (.int (2 : Int32))])
      refine own_go (fun t k => XS.iload X171.here hx rfl (hb hby at_196) rfl k) ?_
      show Go _ _ _ _ _ T171 (mkF m 198 #[.val (.int p1), .val (.int p2), .val (.int p3), .val (.int p4), .val (.int p5), .val (.int cnt), .val (.int s1), .val (.int d1), .val (.int s2), .val (.int d2), .val (.int s3), .val (.int d3), .val (.int s4), .val (.int d4), .val (.ref b163), .val (.int (own_free ((((0 : Int32) + (own_in (0 : Int32) s1 d1)) + (own_in (0 : Int32) s2 d2)) + (own_in (0 : Int32) s3 d3)) ((((0 : Int32) + (own_in (1 : Int32) s1 d1)) + (own_in (1 : Int32) s2 d2)) + (own_in (1 : Int32) s3 d3)) ((((0 : Int32) + (own_in (2 : Int32) s1 d1)) + (own_in (2 : Int32) s2 d2)) + (own_in (2 : Int32) s3 d3)) ((((0 : Int32) + (own_in (3 : Int32) s1 d1)) + (own_in (3 : Int32) s2 d2)) + (own_in (3 : Int32) s3 d3)) cnt s4 d4)), .unset] [(.int d3), (.int s3), (.int d2), (.int s2), (.int d1), (.int s1), (.int cnt), (.int (2 : Int32))])
      refine own_go (fun t k => XS.iload X171.here hx rfl (hb hby at_198) rfl k) ?_
      show Go _ _ _ _ _ T171 (mkF m 200 #[.val (.int p1), .val (.int p2), .val (.int p3), .val (.int p4), .val (.int p5), .val (.int cnt), .val (.int s1), .val (.int d1), .val (.int s2), .val (.int d2), .val (.int s3), .val (.int d3), .val (.int s4), .val (.int d4), .val (.ref b163), .val (.int (own_free ((((0 : Int32) + (own_in (0 : Int32) s1 d1)) + (own_in (0 : Int32) s2 d2)) + (own_in (0 : Int32) s3 d3)) ((((0 : Int32) + (own_in (1 : Int32) s1 d1)) + (own_in (1 : Int32) s2 d2)) + (own_in (1 : Int32) s3 d3)) ((((0 : Int32) + (own_in (2 : Int32) s1 d1)) + (own_in (2 : Int32) s2 d2)) + (own_in (2 : Int32) s3 d3)) ((((0 : Int32) + (own_in (3 : Int32) s1 d1)) + (own_in (3 : Int32) s2 d2)) + (own_in (3 : Int32) s3 d3)) cnt s4 d4)), .unset] [(.int s4), (.int d3), (.int s3), (.int d2), (.int s2), (.int d1), (.int s1), (.int cnt), (.int (2 : Int32))])
      refine own_go (fun t k => XS.iload X171.here hx rfl (hb hby at_200) rfl k) ?_
      show Go _ _ _ _ _ T171 (mkF m 202 #[.val (.int p1), .val (.int p2), .val (.int p3), .val (.int p4), .val (.int p5), .val (.int cnt), .val (.int s1), .val (.int d1), .val (.int s2), .val (.int d2), .val (.int s3), .val (.int d3), .val (.int s4), .val (.int d4), .val (.ref b163), .val (.int (own_free ((((0 : Int32) + (own_in (0 : Int32) s1 d1)) + (own_in (0 : Int32) s2 d2)) + (own_in (0 : Int32) s3 d3)) ((((0 : Int32) + (own_in (1 : Int32) s1 d1)) + (own_in (1 : Int32) s2 d2)) + (own_in (1 : Int32) s3 d3)) ((((0 : Int32) + (own_in (2 : Int32) s1 d1)) + (own_in (2 : Int32) s2 d2)) + (own_in (2 : Int32) s3 d3)) ((((0 : Int32) + (own_in (3 : Int32) s1 d1)) + (own_in (3 : Int32) s2 d2)) + (own_in (3 : Int32) s3 d3)) cnt s4 d4)), .unset] [(.int d4), (.int s4), (.int d3), (.int s3), (.int d2), (.int s2), (.int d1), (.int s1), (.int cnt), (.int (2 : Int32))])
      refine own_callS X171 hx hZ (y := (⟨"com/example/trailworks/trailworks/works/CrewsFreePinLaw", "ok", "(IIIIIIIIII)Z"⟩ : MethodName)) hown (hw _ (List.mem_of_getElem? (i := 31) rfl)) (hw _ (List.mem_of_getElem? (i := 32) rfl)) (hw _ (List.mem_of_getElem? (i := 33) rfl)) (hw _ (List.mem_of_getElem? (i := 34) rfl)) (by decide) (rm_ok l Z a0 hw [] (2 : Int32) cnt s1 d1 s2 d2 s3 d3 s4 d4 (own_ok (2 : Int32) cnt s1 d1 s2 d2 s3 d3 s4 d4) T167.heap n0 hn167  rfl) e171 (by rw [hml]; rfl) (argsL := [(.int (2 : Int32)), (.int cnt), (.int s1), (.int d1), (.int s2), (.int d2), (.int s3), (.int d3), (.int s4), (.int d4)]) (rest := []) rfl rfl (lenOf own_pd4 rfl) (W := 0) (Nat.le_of_eq rfl) (by decide) (by decide) (hb hby at_202) (by decide) (by decide) ?_
      intro v173 T173 L173 X173 q173
      obtain ⟨rfl, N173q, e173⟩ := q173
      have N173 := Fr.app N171 N173q
      show Go _ _ _ _ _ T173 (mkF m 205 #[.val (.int p1), .val (.int p2), .val (.int p3), .val (.int p4), .val (.int p5), .val (.int cnt), .val (.int s1), .val (.int d1), .val (.int s2), .val (.int d2), .val (.int s3), .val (.int d3), .val (.int s4), .val (.int d4), .val (.ref b163), .val (.int (own_free ((((0 : Int32) + (own_in (0 : Int32) s1 d1)) + (own_in (0 : Int32) s2 d2)) + (own_in (0 : Int32) s3 d3)) ((((0 : Int32) + (own_in (1 : Int32) s1 d1)) + (own_in (1 : Int32) s2 d2)) + (own_in (1 : Int32) s3 d3)) ((((0 : Int32) + (own_in (2 : Int32) s1 d1)) + (own_in (2 : Int32) s2 d2)) + (own_in (2 : Int32) s3 d3)) ((((0 : Int32) + (own_in (3 : Int32) s1 d1)) + (own_in (3 : Int32) s2 d2)) + (own_in (3 : Int32) s3 d3)) cnt s4 d4)), .unset] [(.int (own_ok (2 : Int32) cnt s1 d1 s2 d2 s3 d3 s4 d4))])
      refine own_ifP ((own_ok (2 : Int32) cnt s1 d1 s2 d2 s3 d3 s4 d4) = (0 : Int32)) X173 hx (hb hby at_205) (own_eq _ _) (by decide) (by decide) (pc' := 237) (fun hc174 => ?_) (fun hc174 => ?_)
      · skip
        show Go _ _ _ _ _ T173 (mkF m 237 #[.val (.int p1), .val (.int p2), .val (.int p3), .val (.int p4), .val (.int p5), .val (.int cnt), .val (.int s1), .val (.int d1), .val (.int s2), .val (.int d2), .val (.int s3), .val (.int d3), .val (.int s4), .val (.int d4), .val (.ref b163), .val (.int (own_free ((((0 : Int32) + (own_in (0 : Int32) s1 d1)) + (own_in (0 : Int32) s2 d2)) + (own_in (0 : Int32) s3 d3)) ((((0 : Int32) + (own_in (1 : Int32) s1 d1)) + (own_in (1 : Int32) s2 d2)) + (own_in (1 : Int32) s3 d3)) ((((0 : Int32) + (own_in (2 : Int32) s1 d1)) + (own_in (2 : Int32) s2 d2)) + (own_in (2 : Int32) s3 d3)) ((((0 : Int32) + (own_in (3 : Int32) s1 d1)) + (own_in (3 : Int32) s2 d2)) + (own_in (3 : Int32) s3 d3)) cnt s4 d4)), .unset] [])
        refine own_go (fun t k => XS.iconst X173.here hx rfl (hb hby at_237) k) ?_
        show Go _ _ _ _ _ T173 (mkF m 238 #[.val (.int p1), .val (.int p2), .val (.int p3), .val (.int p4), .val (.int p5), .val (.int cnt), .val (.int s1), .val (.int d1), .val (.int s2), .val (.int d2), .val (.int s3), .val (.int d3), .val (.int s4), .val (.int d4), .val (.ref b163), .val (.int (own_free ((((0 : Int32) + (own_in (0 : Int32) s1 d1)) + (own_in (0 : Int32) s2 d2)) + (own_in (0 : Int32) s3 d3)) ((((0 : Int32) + (own_in (1 : Int32) s1 d1)) + (own_in (1 : Int32) s2 d2)) + (own_in (1 : Int32) s3 d3)) ((((0 : Int32) + (own_in (2 : Int32) s1 d1)) + (own_in (2 : Int32) s2 d2)) + (own_in (2 : Int32) s3 d3)) ((((0 : Int32) + (own_in (3 : Int32) s1 d1)) + (own_in (3 : Int32) s2 d2)) + (own_in (3 : Int32) s3 d3)) cnt s4 d4)), .unset] [(.int (0 : Int32))])
        refine own_go (fun t k => XS.istore X173.here hx rfl (hb hby at_238) rfl (l' := #[.val (.int p1), .val (.int p2), .val (.int p3), .val (.int p4), .val (.int p5), .val (.int cnt), .val (.int s1), .val (.int d1), .val (.int s2), .val (.int d2), .val (.int s3), .val (.int d3), .val (.int s4), .val (.int d4), .val (.ref b163), .val (.int (own_free ((((0 : Int32) + (own_in (0 : Int32) s1 d1)) + (own_in (0 : Int32) s2 d2)) + (own_in (0 : Int32) s3 d3)) ((((0 : Int32) + (own_in (1 : Int32) s1 d1)) + (own_in (1 : Int32) s2 d2)) + (own_in (1 : Int32) s3 d3)) ((((0 : Int32) + (own_in (2 : Int32) s1 d1)) + (own_in (2 : Int32) s2 d2)) + (own_in (2 : Int32) s3 d3)) ((((0 : Int32) + (own_in (3 : Int32) s1 d1)) + (own_in (3 : Int32) s2 d2)) + (own_in (3 : Int32) s3 d3)) cnt s4 d4)), .val (.int (0 : Int32))]) rfl k) ?_
        show Go _ _ _ _ _ T173 (mkF m 240 #[.val (.int p1), .val (.int p2), .val (.int p3), .val (.int p4), .val (.int p5), .val (.int cnt), .val (.int s1), .val (.int d1), .val (.int s2), .val (.int d2), .val (.int s3), .val (.int d3), .val (.int s4), .val (.int d4), .val (.ref b163), .val (.int (own_free ((((0 : Int32) + (own_in (0 : Int32) s1 d1)) + (own_in (0 : Int32) s2 d2)) + (own_in (0 : Int32) s3 d3)) ((((0 : Int32) + (own_in (1 : Int32) s1 d1)) + (own_in (1 : Int32) s2 d2)) + (own_in (1 : Int32) s3 d3)) ((((0 : Int32) + (own_in (2 : Int32) s1 d1)) + (own_in (2 : Int32) s2 d2)) + (own_in (2 : Int32) s3 d3)) ((((0 : Int32) + (own_in (3 : Int32) s1 d1)) + (own_in (3 : Int32) s2 d2)) + (own_in (3 : Int32) s3 d3)) cnt s4 d4)), .val (.int (0 : Int32))] [])
        refine own_go (fun t k => XS.iload X173.here hx rfl (hb hby at_240) rfl k) ?_
        show Go _ _ _ _ _ T173 (mkF m 242 #[.val (.int p1), .val (.int p2), .val (.int p3), .val (.int p4), .val (.int p5), .val (.int cnt), .val (.int s1), .val (.int d1), .val (.int s2), .val (.int d2), .val (.int s3), .val (.int d3), .val (.int s4), .val (.int d4), .val (.ref b163), .val (.int (own_free ((((0 : Int32) + (own_in (0 : Int32) s1 d1)) + (own_in (0 : Int32) s2 d2)) + (own_in (0 : Int32) s3 d3)) ((((0 : Int32) + (own_in (1 : Int32) s1 d1)) + (own_in (1 : Int32) s2 d2)) + (own_in (1 : Int32) s3 d3)) ((((0 : Int32) + (own_in (2 : Int32) s1 d1)) + (own_in (2 : Int32) s2 d2)) + (own_in (2 : Int32) s3 d3)) ((((0 : Int32) + (own_in (3 : Int32) s1 d1)) + (own_in (3 : Int32) s2 d2)) + (own_in (3 : Int32) s3 d3)) cnt s4 d4)), .val (.int (0 : Int32))] [(.int (own_free ((((0 : Int32) + (own_in (0 : Int32) s1 d1)) + (own_in (0 : Int32) s2 d2)) + (own_in (0 : Int32) s3 d3)) ((((0 : Int32) + (own_in (1 : Int32) s1 d1)) + (own_in (1 : Int32) s2 d2)) + (own_in (1 : Int32) s3 d3)) ((((0 : Int32) + (own_in (2 : Int32) s1 d1)) + (own_in (2 : Int32) s2 d2)) + (own_in (2 : Int32) s3 d3)) ((((0 : Int32) + (own_in (3 : Int32) s1 d1)) + (own_in (3 : Int32) s2 d2)) + (own_in (3 : Int32) s3 d3)) cnt s4 d4))])
        refine own_go (fun t k => XS.iload X173.here hx rfl (hb hby at_242) rfl k) ?_
        have hg := own_fin0 cnt s1 d1 s2 d2 s3 d3 s4 d4 (Or.inr (Or.inr (Or.inl hc174)))
        show Go _ _ _ _ _ T173 (mkF m 244 #[.val (.int p1), .val (.int p2), .val (.int p3), .val (.int p4), .val (.int p5), .val (.int cnt), .val (.int s1), .val (.int d1), .val (.int s2), .val (.int d2), .val (.int s3), .val (.int d3), .val (.int s4), .val (.int d4), .val (.ref b163), .val (.int (own_free ((((0 : Int32) + (own_in (0 : Int32) s1 d1)) + (own_in (0 : Int32) s2 d2)) + (own_in (0 : Int32) s3 d3)) ((((0 : Int32) + (own_in (1 : Int32) s1 d1)) + (own_in (1 : Int32) s2 d2)) + (own_in (1 : Int32) s3 d3)) ((((0 : Int32) + (own_in (2 : Int32) s1 d1)) + (own_in (2 : Int32) s2 d2)) + (own_in (2 : Int32) s3 d3)) ((((0 : Int32) + (own_in (3 : Int32) s1 d1)) + (own_in (3 : Int32) s2 d2)) + (own_in (3 : Int32) s3 d3)) cnt s4 d4)), .val (.int (0 : Int32))] [(.int (0 : Int32)), (.int (own_free ((((0 : Int32) + (own_in (0 : Int32) s1 d1)) + (own_in (0 : Int32) s2 d2)) + (own_in (0 : Int32) s3 d3)) ((((0 : Int32) + (own_in (1 : Int32) s1 d1)) + (own_in (1 : Int32) s2 d2)) + (own_in (1 : Int32) s3 d3)) ((((0 : Int32) + (own_in (2 : Int32) s1 d1)) + (own_in (2 : Int32) s2 d2)) + (own_in (2 : Int32) s3 d3)) ((((0 : Int32) + (own_in (3 : Int32) s1 d1)) + (own_in (3 : Int32) s2 d2)) + (own_in (3 : Int32) s3 d3)) cnt s4 d4))])
        refine own_go (fun t k => XS.icmpNo X173.here hx rfl (hb hby at_244) rfl (teq hg).2 k) ?_
        show Go _ _ _ _ _ T173 (mkF m 247 #[.val (.int p1), .val (.int p2), .val (.int p3), .val (.int p4), .val (.int p5), .val (.int cnt), .val (.int s1), .val (.int d1), .val (.int s2), .val (.int d2), .val (.int s3), .val (.int d3), .val (.int s4), .val (.int d4), .val (.ref b163), .val (.int (own_free ((((0 : Int32) + (own_in (0 : Int32) s1 d1)) + (own_in (0 : Int32) s2 d2)) + (own_in (0 : Int32) s3 d3)) ((((0 : Int32) + (own_in (1 : Int32) s1 d1)) + (own_in (1 : Int32) s2 d2)) + (own_in (1 : Int32) s3 d3)) ((((0 : Int32) + (own_in (2 : Int32) s1 d1)) + (own_in (2 : Int32) s2 d2)) + (own_in (2 : Int32) s3 d3)) ((((0 : Int32) + (own_in (3 : Int32) s1 d1)) + (own_in (3 : Int32) s2 d2)) + (own_in (3 : Int32) s3 d3)) cnt s4 d4)), .val (.int (0 : Int32))] [])
        refine own_go (fun t k => XS.iconst X173.here hx rfl (hb hby at_247) k) ?_
        show Go _ _ _ _ _ T173 (mkF m 248 #[.val (.int p1), .val (.int p2), .val (.int p3), .val (.int p4), .val (.int p5), .val (.int cnt), .val (.int s1), .val (.int d1), .val (.int s2), .val (.int d2), .val (.int s3), .val (.int d3), .val (.int s4), .val (.int d4), .val (.ref b163), .val (.int (own_free ((((0 : Int32) + (own_in (0 : Int32) s1 d1)) + (own_in (0 : Int32) s2 d2)) + (own_in (0 : Int32) s3 d3)) ((((0 : Int32) + (own_in (1 : Int32) s1 d1)) + (own_in (1 : Int32) s2 d2)) + (own_in (1 : Int32) s3 d3)) ((((0 : Int32) + (own_in (2 : Int32) s1 d1)) + (own_in (2 : Int32) s2 d2)) + (own_in (2 : Int32) s3 d3)) ((((0 : Int32) + (own_in (3 : Int32) s1 d1)) + (own_in (3 : Int32) s2 d2)) + (own_in (3 : Int32) s3 d3)) cnt s4 d4)), .val (.int (0 : Int32))] [(.int (1 : Int32))])
        refine own_go (fun t k => XS.goto X173.here hx rfl (pc0 := 248) (pc' := 252) rfl (hb hby at_248) (by decide) (by decide) k) ?_
        show Go _ _ _ _ _ T173 (mkF m 252 #[.val (.int p1), .val (.int p2), .val (.int p3), .val (.int p4), .val (.int p5), .val (.int cnt), .val (.int s1), .val (.int d1), .val (.int s2), .val (.int d2), .val (.int s3), .val (.int d3), .val (.int s4), .val (.int d4), .val (.ref b163), .val (.int (own_free ((((0 : Int32) + (own_in (0 : Int32) s1 d1)) + (own_in (0 : Int32) s2 d2)) + (own_in (0 : Int32) s3 d3)) ((((0 : Int32) + (own_in (1 : Int32) s1 d1)) + (own_in (1 : Int32) s2 d2)) + (own_in (1 : Int32) s3 d3)) ((((0 : Int32) + (own_in (2 : Int32) s1 d1)) + (own_in (2 : Int32) s2 d2)) + (own_in (2 : Int32) s3 d3)) ((((0 : Int32) + (own_in (3 : Int32) s1 d1)) + (own_in (3 : Int32) s2 d2)) + (own_in (3 : Int32) s3 d3)) cnt s4 d4)), .val (.int (0 : Int32))] [(.int (1 : Int32))])
        refine own_retN X173 hx (own_lvN X173 hlk (by decide) (by decide)) (t := .boolean) hret (by simp) (hb hby at_252) ?_
        exact ⟨rfl, N173⟩
      · skip
        show Go _ _ _ _ _ T173 (mkF m 208 #[.val (.int p1), .val (.int p2), .val (.int p3), .val (.int p4), .val (.int p5), .val (.int cnt), .val (.int s1), .val (.int d1), .val (.int s2), .val (.int d2), .val (.int s3), .val (.int d3), .val (.int s4), .val (.int d4), .val (.ref b163), .val (.int (own_free ((((0 : Int32) + (own_in (0 : Int32) s1 d1)) + (own_in (0 : Int32) s2 d2)) + (own_in (0 : Int32) s3 d3)) ((((0 : Int32) + (own_in (1 : Int32) s1 d1)) + (own_in (1 : Int32) s2 d2)) + (own_in (1 : Int32) s3 d3)) ((((0 : Int32) + (own_in (2 : Int32) s1 d1)) + (own_in (2 : Int32) s2 d2)) + (own_in (2 : Int32) s3 d3)) ((((0 : Int32) + (own_in (3 : Int32) s1 d1)) + (own_in (3 : Int32) s2 d2)) + (own_in (3 : Int32) s3 d3)) cnt s4 d4)), .unset] [])
        refine own_go (fun t k => XS.iconst X173.here hx rfl (hb hby at_208) k) ?_
        show Go _ _ _ _ _ T173 (mkF m 209 #[.val (.int p1), .val (.int p2), .val (.int p3), .val (.int p4), .val (.int p5), .val (.int cnt), .val (.int s1), .val (.int d1), .val (.int s2), .val (.int d2), .val (.int s3), .val (.int d3), .val (.int s4), .val (.int d4), .val (.ref b163), .val (.int (own_free ((((0 : Int32) + (own_in (0 : Int32) s1 d1)) + (own_in (0 : Int32) s2 d2)) + (own_in (0 : Int32) s3 d3)) ((((0 : Int32) + (own_in (1 : Int32) s1 d1)) + (own_in (1 : Int32) s2 d2)) + (own_in (1 : Int32) s3 d3)) ((((0 : Int32) + (own_in (2 : Int32) s1 d1)) + (own_in (2 : Int32) s2 d2)) + (own_in (2 : Int32) s3 d3)) ((((0 : Int32) + (own_in (3 : Int32) s1 d1)) + (own_in (3 : Int32) s2 d2)) + (own_in (3 : Int32) s3 d3)) cnt s4 d4)), .unset] [(.int (3 : Int32))])
        refine own_go (fun t k => XS.iload X173.here hx rfl (hb hby at_209) rfl k) ?_
        show Go _ _ _ _ _ T173 (mkF m 211 #[.val (.int p1), .val (.int p2), .val (.int p3), .val (.int p4), .val (.int p5), .val (.int cnt), .val (.int s1), .val (.int d1), .val (.int s2), .val (.int d2), .val (.int s3), .val (.int d3), .val (.int s4), .val (.int d4), .val (.ref b163), .val (.int (own_free ((((0 : Int32) + (own_in (0 : Int32) s1 d1)) + (own_in (0 : Int32) s2 d2)) + (own_in (0 : Int32) s3 d3)) ((((0 : Int32) + (own_in (1 : Int32) s1 d1)) + (own_in (1 : Int32) s2 d2)) + (own_in (1 : Int32) s3 d3)) ((((0 : Int32) + (own_in (2 : Int32) s1 d1)) + (own_in (2 : Int32) s2 d2)) + (own_in (2 : Int32) s3 d3)) ((((0 : Int32) + (own_in (3 : Int32) s1 d1)) + (own_in (3 : Int32) s2 d2)) + (own_in (3 : Int32) s3 d3)) cnt s4 d4)), .unset] [(.int cnt), (.int (3 : Int32))])
        refine own_go (fun t k => XS.iload X173.here hx rfl (hb hby at_211) rfl k) ?_
        show Go _ _ _ _ _ T173 (mkF m 213 #[.val (.int p1), .val (.int p2), .val (.int p3), .val (.int p4), .val (.int p5), .val (.int cnt), .val (.int s1), .val (.int d1), .val (.int s2), .val (.int d2), .val (.int s3), .val (.int d3), .val (.int s4), .val (.int d4), .val (.ref b163), .val (.int (own_free ((((0 : Int32) + (own_in (0 : Int32) s1 d1)) + (own_in (0 : Int32) s2 d2)) + (own_in (0 : Int32) s3 d3)) ((((0 : Int32) + (own_in (1 : Int32) s1 d1)) + (own_in (1 : Int32) s2 d2)) + (own_in (1 : Int32) s3 d3)) ((((0 : Int32) + (own_in (2 : Int32) s1 d1)) + (own_in (2 : Int32) s2 d2)) + (own_in (2 : Int32) s3 d3)) ((((0 : Int32) + (own_in (3 : Int32) s1 d1)) + (own_in (3 : Int32) s2 d2)) + (own_in (3 : Int32) s3 d3)) cnt s4 d4)), .unset] [(.int s1), (.int cnt), (.int (3 : Int32))])
        refine own_go (fun t k => XS.iload X173.here hx rfl (hb hby at_213) rfl k) ?_
        show Go _ _ _ _ _ T173 (mkF m 215 #[.val (.int p1), .val (.int p2), .val (.int p3), .val (.int p4), .val (.int p5), .val (.int cnt), .val (.int s1), .val (.int d1), .val (.int s2), .val (.int d2), .val (.int s3), .val (.int d3), .val (.int s4), .val (.int d4), .val (.ref b163), .val (.int (own_free ((((0 : Int32) + (own_in (0 : Int32) s1 d1)) + (own_in (0 : Int32) s2 d2)) + (own_in (0 : Int32) s3 d3)) ((((0 : Int32) + (own_in (1 : Int32) s1 d1)) + (own_in (1 : Int32) s2 d2)) + (own_in (1 : Int32) s3 d3)) ((((0 : Int32) + (own_in (2 : Int32) s1 d1)) + (own_in (2 : Int32) s2 d2)) + (own_in (2 : Int32) s3 d3)) ((((0 : Int32) + (own_in (3 : Int32) s1 d1)) + (own_in (3 : Int32) s2 d2)) + (own_in (3 : Int32) s3 d3)) cnt s4 d4)), .unset] [(.int d1), (.int s1), (.int cnt), (.int (3 : Int32))])
        refine own_go (fun t k => XS.iload X173.here hx rfl (hb hby at_215) rfl k) ?_
        show Go _ _ _ _ _ T173 (mkF m 217 #[.val (.int p1), .val (.int p2), .val (.int p3), .val (.int p4), .val (.int p5), .val (.int cnt), .val (.int s1), .val (.int d1), .val (.int s2), .val (.int d2), .val (.int s3), .val (.int d3), .val (.int s4), .val (.int d4), .val (.ref b163), .val (.int (own_free ((((0 : Int32) + (own_in (0 : Int32) s1 d1)) + (own_in (0 : Int32) s2 d2)) + (own_in (0 : Int32) s3 d3)) ((((0 : Int32) + (own_in (1 : Int32) s1 d1)) + (own_in (1 : Int32) s2 d2)) + (own_in (1 : Int32) s3 d3)) ((((0 : Int32) + (own_in (2 : Int32) s1 d1)) + (own_in (2 : Int32) s2 d2)) + (own_in (2 : Int32) s3 d3)) ((((0 : Int32) + (own_in (3 : Int32) s1 d1)) + (own_in (3 : Int32) s2 d2)) + (own_in (3 : Int32) s3 d3)) cnt s4 d4)), .unset] [(.int s2), (.int d1), (.int s1), (.int cnt), (.int (3 : Int32))])
        refine own_go (fun t k => XS.iload X173.here hx rfl (hb hby at_217) rfl k) ?_
        show Go _ _ _ _ _ T173 (mkF m 219 #[.val (.int p1), .val (.int p2), .val (.int p3), .val (.int p4), .val (.int p5), .val (.int cnt), .val (.int s1), .val (.int d1), .val (.int s2), .val (.int d2), .val (.int s3), .val (.int d3), .val (.int s4), .val (.int d4), .val (.ref b163), .val (.int (own_free ((((0 : Int32) + (own_in (0 : Int32) s1 d1)) + (own_in (0 : Int32) s2 d2)) + (own_in (0 : Int32) s3 d3)) ((((0 : Int32) + (own_in (1 : Int32) s1 d1)) + (own_in (1 : Int32) s2 d2)) + (own_in (1 : Int32) s3 d3)) ((((0 : Int32) + (own_in (2 : Int32) s1 d1)) + (own_in (2 : Int32) s2 d2)) + (own_in (2 : Int32) s3 d3)) ((((0 : Int32) + (own_in (3 : Int32) s1 d1)) + (own_in (3 : Int32) s2 d2)) + (own_in (3 : Int32) s3 d3)) cnt s4 d4)), .unset] [(.int d2), (.int s2), (.int d1), (.int s1), (.int cnt), (.int (3 : Int32))])
        refine own_go (fun t k => XS.iload X173.here hx rfl (hb hby at_219) rfl k) ?_
        show Go _ _ _ _ _ T173 (mkF m 221 #[.val (.int p1), .val (.int p2), .val (.int p3), .val (.int p4), .val (.int p5), .val (.int cnt), .val (.int s1), .val (.int d1), .val (.int s2), .val (.int d2), .val (.int s3), .val (.int d3), .val (.int s4), .val (.int d4), .val (.ref b163), .val (.int (own_free ((((0 : Int32) + (own_in (0 : Int32) s1 d1)) + (own_in (0 : Int32) s2 d2)) + (own_in (0 : Int32) s3 d3)) ((((0 : Int32) + (own_in (1 : Int32) s1 d1)) + (own_in (1 : Int32) s2 d2)) + (own_in (1 : Int32) s3 d3)) ((((0 : Int32) + (own_in (2 : Int32) s1 d1)) + (own_in (2 : Int32) s2 d2)) + (own_in (2 : Int32) s3 d3)) ((((0 : Int32) + (own_in (3 : Int32) s1 d1)) + (own_in (3 : Int32) s2 d2)) + (own_in (3 : Int32) s3 d3)) cnt s4 d4)), .unset] [(.int s3), (.int d2), (.int s2), (.int d1), (.int s1), (.int cnt), (.int (3 : Int32))])
        refine own_go (fun t k => XS.iload X173.here hx rfl (hb hby at_221) rfl k) ?_
        show Go _ _ _ _ _ T173 (mkF m 223 #[.val (.int p1), .val (.int p2), .val (.int p3), .val (.int p4), .val (.int p5), .val (.int cnt), .val (.int s1), .val (.int d1), .val (.int s2), .val (.int d2), .val (.int s3), .val (.int d3), .val (.int s4), .val (.int d4), .val (.ref b163), .val (.int (own_free ((((0 : Int32) + (own_in (0 : Int32) s1 d1)) + (own_in (0 : Int32) s2 d2)) + (own_in (0 : Int32) s3 d3)) ((((0 : Int32) + (own_in (1 : Int32) s1 d1)) + (own_in (1 : Int32) s2 d2)) + (own_in (1 : Int32) s3 d3)) ((((0 : Int32) + (own_in (2 : Int32) s1 d1)) + (own_in (2 : Int32) s2 d2)) + (own_in (2 : Int32) s3 d3)) ((((0 : Int32) + (own_in (3 : Int32) s1 d1)) + (own_in (3 : Int32) s2 d2)) + (own_in (3 : Int32) s3 d3)) cnt s4 d4)), .unset] [(.int d3), (.int s3), (.int d2), (.int s2), (.int d1), (.int s1), (.int cnt), (.int (3 : Int32))])
        refine own_go (fun t k => XS.iload X173.here hx rfl (hb hby at_223) rfl k) ?_
        show Go _ _ _ _ _ T173 (mkF m 225 #[.val (.int p1), .val (.int p2), .val (.int p3), .val (.int p4), .val (.int p5), .val (.int cnt), .val (.int s1), .val (.int d1), .val (.int s2), .val (.int d2), .val (.int s3), .val (.int d3), .val (.int s4), .val (.int d4), .val (.ref b163), .val (.int (own_free ((((0 : Int32) + (own_in (0 : Int32) s1 d1)) + (own_in (0 : Int32) s2 d2)) + (own_in (0 : Int32) s3 d3)) ((((0 : Int32) + (own_in (1 : Int32) s1 d1)) + (own_in (1 : Int32) s2 d2)) + (own_in (1 : Int32) s3 d3)) ((((0 : Int32) + (own_in (2 : Int32) s1 d1)) + (own_in (2 : Int32) s2 d2)) + (own_in (2 : Int32) s3 d3)) ((((0 : Int32) + (own_in (3 : Int32) s1 d1)) + (own_in (3 : Int32) s2 d2)) + (own_in (3 : Int32) s3 d3)) cnt s4 d4)), .unset] [(.int s4), (.int d3), (.int s3), (.int d2), (.int s2), (.int d1), (.int s1), (.int cnt), (.int (3 : Int32))])
        refine own_go (fun t k => XS.iload X173.here hx rfl (hb hby at_225) rfl k) ?_
        show Go _ _ _ _ _ T173 (mkF m 227 #[.val (.int p1), .val (.int p2), .val (.int p3), .val (.int p4), .val (.int p5), .val (.int cnt), .val (.int s1), .val (.int d1), .val (.int s2), .val (.int d2), .val (.int s3), .val (.int d3), .val (.int s4), .val (.int d4), .val (.ref b163), .val (.int (own_free ((((0 : Int32) + (own_in (0 : Int32) s1 d1)) + (own_in (0 : Int32) s2 d2)) + (own_in (0 : Int32) s3 d3)) ((((0 : Int32) + (own_in (1 : Int32) s1 d1)) + (own_in (1 : Int32) s2 d2)) + (own_in (1 : Int32) s3 d3)) ((((0 : Int32) + (own_in (2 : Int32) s1 d1)) + (own_in (2 : Int32) s2 d2)) + (own_in (2 : Int32) s3 d3)) ((((0 : Int32) + (own_in (3 : Int32) s1 d1)) + (own_in (3 : Int32) s2 d2)) + (own_in (3 : Int32) s3 d3)) cnt s4 d4)), .unset] [(.int d4), (.int s4), (.int d3), (.int s3), (.int d2), (.int s2), (.int d1), (.int s1), (.int cnt), (.int (3 : Int32))])
        refine own_callS X173 hx hZ (y := (⟨"com/example/trailworks/trailworks/works/CrewsFreePinLaw", "ok", "(IIIIIIIIII)Z"⟩ : MethodName)) hown (hw _ (List.mem_of_getElem? (i := 31) rfl)) (hw _ (List.mem_of_getElem? (i := 32) rfl)) (hw _ (List.mem_of_getElem? (i := 33) rfl)) (hw _ (List.mem_of_getElem? (i := 34) rfl)) (by decide) (rm_ok l Z a0 hw [] (3 : Int32) cnt s1 d1 s2 d2 s3 d3 s4 d4 (own_ok (3 : Int32) cnt s1 d1 s2 d2 s3 d3 s4 d4) T167.heap n0 hn167  rfl) e173 (by rw [hml]; rfl) (argsL := [(.int (3 : Int32)), (.int cnt), (.int s1), (.int d1), (.int s2), (.int d2), (.int s3), (.int d3), (.int s4), (.int d4)]) (rest := []) rfl rfl (lenOf own_pd4 rfl) (W := 0) (Nat.le_of_eq rfl) (by decide) (by decide) (hb hby at_227) (by decide) (by decide) ?_
        intro v175 T175 L175 X175 q175
        obtain ⟨rfl, N175q, e175⟩ := q175
        have N175 := Fr.app N173 N175q
        show Go _ _ _ _ _ T175 (mkF m 230 #[.val (.int p1), .val (.int p2), .val (.int p3), .val (.int p4), .val (.int p5), .val (.int cnt), .val (.int s1), .val (.int d1), .val (.int s2), .val (.int d2), .val (.int s3), .val (.int d3), .val (.int s4), .val (.int d4), .val (.ref b163), .val (.int (own_free ((((0 : Int32) + (own_in (0 : Int32) s1 d1)) + (own_in (0 : Int32) s2 d2)) + (own_in (0 : Int32) s3 d3)) ((((0 : Int32) + (own_in (1 : Int32) s1 d1)) + (own_in (1 : Int32) s2 d2)) + (own_in (1 : Int32) s3 d3)) ((((0 : Int32) + (own_in (2 : Int32) s1 d1)) + (own_in (2 : Int32) s2 d2)) + (own_in (2 : Int32) s3 d3)) ((((0 : Int32) + (own_in (3 : Int32) s1 d1)) + (own_in (3 : Int32) s2 d2)) + (own_in (3 : Int32) s3 d3)) cnt s4 d4)), .unset] [(.int (own_ok (3 : Int32) cnt s1 d1 s2 d2 s3 d3 s4 d4))])
        refine own_ifP ((own_ok (3 : Int32) cnt s1 d1 s2 d2 s3 d3 s4 d4) = (0 : Int32)) X175 hx (hb hby at_230) (own_eq _ _) (by decide) (by decide) (pc' := 237) (fun hc176 => ?_) (fun hc176 => ?_)
        · skip
          show Go _ _ _ _ _ T175 (mkF m 237 #[.val (.int p1), .val (.int p2), .val (.int p3), .val (.int p4), .val (.int p5), .val (.int cnt), .val (.int s1), .val (.int d1), .val (.int s2), .val (.int d2), .val (.int s3), .val (.int d3), .val (.int s4), .val (.int d4), .val (.ref b163), .val (.int (own_free ((((0 : Int32) + (own_in (0 : Int32) s1 d1)) + (own_in (0 : Int32) s2 d2)) + (own_in (0 : Int32) s3 d3)) ((((0 : Int32) + (own_in (1 : Int32) s1 d1)) + (own_in (1 : Int32) s2 d2)) + (own_in (1 : Int32) s3 d3)) ((((0 : Int32) + (own_in (2 : Int32) s1 d1)) + (own_in (2 : Int32) s2 d2)) + (own_in (2 : Int32) s3 d3)) ((((0 : Int32) + (own_in (3 : Int32) s1 d1)) + (own_in (3 : Int32) s2 d2)) + (own_in (3 : Int32) s3 d3)) cnt s4 d4)), .unset] [])
          refine own_go (fun t k => XS.iconst X175.here hx rfl (hb hby at_237) k) ?_
          show Go _ _ _ _ _ T175 (mkF m 238 #[.val (.int p1), .val (.int p2), .val (.int p3), .val (.int p4), .val (.int p5), .val (.int cnt), .val (.int s1), .val (.int d1), .val (.int s2), .val (.int d2), .val (.int s3), .val (.int d3), .val (.int s4), .val (.int d4), .val (.ref b163), .val (.int (own_free ((((0 : Int32) + (own_in (0 : Int32) s1 d1)) + (own_in (0 : Int32) s2 d2)) + (own_in (0 : Int32) s3 d3)) ((((0 : Int32) + (own_in (1 : Int32) s1 d1)) + (own_in (1 : Int32) s2 d2)) + (own_in (1 : Int32) s3 d3)) ((((0 : Int32) + (own_in (2 : Int32) s1 d1)) + (own_in (2 : Int32) s2 d2)) + (own_in (2 : Int32) s3 d3)) ((((0 : Int32) + (own_in (3 : Int32) s1 d1)) + (own_in (3 : Int32) s2 d2)) + (own_in (3 : Int32) s3 d3)) cnt s4 d4)), .unset] [(.int (0 : Int32))])
          refine own_go (fun t k => XS.istore X175.here hx rfl (hb hby at_238) rfl (l' := #[.val (.int p1), .val (.int p2), .val (.int p3), .val (.int p4), .val (.int p5), .val (.int cnt), .val (.int s1), .val (.int d1), .val (.int s2), .val (.int d2), .val (.int s3), .val (.int d3), .val (.int s4), .val (.int d4), .val (.ref b163), .val (.int (own_free ((((0 : Int32) + (own_in (0 : Int32) s1 d1)) + (own_in (0 : Int32) s2 d2)) + (own_in (0 : Int32) s3 d3)) ((((0 : Int32) + (own_in (1 : Int32) s1 d1)) + (own_in (1 : Int32) s2 d2)) + (own_in (1 : Int32) s3 d3)) ((((0 : Int32) + (own_in (2 : Int32) s1 d1)) + (own_in (2 : Int32) s2 d2)) + (own_in (2 : Int32) s3 d3)) ((((0 : Int32) + (own_in (3 : Int32) s1 d1)) + (own_in (3 : Int32) s2 d2)) + (own_in (3 : Int32) s3 d3)) cnt s4 d4)), .val (.int (0 : Int32))]) rfl k) ?_
          show Go _ _ _ _ _ T175 (mkF m 240 #[.val (.int p1), .val (.int p2), .val (.int p3), .val (.int p4), .val (.int p5), .val (.int cnt), .val (.int s1), .val (.int d1), .val (.int s2), .val (.int d2), .val (.int s3), .val (.int d3), .val (.int s4), .val (.int d4), .val (.ref b163), .val (.int (own_free ((((0 : Int32) + (own_in (0 : Int32) s1 d1)) + (own_in (0 : Int32) s2 d2)) + (own_in (0 : Int32) s3 d3)) ((((0 : Int32) + (own_in (1 : Int32) s1 d1)) + (own_in (1 : Int32) s2 d2)) + (own_in (1 : Int32) s3 d3)) ((((0 : Int32) + (own_in (2 : Int32) s1 d1)) + (own_in (2 : Int32) s2 d2)) + (own_in (2 : Int32) s3 d3)) ((((0 : Int32) + (own_in (3 : Int32) s1 d1)) + (own_in (3 : Int32) s2 d2)) + (own_in (3 : Int32) s3 d3)) cnt s4 d4)), .val (.int (0 : Int32))] [])
          refine own_go (fun t k => XS.iload X175.here hx rfl (hb hby at_240) rfl k) ?_
          show Go _ _ _ _ _ T175 (mkF m 242 #[.val (.int p1), .val (.int p2), .val (.int p3), .val (.int p4), .val (.int p5), .val (.int cnt), .val (.int s1), .val (.int d1), .val (.int s2), .val (.int d2), .val (.int s3), .val (.int d3), .val (.int s4), .val (.int d4), .val (.ref b163), .val (.int (own_free ((((0 : Int32) + (own_in (0 : Int32) s1 d1)) + (own_in (0 : Int32) s2 d2)) + (own_in (0 : Int32) s3 d3)) ((((0 : Int32) + (own_in (1 : Int32) s1 d1)) + (own_in (1 : Int32) s2 d2)) + (own_in (1 : Int32) s3 d3)) ((((0 : Int32) + (own_in (2 : Int32) s1 d1)) + (own_in (2 : Int32) s2 d2)) + (own_in (2 : Int32) s3 d3)) ((((0 : Int32) + (own_in (3 : Int32) s1 d1)) + (own_in (3 : Int32) s2 d2)) + (own_in (3 : Int32) s3 d3)) cnt s4 d4)), .val (.int (0 : Int32))] [(.int (own_free ((((0 : Int32) + (own_in (0 : Int32) s1 d1)) + (own_in (0 : Int32) s2 d2)) + (own_in (0 : Int32) s3 d3)) ((((0 : Int32) + (own_in (1 : Int32) s1 d1)) + (own_in (1 : Int32) s2 d2)) + (own_in (1 : Int32) s3 d3)) ((((0 : Int32) + (own_in (2 : Int32) s1 d1)) + (own_in (2 : Int32) s2 d2)) + (own_in (2 : Int32) s3 d3)) ((((0 : Int32) + (own_in (3 : Int32) s1 d1)) + (own_in (3 : Int32) s2 d2)) + (own_in (3 : Int32) s3 d3)) cnt s4 d4))])
          refine own_go (fun t k => XS.iload X175.here hx rfl (hb hby at_242) rfl k) ?_
          have hg := own_fin0 cnt s1 d1 s2 d2 s3 d3 s4 d4 (Or.inr (Or.inr (Or.inr hc176)))
          show Go _ _ _ _ _ T175 (mkF m 244 #[.val (.int p1), .val (.int p2), .val (.int p3), .val (.int p4), .val (.int p5), .val (.int cnt), .val (.int s1), .val (.int d1), .val (.int s2), .val (.int d2), .val (.int s3), .val (.int d3), .val (.int s4), .val (.int d4), .val (.ref b163), .val (.int (own_free ((((0 : Int32) + (own_in (0 : Int32) s1 d1)) + (own_in (0 : Int32) s2 d2)) + (own_in (0 : Int32) s3 d3)) ((((0 : Int32) + (own_in (1 : Int32) s1 d1)) + (own_in (1 : Int32) s2 d2)) + (own_in (1 : Int32) s3 d3)) ((((0 : Int32) + (own_in (2 : Int32) s1 d1)) + (own_in (2 : Int32) s2 d2)) + (own_in (2 : Int32) s3 d3)) ((((0 : Int32) + (own_in (3 : Int32) s1 d1)) + (own_in (3 : Int32) s2 d2)) + (own_in (3 : Int32) s3 d3)) cnt s4 d4)), .val (.int (0 : Int32))] [(.int (0 : Int32)), (.int (own_free ((((0 : Int32) + (own_in (0 : Int32) s1 d1)) + (own_in (0 : Int32) s2 d2)) + (own_in (0 : Int32) s3 d3)) ((((0 : Int32) + (own_in (1 : Int32) s1 d1)) + (own_in (1 : Int32) s2 d2)) + (own_in (1 : Int32) s3 d3)) ((((0 : Int32) + (own_in (2 : Int32) s1 d1)) + (own_in (2 : Int32) s2 d2)) + (own_in (2 : Int32) s3 d3)) ((((0 : Int32) + (own_in (3 : Int32) s1 d1)) + (own_in (3 : Int32) s2 d2)) + (own_in (3 : Int32) s3 d3)) cnt s4 d4))])
          refine own_go (fun t k => XS.icmpNo X175.here hx rfl (hb hby at_244) rfl (teq hg).2 k) ?_
          show Go _ _ _ _ _ T175 (mkF m 247 #[.val (.int p1), .val (.int p2), .val (.int p3), .val (.int p4), .val (.int p5), .val (.int cnt), .val (.int s1), .val (.int d1), .val (.int s2), .val (.int d2), .val (.int s3), .val (.int d3), .val (.int s4), .val (.int d4), .val (.ref b163), .val (.int (own_free ((((0 : Int32) + (own_in (0 : Int32) s1 d1)) + (own_in (0 : Int32) s2 d2)) + (own_in (0 : Int32) s3 d3)) ((((0 : Int32) + (own_in (1 : Int32) s1 d1)) + (own_in (1 : Int32) s2 d2)) + (own_in (1 : Int32) s3 d3)) ((((0 : Int32) + (own_in (2 : Int32) s1 d1)) + (own_in (2 : Int32) s2 d2)) + (own_in (2 : Int32) s3 d3)) ((((0 : Int32) + (own_in (3 : Int32) s1 d1)) + (own_in (3 : Int32) s2 d2)) + (own_in (3 : Int32) s3 d3)) cnt s4 d4)), .val (.int (0 : Int32))] [])
          refine own_go (fun t k => XS.iconst X175.here hx rfl (hb hby at_247) k) ?_
          show Go _ _ _ _ _ T175 (mkF m 248 #[.val (.int p1), .val (.int p2), .val (.int p3), .val (.int p4), .val (.int p5), .val (.int cnt), .val (.int s1), .val (.int d1), .val (.int s2), .val (.int d2), .val (.int s3), .val (.int d3), .val (.int s4), .val (.int d4), .val (.ref b163), .val (.int (own_free ((((0 : Int32) + (own_in (0 : Int32) s1 d1)) + (own_in (0 : Int32) s2 d2)) + (own_in (0 : Int32) s3 d3)) ((((0 : Int32) + (own_in (1 : Int32) s1 d1)) + (own_in (1 : Int32) s2 d2)) + (own_in (1 : Int32) s3 d3)) ((((0 : Int32) + (own_in (2 : Int32) s1 d1)) + (own_in (2 : Int32) s2 d2)) + (own_in (2 : Int32) s3 d3)) ((((0 : Int32) + (own_in (3 : Int32) s1 d1)) + (own_in (3 : Int32) s2 d2)) + (own_in (3 : Int32) s3 d3)) cnt s4 d4)), .val (.int (0 : Int32))] [(.int (1 : Int32))])
          refine own_go (fun t k => XS.goto X175.here hx rfl (pc0 := 248) (pc' := 252) rfl (hb hby at_248) (by decide) (by decide) k) ?_
          show Go _ _ _ _ _ T175 (mkF m 252 #[.val (.int p1), .val (.int p2), .val (.int p3), .val (.int p4), .val (.int p5), .val (.int cnt), .val (.int s1), .val (.int d1), .val (.int s2), .val (.int d2), .val (.int s3), .val (.int d3), .val (.int s4), .val (.int d4), .val (.ref b163), .val (.int (own_free ((((0 : Int32) + (own_in (0 : Int32) s1 d1)) + (own_in (0 : Int32) s2 d2)) + (own_in (0 : Int32) s3 d3)) ((((0 : Int32) + (own_in (1 : Int32) s1 d1)) + (own_in (1 : Int32) s2 d2)) + (own_in (1 : Int32) s3 d3)) ((((0 : Int32) + (own_in (2 : Int32) s1 d1)) + (own_in (2 : Int32) s2 d2)) + (own_in (2 : Int32) s3 d3)) ((((0 : Int32) + (own_in (3 : Int32) s1 d1)) + (own_in (3 : Int32) s2 d2)) + (own_in (3 : Int32) s3 d3)) cnt s4 d4)), .val (.int (0 : Int32))] [(.int (1 : Int32))])
          refine own_retN X175 hx (own_lvN X175 hlk (by decide) (by decide)) (t := .boolean) hret (by simp) (hb hby at_252) ?_
          exact ⟨rfl, N175⟩
        · skip
          show Go _ _ _ _ _ T175 (mkF m 233 #[.val (.int p1), .val (.int p2), .val (.int p3), .val (.int p4), .val (.int p5), .val (.int cnt), .val (.int s1), .val (.int d1), .val (.int s2), .val (.int d2), .val (.int s3), .val (.int d3), .val (.int s4), .val (.int d4), .val (.ref b163), .val (.int (own_free ((((0 : Int32) + (own_in (0 : Int32) s1 d1)) + (own_in (0 : Int32) s2 d2)) + (own_in (0 : Int32) s3 d3)) ((((0 : Int32) + (own_in (1 : Int32) s1 d1)) + (own_in (1 : Int32) s2 d2)) + (own_in (1 : Int32) s3 d3)) ((((0 : Int32) + (own_in (2 : Int32) s1 d1)) + (own_in (2 : Int32) s2 d2)) + (own_in (2 : Int32) s3 d3)) ((((0 : Int32) + (own_in (3 : Int32) s1 d1)) + (own_in (3 : Int32) s2 d2)) + (own_in (3 : Int32) s3 d3)) cnt s4 d4)), .unset] [])
          refine own_go (fun t k => XS.iconst X175.here hx rfl (hb hby at_233) k) ?_
          show Go _ _ _ _ _ T175 (mkF m 234 #[.val (.int p1), .val (.int p2), .val (.int p3), .val (.int p4), .val (.int p5), .val (.int cnt), .val (.int s1), .val (.int d1), .val (.int s2), .val (.int d2), .val (.int s3), .val (.int d3), .val (.int s4), .val (.int d4), .val (.ref b163), .val (.int (own_free ((((0 : Int32) + (own_in (0 : Int32) s1 d1)) + (own_in (0 : Int32) s2 d2)) + (own_in (0 : Int32) s3 d3)) ((((0 : Int32) + (own_in (1 : Int32) s1 d1)) + (own_in (1 : Int32) s2 d2)) + (own_in (1 : Int32) s3 d3)) ((((0 : Int32) + (own_in (2 : Int32) s1 d1)) + (own_in (2 : Int32) s2 d2)) + (own_in (2 : Int32) s3 d3)) ((((0 : Int32) + (own_in (3 : Int32) s1 d1)) + (own_in (3 : Int32) s2 d2)) + (own_in (3 : Int32) s3 d3)) cnt s4 d4)), .unset] [(.int (1 : Int32))])
          refine own_go (fun t k => XS.goto X175.here hx rfl (pc0 := 234) (pc' := 238) rfl (hb hby at_234) (by decide) (by decide) k) ?_
          show Go _ _ _ _ _ T175 (mkF m 238 #[.val (.int p1), .val (.int p2), .val (.int p3), .val (.int p4), .val (.int p5), .val (.int cnt), .val (.int s1), .val (.int d1), .val (.int s2), .val (.int d2), .val (.int s3), .val (.int d3), .val (.int s4), .val (.int d4), .val (.ref b163), .val (.int (own_free ((((0 : Int32) + (own_in (0 : Int32) s1 d1)) + (own_in (0 : Int32) s2 d2)) + (own_in (0 : Int32) s3 d3)) ((((0 : Int32) + (own_in (1 : Int32) s1 d1)) + (own_in (1 : Int32) s2 d2)) + (own_in (1 : Int32) s3 d3)) ((((0 : Int32) + (own_in (2 : Int32) s1 d1)) + (own_in (2 : Int32) s2 d2)) + (own_in (2 : Int32) s3 d3)) ((((0 : Int32) + (own_in (3 : Int32) s1 d1)) + (own_in (3 : Int32) s2 d2)) + (own_in (3 : Int32) s3 d3)) cnt s4 d4)), .unset] [(.int (1 : Int32))])
          refine own_go (fun t k => XS.istore X175.here hx rfl (hb hby at_238) rfl (l' := #[.val (.int p1), .val (.int p2), .val (.int p3), .val (.int p4), .val (.int p5), .val (.int cnt), .val (.int s1), .val (.int d1), .val (.int s2), .val (.int d2), .val (.int s3), .val (.int d3), .val (.int s4), .val (.int d4), .val (.ref b163), .val (.int (own_free ((((0 : Int32) + (own_in (0 : Int32) s1 d1)) + (own_in (0 : Int32) s2 d2)) + (own_in (0 : Int32) s3 d3)) ((((0 : Int32) + (own_in (1 : Int32) s1 d1)) + (own_in (1 : Int32) s2 d2)) + (own_in (1 : Int32) s3 d3)) ((((0 : Int32) + (own_in (2 : Int32) s1 d1)) + (own_in (2 : Int32) s2 d2)) + (own_in (2 : Int32) s3 d3)) ((((0 : Int32) + (own_in (3 : Int32) s1 d1)) + (own_in (3 : Int32) s2 d2)) + (own_in (3 : Int32) s3 d3)) cnt s4 d4)), .val (.int (1 : Int32))]) rfl k) ?_
          show Go _ _ _ _ _ T175 (mkF m 240 #[.val (.int p1), .val (.int p2), .val (.int p3), .val (.int p4), .val (.int p5), .val (.int cnt), .val (.int s1), .val (.int d1), .val (.int s2), .val (.int d2), .val (.int s3), .val (.int d3), .val (.int s4), .val (.int d4), .val (.ref b163), .val (.int (own_free ((((0 : Int32) + (own_in (0 : Int32) s1 d1)) + (own_in (0 : Int32) s2 d2)) + (own_in (0 : Int32) s3 d3)) ((((0 : Int32) + (own_in (1 : Int32) s1 d1)) + (own_in (1 : Int32) s2 d2)) + (own_in (1 : Int32) s3 d3)) ((((0 : Int32) + (own_in (2 : Int32) s1 d1)) + (own_in (2 : Int32) s2 d2)) + (own_in (2 : Int32) s3 d3)) ((((0 : Int32) + (own_in (3 : Int32) s1 d1)) + (own_in (3 : Int32) s2 d2)) + (own_in (3 : Int32) s3 d3)) cnt s4 d4)), .val (.int (1 : Int32))] [])
          refine own_go (fun t k => XS.iload X175.here hx rfl (hb hby at_240) rfl k) ?_
          show Go _ _ _ _ _ T175 (mkF m 242 #[.val (.int p1), .val (.int p2), .val (.int p3), .val (.int p4), .val (.int p5), .val (.int cnt), .val (.int s1), .val (.int d1), .val (.int s2), .val (.int d2), .val (.int s3), .val (.int d3), .val (.int s4), .val (.int d4), .val (.ref b163), .val (.int (own_free ((((0 : Int32) + (own_in (0 : Int32) s1 d1)) + (own_in (0 : Int32) s2 d2)) + (own_in (0 : Int32) s3 d3)) ((((0 : Int32) + (own_in (1 : Int32) s1 d1)) + (own_in (1 : Int32) s2 d2)) + (own_in (1 : Int32) s3 d3)) ((((0 : Int32) + (own_in (2 : Int32) s1 d1)) + (own_in (2 : Int32) s2 d2)) + (own_in (2 : Int32) s3 d3)) ((((0 : Int32) + (own_in (3 : Int32) s1 d1)) + (own_in (3 : Int32) s2 d2)) + (own_in (3 : Int32) s3 d3)) cnt s4 d4)), .val (.int (1 : Int32))] [(.int (own_free ((((0 : Int32) + (own_in (0 : Int32) s1 d1)) + (own_in (0 : Int32) s2 d2)) + (own_in (0 : Int32) s3 d3)) ((((0 : Int32) + (own_in (1 : Int32) s1 d1)) + (own_in (1 : Int32) s2 d2)) + (own_in (1 : Int32) s3 d3)) ((((0 : Int32) + (own_in (2 : Int32) s1 d1)) + (own_in (2 : Int32) s2 d2)) + (own_in (2 : Int32) s3 d3)) ((((0 : Int32) + (own_in (3 : Int32) s1 d1)) + (own_in (3 : Int32) s2 d2)) + (own_in (3 : Int32) s3 d3)) cnt s4 d4))])
          refine own_go (fun t k => XS.iload X175.here hx rfl (hb hby at_242) rfl k) ?_
          have hg := own_fin1 cnt s1 d1 s2 d2 s3 d3 s4 d4 hc170 hc172 hc174 hc176
          show Go _ _ _ _ _ T175 (mkF m 244 #[.val (.int p1), .val (.int p2), .val (.int p3), .val (.int p4), .val (.int p5), .val (.int cnt), .val (.int s1), .val (.int d1), .val (.int s2), .val (.int d2), .val (.int s3), .val (.int d3), .val (.int s4), .val (.int d4), .val (.ref b163), .val (.int (own_free ((((0 : Int32) + (own_in (0 : Int32) s1 d1)) + (own_in (0 : Int32) s2 d2)) + (own_in (0 : Int32) s3 d3)) ((((0 : Int32) + (own_in (1 : Int32) s1 d1)) + (own_in (1 : Int32) s2 d2)) + (own_in (1 : Int32) s3 d3)) ((((0 : Int32) + (own_in (2 : Int32) s1 d1)) + (own_in (2 : Int32) s2 d2)) + (own_in (2 : Int32) s3 d3)) ((((0 : Int32) + (own_in (3 : Int32) s1 d1)) + (own_in (3 : Int32) s2 d2)) + (own_in (3 : Int32) s3 d3)) cnt s4 d4)), .val (.int (1 : Int32))] [(.int (1 : Int32)), (.int (own_free ((((0 : Int32) + (own_in (0 : Int32) s1 d1)) + (own_in (0 : Int32) s2 d2)) + (own_in (0 : Int32) s3 d3)) ((((0 : Int32) + (own_in (1 : Int32) s1 d1)) + (own_in (1 : Int32) s2 d2)) + (own_in (1 : Int32) s3 d3)) ((((0 : Int32) + (own_in (2 : Int32) s1 d1)) + (own_in (2 : Int32) s2 d2)) + (own_in (2 : Int32) s3 d3)) ((((0 : Int32) + (own_in (3 : Int32) s1 d1)) + (own_in (3 : Int32) s2 d2)) + (own_in (3 : Int32) s3 d3)) cnt s4 d4))])
          refine own_go (fun t k => XS.icmpNo X175.here hx rfl (hb hby at_244) rfl (teq hg).2 k) ?_
          show Go _ _ _ _ _ T175 (mkF m 247 #[.val (.int p1), .val (.int p2), .val (.int p3), .val (.int p4), .val (.int p5), .val (.int cnt), .val (.int s1), .val (.int d1), .val (.int s2), .val (.int d2), .val (.int s3), .val (.int d3), .val (.int s4), .val (.int d4), .val (.ref b163), .val (.int (own_free ((((0 : Int32) + (own_in (0 : Int32) s1 d1)) + (own_in (0 : Int32) s2 d2)) + (own_in (0 : Int32) s3 d3)) ((((0 : Int32) + (own_in (1 : Int32) s1 d1)) + (own_in (1 : Int32) s2 d2)) + (own_in (1 : Int32) s3 d3)) ((((0 : Int32) + (own_in (2 : Int32) s1 d1)) + (own_in (2 : Int32) s2 d2)) + (own_in (2 : Int32) s3 d3)) ((((0 : Int32) + (own_in (3 : Int32) s1 d1)) + (own_in (3 : Int32) s2 d2)) + (own_in (3 : Int32) s3 d3)) cnt s4 d4)), .val (.int (1 : Int32))] [])
          refine own_go (fun t k => XS.iconst X175.here hx rfl (hb hby at_247) k) ?_
          show Go _ _ _ _ _ T175 (mkF m 248 #[.val (.int p1), .val (.int p2), .val (.int p3), .val (.int p4), .val (.int p5), .val (.int cnt), .val (.int s1), .val (.int d1), .val (.int s2), .val (.int d2), .val (.int s3), .val (.int d3), .val (.int s4), .val (.int d4), .val (.ref b163), .val (.int (own_free ((((0 : Int32) + (own_in (0 : Int32) s1 d1)) + (own_in (0 : Int32) s2 d2)) + (own_in (0 : Int32) s3 d3)) ((((0 : Int32) + (own_in (1 : Int32) s1 d1)) + (own_in (1 : Int32) s2 d2)) + (own_in (1 : Int32) s3 d3)) ((((0 : Int32) + (own_in (2 : Int32) s1 d1)) + (own_in (2 : Int32) s2 d2)) + (own_in (2 : Int32) s3 d3)) ((((0 : Int32) + (own_in (3 : Int32) s1 d1)) + (own_in (3 : Int32) s2 d2)) + (own_in (3 : Int32) s3 d3)) cnt s4 d4)), .val (.int (1 : Int32))] [(.int (1 : Int32))])
          refine own_go (fun t k => XS.goto X175.here hx rfl (pc0 := 248) (pc' := 252) rfl (hb hby at_248) (by decide) (by decide) k) ?_
          show Go _ _ _ _ _ T175 (mkF m 252 #[.val (.int p1), .val (.int p2), .val (.int p3), .val (.int p4), .val (.int p5), .val (.int cnt), .val (.int s1), .val (.int d1), .val (.int s2), .val (.int d2), .val (.int s3), .val (.int d3), .val (.int s4), .val (.int d4), .val (.ref b163), .val (.int (own_free ((((0 : Int32) + (own_in (0 : Int32) s1 d1)) + (own_in (0 : Int32) s2 d2)) + (own_in (0 : Int32) s3 d3)) ((((0 : Int32) + (own_in (1 : Int32) s1 d1)) + (own_in (1 : Int32) s2 d2)) + (own_in (1 : Int32) s3 d3)) ((((0 : Int32) + (own_in (2 : Int32) s1 d1)) + (own_in (2 : Int32) s2 d2)) + (own_in (2 : Int32) s3 d3)) ((((0 : Int32) + (own_in (3 : Int32) s1 d1)) + (own_in (3 : Int32) s2 d2)) + (own_in (3 : Int32) s3 d3)) cnt s4 d4)), .val (.int (1 : Int32))] [(.int (1 : Int32))])
          refine own_retN X175 hx (own_lvN X175 hlk (by decide) (by decide)) (t := .boolean) hret (by simp) (hb hby at_252) ?_
          exact ⟨rfl, N175⟩
set_option maxRecDepth 65536 in
set_option maxHeartbeats 40000000 in
theorem comes_1 {Post : Tables → Env → Array Value → State → Outcome → State → Prop} (hpost : ∀ tb e args s v u, (limb_1_1.after args s (.returned v) u = true ∧ limb_1_2.after args s (.returned v) u = true ∧ True) → FrameEnd s (.returned v) u (Jvm.fieldLocs frame_1_writes args s ++ Jvm.arrayLocs frame_1_arrays args s ++ Jvm.staticLocs frame_1_statics s) 16 128 → Post tb e args s (.returned v) u) :
    ArmFor flags0 classFile x code maxLocals ret World_1 tables_1 room_1 Calls_1 rest_1 Pre_1 Post := by
  intro l hfl _ _ p e ha hc hk s m args below hf hA hF happ hP
  obtain ⟨hcalls, hrest, hpre⟩ := hP
  obtain ⟨-, -, -, hnamed, -, -, -, hat⟩ := (Spec.applies_iff hf).mp happ
  obtain ⟨hg, hn⟩ := and_e (Cond.before_iff.mp (show (Jvm.Cond.and given_1 narrow_1).before args s = true from hpre))
  obtain ⟨g1, g2⟩ := and_e hg
  obtain ⟨g3, g4⟩ := and_e g2
  obtain ⟨g5, g6⟩ := and_e g4
  obtain ⟨g7, g8⟩ := and_e g6
  obtain ⟨g9, g10⟩ := and_e g8
  obtain ⟨w0, w1, w2, w3, w4, rfl⟩ : ∃ w0 w1 w2 w3 w4 : Value, args = #[w0, w1, w2, w3, w4] := by
    have hs : args.size = 5 := by simpa [Cond.value, given_1] using g1
    obtain ⟨L⟩ := args
    match L, hs with
    | [w0, w1, w2, w3, w4], _ => exact ⟨w0, w1, w2, w3, w4, rfl⟩
  have hw := fun d (hd : d ∈ tables_1) => atoms_spec (ws := Jvm.Cond.code x code maxLocals ret :: tables_1) hat d (List.mem_cons_of_mem _ hd)
  obtain ⟨i0, ei0⟩ := is_v g3
  obtain rfl : w0 = (.int i0) := Option.some.inj ei0
  obtain ⟨i1, ei1⟩ := is_v g5
  obtain rfl : w1 = (.int i1) := Option.some.inj ei1
  obtain ⟨i2, ei2⟩ := is_v g7
  obtain rfl : w2 = (.int i2) := Option.some.inj ei2
  obtain ⟨i3, ei3⟩ := is_v g9
  obtain rfl : w3 = (.int i3) := Option.some.inj ei3
  obtain ⟨i4, ei4⟩ := is_v g10
  obtain rfl : w4 = (.int i4) := Option.some.inj ei4
  obtain ⟨n, o, h1, h2, h3, _, L, rfl, ⟨rfl, N⟩, hq⟩ := rm0 l s _ hw tables_1 i0 i1 i2 i3 i4   s.heap s.heap.size (Nat.le_refl _)   p e ha hc hk s m _ below hf ((Spec.applies_iff_loose hf).mp happ).1 ⟨rfl, State.Warmed39.refl s, rfl⟩ trivial
  refine ⟨n, _, h1, h2, h3, hpost _ _ _ _ _ _ ⟨Cond.after_iff.mpr rfl, Cond.after_iff.mpr (eq_i res_at (Term.int_eval (1)) rfl), trivial⟩ ⟨hq.1, hq.2.1, (hq.2.2.sift fun y hy => Or.inr (N y hy)).mono (by decide) (by decide)⟩⟩
theorem main_1_1 : Claimed_1_1 := comes_1 fun _ _ _ _ _ _ h hF => ⟨h.1, hF⟩
theorem main_1_2 : Claimed_1_2 := comes_1 fun _ _ _ _ _ _ h hF => ⟨h.2.1, hF⟩
end Jvm.Pilot.@@N@@
namespace Jvm.Pilot.@@N@@
open Jvm Jvm.ClassFile Sem Op Lib Jvm.Free Jvm.Stand Jvm.Pilot.@@N@@.Jvm.D
/-! MADE BY PROGRAM (witnessworld.py) out of the Statement's table words and the real class files: 11 classes; the members and pool entries that the words name. The judged class is class 1, her method 1. -/
namespace start1
open Jvm.ClassFile
def u (s : String) : CpInfo := .utf8 (stringToUtf16 s)
/-- a pool by its gaps: so many unusable entries, then the entry; so many at the end -/
def gap : Nat → List CpInfo → List CpInfo
  | 0, r => r
  | n + 1, r => .unusable :: gap n r
def poolList (es : List (Nat × CpInfo)) (last : Nat) : List CpInfo := es.foldr (fun e r => gap e.1 (e.2 :: r)) (gap last [])
def pool (es : List (Nat × CpInfo)) (last : Nat) : Array CpInfo := ⟨poolList es last⟩
def fileOf (pool : Array CpInfo) (this : Nat) (attrs : Array Attribute := #[]) (ms : Array MethodInfo := #[]) (fl : Nat := 33) (sup : Nat := 0) (ifs : Array Nat := #[]) (fds : Array FieldInfo := #[]) : ClassFile where
  minorVersion := 0
  majorVersion := 65
  constantPool := pool
  accessFlags := fl
  thisClass := this
  superClass := sup
  interfaces := ifs
  fields := fds
  methods := ms
  attributes := attrs
def plain (name : String) (sup : Option ClassId) : Class where
  name := name
  kind := .ordinary
  loader := none
  accessFlags := 33
  super := sup
  interfaces := #[]
  cf := none
  fields := #[]
  methods := #[]
  instanceTypes := #[]
  staticTypes := #[]
  resolved := #[]
  callSites := []
  init := .initialized
  statics := none
  mirror := none

def pool0 : Array CpInfo := pool [(5, u "<init>"), (0, u "()V"), (1, .class_ 10), (1, u "java/lang/Object")] 113

def k0c0 : Code := { maxStack := 0, maxLocals := 1, code := object_method_1_code, exceptionTable := #[], attributes := #[] }
def k0m0 : Method := { name := "<init>", desc := "()V", sig := { parameters := [], returnType := none }, accessFlags := 1, code := some k0c0 }
/-- java/lang/Object -/
def k0 : Class := { plain "java/lang/Object" none with
  accessFlags := 33
  interfaces := #[]
  cf := some (fileOf pool0 8 #[] #[{ accessFlags := 1, nameIndex := 5, descriptorIndex := 6, attributes := #[] }] 33 0 #[] #[])
  fields := #[]
  methods := #[k0m0]
  instanceTypes := #[]
  staticTypes := #[]
  resolved := Array.replicate 124 none
  statics := none }

def pool1 : Array CpInfo := pool [(2, .class_ 4), (1, u "java/lang/Object"), (0, u "<init>"), (0, u "()V"), (0, .class_ 8), (0, u "com/example/trailworks/trailworks/works/Crews"), (0, .methodref 7 10), (0, .nameAndType 5 11), (0, u "(II)V"), (0, .methodref 7 13), (0, .nameAndType 14 11), (0, u "take"), (0, .methodref 7 16), (0, .nameAndType 17 18), (0, u "free"), (0, u "(II)Z"), (0, .methodref 20 21), (0, .class_ 22), (0, .nameAndType 23 24), (0, u "com/example/trailworks/trailworks/works/CrewsFreePinLaw"), (0, u "ok"), (0, u "(IIIIIIIIII)Z"), (0, .methodref 20 26), (0, .nameAndType 27 28), (0, u "in"), (0, u "(III)I"), (2, u "law"), (0, u "(IIIII)Z")] 3

def k1m0 : Method := { name := "<init>", desc := "()V", sig := { parameters := [], returnType := none }, accessFlags := 1, code := none }
def k1c1 : Code := { maxStack := 10, maxLocals := 17, code := code, exceptionTable := #[], attributes := #[] }
def k1m1 : Method := { name := "law", desc := "(IIIII)Z", sig := { parameters := [.int, .int, .int, .int, .int], returnType := some .boolean }, accessFlags := 9, code := some k1c1 }
def k1c2 : Code := { maxStack := 3, maxLocals := 3, code := method_3_code, exceptionTable := #[], attributes := #[] }
def k1m2 : Method := { name := "in", desc := "(III)I", sig := { parameters := [.int, .int, .int], returnType := some .int }, accessFlags := 10, code := some k1c2 }
def k1c3 : Code := { maxStack := 4, maxLocals := 11, code := method_4_code, exceptionTable := #[], attributes := #[] }
def k1m3 : Method := { name := "ok", desc := "(IIIIIIIIII)Z", sig := { parameters := [.int, .int, .int, .int, .int, .int, .int, .int, .int, .int], returnType := some .boolean }, accessFlags := 10, code := some k1c3 }
/-- com/example/trailworks/trailworks/works/CrewsFreePinLaw -/
def k1 : Class := { plain "com/example/trailworks/trailworks/works/CrewsFreePinLaw" (some 0) with
  accessFlags := 49
  interfaces := #[]
  cf := some (fileOf pool1 20 #[] #[{ accessFlags := 1, nameIndex := 5, descriptorIndex := 6, attributes := #[] }, { accessFlags := 9, nameIndex := 31, descriptorIndex := 32, attributes := #[] }, { accessFlags := 10, nameIndex := 27, descriptorIndex := 28, attributes := #[] }, { accessFlags := 10, nameIndex := 23, descriptorIndex := 24, attributes := #[] }] 49 2 #[] #[])
  fields := #[]
  methods := #[k1m0, k1m1, k1m2, k1m3]
  instanceTypes := #[]
  staticTypes := #[]
  resolved := Array.replicate 36 none
  statics := none }

def pool2 : Array CpInfo := pool [(1, .methodref 2 3), (0, .class_ 4), (0, .nameAndType 5 6), (0, u "java/lang/Object"), (0, u "<init>"), (0, u "()V"), (0, .methodref 8 9), (0, .class_ 10), (0, .nameAndType 11 12), (0, u "com/example/trailworks/trailworks/works/Work"), (0, u "checkHorizon"), (0, u "(I)V"), (0, .methodref 14 15), (0, .class_ 16), (0, .nameAndType 17 12), (0, u "com/example/trailworks/trailworks/works/Crews"), (0, u "check"), (0, .fieldref 14 19), (0, .nameAndType 20 21), (0, u "m_count"), (0, u "I"), (0, .fieldref 14 23), (0, .nameAndType 24 25), (0, u "m_taken"), (0, u "[I"), (40, u "(II)V"), (6, u "free"), (0, u "(II)Z"), (3, u "take")] 20

def k2c0 : Code := { maxStack := 2, maxLocals := 3, code := prog_52_method_1_code, exceptionTable := #[], attributes := #[] }
def k2m0 : Method := { name := "<init>", desc := "(II)V", sig := { parameters := [.int, .int], returnType := none }, accessFlags := 1, code := some k2c0 }
def k2c1 : Code := { maxStack := 3, maxLocals := 1, code := prog_52_method_2_code, exceptionTable := #[], attributes := #[] }
def k2m1 : Method := { name := "check", desc := "(I)V", sig := { parameters := [.int], returnType := none }, accessFlags := 9, code := some k2c1 }
def k2c2 : Code := { maxStack := 3, maxLocals := 5, code := prog_52_method_4_code, exceptionTable := #[], attributes := #[] }
def k2m2 : Method := { name := "free", desc := "(II)Z", sig := { parameters := [.int, .int], returnType := some .boolean }, accessFlags := 1, code := some k2c2 }
def k2c3 : Code := { maxStack := 4, maxLocals := 4, code := prog_52_method_8_code, exceptionTable := #[], attributes := #[] }
def k2m3 : Method := { name := "take", desc := "(II)V", sig := { parameters := [.int, .int], returnType := none }, accessFlags := 1, code := some k2c3 }
/-- com/example/trailworks/trailworks/works/Crews -/
def k2 : Class := { plain "com/example/trailworks/trailworks/works/Crews" (some 0) with
  accessFlags := 49
  interfaces := #[]
  cf := some (fileOf pool2 14 #[] #[{ accessFlags := 1, nameIndex := 5, descriptorIndex := 66, attributes := #[] }, { accessFlags := 9, nameIndex := 17, descriptorIndex := 12, attributes := #[] }, { accessFlags := 1, nameIndex := 73, descriptorIndex := 74, attributes := #[] }, { accessFlags := 1, nameIndex := 78, descriptorIndex := 66, attributes := #[] }] 49 2 #[] #[{ accessFlags := 18, nameIndex := 20, descriptorIndex := 21, attributes := #[] }, { accessFlags := 18, nameIndex := 24, descriptorIndex := 25, attributes := #[] }])
  fields := #[{ name := "m_count", type := .int, accessFlags := 18, slot := 0, constantValue := 0 }, { name := "m_taken", type := (.array .int), accessFlags := 18, slot := 1, constantValue := 0 }]
  methods := #[k2m0, k2m1, k2m2, k2m3]
  instanceTypes := #[.int, (.array .int)]
  staticTypes := #[]
  resolved := Array.replicate 99 none
  statics := none }

def pool3 : Array CpInfo := pool [(2, .class_ 4), (1, u "java/lang/Object"), (0, u "<init>"), (0, u "()V"), (0, .class_ 8), (0, u "java/lang/Record")] 13

def k3m0 : Method := { name := "<init>", desc := "()V", sig := { parameters := [], returnType := none }, accessFlags := 4, code := none }
/-- java/lang/Record -/
def k3 : Class := { plain "java/lang/Record" (some 0) with
  accessFlags := 1057
  interfaces := #[]
  cf := some (fileOf pool3 7 #[] #[{ accessFlags := 4, nameIndex := 5, descriptorIndex := 6, attributes := #[] }] 1057 2 #[] #[])
  fields := #[]
  methods := #[k3m0]
  instanceTypes := #[]
  staticTypes := #[]
  resolved := Array.replicate 22 none
  statics := none }

def pool4 : Array CpInfo := pool [(2, .class_ 4), (1, u "java/lang/Record"), (62, .class_ 69), (1, u "com/example/trailworks/trailworks/works/Work"), (0, u "id"), (0, u "Ljava/lang/String;"), (2, u "links"), (0, u "Ljava/util/List;"), (2, u "reduction"), (0, u "D"), (2, u "duration"), (0, u "I"), (2, u "earliestStart"), (2, u "latestFinish"), (32, u "checkHorizon"), (0, u "(I)V")] 114

def k4c0 : Code := { maxStack := 3, maxLocals := 1, code := prog_57_method_5_code, exceptionTable := #[], attributes := #[] }
def k4m0 : Method := { name := "checkHorizon", desc := "(I)V", sig := { parameters := [.int], returnType := none }, accessFlags := 9, code := some k4c0 }
/-- com/example/trailworks/trailworks/works/Work -/
def k4 : Class := { plain "com/example/trailworks/trailworks/works/Work" (some 3) with
  accessFlags := 49
  interfaces := #[]
  cf := some (fileOf pool4 67 #[] #[{ accessFlags := 9, nameIndex := 122, descriptorIndex := 123, attributes := #[] }] 49 2 #[] #[{ accessFlags := 18, nameIndex := 70, descriptorIndex := 71, attributes := #[] }, { accessFlags := 18, nameIndex := 74, descriptorIndex := 75, attributes := #[] }, { accessFlags := 18, nameIndex := 78, descriptorIndex := 79, attributes := #[] }, { accessFlags := 18, nameIndex := 82, descriptorIndex := 83, attributes := #[] }, { accessFlags := 18, nameIndex := 86, descriptorIndex := 83, attributes := #[] }, { accessFlags := 18, nameIndex := 89, descriptorIndex := 83, attributes := #[] }])
  fields := #[{ name := "id", type := (.object "java/lang/String"), accessFlags := 18, slot := 0, constantValue := 0 }, { name := "links", type := (.object "java/util/List"), accessFlags := 18, slot := 1, constantValue := 0 }, { name := "reduction", type := .double, accessFlags := 18, slot := 2, constantValue := 0 }, { name := "duration", type := .int, accessFlags := 18, slot := 3, constantValue := 0 }, { name := "earliestStart", type := .int, accessFlags := 18, slot := 4, constantValue := 0 }, { name := "latestFinish", type := .int, accessFlags := 18, slot := 5, constantValue := 0 }]
  methods := #[k4m0]
  instanceTypes := #[(.object "java/lang/String"), (.object "java/util/List"), .double, .int, .int, .int]
  staticTypes := #[]
  resolved := Array.replicate 238 none
  statics := none }

def pool5 : Array CpInfo := pool [(1, u "java/lang/Cloneable"), (0, .class_ 1), (0, u "java/lang/Object"), (0, .class_ 3)] 3

/-- java/lang/Cloneable -/
def k5 : Class := { plain "java/lang/Cloneable" (some 0) with
  accessFlags := 1537
  interfaces := #[]
  cf := some (fileOf pool5 2 #[] #[] 1537 4 #[] #[])
  fields := #[]
  methods := #[]
  instanceTypes := #[]
  staticTypes := #[]
  resolved := Array.replicate 8 none
  statics := none }

def pool6 : Array CpInfo := pool [(1, u "java/io/Serializable"), (0, .class_ 1), (0, u "java/lang/Object"), (0, .class_ 3)] 3

/-- java/io/Serializable -/
def k6 : Class := { plain "java/io/Serializable" (some 0) with
  accessFlags := 1537
  interfaces := #[]
  cf := some (fileOf pool6 2 #[] #[] 1537 4 #[] #[])
  fields := #[]
  methods := #[]
  instanceTypes := #[]
  staticTypes := #[]
  resolved := Array.replicate 8 none
  statics := none }

/-- the primitive byte -/
def k7 : Class := { plain "byte" none with kind := .primitive 'B', accessFlags := 0x411 }
/-- [B -/
def k8 : Class := { plain "[B" (some 0) with kind := .array 7 .byte, interfaces := #[5, 6], accessFlags := 1041 }

/-- the primitive int -/
def k9 : Class := { plain "int" none with kind := .primitive 'I', accessFlags := 0x411 }
/-- [I -/
def k10 : Class := { plain "[I" (some 0) with kind := .array 9 .int, interfaces := #[5, 6], accessFlags := 1041 }

def heap : Heap := #[]
def classes : Array Class := #[k0, k1, k2, k3, k4, k5, k6, k7, k8, k9, k10]
def interned : List (Array UInt16 × Addr) := []
def slotsUsed : Nat := 0
def theMethod : MethodId := ⟨1, 1⟩
def args0 : Array Value := #[.int 5, .int 3, .int 7, .int 2, .int 1]
def aboutOver (below : List Frame) : State where
  vm := { classes := classes, interned := interned.toArray }
  heap := heap
  slotsUsed := slotsUsed
  threads := #[{ frames := .invoking theMethod args0 :: below }]
def below0 : List Frame := [.native { method := ⟨0, 0⟩, args := #[] }]
def about1 : State := aboutOver below0
def p0 : Program := .bare "" "" ""
def e0 : Env := launch0.env 0 0 0
theorem w_frames : about1.frames = Frame.invoking theMethod args0 :: below0 := rfl
set_option maxRecDepth 65536 in
theorem w_args : argsFit about1.vm theMethod args0 = true := by decide +kernel
set_option maxRecDepth 65536 in
theorem w_heap : heapFits about1 = true := by decide +kernel
set_option maxRecDepth 65536 in
theorem w_runnable : about1.curStatus? = some .runnable := by decide +kernel
set_option maxRecDepth 65536 in
theorem w_alone : about1.alone = true := by decide +kernel
set_option maxRecDepth 65536 in
theorem w_named : about1.methodNamed? x = some theMethod := by decide +kernel
set_option maxRecDepth 65536 in
theorem w_hears : about1.hears theMethod below0 = true := by decide +kernel
set_option maxRecDepth 65536 in
theorem w_ripe : about1.ripe theMethod args0 below0 = true := by decide +kernel
theorem w_running : about1.status = .running := rfl
set_option maxRecDepth 65536 in
theorem w_room : about1.hasRoom e0.platform room_1 = true :=
  launch0.hasRoom_least _ room_1 (by decide +kernel) (by decide +kernel) (by decide +kernel) (by decide +kernel) (by decide +kernel) (by decide +kernel)
theorem allAtoms_all (ts : List Jvm.Cond) (a : Array Jvm.Value) (st : Jvm.State) : (allAtoms ts).before a st = ts.all (fun c => c.before a st) := by
  induction ts with
  | nil => rfl
  | cons c t ih =>
    show (Jvm.Cond.and c (allAtoms t)).before a st = _
    rw [Jvm.Cond.before_and, ih, List.all_cons]
def words1 : List Jvm.Cond := Jvm.Cond.code x code maxLocals ret :: tables_1
/-- a 'code' word, met by the world's own term for the bytes: nothing is compared byte by byte -/
theorem code_word {y : MethodName} {bytes : ByteArray} {mx : Nat} {rt : Option FieldType} {a : Array Value} {s : State} {m : MethodId} {meth : Method} {c : Code} (h1 : s.methodNamed? y = some m) (h2 : s.vm.method? m = some meth) (h3 : meth.code = some c) (h4 : c.code = bytes)
    (h5 : (c.maxLocals == mx && c.exceptionTable.isEmpty && decide (c.maxStack ≤ mostOperands) && decide (meth.sig.returnType = rt) && !meth.locks && decide (parseMethodDescriptor y.desc = some meth.sig)) = true) : (Jvm.Cond.code y bytes mx rt).before a s = true := by
  simp only [Bool.and_eq_true, beq_iff_eq, Bool.not_eq_true', decide_eq_true_eq] at h5
  obtain ⟨⟨⟨⟨⟨g1, g2⟩, g3⟩, g4⟩, g5⟩, g6⟩ := h5
  simp [Cond.before, Cond.holds, Cond.value, h1, h2, h3, h4, g1, g2, g3, g4, g5, g6]
def isCode : Jvm.Cond → Bool
  | .code _ _ _ _ => true
  | _ => false
theorem all_split {L : List Jvm.Cond} {P : Jvm.Cond → Bool} (h1 : L.all (fun c => isCode c || P c) = true) (h2 : ∀ c ∈ L.filter isCode, P c = true) : L.all P = true := by
  refine List.all_eq_true.mpr fun c hc => ?_
  have h := List.all_eq_true.mp h1 c hc
  rcases Bool.eq_false_or_eq_true (isCode c) with hi | hi
  · exact h2 c (List.mem_filter.mpr ⟨hc, hi⟩)
  · simpa [hi] using h
set_option maxRecDepth 65536 in
theorem w_c0 : (Jvm.Cond.code x code maxLocals ret).before args0 about1 = true := code_word (m := ⟨1, 1⟩) (meth := k1m1) (c := k1c1) (by decide +kernel) rfl rfl rfl (by decide +kernel)
set_option maxRecDepth 65536 in
theorem w_c1 : (Jvm.Cond.code ({ cls := "com/example/trailworks/trailworks/works/Crews", name := "<init>", desc := "(II)V" } : Jvm.MethodName) prog_52_method_1_code (3 : Nat) (Option.none : Option Jvm.ClassFile.FieldType)).before args0 about1 = true := code_word (m := ⟨2, 0⟩) (meth := k2m0) (c := k2c0) (by decide +kernel) rfl rfl rfl (by decide +kernel)
set_option maxRecDepth 65536 in
theorem w_c2 : (Jvm.Cond.code ({ cls := "java/lang/Object", name := "<init>", desc := "()V" } : Jvm.MethodName) object_method_1_code (1 : Nat) (Option.none : Option Jvm.ClassFile.FieldType)).before args0 about1 = true := code_word (m := ⟨0, 0⟩) (meth := k0m0) (c := k0c0) (by decide +kernel) rfl rfl rfl (by decide +kernel)
set_option maxRecDepth 65536 in
theorem w_c3 : (Jvm.Cond.code ({ cls := "com/example/trailworks/trailworks/works/Work", name := "checkHorizon", desc := "(I)V" } : Jvm.MethodName) prog_57_method_5_code (1 : Nat) (Option.none : Option Jvm.ClassFile.FieldType)).before args0 about1 = true := code_word (m := ⟨4, 0⟩) (meth := k4m0) (c := k4c0) (by decide +kernel) rfl rfl rfl (by decide +kernel)
set_option maxRecDepth 65536 in
theorem w_c4 : (Jvm.Cond.code ({ cls := "com/example/trailworks/trailworks/works/Crews", name := "check", desc := "(I)V" } : Jvm.MethodName) prog_52_method_2_code (1 : Nat) (Option.none : Option Jvm.ClassFile.FieldType)).before args0 about1 = true := code_word (m := ⟨2, 1⟩) (meth := k2m1) (c := k2c1) (by decide +kernel) rfl rfl rfl (by decide +kernel)
set_option maxRecDepth 65536 in
theorem w_c5 : (Jvm.Cond.code ({ cls := "com/example/trailworks/trailworks/works/Crews", name := "take", desc := "(II)V" } : Jvm.MethodName) prog_52_method_8_code (4 : Nat) (Option.none : Option Jvm.ClassFile.FieldType)).before args0 about1 = true := code_word (m := ⟨2, 3⟩) (meth := k2m3) (c := k2c3) (by decide +kernel) rfl rfl rfl (by decide +kernel)
set_option maxRecDepth 65536 in
theorem w_c6 : (Jvm.Cond.code ({ cls := "com/example/trailworks/trailworks/works/Crews", name := "free", desc := "(II)Z" } : Jvm.MethodName) prog_52_method_4_code (5 : Nat) (Option.some Jvm.ClassFile.FieldType.boolean)).before args0 about1 = true := code_word (m := ⟨2, 2⟩) (meth := k2m2) (c := k2c2) (by decide +kernel) rfl rfl rfl (by decide +kernel)
set_option maxRecDepth 65536 in
theorem w_c7 : (Jvm.Cond.code ({ cls := "com/example/trailworks/trailworks/works/CrewsFreePinLaw", name := "ok", desc := "(IIIIIIIIII)Z" } : Jvm.MethodName) method_4_code (11 : Nat) (Option.some Jvm.ClassFile.FieldType.boolean)).before args0 about1 = true := code_word (m := ⟨1, 3⟩) (meth := k1m3) (c := k1c3) (by decide +kernel) rfl rfl rfl (by decide +kernel)
set_option maxRecDepth 65536 in
theorem w_c8 : (Jvm.Cond.code ({ cls := "com/example/trailworks/trailworks/works/CrewsFreePinLaw", name := "in", desc := "(III)I" } : Jvm.MethodName) method_3_code (3 : Nat) (Option.some Jvm.ClassFile.FieldType.int)).before args0 about1 = true := code_word (m := ⟨1, 2⟩) (meth := k1m2) (c := k1c2) (by decide +kernel) rfl rfl rfl (by decide +kernel)
def codes1 : List Jvm.Cond := [Jvm.Cond.code x code maxLocals ret, Jvm.Cond.code ({ cls := "com/example/trailworks/trailworks/works/Crews", name := "<init>", desc := "(II)V" } : Jvm.MethodName) prog_52_method_1_code (3 : Nat) (Option.none : Option Jvm.ClassFile.FieldType), Jvm.Cond.code ({ cls := "java/lang/Object", name := "<init>", desc := "()V" } : Jvm.MethodName) object_method_1_code (1 : Nat) (Option.none : Option Jvm.ClassFile.FieldType), Jvm.Cond.code ({ cls := "com/example/trailworks/trailworks/works/Work", name := "checkHorizon", desc := "(I)V" } : Jvm.MethodName) prog_57_method_5_code (1 : Nat) (Option.none : Option Jvm.ClassFile.FieldType), Jvm.Cond.code ({ cls := "com/example/trailworks/trailworks/works/Crews", name := "check", desc := "(I)V" } : Jvm.MethodName) prog_52_method_2_code (1 : Nat) (Option.none : Option Jvm.ClassFile.FieldType), Jvm.Cond.code ({ cls := "com/example/trailworks/trailworks/works/Crews", name := "take", desc := "(II)V" } : Jvm.MethodName) prog_52_method_8_code (4 : Nat) (Option.none : Option Jvm.ClassFile.FieldType), Jvm.Cond.code ({ cls := "com/example/trailworks/trailworks/works/Crews", name := "free", desc := "(II)Z" } : Jvm.MethodName) prog_52_method_4_code (5 : Nat) (Option.some Jvm.ClassFile.FieldType.boolean), Jvm.Cond.code ({ cls := "com/example/trailworks/trailworks/works/CrewsFreePinLaw", name := "ok", desc := "(IIIIIIIIII)Z" } : Jvm.MethodName) method_4_code (11 : Nat) (Option.some Jvm.ClassFile.FieldType.boolean), Jvm.Cond.code ({ cls := "com/example/trailworks/trailworks/works/CrewsFreePinLaw", name := "in", desc := "(III)I" } : Jvm.MethodName) method_3_code (3 : Nat) (Option.some Jvm.ClassFile.FieldType.int)]
set_option maxRecDepth 65536 in
theorem codes_eq : words1.filter isCode = codes1 := rfl
theorem w_codes : ∀ c ∈ words1.filter isCode, c.before args0 about1 = true := by
  rw [codes_eq]
  intro c hc
  simp only [codes1, List.mem_cons, List.not_mem_nil, or_false] at hc
  rcases hc with rfl | rfl | rfl | rfl | rfl | rfl | rfl | rfl | rfl
  · exact w_c0
  · exact w_c1
  · exact w_c2
  · exact w_c3
  · exact w_c4
  · exact w_c5
  · exact w_c6
  · exact w_c7
  · exact w_c8
set_option maxRecDepth 65536 in
theorem w_t1 : (words1.take 24).all (fun c => isCode c || c.before args0 about1) = true := by decide +kernel
set_option maxRecDepth 65536 in
theorem w_t2 : (words1.drop 24).all (fun c => isCode c || c.before args0 about1) = true := by decide +kernel
theorem w_tables : (allAtoms (Jvm.Cond.code x code maxLocals ret :: tables_1)).before args0 about1 = true := by
  rw [allAtoms_all]
  show words1.all (fun c => c.before args0 about1) = true
  refine all_split ?_ w_codes
  rw [← List.take_append_drop 24 words1, List.all_append, w_t1, w_t2]
  rfl
set_option maxRecDepth 65536 in
theorem w_case : (Jvm.Cond.and given_1 narrow_1).before args0 about1 = true := by decide +kernel
theorem w_applies : (headSpec (Jvm.Cond.code x code maxLocals ret :: tables_1) room_1).applies x e0.platform about1 = true :=
  (Spec.applies_iff w_frames).mpr ⟨w_running, w_runnable, w_alone, w_named, w_hears, w_ripe, w_room, w_tables⟩
theorem atStart : AtStart classFile x code maxLocals ret World_1 tables_1 room_1 Calls_1 rest_1 Pre_1 launch0 p0 e0 about1 theMethod args0 below0 :=
  ⟨lists_1, trivial, launch0.admits_env _ _ _, launch0.least_env, fairChoices_fair.cas, fairChoices_fair.clock, w_frames, w_args, w_heap, w_applies, trivial, trivial, w_case⟩
end start1
theorem witness_1 : WitnessClaimed_1 := ⟨start1.p0, start1.e0, start1.about1, start1.theMethod, start1.args0, start1.below0, start1.atStart⟩
end Jvm.Pilot.@@N@@
