import JvmDerived
import JvmDerived.Pilot.@@N@@Statement
import JvmDerived.Pilot.@@N@@Code
set_option linter.unusedVariables false
set_option linter.unusedSimpArgs false
namespace Jvm.RoadKit
open Sem ClassFile Op Lib Jvm.Stand Jvm.Free Jvm.LawKit
section New
variable {p : Program} {l : Launch} {e : Env} {R : Room} {s : State} {m : MethodId} {args : Array Value} {below : List Frame} {meth : Method} {c : Code} {T : State} {locs : List Loc} {cells slots : Nat}
theorem retI (X : Stand p l e R s m args below meth c T locs cells slots) (hx : p.tables.exec = Jvm.exec) {pc : Nat} {Ls : Array Slot} {z : Int32} {rest : List Value} (hret : meth.sig.returnType = some .int) (hd : decode c.code pc = .ok (.ireturn, 1)) {fs : List Frame}
    (hl : ∀ (f : JFrame) (acts : List Action), f.method = m → f.locked = none → f.entered = [] → (doReturn e (T.setTop f) acts (some (.int z))).1 = T.setFrames fs) : Steps p.tables e below (T.setTop (mkF m pc Ls (.int z :: rest))) (T.setFrames fs) := by
  have hm' : T.vm.method? m = some meth := X.method'
  have hn : narrow .int (.int z) = .int z := rfl
  show Steps p.tables e below (T.setTop { method := m, pc := pc, locals := Ls, stack := _ :: rest, locked := none }) _
  jvm_step X.here [X.here.top, hx, hd, hm', hret, hn]
  first | (intro acts; rw [hl _ acts rfl rfl rfl]) | rw [hl _ _ rfl rfl rfl]
  exact Steps.refl _
theorem retJ (X : Stand p l e R s m args below meth c T locs cells slots) (hx : p.tables.exec = Jvm.exec) {pc : Nat} {Ls : Array Slot} {z : Int64} {rest : List Value} (hret : meth.sig.returnType = some .long) (hd : decode c.code pc = .ok (.lreturn, 1)) {fs : List Frame}
    (hl : ∀ (f : JFrame) (acts : List Action), f.method = m → f.locked = none → f.entered = [] → (doReturn e (T.setTop f) acts (some (.long z))).1 = T.setFrames fs) : Steps p.tables e below (T.setTop (mkF m pc Ls (.long z :: rest))) (T.setFrames fs) := by
  have hm' : T.vm.method? m = some meth := X.method'
  have hn : narrow .long (.long z) = .long z := rfl
  show Steps p.tables e below (T.setTop { method := m, pc := pc, locals := Ls, stack := _ :: rest, locked := none }) _
  jvm_step X.here [X.here.top, hx, hd, hm', hret, hn, narrow]
  first | (intro acts; rw [hl _ acts rfl rfl rfl]) | rw [hl _ _ rfl rfl rfl]
  exact Steps.refl _
theorem retR (X : Stand p l e R s m args below meth c T locs cells slots) (hx : p.tables.exec = Jvm.exec) {pc : Nat} {Ls : Array Slot} {z : Addr} {rest : List Value} {ty : FieldType} (hret : meth.sig.returnType = some ty) (hty : ty.isReference = true) (hd : decode c.code pc = .ok (.areturn, 1)) {fs : List Frame}
    (hl : ∀ (f : JFrame) (acts : List Action), f.method = m → f.locked = none → f.entered = [] → (doReturn e (T.setTop f) acts (some (.ref z))).1 = T.setFrames fs) : Steps p.tables e below (T.setTop (mkF m pc Ls (.ref z :: rest))) (T.setFrames fs) := by
  have hm' : T.vm.method? m = some meth := X.method'
  show Steps p.tables e below (T.setTop { method := m, pc := pc, locals := Ls, stack := _ :: rest, locked := none }) _
  jvm_step X.here [X.here.top, hx, hd, hm', hret, hty, Value.isRef]
  first | (intro acts; rw [hl _ acts rfl rfl rfl]) | rw [hl _ _ rfl rfl rfl]
  exact Steps.refl _
theorem lremM {tb : Tables} [Ours tb] {target : State} {g : JFrame} (h : At T m c below) (hx : tb.exec = Jvm.exec) (hg : g.method = m) {x y : Int64} {rest : List Value} (hd : decode c.code g.pc = .ok (.lrem, 1)) (hs : g.stack = .long y :: .long x :: rest) (hy : y ≠ 0)
    (hr : Steps tb e below (T.setTop { g with pc := g.pc + 1, stack := .long (x % y) :: rest }) target) : Steps tb e below (T.setTop g) target := by
  rw [← lrem_mod] at hr
  exact XS.lrem h hx hg hd hs hy hr
end New
end Jvm.RoadKit
namespace Jvm.Pilot.@@N@@
open Jvm Jvm.ClassFile Sem Op Lib Jvm.Free Jvm.Stand Jvm.LawKit Jvm.RoadKit Bundle Jvm.Pilot.@@N@@.Jvm.D
/-- a Java boolean -/
def bI (P : Prop) [Decidable P] : Int32 := if P then 1 else 0
theorem bI_pos {P : Prop} [Decidable P] (h : P) : bI P = (1 : Int32) := if_pos h
theorem bI_neg {P : Prop} [Decidable P] (h : ¬ P) : bI P = (0 : Int32) := if_neg h
theorem bI_0 {P : Prop} [Decidable P] (h : ¬ P) : bI P = 0 := if_neg h
theorem bI_ne0 {P : Prop} [Decidable P] (h : P) : ¬ bI P = 0 := by rw [bI_pos h]; decide
theorem bI_iff {P Q : Prop} [Decidable P] [Decidable Q] : bI P = bI Q ↔ (P ↔ Q) := by
  by_cases p : P <;> by_cases q : Q <;> simp [bI, p, q]
theorem nar_0 : nar .boolean (0 : Int32) = 0 := by decide
theorem nar_1 : nar .boolean (1 : Int32) = 1 := by decide
theorem nar_bI (P : Prop) [Decidable P] : nar .boolean (bI P) = bI P := by by_cases p : P <;> simp [bI, p] <;> decide
/-- the run from st ends, and Q holds of what it returns and leaves -/
def OG (p : Program) (e : Env) (below : List Frame) (s : State) (Q : Option Value → Heap → List Loc → Prop) (cc ss : Nat) (st : State) : Prop :=
  ∃ s₂ o, Steps p.tables e below st s₂ ∧ s₂.status = .running ∧ Ended s₂ below o ∧ ∃ v L, o = .returned v ∧ Q v s₂.heap L ∧ FrameEnd s o s₂ L cc ss
section Out
variable {p : Program} {l : Launch} {e : Env} {R : Room} {s : State} {m : MethodId} {args : Array Value} {below : List Frame} {meth : Method} {c : Code} {T : State} {locs : List Loc} {cells slots : Nat} {Q : Option Value → Heap → List Loc → Prop} {cc ss : Nat} {h : Heap}
theorem OG.step {st st' : State} (h : ∀ t, Steps p.tables e below st' t → Steps p.tables e below st t) (g : OG p e below s Q cc ss st') : OG p e below s Q cc ss st := by
  obtain ⟨s₂, o, h1, r⟩ := g
  exact ⟨s₂, o, h _ h1, r⟩
theorem OG.out (X : Stand p l e R s m args below meth c T locs cells slots) {v : Option Value} (hv : meth.sig.returnType = none → v = none) (hlk : meth.locks = false) {g : JFrame} (eT : T.heap = h)
    (hs : ∀ fs, (∀ (f : JFrame) (acts : List Action), f.method = m → f.locked = none → f.entered = [] → (doReturn e (T.setTop f) acts v).1 = T.setFrames fs) → Steps p.tables e below (T.setTop g) (T.setFrames fs))
    (hQ : Q v h locs) (hc : cells ≤ cc) (hl : slots ≤ ss) : OG p e below s Q cc ss (T.setTop g) := by
  obtain ⟨fs, hr, hrun, hended, hW, hsame⟩ := X.leave (v := v) hv hlk
  exact ⟨_, _, hs fs hr, hrun, hended, _, _, rfl, by show Q v T.heap locs; rw [eT]; exact hQ, ⟨_, rfl⟩, hW, hsame.mono hc hl⟩
theorem OG.retV (X : Stand p l e R s m args below meth c T locs cells slots) (hx : p.tables.exec = Jvm.exec) (hlk : meth.locks = false) (hret : meth.sig.returnType = none) {pc : Nat} {Ls : Array Slot} (hd : decode c.code pc = .ok (.return_, 1)) (eT : T.heap = h) (hQ : Q none h locs) (hc : cells ≤ cc) (hl : slots ≤ ss) : OG p e below s Q cc ss (T.setTop (mkF m pc Ls [])) :=
  OG.out X (fun _ => rfl) hlk eT (fun _ hr => X.returnOut hx hret hd hr) hQ hc hl
theorem OG.retI (X : Stand p l e R s m args below meth c T locs cells slots) (hx : p.tables.exec = Jvm.exec) (hlk : meth.locks = false) (hret : meth.sig.returnType = some .int) {pc : Nat} {Ls : Array Slot} {z : Int32} {rest : List Value} (hd : decode c.code pc = .ok (.ireturn, 1)) (eT : T.heap = h) (hQ : Q (some (.int z)) h locs) (hc : cells ≤ cc) (hl : slots ≤ ss) : OG p e below s Q cc ss (T.setTop (mkF m pc Ls (.int z :: rest))) :=
  OG.out X (fun h => by rw [hret] at h; cases h) hlk eT (fun _ hr => Jvm.RoadKit.retI X hx hret hd hr) hQ hc hl
theorem OG.retJ (X : Stand p l e R s m args below meth c T locs cells slots) (hx : p.tables.exec = Jvm.exec) (hlk : meth.locks = false) (hret : meth.sig.returnType = some .long) {pc : Nat} {Ls : Array Slot} {z : Int64} {rest : List Value} (hd : decode c.code pc = .ok (.lreturn, 1)) (eT : T.heap = h) (hQ : Q (some (.long z)) h locs) (hc : cells ≤ cc) (hl : slots ≤ ss) : OG p e below s Q cc ss (T.setTop (mkF m pc Ls (.long z :: rest))) :=
  OG.out X (fun h => by rw [hret] at h; cases h) hlk eT (fun _ hr => Jvm.RoadKit.retJ X hx hret hd hr) hQ hc hl
theorem OG.retR (X : Stand p l e R s m args below meth c T locs cells slots) (hx : p.tables.exec = Jvm.exec) (hlk : meth.locks = false) {ty : FieldType} (hret : meth.sig.returnType = some ty) (hty : ty.isReference = true) {pc : Nat} {Ls : Array Slot} {z : Addr} {rest : List Value} (hd : decode c.code pc = .ok (.areturn, 1)) (eT : T.heap = h) (hQ : Q (some (.ref z)) h locs) (hc : cells ≤ cc) (hl : slots ≤ ss) : OG p e below s Q cc ss (T.setTop (mkF m pc Ls (.ref z :: rest))) :=
  OG.out X (fun h => by rw [hret] at h; cases h) hlk eT (fun _ hr => Jvm.RoadKit.retR X hx hret hty hd hr) hQ hc hl
theorem OG.retZ (X : Stand p l e R s m args below meth c T locs cells slots) (hx : p.tables.exec = Jvm.exec) (hlk : meth.locks = false) (hret : meth.sig.returnType = some .boolean) {pc : Nat} {Ls : Array Slot} {z z' : Int32} {rest : List Value} (hd : decode c.code pc = .ok (.ireturn, 1)) (hz : nar .boolean z = z') (eT : T.heap = h) (hQ : Q (some (.int z')) h locs) (hc : cells ≤ cc) (hl : slots ≤ ss) : OG p e below s Q cc ss (T.setTop (mkF m pc Ls (.int z :: rest))) := by
  subst hz
  exact OG.out X (fun h => by rw [hret] at h; cases h) hlk eT (fun _ hr => retN X hx (t := .boolean) hret (by simp) hd hr) hQ hc hl
end Out
theorem d1_0 : decode prog_51_method_1_code 0 = .ok (.aload_n 0, 1) := by decide +kernel
theorem d1_1 : decode prog_51_method_1_code 1 = .ok (.invokespecial 1, 3) := by decide +kernel
theorem d1_4 : decode prog_51_method_1_code 4 = .ok (.aload_n 0, 1) := by decide +kernel
theorem d1_5 : decode prog_51_method_1_code 5 = .ok (.iload_n 1, 1) := by decide +kernel
theorem d1_6 : decode prog_51_method_1_code 6 = .ok (.putfield 7, 3) := by decide +kernel
theorem d1_9 : decode prog_51_method_1_code 9 = .ok (.aload_n 0, 1) := by decide +kernel
theorem d1_10 : decode prog_51_method_1_code 10 = .ok (.iload_n 2, 1) := by decide +kernel
theorem d1_11 : decode prog_51_method_1_code 11 = .ok (.putfield 13, 3) := by decide +kernel
theorem d1_14 : decode prog_51_method_1_code 14 = .ok (.aload_n 0, 1) := by decide +kernel
theorem d1_15 : decode prog_51_method_1_code 15 = .ok (.iload_n 3, 1) := by decide +kernel
theorem d1_16 : decode prog_51_method_1_code 16 = .ok (.putfield 16, 3) := by decide +kernel
theorem d1_19 : decode prog_51_method_1_code 19 = .ok (.return_, 1) := by decide +kernel
theorem pn_com_example_ludus_ludus_PackingTask_Good : plainName "com/example/ludus/ludus/PackingTask$Good" = true := by first | (simp [plainName, overriddenIn]; done) | decide +kernel
theorem ef_1 (m : MethodId) (x0 : Addr) (x1 : Int32) (x2 : Int32) (x3 : Int32) : entryFrame m #[(.ref x0), (.int x1), (.int x2), (.int x3)] 4 = mkF m 0 #[.val (.ref x0), .val (.int x1), .val (.int x2), .val (.int x3)] [] := by first | (simp [entryFrame, mkF, argsToLocals, Value.category]; done) | rfl
def Q1 (Z : State) (a1 : Addr) (q1 : Int32) (q2 : Int32) (q3 : Int32) (u0 : Value) (u1 : Value) (u2 : Value) (h0 : Heap) (n0 : Nat) (v : Option Value) (h : Heap) (L : List Loc) : Prop := (v = none) ∧ (Fr n0 L) ∧ (Keep h0 h [a1]) ∧ (Fld Z h a1 "com/example/ludus/ludus/PackingTask$Good" "width" "I" (.int q1)) ∧ (Fld Z h a1 "com/example/ludus/ludus/PackingTask$Good" "height" "I" (.int q2)) ∧ (Fld Z h a1 "com/example/ludus/ludus/PackingTask$Good" "value" "I" (.int q3))
abbrev rom_1 : Room := { frames := 1, cells := 0, slots := 0, locals := 12 }
set_option maxRecDepth 65536 in
set_option maxHeartbeats 40000000 in
theorem rm1 (l : Launch) (Z : State) (a0 : Array Value) (hw : ∀ d ∈ tables_1, d.before a0 Z = true) (ws : List Jvm.Cond) (a1 : Addr) (q1 : Int32) (q2 : Int32) (q3 : Int32) (u0 : Value) (u1 : Value) (u2 : Value) (h0 : Heap) (n0 : Nat) (Z0 : n0 ≤ h0.size) (F0_a1 : Exa Z h0 a1 "com/example/ludus/ludus/PackingTask$Good") (F1_a1_width : Fld Z h0 a1 "com/example/ludus/ludus/PackingTask$Good" "width" "I" u0) (F2_a1_height : Fld Z h0 a1 "com/example/ludus/ludus/PackingTask$Good" "height" "I" u1) (F3_a1_value : Fld Z h0 a1 "com/example/ludus/ludus/PackingTask$Good" "value" "I" u2) (g_a1 : n0 ≤ a1) :
    MetFree l (⟨"com/example/ludus/ludus/PackingTask$Good", "<init>", "(III)V"⟩ : MethodName) (head1 (Jvm.Cond.code (⟨"com/example/ludus/ludus/PackingTask$Good", "<init>", "(III)V"⟩ : MethodName) prog_51_method_1_code 4 none :: ws) rom_1) (fun a U => a = #[(.ref a1), (.int q1), (.int q2), (.int q3)] ∧ Z.Warmed39 U.vm ∧ U.heap = h0) (fun _ _ _ _ _ => True) (fun _ U o U' => ∃ v L, o = .returned v ∧ Q1 Z a1 q1 q2 q3 u0 u1 u2 h0 n0 v U'.heap L ∧ FrameEnd U o U' L rom_1.cells rom_1.slots) := by
  refine MetFree.of_bodySF (plainFor_of_name pn_com_example_ludus_ludus_PackingTask_Good) hisR ?_
  intro p e s m args below meth c s₁ Bd hml0 hP hK
  obtain ⟨rfl, hZ, hh⟩ := hP
  have hx := Bd.exec
  have hby := Bd.bytes
  have hlk := Bd.notSynchronized
  have hml : c.maxLocals = 4 := hml0
  have hown : s.vm.findClass "com/example/ludus/ludus/PackingTask$Good" = some m.cls := findClass_of_methodNamed Bd.named
  have hnm := (name_of_methodNamed Bd.named Bd.method).1
  have X0 : Stand p l e rom_1 s m #[(.ref a1), (.int q1), (.int q2), (.int q3)] below meth c s₁ [] 0 0 := Stand.of_body Bd
  have e0 : s₁.heap = h0 := by rw [← hh, Bd.state]; rfl
  have N0 := Fr.nil n0
  have K0 : Keep h0 h0 [a1] := Keep.refl _ _
  refine (?_ : OG p e below s (Q1 Z a1 q1 q2 q3 u0 u1 u2 h0 n0) rom_1.cells rom_1.slots _)
  rw [ef_1]
  have s1 : ∀ t, Steps p.tables e below (s₁.setTop (mkF m 1 #[.val (.ref a1), .val (.int q1), .val (.int q2), .val (.int q3)] [(.ref a1)])) t → Steps p.tables e below (s₁.setTop (mkF m 0 #[.val (.ref a1), .val (.int q1), .val (.int q2), .val (.int q3)] [])) t := by
    intro t k
    refine XS.aloadN X0.here hx rfl (hb hby d1_0) rfl rfl ?_
    exact k
  refine OG.step s1 ?_
  obtain ⟨T2, X2, e2, st2⟩ := initO X0 hx hZ hown (hw _ (List.mem_of_getElem? (i := 6) rfl)) (hw _ (List.mem_of_getElem? (i := 7) rfl)) (hw _ (List.mem_of_getElem? (i := 8) rfl)) e0 (g := (mkF m 1 #[.val (.ref a1), .val (.int q1), .val (.int q2), .val (.int q3)] [(.ref a1)])) rfl (by rw [hml]; rfl) rfl (hb hby d1_1) (by decide) (W := 0) (by show 2 * 0 + _ ≤ _; exact Nat.le_of_eq rfl) (by decide)
  refine OG.step st2 ?_
  show OG _ _ _ _ _ _ _ (T2.setTop (mkF m 4 #[.val (.ref a1), .val (.int q1), .val (.int q2), .val (.int q3)] []))
  have s3 : ∀ t, Steps p.tables e below (T2.setTop (mkF m 6 #[.val (.ref a1), .val (.int q1), .val (.int q2), .val (.int q3)] [(.int q1), (.ref a1)])) t → Steps p.tables e below (T2.setTop (mkF m 4 #[.val (.ref a1), .val (.int q1), .val (.int q2), .val (.int q3)] [])) t := by
    intro t k
    refine XS.aloadN X2.here hx rfl (hb hby d1_4) rfl rfl ?_
    show Steps p.tables e below (T2.setTop (mkF m 5 #[.val (.ref a1), .val (.int q1), .val (.int q2), .val (.int q3)] [(.ref a1)])) _
    refine XS.iloadN X2.here hx rfl (hb hby d1_5) rfl ?_
    exact k
  refine OG.step s3 ?_
  obtain ⟨T4, h4, X4, e4, W4, st4⟩ := putF X2 hx hZ hown (host := "") (Or.inl (hw _ (List.mem_of_getElem? (i := 9) rfl))) Via.refl e2 F1_a1_width F0_a1 (Or.inr ⟨(hw _ (List.mem_of_getElem? (i := 10) rfl)), rfl, hnm⟩) (hw _ (List.mem_of_getElem? (i := 1) rfl)) (ty := .int) (by decide) rfl rfl (g := (mkF m 6 #[.val (.ref a1), .val (.int q1), .val (.int q2), .val (.int q3)] [(.int q1), (.ref a1)])) rfl rfl (hb hby d1_6)
  refine OG.step st4 ?_
  have fw4 := F1_a1_width.same W4
  have f5 := F0_a1.wr W4
  have f6 := F2_a1_height.other W4 (Or.inr (slot_ne (Or.inr (hw _ (List.mem_of_getElem? (i := 12) rfl))) (Or.inr (hw _ (List.mem_of_getElem? (i := 10) rfl))) (by decide) (t := .int) (t' := .int) (by decide) (by decide)))
  have f7 := F3_a1_value.other W4 (Or.inr (slot_ne (Or.inr (hw _ (List.mem_of_getElem? (i := 14) rfl))) (Or.inr (hw _ (List.mem_of_getElem? (i := 10) rfl))) (by decide) (t := .int) (t' := .int) (by decide) (by decide)))
  have K4 := K0.wr W4 (Or.inl (List.mem_of_getElem? (i := 0) rfl))
  have N4 := Fr.snoc X4 N0 g_a1
  show OG _ _ _ _ _ _ _ (T4.setTop (mkF m 9 #[.val (.ref a1), .val (.int q1), .val (.int q2), .val (.int q3)] []))
  have s8 : ∀ t, Steps p.tables e below (T4.setTop (mkF m 11 #[.val (.ref a1), .val (.int q1), .val (.int q2), .val (.int q3)] [(.int q2), (.ref a1)])) t → Steps p.tables e below (T4.setTop (mkF m 9 #[.val (.ref a1), .val (.int q1), .val (.int q2), .val (.int q3)] [])) t := by
    intro t k
    refine XS.aloadN X4.here hx rfl (hb hby d1_9) rfl rfl ?_
    show Steps p.tables e below (T4.setTop (mkF m 10 #[.val (.ref a1), .val (.int q1), .val (.int q2), .val (.int q3)] [(.ref a1)])) _
    refine XS.iloadN X4.here hx rfl (hb hby d1_10) rfl ?_
    exact k
  refine OG.step s8 ?_
  obtain ⟨T9, h9, X9, e9, W9, st9⟩ := putF X4 hx hZ hown (host := "") (Or.inl (hw _ (List.mem_of_getElem? (i := 11) rfl))) Via.refl e4 f6 f5 (Or.inr ⟨(hw _ (List.mem_of_getElem? (i := 12) rfl)), rfl, hnm⟩) (hw _ (List.mem_of_getElem? (i := 1) rfl)) (ty := .int) (by decide) rfl rfl (g := (mkF m 11 #[.val (.ref a1), .val (.int q1), .val (.int q2), .val (.int q3)] [(.int q2), (.ref a1)])) rfl rfl (hb hby d1_11)
  refine OG.step st9 ?_
  have fw9 := f6.same W9
  have f10 := f5.wr W9
  have f11 := f7.other W9 (Or.inr (slot_ne (Or.inr (hw _ (List.mem_of_getElem? (i := 14) rfl))) (Or.inr (hw _ (List.mem_of_getElem? (i := 12) rfl))) (by decide) (t := .int) (t' := .int) (by decide) (by decide)))
  have f12 := fw4.other W9 (Or.inr (slot_ne (Or.inr (hw _ (List.mem_of_getElem? (i := 10) rfl))) (Or.inr (hw _ (List.mem_of_getElem? (i := 12) rfl))) (by decide) (t := .int) (t' := .int) (by decide) (by decide)))
  have K9 := K4.wr W9 (Or.inl (List.mem_of_getElem? (i := 0) rfl))
  have N9 := Fr.snoc X9 N4 g_a1
  show OG _ _ _ _ _ _ _ (T9.setTop (mkF m 14 #[.val (.ref a1), .val (.int q1), .val (.int q2), .val (.int q3)] []))
  have s13 : ∀ t, Steps p.tables e below (T9.setTop (mkF m 16 #[.val (.ref a1), .val (.int q1), .val (.int q2), .val (.int q3)] [(.int q3), (.ref a1)])) t → Steps p.tables e below (T9.setTop (mkF m 14 #[.val (.ref a1), .val (.int q1), .val (.int q2), .val (.int q3)] [])) t := by
    intro t k
    refine XS.aloadN X9.here hx rfl (hb hby d1_14) rfl rfl ?_
    show Steps p.tables e below (T9.setTop (mkF m 15 #[.val (.ref a1), .val (.int q1), .val (.int q2), .val (.int q3)] [(.ref a1)])) _
    refine XS.iloadN X9.here hx rfl (hb hby d1_15) rfl ?_
    exact k
  refine OG.step s13 ?_
  obtain ⟨T14, h14, X14, e14, W14, st14⟩ := putF X9 hx hZ hown (host := "") (Or.inl (hw _ (List.mem_of_getElem? (i := 13) rfl))) Via.refl e9 f11 f10 (Or.inr ⟨(hw _ (List.mem_of_getElem? (i := 14) rfl)), rfl, hnm⟩) (hw _ (List.mem_of_getElem? (i := 1) rfl)) (ty := .int) (by decide) rfl rfl (g := (mkF m 16 #[.val (.ref a1), .val (.int q1), .val (.int q2), .val (.int q3)] [(.int q3), (.ref a1)])) rfl rfl (hb hby d1_16)
  refine OG.step st14 ?_
  have fw14 := f11.same W14
  have f15 := f10.wr W14
  have f16 := f12.other W14 (Or.inr (slot_ne (Or.inr (hw _ (List.mem_of_getElem? (i := 10) rfl))) (Or.inr (hw _ (List.mem_of_getElem? (i := 14) rfl))) (by decide) (t := .int) (t' := .int) (by decide) (by decide)))
  have f17 := fw9.other W14 (Or.inr (slot_ne (Or.inr (hw _ (List.mem_of_getElem? (i := 12) rfl))) (Or.inr (hw _ (List.mem_of_getElem? (i := 14) rfl))) (by decide) (t := .int) (t' := .int) (by decide) (by decide)))
  have K14 := K9.wr W14 (Or.inl (List.mem_of_getElem? (i := 0) rfl))
  have N14 := Fr.snoc X14 N9 g_a1
  show OG _ _ _ _ _ _ _ (T14.setTop (mkF m 19 #[.val (.ref a1), .val (.int q1), .val (.int q2), .val (.int q3)] []))
  exact OG.retV X14 hx hlk Bd.returns (hb hby d1_19) e14 ⟨rfl, N14, K14, f16, f17, fw14⟩ (by decide) (by decide)
theorem d3_0 : decode prog_50_method_1_code 0 = .ok (.aload_n 0, 1) := by decide +kernel
theorem d3_1 : decode prog_50_method_1_code 1 = .ok (.invokespecial 1, 3) := by decide +kernel
theorem d3_4 : decode prog_50_method_1_code 4 = .ok (.aload_n 0, 1) := by decide +kernel
theorem d3_5 : decode prog_50_method_1_code 5 = .ok (.iload_n 1, 1) := by decide +kernel
theorem d3_6 : decode prog_50_method_1_code 6 = .ok (.putfield 7, 3) := by decide +kernel
theorem d3_9 : decode prog_50_method_1_code 9 = .ok (.aload_n 0, 1) := by decide +kernel
theorem d3_10 : decode prog_50_method_1_code 10 = .ok (.iload_n 2, 1) := by decide +kernel
theorem d3_11 : decode prog_50_method_1_code 11 = .ok (.putfield 13, 3) := by decide +kernel
theorem d3_14 : decode prog_50_method_1_code 14 = .ok (.return_, 1) := by decide +kernel
theorem pn_com_example_ludus_ludus_PackingTask_Bag : plainName "com/example/ludus/ludus/PackingTask$Bag" = true := by first | (simp [plainName, overriddenIn]; done) | decide +kernel
theorem ef_3 (m : MethodId) (x0 : Addr) (x1 : Int32) (x2 : Int32) : entryFrame m #[(.ref x0), (.int x1), (.int x2)] 3 = mkF m 0 #[.val (.ref x0), .val (.int x1), .val (.int x2)] [] := by first | (simp [entryFrame, mkF, argsToLocals, Value.category]; done) | rfl
def Q3 (Z : State) (a1 : Addr) (q1 : Int32) (q2 : Int32) (u0 : Value) (u1 : Value) (h0 : Heap) (n0 : Nat) (v : Option Value) (h : Heap) (L : List Loc) : Prop := (v = none) ∧ (Fr n0 L) ∧ (Keep h0 h [a1]) ∧ (Fld Z h a1 "com/example/ludus/ludus/PackingTask$Bag" "width" "I" (.int q1)) ∧ (Fld Z h a1 "com/example/ludus/ludus/PackingTask$Bag" "height" "I" (.int q2))
abbrev rom_3 : Room := { frames := 1, cells := 0, slots := 0, locals := 12 }
set_option maxRecDepth 65536 in
set_option maxHeartbeats 40000000 in
theorem rm3 (l : Launch) (Z : State) (a0 : Array Value) (hw : ∀ d ∈ tables_1, d.before a0 Z = true) (ws : List Jvm.Cond) (a1 : Addr) (q1 : Int32) (q2 : Int32) (u0 : Value) (u1 : Value) (h0 : Heap) (n0 : Nat) (Z0 : n0 ≤ h0.size) (F0_a1 : Exa Z h0 a1 "com/example/ludus/ludus/PackingTask$Bag") (F1_a1_width : Fld Z h0 a1 "com/example/ludus/ludus/PackingTask$Bag" "width" "I" u0) (F2_a1_height : Fld Z h0 a1 "com/example/ludus/ludus/PackingTask$Bag" "height" "I" u1) (g_a1 : n0 ≤ a1) :
    MetFree l (⟨"com/example/ludus/ludus/PackingTask$Bag", "<init>", "(II)V"⟩ : MethodName) (head1 (Jvm.Cond.code (⟨"com/example/ludus/ludus/PackingTask$Bag", "<init>", "(II)V"⟩ : MethodName) prog_50_method_1_code 3 none :: ws) rom_3) (fun a U => a = #[(.ref a1), (.int q1), (.int q2)] ∧ Z.Warmed39 U.vm ∧ U.heap = h0) (fun _ _ _ _ _ => True) (fun _ U o U' => ∃ v L, o = .returned v ∧ Q3 Z a1 q1 q2 u0 u1 h0 n0 v U'.heap L ∧ FrameEnd U o U' L rom_3.cells rom_3.slots) := by
  refine MetFree.of_bodySF (plainFor_of_name pn_com_example_ludus_ludus_PackingTask_Bag) hisR ?_
  intro p e s m args below meth c s₁ Bd hml0 hP hK
  obtain ⟨rfl, hZ, hh⟩ := hP
  have hx := Bd.exec
  have hby := Bd.bytes
  have hlk := Bd.notSynchronized
  have hml : c.maxLocals = 3 := hml0
  have hown : s.vm.findClass "com/example/ludus/ludus/PackingTask$Bag" = some m.cls := findClass_of_methodNamed Bd.named
  have hnm := (name_of_methodNamed Bd.named Bd.method).1
  have X0 : Stand p l e rom_3 s m #[(.ref a1), (.int q1), (.int q2)] below meth c s₁ [] 0 0 := Stand.of_body Bd
  have e0 : s₁.heap = h0 := by rw [← hh, Bd.state]; rfl
  have N0 := Fr.nil n0
  have K0 : Keep h0 h0 [a1] := Keep.refl _ _
  refine (?_ : OG p e below s (Q3 Z a1 q1 q2 u0 u1 h0 n0) rom_3.cells rom_3.slots _)
  rw [ef_3]
  have s1 : ∀ t, Steps p.tables e below (s₁.setTop (mkF m 1 #[.val (.ref a1), .val (.int q1), .val (.int q2)] [(.ref a1)])) t → Steps p.tables e below (s₁.setTop (mkF m 0 #[.val (.ref a1), .val (.int q1), .val (.int q2)] [])) t := by
    intro t k
    refine XS.aloadN X0.here hx rfl (hb hby d3_0) rfl rfl ?_
    exact k
  refine OG.step s1 ?_
  obtain ⟨T2, X2, e2, st2⟩ := initO X0 hx hZ hown (hw _ (List.mem_of_getElem? (i := 21) rfl)) (hw _ (List.mem_of_getElem? (i := 7) rfl)) (hw _ (List.mem_of_getElem? (i := 8) rfl)) e0 (g := (mkF m 1 #[.val (.ref a1), .val (.int q1), .val (.int q2)] [(.ref a1)])) rfl (by rw [hml]; rfl) rfl (hb hby d3_1) (by decide) (W := 0) (by show 2 * 0 + _ ≤ _; exact Nat.le_of_eq rfl) (by decide)
  refine OG.step st2 ?_
  show OG _ _ _ _ _ _ _ (T2.setTop (mkF m 4 #[.val (.ref a1), .val (.int q1), .val (.int q2)] []))
  have s3 : ∀ t, Steps p.tables e below (T2.setTop (mkF m 6 #[.val (.ref a1), .val (.int q1), .val (.int q2)] [(.int q1), (.ref a1)])) t → Steps p.tables e below (T2.setTop (mkF m 4 #[.val (.ref a1), .val (.int q1), .val (.int q2)] [])) t := by
    intro t k
    refine XS.aloadN X2.here hx rfl (hb hby d3_4) rfl rfl ?_
    show Steps p.tables e below (T2.setTop (mkF m 5 #[.val (.ref a1), .val (.int q1), .val (.int q2)] [(.ref a1)])) _
    refine XS.iloadN X2.here hx rfl (hb hby d3_5) rfl ?_
    exact k
  refine OG.step s3 ?_
  obtain ⟨T4, h4, X4, e4, W4, st4⟩ := putF X2 hx hZ hown (host := "") (Or.inl (hw _ (List.mem_of_getElem? (i := 22) rfl))) Via.refl e2 F1_a1_width F0_a1 (Or.inr ⟨(hw _ (List.mem_of_getElem? (i := 23) rfl)), rfl, hnm⟩) (hw _ (List.mem_of_getElem? (i := 16) rfl)) (ty := .int) (by decide) rfl rfl (g := (mkF m 6 #[.val (.ref a1), .val (.int q1), .val (.int q2)] [(.int q1), (.ref a1)])) rfl rfl (hb hby d3_6)
  refine OG.step st4 ?_
  have fw4 := F1_a1_width.same W4
  have f5 := F0_a1.wr W4
  have f6 := F2_a1_height.other W4 (Or.inr (slot_ne (Or.inr (hw _ (List.mem_of_getElem? (i := 25) rfl))) (Or.inr (hw _ (List.mem_of_getElem? (i := 23) rfl))) (by decide) (t := .int) (t' := .int) (by decide) (by decide)))
  have K4 := K0.wr W4 (Or.inl (List.mem_of_getElem? (i := 0) rfl))
  have N4 := Fr.snoc X4 N0 g_a1
  show OG _ _ _ _ _ _ _ (T4.setTop (mkF m 9 #[.val (.ref a1), .val (.int q1), .val (.int q2)] []))
  have s7 : ∀ t, Steps p.tables e below (T4.setTop (mkF m 11 #[.val (.ref a1), .val (.int q1), .val (.int q2)] [(.int q2), (.ref a1)])) t → Steps p.tables e below (T4.setTop (mkF m 9 #[.val (.ref a1), .val (.int q1), .val (.int q2)] [])) t := by
    intro t k
    refine XS.aloadN X4.here hx rfl (hb hby d3_9) rfl rfl ?_
    show Steps p.tables e below (T4.setTop (mkF m 10 #[.val (.ref a1), .val (.int q1), .val (.int q2)] [(.ref a1)])) _
    refine XS.iloadN X4.here hx rfl (hb hby d3_10) rfl ?_
    exact k
  refine OG.step s7 ?_
  obtain ⟨T8, h8, X8, e8, W8, st8⟩ := putF X4 hx hZ hown (host := "") (Or.inl (hw _ (List.mem_of_getElem? (i := 24) rfl))) Via.refl e4 f6 f5 (Or.inr ⟨(hw _ (List.mem_of_getElem? (i := 25) rfl)), rfl, hnm⟩) (hw _ (List.mem_of_getElem? (i := 16) rfl)) (ty := .int) (by decide) rfl rfl (g := (mkF m 11 #[.val (.ref a1), .val (.int q1), .val (.int q2)] [(.int q2), (.ref a1)])) rfl rfl (hb hby d3_11)
  refine OG.step st8 ?_
  have fw8 := f6.same W8
  have f9 := f5.wr W8
  have f10 := fw4.other W8 (Or.inr (slot_ne (Or.inr (hw _ (List.mem_of_getElem? (i := 23) rfl))) (Or.inr (hw _ (List.mem_of_getElem? (i := 25) rfl))) (by decide) (t := .int) (t' := .int) (by decide) (by decide)))
  have K8 := K4.wr W8 (Or.inl (List.mem_of_getElem? (i := 0) rfl))
  have N8 := Fr.snoc X8 N4 g_a1
  show OG _ _ _ _ _ _ _ (T8.setTop (mkF m 14 #[.val (.ref a1), .val (.int q1), .val (.int q2)] []))
  exact OG.retV X8 hx hlk Bd.returns (hb hby d3_14) e8 ⟨rfl, N8, K8, f10, fw8⟩ (by decide) (by decide)
theorem own_ni {Z : State} {a0 : Array Value} (hw : ∀ d ∈ tables_1, d.before a0 Z = true) {h : Heap} {a : Addr} (E : Exa Z h a "com/example/ludus/ludus/PackingTask$Bag") : Ins Z h a "com/example/ludus/ludus/PackingTask$Good" false := by
  obtain ⟨cell, k, h1, h2, h3, h4, h5⟩ := E
  obtain ⟨cy, ky, i1, i2, i3, i4, -⟩ := Cond.instantiable_spec (hw _ (List.mem_of_getElem? (i := 1) rfl))
  have hi : ky.isInterface = false := by cases hq : ky.isInterface <;> simp [hq] at i4 ⊢
  refine ⟨cell, cy, h1, i1, ?_⟩
  rw [Vm.notAssignable_of_chain (args := a0) (s := Z) (t := ["java/lang/Object"]) h2 i1 i2 i3 hi (by
    intro w hw'
    simp only [Cond.chainWords, List.mem_cons, List.not_mem_nil, or_false] at hw'
    rcases hw' with rfl | rfl
    · exact (hw _ (List.mem_of_getElem? (i := 33) rfl))
    · exact (hw _ (List.mem_of_getElem? (i := 34) rfl))) (by decide)]
  simp
theorem d4_0 : decode prog_51_method_5_code 0 = .ok (.aload_n 1, 1) := by decide +kernel
theorem d4_1 : decode prog_51_method_5_code 1 = .ok (.instanceof 8, 3) := by decide +kernel
theorem d4_4 : decode prog_51_method_5_code 4 = .ok (.ifCond .eq 11, 3) := by decide +kernel
theorem d4_7 : decode prog_51_method_5_code 7 = .ok (.aload_n 1, 1) := by decide +kernel
theorem d4_8 : decode prog_51_method_5_code 8 = .ok (.checkcast 8, 3) := by decide +kernel
theorem d4_11 : decode prog_51_method_5_code 11 = .ok (.astore_n 2, 1) := by decide +kernel
theorem d4_12 : decode prog_51_method_5_code 12 = .ok (.goto 5, 3) := by decide +kernel
theorem d4_15 : decode prog_51_method_5_code 15 = .ok (.iconst 0, 1) := by decide +kernel
theorem d4_16 : decode prog_51_method_5_code 16 = .ok (.ireturn, 1) := by decide +kernel
theorem d4_17 : decode prog_51_method_5_code 17 = .ok (.aload_n 0, 1) := by decide +kernel
theorem d4_18 : decode prog_51_method_5_code 18 = .ok (.getfield 7, 3) := by decide +kernel
theorem d4_21 : decode prog_51_method_5_code 21 = .ok (.aload_n 2, 1) := by decide +kernel
theorem d4_22 : decode prog_51_method_5_code 22 = .ok (.getfield 7, 3) := by decide +kernel
theorem d4_25 : decode prog_51_method_5_code 25 = .ok (.if_icmp .ne 29, 3) := by decide +kernel
theorem d4_28 : decode prog_51_method_5_code 28 = .ok (.aload_n 0, 1) := by decide +kernel
theorem d4_29 : decode prog_51_method_5_code 29 = .ok (.getfield 13, 3) := by decide +kernel
theorem d4_32 : decode prog_51_method_5_code 32 = .ok (.aload_n 2, 1) := by decide +kernel
theorem d4_33 : decode prog_51_method_5_code 33 = .ok (.getfield 13, 3) := by decide +kernel
theorem d4_36 : decode prog_51_method_5_code 36 = .ok (.if_icmp .ne 18, 3) := by decide +kernel
theorem d4_39 : decode prog_51_method_5_code 39 = .ok (.aload_n 0, 1) := by decide +kernel
theorem d4_40 : decode prog_51_method_5_code 40 = .ok (.getfield 16, 3) := by decide +kernel
theorem d4_43 : decode prog_51_method_5_code 43 = .ok (.aload_n 2, 1) := by decide +kernel
theorem d4_44 : decode prog_51_method_5_code 44 = .ok (.getfield 16, 3) := by decide +kernel
theorem d4_47 : decode prog_51_method_5_code 47 = .ok (.if_icmp .ne 7, 3) := by decide +kernel
theorem d4_50 : decode prog_51_method_5_code 50 = .ok (.iconst 1, 1) := by decide +kernel
theorem d4_51 : decode prog_51_method_5_code 51 = .ok (.goto 4, 3) := by decide +kernel
theorem d4_54 : decode prog_51_method_5_code 54 = .ok (.iconst 0, 1) := by decide +kernel
theorem d4_55 : decode prog_51_method_5_code 55 = .ok (.ireturn, 1) := by decide +kernel
theorem ef_4s (m : MethodId) (x0 : Addr) (x1 : Addr) : entryFrame m #[(.ref x0), (.ref x1)] 3 = mkF m 0 #[.val (.ref x0), .val (.ref x1), .unset] [] := by first | (simp [entryFrame, mkF, argsToLocals, Value.category]; done) | rfl
def Q4s (Z : State) (a1 : Addr) (a2 : Addr) (v0 : Int32) (v1 : Int32) (v2 : Int32) (w0 : Int32) (w1 : Int32) (w2 : Int32) (h0 : Heap) (n0 : Nat) (v : Option Value) (h : Heap) (L : List Loc) : Prop := (v = some (.int (bI (v0 = w0 ∧ v1 = w1 ∧ v2 = w2)))) ∧ (Fr n0 L) ∧ (h = h0)
abbrev rom_4s : Room := { frames := 0, cells := 0, slots := 0, locals := 0 }
set_option maxRecDepth 65536 in
set_option maxHeartbeats 40000000 in
theorem rm4s (l : Launch) (Z : State) (a0 : Array Value) (hw : ∀ d ∈ tables_1, d.before a0 Z = true) (ws : List Jvm.Cond) (a1 : Addr) (a2 : Addr) (v0 : Int32) (v1 : Int32) (v2 : Int32) (w0 : Int32) (w1 : Int32) (w2 : Int32) (h0 : Heap) (n0 : Nat) (Z0 : n0 ≤ h0.size) (F0_a2 : Exa Z h0 a2 "com/example/ludus/ludus/PackingTask$Good") (F1_a1_width : Fld Z h0 a1 "com/example/ludus/ludus/PackingTask$Good" "width" "I" (.int v0)) (F2_a1_height : Fld Z h0 a1 "com/example/ludus/ludus/PackingTask$Good" "height" "I" (.int v1)) (F3_a1_value : Fld Z h0 a1 "com/example/ludus/ludus/PackingTask$Good" "value" "I" (.int v2)) (F4_a2_width : Fld Z h0 a2 "com/example/ludus/ludus/PackingTask$Good" "width" "I" (.int w0)) (F5_a2_height : Fld Z h0 a2 "com/example/ludus/ludus/PackingTask$Good" "height" "I" (.int w1)) (F6_a2_value : Fld Z h0 a2 "com/example/ludus/ludus/PackingTask$Good" "value" "I" (.int w2)) :
    MetFree l (⟨"com/example/ludus/ludus/PackingTask$Good", "equals", "(Ljava/lang/Object;)Z"⟩ : MethodName) (head1 (Jvm.Cond.code (⟨"com/example/ludus/ludus/PackingTask$Good", "equals", "(Ljava/lang/Object;)Z"⟩ : MethodName) prog_51_method_5_code 3 (some .boolean) :: ws) rom_4s) (fun a U => a = #[(.ref a1), (.ref a2)] ∧ Z.Warmed39 U.vm ∧ U.heap = h0) (fun _ _ _ _ _ => True) (fun _ U o U' => ∃ v L, o = .returned v ∧ Q4s Z a1 a2 v0 v1 v2 w0 w1 w2 h0 n0 v U'.heap L ∧ FrameEnd U o U' L rom_4s.cells rom_4s.slots) := by
  refine MetFree.of_bodySF (plainFor_of_name pn_com_example_ludus_ludus_PackingTask_Good) hisR ?_
  intro p e s m args below meth c s₁ Bd hml0 hP hK
  obtain ⟨rfl, hZ, hh⟩ := hP
  have hx := Bd.exec
  have hby := Bd.bytes
  have hlk := Bd.notSynchronized
  have hml : c.maxLocals = 3 := hml0
  have hown : s.vm.findClass "com/example/ludus/ludus/PackingTask$Good" = some m.cls := findClass_of_methodNamed Bd.named
  have hnm := (name_of_methodNamed Bd.named Bd.method).1
  have X0 : Stand p l e rom_4s s m #[(.ref a1), (.ref a2)] below meth c s₁ [] 0 0 := Stand.of_body Bd
  have e0 : s₁.heap = h0 := by rw [← hh, Bd.state]; rfl
  have N0 := Fr.nil n0
  have K0 : Keep h0 h0 [] := Keep.refl _ _
  refine (?_ : OG p e below s (Q4s Z a1 a2 v0 v1 v2 w0 w1 w2 h0 n0) rom_4s.cells rom_4s.slots _)
  rw [ef_4s]
  have s1 : ∀ t, Steps p.tables e below (s₁.setTop (mkF m 1 #[.val (.ref a1), .val (.ref a2), .unset] [(.ref a2)])) t → Steps p.tables e below (s₁.setTop (mkF m 0 #[.val (.ref a1), .val (.ref a2), .unset] [])) t := by
    intro t k
    refine XS.aloadN X0.here hx rfl (hb hby d4_0) rfl rfl ?_
    exact k
  refine OG.step s1 ?_
  obtain ⟨T2, X2, e2, st2⟩ := instY X0 hx hZ hown (hw _ (List.mem_of_getElem? (i := 31) rfl)) e0 (Ins.self F0_a2) (g := (mkF m 1 #[.val (.ref a1), .val (.ref a2), .unset] [(.ref a2)])) rfl rfl (hb hby d4_1)
  refine OG.step st2 ?_
  show OG _ _ _ _ _ _ _ (T2.setTop (mkF m 4 #[.val (.ref a1), .val (.ref a2), .unset] [(.int (1 : Int32))]))
  have s3 : ∀ t, Steps p.tables e below (T2.setTop (mkF m 8 #[.val (.ref a1), .val (.ref a2), .unset] [(.ref a2)])) t → Steps p.tables e below (T2.setTop (mkF m 4 #[.val (.ref a1), .val (.ref a2), .unset] [(.int (1 : Int32))])) t := by
    intro t k
    refine XS.ifNo X2.here hx rfl (hb hby d4_4) rfl ((if0 _ _).trans (feq (by decide)).1) ?_
    show Steps p.tables e below (T2.setTop (mkF m 7 #[.val (.ref a1), .val (.ref a2), .unset] [])) _
    refine XS.aloadN X2.here hx rfl (hb hby d4_7) rfl rfl ?_
    exact k
  refine OG.step s3 ?_
  obtain ⟨T4, X4, e4, st4⟩ := castY X2 hx hZ hown (hw _ (List.mem_of_getElem? (i := 31) rfl)) e2 (Ins.self F0_a2) (g := (mkF m 8 #[.val (.ref a1), .val (.ref a2), .unset] [(.ref a2)])) rfl rfl (hb hby d4_8)
  refine OG.step st4 ?_
  show OG _ _ _ _ _ _ _ (T4.setTop (mkF m 11 #[.val (.ref a1), .val (.ref a2), .unset] [(.ref a2)]))
  have s5 : ∀ t, Steps p.tables e below (T4.setTop (mkF m 18 #[.val (.ref a1), .val (.ref a2), .val (.ref a2)] [(.ref a1)])) t → Steps p.tables e below (T4.setTop (mkF m 11 #[.val (.ref a1), .val (.ref a2), .unset] [(.ref a2)])) t := by
    intro t k
    refine XS.astoreN X4.here hx rfl (hb hby d4_11) rfl rfl (l' := #[.val (.ref a1), .val (.ref a2), .val (.ref a2)]) rfl ?_
    show Steps p.tables e below (T4.setTop (mkF m 12 #[.val (.ref a1), .val (.ref a2), .val (.ref a2)] [])) _
    refine XS.goto X4.here hx rfl (pc0 := 12) (pc' := 17) rfl (hb hby d4_12) (by decide) (by decide) ?_
    show Steps p.tables e below (T4.setTop (mkF m 17 #[.val (.ref a1), .val (.ref a2), .val (.ref a2)] [])) _
    refine XS.aloadN X4.here hx rfl (hb hby d4_17) rfl rfl ?_
    exact k
  refine OG.step s5 ?_
  obtain ⟨T6, X6, e6, st6⟩ := getF X4 hx hZ hown (host := "") (Or.inl (hw _ (List.mem_of_getElem? (i := 9) rfl))) Via.refl e4 F1_a1_width (g := (mkF m 18 #[.val (.ref a1), .val (.ref a2), .val (.ref a2)] [(.ref a1)])) rfl rfl (hb hby d4_18)
  refine OG.step st6 ?_
  show OG _ _ _ _ _ _ _ (T6.setTop (mkF m 21 #[.val (.ref a1), .val (.ref a2), .val (.ref a2)] [(.int v0)]))
  have s7 : ∀ t, Steps p.tables e below (T6.setTop (mkF m 22 #[.val (.ref a1), .val (.ref a2), .val (.ref a2)] [(.ref a2), (.int v0)])) t → Steps p.tables e below (T6.setTop (mkF m 21 #[.val (.ref a1), .val (.ref a2), .val (.ref a2)] [(.int v0)])) t := by
    intro t k
    refine XS.aloadN X6.here hx rfl (hb hby d4_21) rfl rfl ?_
    exact k
  refine OG.step s7 ?_
  obtain ⟨T8, X8, e8, st8⟩ := getF X6 hx hZ hown (host := "") (Or.inl (hw _ (List.mem_of_getElem? (i := 9) rfl))) Via.refl e6 F4_a2_width (g := (mkF m 22 #[.val (.ref a1), .val (.ref a2), .val (.ref a2)] [(.ref a2), (.int v0)])) rfl rfl (hb hby d4_22)
  refine OG.step st8 ?_
  show OG _ _ _ _ _ _ _ (T8.setTop (mkF m 25 #[.val (.ref a1), .val (.ref a2), .val (.ref a2)] [(.int w0), (.int v0)]))
  by_cases hc25 : v0 = w0
  · have s9 : ∀ t, Steps p.tables e below (T8.setTop (mkF m 29 #[.val (.ref a1), .val (.ref a2), .val (.ref a2)] [(.ref a1)])) t → Steps p.tables e below (T8.setTop (mkF m 25 #[.val (.ref a1), .val (.ref a2), .val (.ref a2)] [(.int w0), (.int v0)])) t := by
      intro t k
      refine XS.icmpNo X8.here hx rfl (hb hby d4_25) rfl (teq hc25).2 ?_
      show Steps p.tables e below (T8.setTop (mkF m 28 #[.val (.ref a1), .val (.ref a2), .val (.ref a2)] [])) _
      refine XS.aloadN X8.here hx rfl (hb hby d4_28) rfl rfl ?_
      exact k
    refine OG.step s9 ?_
    obtain ⟨T10, X10, e10, st10⟩ := getF X8 hx hZ hown (host := "") (Or.inl (hw _ (List.mem_of_getElem? (i := 11) rfl))) Via.refl e8 F2_a1_height (g := (mkF m 29 #[.val (.ref a1), .val (.ref a2), .val (.ref a2)] [(.ref a1)])) rfl rfl (hb hby d4_29)
    refine OG.step st10 ?_
    show OG _ _ _ _ _ _ _ (T10.setTop (mkF m 32 #[.val (.ref a1), .val (.ref a2), .val (.ref a2)] [(.int v1)]))
    have s11 : ∀ t, Steps p.tables e below (T10.setTop (mkF m 33 #[.val (.ref a1), .val (.ref a2), .val (.ref a2)] [(.ref a2), (.int v1)])) t → Steps p.tables e below (T10.setTop (mkF m 32 #[.val (.ref a1), .val (.ref a2), .val (.ref a2)] [(.int v1)])) t := by
      intro t k
      refine XS.aloadN X10.here hx rfl (hb hby d4_32) rfl rfl ?_
      exact k
    refine OG.step s11 ?_
    obtain ⟨T12, X12, e12, st12⟩ := getF X10 hx hZ hown (host := "") (Or.inl (hw _ (List.mem_of_getElem? (i := 11) rfl))) Via.refl e10 F5_a2_height (g := (mkF m 33 #[.val (.ref a1), .val (.ref a2), .val (.ref a2)] [(.ref a2), (.int v1)])) rfl rfl (hb hby d4_33)
    refine OG.step st12 ?_
    show OG _ _ _ _ _ _ _ (T12.setTop (mkF m 36 #[.val (.ref a1), .val (.ref a2), .val (.ref a2)] [(.int w1), (.int v1)]))
    by_cases hc36 : v1 = w1
    · have s13 : ∀ t, Steps p.tables e below (T12.setTop (mkF m 40 #[.val (.ref a1), .val (.ref a2), .val (.ref a2)] [(.ref a1)])) t → Steps p.tables e below (T12.setTop (mkF m 36 #[.val (.ref a1), .val (.ref a2), .val (.ref a2)] [(.int w1), (.int v1)])) t := by
        intro t k
        refine XS.icmpNo X12.here hx rfl (hb hby d4_36) rfl (teq hc36).2 ?_
        show Steps p.tables e below (T12.setTop (mkF m 39 #[.val (.ref a1), .val (.ref a2), .val (.ref a2)] [])) _
        refine XS.aloadN X12.here hx rfl (hb hby d4_39) rfl rfl ?_
        exact k
      refine OG.step s13 ?_
      obtain ⟨T14, X14, e14, st14⟩ := getF X12 hx hZ hown (host := "") (Or.inl (hw _ (List.mem_of_getElem? (i := 13) rfl))) Via.refl e12 F3_a1_value (g := (mkF m 40 #[.val (.ref a1), .val (.ref a2), .val (.ref a2)] [(.ref a1)])) rfl rfl (hb hby d4_40)
      refine OG.step st14 ?_
      show OG _ _ _ _ _ _ _ (T14.setTop (mkF m 43 #[.val (.ref a1), .val (.ref a2), .val (.ref a2)] [(.int v2)]))
      have s15 : ∀ t, Steps p.tables e below (T14.setTop (mkF m 44 #[.val (.ref a1), .val (.ref a2), .val (.ref a2)] [(.ref a2), (.int v2)])) t → Steps p.tables e below (T14.setTop (mkF m 43 #[.val (.ref a1), .val (.ref a2), .val (.ref a2)] [(.int v2)])) t := by
        intro t k
        refine XS.aloadN X14.here hx rfl (hb hby d4_43) rfl rfl ?_
        exact k
      refine OG.step s15 ?_
      obtain ⟨T16, X16, e16, st16⟩ := getF X14 hx hZ hown (host := "") (Or.inl (hw _ (List.mem_of_getElem? (i := 13) rfl))) Via.refl e14 F6_a2_value (g := (mkF m 44 #[.val (.ref a1), .val (.ref a2), .val (.ref a2)] [(.ref a2), (.int v2)])) rfl rfl (hb hby d4_44)
      refine OG.step st16 ?_
      show OG _ _ _ _ _ _ _ (T16.setTop (mkF m 47 #[.val (.ref a1), .val (.ref a2), .val (.ref a2)] [(.int w2), (.int v2)]))
      by_cases hc47 : v2 = w2
      · have s17 : ∀ t, Steps p.tables e below (T16.setTop (mkF m 55 #[.val (.ref a1), .val (.ref a2), .val (.ref a2)] [(.int (1 : Int32))])) t → Steps p.tables e below (T16.setTop (mkF m 47 #[.val (.ref a1), .val (.ref a2), .val (.ref a2)] [(.int w2), (.int v2)])) t := by
          intro t k
          refine XS.icmpNo X16.here hx rfl (hb hby d4_47) rfl (teq hc47).2 ?_
          show Steps p.tables e below (T16.setTop (mkF m 50 #[.val (.ref a1), .val (.ref a2), .val (.ref a2)] [])) _
          refine XS.iconst X16.here hx rfl (hb hby d4_50) ?_
          show Steps p.tables e below (T16.setTop (mkF m 51 #[.val (.ref a1), .val (.ref a2), .val (.ref a2)] [(.int (1 : Int32))])) _
          refine XS.goto X16.here hx rfl (pc0 := 51) (pc' := 55) rfl (hb hby d4_51) (by decide) (by decide) ?_
          exact k
        refine OG.step s17 ?_
        exact OG.retZ X16 hx hlk Bd.returns (hb hby d4_55) (nar_1) e16 ⟨(by simp [bI, hc25, hc36, hc47]), N0, rfl⟩ (by decide) (by decide)
      · have s18 : ∀ t, Steps p.tables e below (T16.setTop (mkF m 55 #[.val (.ref a1), .val (.ref a2), .val (.ref a2)] [(.int (0 : Int32))])) t → Steps p.tables e below (T16.setTop (mkF m 47 #[.val (.ref a1), .val (.ref a2), .val (.ref a2)] [(.int w2), (.int v2)])) t := by
          intro t k
          refine XS.icmpYes X16.here hx rfl (pc0 := 47) (pc' := 54) rfl (hb hby d4_47) rfl (feq hc47).2 (by decide) (by decide) ?_
          show Steps p.tables e below (T16.setTop (mkF m 54 #[.val (.ref a1), .val (.ref a2), .val (.ref a2)] [])) _
          refine XS.iconst X16.here hx rfl (hb hby d4_54) ?_
          exact k
        refine OG.step s18 ?_
        exact OG.retZ X16 hx hlk Bd.returns (hb hby d4_55) (nar_0) e16 ⟨(by simp [bI, hc25, hc36, hc47]), N0, rfl⟩ (by decide) (by decide)
    · have s19 : ∀ t, Steps p.tables e below (T12.setTop (mkF m 55 #[.val (.ref a1), .val (.ref a2), .val (.ref a2)] [(.int (0 : Int32))])) t → Steps p.tables e below (T12.setTop (mkF m 36 #[.val (.ref a1), .val (.ref a2), .val (.ref a2)] [(.int w1), (.int v1)])) t := by
        intro t k
        refine XS.icmpYes X12.here hx rfl (pc0 := 36) (pc' := 54) rfl (hb hby d4_36) rfl (feq hc36).2 (by decide) (by decide) ?_
        show Steps p.tables e below (T12.setTop (mkF m 54 #[.val (.ref a1), .val (.ref a2), .val (.ref a2)] [])) _
        refine XS.iconst X12.here hx rfl (hb hby d4_54) ?_
        exact k
      refine OG.step s19 ?_
      exact OG.retZ X12 hx hlk Bd.returns (hb hby d4_55) (nar_0) e12 ⟨(by simp [bI, hc25, hc36]), N0, rfl⟩ (by decide) (by decide)
  · have s20 : ∀ t, Steps p.tables e below (T8.setTop (mkF m 55 #[.val (.ref a1), .val (.ref a2), .val (.ref a2)] [(.int (0 : Int32))])) t → Steps p.tables e below (T8.setTop (mkF m 25 #[.val (.ref a1), .val (.ref a2), .val (.ref a2)] [(.int w0), (.int v0)])) t := by
      intro t k
      refine XS.icmpYes X8.here hx rfl (pc0 := 25) (pc' := 54) rfl (hb hby d4_25) rfl (feq hc25).2 (by decide) (by decide) ?_
      show Steps p.tables e below (T8.setTop (mkF m 54 #[.val (.ref a1), .val (.ref a2), .val (.ref a2)] [])) _
      refine XS.iconst X8.here hx rfl (hb hby d4_54) ?_
      exact k
    refine OG.step s20 ?_
    exact OG.retZ X8 hx hlk Bd.returns (hb hby d4_55) (nar_0) e8 ⟨(by simp [bI, hc25]), N0, rfl⟩ (by decide) (by decide)
theorem ef_4n (m : MethodId) (x0 : Addr) : entryFrame m #[(.ref x0), .null] 3 = mkF m 0 #[.val (.ref x0), .val .null, .unset] [] := by first | (simp [entryFrame, mkF, argsToLocals, Value.category]; done) | rfl
def Q4n (Z : State) (a1 : Addr) (h0 : Heap) (n0 : Nat) (v : Option Value) (h : Heap) (L : List Loc) : Prop := (v = some (.int (0 : Int32))) ∧ (Fr n0 L) ∧ (h = h0)
abbrev rom_4n : Room := { frames := 0, cells := 0, slots := 0, locals := 0 }
set_option maxRecDepth 65536 in
set_option maxHeartbeats 40000000 in
theorem rm4n (l : Launch) (Z : State) (a0 : Array Value) (hw : ∀ d ∈ tables_1, d.before a0 Z = true) (ws : List Jvm.Cond) (a1 : Addr) (h0 : Heap) (n0 : Nat) (Z0 : n0 ≤ h0.size) :
    MetFree l (⟨"com/example/ludus/ludus/PackingTask$Good", "equals", "(Ljava/lang/Object;)Z"⟩ : MethodName) (head1 (Jvm.Cond.code (⟨"com/example/ludus/ludus/PackingTask$Good", "equals", "(Ljava/lang/Object;)Z"⟩ : MethodName) prog_51_method_5_code 3 (some .boolean) :: ws) rom_4n) (fun a U => a = #[(.ref a1), .null] ∧ Z.Warmed39 U.vm ∧ U.heap = h0) (fun _ _ _ _ _ => True) (fun _ U o U' => ∃ v L, o = .returned v ∧ Q4n Z a1 h0 n0 v U'.heap L ∧ FrameEnd U o U' L rom_4n.cells rom_4n.slots) := by
  refine MetFree.of_bodySF (plainFor_of_name pn_com_example_ludus_ludus_PackingTask_Good) hisR ?_
  intro p e s m args below meth c s₁ Bd hml0 hP hK
  obtain ⟨rfl, hZ, hh⟩ := hP
  have hx := Bd.exec
  have hby := Bd.bytes
  have hlk := Bd.notSynchronized
  have hml : c.maxLocals = 3 := hml0
  have hown : s.vm.findClass "com/example/ludus/ludus/PackingTask$Good" = some m.cls := findClass_of_methodNamed Bd.named
  have hnm := (name_of_methodNamed Bd.named Bd.method).1
  have X0 : Stand p l e rom_4n s m #[(.ref a1), .null] below meth c s₁ [] 0 0 := Stand.of_body Bd
  have e0 : s₁.heap = h0 := by rw [← hh, Bd.state]; rfl
  have N0 := Fr.nil n0
  have K0 : Keep h0 h0 [] := Keep.refl _ _
  refine (?_ : OG p e below s (Q4n Z a1 h0 n0) rom_4n.cells rom_4n.slots _)
  rw [ef_4n]
  have s1 : ∀ t, Steps p.tables e below (s₁.setTop (mkF m 1 #[.val (.ref a1), .val .null, .unset] [.null])) t → Steps p.tables e below (s₁.setTop (mkF m 0 #[.val (.ref a1), .val .null, .unset] [])) t := by
    intro t k
    refine XS.aloadN X0.here hx rfl (hb hby d4_0) rfl rfl ?_
    exact k
  refine OG.step s1 ?_
  refine OG.step (X0.instanceofNull hx (g := (mkF m 1 #[.val (.ref a1), .val .null, .unset] [.null])) rfl rfl (hb hby d4_1)) ?_
  show OG _ _ _ _ _ _ _ (s₁.setTop (mkF m 4 #[.val (.ref a1), .val .null, .unset] [(.int (0 : Int32))]))
  have s2 : ∀ t, Steps p.tables e below (s₁.setTop (mkF m 16 #[.val (.ref a1), .val .null, .unset] [(.int (0 : Int32))])) t → Steps p.tables e below (s₁.setTop (mkF m 4 #[.val (.ref a1), .val .null, .unset] [(.int (0 : Int32))])) t := by
    intro t k
    refine XS.ifYes X0.here hx rfl (pc0 := 4) (pc' := 15) rfl (hb hby d4_4) rfl ((if0 _ _).trans (teq rfl).1) (by decide) (by decide) ?_
    show Steps p.tables e below (s₁.setTop (mkF m 15 #[.val (.ref a1), .val .null, .unset] [])) _
    refine XS.iconst X0.here hx rfl (hb hby d4_15) ?_
    exact k
  refine OG.step s2 ?_
  exact OG.retZ X0 hx hlk Bd.returns (hb hby d4_16) (nar_0) e0 ⟨rfl, N0, rfl⟩ (by decide) (by decide)
theorem ef_4o (m : MethodId) (x0 : Addr) (x1 : Addr) : entryFrame m #[(.ref x0), (.ref x1)] 3 = mkF m 0 #[.val (.ref x0), .val (.ref x1), .unset] [] := by first | (simp [entryFrame, mkF, argsToLocals, Value.category]; done) | rfl
def Q4o (Z : State) (a1 : Addr) (a2 : Addr) (h0 : Heap) (n0 : Nat) (v : Option Value) (h : Heap) (L : List Loc) : Prop := (v = some (.int (0 : Int32))) ∧ (Fr n0 L) ∧ (h = h0)
abbrev rom_4o : Room := { frames := 0, cells := 0, slots := 0, locals := 0 }
set_option maxRecDepth 65536 in
set_option maxHeartbeats 40000000 in
theorem rm4o (l : Launch) (Z : State) (a0 : Array Value) (hw : ∀ d ∈ tables_1, d.before a0 Z = true) (ws : List Jvm.Cond) (a1 : Addr) (a2 : Addr) (h0 : Heap) (n0 : Nat) (Z0 : n0 ≤ h0.size) (F0_a2 : Exa Z h0 a2 "com/example/ludus/ludus/PackingTask$Bag") :
    MetFree l (⟨"com/example/ludus/ludus/PackingTask$Good", "equals", "(Ljava/lang/Object;)Z"⟩ : MethodName) (head1 (Jvm.Cond.code (⟨"com/example/ludus/ludus/PackingTask$Good", "equals", "(Ljava/lang/Object;)Z"⟩ : MethodName) prog_51_method_5_code 3 (some .boolean) :: ws) rom_4o) (fun a U => a = #[(.ref a1), (.ref a2)] ∧ Z.Warmed39 U.vm ∧ U.heap = h0) (fun _ _ _ _ _ => True) (fun _ U o U' => ∃ v L, o = .returned v ∧ Q4o Z a1 a2 h0 n0 v U'.heap L ∧ FrameEnd U o U' L rom_4o.cells rom_4o.slots) := by
  refine MetFree.of_bodySF (plainFor_of_name pn_com_example_ludus_ludus_PackingTask_Good) hisR ?_
  intro p e s m args below meth c s₁ Bd hml0 hP hK
  obtain ⟨rfl, hZ, hh⟩ := hP
  have hx := Bd.exec
  have hby := Bd.bytes
  have hlk := Bd.notSynchronized
  have hml : c.maxLocals = 3 := hml0
  have hown : s.vm.findClass "com/example/ludus/ludus/PackingTask$Good" = some m.cls := findClass_of_methodNamed Bd.named
  have hnm := (name_of_methodNamed Bd.named Bd.method).1
  have X0 : Stand p l e rom_4o s m #[(.ref a1), (.ref a2)] below meth c s₁ [] 0 0 := Stand.of_body Bd
  have e0 : s₁.heap = h0 := by rw [← hh, Bd.state]; rfl
  have N0 := Fr.nil n0
  have K0 : Keep h0 h0 [] := Keep.refl _ _
  refine (?_ : OG p e below s (Q4o Z a1 a2 h0 n0) rom_4o.cells rom_4o.slots _)
  rw [ef_4o]
  have s1 : ∀ t, Steps p.tables e below (s₁.setTop (mkF m 1 #[.val (.ref a1), .val (.ref a2), .unset] [(.ref a2)])) t → Steps p.tables e below (s₁.setTop (mkF m 0 #[.val (.ref a1), .val (.ref a2), .unset] [])) t := by
    intro t k
    refine XS.aloadN X0.here hx rfl (hb hby d4_0) rfl rfl ?_
    exact k
  refine OG.step s1 ?_
  obtain ⟨T2, X2, e2, st2⟩ := instN X0 hx hZ hown (hw _ (List.mem_of_getElem? (i := 31) rfl)) e0 (by rw [hh]; exact own_ni hw F0_a2) (by rw [hh]; exact F0_a2) (g := (mkF m 1 #[.val (.ref a1), .val (.ref a2), .unset] [(.ref a2)])) rfl rfl (hb hby d4_1)
  refine OG.step st2 ?_
  show OG _ _ _ _ _ _ _ (T2.setTop (mkF m 4 #[.val (.ref a1), .val (.ref a2), .unset] [(.int (0 : Int32))]))
  have s3 : ∀ t, Steps p.tables e below (T2.setTop (mkF m 16 #[.val (.ref a1), .val (.ref a2), .unset] [(.int (0 : Int32))])) t → Steps p.tables e below (T2.setTop (mkF m 4 #[.val (.ref a1), .val (.ref a2), .unset] [(.int (0 : Int32))])) t := by
    intro t k
    refine XS.ifYes X2.here hx rfl (pc0 := 4) (pc' := 15) rfl (hb hby d4_4) rfl ((if0 _ _).trans (teq rfl).1) (by decide) (by decide) ?_
    show Steps p.tables e below (T2.setTop (mkF m 15 #[.val (.ref a1), .val (.ref a2), .unset] [])) _
    refine XS.iconst X2.here hx rfl (hb hby d4_15) ?_
    exact k
  refine OG.step s3 ?_
  exact OG.retZ X2 hx hlk Bd.returns (hb hby d4_16) (nar_0) e2 ⟨rfl, N0, rfl⟩ (by decide) (by decide)
theorem pn_com_example_ludus_ludus_GoodEqualsPinLaw : plainName "com/example/ludus/ludus/GoodEqualsPinLaw" = true := by first | (simp [plainName, overriddenIn]; done) | decide +kernel
theorem ef_0 (m : MethodId) (x0 : Int32) (x1 : Int32) (x2 : Int32) (x3 : Int32) (x4 : Int32) : entryFrame m #[(.int x0), (.int x1), (.int x2), (.int x3), (.int x4)] maxLocals = mkF m 0 #[.val (.int x0), .val (.int x1), .val (.int x2), .val (.int x3), .val (.int x4), .unset, .unset, .unset, .unset, .unset, .unset, .unset, .unset, .unset, .unset, .unset, .unset, .unset, .unset] [] := by first | (simp [entryFrame, mkF, argsToLocals, Value.category, maxLocals]; done) | rfl
def Q0 (Z : State) (p0 : Int32) (p1 : Int32) (p2 : Int32) (p3 : Int32) (p4 : Int32) (h0 : Heap) (n0 : Nat) (v : Option Value) (h : Heap) (L : List Loc) : Prop := (v = some (.int (1 : Int32))) ∧ (Fr n0 L)
theorem pd__III_V : parseMethodDescriptor "(III)V" = some ⟨[.int, .int, .int], none⟩ := by decide +kernel
theorem pd__II_V : parseMethodDescriptor "(II)V" = some ⟨[.int, .int], none⟩ := by decide +kernel
theorem pd__Ljava_lang_Object__Z : parseMethodDescriptor "(Ljava/lang/Object;)Z" = some ⟨[(.object "java/lang/Object")], some .boolean⟩ := by decide +kernel
set_option maxRecDepth 65536 in
set_option maxHeartbeats 40000000 in
theorem rm0 (l : Launch) (Z : State) (a0 : Array Value) (hw : ∀ d ∈ tables_1, d.before a0 Z = true) (ws : List Jvm.Cond) (p0 : Int32) (p1 : Int32) (p2 : Int32) (p3 : Int32) (p4 : Int32) (h0 : Heap) (n0 : Nat) (Z0 : n0 ≤ h0.size) :
    MetFree l x (head1 (Jvm.Cond.code x code maxLocals ret :: ws) room_1) (fun a U => a = #[(.int p0), (.int p1), (.int p2), (.int p3), (.int p4)] ∧ Z.Warmed39 U.vm ∧ U.heap = h0) (fun _ _ _ _ _ => True) (fun _ U o U' => ∃ v L, o = .returned v ∧ Q0 Z p0 p1 p2 p3 p4 h0 n0 v U'.heap L ∧ FrameEnd U o U' L room_1.cells room_1.slots) := by
  refine MetFree.of_bodySF (plainFor_of_name pn_com_example_ludus_ludus_GoodEqualsPinLaw) hisR ?_
  intro p e s m args below meth c s₁ Bd hml0 hP hK
  obtain ⟨rfl, hZ, hh⟩ := hP
  have hx := Bd.exec
  have hby := Bd.bytes
  have hlk := Bd.notSynchronized
  have hml : c.maxLocals = 19 := hml0
  have hown : s.vm.findClass "com/example/ludus/ludus/GoodEqualsPinLaw" = some m.cls := findClass_of_methodNamed Bd.named
  have hnm := (name_of_methodNamed Bd.named Bd.method).1
  have X0 : Stand p l e room_1 s m #[(.int p0), (.int p1), (.int p2), (.int p3), (.int p4)] below meth c s₁ [] 0 0 := Stand.of_body Bd
  have e0 : s₁.heap = h0 := by rw [← hh, Bd.state]; rfl
  have N0 := Fr.nil n0
  have K0 : Keep h0 h0 [] := Keep.refl _ _
  refine (?_ : OG p e below s (Q0 Z p0 p1 p2 p3 p4 h0 n0) room_1.cells room_1.slots _)
  rw [ef_0]
  have s1 : ∀ t, Steps p.tables e below (s₁.setTop (mkF m 12 #[.val (.int p0), .val (.int p1), .val (.int p2), .val (.int p3), .val (.int p4), .unset, .unset, .unset, .unset, .unset, .unset, .unset, .unset, .unset, .unset, .unset, .unset, .unset, .unset] [(.int (bI (¬ ((p4 &&& (1 : Int32)) = (0 : Int32)))))])) t → Steps p.tables e below (s₁.setTop (mkF m 0 #[.val (.int p0), .val (.int p1), .val (.int p2), .val (.int p3), .val (.int p4), .unset, .unset, .unset, .unset, .unset, .unset, .unset, .unset, .unset, .unset, .unset, .unset, .unset, .unset] [])) t := by
    intro t k
    refine XS.iload X0.here hx rfl (hb hby at_0) rfl ?_
    show Steps p.tables e below (s₁.setTop (mkF m 2 #[.val (.int p0), .val (.int p1), .val (.int p2), .val (.int p3), .val (.int p4), .unset, .unset, .unset, .unset, .unset, .unset, .unset, .unset, .unset, .unset, .unset, .unset, .unset, .unset] [(.int p4)])) _
    refine XS.iconst X0.here hx rfl (hb hby at_2) ?_
    show Steps p.tables e below (s₁.setTop (mkF m 3 #[.val (.int p0), .val (.int p1), .val (.int p2), .val (.int p3), .val (.int p4), .unset, .unset, .unset, .unset, .unset, .unset, .unset, .unset, .unset, .unset, .unset, .unset, .unset, .unset] [(.int (1 : Int32)), (.int p4)])) _
    refine XS.iand X0.here hx rfl (hb hby at_3) rfl ?_
    show Steps p.tables e below (s₁.setTop (mkF m 4 #[.val (.int p0), .val (.int p1), .val (.int p2), .val (.int p3), .val (.int p4), .unset, .unset, .unset, .unset, .unset, .unset, .unset, .unset, .unset, .unset, .unset, .unset, .unset, .unset] [(.int (p4 &&& (1 : Int32)))])) _
    by_cases hm4 : (p4 &&& (1 : Int32)) = (0 : Int32)
    · refine XS.ifYes X0.here hx rfl (pc0 := 4) (pc' := 11) rfl (hb hby at_4) rfl ((if0 _ _).trans (teq hm4).1) (by decide) (by decide) ?_
      show Steps p.tables e below (s₁.setTop (mkF m 11 #[.val (.int p0), .val (.int p1), .val (.int p2), .val (.int p3), .val (.int p4), .unset, .unset, .unset, .unset, .unset, .unset, .unset, .unset, .unset, .unset, .unset, .unset, .unset, .unset] [])) _
      refine XS.iconst X0.here hx rfl (hb hby at_11) ?_
      show Steps p.tables e below (s₁.setTop (mkF m 12 #[.val (.int p0), .val (.int p1), .val (.int p2), .val (.int p3), .val (.int p4), .unset, .unset, .unset, .unset, .unset, .unset, .unset, .unset, .unset, .unset, .unset, .unset, .unset, .unset] [(.int (0 : Int32))])) _
      rw [show (bI (¬ ((p4 &&& (1 : Int32)) = (0 : Int32)))) = (0 : Int32) from bI_neg (P := ¬ ((p4 &&& (1 : Int32)) = (0 : Int32))) (fun z => z hm4)] at k
      exact k
    · refine XS.ifNo X0.here hx rfl (hb hby at_4) rfl ((if0 _ _).trans (feq hm4).1) ?_
      show Steps p.tables e below (s₁.setTop (mkF m 7 #[.val (.int p0), .val (.int p1), .val (.int p2), .val (.int p3), .val (.int p4), .unset, .unset, .unset, .unset, .unset, .unset, .unset, .unset, .unset, .unset, .unset, .unset, .unset, .unset] [])) _
      refine XS.iconst X0.here hx rfl (hb hby at_7) ?_
      show Steps p.tables e below (s₁.setTop (mkF m 8 #[.val (.int p0), .val (.int p1), .val (.int p2), .val (.int p3), .val (.int p4), .unset, .unset, .unset, .unset, .unset, .unset, .unset, .unset, .unset, .unset, .unset, .unset, .unset, .unset] [(.int (1 : Int32))])) _
      refine XS.goto X0.here hx rfl (pc0 := 8) (pc' := 12) rfl (hb hby at_8) (by decide) (by decide) ?_
      show Steps p.tables e below (s₁.setTop (mkF m 12 #[.val (.int p0), .val (.int p1), .val (.int p2), .val (.int p3), .val (.int p4), .unset, .unset, .unset, .unset, .unset, .unset, .unset, .unset, .unset, .unset, .unset, .unset, .unset, .unset] [(.int (1 : Int32))])) _
      rw [show (bI (¬ ((p4 &&& (1 : Int32)) = (0 : Int32)))) = (1 : Int32) from bI_pos (P := ¬ ((p4 &&& (1 : Int32)) = (0 : Int32))) hm4] at k
      exact k
  refine OG.step s1 ?_
  have s2 : ∀ t, Steps p.tables e below (s₁.setTop (mkF m 14 #[.val (.int p0), .val (.int p1), .val (.int p2), .val (.int p3), .val (.int p4), .val (.int (bI (¬ ((p4 &&& (1 : Int32)) = (0 : Int32))))), .unset, .unset, .unset, .unset, .unset, .unset, .unset, .unset, .unset, .unset, .unset, .unset, .unset] [])) t → Steps p.tables e below (s₁.setTop (mkF m 12 #[.val (.int p0), .val (.int p1), .val (.int p2), .val (.int p3), .val (.int p4), .unset, .unset, .unset, .unset, .unset, .unset, .unset, .unset, .unset, .unset, .unset, .unset, .unset, .unset] [(.int (bI (¬ ((p4 &&& (1 : Int32)) = (0 : Int32)))))])) t := by
    intro t k
    refine XS.istore X0.here hx rfl (hb hby at_12) rfl (l' := #[.val (.int p0), .val (.int p1), .val (.int p2), .val (.int p3), .val (.int p4), .val (.int (bI (¬ ((p4 &&& (1 : Int32)) = (0 : Int32))))), .unset, .unset, .unset, .unset, .unset, .unset, .unset, .unset, .unset, .unset, .unset, .unset, .unset]) rfl ?_
    exact k
  refine OG.step s2 ?_
  have s3 : ∀ t, Steps p.tables e below (s₁.setTop (mkF m 26 #[.val (.int p0), .val (.int p1), .val (.int p2), .val (.int p3), .val (.int p4), .val (.int (bI (¬ ((p4 &&& (1 : Int32)) = (0 : Int32))))), .unset, .unset, .unset, .unset, .unset, .unset, .unset, .unset, .unset, .unset, .unset, .unset, .unset] [(.int (bI (¬ ((p4 &&& (2 : Int32)) = (0 : Int32)))))])) t → Steps p.tables e below (s₁.setTop (mkF m 14 #[.val (.int p0), .val (.int p1), .val (.int p2), .val (.int p3), .val (.int p4), .val (.int (bI (¬ ((p4 &&& (1 : Int32)) = (0 : Int32))))), .unset, .unset, .unset, .unset, .unset, .unset, .unset, .unset, .unset, .unset, .unset, .unset, .unset] [])) t := by
    intro t k
    refine XS.iload X0.here hx rfl (hb hby at_14) rfl ?_
    show Steps p.tables e below (s₁.setTop (mkF m 16 #[.val (.int p0), .val (.int p1), .val (.int p2), .val (.int p3), .val (.int p4), .val (.int (bI (¬ ((p4 &&& (1 : Int32)) = (0 : Int32))))), .unset, .unset, .unset, .unset, .unset, .unset, .unset, .unset, .unset, .unset, .unset, .unset, .unset] [(.int p4)])) _
    refine XS.iconst X0.here hx rfl (hb hby at_16) ?_
    show Steps p.tables e below (s₁.setTop (mkF m 17 #[.val (.int p0), .val (.int p1), .val (.int p2), .val (.int p3), .val (.int p4), .val (.int (bI (¬ ((p4 &&& (1 : Int32)) = (0 : Int32))))), .unset, .unset, .unset, .unset, .unset, .unset, .unset, .unset, .unset, .unset, .unset, .unset, .unset] [(.int (2 : Int32)), (.int p4)])) _
    refine XS.iand X0.here hx rfl (hb hby at_17) rfl ?_
    show Steps p.tables e below (s₁.setTop (mkF m 18 #[.val (.int p0), .val (.int p1), .val (.int p2), .val (.int p3), .val (.int p4), .val (.int (bI (¬ ((p4 &&& (1 : Int32)) = (0 : Int32))))), .unset, .unset, .unset, .unset, .unset, .unset, .unset, .unset, .unset, .unset, .unset, .unset, .unset] [(.int (p4 &&& (2 : Int32)))])) _
    by_cases hm18 : (p4 &&& (2 : Int32)) = (0 : Int32)
    · refine XS.ifYes X0.here hx rfl (pc0 := 18) (pc' := 25) rfl (hb hby at_18) rfl ((if0 _ _).trans (teq hm18).1) (by decide) (by decide) ?_
      show Steps p.tables e below (s₁.setTop (mkF m 25 #[.val (.int p0), .val (.int p1), .val (.int p2), .val (.int p3), .val (.int p4), .val (.int (bI (¬ ((p4 &&& (1 : Int32)) = (0 : Int32))))), .unset, .unset, .unset, .unset, .unset, .unset, .unset, .unset, .unset, .unset, .unset, .unset, .unset] [])) _
      refine XS.iconst X0.here hx rfl (hb hby at_25) ?_
      show Steps p.tables e below (s₁.setTop (mkF m 26 #[.val (.int p0), .val (.int p1), .val (.int p2), .val (.int p3), .val (.int p4), .val (.int (bI (¬ ((p4 &&& (1 : Int32)) = (0 : Int32))))), .unset, .unset, .unset, .unset, .unset, .unset, .unset, .unset, .unset, .unset, .unset, .unset, .unset] [(.int (0 : Int32))])) _
      rw [show (bI (¬ ((p4 &&& (2 : Int32)) = (0 : Int32)))) = (0 : Int32) from bI_neg (P := ¬ ((p4 &&& (2 : Int32)) = (0 : Int32))) (fun z => z hm18)] at k
      exact k
    · refine XS.ifNo X0.here hx rfl (hb hby at_18) rfl ((if0 _ _).trans (feq hm18).1) ?_
      show Steps p.tables e below (s₁.setTop (mkF m 21 #[.val (.int p0), .val (.int p1), .val (.int p2), .val (.int p3), .val (.int p4), .val (.int (bI (¬ ((p4 &&& (1 : Int32)) = (0 : Int32))))), .unset, .unset, .unset, .unset, .unset, .unset, .unset, .unset, .unset, .unset, .unset, .unset, .unset] [])) _
      refine XS.iconst X0.here hx rfl (hb hby at_21) ?_
      show Steps p.tables e below (s₁.setTop (mkF m 22 #[.val (.int p0), .val (.int p1), .val (.int p2), .val (.int p3), .val (.int p4), .val (.int (bI (¬ ((p4 &&& (1 : Int32)) = (0 : Int32))))), .unset, .unset, .unset, .unset, .unset, .unset, .unset, .unset, .unset, .unset, .unset, .unset, .unset] [(.int (1 : Int32))])) _
      refine XS.goto X0.here hx rfl (pc0 := 22) (pc' := 26) rfl (hb hby at_22) (by decide) (by decide) ?_
      show Steps p.tables e below (s₁.setTop (mkF m 26 #[.val (.int p0), .val (.int p1), .val (.int p2), .val (.int p3), .val (.int p4), .val (.int (bI (¬ ((p4 &&& (1 : Int32)) = (0 : Int32))))), .unset, .unset, .unset, .unset, .unset, .unset, .unset, .unset, .unset, .unset, .unset, .unset, .unset] [(.int (1 : Int32))])) _
      rw [show (bI (¬ ((p4 &&& (2 : Int32)) = (0 : Int32)))) = (1 : Int32) from bI_pos (P := ¬ ((p4 &&& (2 : Int32)) = (0 : Int32))) hm18] at k
      exact k
  refine OG.step s3 ?_
  have s4 : ∀ t, Steps p.tables e below (s₁.setTop (mkF m 28 #[.val (.int p0), .val (.int p1), .val (.int p2), .val (.int p3), .val (.int p4), .val (.int (bI (¬ ((p4 &&& (1 : Int32)) = (0 : Int32))))), .val (.int (bI (¬ ((p4 &&& (2 : Int32)) = (0 : Int32))))), .unset, .unset, .unset, .unset, .unset, .unset, .unset, .unset, .unset, .unset, .unset, .unset] [])) t → Steps p.tables e below (s₁.setTop (mkF m 26 #[.val (.int p0), .val (.int p1), .val (.int p2), .val (.int p3), .val (.int p4), .val (.int (bI (¬ ((p4 &&& (1 : Int32)) = (0 : Int32))))), .unset, .unset, .unset, .unset, .unset, .unset, .unset, .unset, .unset, .unset, .unset, .unset, .unset] [(.int (bI (¬ ((p4 &&& (2 : Int32)) = (0 : Int32)))))])) t := by
    intro t k
    refine XS.istore X0.here hx rfl (hb hby at_26) rfl (l' := #[.val (.int p0), .val (.int p1), .val (.int p2), .val (.int p3), .val (.int p4), .val (.int (bI (¬ ((p4 &&& (1 : Int32)) = (0 : Int32))))), .val (.int (bI (¬ ((p4 &&& (2 : Int32)) = (0 : Int32))))), .unset, .unset, .unset, .unset, .unset, .unset, .unset, .unset, .unset, .unset, .unset, .unset]) rfl ?_
    exact k
  refine OG.step s4 ?_
  have s5 : ∀ t, Steps p.tables e below (s₁.setTop (mkF m 40 #[.val (.int p0), .val (.int p1), .val (.int p2), .val (.int p3), .val (.int p4), .val (.int (bI (¬ ((p4 &&& (1 : Int32)) = (0 : Int32))))), .val (.int (bI (¬ ((p4 &&& (2 : Int32)) = (0 : Int32))))), .unset, .unset, .unset, .unset, .unset, .unset, .unset, .unset, .unset, .unset, .unset, .unset] [(.int (bI (¬ ((p4 &&& (4 : Int32)) = (0 : Int32)))))])) t → Steps p.tables e below (s₁.setTop (mkF m 28 #[.val (.int p0), .val (.int p1), .val (.int p2), .val (.int p3), .val (.int p4), .val (.int (bI (¬ ((p4 &&& (1 : Int32)) = (0 : Int32))))), .val (.int (bI (¬ ((p4 &&& (2 : Int32)) = (0 : Int32))))), .unset, .unset, .unset, .unset, .unset, .unset, .unset, .unset, .unset, .unset, .unset, .unset] [])) t := by
    intro t k
    refine XS.iload X0.here hx rfl (hb hby at_28) rfl ?_
    show Steps p.tables e below (s₁.setTop (mkF m 30 #[.val (.int p0), .val (.int p1), .val (.int p2), .val (.int p3), .val (.int p4), .val (.int (bI (¬ ((p4 &&& (1 : Int32)) = (0 : Int32))))), .val (.int (bI (¬ ((p4 &&& (2 : Int32)) = (0 : Int32))))), .unset, .unset, .unset, .unset, .unset, .unset, .unset, .unset, .unset, .unset, .unset, .unset] [(.int p4)])) _
    refine XS.iconst X0.here hx rfl (hb hby at_30) ?_
    show Steps p.tables e below (s₁.setTop (mkF m 31 #[.val (.int p0), .val (.int p1), .val (.int p2), .val (.int p3), .val (.int p4), .val (.int (bI (¬ ((p4 &&& (1 : Int32)) = (0 : Int32))))), .val (.int (bI (¬ ((p4 &&& (2 : Int32)) = (0 : Int32))))), .unset, .unset, .unset, .unset, .unset, .unset, .unset, .unset, .unset, .unset, .unset, .unset] [(.int (4 : Int32)), (.int p4)])) _
    refine XS.iand X0.here hx rfl (hb hby at_31) rfl ?_
    show Steps p.tables e below (s₁.setTop (mkF m 32 #[.val (.int p0), .val (.int p1), .val (.int p2), .val (.int p3), .val (.int p4), .val (.int (bI (¬ ((p4 &&& (1 : Int32)) = (0 : Int32))))), .val (.int (bI (¬ ((p4 &&& (2 : Int32)) = (0 : Int32))))), .unset, .unset, .unset, .unset, .unset, .unset, .unset, .unset, .unset, .unset, .unset, .unset] [(.int (p4 &&& (4 : Int32)))])) _
    by_cases hm32 : (p4 &&& (4 : Int32)) = (0 : Int32)
    · refine XS.ifYes X0.here hx rfl (pc0 := 32) (pc' := 39) rfl (hb hby at_32) rfl ((if0 _ _).trans (teq hm32).1) (by decide) (by decide) ?_
      show Steps p.tables e below (s₁.setTop (mkF m 39 #[.val (.int p0), .val (.int p1), .val (.int p2), .val (.int p3), .val (.int p4), .val (.int (bI (¬ ((p4 &&& (1 : Int32)) = (0 : Int32))))), .val (.int (bI (¬ ((p4 &&& (2 : Int32)) = (0 : Int32))))), .unset, .unset, .unset, .unset, .unset, .unset, .unset, .unset, .unset, .unset, .unset, .unset] [])) _
      refine XS.iconst X0.here hx rfl (hb hby at_39) ?_
      show Steps p.tables e below (s₁.setTop (mkF m 40 #[.val (.int p0), .val (.int p1), .val (.int p2), .val (.int p3), .val (.int p4), .val (.int (bI (¬ ((p4 &&& (1 : Int32)) = (0 : Int32))))), .val (.int (bI (¬ ((p4 &&& (2 : Int32)) = (0 : Int32))))), .unset, .unset, .unset, .unset, .unset, .unset, .unset, .unset, .unset, .unset, .unset, .unset] [(.int (0 : Int32))])) _
      rw [show (bI (¬ ((p4 &&& (4 : Int32)) = (0 : Int32)))) = (0 : Int32) from bI_neg (P := ¬ ((p4 &&& (4 : Int32)) = (0 : Int32))) (fun z => z hm32)] at k
      exact k
    · refine XS.ifNo X0.here hx rfl (hb hby at_32) rfl ((if0 _ _).trans (feq hm32).1) ?_
      show Steps p.tables e below (s₁.setTop (mkF m 35 #[.val (.int p0), .val (.int p1), .val (.int p2), .val (.int p3), .val (.int p4), .val (.int (bI (¬ ((p4 &&& (1 : Int32)) = (0 : Int32))))), .val (.int (bI (¬ ((p4 &&& (2 : Int32)) = (0 : Int32))))), .unset, .unset, .unset, .unset, .unset, .unset, .unset, .unset, .unset, .unset, .unset, .unset] [])) _
      refine XS.iconst X0.here hx rfl (hb hby at_35) ?_
      show Steps p.tables e below (s₁.setTop (mkF m 36 #[.val (.int p0), .val (.int p1), .val (.int p2), .val (.int p3), .val (.int p4), .val (.int (bI (¬ ((p4 &&& (1 : Int32)) = (0 : Int32))))), .val (.int (bI (¬ ((p4 &&& (2 : Int32)) = (0 : Int32))))), .unset, .unset, .unset, .unset, .unset, .unset, .unset, .unset, .unset, .unset, .unset, .unset] [(.int (1 : Int32))])) _
      refine XS.goto X0.here hx rfl (pc0 := 36) (pc' := 40) rfl (hb hby at_36) (by decide) (by decide) ?_
      show Steps p.tables e below (s₁.setTop (mkF m 40 #[.val (.int p0), .val (.int p1), .val (.int p2), .val (.int p3), .val (.int p4), .val (.int (bI (¬ ((p4 &&& (1 : Int32)) = (0 : Int32))))), .val (.int (bI (¬ ((p4 &&& (2 : Int32)) = (0 : Int32))))), .unset, .unset, .unset, .unset, .unset, .unset, .unset, .unset, .unset, .unset, .unset, .unset] [(.int (1 : Int32))])) _
      rw [show (bI (¬ ((p4 &&& (4 : Int32)) = (0 : Int32)))) = (1 : Int32) from bI_pos (P := ¬ ((p4 &&& (4 : Int32)) = (0 : Int32))) hm32] at k
      exact k
  refine OG.step s5 ?_
  have s6 : ∀ t, Steps p.tables e below (s₁.setTop (mkF m 42 #[.val (.int p0), .val (.int p1), .val (.int p2), .val (.int p3), .val (.int p4), .val (.int (bI (¬ ((p4 &&& (1 : Int32)) = (0 : Int32))))), .val (.int (bI (¬ ((p4 &&& (2 : Int32)) = (0 : Int32))))), .val (.int (bI (¬ ((p4 &&& (4 : Int32)) = (0 : Int32))))), .unset, .unset, .unset, .unset, .unset, .unset, .unset, .unset, .unset, .unset, .unset] [])) t → Steps p.tables e below (s₁.setTop (mkF m 40 #[.val (.int p0), .val (.int p1), .val (.int p2), .val (.int p3), .val (.int p4), .val (.int (bI (¬ ((p4 &&& (1 : Int32)) = (0 : Int32))))), .val (.int (bI (¬ ((p4 &&& (2 : Int32)) = (0 : Int32))))), .unset, .unset, .unset, .unset, .unset, .unset, .unset, .unset, .unset, .unset, .unset, .unset] [(.int (bI (¬ ((p4 &&& (4 : Int32)) = (0 : Int32)))))])) t := by
    intro t k
    refine XS.istore X0.here hx rfl (hb hby at_40) rfl (l' := #[.val (.int p0), .val (.int p1), .val (.int p2), .val (.int p3), .val (.int p4), .val (.int (bI (¬ ((p4 &&& (1 : Int32)) = (0 : Int32))))), .val (.int (bI (¬ ((p4 &&& (2 : Int32)) = (0 : Int32))))), .val (.int (bI (¬ ((p4 &&& (4 : Int32)) = (0 : Int32))))), .unset, .unset, .unset, .unset, .unset, .unset, .unset, .unset, .unset, .unset, .unset]) rfl ?_
    exact k
  refine OG.step s6 ?_
  have s7 : ∀ t, Steps p.tables e below (s₁.setTop (mkF m 52 #[.val (.int p0), .val (.int p1), .val (.int p2), .val (.int p3), .val (.int p4), .val (.int (bI (¬ ((p4 &&& (1 : Int32)) = (0 : Int32))))), .val (.int (bI (¬ ((p4 &&& (2 : Int32)) = (0 : Int32))))), .val (.int (bI (¬ ((p4 &&& (4 : Int32)) = (0 : Int32))))), .unset, .unset, .unset, .unset, .unset, .unset, .unset, .unset, .unset, .unset, .unset] [(.int (if ¬ ((p4 &&& (1 : Int32)) = (0 : Int32)) then p0 else p3))])) t → Steps p.tables e below (s₁.setTop (mkF m 42 #[.val (.int p0), .val (.int p1), .val (.int p2), .val (.int p3), .val (.int p4), .val (.int (bI (¬ ((p4 &&& (1 : Int32)) = (0 : Int32))))), .val (.int (bI (¬ ((p4 &&& (2 : Int32)) = (0 : Int32))))), .val (.int (bI (¬ ((p4 &&& (4 : Int32)) = (0 : Int32))))), .unset, .unset, .unset, .unset, .unset, .unset, .unset, .unset, .unset, .unset, .unset] [])) t := by
    intro t k
    refine XS.iload X0.here hx rfl (hb hby at_42) rfl ?_
    show Steps p.tables e below (s₁.setTop (mkF m 44 #[.val (.int p0), .val (.int p1), .val (.int p2), .val (.int p3), .val (.int p4), .val (.int (bI (¬ ((p4 &&& (1 : Int32)) = (0 : Int32))))), .val (.int (bI (¬ ((p4 &&& (2 : Int32)) = (0 : Int32))))), .val (.int (bI (¬ ((p4 &&& (4 : Int32)) = (0 : Int32))))), .unset, .unset, .unset, .unset, .unset, .unset, .unset, .unset, .unset, .unset, .unset] [(.int (bI (¬ ((p4 &&& (1 : Int32)) = (0 : Int32)))))])) _
    by_cases hm44 : ¬ ((p4 &&& (1 : Int32)) = (0 : Int32))
    · refine XS.ifNo X0.here hx rfl (hb hby at_44) rfl ((if0 _ _).trans (feq (bI_ne0 hm44)).1) ?_
      show Steps p.tables e below (s₁.setTop (mkF m 47 #[.val (.int p0), .val (.int p1), .val (.int p2), .val (.int p3), .val (.int p4), .val (.int (bI (¬ ((p4 &&& (1 : Int32)) = (0 : Int32))))), .val (.int (bI (¬ ((p4 &&& (2 : Int32)) = (0 : Int32))))), .val (.int (bI (¬ ((p4 &&& (4 : Int32)) = (0 : Int32))))), .unset, .unset, .unset, .unset, .unset, .unset, .unset, .unset, .unset, .unset, .unset] [])) _
      refine XS.iloadN X0.here hx rfl (hb hby at_47) rfl ?_
      show Steps p.tables e below (s₁.setTop (mkF m 48 #[.val (.int p0), .val (.int p1), .val (.int p2), .val (.int p3), .val (.int p4), .val (.int (bI (¬ ((p4 &&& (1 : Int32)) = (0 : Int32))))), .val (.int (bI (¬ ((p4 &&& (2 : Int32)) = (0 : Int32))))), .val (.int (bI (¬ ((p4 &&& (4 : Int32)) = (0 : Int32))))), .unset, .unset, .unset, .unset, .unset, .unset, .unset, .unset, .unset, .unset, .unset] [(.int p0)])) _
      refine XS.goto X0.here hx rfl (pc0 := 48) (pc' := 52) rfl (hb hby at_48) (by decide) (by decide) ?_
      show Steps p.tables e below (s₁.setTop (mkF m 52 #[.val (.int p0), .val (.int p1), .val (.int p2), .val (.int p3), .val (.int p4), .val (.int (bI (¬ ((p4 &&& (1 : Int32)) = (0 : Int32))))), .val (.int (bI (¬ ((p4 &&& (2 : Int32)) = (0 : Int32))))), .val (.int (bI (¬ ((p4 &&& (4 : Int32)) = (0 : Int32))))), .unset, .unset, .unset, .unset, .unset, .unset, .unset, .unset, .unset, .unset, .unset] [(.int p0)])) _
      rw [show (if ¬ ((p4 &&& (1 : Int32)) = (0 : Int32)) then p0 else p3) = p0 from (if_pos hm44)] at k
      exact k
    · refine XS.ifYes X0.here hx rfl (pc0 := 44) (pc' := 51) rfl (hb hby at_44) rfl ((if0 _ _).trans (teq (bI_0 hm44)).1) (by decide) (by decide) ?_
      show Steps p.tables e below (s₁.setTop (mkF m 51 #[.val (.int p0), .val (.int p1), .val (.int p2), .val (.int p3), .val (.int p4), .val (.int (bI (¬ ((p4 &&& (1 : Int32)) = (0 : Int32))))), .val (.int (bI (¬ ((p4 &&& (2 : Int32)) = (0 : Int32))))), .val (.int (bI (¬ ((p4 &&& (4 : Int32)) = (0 : Int32))))), .unset, .unset, .unset, .unset, .unset, .unset, .unset, .unset, .unset, .unset, .unset] [])) _
      refine XS.iloadN X0.here hx rfl (hb hby at_51) rfl ?_
      show Steps p.tables e below (s₁.setTop (mkF m 52 #[.val (.int p0), .val (.int p1), .val (.int p2), .val (.int p3), .val (.int p4), .val (.int (bI (¬ ((p4 &&& (1 : Int32)) = (0 : Int32))))), .val (.int (bI (¬ ((p4 &&& (2 : Int32)) = (0 : Int32))))), .val (.int (bI (¬ ((p4 &&& (4 : Int32)) = (0 : Int32))))), .unset, .unset, .unset, .unset, .unset, .unset, .unset, .unset, .unset, .unset, .unset] [(.int p3)])) _
      rw [show (if ¬ ((p4 &&& (1 : Int32)) = (0 : Int32)) then p0 else p3) = p3 from (if_neg hm44)] at k
      exact k
  refine OG.step s7 ?_
  have s8 : ∀ t, Steps p.tables e below (s₁.setTop (mkF m 54 #[.val (.int p0), .val (.int p1), .val (.int p2), .val (.int p3), .val (.int p4), .val (.int (bI (¬ ((p4 &&& (1 : Int32)) = (0 : Int32))))), .val (.int (bI (¬ ((p4 &&& (2 : Int32)) = (0 : Int32))))), .val (.int (bI (¬ ((p4 &&& (4 : Int32)) = (0 : Int32))))), .val (.int (if ¬ ((p4 &&& (1 : Int32)) = (0 : Int32)) then p0 else p3)), .unset, .unset, .unset, .unset, .unset, .unset, .unset, .unset, .unset, .unset] [])) t → Steps p.tables e below (s₁.setTop (mkF m 52 #[.val (.int p0), .val (.int p1), .val (.int p2), .val (.int p3), .val (.int p4), .val (.int (bI (¬ ((p4 &&& (1 : Int32)) = (0 : Int32))))), .val (.int (bI (¬ ((p4 &&& (2 : Int32)) = (0 : Int32))))), .val (.int (bI (¬ ((p4 &&& (4 : Int32)) = (0 : Int32))))), .unset, .unset, .unset, .unset, .unset, .unset, .unset, .unset, .unset, .unset, .unset] [(.int (if ¬ ((p4 &&& (1 : Int32)) = (0 : Int32)) then p0 else p3))])) t := by
    intro t k
    refine XS.istore X0.here hx rfl (hb hby at_52) rfl (l' := #[.val (.int p0), .val (.int p1), .val (.int p2), .val (.int p3), .val (.int p4), .val (.int (bI (¬ ((p4 &&& (1 : Int32)) = (0 : Int32))))), .val (.int (bI (¬ ((p4 &&& (2 : Int32)) = (0 : Int32))))), .val (.int (bI (¬ ((p4 &&& (4 : Int32)) = (0 : Int32))))), .val (.int (if ¬ ((p4 &&& (1 : Int32)) = (0 : Int32)) then p0 else p3)), .unset, .unset, .unset, .unset, .unset, .unset, .unset, .unset, .unset, .unset]) rfl ?_
    exact k
  refine OG.step s8 ?_
  have s9 : ∀ t, Steps p.tables e below (s₁.setTop (mkF m 64 #[.val (.int p0), .val (.int p1), .val (.int p2), .val (.int p3), .val (.int p4), .val (.int (bI (¬ ((p4 &&& (1 : Int32)) = (0 : Int32))))), .val (.int (bI (¬ ((p4 &&& (2 : Int32)) = (0 : Int32))))), .val (.int (bI (¬ ((p4 &&& (4 : Int32)) = (0 : Int32))))), .val (.int (if ¬ ((p4 &&& (1 : Int32)) = (0 : Int32)) then p0 else p3)), .unset, .unset, .unset, .unset, .unset, .unset, .unset, .unset, .unset, .unset] [(.int (if ¬ ((p4 &&& (2 : Int32)) = (0 : Int32)) then p1 else p3))])) t → Steps p.tables e below (s₁.setTop (mkF m 54 #[.val (.int p0), .val (.int p1), .val (.int p2), .val (.int p3), .val (.int p4), .val (.int (bI (¬ ((p4 &&& (1 : Int32)) = (0 : Int32))))), .val (.int (bI (¬ ((p4 &&& (2 : Int32)) = (0 : Int32))))), .val (.int (bI (¬ ((p4 &&& (4 : Int32)) = (0 : Int32))))), .val (.int (if ¬ ((p4 &&& (1 : Int32)) = (0 : Int32)) then p0 else p3)), .unset, .unset, .unset, .unset, .unset, .unset, .unset, .unset, .unset, .unset] [])) t := by
    intro t k
    refine XS.iload X0.here hx rfl (hb hby at_54) rfl ?_
    show Steps p.tables e below (s₁.setTop (mkF m 56 #[.val (.int p0), .val (.int p1), .val (.int p2), .val (.int p3), .val (.int p4), .val (.int (bI (¬ ((p4 &&& (1 : Int32)) = (0 : Int32))))), .val (.int (bI (¬ ((p4 &&& (2 : Int32)) = (0 : Int32))))), .val (.int (bI (¬ ((p4 &&& (4 : Int32)) = (0 : Int32))))), .val (.int (if ¬ ((p4 &&& (1 : Int32)) = (0 : Int32)) then p0 else p3)), .unset, .unset, .unset, .unset, .unset, .unset, .unset, .unset, .unset, .unset] [(.int (bI (¬ ((p4 &&& (2 : Int32)) = (0 : Int32)))))])) _
    by_cases hm56 : ¬ ((p4 &&& (2 : Int32)) = (0 : Int32))
    · refine XS.ifNo X0.here hx rfl (hb hby at_56) rfl ((if0 _ _).trans (feq (bI_ne0 hm56)).1) ?_
      show Steps p.tables e below (s₁.setTop (mkF m 59 #[.val (.int p0), .val (.int p1), .val (.int p2), .val (.int p3), .val (.int p4), .val (.int (bI (¬ ((p4 &&& (1 : Int32)) = (0 : Int32))))), .val (.int (bI (¬ ((p4 &&& (2 : Int32)) = (0 : Int32))))), .val (.int (bI (¬ ((p4 &&& (4 : Int32)) = (0 : Int32))))), .val (.int (if ¬ ((p4 &&& (1 : Int32)) = (0 : Int32)) then p0 else p3)), .unset, .unset, .unset, .unset, .unset, .unset, .unset, .unset, .unset, .unset] [])) _
      refine XS.iloadN X0.here hx rfl (hb hby at_59) rfl ?_
      show Steps p.tables e below (s₁.setTop (mkF m 60 #[.val (.int p0), .val (.int p1), .val (.int p2), .val (.int p3), .val (.int p4), .val (.int (bI (¬ ((p4 &&& (1 : Int32)) = (0 : Int32))))), .val (.int (bI (¬ ((p4 &&& (2 : Int32)) = (0 : Int32))))), .val (.int (bI (¬ ((p4 &&& (4 : Int32)) = (0 : Int32))))), .val (.int (if ¬ ((p4 &&& (1 : Int32)) = (0 : Int32)) then p0 else p3)), .unset, .unset, .unset, .unset, .unset, .unset, .unset, .unset, .unset, .unset] [(.int p1)])) _
      refine XS.goto X0.here hx rfl (pc0 := 60) (pc' := 64) rfl (hb hby at_60) (by decide) (by decide) ?_
      show Steps p.tables e below (s₁.setTop (mkF m 64 #[.val (.int p0), .val (.int p1), .val (.int p2), .val (.int p3), .val (.int p4), .val (.int (bI (¬ ((p4 &&& (1 : Int32)) = (0 : Int32))))), .val (.int (bI (¬ ((p4 &&& (2 : Int32)) = (0 : Int32))))), .val (.int (bI (¬ ((p4 &&& (4 : Int32)) = (0 : Int32))))), .val (.int (if ¬ ((p4 &&& (1 : Int32)) = (0 : Int32)) then p0 else p3)), .unset, .unset, .unset, .unset, .unset, .unset, .unset, .unset, .unset, .unset] [(.int p1)])) _
      rw [show (if ¬ ((p4 &&& (2 : Int32)) = (0 : Int32)) then p1 else p3) = p1 from (if_pos hm56)] at k
      exact k
    · refine XS.ifYes X0.here hx rfl (pc0 := 56) (pc' := 63) rfl (hb hby at_56) rfl ((if0 _ _).trans (teq (bI_0 hm56)).1) (by decide) (by decide) ?_
      show Steps p.tables e below (s₁.setTop (mkF m 63 #[.val (.int p0), .val (.int p1), .val (.int p2), .val (.int p3), .val (.int p4), .val (.int (bI (¬ ((p4 &&& (1 : Int32)) = (0 : Int32))))), .val (.int (bI (¬ ((p4 &&& (2 : Int32)) = (0 : Int32))))), .val (.int (bI (¬ ((p4 &&& (4 : Int32)) = (0 : Int32))))), .val (.int (if ¬ ((p4 &&& (1 : Int32)) = (0 : Int32)) then p0 else p3)), .unset, .unset, .unset, .unset, .unset, .unset, .unset, .unset, .unset, .unset] [])) _
      refine XS.iloadN X0.here hx rfl (hb hby at_63) rfl ?_
      show Steps p.tables e below (s₁.setTop (mkF m 64 #[.val (.int p0), .val (.int p1), .val (.int p2), .val (.int p3), .val (.int p4), .val (.int (bI (¬ ((p4 &&& (1 : Int32)) = (0 : Int32))))), .val (.int (bI (¬ ((p4 &&& (2 : Int32)) = (0 : Int32))))), .val (.int (bI (¬ ((p4 &&& (4 : Int32)) = (0 : Int32))))), .val (.int (if ¬ ((p4 &&& (1 : Int32)) = (0 : Int32)) then p0 else p3)), .unset, .unset, .unset, .unset, .unset, .unset, .unset, .unset, .unset, .unset] [(.int p3)])) _
      rw [show (if ¬ ((p4 &&& (2 : Int32)) = (0 : Int32)) then p1 else p3) = p3 from (if_neg hm56)] at k
      exact k
  refine OG.step s9 ?_
  have s10 : ∀ t, Steps p.tables e below (s₁.setTop (mkF m 66 #[.val (.int p0), .val (.int p1), .val (.int p2), .val (.int p3), .val (.int p4), .val (.int (bI (¬ ((p4 &&& (1 : Int32)) = (0 : Int32))))), .val (.int (bI (¬ ((p4 &&& (2 : Int32)) = (0 : Int32))))), .val (.int (bI (¬ ((p4 &&& (4 : Int32)) = (0 : Int32))))), .val (.int (if ¬ ((p4 &&& (1 : Int32)) = (0 : Int32)) then p0 else p3)), .val (.int (if ¬ ((p4 &&& (2 : Int32)) = (0 : Int32)) then p1 else p3)), .unset, .unset, .unset, .unset, .unset, .unset, .unset, .unset, .unset] [])) t → Steps p.tables e below (s₁.setTop (mkF m 64 #[.val (.int p0), .val (.int p1), .val (.int p2), .val (.int p3), .val (.int p4), .val (.int (bI (¬ ((p4 &&& (1 : Int32)) = (0 : Int32))))), .val (.int (bI (¬ ((p4 &&& (2 : Int32)) = (0 : Int32))))), .val (.int (bI (¬ ((p4 &&& (4 : Int32)) = (0 : Int32))))), .val (.int (if ¬ ((p4 &&& (1 : Int32)) = (0 : Int32)) then p0 else p3)), .unset, .unset, .unset, .unset, .unset, .unset, .unset, .unset, .unset, .unset] [(.int (if ¬ ((p4 &&& (2 : Int32)) = (0 : Int32)) then p1 else p3))])) t := by
    intro t k
    refine XS.istore X0.here hx rfl (hb hby at_64) rfl (l' := #[.val (.int p0), .val (.int p1), .val (.int p2), .val (.int p3), .val (.int p4), .val (.int (bI (¬ ((p4 &&& (1 : Int32)) = (0 : Int32))))), .val (.int (bI (¬ ((p4 &&& (2 : Int32)) = (0 : Int32))))), .val (.int (bI (¬ ((p4 &&& (4 : Int32)) = (0 : Int32))))), .val (.int (if ¬ ((p4 &&& (1 : Int32)) = (0 : Int32)) then p0 else p3)), .val (.int (if ¬ ((p4 &&& (2 : Int32)) = (0 : Int32)) then p1 else p3)), .unset, .unset, .unset, .unset, .unset, .unset, .unset, .unset, .unset]) rfl ?_
    exact k
  refine OG.step s10 ?_
  have s11 : ∀ t, Steps p.tables e below (s₁.setTop (mkF m 76 #[.val (.int p0), .val (.int p1), .val (.int p2), .val (.int p3), .val (.int p4), .val (.int (bI (¬ ((p4 &&& (1 : Int32)) = (0 : Int32))))), .val (.int (bI (¬ ((p4 &&& (2 : Int32)) = (0 : Int32))))), .val (.int (bI (¬ ((p4 &&& (4 : Int32)) = (0 : Int32))))), .val (.int (if ¬ ((p4 &&& (1 : Int32)) = (0 : Int32)) then p0 else p3)), .val (.int (if ¬ ((p4 &&& (2 : Int32)) = (0 : Int32)) then p1 else p3)), .unset, .unset, .unset, .unset, .unset, .unset, .unset, .unset, .unset] [(.int (if ¬ ((p4 &&& (4 : Int32)) = (0 : Int32)) then p2 else p3))])) t → Steps p.tables e below (s₁.setTop (mkF m 66 #[.val (.int p0), .val (.int p1), .val (.int p2), .val (.int p3), .val (.int p4), .val (.int (bI (¬ ((p4 &&& (1 : Int32)) = (0 : Int32))))), .val (.int (bI (¬ ((p4 &&& (2 : Int32)) = (0 : Int32))))), .val (.int (bI (¬ ((p4 &&& (4 : Int32)) = (0 : Int32))))), .val (.int (if ¬ ((p4 &&& (1 : Int32)) = (0 : Int32)) then p0 else p3)), .val (.int (if ¬ ((p4 &&& (2 : Int32)) = (0 : Int32)) then p1 else p3)), .unset, .unset, .unset, .unset, .unset, .unset, .unset, .unset, .unset] [])) t := by
    intro t k
    refine XS.iload X0.here hx rfl (hb hby at_66) rfl ?_
    show Steps p.tables e below (s₁.setTop (mkF m 68 #[.val (.int p0), .val (.int p1), .val (.int p2), .val (.int p3), .val (.int p4), .val (.int (bI (¬ ((p4 &&& (1 : Int32)) = (0 : Int32))))), .val (.int (bI (¬ ((p4 &&& (2 : Int32)) = (0 : Int32))))), .val (.int (bI (¬ ((p4 &&& (4 : Int32)) = (0 : Int32))))), .val (.int (if ¬ ((p4 &&& (1 : Int32)) = (0 : Int32)) then p0 else p3)), .val (.int (if ¬ ((p4 &&& (2 : Int32)) = (0 : Int32)) then p1 else p3)), .unset, .unset, .unset, .unset, .unset, .unset, .unset, .unset, .unset] [(.int (bI (¬ ((p4 &&& (4 : Int32)) = (0 : Int32)))))])) _
    by_cases hm68 : ¬ ((p4 &&& (4 : Int32)) = (0 : Int32))
    · refine XS.ifNo X0.here hx rfl (hb hby at_68) rfl ((if0 _ _).trans (feq (bI_ne0 hm68)).1) ?_
      show Steps p.tables e below (s₁.setTop (mkF m 71 #[.val (.int p0), .val (.int p1), .val (.int p2), .val (.int p3), .val (.int p4), .val (.int (bI (¬ ((p4 &&& (1 : Int32)) = (0 : Int32))))), .val (.int (bI (¬ ((p4 &&& (2 : Int32)) = (0 : Int32))))), .val (.int (bI (¬ ((p4 &&& (4 : Int32)) = (0 : Int32))))), .val (.int (if ¬ ((p4 &&& (1 : Int32)) = (0 : Int32)) then p0 else p3)), .val (.int (if ¬ ((p4 &&& (2 : Int32)) = (0 : Int32)) then p1 else p3)), .unset, .unset, .unset, .unset, .unset, .unset, .unset, .unset, .unset] [])) _
      refine XS.iloadN X0.here hx rfl (hb hby at_71) rfl ?_
      show Steps p.tables e below (s₁.setTop (mkF m 72 #[.val (.int p0), .val (.int p1), .val (.int p2), .val (.int p3), .val (.int p4), .val (.int (bI (¬ ((p4 &&& (1 : Int32)) = (0 : Int32))))), .val (.int (bI (¬ ((p4 &&& (2 : Int32)) = (0 : Int32))))), .val (.int (bI (¬ ((p4 &&& (4 : Int32)) = (0 : Int32))))), .val (.int (if ¬ ((p4 &&& (1 : Int32)) = (0 : Int32)) then p0 else p3)), .val (.int (if ¬ ((p4 &&& (2 : Int32)) = (0 : Int32)) then p1 else p3)), .unset, .unset, .unset, .unset, .unset, .unset, .unset, .unset, .unset] [(.int p2)])) _
      refine XS.goto X0.here hx rfl (pc0 := 72) (pc' := 76) rfl (hb hby at_72) (by decide) (by decide) ?_
      show Steps p.tables e below (s₁.setTop (mkF m 76 #[.val (.int p0), .val (.int p1), .val (.int p2), .val (.int p3), .val (.int p4), .val (.int (bI (¬ ((p4 &&& (1 : Int32)) = (0 : Int32))))), .val (.int (bI (¬ ((p4 &&& (2 : Int32)) = (0 : Int32))))), .val (.int (bI (¬ ((p4 &&& (4 : Int32)) = (0 : Int32))))), .val (.int (if ¬ ((p4 &&& (1 : Int32)) = (0 : Int32)) then p0 else p3)), .val (.int (if ¬ ((p4 &&& (2 : Int32)) = (0 : Int32)) then p1 else p3)), .unset, .unset, .unset, .unset, .unset, .unset, .unset, .unset, .unset] [(.int p2)])) _
      rw [show (if ¬ ((p4 &&& (4 : Int32)) = (0 : Int32)) then p2 else p3) = p2 from (if_pos hm68)] at k
      exact k
    · refine XS.ifYes X0.here hx rfl (pc0 := 68) (pc' := 75) rfl (hb hby at_68) rfl ((if0 _ _).trans (teq (bI_0 hm68)).1) (by decide) (by decide) ?_
      show Steps p.tables e below (s₁.setTop (mkF m 75 #[.val (.int p0), .val (.int p1), .val (.int p2), .val (.int p3), .val (.int p4), .val (.int (bI (¬ ((p4 &&& (1 : Int32)) = (0 : Int32))))), .val (.int (bI (¬ ((p4 &&& (2 : Int32)) = (0 : Int32))))), .val (.int (bI (¬ ((p4 &&& (4 : Int32)) = (0 : Int32))))), .val (.int (if ¬ ((p4 &&& (1 : Int32)) = (0 : Int32)) then p0 else p3)), .val (.int (if ¬ ((p4 &&& (2 : Int32)) = (0 : Int32)) then p1 else p3)), .unset, .unset, .unset, .unset, .unset, .unset, .unset, .unset, .unset] [])) _
      refine XS.iloadN X0.here hx rfl (hb hby at_75) rfl ?_
      show Steps p.tables e below (s₁.setTop (mkF m 76 #[.val (.int p0), .val (.int p1), .val (.int p2), .val (.int p3), .val (.int p4), .val (.int (bI (¬ ((p4 &&& (1 : Int32)) = (0 : Int32))))), .val (.int (bI (¬ ((p4 &&& (2 : Int32)) = (0 : Int32))))), .val (.int (bI (¬ ((p4 &&& (4 : Int32)) = (0 : Int32))))), .val (.int (if ¬ ((p4 &&& (1 : Int32)) = (0 : Int32)) then p0 else p3)), .val (.int (if ¬ ((p4 &&& (2 : Int32)) = (0 : Int32)) then p1 else p3)), .unset, .unset, .unset, .unset, .unset, .unset, .unset, .unset, .unset] [(.int p3)])) _
      rw [show (if ¬ ((p4 &&& (4 : Int32)) = (0 : Int32)) then p2 else p3) = p3 from (if_neg hm68)] at k
      exact k
  refine OG.step s11 ?_
  have s12 : ∀ t, Steps p.tables e below (s₁.setTop (mkF m 78 #[.val (.int p0), .val (.int p1), .val (.int p2), .val (.int p3), .val (.int p4), .val (.int (bI (¬ ((p4 &&& (1 : Int32)) = (0 : Int32))))), .val (.int (bI (¬ ((p4 &&& (2 : Int32)) = (0 : Int32))))), .val (.int (bI (¬ ((p4 &&& (4 : Int32)) = (0 : Int32))))), .val (.int (if ¬ ((p4 &&& (1 : Int32)) = (0 : Int32)) then p0 else p3)), .val (.int (if ¬ ((p4 &&& (2 : Int32)) = (0 : Int32)) then p1 else p3)), .val (.int (if ¬ ((p4 &&& (4 : Int32)) = (0 : Int32)) then p2 else p3)), .unset, .unset, .unset, .unset, .unset, .unset, .unset, .unset] [])) t → Steps p.tables e below (s₁.setTop (mkF m 76 #[.val (.int p0), .val (.int p1), .val (.int p2), .val (.int p3), .val (.int p4), .val (.int (bI (¬ ((p4 &&& (1 : Int32)) = (0 : Int32))))), .val (.int (bI (¬ ((p4 &&& (2 : Int32)) = (0 : Int32))))), .val (.int (bI (¬ ((p4 &&& (4 : Int32)) = (0 : Int32))))), .val (.int (if ¬ ((p4 &&& (1 : Int32)) = (0 : Int32)) then p0 else p3)), .val (.int (if ¬ ((p4 &&& (2 : Int32)) = (0 : Int32)) then p1 else p3)), .unset, .unset, .unset, .unset, .unset, .unset, .unset, .unset, .unset] [(.int (if ¬ ((p4 &&& (4 : Int32)) = (0 : Int32)) then p2 else p3))])) t := by
    intro t k
    refine XS.istore X0.here hx rfl (hb hby at_76) rfl (l' := #[.val (.int p0), .val (.int p1), .val (.int p2), .val (.int p3), .val (.int p4), .val (.int (bI (¬ ((p4 &&& (1 : Int32)) = (0 : Int32))))), .val (.int (bI (¬ ((p4 &&& (2 : Int32)) = (0 : Int32))))), .val (.int (bI (¬ ((p4 &&& (4 : Int32)) = (0 : Int32))))), .val (.int (if ¬ ((p4 &&& (1 : Int32)) = (0 : Int32)) then p0 else p3)), .val (.int (if ¬ ((p4 &&& (2 : Int32)) = (0 : Int32)) then p1 else p3)), .val (.int (if ¬ ((p4 &&& (4 : Int32)) = (0 : Int32)) then p2 else p3)), .unset, .unset, .unset, .unset, .unset, .unset, .unset, .unset]) rfl ?_
    exact k
  refine OG.step s12 ?_
  obtain ⟨T13, h13, X13, e13, E13, A13, D13, -, st13⟩ := newO X0 hx hZ hown (hw _ (List.mem_of_getElem? (i := 0) rfl)) (hw _ (List.mem_of_getElem? (i := 1) rfl)) (hw _ (List.mem_of_getElem? (i := 2) rfl)) e0 (g := (mkF m 78 #[.val (.int p0), .val (.int p1), .val (.int p2), .val (.int p3), .val (.int p4), .val (.int (bI (¬ ((p4 &&& (1 : Int32)) = (0 : Int32))))), .val (.int (bI (¬ ((p4 &&& (2 : Int32)) = (0 : Int32))))), .val (.int (bI (¬ ((p4 &&& (4 : Int32)) = (0 : Int32))))), .val (.int (if ¬ ((p4 &&& (1 : Int32)) = (0 : Int32)) then p0 else p3)), .val (.int (if ¬ ((p4 &&& (2 : Int32)) = (0 : Int32)) then p1 else p3)), .val (.int (if ¬ ((p4 &&& (4 : Int32)) = (0 : Int32)) then p2 else p3)), .unset, .unset, .unset, .unset, .unset, .unset, .unset, .unset] [])) rfl (hb hby at_78) (by decide) (by decide)
  obtain ⟨b13, g13⟩ : ∃ z, z = h0.size := ⟨_, rfl⟩
  rw [← g13] at A13 D13 st13
  have sz13 : h0.size ≤ b13 := Nat.le_trans K0.1 (Nat.le_of_eq g13.symm)
  have ge13 : n0 ≤ b13 := Nat.le_trans Z0 sz13
  refine OG.step st13 ?_
  have F13_width : Fld Z h13 b13 "com/example/ludus/ludus/PackingTask$Good" "width" "I" (.int (0 : Int32)) := D13 (Or.inr (hw _ (List.mem_of_getElem? (i := 10) rfl))) (ty := .int) (by decide)
  have F13_height : Fld Z h13 b13 "com/example/ludus/ludus/PackingTask$Good" "height" "I" (.int (0 : Int32)) := D13 (Or.inr (hw _ (List.mem_of_getElem? (i := 12) rfl))) (ty := .int) (by decide)
  have F13_value : Fld Z h13 b13 "com/example/ludus/ludus/PackingTask$Good" "value" "I" (.int (0 : Int32)) := D13 (Or.inr (hw _ (List.mem_of_getElem? (i := 14) rfl))) (ty := .int) (by decide)
  have K13 := K0.ext E13
  show OG _ _ _ _ _ _ _ (T13.setTop (mkF m 81 #[.val (.int p0), .val (.int p1), .val (.int p2), .val (.int p3), .val (.int p4), .val (.int (bI (¬ ((p4 &&& (1 : Int32)) = (0 : Int32))))), .val (.int (bI (¬ ((p4 &&& (2 : Int32)) = (0 : Int32))))), .val (.int (bI (¬ ((p4 &&& (4 : Int32)) = (0 : Int32))))), .val (.int (if ¬ ((p4 &&& (1 : Int32)) = (0 : Int32)) then p0 else p3)), .val (.int (if ¬ ((p4 &&& (2 : Int32)) = (0 : Int32)) then p1 else p3)), .val (.int (if ¬ ((p4 &&& (4 : Int32)) = (0 : Int32)) then p2 else p3)), .unset, .unset, .unset, .unset, .unset, .unset, .unset, .unset] [(.ref b13)]))
  have s14 : ∀ t, Steps p.tables e below (T13.setTop (mkF m 85 #[.val (.int p0), .val (.int p1), .val (.int p2), .val (.int p3), .val (.int p4), .val (.int (bI (¬ ((p4 &&& (1 : Int32)) = (0 : Int32))))), .val (.int (bI (¬ ((p4 &&& (2 : Int32)) = (0 : Int32))))), .val (.int (bI (¬ ((p4 &&& (4 : Int32)) = (0 : Int32))))), .val (.int (if ¬ ((p4 &&& (1 : Int32)) = (0 : Int32)) then p0 else p3)), .val (.int (if ¬ ((p4 &&& (2 : Int32)) = (0 : Int32)) then p1 else p3)), .val (.int (if ¬ ((p4 &&& (4 : Int32)) = (0 : Int32)) then p2 else p3)), .unset, .unset, .unset, .unset, .unset, .unset, .unset, .unset] [(.int p2), (.int p1), (.int p0), (.ref b13), (.ref b13)])) t → Steps p.tables e below (T13.setTop (mkF m 81 #[.val (.int p0), .val (.int p1), .val (.int p2), .val (.int p3), .val (.int p4), .val (.int (bI (¬ ((p4 &&& (1 : Int32)) = (0 : Int32))))), .val (.int (bI (¬ ((p4 &&& (2 : Int32)) = (0 : Int32))))), .val (.int (bI (¬ ((p4 &&& (4 : Int32)) = (0 : Int32))))), .val (.int (if ¬ ((p4 &&& (1 : Int32)) = (0 : Int32)) then p0 else p3)), .val (.int (if ¬ ((p4 &&& (2 : Int32)) = (0 : Int32)) then p1 else p3)), .val (.int (if ¬ ((p4 &&& (4 : Int32)) = (0 : Int32)) then p2 else p3)), .unset, .unset, .unset, .unset, .unset, .unset, .unset, .unset] [(.ref b13)])) t := by
    intro t k
    refine XS.dup X13.here hx rfl (hb hby at_81) rfl rfl ?_
    show Steps p.tables e below (T13.setTop (mkF m 82 #[.val (.int p0), .val (.int p1), .val (.int p2), .val (.int p3), .val (.int p4), .val (.int (bI (¬ ((p4 &&& (1 : Int32)) = (0 : Int32))))), .val (.int (bI (¬ ((p4 &&& (2 : Int32)) = (0 : Int32))))), .val (.int (bI (¬ ((p4 &&& (4 : Int32)) = (0 : Int32))))), .val (.int (if ¬ ((p4 &&& (1 : Int32)) = (0 : Int32)) then p0 else p3)), .val (.int (if ¬ ((p4 &&& (2 : Int32)) = (0 : Int32)) then p1 else p3)), .val (.int (if ¬ ((p4 &&& (4 : Int32)) = (0 : Int32)) then p2 else p3)), .unset, .unset, .unset, .unset, .unset, .unset, .unset, .unset] [(.ref b13), (.ref b13)])) _
    refine XS.iloadN X13.here hx rfl (hb hby at_82) rfl ?_
    show Steps p.tables e below (T13.setTop (mkF m 83 #[.val (.int p0), .val (.int p1), .val (.int p2), .val (.int p3), .val (.int p4), .val (.int (bI (¬ ((p4 &&& (1 : Int32)) = (0 : Int32))))), .val (.int (bI (¬ ((p4 &&& (2 : Int32)) = (0 : Int32))))), .val (.int (bI (¬ ((p4 &&& (4 : Int32)) = (0 : Int32))))), .val (.int (if ¬ ((p4 &&& (1 : Int32)) = (0 : Int32)) then p0 else p3)), .val (.int (if ¬ ((p4 &&& (2 : Int32)) = (0 : Int32)) then p1 else p3)), .val (.int (if ¬ ((p4 &&& (4 : Int32)) = (0 : Int32)) then p2 else p3)), .unset, .unset, .unset, .unset, .unset, .unset, .unset, .unset] [(.int p0), (.ref b13), (.ref b13)])) _
    refine XS.iloadN X13.here hx rfl (hb hby at_83) rfl ?_
    show Steps p.tables e below (T13.setTop (mkF m 84 #[.val (.int p0), .val (.int p1), .val (.int p2), .val (.int p3), .val (.int p4), .val (.int (bI (¬ ((p4 &&& (1 : Int32)) = (0 : Int32))))), .val (.int (bI (¬ ((p4 &&& (2 : Int32)) = (0 : Int32))))), .val (.int (bI (¬ ((p4 &&& (4 : Int32)) = (0 : Int32))))), .val (.int (if ¬ ((p4 &&& (1 : Int32)) = (0 : Int32)) then p0 else p3)), .val (.int (if ¬ ((p4 &&& (2 : Int32)) = (0 : Int32)) then p1 else p3)), .val (.int (if ¬ ((p4 &&& (4 : Int32)) = (0 : Int32)) then p2 else p3)), .unset, .unset, .unset, .unset, .unset, .unset, .unset, .unset] [(.int p1), (.int p0), (.ref b13), (.ref b13)])) _
    refine XS.iloadN X13.here hx rfl (hb hby at_84) rfl ?_
    exact k
  refine OG.step s14 ?_
  obtain ⟨_, _, ⟨T15, L15, k15, n15⟩, -, X15, ⟨Lc15, hQ15, l15, y15, z15⟩, st15⟩ := X13.specialBack hx (y := (⟨"com/example/ludus/ludus/PackingTask$Good", "<init>", "(III)V"⟩ : MethodName)) rfl hown (mvT hZ (hw _ (List.mem_of_getElem? (i := 3) rfl))) (mvT hZ (hw _ (List.mem_of_getElem? (i := 4) rfl))) (mvT hZ (hw _ (List.mem_of_getElem? (i := 5) rfl))) (by decide) (backOf (W := 1) (rm1 l Z a0 hw [] b13 p0 p1 p2 (.int (0 : Int32)) (.int (0 : Int32)) (.int (0 : Int32)) h13 n0 (Nat.le_trans Z0 K13.1) A13 F13_width F13_height F13_value ge13) hZ (hw _ (List.mem_of_getElem? (i := 5) rfl)) (hw _ (List.mem_of_getElem? (i := 2) rfl)) (by decide) (by decide)) (g := (mkF m 85 #[.val (.int p0), .val (.int p1), .val (.int p2), .val (.int p3), .val (.int p4), .val (.int (bI (¬ ((p4 &&& (1 : Int32)) = (0 : Int32))))), .val (.int (bI (¬ ((p4 &&& (2 : Int32)) = (0 : Int32))))), .val (.int (bI (¬ ((p4 &&& (4 : Int32)) = (0 : Int32))))), .val (.int (if ¬ ((p4 &&& (1 : Int32)) = (0 : Int32)) then p0 else p3)), .val (.int (if ¬ ((p4 &&& (2 : Int32)) = (0 : Int32)) then p1 else p3)), .val (.int (if ¬ ((p4 &&& (4 : Int32)) = (0 : Int32)) then p2 else p3)), .unset, .unset, .unset, .unset, .unset, .unset, .unset, .unset] [(.int p2), (.int p1), (.int p0), (.ref b13), (.ref b13)])) rfl (by rw [hml]; rfl) (Steps.refl _) (a := b13) (argsL := [(.int p0), (.int p1), (.int p2)]) (rest := [(.ref b13)]) (lenOf pd__III_V rfl) rfl (by show 2 * 0 + _ ≤ _; exact Nat.le_of_eq rfl) (hb hby at_85) (fun _ _ => ⟨rfl, e13, (by decide : 1 + 0 ≤ _), (by decide : 3 + 0 ≤ _)⟩)
  dsimp only [Pt.U, Pt.locs, Pt.cells, Pt.slots] at X15 l15 y15 z15 st15 hQ15
  subst l15 y15 z15
  obtain ⟨rfl, N15q, Kc15, p15_0, p15_1, p15_2⟩ := hQ15
  have N15 := Fr.app N0 N15q
  refine OG.step (fun t k => st15.trans k) ?_
  have f16 := A13.keep Kc15
  have K15 := K13.trans Kc15 (allS (Or.inr sz13) all0)
  show OG _ _ _ _ _ _ _ (T15.setTop (mkF m 88 #[.val (.int p0), .val (.int p1), .val (.int p2), .val (.int p3), .val (.int p4), .val (.int (bI (¬ ((p4 &&& (1 : Int32)) = (0 : Int32))))), .val (.int (bI (¬ ((p4 &&& (2 : Int32)) = (0 : Int32))))), .val (.int (bI (¬ ((p4 &&& (4 : Int32)) = (0 : Int32))))), .val (.int (if ¬ ((p4 &&& (1 : Int32)) = (0 : Int32)) then p0 else p3)), .val (.int (if ¬ ((p4 &&& (2 : Int32)) = (0 : Int32)) then p1 else p3)), .val (.int (if ¬ ((p4 &&& (4 : Int32)) = (0 : Int32)) then p2 else p3)), .unset, .unset, .unset, .unset, .unset, .unset, .unset, .unset] [(.ref b13)]))
  have s20 : ∀ t, Steps p.tables e below (T15.setTop (mkF m 90 #[.val (.int p0), .val (.int p1), .val (.int p2), .val (.int p3), .val (.int p4), .val (.int (bI (¬ ((p4 &&& (1 : Int32)) = (0 : Int32))))), .val (.int (bI (¬ ((p4 &&& (2 : Int32)) = (0 : Int32))))), .val (.int (bI (¬ ((p4 &&& (4 : Int32)) = (0 : Int32))))), .val (.int (if ¬ ((p4 &&& (1 : Int32)) = (0 : Int32)) then p0 else p3)), .val (.int (if ¬ ((p4 &&& (2 : Int32)) = (0 : Int32)) then p1 else p3)), .val (.int (if ¬ ((p4 &&& (4 : Int32)) = (0 : Int32)) then p2 else p3)), .val (.ref b13), .unset, .unset, .unset, .unset, .unset, .unset, .unset] [])) t → Steps p.tables e below (T15.setTop (mkF m 88 #[.val (.int p0), .val (.int p1), .val (.int p2), .val (.int p3), .val (.int p4), .val (.int (bI (¬ ((p4 &&& (1 : Int32)) = (0 : Int32))))), .val (.int (bI (¬ ((p4 &&& (2 : Int32)) = (0 : Int32))))), .val (.int (bI (¬ ((p4 &&& (4 : Int32)) = (0 : Int32))))), .val (.int (if ¬ ((p4 &&& (1 : Int32)) = (0 : Int32)) then p0 else p3)), .val (.int (if ¬ ((p4 &&& (2 : Int32)) = (0 : Int32)) then p1 else p3)), .val (.int (if ¬ ((p4 &&& (4 : Int32)) = (0 : Int32)) then p2 else p3)), .unset, .unset, .unset, .unset, .unset, .unset, .unset, .unset] [(.ref b13)])) t := by
    intro t k
    refine XS.astore X15.here hx rfl (hb hby at_88) rfl rfl (l' := #[.val (.int p0), .val (.int p1), .val (.int p2), .val (.int p3), .val (.int p4), .val (.int (bI (¬ ((p4 &&& (1 : Int32)) = (0 : Int32))))), .val (.int (bI (¬ ((p4 &&& (2 : Int32)) = (0 : Int32))))), .val (.int (bI (¬ ((p4 &&& (4 : Int32)) = (0 : Int32))))), .val (.int (if ¬ ((p4 &&& (1 : Int32)) = (0 : Int32)) then p0 else p3)), .val (.int (if ¬ ((p4 &&& (2 : Int32)) = (0 : Int32)) then p1 else p3)), .val (.int (if ¬ ((p4 &&& (4 : Int32)) = (0 : Int32)) then p2 else p3)), .val (.ref b13), .unset, .unset, .unset, .unset, .unset, .unset, .unset]) rfl ?_
    exact k
  refine OG.step s20 ?_
  obtain ⟨T21, h21, X21, e21, E21, A21, D21, -, st21⟩ := newO X15 hx hZ hown (hw _ (List.mem_of_getElem? (i := 0) rfl)) (hw _ (List.mem_of_getElem? (i := 1) rfl)) (hw _ (List.mem_of_getElem? (i := 2) rfl)) rfl (g := (mkF m 90 #[.val (.int p0), .val (.int p1), .val (.int p2), .val (.int p3), .val (.int p4), .val (.int (bI (¬ ((p4 &&& (1 : Int32)) = (0 : Int32))))), .val (.int (bI (¬ ((p4 &&& (2 : Int32)) = (0 : Int32))))), .val (.int (bI (¬ ((p4 &&& (4 : Int32)) = (0 : Int32))))), .val (.int (if ¬ ((p4 &&& (1 : Int32)) = (0 : Int32)) then p0 else p3)), .val (.int (if ¬ ((p4 &&& (2 : Int32)) = (0 : Int32)) then p1 else p3)), .val (.int (if ¬ ((p4 &&& (4 : Int32)) = (0 : Int32)) then p2 else p3)), .val (.ref b13), .unset, .unset, .unset, .unset, .unset, .unset, .unset] [])) rfl (hb hby at_90) (by decide) (by decide)
  obtain ⟨b21, g21⟩ : ∃ z, z = T15.heap.size := ⟨_, rfl⟩
  rw [← g21] at A21 D21 st21
  have sz21 : h0.size ≤ b21 := Nat.le_trans K15.1 (Nat.le_of_eq g21.symm)
  have ge21 : n0 ≤ b21 := Nat.le_trans Z0 sz21
  have ne21_b13 : b13 ≠ b21 := Nat.ne_of_lt (Nat.lt_of_lt_of_le f16.lt (Nat.le_of_eq g21.symm))
  refine OG.step st21 ?_
  have f22 := f16.ext E21
  have f23 := p15_0.ext E21
  have f24 := p15_1.ext E21
  have f25 := p15_2.ext E21
  have F21_width : Fld Z h21 b21 "com/example/ludus/ludus/PackingTask$Good" "width" "I" (.int (0 : Int32)) := D21 (Or.inr (hw _ (List.mem_of_getElem? (i := 10) rfl))) (ty := .int) (by decide)
  have F21_height : Fld Z h21 b21 "com/example/ludus/ludus/PackingTask$Good" "height" "I" (.int (0 : Int32)) := D21 (Or.inr (hw _ (List.mem_of_getElem? (i := 12) rfl))) (ty := .int) (by decide)
  have F21_value : Fld Z h21 b21 "com/example/ludus/ludus/PackingTask$Good" "value" "I" (.int (0 : Int32)) := D21 (Or.inr (hw _ (List.mem_of_getElem? (i := 14) rfl))) (ty := .int) (by decide)
  have K21 := K15.ext E21
  show OG _ _ _ _ _ _ _ (T21.setTop (mkF m 93 #[.val (.int p0), .val (.int p1), .val (.int p2), .val (.int p3), .val (.int p4), .val (.int (bI (¬ ((p4 &&& (1 : Int32)) = (0 : Int32))))), .val (.int (bI (¬ ((p4 &&& (2 : Int32)) = (0 : Int32))))), .val (.int (bI (¬ ((p4 &&& (4 : Int32)) = (0 : Int32))))), .val (.int (if ¬ ((p4 &&& (1 : Int32)) = (0 : Int32)) then p0 else p3)), .val (.int (if ¬ ((p4 &&& (2 : Int32)) = (0 : Int32)) then p1 else p3)), .val (.int (if ¬ ((p4 &&& (4 : Int32)) = (0 : Int32)) then p2 else p3)), .val (.ref b13), .unset, .unset, .unset, .unset, .unset, .unset, .unset] [(.ref b21)]))
  have s26 : ∀ t, Steps p.tables e below (T21.setTop (mkF m 100 #[.val (.int p0), .val (.int p1), .val (.int p2), .val (.int p3), .val (.int p4), .val (.int (bI (¬ ((p4 &&& (1 : Int32)) = (0 : Int32))))), .val (.int (bI (¬ ((p4 &&& (2 : Int32)) = (0 : Int32))))), .val (.int (bI (¬ ((p4 &&& (4 : Int32)) = (0 : Int32))))), .val (.int (if ¬ ((p4 &&& (1 : Int32)) = (0 : Int32)) then p0 else p3)), .val (.int (if ¬ ((p4 &&& (2 : Int32)) = (0 : Int32)) then p1 else p3)), .val (.int (if ¬ ((p4 &&& (4 : Int32)) = (0 : Int32)) then p2 else p3)), .val (.ref b13), .unset, .unset, .unset, .unset, .unset, .unset, .unset] [(.int (if ¬ ((p4 &&& (4 : Int32)) = (0 : Int32)) then p2 else p3)), (.int (if ¬ ((p4 &&& (2 : Int32)) = (0 : Int32)) then p1 else p3)), (.int (if ¬ ((p4 &&& (1 : Int32)) = (0 : Int32)) then p0 else p3)), (.ref b21), (.ref b21)])) t → Steps p.tables e below (T21.setTop (mkF m 93 #[.val (.int p0), .val (.int p1), .val (.int p2), .val (.int p3), .val (.int p4), .val (.int (bI (¬ ((p4 &&& (1 : Int32)) = (0 : Int32))))), .val (.int (bI (¬ ((p4 &&& (2 : Int32)) = (0 : Int32))))), .val (.int (bI (¬ ((p4 &&& (4 : Int32)) = (0 : Int32))))), .val (.int (if ¬ ((p4 &&& (1 : Int32)) = (0 : Int32)) then p0 else p3)), .val (.int (if ¬ ((p4 &&& (2 : Int32)) = (0 : Int32)) then p1 else p3)), .val (.int (if ¬ ((p4 &&& (4 : Int32)) = (0 : Int32)) then p2 else p3)), .val (.ref b13), .unset, .unset, .unset, .unset, .unset, .unset, .unset] [(.ref b21)])) t := by
    intro t k
    refine XS.dup X21.here hx rfl (hb hby at_93) rfl rfl ?_
    show Steps p.tables e below (T21.setTop (mkF m 94 #[.val (.int p0), .val (.int p1), .val (.int p2), .val (.int p3), .val (.int p4), .val (.int (bI (¬ ((p4 &&& (1 : Int32)) = (0 : Int32))))), .val (.int (bI (¬ ((p4 &&& (2 : Int32)) = (0 : Int32))))), .val (.int (bI (¬ ((p4 &&& (4 : Int32)) = (0 : Int32))))), .val (.int (if ¬ ((p4 &&& (1 : Int32)) = (0 : Int32)) then p0 else p3)), .val (.int (if ¬ ((p4 &&& (2 : Int32)) = (0 : Int32)) then p1 else p3)), .val (.int (if ¬ ((p4 &&& (4 : Int32)) = (0 : Int32)) then p2 else p3)), .val (.ref b13), .unset, .unset, .unset, .unset, .unset, .unset, .unset] [(.ref b21), (.ref b21)])) _
    refine XS.iload X21.here hx rfl (hb hby at_94) rfl ?_
    show Steps p.tables e below (T21.setTop (mkF m 96 #[.val (.int p0), .val (.int p1), .val (.int p2), .val (.int p3), .val (.int p4), .val (.int (bI (¬ ((p4 &&& (1 : Int32)) = (0 : Int32))))), .val (.int (bI (¬ ((p4 &&& (2 : Int32)) = (0 : Int32))))), .val (.int (bI (¬ ((p4 &&& (4 : Int32)) = (0 : Int32))))), .val (.int (if ¬ ((p4 &&& (1 : Int32)) = (0 : Int32)) then p0 else p3)), .val (.int (if ¬ ((p4 &&& (2 : Int32)) = (0 : Int32)) then p1 else p3)), .val (.int (if ¬ ((p4 &&& (4 : Int32)) = (0 : Int32)) then p2 else p3)), .val (.ref b13), .unset, .unset, .unset, .unset, .unset, .unset, .unset] [(.int (if ¬ ((p4 &&& (1 : Int32)) = (0 : Int32)) then p0 else p3)), (.ref b21), (.ref b21)])) _
    refine XS.iload X21.here hx rfl (hb hby at_96) rfl ?_
    show Steps p.tables e below (T21.setTop (mkF m 98 #[.val (.int p0), .val (.int p1), .val (.int p2), .val (.int p3), .val (.int p4), .val (.int (bI (¬ ((p4 &&& (1 : Int32)) = (0 : Int32))))), .val (.int (bI (¬ ((p4 &&& (2 : Int32)) = (0 : Int32))))), .val (.int (bI (¬ ((p4 &&& (4 : Int32)) = (0 : Int32))))), .val (.int (if ¬ ((p4 &&& (1 : Int32)) = (0 : Int32)) then p0 else p3)), .val (.int (if ¬ ((p4 &&& (2 : Int32)) = (0 : Int32)) then p1 else p3)), .val (.int (if ¬ ((p4 &&& (4 : Int32)) = (0 : Int32)) then p2 else p3)), .val (.ref b13), .unset, .unset, .unset, .unset, .unset, .unset, .unset] [(.int (if ¬ ((p4 &&& (2 : Int32)) = (0 : Int32)) then p1 else p3)), (.int (if ¬ ((p4 &&& (1 : Int32)) = (0 : Int32)) then p0 else p3)), (.ref b21), (.ref b21)])) _
    refine XS.iload X21.here hx rfl (hb hby at_98) rfl ?_
    exact k
  refine OG.step s26 ?_
  obtain ⟨_, _, ⟨T27, L27, k27, n27⟩, -, X27, ⟨Lc27, hQ27, l27, y27, z27⟩, st27⟩ := X21.specialBack hx (y := (⟨"com/example/ludus/ludus/PackingTask$Good", "<init>", "(III)V"⟩ : MethodName)) rfl hown (mvT hZ (hw _ (List.mem_of_getElem? (i := 3) rfl))) (mvT hZ (hw _ (List.mem_of_getElem? (i := 4) rfl))) (mvT hZ (hw _ (List.mem_of_getElem? (i := 5) rfl))) (by decide) (backOf (W := 1) (rm1 l Z a0 hw [] b21 (if ¬ ((p4 &&& (1 : Int32)) = (0 : Int32)) then p0 else p3) (if ¬ ((p4 &&& (2 : Int32)) = (0 : Int32)) then p1 else p3) (if ¬ ((p4 &&& (4 : Int32)) = (0 : Int32)) then p2 else p3) (.int (0 : Int32)) (.int (0 : Int32)) (.int (0 : Int32)) h21 n0 (Nat.le_trans Z0 K21.1) A21 F21_width F21_height F21_value ge21) hZ (hw _ (List.mem_of_getElem? (i := 5) rfl)) (hw _ (List.mem_of_getElem? (i := 2) rfl)) (by decide) (by decide)) (g := (mkF m 100 #[.val (.int p0), .val (.int p1), .val (.int p2), .val (.int p3), .val (.int p4), .val (.int (bI (¬ ((p4 &&& (1 : Int32)) = (0 : Int32))))), .val (.int (bI (¬ ((p4 &&& (2 : Int32)) = (0 : Int32))))), .val (.int (bI (¬ ((p4 &&& (4 : Int32)) = (0 : Int32))))), .val (.int (if ¬ ((p4 &&& (1 : Int32)) = (0 : Int32)) then p0 else p3)), .val (.int (if ¬ ((p4 &&& (2 : Int32)) = (0 : Int32)) then p1 else p3)), .val (.int (if ¬ ((p4 &&& (4 : Int32)) = (0 : Int32)) then p2 else p3)), .val (.ref b13), .unset, .unset, .unset, .unset, .unset, .unset, .unset] [(.int (if ¬ ((p4 &&& (4 : Int32)) = (0 : Int32)) then p2 else p3)), (.int (if ¬ ((p4 &&& (2 : Int32)) = (0 : Int32)) then p1 else p3)), (.int (if ¬ ((p4 &&& (1 : Int32)) = (0 : Int32)) then p0 else p3)), (.ref b21), (.ref b21)])) rfl (by rw [hml]; rfl) (Steps.refl _) (a := b21) (argsL := [(.int (if ¬ ((p4 &&& (1 : Int32)) = (0 : Int32)) then p0 else p3)), (.int (if ¬ ((p4 &&& (2 : Int32)) = (0 : Int32)) then p1 else p3)), (.int (if ¬ ((p4 &&& (4 : Int32)) = (0 : Int32)) then p2 else p3))]) (rest := [(.ref b21)]) (lenOf pd__III_V rfl) rfl (by show 2 * 0 + _ ≤ _; exact Nat.le_of_eq rfl) (hb hby at_100) (fun _ _ => ⟨rfl, e21, (by decide : 2 + 0 ≤ _), (by decide : 6 + 0 ≤ _)⟩)
  dsimp only [Pt.U, Pt.locs, Pt.cells, Pt.slots] at X27 l27 y27 z27 st27 hQ27
  subst l27 y27 z27
  obtain ⟨rfl, N27q, Kc27, p27_0, p27_1, p27_2⟩ := hQ27
  have N27 := Fr.app N15 N27q
  refine OG.step (fun t k => st27.trans k) ?_
  have f28 := f22.keep Kc27
  have f29 := f23.keep Kc27 (ninS ne21_b13 nin0)
  have f30 := f24.keep Kc27 (ninS ne21_b13 nin0)
  have f31 := f25.keep Kc27 (ninS ne21_b13 nin0)
  have f32 := A21.keep Kc27
  have K27 := K21.trans Kc27 (allS (Or.inr sz21) all0)
  show OG _ _ _ _ _ _ _ (T27.setTop (mkF m 103 #[.val (.int p0), .val (.int p1), .val (.int p2), .val (.int p3), .val (.int p4), .val (.int (bI (¬ ((p4 &&& (1 : Int32)) = (0 : Int32))))), .val (.int (bI (¬ ((p4 &&& (2 : Int32)) = (0 : Int32))))), .val (.int (bI (¬ ((p4 &&& (4 : Int32)) = (0 : Int32))))), .val (.int (if ¬ ((p4 &&& (1 : Int32)) = (0 : Int32)) then p0 else p3)), .val (.int (if ¬ ((p4 &&& (2 : Int32)) = (0 : Int32)) then p1 else p3)), .val (.int (if ¬ ((p4 &&& (4 : Int32)) = (0 : Int32)) then p2 else p3)), .val (.ref b13), .unset, .unset, .unset, .unset, .unset, .unset, .unset] [(.ref b21)]))
  have s36 : ∀ t, Steps p.tables e below (T27.setTop (mkF m 105 #[.val (.int p0), .val (.int p1), .val (.int p2), .val (.int p3), .val (.int p4), .val (.int (bI (¬ ((p4 &&& (1 : Int32)) = (0 : Int32))))), .val (.int (bI (¬ ((p4 &&& (2 : Int32)) = (0 : Int32))))), .val (.int (bI (¬ ((p4 &&& (4 : Int32)) = (0 : Int32))))), .val (.int (if ¬ ((p4 &&& (1 : Int32)) = (0 : Int32)) then p0 else p3)), .val (.int (if ¬ ((p4 &&& (2 : Int32)) = (0 : Int32)) then p1 else p3)), .val (.int (if ¬ ((p4 &&& (4 : Int32)) = (0 : Int32)) then p2 else p3)), .val (.ref b13), .val (.ref b21), .unset, .unset, .unset, .unset, .unset, .unset] [])) t → Steps p.tables e below (T27.setTop (mkF m 103 #[.val (.int p0), .val (.int p1), .val (.int p2), .val (.int p3), .val (.int p4), .val (.int (bI (¬ ((p4 &&& (1 : Int32)) = (0 : Int32))))), .val (.int (bI (¬ ((p4 &&& (2 : Int32)) = (0 : Int32))))), .val (.int (bI (¬ ((p4 &&& (4 : Int32)) = (0 : Int32))))), .val (.int (if ¬ ((p4 &&& (1 : Int32)) = (0 : Int32)) then p0 else p3)), .val (.int (if ¬ ((p4 &&& (2 : Int32)) = (0 : Int32)) then p1 else p3)), .val (.int (if ¬ ((p4 &&& (4 : Int32)) = (0 : Int32)) then p2 else p3)), .val (.ref b13), .unset, .unset, .unset, .unset, .unset, .unset, .unset] [(.ref b21)])) t := by
    intro t k
    refine XS.astore X27.here hx rfl (hb hby at_103) rfl rfl (l' := #[.val (.int p0), .val (.int p1), .val (.int p2), .val (.int p3), .val (.int p4), .val (.int (bI (¬ ((p4 &&& (1 : Int32)) = (0 : Int32))))), .val (.int (bI (¬ ((p4 &&& (2 : Int32)) = (0 : Int32))))), .val (.int (bI (¬ ((p4 &&& (4 : Int32)) = (0 : Int32))))), .val (.int (if ¬ ((p4 &&& (1 : Int32)) = (0 : Int32)) then p0 else p3)), .val (.int (if ¬ ((p4 &&& (2 : Int32)) = (0 : Int32)) then p1 else p3)), .val (.int (if ¬ ((p4 &&& (4 : Int32)) = (0 : Int32)) then p2 else p3)), .val (.ref b13), .val (.ref b21), .unset, .unset, .unset, .unset, .unset, .unset]) rfl ?_
    exact k
  refine OG.step s36 ?_
  obtain ⟨T37, h37, X37, e37, E37, A37, D37, -, st37⟩ := newO X27 hx hZ hown (hw _ (List.mem_of_getElem? (i := 15) rfl)) (hw _ (List.mem_of_getElem? (i := 16) rfl)) (hw _ (List.mem_of_getElem? (i := 17) rfl)) rfl (g := (mkF m 105 #[.val (.int p0), .val (.int p1), .val (.int p2), .val (.int p3), .val (.int p4), .val (.int (bI (¬ ((p4 &&& (1 : Int32)) = (0 : Int32))))), .val (.int (bI (¬ ((p4 &&& (2 : Int32)) = (0 : Int32))))), .val (.int (bI (¬ ((p4 &&& (4 : Int32)) = (0 : Int32))))), .val (.int (if ¬ ((p4 &&& (1 : Int32)) = (0 : Int32)) then p0 else p3)), .val (.int (if ¬ ((p4 &&& (2 : Int32)) = (0 : Int32)) then p1 else p3)), .val (.int (if ¬ ((p4 &&& (4 : Int32)) = (0 : Int32)) then p2 else p3)), .val (.ref b13), .val (.ref b21), .unset, .unset, .unset, .unset, .unset, .unset] [])) rfl (hb hby at_105) (by decide) (by decide)
  obtain ⟨b37, g37⟩ : ∃ z, z = T27.heap.size := ⟨_, rfl⟩
  rw [← g37] at A37 D37 st37
  have sz37 : h0.size ≤ b37 := Nat.le_trans K27.1 (Nat.le_of_eq g37.symm)
  have ge37 : n0 ≤ b37 := Nat.le_trans Z0 sz37
  have ne37_b13 : b13 ≠ b37 := Nat.ne_of_lt (Nat.lt_of_lt_of_le f28.lt (Nat.le_of_eq g37.symm))
  have ne37_b21 : b21 ≠ b37 := Nat.ne_of_lt (Nat.lt_of_lt_of_le f32.lt (Nat.le_of_eq g37.symm))
  refine OG.step st37 ?_
  have f38 := f28.ext E37
  have f39 := f29.ext E37
  have f40 := f30.ext E37
  have f41 := f31.ext E37
  have f42 := f32.ext E37
  have f43 := p27_0.ext E37
  have f44 := p27_1.ext E37
  have f45 := p27_2.ext E37
  have F37_width : Fld Z h37 b37 "com/example/ludus/ludus/PackingTask$Bag" "width" "I" (.int (0 : Int32)) := D37 (Or.inr (hw _ (List.mem_of_getElem? (i := 23) rfl))) (ty := .int) (by decide)
  have F37_height : Fld Z h37 b37 "com/example/ludus/ludus/PackingTask$Bag" "height" "I" (.int (0 : Int32)) := D37 (Or.inr (hw _ (List.mem_of_getElem? (i := 25) rfl))) (ty := .int) (by decide)
  have K37 := K27.ext E37
  show OG _ _ _ _ _ _ _ (T37.setTop (mkF m 108 #[.val (.int p0), .val (.int p1), .val (.int p2), .val (.int p3), .val (.int p4), .val (.int (bI (¬ ((p4 &&& (1 : Int32)) = (0 : Int32))))), .val (.int (bI (¬ ((p4 &&& (2 : Int32)) = (0 : Int32))))), .val (.int (bI (¬ ((p4 &&& (4 : Int32)) = (0 : Int32))))), .val (.int (if ¬ ((p4 &&& (1 : Int32)) = (0 : Int32)) then p0 else p3)), .val (.int (if ¬ ((p4 &&& (2 : Int32)) = (0 : Int32)) then p1 else p3)), .val (.int (if ¬ ((p4 &&& (4 : Int32)) = (0 : Int32)) then p2 else p3)), .val (.ref b13), .val (.ref b21), .unset, .unset, .unset, .unset, .unset, .unset] [(.ref b37)]))
  have s46 : ∀ t, Steps p.tables e below (T37.setTop (mkF m 111 #[.val (.int p0), .val (.int p1), .val (.int p2), .val (.int p3), .val (.int p4), .val (.int (bI (¬ ((p4 &&& (1 : Int32)) = (0 : Int32))))), .val (.int (bI (¬ ((p4 &&& (2 : Int32)) = (0 : Int32))))), .val (.int (bI (¬ ((p4 &&& (4 : Int32)) = (0 : Int32))))), .val (.int (if ¬ ((p4 &&& (1 : Int32)) = (0 : Int32)) then p0 else p3)), .val (.int (if ¬ ((p4 &&& (2 : Int32)) = (0 : Int32)) then p1 else p3)), .val (.int (if ¬ ((p4 &&& (4 : Int32)) = (0 : Int32)) then p2 else p3)), .val (.ref b13), .val (.ref b21), .unset, .unset, .unset, .unset, .unset, .unset] [(.int p1), (.int p0), (.ref b37), (.ref b37)])) t → Steps p.tables e below (T37.setTop (mkF m 108 #[.val (.int p0), .val (.int p1), .val (.int p2), .val (.int p3), .val (.int p4), .val (.int (bI (¬ ((p4 &&& (1 : Int32)) = (0 : Int32))))), .val (.int (bI (¬ ((p4 &&& (2 : Int32)) = (0 : Int32))))), .val (.int (bI (¬ ((p4 &&& (4 : Int32)) = (0 : Int32))))), .val (.int (if ¬ ((p4 &&& (1 : Int32)) = (0 : Int32)) then p0 else p3)), .val (.int (if ¬ ((p4 &&& (2 : Int32)) = (0 : Int32)) then p1 else p3)), .val (.int (if ¬ ((p4 &&& (4 : Int32)) = (0 : Int32)) then p2 else p3)), .val (.ref b13), .val (.ref b21), .unset, .unset, .unset, .unset, .unset, .unset] [(.ref b37)])) t := by
    intro t k
    refine XS.dup X37.here hx rfl (hb hby at_108) rfl rfl ?_
    show Steps p.tables e below (T37.setTop (mkF m 109 #[.val (.int p0), .val (.int p1), .val (.int p2), .val (.int p3), .val (.int p4), .val (.int (bI (¬ ((p4 &&& (1 : Int32)) = (0 : Int32))))), .val (.int (bI (¬ ((p4 &&& (2 : Int32)) = (0 : Int32))))), .val (.int (bI (¬ ((p4 &&& (4 : Int32)) = (0 : Int32))))), .val (.int (if ¬ ((p4 &&& (1 : Int32)) = (0 : Int32)) then p0 else p3)), .val (.int (if ¬ ((p4 &&& (2 : Int32)) = (0 : Int32)) then p1 else p3)), .val (.int (if ¬ ((p4 &&& (4 : Int32)) = (0 : Int32)) then p2 else p3)), .val (.ref b13), .val (.ref b21), .unset, .unset, .unset, .unset, .unset, .unset] [(.ref b37), (.ref b37)])) _
    refine XS.iloadN X37.here hx rfl (hb hby at_109) rfl ?_
    show Steps p.tables e below (T37.setTop (mkF m 110 #[.val (.int p0), .val (.int p1), .val (.int p2), .val (.int p3), .val (.int p4), .val (.int (bI (¬ ((p4 &&& (1 : Int32)) = (0 : Int32))))), .val (.int (bI (¬ ((p4 &&& (2 : Int32)) = (0 : Int32))))), .val (.int (bI (¬ ((p4 &&& (4 : Int32)) = (0 : Int32))))), .val (.int (if ¬ ((p4 &&& (1 : Int32)) = (0 : Int32)) then p0 else p3)), .val (.int (if ¬ ((p4 &&& (2 : Int32)) = (0 : Int32)) then p1 else p3)), .val (.int (if ¬ ((p4 &&& (4 : Int32)) = (0 : Int32)) then p2 else p3)), .val (.ref b13), .val (.ref b21), .unset, .unset, .unset, .unset, .unset, .unset] [(.int p0), (.ref b37), (.ref b37)])) _
    refine XS.iloadN X37.here hx rfl (hb hby at_110) rfl ?_
    exact k
  refine OG.step s46 ?_
  obtain ⟨_, _, ⟨T47, L47, k47, n47⟩, -, X47, ⟨Lc47, hQ47, l47, y47, z47⟩, st47⟩ := X37.specialBack hx (y := (⟨"com/example/ludus/ludus/PackingTask$Bag", "<init>", "(II)V"⟩ : MethodName)) rfl hown (mvT hZ (hw _ (List.mem_of_getElem? (i := 18) rfl))) (mvT hZ (hw _ (List.mem_of_getElem? (i := 19) rfl))) (mvT hZ (hw _ (List.mem_of_getElem? (i := 20) rfl))) (by decide) (backOf (W := 1) (rm3 l Z a0 hw [] b37 p0 p1 (.int (0 : Int32)) (.int (0 : Int32)) h37 n0 (Nat.le_trans Z0 K37.1) A37 F37_width F37_height ge37) hZ (hw _ (List.mem_of_getElem? (i := 20) rfl)) (hw _ (List.mem_of_getElem? (i := 17) rfl)) (by decide) (by decide)) (g := (mkF m 111 #[.val (.int p0), .val (.int p1), .val (.int p2), .val (.int p3), .val (.int p4), .val (.int (bI (¬ ((p4 &&& (1 : Int32)) = (0 : Int32))))), .val (.int (bI (¬ ((p4 &&& (2 : Int32)) = (0 : Int32))))), .val (.int (bI (¬ ((p4 &&& (4 : Int32)) = (0 : Int32))))), .val (.int (if ¬ ((p4 &&& (1 : Int32)) = (0 : Int32)) then p0 else p3)), .val (.int (if ¬ ((p4 &&& (2 : Int32)) = (0 : Int32)) then p1 else p3)), .val (.int (if ¬ ((p4 &&& (4 : Int32)) = (0 : Int32)) then p2 else p3)), .val (.ref b13), .val (.ref b21), .unset, .unset, .unset, .unset, .unset, .unset] [(.int p1), (.int p0), (.ref b37), (.ref b37)])) rfl (by rw [hml]; rfl) (Steps.refl _) (a := b37) (argsL := [(.int p0), (.int p1)]) (rest := [(.ref b37)]) (lenOf pd__II_V rfl) rfl (by show 2 * 0 + _ ≤ _; exact Nat.le_of_eq rfl) (hb hby at_111) (fun _ _ => ⟨rfl, e37, (by decide : 3 + 0 ≤ _), (by decide : 8 + 0 ≤ _)⟩)
  dsimp only [Pt.U, Pt.locs, Pt.cells, Pt.slots] at X47 l47 y47 z47 st47 hQ47
  subst l47 y47 z47
  obtain ⟨rfl, N47q, Kc47, p47_0, p47_1⟩ := hQ47
  have N47 := Fr.app N27 N47q
  refine OG.step (fun t k => st47.trans k) ?_
  have f48 := f38.keep Kc47
  have f49 := f39.keep Kc47 (ninS ne37_b13 nin0)
  have f50 := f40.keep Kc47 (ninS ne37_b13 nin0)
  have f51 := f41.keep Kc47 (ninS ne37_b13 nin0)
  have f52 := f42.keep Kc47
  have f53 := f43.keep Kc47 (ninS ne37_b21 nin0)
  have f54 := f44.keep Kc47 (ninS ne37_b21 nin0)
  have f55 := f45.keep Kc47 (ninS ne37_b21 nin0)
  have f56 := A37.keep Kc47
  have K47 := K37.trans Kc47 (allS (Or.inr sz37) all0)
  show OG _ _ _ _ _ _ _ (T47.setTop (mkF m 114 #[.val (.int p0), .val (.int p1), .val (.int p2), .val (.int p3), .val (.int p4), .val (.int (bI (¬ ((p4 &&& (1 : Int32)) = (0 : Int32))))), .val (.int (bI (¬ ((p4 &&& (2 : Int32)) = (0 : Int32))))), .val (.int (bI (¬ ((p4 &&& (4 : Int32)) = (0 : Int32))))), .val (.int (if ¬ ((p4 &&& (1 : Int32)) = (0 : Int32)) then p0 else p3)), .val (.int (if ¬ ((p4 &&& (2 : Int32)) = (0 : Int32)) then p1 else p3)), .val (.int (if ¬ ((p4 &&& (4 : Int32)) = (0 : Int32)) then p2 else p3)), .val (.ref b13), .val (.ref b21), .unset, .unset, .unset, .unset, .unset, .unset] [(.ref b37)]))
  have s59 : ∀ t, Steps p.tables e below (T47.setTop (mkF m 116 #[.val (.int p0), .val (.int p1), .val (.int p2), .val (.int p3), .val (.int p4), .val (.int (bI (¬ ((p4 &&& (1 : Int32)) = (0 : Int32))))), .val (.int (bI (¬ ((p4 &&& (2 : Int32)) = (0 : Int32))))), .val (.int (bI (¬ ((p4 &&& (4 : Int32)) = (0 : Int32))))), .val (.int (if ¬ ((p4 &&& (1 : Int32)) = (0 : Int32)) then p0 else p3)), .val (.int (if ¬ ((p4 &&& (2 : Int32)) = (0 : Int32)) then p1 else p3)), .val (.int (if ¬ ((p4 &&& (4 : Int32)) = (0 : Int32)) then p2 else p3)), .val (.ref b13), .val (.ref b21), .val (.ref b37), .unset, .unset, .unset, .unset, .unset] [])) t → Steps p.tables e below (T47.setTop (mkF m 114 #[.val (.int p0), .val (.int p1), .val (.int p2), .val (.int p3), .val (.int p4), .val (.int (bI (¬ ((p4 &&& (1 : Int32)) = (0 : Int32))))), .val (.int (bI (¬ ((p4 &&& (2 : Int32)) = (0 : Int32))))), .val (.int (bI (¬ ((p4 &&& (4 : Int32)) = (0 : Int32))))), .val (.int (if ¬ ((p4 &&& (1 : Int32)) = (0 : Int32)) then p0 else p3)), .val (.int (if ¬ ((p4 &&& (2 : Int32)) = (0 : Int32)) then p1 else p3)), .val (.int (if ¬ ((p4 &&& (4 : Int32)) = (0 : Int32)) then p2 else p3)), .val (.ref b13), .val (.ref b21), .unset, .unset, .unset, .unset, .unset, .unset] [(.ref b37)])) t := by
    intro t k
    refine XS.astore X47.here hx rfl (hb hby at_114) rfl rfl (l' := #[.val (.int p0), .val (.int p1), .val (.int p2), .val (.int p3), .val (.int p4), .val (.int (bI (¬ ((p4 &&& (1 : Int32)) = (0 : Int32))))), .val (.int (bI (¬ ((p4 &&& (2 : Int32)) = (0 : Int32))))), .val (.int (bI (¬ ((p4 &&& (4 : Int32)) = (0 : Int32))))), .val (.int (if ¬ ((p4 &&& (1 : Int32)) = (0 : Int32)) then p0 else p3)), .val (.int (if ¬ ((p4 &&& (2 : Int32)) = (0 : Int32)) then p1 else p3)), .val (.int (if ¬ ((p4 &&& (4 : Int32)) = (0 : Int32)) then p2 else p3)), .val (.ref b13), .val (.ref b21), .val (.ref b37), .unset, .unset, .unset, .unset, .unset]) rfl ?_
    exact k
  refine OG.step s59 ?_
  have s60 : ∀ t, Steps p.tables e below (T47.setTop (mkF m 139 #[.val (.int p0), .val (.int p1), .val (.int p2), .val (.int p3), .val (.int p4), .val (.int (bI (¬ ((p4 &&& (1 : Int32)) = (0 : Int32))))), .val (.int (bI (¬ ((p4 &&& (2 : Int32)) = (0 : Int32))))), .val (.int (bI (¬ ((p4 &&& (4 : Int32)) = (0 : Int32))))), .val (.int (if ¬ ((p4 &&& (1 : Int32)) = (0 : Int32)) then p0 else p3)), .val (.int (if ¬ ((p4 &&& (2 : Int32)) = (0 : Int32)) then p1 else p3)), .val (.int (if ¬ ((p4 &&& (4 : Int32)) = (0 : Int32)) then p2 else p3)), .val (.ref b13), .val (.ref b21), .val (.ref b37), .unset, .unset, .unset, .unset, .unset] [(.int (bI ((p0 = (if ¬ ((p4 &&& (1 : Int32)) = (0 : Int32)) then p0 else p3)) ∧ ((p1 = (if ¬ ((p4 &&& (2 : Int32)) = (0 : Int32)) then p1 else p3)) ∧ (p2 = (if ¬ ((p4 &&& (4 : Int32)) = (0 : Int32)) then p2 else p3))))))])) t → Steps p.tables e below (T47.setTop (mkF m 116 #[.val (.int p0), .val (.int p1), .val (.int p2), .val (.int p3), .val (.int p4), .val (.int (bI (¬ ((p4 &&& (1 : Int32)) = (0 : Int32))))), .val (.int (bI (¬ ((p4 &&& (2 : Int32)) = (0 : Int32))))), .val (.int (bI (¬ ((p4 &&& (4 : Int32)) = (0 : Int32))))), .val (.int (if ¬ ((p4 &&& (1 : Int32)) = (0 : Int32)) then p0 else p3)), .val (.int (if ¬ ((p4 &&& (2 : Int32)) = (0 : Int32)) then p1 else p3)), .val (.int (if ¬ ((p4 &&& (4 : Int32)) = (0 : Int32)) then p2 else p3)), .val (.ref b13), .val (.ref b21), .val (.ref b37), .unset, .unset, .unset, .unset, .unset] [])) t := by
    intro t k
    refine XS.iloadN X47.here hx rfl (hb hby at_116) rfl ?_
    show Steps p.tables e below (T47.setTop (mkF m 117 #[.val (.int p0), .val (.int p1), .val (.int p2), .val (.int p3), .val (.int p4), .val (.int (bI (¬ ((p4 &&& (1 : Int32)) = (0 : Int32))))), .val (.int (bI (¬ ((p4 &&& (2 : Int32)) = (0 : Int32))))), .val (.int (bI (¬ ((p4 &&& (4 : Int32)) = (0 : Int32))))), .val (.int (if ¬ ((p4 &&& (1 : Int32)) = (0 : Int32)) then p0 else p3)), .val (.int (if ¬ ((p4 &&& (2 : Int32)) = (0 : Int32)) then p1 else p3)), .val (.int (if ¬ ((p4 &&& (4 : Int32)) = (0 : Int32)) then p2 else p3)), .val (.ref b13), .val (.ref b21), .val (.ref b37), .unset, .unset, .unset, .unset, .unset] [(.int p0)])) _
    refine XS.iload X47.here hx rfl (hb hby at_117) rfl ?_
    show Steps p.tables e below (T47.setTop (mkF m 119 #[.val (.int p0), .val (.int p1), .val (.int p2), .val (.int p3), .val (.int p4), .val (.int (bI (¬ ((p4 &&& (1 : Int32)) = (0 : Int32))))), .val (.int (bI (¬ ((p4 &&& (2 : Int32)) = (0 : Int32))))), .val (.int (bI (¬ ((p4 &&& (4 : Int32)) = (0 : Int32))))), .val (.int (if ¬ ((p4 &&& (1 : Int32)) = (0 : Int32)) then p0 else p3)), .val (.int (if ¬ ((p4 &&& (2 : Int32)) = (0 : Int32)) then p1 else p3)), .val (.int (if ¬ ((p4 &&& (4 : Int32)) = (0 : Int32)) then p2 else p3)), .val (.ref b13), .val (.ref b21), .val (.ref b37), .unset, .unset, .unset, .unset, .unset] [(.int (if ¬ ((p4 &&& (1 : Int32)) = (0 : Int32)) then p0 else p3)), (.int p0)])) _
    by_cases hm119 : p0 = (if ¬ ((p4 &&& (1 : Int32)) = (0 : Int32)) then p0 else p3)
    · refine XS.icmpNo X47.here hx rfl (hb hby at_119) rfl (teq hm119).2 ?_
      show Steps p.tables e below (T47.setTop (mkF m 122 #[.val (.int p0), .val (.int p1), .val (.int p2), .val (.int p3), .val (.int p4), .val (.int (bI (¬ ((p4 &&& (1 : Int32)) = (0 : Int32))))), .val (.int (bI (¬ ((p4 &&& (2 : Int32)) = (0 : Int32))))), .val (.int (bI (¬ ((p4 &&& (4 : Int32)) = (0 : Int32))))), .val (.int (if ¬ ((p4 &&& (1 : Int32)) = (0 : Int32)) then p0 else p3)), .val (.int (if ¬ ((p4 &&& (2 : Int32)) = (0 : Int32)) then p1 else p3)), .val (.int (if ¬ ((p4 &&& (4 : Int32)) = (0 : Int32)) then p2 else p3)), .val (.ref b13), .val (.ref b21), .val (.ref b37), .unset, .unset, .unset, .unset, .unset] [])) _
      refine XS.iloadN X47.here hx rfl (hb hby at_122) rfl ?_
      show Steps p.tables e below (T47.setTop (mkF m 123 #[.val (.int p0), .val (.int p1), .val (.int p2), .val (.int p3), .val (.int p4), .val (.int (bI (¬ ((p4 &&& (1 : Int32)) = (0 : Int32))))), .val (.int (bI (¬ ((p4 &&& (2 : Int32)) = (0 : Int32))))), .val (.int (bI (¬ ((p4 &&& (4 : Int32)) = (0 : Int32))))), .val (.int (if ¬ ((p4 &&& (1 : Int32)) = (0 : Int32)) then p0 else p3)), .val (.int (if ¬ ((p4 &&& (2 : Int32)) = (0 : Int32)) then p1 else p3)), .val (.int (if ¬ ((p4 &&& (4 : Int32)) = (0 : Int32)) then p2 else p3)), .val (.ref b13), .val (.ref b21), .val (.ref b37), .unset, .unset, .unset, .unset, .unset] [(.int p1)])) _
      refine XS.iload X47.here hx rfl (hb hby at_123) rfl ?_
      show Steps p.tables e below (T47.setTop (mkF m 125 #[.val (.int p0), .val (.int p1), .val (.int p2), .val (.int p3), .val (.int p4), .val (.int (bI (¬ ((p4 &&& (1 : Int32)) = (0 : Int32))))), .val (.int (bI (¬ ((p4 &&& (2 : Int32)) = (0 : Int32))))), .val (.int (bI (¬ ((p4 &&& (4 : Int32)) = (0 : Int32))))), .val (.int (if ¬ ((p4 &&& (1 : Int32)) = (0 : Int32)) then p0 else p3)), .val (.int (if ¬ ((p4 &&& (2 : Int32)) = (0 : Int32)) then p1 else p3)), .val (.int (if ¬ ((p4 &&& (4 : Int32)) = (0 : Int32)) then p2 else p3)), .val (.ref b13), .val (.ref b21), .val (.ref b37), .unset, .unset, .unset, .unset, .unset] [(.int (if ¬ ((p4 &&& (2 : Int32)) = (0 : Int32)) then p1 else p3)), (.int p1)])) _
      by_cases hm125 : p1 = (if ¬ ((p4 &&& (2 : Int32)) = (0 : Int32)) then p1 else p3)
      · refine XS.icmpNo X47.here hx rfl (hb hby at_125) rfl (teq hm125).2 ?_
        show Steps p.tables e below (T47.setTop (mkF m 128 #[.val (.int p0), .val (.int p1), .val (.int p2), .val (.int p3), .val (.int p4), .val (.int (bI (¬ ((p4 &&& (1 : Int32)) = (0 : Int32))))), .val (.int (bI (¬ ((p4 &&& (2 : Int32)) = (0 : Int32))))), .val (.int (bI (¬ ((p4 &&& (4 : Int32)) = (0 : Int32))))), .val (.int (if ¬ ((p4 &&& (1 : Int32)) = (0 : Int32)) then p0 else p3)), .val (.int (if ¬ ((p4 &&& (2 : Int32)) = (0 : Int32)) then p1 else p3)), .val (.int (if ¬ ((p4 &&& (4 : Int32)) = (0 : Int32)) then p2 else p3)), .val (.ref b13), .val (.ref b21), .val (.ref b37), .unset, .unset, .unset, .unset, .unset] [])) _
        refine XS.iloadN X47.here hx rfl (hb hby at_128) rfl ?_
        show Steps p.tables e below (T47.setTop (mkF m 129 #[.val (.int p0), .val (.int p1), .val (.int p2), .val (.int p3), .val (.int p4), .val (.int (bI (¬ ((p4 &&& (1 : Int32)) = (0 : Int32))))), .val (.int (bI (¬ ((p4 &&& (2 : Int32)) = (0 : Int32))))), .val (.int (bI (¬ ((p4 &&& (4 : Int32)) = (0 : Int32))))), .val (.int (if ¬ ((p4 &&& (1 : Int32)) = (0 : Int32)) then p0 else p3)), .val (.int (if ¬ ((p4 &&& (2 : Int32)) = (0 : Int32)) then p1 else p3)), .val (.int (if ¬ ((p4 &&& (4 : Int32)) = (0 : Int32)) then p2 else p3)), .val (.ref b13), .val (.ref b21), .val (.ref b37), .unset, .unset, .unset, .unset, .unset] [(.int p2)])) _
        refine XS.iload X47.here hx rfl (hb hby at_129) rfl ?_
        show Steps p.tables e below (T47.setTop (mkF m 131 #[.val (.int p0), .val (.int p1), .val (.int p2), .val (.int p3), .val (.int p4), .val (.int (bI (¬ ((p4 &&& (1 : Int32)) = (0 : Int32))))), .val (.int (bI (¬ ((p4 &&& (2 : Int32)) = (0 : Int32))))), .val (.int (bI (¬ ((p4 &&& (4 : Int32)) = (0 : Int32))))), .val (.int (if ¬ ((p4 &&& (1 : Int32)) = (0 : Int32)) then p0 else p3)), .val (.int (if ¬ ((p4 &&& (2 : Int32)) = (0 : Int32)) then p1 else p3)), .val (.int (if ¬ ((p4 &&& (4 : Int32)) = (0 : Int32)) then p2 else p3)), .val (.ref b13), .val (.ref b21), .val (.ref b37), .unset, .unset, .unset, .unset, .unset] [(.int (if ¬ ((p4 &&& (4 : Int32)) = (0 : Int32)) then p2 else p3)), (.int p2)])) _
        by_cases hm131 : p2 = (if ¬ ((p4 &&& (4 : Int32)) = (0 : Int32)) then p2 else p3)
        · refine XS.icmpNo X47.here hx rfl (hb hby at_131) rfl (teq hm131).2 ?_
          show Steps p.tables e below (T47.setTop (mkF m 134 #[.val (.int p0), .val (.int p1), .val (.int p2), .val (.int p3), .val (.int p4), .val (.int (bI (¬ ((p4 &&& (1 : Int32)) = (0 : Int32))))), .val (.int (bI (¬ ((p4 &&& (2 : Int32)) = (0 : Int32))))), .val (.int (bI (¬ ((p4 &&& (4 : Int32)) = (0 : Int32))))), .val (.int (if ¬ ((p4 &&& (1 : Int32)) = (0 : Int32)) then p0 else p3)), .val (.int (if ¬ ((p4 &&& (2 : Int32)) = (0 : Int32)) then p1 else p3)), .val (.int (if ¬ ((p4 &&& (4 : Int32)) = (0 : Int32)) then p2 else p3)), .val (.ref b13), .val (.ref b21), .val (.ref b37), .unset, .unset, .unset, .unset, .unset] [])) _
          refine XS.iconst X47.here hx rfl (hb hby at_134) ?_
          show Steps p.tables e below (T47.setTop (mkF m 135 #[.val (.int p0), .val (.int p1), .val (.int p2), .val (.int p3), .val (.int p4), .val (.int (bI (¬ ((p4 &&& (1 : Int32)) = (0 : Int32))))), .val (.int (bI (¬ ((p4 &&& (2 : Int32)) = (0 : Int32))))), .val (.int (bI (¬ ((p4 &&& (4 : Int32)) = (0 : Int32))))), .val (.int (if ¬ ((p4 &&& (1 : Int32)) = (0 : Int32)) then p0 else p3)), .val (.int (if ¬ ((p4 &&& (2 : Int32)) = (0 : Int32)) then p1 else p3)), .val (.int (if ¬ ((p4 &&& (4 : Int32)) = (0 : Int32)) then p2 else p3)), .val (.ref b13), .val (.ref b21), .val (.ref b37), .unset, .unset, .unset, .unset, .unset] [(.int (1 : Int32))])) _
          refine XS.goto X47.here hx rfl (pc0 := 135) (pc' := 139) rfl (hb hby at_135) (by decide) (by decide) ?_
          show Steps p.tables e below (T47.setTop (mkF m 139 #[.val (.int p0), .val (.int p1), .val (.int p2), .val (.int p3), .val (.int p4), .val (.int (bI (¬ ((p4 &&& (1 : Int32)) = (0 : Int32))))), .val (.int (bI (¬ ((p4 &&& (2 : Int32)) = (0 : Int32))))), .val (.int (bI (¬ ((p4 &&& (4 : Int32)) = (0 : Int32))))), .val (.int (if ¬ ((p4 &&& (1 : Int32)) = (0 : Int32)) then p0 else p3)), .val (.int (if ¬ ((p4 &&& (2 : Int32)) = (0 : Int32)) then p1 else p3)), .val (.int (if ¬ ((p4 &&& (4 : Int32)) = (0 : Int32)) then p2 else p3)), .val (.ref b13), .val (.ref b21), .val (.ref b37), .unset, .unset, .unset, .unset, .unset] [(.int (1 : Int32))])) _
          rw [show (bI ((p0 = (if ¬ ((p4 &&& (1 : Int32)) = (0 : Int32)) then p0 else p3)) ∧ ((p1 = (if ¬ ((p4 &&& (2 : Int32)) = (0 : Int32)) then p1 else p3)) ∧ (p2 = (if ¬ ((p4 &&& (4 : Int32)) = (0 : Int32)) then p2 else p3))))) = (1 : Int32) from bI_pos (P := (p0 = (if ¬ ((p4 &&& (1 : Int32)) = (0 : Int32)) then p0 else p3)) ∧ ((p1 = (if ¬ ((p4 &&& (2 : Int32)) = (0 : Int32)) then p1 else p3)) ∧ (p2 = (if ¬ ((p4 &&& (4 : Int32)) = (0 : Int32)) then p2 else p3)))) ⟨hm119, ⟨hm125, hm131⟩⟩] at k
          exact k
        · refine XS.icmpYes X47.here hx rfl (pc0 := 131) (pc' := 138) rfl (hb hby at_131) rfl (feq hm131).2 (by decide) (by decide) ?_
          show Steps p.tables e below (T47.setTop (mkF m 138 #[.val (.int p0), .val (.int p1), .val (.int p2), .val (.int p3), .val (.int p4), .val (.int (bI (¬ ((p4 &&& (1 : Int32)) = (0 : Int32))))), .val (.int (bI (¬ ((p4 &&& (2 : Int32)) = (0 : Int32))))), .val (.int (bI (¬ ((p4 &&& (4 : Int32)) = (0 : Int32))))), .val (.int (if ¬ ((p4 &&& (1 : Int32)) = (0 : Int32)) then p0 else p3)), .val (.int (if ¬ ((p4 &&& (2 : Int32)) = (0 : Int32)) then p1 else p3)), .val (.int (if ¬ ((p4 &&& (4 : Int32)) = (0 : Int32)) then p2 else p3)), .val (.ref b13), .val (.ref b21), .val (.ref b37), .unset, .unset, .unset, .unset, .unset] [])) _
          refine XS.iconst X47.here hx rfl (hb hby at_138) ?_
          show Steps p.tables e below (T47.setTop (mkF m 139 #[.val (.int p0), .val (.int p1), .val (.int p2), .val (.int p3), .val (.int p4), .val (.int (bI (¬ ((p4 &&& (1 : Int32)) = (0 : Int32))))), .val (.int (bI (¬ ((p4 &&& (2 : Int32)) = (0 : Int32))))), .val (.int (bI (¬ ((p4 &&& (4 : Int32)) = (0 : Int32))))), .val (.int (if ¬ ((p4 &&& (1 : Int32)) = (0 : Int32)) then p0 else p3)), .val (.int (if ¬ ((p4 &&& (2 : Int32)) = (0 : Int32)) then p1 else p3)), .val (.int (if ¬ ((p4 &&& (4 : Int32)) = (0 : Int32)) then p2 else p3)), .val (.ref b13), .val (.ref b21), .val (.ref b37), .unset, .unset, .unset, .unset, .unset] [(.int (0 : Int32))])) _
          rw [show (bI ((p0 = (if ¬ ((p4 &&& (1 : Int32)) = (0 : Int32)) then p0 else p3)) ∧ ((p1 = (if ¬ ((p4 &&& (2 : Int32)) = (0 : Int32)) then p1 else p3)) ∧ (p2 = (if ¬ ((p4 &&& (4 : Int32)) = (0 : Int32)) then p2 else p3))))) = (0 : Int32) from bI_neg (P := (p0 = (if ¬ ((p4 &&& (1 : Int32)) = (0 : Int32)) then p0 else p3)) ∧ ((p1 = (if ¬ ((p4 &&& (2 : Int32)) = (0 : Int32)) then p1 else p3)) ∧ (p2 = (if ¬ ((p4 &&& (4 : Int32)) = (0 : Int32)) then p2 else p3)))) (fun z => (fun z => hm131 z.2) z.2)] at k
          exact k
      · refine XS.icmpYes X47.here hx rfl (pc0 := 125) (pc' := 138) rfl (hb hby at_125) rfl (feq hm125).2 (by decide) (by decide) ?_
        show Steps p.tables e below (T47.setTop (mkF m 138 #[.val (.int p0), .val (.int p1), .val (.int p2), .val (.int p3), .val (.int p4), .val (.int (bI (¬ ((p4 &&& (1 : Int32)) = (0 : Int32))))), .val (.int (bI (¬ ((p4 &&& (2 : Int32)) = (0 : Int32))))), .val (.int (bI (¬ ((p4 &&& (4 : Int32)) = (0 : Int32))))), .val (.int (if ¬ ((p4 &&& (1 : Int32)) = (0 : Int32)) then p0 else p3)), .val (.int (if ¬ ((p4 &&& (2 : Int32)) = (0 : Int32)) then p1 else p3)), .val (.int (if ¬ ((p4 &&& (4 : Int32)) = (0 : Int32)) then p2 else p3)), .val (.ref b13), .val (.ref b21), .val (.ref b37), .unset, .unset, .unset, .unset, .unset] [])) _
        refine XS.iconst X47.here hx rfl (hb hby at_138) ?_
        show Steps p.tables e below (T47.setTop (mkF m 139 #[.val (.int p0), .val (.int p1), .val (.int p2), .val (.int p3), .val (.int p4), .val (.int (bI (¬ ((p4 &&& (1 : Int32)) = (0 : Int32))))), .val (.int (bI (¬ ((p4 &&& (2 : Int32)) = (0 : Int32))))), .val (.int (bI (¬ ((p4 &&& (4 : Int32)) = (0 : Int32))))), .val (.int (if ¬ ((p4 &&& (1 : Int32)) = (0 : Int32)) then p0 else p3)), .val (.int (if ¬ ((p4 &&& (2 : Int32)) = (0 : Int32)) then p1 else p3)), .val (.int (if ¬ ((p4 &&& (4 : Int32)) = (0 : Int32)) then p2 else p3)), .val (.ref b13), .val (.ref b21), .val (.ref b37), .unset, .unset, .unset, .unset, .unset] [(.int (0 : Int32))])) _
        rw [show (bI ((p0 = (if ¬ ((p4 &&& (1 : Int32)) = (0 : Int32)) then p0 else p3)) ∧ ((p1 = (if ¬ ((p4 &&& (2 : Int32)) = (0 : Int32)) then p1 else p3)) ∧ (p2 = (if ¬ ((p4 &&& (4 : Int32)) = (0 : Int32)) then p2 else p3))))) = (0 : Int32) from bI_neg (P := (p0 = (if ¬ ((p4 &&& (1 : Int32)) = (0 : Int32)) then p0 else p3)) ∧ ((p1 = (if ¬ ((p4 &&& (2 : Int32)) = (0 : Int32)) then p1 else p3)) ∧ (p2 = (if ¬ ((p4 &&& (4 : Int32)) = (0 : Int32)) then p2 else p3)))) (fun z => (fun z => hm125 z.1) z.2)] at k
        exact k
    · refine XS.icmpYes X47.here hx rfl (pc0 := 119) (pc' := 138) rfl (hb hby at_119) rfl (feq hm119).2 (by decide) (by decide) ?_
      show Steps p.tables e below (T47.setTop (mkF m 138 #[.val (.int p0), .val (.int p1), .val (.int p2), .val (.int p3), .val (.int p4), .val (.int (bI (¬ ((p4 &&& (1 : Int32)) = (0 : Int32))))), .val (.int (bI (¬ ((p4 &&& (2 : Int32)) = (0 : Int32))))), .val (.int (bI (¬ ((p4 &&& (4 : Int32)) = (0 : Int32))))), .val (.int (if ¬ ((p4 &&& (1 : Int32)) = (0 : Int32)) then p0 else p3)), .val (.int (if ¬ ((p4 &&& (2 : Int32)) = (0 : Int32)) then p1 else p3)), .val (.int (if ¬ ((p4 &&& (4 : Int32)) = (0 : Int32)) then p2 else p3)), .val (.ref b13), .val (.ref b21), .val (.ref b37), .unset, .unset, .unset, .unset, .unset] [])) _
      refine XS.iconst X47.here hx rfl (hb hby at_138) ?_
      show Steps p.tables e below (T47.setTop (mkF m 139 #[.val (.int p0), .val (.int p1), .val (.int p2), .val (.int p3), .val (.int p4), .val (.int (bI (¬ ((p4 &&& (1 : Int32)) = (0 : Int32))))), .val (.int (bI (¬ ((p4 &&& (2 : Int32)) = (0 : Int32))))), .val (.int (bI (¬ ((p4 &&& (4 : Int32)) = (0 : Int32))))), .val (.int (if ¬ ((p4 &&& (1 : Int32)) = (0 : Int32)) then p0 else p3)), .val (.int (if ¬ ((p4 &&& (2 : Int32)) = (0 : Int32)) then p1 else p3)), .val (.int (if ¬ ((p4 &&& (4 : Int32)) = (0 : Int32)) then p2 else p3)), .val (.ref b13), .val (.ref b21), .val (.ref b37), .unset, .unset, .unset, .unset, .unset] [(.int (0 : Int32))])) _
      rw [show (bI ((p0 = (if ¬ ((p4 &&& (1 : Int32)) = (0 : Int32)) then p0 else p3)) ∧ ((p1 = (if ¬ ((p4 &&& (2 : Int32)) = (0 : Int32)) then p1 else p3)) ∧ (p2 = (if ¬ ((p4 &&& (4 : Int32)) = (0 : Int32)) then p2 else p3))))) = (0 : Int32) from bI_neg (P := (p0 = (if ¬ ((p4 &&& (1 : Int32)) = (0 : Int32)) then p0 else p3)) ∧ ((p1 = (if ¬ ((p4 &&& (2 : Int32)) = (0 : Int32)) then p1 else p3)) ∧ (p2 = (if ¬ ((p4 &&& (4 : Int32)) = (0 : Int32)) then p2 else p3)))) (fun z => hm119 z.1)] at k
      exact k
  refine OG.step s60 ?_
  have s61 : ∀ t, Steps p.tables e below (T47.setTop (mkF m 145 #[.val (.int p0), .val (.int p1), .val (.int p2), .val (.int p3), .val (.int p4), .val (.int (bI (¬ ((p4 &&& (1 : Int32)) = (0 : Int32))))), .val (.int (bI (¬ ((p4 &&& (2 : Int32)) = (0 : Int32))))), .val (.int (bI (¬ ((p4 &&& (4 : Int32)) = (0 : Int32))))), .val (.int (if ¬ ((p4 &&& (1 : Int32)) = (0 : Int32)) then p0 else p3)), .val (.int (if ¬ ((p4 &&& (2 : Int32)) = (0 : Int32)) then p1 else p3)), .val (.int (if ¬ ((p4 &&& (4 : Int32)) = (0 : Int32)) then p2 else p3)), .val (.ref b13), .val (.ref b21), .val (.ref b37), .val (.int (bI ((p0 = (if ¬ ((p4 &&& (1 : Int32)) = (0 : Int32)) then p0 else p3)) ∧ ((p1 = (if ¬ ((p4 &&& (2 : Int32)) = (0 : Int32)) then p1 else p3)) ∧ (p2 = (if ¬ ((p4 &&& (4 : Int32)) = (0 : Int32)) then p2 else p3)))))), .unset, .unset, .unset, .unset] [(.ref b21), (.ref b13)])) t → Steps p.tables e below (T47.setTop (mkF m 139 #[.val (.int p0), .val (.int p1), .val (.int p2), .val (.int p3), .val (.int p4), .val (.int (bI (¬ ((p4 &&& (1 : Int32)) = (0 : Int32))))), .val (.int (bI (¬ ((p4 &&& (2 : Int32)) = (0 : Int32))))), .val (.int (bI (¬ ((p4 &&& (4 : Int32)) = (0 : Int32))))), .val (.int (if ¬ ((p4 &&& (1 : Int32)) = (0 : Int32)) then p0 else p3)), .val (.int (if ¬ ((p4 &&& (2 : Int32)) = (0 : Int32)) then p1 else p3)), .val (.int (if ¬ ((p4 &&& (4 : Int32)) = (0 : Int32)) then p2 else p3)), .val (.ref b13), .val (.ref b21), .val (.ref b37), .unset, .unset, .unset, .unset, .unset] [(.int (bI ((p0 = (if ¬ ((p4 &&& (1 : Int32)) = (0 : Int32)) then p0 else p3)) ∧ ((p1 = (if ¬ ((p4 &&& (2 : Int32)) = (0 : Int32)) then p1 else p3)) ∧ (p2 = (if ¬ ((p4 &&& (4 : Int32)) = (0 : Int32)) then p2 else p3))))))])) t := by
    intro t k
    refine XS.istore X47.here hx rfl (hb hby at_139) rfl (l' := #[.val (.int p0), .val (.int p1), .val (.int p2), .val (.int p3), .val (.int p4), .val (.int (bI (¬ ((p4 &&& (1 : Int32)) = (0 : Int32))))), .val (.int (bI (¬ ((p4 &&& (2 : Int32)) = (0 : Int32))))), .val (.int (bI (¬ ((p4 &&& (4 : Int32)) = (0 : Int32))))), .val (.int (if ¬ ((p4 &&& (1 : Int32)) = (0 : Int32)) then p0 else p3)), .val (.int (if ¬ ((p4 &&& (2 : Int32)) = (0 : Int32)) then p1 else p3)), .val (.int (if ¬ ((p4 &&& (4 : Int32)) = (0 : Int32)) then p2 else p3)), .val (.ref b13), .val (.ref b21), .val (.ref b37), .val (.int (bI ((p0 = (if ¬ ((p4 &&& (1 : Int32)) = (0 : Int32)) then p0 else p3)) ∧ ((p1 = (if ¬ ((p4 &&& (2 : Int32)) = (0 : Int32)) then p1 else p3)) ∧ (p2 = (if ¬ ((p4 &&& (4 : Int32)) = (0 : Int32)) then p2 else p3)))))), .unset, .unset, .unset, .unset]) rfl ?_
    show Steps p.tables e below (T47.setTop (mkF m 141 #[.val (.int p0), .val (.int p1), .val (.int p2), .val (.int p3), .val (.int p4), .val (.int (bI (¬ ((p4 &&& (1 : Int32)) = (0 : Int32))))), .val (.int (bI (¬ ((p4 &&& (2 : Int32)) = (0 : Int32))))), .val (.int (bI (¬ ((p4 &&& (4 : Int32)) = (0 : Int32))))), .val (.int (if ¬ ((p4 &&& (1 : Int32)) = (0 : Int32)) then p0 else p3)), .val (.int (if ¬ ((p4 &&& (2 : Int32)) = (0 : Int32)) then p1 else p3)), .val (.int (if ¬ ((p4 &&& (4 : Int32)) = (0 : Int32)) then p2 else p3)), .val (.ref b13), .val (.ref b21), .val (.ref b37), .val (.int (bI ((p0 = (if ¬ ((p4 &&& (1 : Int32)) = (0 : Int32)) then p0 else p3)) ∧ ((p1 = (if ¬ ((p4 &&& (2 : Int32)) = (0 : Int32)) then p1 else p3)) ∧ (p2 = (if ¬ ((p4 &&& (4 : Int32)) = (0 : Int32)) then p2 else p3)))))), .unset, .unset, .unset, .unset] [])) _
    refine XS.aload X47.here hx rfl (hb hby at_141) rfl rfl ?_
    show Steps p.tables e below (T47.setTop (mkF m 143 #[.val (.int p0), .val (.int p1), .val (.int p2), .val (.int p3), .val (.int p4), .val (.int (bI (¬ ((p4 &&& (1 : Int32)) = (0 : Int32))))), .val (.int (bI (¬ ((p4 &&& (2 : Int32)) = (0 : Int32))))), .val (.int (bI (¬ ((p4 &&& (4 : Int32)) = (0 : Int32))))), .val (.int (if ¬ ((p4 &&& (1 : Int32)) = (0 : Int32)) then p0 else p3)), .val (.int (if ¬ ((p4 &&& (2 : Int32)) = (0 : Int32)) then p1 else p3)), .val (.int (if ¬ ((p4 &&& (4 : Int32)) = (0 : Int32)) then p2 else p3)), .val (.ref b13), .val (.ref b21), .val (.ref b37), .val (.int (bI ((p0 = (if ¬ ((p4 &&& (1 : Int32)) = (0 : Int32)) then p0 else p3)) ∧ ((p1 = (if ¬ ((p4 &&& (2 : Int32)) = (0 : Int32)) then p1 else p3)) ∧ (p2 = (if ¬ ((p4 &&& (4 : Int32)) = (0 : Int32)) then p2 else p3)))))), .unset, .unset, .unset, .unset] [(.ref b13)])) _
    refine XS.aload X47.here hx rfl (hb hby at_143) rfl rfl ?_
    exact k
  refine OG.step s61 ?_
  obtain ⟨cq62, kq62, q62a, q62b, q62c⟩ := isOf hZ rfl f48
  obtain ⟨_, _, ⟨T62, L62, k62, n62⟩, -, X62, ⟨Lc62, hQ62, l62, y62, z62⟩, st62⟩ := X47.virtualBack hx (y := (⟨"com/example/ludus/ludus/PackingTask$Good", "equals", "(Ljava/lang/Object;)Z"⟩ : MethodName)) (z := (⟨"com/example/ludus/ludus/PackingTask$Good", "equals", "(Ljava/lang/Object;)Z"⟩ : MethodName)) hown (mvT hZ (hw _ (List.mem_of_getElem? (i := 26) rfl))) (mvT hZ (hw _ (List.mem_of_getElem? (i := 27) rfl))) (notFace_of_selects (args := #[]) (mvT hZ (hw _ (List.mem_of_getElem? (i := 29) rfl)))) (mvT hZ (hw _ (List.mem_of_getElem? (i := 29) rfl))) (mvT hZ (hw _ (List.mem_of_getElem? (i := 28) rfl))) (by decide) (backOf (W := 0) (rm4s l Z a0 hw [] b13 b21 p0 p1 p2 (if ¬ ((p4 &&& (1 : Int32)) = (0 : Int32)) then p0 else p3) (if ¬ ((p4 &&& (2 : Int32)) = (0 : Int32)) then p1 else p3) (if ¬ ((p4 &&& (4 : Int32)) = (0 : Int32)) then p2 else p3) T47.heap n0 (Nat.le_trans Z0 K47.1) f52 f49 f50 f51 f53 f54 f55) hZ (hw _ (List.mem_of_getElem? (i := 30) rfl)) (hw _ (List.mem_of_getElem? (i := 2) rfl)) (by decide) (by decide)) q62a q62c (g := (mkF m 145 #[.val (.int p0), .val (.int p1), .val (.int p2), .val (.int p3), .val (.int p4), .val (.int (bI (¬ ((p4 &&& (1 : Int32)) = (0 : Int32))))), .val (.int (bI (¬ ((p4 &&& (2 : Int32)) = (0 : Int32))))), .val (.int (bI (¬ ((p4 &&& (4 : Int32)) = (0 : Int32))))), .val (.int (if ¬ ((p4 &&& (1 : Int32)) = (0 : Int32)) then p0 else p3)), .val (.int (if ¬ ((p4 &&& (2 : Int32)) = (0 : Int32)) then p1 else p3)), .val (.int (if ¬ ((p4 &&& (4 : Int32)) = (0 : Int32)) then p2 else p3)), .val (.ref b13), .val (.ref b21), .val (.ref b37), .val (.int (bI ((p0 = (if ¬ ((p4 &&& (1 : Int32)) = (0 : Int32)) then p0 else p3)) ∧ ((p1 = (if ¬ ((p4 &&& (2 : Int32)) = (0 : Int32)) then p1 else p3)) ∧ (p2 = (if ¬ ((p4 &&& (4 : Int32)) = (0 : Int32)) then p2 else p3)))))), .unset, .unset, .unset, .unset] [(.ref b21), (.ref b13)])) rfl (by rw [hml]; rfl) (Steps.refl _) (argsL := [(.ref b21)]) (rest := []) (lenOf pd__Ljava_lang_Object__Z rfl) rfl (by show 2 * 0 + _ ≤ _; exact Nat.le_of_eq rfl) (hb hby at_145) (fun _ _ => ⟨rfl, rfl, (by decide : 3 + 0 ≤ _), (by decide : 8 + 0 ≤ _)⟩)
  dsimp only [Pt.U, Pt.locs, Pt.cells, Pt.slots] at X62 l62 y62 z62 st62 hQ62
  subst l62 y62 z62
  obtain ⟨rfl, N62q, e62⟩ := hQ62
  have N62 := Fr.app N47 N62q
  refine OG.step (fun t k => st62.trans k) ?_
  show OG _ _ _ _ _ _ _ (T62.setTop (mkF m 148 #[.val (.int p0), .val (.int p1), .val (.int p2), .val (.int p3), .val (.int p4), .val (.int (bI (¬ ((p4 &&& (1 : Int32)) = (0 : Int32))))), .val (.int (bI (¬ ((p4 &&& (2 : Int32)) = (0 : Int32))))), .val (.int (bI (¬ ((p4 &&& (4 : Int32)) = (0 : Int32))))), .val (.int (if ¬ ((p4 &&& (1 : Int32)) = (0 : Int32)) then p0 else p3)), .val (.int (if ¬ ((p4 &&& (2 : Int32)) = (0 : Int32)) then p1 else p3)), .val (.int (if ¬ ((p4 &&& (4 : Int32)) = (0 : Int32)) then p2 else p3)), .val (.ref b13), .val (.ref b21), .val (.ref b37), .val (.int (bI ((p0 = (if ¬ ((p4 &&& (1 : Int32)) = (0 : Int32)) then p0 else p3)) ∧ ((p1 = (if ¬ ((p4 &&& (2 : Int32)) = (0 : Int32)) then p1 else p3)) ∧ (p2 = (if ¬ ((p4 &&& (4 : Int32)) = (0 : Int32)) then p2 else p3)))))), .unset, .unset, .unset, .unset] [(.int (bI (p0 = (if ¬ ((p4 &&& (1 : Int32)) = (0 : Int32)) then p0 else p3) ∧ p1 = (if ¬ ((p4 &&& (2 : Int32)) = (0 : Int32)) then p1 else p3) ∧ p2 = (if ¬ ((p4 &&& (4 : Int32)) = (0 : Int32)) then p2 else p3))))]))
  have s63 : ∀ t, Steps p.tables e below (T62.setTop (mkF m 154 #[.val (.int p0), .val (.int p1), .val (.int p2), .val (.int p3), .val (.int p4), .val (.int (bI (¬ ((p4 &&& (1 : Int32)) = (0 : Int32))))), .val (.int (bI (¬ ((p4 &&& (2 : Int32)) = (0 : Int32))))), .val (.int (bI (¬ ((p4 &&& (4 : Int32)) = (0 : Int32))))), .val (.int (if ¬ ((p4 &&& (1 : Int32)) = (0 : Int32)) then p0 else p3)), .val (.int (if ¬ ((p4 &&& (2 : Int32)) = (0 : Int32)) then p1 else p3)), .val (.int (if ¬ ((p4 &&& (4 : Int32)) = (0 : Int32)) then p2 else p3)), .val (.ref b13), .val (.ref b21), .val (.ref b37), .val (.int (bI ((p0 = (if ¬ ((p4 &&& (1 : Int32)) = (0 : Int32)) then p0 else p3)) ∧ ((p1 = (if ¬ ((p4 &&& (2 : Int32)) = (0 : Int32)) then p1 else p3)) ∧ (p2 = (if ¬ ((p4 &&& (4 : Int32)) = (0 : Int32)) then p2 else p3)))))), .val (.int (bI (p0 = (if ¬ ((p4 &&& (1 : Int32)) = (0 : Int32)) then p0 else p3) ∧ p1 = (if ¬ ((p4 &&& (2 : Int32)) = (0 : Int32)) then p1 else p3) ∧ p2 = (if ¬ ((p4 &&& (4 : Int32)) = (0 : Int32)) then p2 else p3)))), .unset, .unset, .unset] [(.ref b13), (.ref b21)])) t → Steps p.tables e below (T62.setTop (mkF m 148 #[.val (.int p0), .val (.int p1), .val (.int p2), .val (.int p3), .val (.int p4), .val (.int (bI (¬ ((p4 &&& (1 : Int32)) = (0 : Int32))))), .val (.int (bI (¬ ((p4 &&& (2 : Int32)) = (0 : Int32))))), .val (.int (bI (¬ ((p4 &&& (4 : Int32)) = (0 : Int32))))), .val (.int (if ¬ ((p4 &&& (1 : Int32)) = (0 : Int32)) then p0 else p3)), .val (.int (if ¬ ((p4 &&& (2 : Int32)) = (0 : Int32)) then p1 else p3)), .val (.int (if ¬ ((p4 &&& (4 : Int32)) = (0 : Int32)) then p2 else p3)), .val (.ref b13), .val (.ref b21), .val (.ref b37), .val (.int (bI ((p0 = (if ¬ ((p4 &&& (1 : Int32)) = (0 : Int32)) then p0 else p3)) ∧ ((p1 = (if ¬ ((p4 &&& (2 : Int32)) = (0 : Int32)) then p1 else p3)) ∧ (p2 = (if ¬ ((p4 &&& (4 : Int32)) = (0 : Int32)) then p2 else p3)))))), .unset, .unset, .unset, .unset] [(.int (bI (p0 = (if ¬ ((p4 &&& (1 : Int32)) = (0 : Int32)) then p0 else p3) ∧ p1 = (if ¬ ((p4 &&& (2 : Int32)) = (0 : Int32)) then p1 else p3) ∧ p2 = (if ¬ ((p4 &&& (4 : Int32)) = (0 : Int32)) then p2 else p3))))])) t := by
    intro t k
    refine XS.istore X62.here hx rfl (hb hby at_148) rfl (l' := #[.val (.int p0), .val (.int p1), .val (.int p2), .val (.int p3), .val (.int p4), .val (.int (bI (¬ ((p4 &&& (1 : Int32)) = (0 : Int32))))), .val (.int (bI (¬ ((p4 &&& (2 : Int32)) = (0 : Int32))))), .val (.int (bI (¬ ((p4 &&& (4 : Int32)) = (0 : Int32))))), .val (.int (if ¬ ((p4 &&& (1 : Int32)) = (0 : Int32)) then p0 else p3)), .val (.int (if ¬ ((p4 &&& (2 : Int32)) = (0 : Int32)) then p1 else p3)), .val (.int (if ¬ ((p4 &&& (4 : Int32)) = (0 : Int32)) then p2 else p3)), .val (.ref b13), .val (.ref b21), .val (.ref b37), .val (.int (bI ((p0 = (if ¬ ((p4 &&& (1 : Int32)) = (0 : Int32)) then p0 else p3)) ∧ ((p1 = (if ¬ ((p4 &&& (2 : Int32)) = (0 : Int32)) then p1 else p3)) ∧ (p2 = (if ¬ ((p4 &&& (4 : Int32)) = (0 : Int32)) then p2 else p3)))))), .val (.int (bI (p0 = (if ¬ ((p4 &&& (1 : Int32)) = (0 : Int32)) then p0 else p3) ∧ p1 = (if ¬ ((p4 &&& (2 : Int32)) = (0 : Int32)) then p1 else p3) ∧ p2 = (if ¬ ((p4 &&& (4 : Int32)) = (0 : Int32)) then p2 else p3)))), .unset, .unset, .unset]) rfl ?_
    show Steps p.tables e below (T62.setTop (mkF m 150 #[.val (.int p0), .val (.int p1), .val (.int p2), .val (.int p3), .val (.int p4), .val (.int (bI (¬ ((p4 &&& (1 : Int32)) = (0 : Int32))))), .val (.int (bI (¬ ((p4 &&& (2 : Int32)) = (0 : Int32))))), .val (.int (bI (¬ ((p4 &&& (4 : Int32)) = (0 : Int32))))), .val (.int (if ¬ ((p4 &&& (1 : Int32)) = (0 : Int32)) then p0 else p3)), .val (.int (if ¬ ((p4 &&& (2 : Int32)) = (0 : Int32)) then p1 else p3)), .val (.int (if ¬ ((p4 &&& (4 : Int32)) = (0 : Int32)) then p2 else p3)), .val (.ref b13), .val (.ref b21), .val (.ref b37), .val (.int (bI ((p0 = (if ¬ ((p4 &&& (1 : Int32)) = (0 : Int32)) then p0 else p3)) ∧ ((p1 = (if ¬ ((p4 &&& (2 : Int32)) = (0 : Int32)) then p1 else p3)) ∧ (p2 = (if ¬ ((p4 &&& (4 : Int32)) = (0 : Int32)) then p2 else p3)))))), .val (.int (bI (p0 = (if ¬ ((p4 &&& (1 : Int32)) = (0 : Int32)) then p0 else p3) ∧ p1 = (if ¬ ((p4 &&& (2 : Int32)) = (0 : Int32)) then p1 else p3) ∧ p2 = (if ¬ ((p4 &&& (4 : Int32)) = (0 : Int32)) then p2 else p3)))), .unset, .unset, .unset] [])) _
    refine XS.aload X62.here hx rfl (hb hby at_150) rfl rfl ?_
    show Steps p.tables e below (T62.setTop (mkF m 152 #[.val (.int p0), .val (.int p1), .val (.int p2), .val (.int p3), .val (.int p4), .val (.int (bI (¬ ((p4 &&& (1 : Int32)) = (0 : Int32))))), .val (.int (bI (¬ ((p4 &&& (2 : Int32)) = (0 : Int32))))), .val (.int (bI (¬ ((p4 &&& (4 : Int32)) = (0 : Int32))))), .val (.int (if ¬ ((p4 &&& (1 : Int32)) = (0 : Int32)) then p0 else p3)), .val (.int (if ¬ ((p4 &&& (2 : Int32)) = (0 : Int32)) then p1 else p3)), .val (.int (if ¬ ((p4 &&& (4 : Int32)) = (0 : Int32)) then p2 else p3)), .val (.ref b13), .val (.ref b21), .val (.ref b37), .val (.int (bI ((p0 = (if ¬ ((p4 &&& (1 : Int32)) = (0 : Int32)) then p0 else p3)) ∧ ((p1 = (if ¬ ((p4 &&& (2 : Int32)) = (0 : Int32)) then p1 else p3)) ∧ (p2 = (if ¬ ((p4 &&& (4 : Int32)) = (0 : Int32)) then p2 else p3)))))), .val (.int (bI (p0 = (if ¬ ((p4 &&& (1 : Int32)) = (0 : Int32)) then p0 else p3) ∧ p1 = (if ¬ ((p4 &&& (2 : Int32)) = (0 : Int32)) then p1 else p3) ∧ p2 = (if ¬ ((p4 &&& (4 : Int32)) = (0 : Int32)) then p2 else p3)))), .unset, .unset, .unset] [(.ref b21)])) _
    refine XS.aload X62.here hx rfl (hb hby at_152) rfl rfl ?_
    exact k
  refine OG.step s63 ?_
  obtain ⟨cq64, kq64, q64a, q64b, q64c⟩ := isOf hZ e62 f52
  obtain ⟨_, _, ⟨T64, L64, k64, n64⟩, -, X64, ⟨Lc64, hQ64, l64, y64, z64⟩, st64⟩ := X62.virtualBack hx (y := (⟨"com/example/ludus/ludus/PackingTask$Good", "equals", "(Ljava/lang/Object;)Z"⟩ : MethodName)) (z := (⟨"com/example/ludus/ludus/PackingTask$Good", "equals", "(Ljava/lang/Object;)Z"⟩ : MethodName)) hown (mvT hZ (hw _ (List.mem_of_getElem? (i := 26) rfl))) (mvT hZ (hw _ (List.mem_of_getElem? (i := 27) rfl))) (notFace_of_selects (args := #[]) (mvT hZ (hw _ (List.mem_of_getElem? (i := 29) rfl)))) (mvT hZ (hw _ (List.mem_of_getElem? (i := 29) rfl))) (mvT hZ (hw _ (List.mem_of_getElem? (i := 28) rfl))) (by decide) (backOf (W := 0) (rm4s l Z a0 hw [] b21 b13 (if ¬ ((p4 &&& (1 : Int32)) = (0 : Int32)) then p0 else p3) (if ¬ ((p4 &&& (2 : Int32)) = (0 : Int32)) then p1 else p3) (if ¬ ((p4 &&& (4 : Int32)) = (0 : Int32)) then p2 else p3) p0 p1 p2 T47.heap n0 (Nat.le_trans Z0 K47.1) f48 f53 f54 f55 f49 f50 f51) hZ (hw _ (List.mem_of_getElem? (i := 30) rfl)) (hw _ (List.mem_of_getElem? (i := 2) rfl)) (by decide) (by decide)) q64a q64c (g := (mkF m 154 #[.val (.int p0), .val (.int p1), .val (.int p2), .val (.int p3), .val (.int p4), .val (.int (bI (¬ ((p4 &&& (1 : Int32)) = (0 : Int32))))), .val (.int (bI (¬ ((p4 &&& (2 : Int32)) = (0 : Int32))))), .val (.int (bI (¬ ((p4 &&& (4 : Int32)) = (0 : Int32))))), .val (.int (if ¬ ((p4 &&& (1 : Int32)) = (0 : Int32)) then p0 else p3)), .val (.int (if ¬ ((p4 &&& (2 : Int32)) = (0 : Int32)) then p1 else p3)), .val (.int (if ¬ ((p4 &&& (4 : Int32)) = (0 : Int32)) then p2 else p3)), .val (.ref b13), .val (.ref b21), .val (.ref b37), .val (.int (bI ((p0 = (if ¬ ((p4 &&& (1 : Int32)) = (0 : Int32)) then p0 else p3)) ∧ ((p1 = (if ¬ ((p4 &&& (2 : Int32)) = (0 : Int32)) then p1 else p3)) ∧ (p2 = (if ¬ ((p4 &&& (4 : Int32)) = (0 : Int32)) then p2 else p3)))))), .val (.int (bI (p0 = (if ¬ ((p4 &&& (1 : Int32)) = (0 : Int32)) then p0 else p3) ∧ p1 = (if ¬ ((p4 &&& (2 : Int32)) = (0 : Int32)) then p1 else p3) ∧ p2 = (if ¬ ((p4 &&& (4 : Int32)) = (0 : Int32)) then p2 else p3)))), .unset, .unset, .unset] [(.ref b13), (.ref b21)])) rfl (by rw [hml]; rfl) (Steps.refl _) (argsL := [(.ref b13)]) (rest := []) (lenOf pd__Ljava_lang_Object__Z rfl) rfl (by show 2 * 0 + _ ≤ _; exact Nat.le_of_eq rfl) (hb hby at_154) (fun _ _ => ⟨rfl, e62, (by decide : 3 + 0 ≤ _), (by decide : 8 + 0 ≤ _)⟩)
  dsimp only [Pt.U, Pt.locs, Pt.cells, Pt.slots] at X64 l64 y64 z64 st64 hQ64
  subst l64 y64 z64
  obtain ⟨rfl, N64q, e64⟩ := hQ64
  have N64 := Fr.app N62 N64q
  refine OG.step (fun t k => st64.trans k) ?_
  show OG _ _ _ _ _ _ _ (T64.setTop (mkF m 157 #[.val (.int p0), .val (.int p1), .val (.int p2), .val (.int p3), .val (.int p4), .val (.int (bI (¬ ((p4 &&& (1 : Int32)) = (0 : Int32))))), .val (.int (bI (¬ ((p4 &&& (2 : Int32)) = (0 : Int32))))), .val (.int (bI (¬ ((p4 &&& (4 : Int32)) = (0 : Int32))))), .val (.int (if ¬ ((p4 &&& (1 : Int32)) = (0 : Int32)) then p0 else p3)), .val (.int (if ¬ ((p4 &&& (2 : Int32)) = (0 : Int32)) then p1 else p3)), .val (.int (if ¬ ((p4 &&& (4 : Int32)) = (0 : Int32)) then p2 else p3)), .val (.ref b13), .val (.ref b21), .val (.ref b37), .val (.int (bI ((p0 = (if ¬ ((p4 &&& (1 : Int32)) = (0 : Int32)) then p0 else p3)) ∧ ((p1 = (if ¬ ((p4 &&& (2 : Int32)) = (0 : Int32)) then p1 else p3)) ∧ (p2 = (if ¬ ((p4 &&& (4 : Int32)) = (0 : Int32)) then p2 else p3)))))), .val (.int (bI (p0 = (if ¬ ((p4 &&& (1 : Int32)) = (0 : Int32)) then p0 else p3) ∧ p1 = (if ¬ ((p4 &&& (2 : Int32)) = (0 : Int32)) then p1 else p3) ∧ p2 = (if ¬ ((p4 &&& (4 : Int32)) = (0 : Int32)) then p2 else p3)))), .unset, .unset, .unset] [(.int (bI ((if ¬ ((p4 &&& (1 : Int32)) = (0 : Int32)) then p0 else p3) = p0 ∧ (if ¬ ((p4 &&& (2 : Int32)) = (0 : Int32)) then p1 else p3) = p1 ∧ (if ¬ ((p4 &&& (4 : Int32)) = (0 : Int32)) then p2 else p3) = p2)))]))
  have s65 : ∀ t, Steps p.tables e below (T64.setTop (mkF m 162 #[.val (.int p0), .val (.int p1), .val (.int p2), .val (.int p3), .val (.int p4), .val (.int (bI (¬ ((p4 &&& (1 : Int32)) = (0 : Int32))))), .val (.int (bI (¬ ((p4 &&& (2 : Int32)) = (0 : Int32))))), .val (.int (bI (¬ ((p4 &&& (4 : Int32)) = (0 : Int32))))), .val (.int (if ¬ ((p4 &&& (1 : Int32)) = (0 : Int32)) then p0 else p3)), .val (.int (if ¬ ((p4 &&& (2 : Int32)) = (0 : Int32)) then p1 else p3)), .val (.int (if ¬ ((p4 &&& (4 : Int32)) = (0 : Int32)) then p2 else p3)), .val (.ref b13), .val (.ref b21), .val (.ref b37), .val (.int (bI ((p0 = (if ¬ ((p4 &&& (1 : Int32)) = (0 : Int32)) then p0 else p3)) ∧ ((p1 = (if ¬ ((p4 &&& (2 : Int32)) = (0 : Int32)) then p1 else p3)) ∧ (p2 = (if ¬ ((p4 &&& (4 : Int32)) = (0 : Int32)) then p2 else p3)))))), .val (.int (bI (p0 = (if ¬ ((p4 &&& (1 : Int32)) = (0 : Int32)) then p0 else p3) ∧ p1 = (if ¬ ((p4 &&& (2 : Int32)) = (0 : Int32)) then p1 else p3) ∧ p2 = (if ¬ ((p4 &&& (4 : Int32)) = (0 : Int32)) then p2 else p3)))), .val (.int (bI ((if ¬ ((p4 &&& (1 : Int32)) = (0 : Int32)) then p0 else p3) = p0 ∧ (if ¬ ((p4 &&& (2 : Int32)) = (0 : Int32)) then p1 else p3) = p1 ∧ (if ¬ ((p4 &&& (4 : Int32)) = (0 : Int32)) then p2 else p3) = p2))), .unset, .unset] [.null, (.ref b13)])) t → Steps p.tables e below (T64.setTop (mkF m 157 #[.val (.int p0), .val (.int p1), .val (.int p2), .val (.int p3), .val (.int p4), .val (.int (bI (¬ ((p4 &&& (1 : Int32)) = (0 : Int32))))), .val (.int (bI (¬ ((p4 &&& (2 : Int32)) = (0 : Int32))))), .val (.int (bI (¬ ((p4 &&& (4 : Int32)) = (0 : Int32))))), .val (.int (if ¬ ((p4 &&& (1 : Int32)) = (0 : Int32)) then p0 else p3)), .val (.int (if ¬ ((p4 &&& (2 : Int32)) = (0 : Int32)) then p1 else p3)), .val (.int (if ¬ ((p4 &&& (4 : Int32)) = (0 : Int32)) then p2 else p3)), .val (.ref b13), .val (.ref b21), .val (.ref b37), .val (.int (bI ((p0 = (if ¬ ((p4 &&& (1 : Int32)) = (0 : Int32)) then p0 else p3)) ∧ ((p1 = (if ¬ ((p4 &&& (2 : Int32)) = (0 : Int32)) then p1 else p3)) ∧ (p2 = (if ¬ ((p4 &&& (4 : Int32)) = (0 : Int32)) then p2 else p3)))))), .val (.int (bI (p0 = (if ¬ ((p4 &&& (1 : Int32)) = (0 : Int32)) then p0 else p3) ∧ p1 = (if ¬ ((p4 &&& (2 : Int32)) = (0 : Int32)) then p1 else p3) ∧ p2 = (if ¬ ((p4 &&& (4 : Int32)) = (0 : Int32)) then p2 else p3)))), .unset, .unset, .unset] [(.int (bI ((if ¬ ((p4 &&& (1 : Int32)) = (0 : Int32)) then p0 else p3) = p0 ∧ (if ¬ ((p4 &&& (2 : Int32)) = (0 : Int32)) then p1 else p3) = p1 ∧ (if ¬ ((p4 &&& (4 : Int32)) = (0 : Int32)) then p2 else p3) = p2)))])) t := by
    intro t k
    refine XS.istore X64.here hx rfl (hb hby at_157) rfl (l' := #[.val (.int p0), .val (.int p1), .val (.int p2), .val (.int p3), .val (.int p4), .val (.int (bI (¬ ((p4 &&& (1 : Int32)) = (0 : Int32))))), .val (.int (bI (¬ ((p4 &&& (2 : Int32)) = (0 : Int32))))), .val (.int (bI (¬ ((p4 &&& (4 : Int32)) = (0 : Int32))))), .val (.int (if ¬ ((p4 &&& (1 : Int32)) = (0 : Int32)) then p0 else p3)), .val (.int (if ¬ ((p4 &&& (2 : Int32)) = (0 : Int32)) then p1 else p3)), .val (.int (if ¬ ((p4 &&& (4 : Int32)) = (0 : Int32)) then p2 else p3)), .val (.ref b13), .val (.ref b21), .val (.ref b37), .val (.int (bI ((p0 = (if ¬ ((p4 &&& (1 : Int32)) = (0 : Int32)) then p0 else p3)) ∧ ((p1 = (if ¬ ((p4 &&& (2 : Int32)) = (0 : Int32)) then p1 else p3)) ∧ (p2 = (if ¬ ((p4 &&& (4 : Int32)) = (0 : Int32)) then p2 else p3)))))), .val (.int (bI (p0 = (if ¬ ((p4 &&& (1 : Int32)) = (0 : Int32)) then p0 else p3) ∧ p1 = (if ¬ ((p4 &&& (2 : Int32)) = (0 : Int32)) then p1 else p3) ∧ p2 = (if ¬ ((p4 &&& (4 : Int32)) = (0 : Int32)) then p2 else p3)))), .val (.int (bI ((if ¬ ((p4 &&& (1 : Int32)) = (0 : Int32)) then p0 else p3) = p0 ∧ (if ¬ ((p4 &&& (2 : Int32)) = (0 : Int32)) then p1 else p3) = p1 ∧ (if ¬ ((p4 &&& (4 : Int32)) = (0 : Int32)) then p2 else p3) = p2))), .unset, .unset]) rfl ?_
    show Steps p.tables e below (T64.setTop (mkF m 159 #[.val (.int p0), .val (.int p1), .val (.int p2), .val (.int p3), .val (.int p4), .val (.int (bI (¬ ((p4 &&& (1 : Int32)) = (0 : Int32))))), .val (.int (bI (¬ ((p4 &&& (2 : Int32)) = (0 : Int32))))), .val (.int (bI (¬ ((p4 &&& (4 : Int32)) = (0 : Int32))))), .val (.int (if ¬ ((p4 &&& (1 : Int32)) = (0 : Int32)) then p0 else p3)), .val (.int (if ¬ ((p4 &&& (2 : Int32)) = (0 : Int32)) then p1 else p3)), .val (.int (if ¬ ((p4 &&& (4 : Int32)) = (0 : Int32)) then p2 else p3)), .val (.ref b13), .val (.ref b21), .val (.ref b37), .val (.int (bI ((p0 = (if ¬ ((p4 &&& (1 : Int32)) = (0 : Int32)) then p0 else p3)) ∧ ((p1 = (if ¬ ((p4 &&& (2 : Int32)) = (0 : Int32)) then p1 else p3)) ∧ (p2 = (if ¬ ((p4 &&& (4 : Int32)) = (0 : Int32)) then p2 else p3)))))), .val (.int (bI (p0 = (if ¬ ((p4 &&& (1 : Int32)) = (0 : Int32)) then p0 else p3) ∧ p1 = (if ¬ ((p4 &&& (2 : Int32)) = (0 : Int32)) then p1 else p3) ∧ p2 = (if ¬ ((p4 &&& (4 : Int32)) = (0 : Int32)) then p2 else p3)))), .val (.int (bI ((if ¬ ((p4 &&& (1 : Int32)) = (0 : Int32)) then p0 else p3) = p0 ∧ (if ¬ ((p4 &&& (2 : Int32)) = (0 : Int32)) then p1 else p3) = p1 ∧ (if ¬ ((p4 &&& (4 : Int32)) = (0 : Int32)) then p2 else p3) = p2))), .unset, .unset] [])) _
    refine XS.aload X64.here hx rfl (hb hby at_159) rfl rfl ?_
    show Steps p.tables e below (T64.setTop (mkF m 161 #[.val (.int p0), .val (.int p1), .val (.int p2), .val (.int p3), .val (.int p4), .val (.int (bI (¬ ((p4 &&& (1 : Int32)) = (0 : Int32))))), .val (.int (bI (¬ ((p4 &&& (2 : Int32)) = (0 : Int32))))), .val (.int (bI (¬ ((p4 &&& (4 : Int32)) = (0 : Int32))))), .val (.int (if ¬ ((p4 &&& (1 : Int32)) = (0 : Int32)) then p0 else p3)), .val (.int (if ¬ ((p4 &&& (2 : Int32)) = (0 : Int32)) then p1 else p3)), .val (.int (if ¬ ((p4 &&& (4 : Int32)) = (0 : Int32)) then p2 else p3)), .val (.ref b13), .val (.ref b21), .val (.ref b37), .val (.int (bI ((p0 = (if ¬ ((p4 &&& (1 : Int32)) = (0 : Int32)) then p0 else p3)) ∧ ((p1 = (if ¬ ((p4 &&& (2 : Int32)) = (0 : Int32)) then p1 else p3)) ∧ (p2 = (if ¬ ((p4 &&& (4 : Int32)) = (0 : Int32)) then p2 else p3)))))), .val (.int (bI (p0 = (if ¬ ((p4 &&& (1 : Int32)) = (0 : Int32)) then p0 else p3) ∧ p1 = (if ¬ ((p4 &&& (2 : Int32)) = (0 : Int32)) then p1 else p3) ∧ p2 = (if ¬ ((p4 &&& (4 : Int32)) = (0 : Int32)) then p2 else p3)))), .val (.int (bI ((if ¬ ((p4 &&& (1 : Int32)) = (0 : Int32)) then p0 else p3) = p0 ∧ (if ¬ ((p4 &&& (2 : Int32)) = (0 : Int32)) then p1 else p3) = p1 ∧ (if ¬ ((p4 &&& (4 : Int32)) = (0 : Int32)) then p2 else p3) = p2))), .unset, .unset] [(.ref b13)])) _
    refine XS.aconstNull X64.here hx rfl (hb hby at_161) ?_
    exact k
  refine OG.step s65 ?_
  obtain ⟨cq66, kq66, q66a, q66b, q66c⟩ := isOf hZ e64 f48
  obtain ⟨_, _, ⟨T66, L66, k66, n66⟩, -, X66, ⟨Lc66, hQ66, l66, y66, z66⟩, st66⟩ := X64.virtualBack hx (y := (⟨"com/example/ludus/ludus/PackingTask$Good", "equals", "(Ljava/lang/Object;)Z"⟩ : MethodName)) (z := (⟨"com/example/ludus/ludus/PackingTask$Good", "equals", "(Ljava/lang/Object;)Z"⟩ : MethodName)) hown (mvT hZ (hw _ (List.mem_of_getElem? (i := 26) rfl))) (mvT hZ (hw _ (List.mem_of_getElem? (i := 27) rfl))) (notFace_of_selects (args := #[]) (mvT hZ (hw _ (List.mem_of_getElem? (i := 29) rfl)))) (mvT hZ (hw _ (List.mem_of_getElem? (i := 29) rfl))) (mvT hZ (hw _ (List.mem_of_getElem? (i := 28) rfl))) (by decide) (backOf (W := 0) (rm4n l Z a0 hw [] b13 T47.heap n0 (Nat.le_trans Z0 K47.1)) hZ (hw _ (List.mem_of_getElem? (i := 30) rfl)) (hw _ (List.mem_of_getElem? (i := 2) rfl)) (by decide) (by decide)) q66a q66c (g := (mkF m 162 #[.val (.int p0), .val (.int p1), .val (.int p2), .val (.int p3), .val (.int p4), .val (.int (bI (¬ ((p4 &&& (1 : Int32)) = (0 : Int32))))), .val (.int (bI (¬ ((p4 &&& (2 : Int32)) = (0 : Int32))))), .val (.int (bI (¬ ((p4 &&& (4 : Int32)) = (0 : Int32))))), .val (.int (if ¬ ((p4 &&& (1 : Int32)) = (0 : Int32)) then p0 else p3)), .val (.int (if ¬ ((p4 &&& (2 : Int32)) = (0 : Int32)) then p1 else p3)), .val (.int (if ¬ ((p4 &&& (4 : Int32)) = (0 : Int32)) then p2 else p3)), .val (.ref b13), .val (.ref b21), .val (.ref b37), .val (.int (bI ((p0 = (if ¬ ((p4 &&& (1 : Int32)) = (0 : Int32)) then p0 else p3)) ∧ ((p1 = (if ¬ ((p4 &&& (2 : Int32)) = (0 : Int32)) then p1 else p3)) ∧ (p2 = (if ¬ ((p4 &&& (4 : Int32)) = (0 : Int32)) then p2 else p3)))))), .val (.int (bI (p0 = (if ¬ ((p4 &&& (1 : Int32)) = (0 : Int32)) then p0 else p3) ∧ p1 = (if ¬ ((p4 &&& (2 : Int32)) = (0 : Int32)) then p1 else p3) ∧ p2 = (if ¬ ((p4 &&& (4 : Int32)) = (0 : Int32)) then p2 else p3)))), .val (.int (bI ((if ¬ ((p4 &&& (1 : Int32)) = (0 : Int32)) then p0 else p3) = p0 ∧ (if ¬ ((p4 &&& (2 : Int32)) = (0 : Int32)) then p1 else p3) = p1 ∧ (if ¬ ((p4 &&& (4 : Int32)) = (0 : Int32)) then p2 else p3) = p2))), .unset, .unset] [.null, (.ref b13)])) rfl (by rw [hml]; rfl) (Steps.refl _) (argsL := [.null]) (rest := []) (lenOf pd__Ljava_lang_Object__Z rfl) rfl (by show 2 * 0 + _ ≤ _; exact Nat.le_of_eq rfl) (hb hby at_162) (fun _ _ => ⟨rfl, e64, (by decide : 3 + 0 ≤ _), (by decide : 8 + 0 ≤ _)⟩)
  dsimp only [Pt.U, Pt.locs, Pt.cells, Pt.slots] at X66 l66 y66 z66 st66 hQ66
  subst l66 y66 z66
  obtain ⟨rfl, N66q, e66⟩ := hQ66
  have N66 := Fr.app N64 N66q
  refine OG.step (fun t k => st66.trans k) ?_
  show OG _ _ _ _ _ _ _ (T66.setTop (mkF m 165 #[.val (.int p0), .val (.int p1), .val (.int p2), .val (.int p3), .val (.int p4), .val (.int (bI (¬ ((p4 &&& (1 : Int32)) = (0 : Int32))))), .val (.int (bI (¬ ((p4 &&& (2 : Int32)) = (0 : Int32))))), .val (.int (bI (¬ ((p4 &&& (4 : Int32)) = (0 : Int32))))), .val (.int (if ¬ ((p4 &&& (1 : Int32)) = (0 : Int32)) then p0 else p3)), .val (.int (if ¬ ((p4 &&& (2 : Int32)) = (0 : Int32)) then p1 else p3)), .val (.int (if ¬ ((p4 &&& (4 : Int32)) = (0 : Int32)) then p2 else p3)), .val (.ref b13), .val (.ref b21), .val (.ref b37), .val (.int (bI ((p0 = (if ¬ ((p4 &&& (1 : Int32)) = (0 : Int32)) then p0 else p3)) ∧ ((p1 = (if ¬ ((p4 &&& (2 : Int32)) = (0 : Int32)) then p1 else p3)) ∧ (p2 = (if ¬ ((p4 &&& (4 : Int32)) = (0 : Int32)) then p2 else p3)))))), .val (.int (bI (p0 = (if ¬ ((p4 &&& (1 : Int32)) = (0 : Int32)) then p0 else p3) ∧ p1 = (if ¬ ((p4 &&& (2 : Int32)) = (0 : Int32)) then p1 else p3) ∧ p2 = (if ¬ ((p4 &&& (4 : Int32)) = (0 : Int32)) then p2 else p3)))), .val (.int (bI ((if ¬ ((p4 &&& (1 : Int32)) = (0 : Int32)) then p0 else p3) = p0 ∧ (if ¬ ((p4 &&& (2 : Int32)) = (0 : Int32)) then p1 else p3) = p1 ∧ (if ¬ ((p4 &&& (4 : Int32)) = (0 : Int32)) then p2 else p3) = p2))), .unset, .unset] [(.int (0 : Int32))]))
  have s67 : ∀ t, Steps p.tables e below (T66.setTop (mkF m 171 #[.val (.int p0), .val (.int p1), .val (.int p2), .val (.int p3), .val (.int p4), .val (.int (bI (¬ ((p4 &&& (1 : Int32)) = (0 : Int32))))), .val (.int (bI (¬ ((p4 &&& (2 : Int32)) = (0 : Int32))))), .val (.int (bI (¬ ((p4 &&& (4 : Int32)) = (0 : Int32))))), .val (.int (if ¬ ((p4 &&& (1 : Int32)) = (0 : Int32)) then p0 else p3)), .val (.int (if ¬ ((p4 &&& (2 : Int32)) = (0 : Int32)) then p1 else p3)), .val (.int (if ¬ ((p4 &&& (4 : Int32)) = (0 : Int32)) then p2 else p3)), .val (.ref b13), .val (.ref b21), .val (.ref b37), .val (.int (bI ((p0 = (if ¬ ((p4 &&& (1 : Int32)) = (0 : Int32)) then p0 else p3)) ∧ ((p1 = (if ¬ ((p4 &&& (2 : Int32)) = (0 : Int32)) then p1 else p3)) ∧ (p2 = (if ¬ ((p4 &&& (4 : Int32)) = (0 : Int32)) then p2 else p3)))))), .val (.int (bI (p0 = (if ¬ ((p4 &&& (1 : Int32)) = (0 : Int32)) then p0 else p3) ∧ p1 = (if ¬ ((p4 &&& (2 : Int32)) = (0 : Int32)) then p1 else p3) ∧ p2 = (if ¬ ((p4 &&& (4 : Int32)) = (0 : Int32)) then p2 else p3)))), .val (.int (bI ((if ¬ ((p4 &&& (1 : Int32)) = (0 : Int32)) then p0 else p3) = p0 ∧ (if ¬ ((p4 &&& (2 : Int32)) = (0 : Int32)) then p1 else p3) = p1 ∧ (if ¬ ((p4 &&& (4 : Int32)) = (0 : Int32)) then p2 else p3) = p2))), .val (.int (0 : Int32)), .unset] [(.ref b37), (.ref b13)])) t → Steps p.tables e below (T66.setTop (mkF m 165 #[.val (.int p0), .val (.int p1), .val (.int p2), .val (.int p3), .val (.int p4), .val (.int (bI (¬ ((p4 &&& (1 : Int32)) = (0 : Int32))))), .val (.int (bI (¬ ((p4 &&& (2 : Int32)) = (0 : Int32))))), .val (.int (bI (¬ ((p4 &&& (4 : Int32)) = (0 : Int32))))), .val (.int (if ¬ ((p4 &&& (1 : Int32)) = (0 : Int32)) then p0 else p3)), .val (.int (if ¬ ((p4 &&& (2 : Int32)) = (0 : Int32)) then p1 else p3)), .val (.int (if ¬ ((p4 &&& (4 : Int32)) = (0 : Int32)) then p2 else p3)), .val (.ref b13), .val (.ref b21), .val (.ref b37), .val (.int (bI ((p0 = (if ¬ ((p4 &&& (1 : Int32)) = (0 : Int32)) then p0 else p3)) ∧ ((p1 = (if ¬ ((p4 &&& (2 : Int32)) = (0 : Int32)) then p1 else p3)) ∧ (p2 = (if ¬ ((p4 &&& (4 : Int32)) = (0 : Int32)) then p2 else p3)))))), .val (.int (bI (p0 = (if ¬ ((p4 &&& (1 : Int32)) = (0 : Int32)) then p0 else p3) ∧ p1 = (if ¬ ((p4 &&& (2 : Int32)) = (0 : Int32)) then p1 else p3) ∧ p2 = (if ¬ ((p4 &&& (4 : Int32)) = (0 : Int32)) then p2 else p3)))), .val (.int (bI ((if ¬ ((p4 &&& (1 : Int32)) = (0 : Int32)) then p0 else p3) = p0 ∧ (if ¬ ((p4 &&& (2 : Int32)) = (0 : Int32)) then p1 else p3) = p1 ∧ (if ¬ ((p4 &&& (4 : Int32)) = (0 : Int32)) then p2 else p3) = p2))), .unset, .unset] [(.int (0 : Int32))])) t := by
    intro t k
    refine XS.istore X66.here hx rfl (hb hby at_165) rfl (l' := #[.val (.int p0), .val (.int p1), .val (.int p2), .val (.int p3), .val (.int p4), .val (.int (bI (¬ ((p4 &&& (1 : Int32)) = (0 : Int32))))), .val (.int (bI (¬ ((p4 &&& (2 : Int32)) = (0 : Int32))))), .val (.int (bI (¬ ((p4 &&& (4 : Int32)) = (0 : Int32))))), .val (.int (if ¬ ((p4 &&& (1 : Int32)) = (0 : Int32)) then p0 else p3)), .val (.int (if ¬ ((p4 &&& (2 : Int32)) = (0 : Int32)) then p1 else p3)), .val (.int (if ¬ ((p4 &&& (4 : Int32)) = (0 : Int32)) then p2 else p3)), .val (.ref b13), .val (.ref b21), .val (.ref b37), .val (.int (bI ((p0 = (if ¬ ((p4 &&& (1 : Int32)) = (0 : Int32)) then p0 else p3)) ∧ ((p1 = (if ¬ ((p4 &&& (2 : Int32)) = (0 : Int32)) then p1 else p3)) ∧ (p2 = (if ¬ ((p4 &&& (4 : Int32)) = (0 : Int32)) then p2 else p3)))))), .val (.int (bI (p0 = (if ¬ ((p4 &&& (1 : Int32)) = (0 : Int32)) then p0 else p3) ∧ p1 = (if ¬ ((p4 &&& (2 : Int32)) = (0 : Int32)) then p1 else p3) ∧ p2 = (if ¬ ((p4 &&& (4 : Int32)) = (0 : Int32)) then p2 else p3)))), .val (.int (bI ((if ¬ ((p4 &&& (1 : Int32)) = (0 : Int32)) then p0 else p3) = p0 ∧ (if ¬ ((p4 &&& (2 : Int32)) = (0 : Int32)) then p1 else p3) = p1 ∧ (if ¬ ((p4 &&& (4 : Int32)) = (0 : Int32)) then p2 else p3) = p2))), .val (.int (0 : Int32)), .unset]) rfl ?_
    show Steps p.tables e below (T66.setTop (mkF m 167 #[.val (.int p0), .val (.int p1), .val (.int p2), .val (.int p3), .val (.int p4), .val (.int (bI (¬ ((p4 &&& (1 : Int32)) = (0 : Int32))))), .val (.int (bI (¬ ((p4 &&& (2 : Int32)) = (0 : Int32))))), .val (.int (bI (¬ ((p4 &&& (4 : Int32)) = (0 : Int32))))), .val (.int (if ¬ ((p4 &&& (1 : Int32)) = (0 : Int32)) then p0 else p3)), .val (.int (if ¬ ((p4 &&& (2 : Int32)) = (0 : Int32)) then p1 else p3)), .val (.int (if ¬ ((p4 &&& (4 : Int32)) = (0 : Int32)) then p2 else p3)), .val (.ref b13), .val (.ref b21), .val (.ref b37), .val (.int (bI ((p0 = (if ¬ ((p4 &&& (1 : Int32)) = (0 : Int32)) then p0 else p3)) ∧ ((p1 = (if ¬ ((p4 &&& (2 : Int32)) = (0 : Int32)) then p1 else p3)) ∧ (p2 = (if ¬ ((p4 &&& (4 : Int32)) = (0 : Int32)) then p2 else p3)))))), .val (.int (bI (p0 = (if ¬ ((p4 &&& (1 : Int32)) = (0 : Int32)) then p0 else p3) ∧ p1 = (if ¬ ((p4 &&& (2 : Int32)) = (0 : Int32)) then p1 else p3) ∧ p2 = (if ¬ ((p4 &&& (4 : Int32)) = (0 : Int32)) then p2 else p3)))), .val (.int (bI ((if ¬ ((p4 &&& (1 : Int32)) = (0 : Int32)) then p0 else p3) = p0 ∧ (if ¬ ((p4 &&& (2 : Int32)) = (0 : Int32)) then p1 else p3) = p1 ∧ (if ¬ ((p4 &&& (4 : Int32)) = (0 : Int32)) then p2 else p3) = p2))), .val (.int (0 : Int32)), .unset] [])) _
    refine XS.aload X66.here hx rfl (hb hby at_167) rfl rfl ?_
    show Steps p.tables e below (T66.setTop (mkF m 169 #[.val (.int p0), .val (.int p1), .val (.int p2), .val (.int p3), .val (.int p4), .val (.int (bI (¬ ((p4 &&& (1 : Int32)) = (0 : Int32))))), .val (.int (bI (¬ ((p4 &&& (2 : Int32)) = (0 : Int32))))), .val (.int (bI (¬ ((p4 &&& (4 : Int32)) = (0 : Int32))))), .val (.int (if ¬ ((p4 &&& (1 : Int32)) = (0 : Int32)) then p0 else p3)), .val (.int (if ¬ ((p4 &&& (2 : Int32)) = (0 : Int32)) then p1 else p3)), .val (.int (if ¬ ((p4 &&& (4 : Int32)) = (0 : Int32)) then p2 else p3)), .val (.ref b13), .val (.ref b21), .val (.ref b37), .val (.int (bI ((p0 = (if ¬ ((p4 &&& (1 : Int32)) = (0 : Int32)) then p0 else p3)) ∧ ((p1 = (if ¬ ((p4 &&& (2 : Int32)) = (0 : Int32)) then p1 else p3)) ∧ (p2 = (if ¬ ((p4 &&& (4 : Int32)) = (0 : Int32)) then p2 else p3)))))), .val (.int (bI (p0 = (if ¬ ((p4 &&& (1 : Int32)) = (0 : Int32)) then p0 else p3) ∧ p1 = (if ¬ ((p4 &&& (2 : Int32)) = (0 : Int32)) then p1 else p3) ∧ p2 = (if ¬ ((p4 &&& (4 : Int32)) = (0 : Int32)) then p2 else p3)))), .val (.int (bI ((if ¬ ((p4 &&& (1 : Int32)) = (0 : Int32)) then p0 else p3) = p0 ∧ (if ¬ ((p4 &&& (2 : Int32)) = (0 : Int32)) then p1 else p3) = p1 ∧ (if ¬ ((p4 &&& (4 : Int32)) = (0 : Int32)) then p2 else p3) = p2))), .val (.int (0 : Int32)), .unset] [(.ref b13)])) _
    refine XS.aload X66.here hx rfl (hb hby at_169) rfl rfl ?_
    exact k
  refine OG.step s67 ?_
  obtain ⟨cq68, kq68, q68a, q68b, q68c⟩ := isOf hZ e66 f48
  obtain ⟨_, _, ⟨T68, L68, k68, n68⟩, -, X68, ⟨Lc68, hQ68, l68, y68, z68⟩, st68⟩ := X66.virtualBack hx (y := (⟨"com/example/ludus/ludus/PackingTask$Good", "equals", "(Ljava/lang/Object;)Z"⟩ : MethodName)) (z := (⟨"com/example/ludus/ludus/PackingTask$Good", "equals", "(Ljava/lang/Object;)Z"⟩ : MethodName)) hown (mvT hZ (hw _ (List.mem_of_getElem? (i := 26) rfl))) (mvT hZ (hw _ (List.mem_of_getElem? (i := 27) rfl))) (notFace_of_selects (args := #[]) (mvT hZ (hw _ (List.mem_of_getElem? (i := 29) rfl)))) (mvT hZ (hw _ (List.mem_of_getElem? (i := 29) rfl))) (mvT hZ (hw _ (List.mem_of_getElem? (i := 28) rfl))) (by decide) (backOf (W := 0) (rm4o l Z a0 hw [] b13 b37 T47.heap n0 (Nat.le_trans Z0 K47.1) f56) hZ (hw _ (List.mem_of_getElem? (i := 30) rfl)) (hw _ (List.mem_of_getElem? (i := 2) rfl)) (by decide) (by decide)) q68a q68c (g := (mkF m 171 #[.val (.int p0), .val (.int p1), .val (.int p2), .val (.int p3), .val (.int p4), .val (.int (bI (¬ ((p4 &&& (1 : Int32)) = (0 : Int32))))), .val (.int (bI (¬ ((p4 &&& (2 : Int32)) = (0 : Int32))))), .val (.int (bI (¬ ((p4 &&& (4 : Int32)) = (0 : Int32))))), .val (.int (if ¬ ((p4 &&& (1 : Int32)) = (0 : Int32)) then p0 else p3)), .val (.int (if ¬ ((p4 &&& (2 : Int32)) = (0 : Int32)) then p1 else p3)), .val (.int (if ¬ ((p4 &&& (4 : Int32)) = (0 : Int32)) then p2 else p3)), .val (.ref b13), .val (.ref b21), .val (.ref b37), .val (.int (bI ((p0 = (if ¬ ((p4 &&& (1 : Int32)) = (0 : Int32)) then p0 else p3)) ∧ ((p1 = (if ¬ ((p4 &&& (2 : Int32)) = (0 : Int32)) then p1 else p3)) ∧ (p2 = (if ¬ ((p4 &&& (4 : Int32)) = (0 : Int32)) then p2 else p3)))))), .val (.int (bI (p0 = (if ¬ ((p4 &&& (1 : Int32)) = (0 : Int32)) then p0 else p3) ∧ p1 = (if ¬ ((p4 &&& (2 : Int32)) = (0 : Int32)) then p1 else p3) ∧ p2 = (if ¬ ((p4 &&& (4 : Int32)) = (0 : Int32)) then p2 else p3)))), .val (.int (bI ((if ¬ ((p4 &&& (1 : Int32)) = (0 : Int32)) then p0 else p3) = p0 ∧ (if ¬ ((p4 &&& (2 : Int32)) = (0 : Int32)) then p1 else p3) = p1 ∧ (if ¬ ((p4 &&& (4 : Int32)) = (0 : Int32)) then p2 else p3) = p2))), .val (.int (0 : Int32)), .unset] [(.ref b37), (.ref b13)])) rfl (by rw [hml]; rfl) (Steps.refl _) (argsL := [(.ref b37)]) (rest := []) (lenOf pd__Ljava_lang_Object__Z rfl) rfl (by show 2 * 0 + _ ≤ _; exact Nat.le_of_eq rfl) (hb hby at_171) (fun _ _ => ⟨rfl, e66, (by decide : 3 + 0 ≤ _), (by decide : 8 + 0 ≤ _)⟩)
  dsimp only [Pt.U, Pt.locs, Pt.cells, Pt.slots] at X68 l68 y68 z68 st68 hQ68
  subst l68 y68 z68
  obtain ⟨rfl, N68q, e68⟩ := hQ68
  have N68 := Fr.app N66 N68q
  refine OG.step (fun t k => st68.trans k) ?_
  show OG _ _ _ _ _ _ _ (T68.setTop (mkF m 174 #[.val (.int p0), .val (.int p1), .val (.int p2), .val (.int p3), .val (.int p4), .val (.int (bI (¬ ((p4 &&& (1 : Int32)) = (0 : Int32))))), .val (.int (bI (¬ ((p4 &&& (2 : Int32)) = (0 : Int32))))), .val (.int (bI (¬ ((p4 &&& (4 : Int32)) = (0 : Int32))))), .val (.int (if ¬ ((p4 &&& (1 : Int32)) = (0 : Int32)) then p0 else p3)), .val (.int (if ¬ ((p4 &&& (2 : Int32)) = (0 : Int32)) then p1 else p3)), .val (.int (if ¬ ((p4 &&& (4 : Int32)) = (0 : Int32)) then p2 else p3)), .val (.ref b13), .val (.ref b21), .val (.ref b37), .val (.int (bI ((p0 = (if ¬ ((p4 &&& (1 : Int32)) = (0 : Int32)) then p0 else p3)) ∧ ((p1 = (if ¬ ((p4 &&& (2 : Int32)) = (0 : Int32)) then p1 else p3)) ∧ (p2 = (if ¬ ((p4 &&& (4 : Int32)) = (0 : Int32)) then p2 else p3)))))), .val (.int (bI (p0 = (if ¬ ((p4 &&& (1 : Int32)) = (0 : Int32)) then p0 else p3) ∧ p1 = (if ¬ ((p4 &&& (2 : Int32)) = (0 : Int32)) then p1 else p3) ∧ p2 = (if ¬ ((p4 &&& (4 : Int32)) = (0 : Int32)) then p2 else p3)))), .val (.int (bI ((if ¬ ((p4 &&& (1 : Int32)) = (0 : Int32)) then p0 else p3) = p0 ∧ (if ¬ ((p4 &&& (2 : Int32)) = (0 : Int32)) then p1 else p3) = p1 ∧ (if ¬ ((p4 &&& (4 : Int32)) = (0 : Int32)) then p2 else p3) = p2))), .val (.int (0 : Int32)), .unset] [(.int (0 : Int32))]))
  have s69 : ∀ t, Steps p.tables e below (T68.setTop (mkF m 205 #[.val (.int p0), .val (.int p1), .val (.int p2), .val (.int p3), .val (.int p4), .val (.int (bI (¬ ((p4 &&& (1 : Int32)) = (0 : Int32))))), .val (.int (bI (¬ ((p4 &&& (2 : Int32)) = (0 : Int32))))), .val (.int (bI (¬ ((p4 &&& (4 : Int32)) = (0 : Int32))))), .val (.int (if ¬ ((p4 &&& (1 : Int32)) = (0 : Int32)) then p0 else p3)), .val (.int (if ¬ ((p4 &&& (2 : Int32)) = (0 : Int32)) then p1 else p3)), .val (.int (if ¬ ((p4 &&& (4 : Int32)) = (0 : Int32)) then p2 else p3)), .val (.ref b13), .val (.ref b21), .val (.ref b37), .val (.int (bI ((p0 = (if ¬ ((p4 &&& (1 : Int32)) = (0 : Int32)) then p0 else p3)) ∧ ((p1 = (if ¬ ((p4 &&& (2 : Int32)) = (0 : Int32)) then p1 else p3)) ∧ (p2 = (if ¬ ((p4 &&& (4 : Int32)) = (0 : Int32)) then p2 else p3)))))), .val (.int (bI (p0 = (if ¬ ((p4 &&& (1 : Int32)) = (0 : Int32)) then p0 else p3) ∧ p1 = (if ¬ ((p4 &&& (2 : Int32)) = (0 : Int32)) then p1 else p3) ∧ p2 = (if ¬ ((p4 &&& (4 : Int32)) = (0 : Int32)) then p2 else p3)))), .val (.int (bI ((if ¬ ((p4 &&& (1 : Int32)) = (0 : Int32)) then p0 else p3) = p0 ∧ (if ¬ ((p4 &&& (2 : Int32)) = (0 : Int32)) then p1 else p3) = p1 ∧ (if ¬ ((p4 &&& (4 : Int32)) = (0 : Int32)) then p2 else p3) = p2))), .val (.int (0 : Int32)), .val (.int (0 : Int32))] [(.int (1 : Int32))])) t → Steps p.tables e below (T68.setTop (mkF m 174 #[.val (.int p0), .val (.int p1), .val (.int p2), .val (.int p3), .val (.int p4), .val (.int (bI (¬ ((p4 &&& (1 : Int32)) = (0 : Int32))))), .val (.int (bI (¬ ((p4 &&& (2 : Int32)) = (0 : Int32))))), .val (.int (bI (¬ ((p4 &&& (4 : Int32)) = (0 : Int32))))), .val (.int (if ¬ ((p4 &&& (1 : Int32)) = (0 : Int32)) then p0 else p3)), .val (.int (if ¬ ((p4 &&& (2 : Int32)) = (0 : Int32)) then p1 else p3)), .val (.int (if ¬ ((p4 &&& (4 : Int32)) = (0 : Int32)) then p2 else p3)), .val (.ref b13), .val (.ref b21), .val (.ref b37), .val (.int (bI ((p0 = (if ¬ ((p4 &&& (1 : Int32)) = (0 : Int32)) then p0 else p3)) ∧ ((p1 = (if ¬ ((p4 &&& (2 : Int32)) = (0 : Int32)) then p1 else p3)) ∧ (p2 = (if ¬ ((p4 &&& (4 : Int32)) = (0 : Int32)) then p2 else p3)))))), .val (.int (bI (p0 = (if ¬ ((p4 &&& (1 : Int32)) = (0 : Int32)) then p0 else p3) ∧ p1 = (if ¬ ((p4 &&& (2 : Int32)) = (0 : Int32)) then p1 else p3) ∧ p2 = (if ¬ ((p4 &&& (4 : Int32)) = (0 : Int32)) then p2 else p3)))), .val (.int (bI ((if ¬ ((p4 &&& (1 : Int32)) = (0 : Int32)) then p0 else p3) = p0 ∧ (if ¬ ((p4 &&& (2 : Int32)) = (0 : Int32)) then p1 else p3) = p1 ∧ (if ¬ ((p4 &&& (4 : Int32)) = (0 : Int32)) then p2 else p3) = p2))), .val (.int (0 : Int32)), .unset] [(.int (0 : Int32))])) t := by
    intro t k
    refine XS.istore X68.here hx rfl (hb hby at_174) rfl (l' := #[.val (.int p0), .val (.int p1), .val (.int p2), .val (.int p3), .val (.int p4), .val (.int (bI (¬ ((p4 &&& (1 : Int32)) = (0 : Int32))))), .val (.int (bI (¬ ((p4 &&& (2 : Int32)) = (0 : Int32))))), .val (.int (bI (¬ ((p4 &&& (4 : Int32)) = (0 : Int32))))), .val (.int (if ¬ ((p4 &&& (1 : Int32)) = (0 : Int32)) then p0 else p3)), .val (.int (if ¬ ((p4 &&& (2 : Int32)) = (0 : Int32)) then p1 else p3)), .val (.int (if ¬ ((p4 &&& (4 : Int32)) = (0 : Int32)) then p2 else p3)), .val (.ref b13), .val (.ref b21), .val (.ref b37), .val (.int (bI ((p0 = (if ¬ ((p4 &&& (1 : Int32)) = (0 : Int32)) then p0 else p3)) ∧ ((p1 = (if ¬ ((p4 &&& (2 : Int32)) = (0 : Int32)) then p1 else p3)) ∧ (p2 = (if ¬ ((p4 &&& (4 : Int32)) = (0 : Int32)) then p2 else p3)))))), .val (.int (bI (p0 = (if ¬ ((p4 &&& (1 : Int32)) = (0 : Int32)) then p0 else p3) ∧ p1 = (if ¬ ((p4 &&& (2 : Int32)) = (0 : Int32)) then p1 else p3) ∧ p2 = (if ¬ ((p4 &&& (4 : Int32)) = (0 : Int32)) then p2 else p3)))), .val (.int (bI ((if ¬ ((p4 &&& (1 : Int32)) = (0 : Int32)) then p0 else p3) = p0 ∧ (if ¬ ((p4 &&& (2 : Int32)) = (0 : Int32)) then p1 else p3) = p1 ∧ (if ¬ ((p4 &&& (4 : Int32)) = (0 : Int32)) then p2 else p3) = p2))), .val (.int (0 : Int32)), .val (.int (0 : Int32))]) rfl ?_
    show Steps p.tables e below (T68.setTop (mkF m 176 #[.val (.int p0), .val (.int p1), .val (.int p2), .val (.int p3), .val (.int p4), .val (.int (bI (¬ ((p4 &&& (1 : Int32)) = (0 : Int32))))), .val (.int (bI (¬ ((p4 &&& (2 : Int32)) = (0 : Int32))))), .val (.int (bI (¬ ((p4 &&& (4 : Int32)) = (0 : Int32))))), .val (.int (if ¬ ((p4 &&& (1 : Int32)) = (0 : Int32)) then p0 else p3)), .val (.int (if ¬ ((p4 &&& (2 : Int32)) = (0 : Int32)) then p1 else p3)), .val (.int (if ¬ ((p4 &&& (4 : Int32)) = (0 : Int32)) then p2 else p3)), .val (.ref b13), .val (.ref b21), .val (.ref b37), .val (.int (bI ((p0 = (if ¬ ((p4 &&& (1 : Int32)) = (0 : Int32)) then p0 else p3)) ∧ ((p1 = (if ¬ ((p4 &&& (2 : Int32)) = (0 : Int32)) then p1 else p3)) ∧ (p2 = (if ¬ ((p4 &&& (4 : Int32)) = (0 : Int32)) then p2 else p3)))))), .val (.int (bI (p0 = (if ¬ ((p4 &&& (1 : Int32)) = (0 : Int32)) then p0 else p3) ∧ p1 = (if ¬ ((p4 &&& (2 : Int32)) = (0 : Int32)) then p1 else p3) ∧ p2 = (if ¬ ((p4 &&& (4 : Int32)) = (0 : Int32)) then p2 else p3)))), .val (.int (bI ((if ¬ ((p4 &&& (1 : Int32)) = (0 : Int32)) then p0 else p3) = p0 ∧ (if ¬ ((p4 &&& (2 : Int32)) = (0 : Int32)) then p1 else p3) = p1 ∧ (if ¬ ((p4 &&& (4 : Int32)) = (0 : Int32)) then p2 else p3) = p2))), .val (.int (0 : Int32)), .val (.int (0 : Int32))] [])) _
    refine XS.iload X68.here hx rfl (hb hby at_176) rfl ?_
    show Steps p.tables e below (T68.setTop (mkF m 178 #[.val (.int p0), .val (.int p1), .val (.int p2), .val (.int p3), .val (.int p4), .val (.int (bI (¬ ((p4 &&& (1 : Int32)) = (0 : Int32))))), .val (.int (bI (¬ ((p4 &&& (2 : Int32)) = (0 : Int32))))), .val (.int (bI (¬ ((p4 &&& (4 : Int32)) = (0 : Int32))))), .val (.int (if ¬ ((p4 &&& (1 : Int32)) = (0 : Int32)) then p0 else p3)), .val (.int (if ¬ ((p4 &&& (2 : Int32)) = (0 : Int32)) then p1 else p3)), .val (.int (if ¬ ((p4 &&& (4 : Int32)) = (0 : Int32)) then p2 else p3)), .val (.ref b13), .val (.ref b21), .val (.ref b37), .val (.int (bI ((p0 = (if ¬ ((p4 &&& (1 : Int32)) = (0 : Int32)) then p0 else p3)) ∧ ((p1 = (if ¬ ((p4 &&& (2 : Int32)) = (0 : Int32)) then p1 else p3)) ∧ (p2 = (if ¬ ((p4 &&& (4 : Int32)) = (0 : Int32)) then p2 else p3)))))), .val (.int (bI (p0 = (if ¬ ((p4 &&& (1 : Int32)) = (0 : Int32)) then p0 else p3) ∧ p1 = (if ¬ ((p4 &&& (2 : Int32)) = (0 : Int32)) then p1 else p3) ∧ p2 = (if ¬ ((p4 &&& (4 : Int32)) = (0 : Int32)) then p2 else p3)))), .val (.int (bI ((if ¬ ((p4 &&& (1 : Int32)) = (0 : Int32)) then p0 else p3) = p0 ∧ (if ¬ ((p4 &&& (2 : Int32)) = (0 : Int32)) then p1 else p3) = p1 ∧ (if ¬ ((p4 &&& (4 : Int32)) = (0 : Int32)) then p2 else p3) = p2))), .val (.int (0 : Int32)), .val (.int (0 : Int32))] [(.int (bI (p0 = (if ¬ ((p4 &&& (1 : Int32)) = (0 : Int32)) then p0 else p3) ∧ p1 = (if ¬ ((p4 &&& (2 : Int32)) = (0 : Int32)) then p1 else p3) ∧ p2 = (if ¬ ((p4 &&& (4 : Int32)) = (0 : Int32)) then p2 else p3))))])) _
    refine XS.iload X68.here hx rfl (hb hby at_178) rfl ?_
    show Steps p.tables e below (T68.setTop (mkF m 180 #[.val (.int p0), .val (.int p1), .val (.int p2), .val (.int p3), .val (.int p4), .val (.int (bI (¬ ((p4 &&& (1 : Int32)) = (0 : Int32))))), .val (.int (bI (¬ ((p4 &&& (2 : Int32)) = (0 : Int32))))), .val (.int (bI (¬ ((p4 &&& (4 : Int32)) = (0 : Int32))))), .val (.int (if ¬ ((p4 &&& (1 : Int32)) = (0 : Int32)) then p0 else p3)), .val (.int (if ¬ ((p4 &&& (2 : Int32)) = (0 : Int32)) then p1 else p3)), .val (.int (if ¬ ((p4 &&& (4 : Int32)) = (0 : Int32)) then p2 else p3)), .val (.ref b13), .val (.ref b21), .val (.ref b37), .val (.int (bI ((p0 = (if ¬ ((p4 &&& (1 : Int32)) = (0 : Int32)) then p0 else p3)) ∧ ((p1 = (if ¬ ((p4 &&& (2 : Int32)) = (0 : Int32)) then p1 else p3)) ∧ (p2 = (if ¬ ((p4 &&& (4 : Int32)) = (0 : Int32)) then p2 else p3)))))), .val (.int (bI (p0 = (if ¬ ((p4 &&& (1 : Int32)) = (0 : Int32)) then p0 else p3) ∧ p1 = (if ¬ ((p4 &&& (2 : Int32)) = (0 : Int32)) then p1 else p3) ∧ p2 = (if ¬ ((p4 &&& (4 : Int32)) = (0 : Int32)) then p2 else p3)))), .val (.int (bI ((if ¬ ((p4 &&& (1 : Int32)) = (0 : Int32)) then p0 else p3) = p0 ∧ (if ¬ ((p4 &&& (2 : Int32)) = (0 : Int32)) then p1 else p3) = p1 ∧ (if ¬ ((p4 &&& (4 : Int32)) = (0 : Int32)) then p2 else p3) = p2))), .val (.int (0 : Int32)), .val (.int (0 : Int32))] [(.int (bI ((p0 = (if ¬ ((p4 &&& (1 : Int32)) = (0 : Int32)) then p0 else p3)) ∧ ((p1 = (if ¬ ((p4 &&& (2 : Int32)) = (0 : Int32)) then p1 else p3)) ∧ (p2 = (if ¬ ((p4 &&& (4 : Int32)) = (0 : Int32)) then p2 else p3)))))), (.int (bI (p0 = (if ¬ ((p4 &&& (1 : Int32)) = (0 : Int32)) then p0 else p3) ∧ p1 = (if ¬ ((p4 &&& (2 : Int32)) = (0 : Int32)) then p1 else p3) ∧ p2 = (if ¬ ((p4 &&& (4 : Int32)) = (0 : Int32)) then p2 else p3))))])) _
    refine XS.icmpNo X68.here hx rfl (hb hby at_180) rfl (teq rfl).2 ?_
    show Steps p.tables e below (T68.setTop (mkF m 183 #[.val (.int p0), .val (.int p1), .val (.int p2), .val (.int p3), .val (.int p4), .val (.int (bI (¬ ((p4 &&& (1 : Int32)) = (0 : Int32))))), .val (.int (bI (¬ ((p4 &&& (2 : Int32)) = (0 : Int32))))), .val (.int (bI (¬ ((p4 &&& (4 : Int32)) = (0 : Int32))))), .val (.int (if ¬ ((p4 &&& (1 : Int32)) = (0 : Int32)) then p0 else p3)), .val (.int (if ¬ ((p4 &&& (2 : Int32)) = (0 : Int32)) then p1 else p3)), .val (.int (if ¬ ((p4 &&& (4 : Int32)) = (0 : Int32)) then p2 else p3)), .val (.ref b13), .val (.ref b21), .val (.ref b37), .val (.int (bI ((p0 = (if ¬ ((p4 &&& (1 : Int32)) = (0 : Int32)) then p0 else p3)) ∧ ((p1 = (if ¬ ((p4 &&& (2 : Int32)) = (0 : Int32)) then p1 else p3)) ∧ (p2 = (if ¬ ((p4 &&& (4 : Int32)) = (0 : Int32)) then p2 else p3)))))), .val (.int (bI (p0 = (if ¬ ((p4 &&& (1 : Int32)) = (0 : Int32)) then p0 else p3) ∧ p1 = (if ¬ ((p4 &&& (2 : Int32)) = (0 : Int32)) then p1 else p3) ∧ p2 = (if ¬ ((p4 &&& (4 : Int32)) = (0 : Int32)) then p2 else p3)))), .val (.int (bI ((if ¬ ((p4 &&& (1 : Int32)) = (0 : Int32)) then p0 else p3) = p0 ∧ (if ¬ ((p4 &&& (2 : Int32)) = (0 : Int32)) then p1 else p3) = p1 ∧ (if ¬ ((p4 &&& (4 : Int32)) = (0 : Int32)) then p2 else p3) = p2))), .val (.int (0 : Int32)), .val (.int (0 : Int32))] [])) _
    refine XS.iload X68.here hx rfl (hb hby at_183) rfl ?_
    show Steps p.tables e below (T68.setTop (mkF m 185 #[.val (.int p0), .val (.int p1), .val (.int p2), .val (.int p3), .val (.int p4), .val (.int (bI (¬ ((p4 &&& (1 : Int32)) = (0 : Int32))))), .val (.int (bI (¬ ((p4 &&& (2 : Int32)) = (0 : Int32))))), .val (.int (bI (¬ ((p4 &&& (4 : Int32)) = (0 : Int32))))), .val (.int (if ¬ ((p4 &&& (1 : Int32)) = (0 : Int32)) then p0 else p3)), .val (.int (if ¬ ((p4 &&& (2 : Int32)) = (0 : Int32)) then p1 else p3)), .val (.int (if ¬ ((p4 &&& (4 : Int32)) = (0 : Int32)) then p2 else p3)), .val (.ref b13), .val (.ref b21), .val (.ref b37), .val (.int (bI ((p0 = (if ¬ ((p4 &&& (1 : Int32)) = (0 : Int32)) then p0 else p3)) ∧ ((p1 = (if ¬ ((p4 &&& (2 : Int32)) = (0 : Int32)) then p1 else p3)) ∧ (p2 = (if ¬ ((p4 &&& (4 : Int32)) = (0 : Int32)) then p2 else p3)))))), .val (.int (bI (p0 = (if ¬ ((p4 &&& (1 : Int32)) = (0 : Int32)) then p0 else p3) ∧ p1 = (if ¬ ((p4 &&& (2 : Int32)) = (0 : Int32)) then p1 else p3) ∧ p2 = (if ¬ ((p4 &&& (4 : Int32)) = (0 : Int32)) then p2 else p3)))), .val (.int (bI ((if ¬ ((p4 &&& (1 : Int32)) = (0 : Int32)) then p0 else p3) = p0 ∧ (if ¬ ((p4 &&& (2 : Int32)) = (0 : Int32)) then p1 else p3) = p1 ∧ (if ¬ ((p4 &&& (4 : Int32)) = (0 : Int32)) then p2 else p3) = p2))), .val (.int (0 : Int32)), .val (.int (0 : Int32))] [(.int (bI ((if ¬ ((p4 &&& (1 : Int32)) = (0 : Int32)) then p0 else p3) = p0 ∧ (if ¬ ((p4 &&& (2 : Int32)) = (0 : Int32)) then p1 else p3) = p1 ∧ (if ¬ ((p4 &&& (4 : Int32)) = (0 : Int32)) then p2 else p3) = p2)))])) _
    refine XS.iload X68.here hx rfl (hb hby at_185) rfl ?_
    show Steps p.tables e below (T68.setTop (mkF m 187 #[.val (.int p0), .val (.int p1), .val (.int p2), .val (.int p3), .val (.int p4), .val (.int (bI (¬ ((p4 &&& (1 : Int32)) = (0 : Int32))))), .val (.int (bI (¬ ((p4 &&& (2 : Int32)) = (0 : Int32))))), .val (.int (bI (¬ ((p4 &&& (4 : Int32)) = (0 : Int32))))), .val (.int (if ¬ ((p4 &&& (1 : Int32)) = (0 : Int32)) then p0 else p3)), .val (.int (if ¬ ((p4 &&& (2 : Int32)) = (0 : Int32)) then p1 else p3)), .val (.int (if ¬ ((p4 &&& (4 : Int32)) = (0 : Int32)) then p2 else p3)), .val (.ref b13), .val (.ref b21), .val (.ref b37), .val (.int (bI ((p0 = (if ¬ ((p4 &&& (1 : Int32)) = (0 : Int32)) then p0 else p3)) ∧ ((p1 = (if ¬ ((p4 &&& (2 : Int32)) = (0 : Int32)) then p1 else p3)) ∧ (p2 = (if ¬ ((p4 &&& (4 : Int32)) = (0 : Int32)) then p2 else p3)))))), .val (.int (bI (p0 = (if ¬ ((p4 &&& (1 : Int32)) = (0 : Int32)) then p0 else p3) ∧ p1 = (if ¬ ((p4 &&& (2 : Int32)) = (0 : Int32)) then p1 else p3) ∧ p2 = (if ¬ ((p4 &&& (4 : Int32)) = (0 : Int32)) then p2 else p3)))), .val (.int (bI ((if ¬ ((p4 &&& (1 : Int32)) = (0 : Int32)) then p0 else p3) = p0 ∧ (if ¬ ((p4 &&& (2 : Int32)) = (0 : Int32)) then p1 else p3) = p1 ∧ (if ¬ ((p4 &&& (4 : Int32)) = (0 : Int32)) then p2 else p3) = p2))), .val (.int (0 : Int32)), .val (.int (0 : Int32))] [(.int (bI ((p0 = (if ¬ ((p4 &&& (1 : Int32)) = (0 : Int32)) then p0 else p3)) ∧ ((p1 = (if ¬ ((p4 &&& (2 : Int32)) = (0 : Int32)) then p1 else p3)) ∧ (p2 = (if ¬ ((p4 &&& (4 : Int32)) = (0 : Int32)) then p2 else p3)))))), (.int (bI ((if ¬ ((p4 &&& (1 : Int32)) = (0 : Int32)) then p0 else p3) = p0 ∧ (if ¬ ((p4 &&& (2 : Int32)) = (0 : Int32)) then p1 else p3) = p1 ∧ (if ¬ ((p4 &&& (4 : Int32)) = (0 : Int32)) then p2 else p3) = p2)))])) _
    refine XS.icmpNo X68.here hx rfl (hb hby at_187) rfl (teq (bI_iff.mpr ⟨fun z => ⟨z.1.symm, z.2.1.symm, z.2.2.symm⟩, fun z => ⟨z.1.symm, z.2.1.symm, z.2.2.symm⟩⟩)).2 ?_
    show Steps p.tables e below (T68.setTop (mkF m 190 #[.val (.int p0), .val (.int p1), .val (.int p2), .val (.int p3), .val (.int p4), .val (.int (bI (¬ ((p4 &&& (1 : Int32)) = (0 : Int32))))), .val (.int (bI (¬ ((p4 &&& (2 : Int32)) = (0 : Int32))))), .val (.int (bI (¬ ((p4 &&& (4 : Int32)) = (0 : Int32))))), .val (.int (if ¬ ((p4 &&& (1 : Int32)) = (0 : Int32)) then p0 else p3)), .val (.int (if ¬ ((p4 &&& (2 : Int32)) = (0 : Int32)) then p1 else p3)), .val (.int (if ¬ ((p4 &&& (4 : Int32)) = (0 : Int32)) then p2 else p3)), .val (.ref b13), .val (.ref b21), .val (.ref b37), .val (.int (bI ((p0 = (if ¬ ((p4 &&& (1 : Int32)) = (0 : Int32)) then p0 else p3)) ∧ ((p1 = (if ¬ ((p4 &&& (2 : Int32)) = (0 : Int32)) then p1 else p3)) ∧ (p2 = (if ¬ ((p4 &&& (4 : Int32)) = (0 : Int32)) then p2 else p3)))))), .val (.int (bI (p0 = (if ¬ ((p4 &&& (1 : Int32)) = (0 : Int32)) then p0 else p3) ∧ p1 = (if ¬ ((p4 &&& (2 : Int32)) = (0 : Int32)) then p1 else p3) ∧ p2 = (if ¬ ((p4 &&& (4 : Int32)) = (0 : Int32)) then p2 else p3)))), .val (.int (bI ((if ¬ ((p4 &&& (1 : Int32)) = (0 : Int32)) then p0 else p3) = p0 ∧ (if ¬ ((p4 &&& (2 : Int32)) = (0 : Int32)) then p1 else p3) = p1 ∧ (if ¬ ((p4 &&& (4 : Int32)) = (0 : Int32)) then p2 else p3) = p2))), .val (.int (0 : Int32)), .val (.int (0 : Int32))] [])) _
    refine XS.iload X68.here hx rfl (hb hby at_190) rfl ?_
    show Steps p.tables e below (T68.setTop (mkF m 192 #[.val (.int p0), .val (.int p1), .val (.int p2), .val (.int p3), .val (.int p4), .val (.int (bI (¬ ((p4 &&& (1 : Int32)) = (0 : Int32))))), .val (.int (bI (¬ ((p4 &&& (2 : Int32)) = (0 : Int32))))), .val (.int (bI (¬ ((p4 &&& (4 : Int32)) = (0 : Int32))))), .val (.int (if ¬ ((p4 &&& (1 : Int32)) = (0 : Int32)) then p0 else p3)), .val (.int (if ¬ ((p4 &&& (2 : Int32)) = (0 : Int32)) then p1 else p3)), .val (.int (if ¬ ((p4 &&& (4 : Int32)) = (0 : Int32)) then p2 else p3)), .val (.ref b13), .val (.ref b21), .val (.ref b37), .val (.int (bI ((p0 = (if ¬ ((p4 &&& (1 : Int32)) = (0 : Int32)) then p0 else p3)) ∧ ((p1 = (if ¬ ((p4 &&& (2 : Int32)) = (0 : Int32)) then p1 else p3)) ∧ (p2 = (if ¬ ((p4 &&& (4 : Int32)) = (0 : Int32)) then p2 else p3)))))), .val (.int (bI (p0 = (if ¬ ((p4 &&& (1 : Int32)) = (0 : Int32)) then p0 else p3) ∧ p1 = (if ¬ ((p4 &&& (2 : Int32)) = (0 : Int32)) then p1 else p3) ∧ p2 = (if ¬ ((p4 &&& (4 : Int32)) = (0 : Int32)) then p2 else p3)))), .val (.int (bI ((if ¬ ((p4 &&& (1 : Int32)) = (0 : Int32)) then p0 else p3) = p0 ∧ (if ¬ ((p4 &&& (2 : Int32)) = (0 : Int32)) then p1 else p3) = p1 ∧ (if ¬ ((p4 &&& (4 : Int32)) = (0 : Int32)) then p2 else p3) = p2))), .val (.int (0 : Int32)), .val (.int (0 : Int32))] [(.int (0 : Int32))])) _
    refine XS.ifNo X68.here hx rfl (hb hby at_192) rfl ((if0 _ _).trans (teq rfl).2) ?_
    show Steps p.tables e below (T68.setTop (mkF m 195 #[.val (.int p0), .val (.int p1), .val (.int p2), .val (.int p3), .val (.int p4), .val (.int (bI (¬ ((p4 &&& (1 : Int32)) = (0 : Int32))))), .val (.int (bI (¬ ((p4 &&& (2 : Int32)) = (0 : Int32))))), .val (.int (bI (¬ ((p4 &&& (4 : Int32)) = (0 : Int32))))), .val (.int (if ¬ ((p4 &&& (1 : Int32)) = (0 : Int32)) then p0 else p3)), .val (.int (if ¬ ((p4 &&& (2 : Int32)) = (0 : Int32)) then p1 else p3)), .val (.int (if ¬ ((p4 &&& (4 : Int32)) = (0 : Int32)) then p2 else p3)), .val (.ref b13), .val (.ref b21), .val (.ref b37), .val (.int (bI ((p0 = (if ¬ ((p4 &&& (1 : Int32)) = (0 : Int32)) then p0 else p3)) ∧ ((p1 = (if ¬ ((p4 &&& (2 : Int32)) = (0 : Int32)) then p1 else p3)) ∧ (p2 = (if ¬ ((p4 &&& (4 : Int32)) = (0 : Int32)) then p2 else p3)))))), .val (.int (bI (p0 = (if ¬ ((p4 &&& (1 : Int32)) = (0 : Int32)) then p0 else p3) ∧ p1 = (if ¬ ((p4 &&& (2 : Int32)) = (0 : Int32)) then p1 else p3) ∧ p2 = (if ¬ ((p4 &&& (4 : Int32)) = (0 : Int32)) then p2 else p3)))), .val (.int (bI ((if ¬ ((p4 &&& (1 : Int32)) = (0 : Int32)) then p0 else p3) = p0 ∧ (if ¬ ((p4 &&& (2 : Int32)) = (0 : Int32)) then p1 else p3) = p1 ∧ (if ¬ ((p4 &&& (4 : Int32)) = (0 : Int32)) then p2 else p3) = p2))), .val (.int (0 : Int32)), .val (.int (0 : Int32))] [])) _
    refine XS.iload X68.here hx rfl (hb hby at_195) rfl ?_
    show Steps p.tables e below (T68.setTop (mkF m 197 #[.val (.int p0), .val (.int p1), .val (.int p2), .val (.int p3), .val (.int p4), .val (.int (bI (¬ ((p4 &&& (1 : Int32)) = (0 : Int32))))), .val (.int (bI (¬ ((p4 &&& (2 : Int32)) = (0 : Int32))))), .val (.int (bI (¬ ((p4 &&& (4 : Int32)) = (0 : Int32))))), .val (.int (if ¬ ((p4 &&& (1 : Int32)) = (0 : Int32)) then p0 else p3)), .val (.int (if ¬ ((p4 &&& (2 : Int32)) = (0 : Int32)) then p1 else p3)), .val (.int (if ¬ ((p4 &&& (4 : Int32)) = (0 : Int32)) then p2 else p3)), .val (.ref b13), .val (.ref b21), .val (.ref b37), .val (.int (bI ((p0 = (if ¬ ((p4 &&& (1 : Int32)) = (0 : Int32)) then p0 else p3)) ∧ ((p1 = (if ¬ ((p4 &&& (2 : Int32)) = (0 : Int32)) then p1 else p3)) ∧ (p2 = (if ¬ ((p4 &&& (4 : Int32)) = (0 : Int32)) then p2 else p3)))))), .val (.int (bI (p0 = (if ¬ ((p4 &&& (1 : Int32)) = (0 : Int32)) then p0 else p3) ∧ p1 = (if ¬ ((p4 &&& (2 : Int32)) = (0 : Int32)) then p1 else p3) ∧ p2 = (if ¬ ((p4 &&& (4 : Int32)) = (0 : Int32)) then p2 else p3)))), .val (.int (bI ((if ¬ ((p4 &&& (1 : Int32)) = (0 : Int32)) then p0 else p3) = p0 ∧ (if ¬ ((p4 &&& (2 : Int32)) = (0 : Int32)) then p1 else p3) = p1 ∧ (if ¬ ((p4 &&& (4 : Int32)) = (0 : Int32)) then p2 else p3) = p2))), .val (.int (0 : Int32)), .val (.int (0 : Int32))] [(.int (0 : Int32))])) _
    refine XS.ifNo X68.here hx rfl (hb hby at_197) rfl ((if0 _ _).trans (teq rfl).2) ?_
    show Steps p.tables e below (T68.setTop (mkF m 200 #[.val (.int p0), .val (.int p1), .val (.int p2), .val (.int p3), .val (.int p4), .val (.int (bI (¬ ((p4 &&& (1 : Int32)) = (0 : Int32))))), .val (.int (bI (¬ ((p4 &&& (2 : Int32)) = (0 : Int32))))), .val (.int (bI (¬ ((p4 &&& (4 : Int32)) = (0 : Int32))))), .val (.int (if ¬ ((p4 &&& (1 : Int32)) = (0 : Int32)) then p0 else p3)), .val (.int (if ¬ ((p4 &&& (2 : Int32)) = (0 : Int32)) then p1 else p3)), .val (.int (if ¬ ((p4 &&& (4 : Int32)) = (0 : Int32)) then p2 else p3)), .val (.ref b13), .val (.ref b21), .val (.ref b37), .val (.int (bI ((p0 = (if ¬ ((p4 &&& (1 : Int32)) = (0 : Int32)) then p0 else p3)) ∧ ((p1 = (if ¬ ((p4 &&& (2 : Int32)) = (0 : Int32)) then p1 else p3)) ∧ (p2 = (if ¬ ((p4 &&& (4 : Int32)) = (0 : Int32)) then p2 else p3)))))), .val (.int (bI (p0 = (if ¬ ((p4 &&& (1 : Int32)) = (0 : Int32)) then p0 else p3) ∧ p1 = (if ¬ ((p4 &&& (2 : Int32)) = (0 : Int32)) then p1 else p3) ∧ p2 = (if ¬ ((p4 &&& (4 : Int32)) = (0 : Int32)) then p2 else p3)))), .val (.int (bI ((if ¬ ((p4 &&& (1 : Int32)) = (0 : Int32)) then p0 else p3) = p0 ∧ (if ¬ ((p4 &&& (2 : Int32)) = (0 : Int32)) then p1 else p3) = p1 ∧ (if ¬ ((p4 &&& (4 : Int32)) = (0 : Int32)) then p2 else p3) = p2))), .val (.int (0 : Int32)), .val (.int (0 : Int32))] [])) _
    refine XS.iconst X68.here hx rfl (hb hby at_200) ?_
    show Steps p.tables e below (T68.setTop (mkF m 201 #[.val (.int p0), .val (.int p1), .val (.int p2), .val (.int p3), .val (.int p4), .val (.int (bI (¬ ((p4 &&& (1 : Int32)) = (0 : Int32))))), .val (.int (bI (¬ ((p4 &&& (2 : Int32)) = (0 : Int32))))), .val (.int (bI (¬ ((p4 &&& (4 : Int32)) = (0 : Int32))))), .val (.int (if ¬ ((p4 &&& (1 : Int32)) = (0 : Int32)) then p0 else p3)), .val (.int (if ¬ ((p4 &&& (2 : Int32)) = (0 : Int32)) then p1 else p3)), .val (.int (if ¬ ((p4 &&& (4 : Int32)) = (0 : Int32)) then p2 else p3)), .val (.ref b13), .val (.ref b21), .val (.ref b37), .val (.int (bI ((p0 = (if ¬ ((p4 &&& (1 : Int32)) = (0 : Int32)) then p0 else p3)) ∧ ((p1 = (if ¬ ((p4 &&& (2 : Int32)) = (0 : Int32)) then p1 else p3)) ∧ (p2 = (if ¬ ((p4 &&& (4 : Int32)) = (0 : Int32)) then p2 else p3)))))), .val (.int (bI (p0 = (if ¬ ((p4 &&& (1 : Int32)) = (0 : Int32)) then p0 else p3) ∧ p1 = (if ¬ ((p4 &&& (2 : Int32)) = (0 : Int32)) then p1 else p3) ∧ p2 = (if ¬ ((p4 &&& (4 : Int32)) = (0 : Int32)) then p2 else p3)))), .val (.int (bI ((if ¬ ((p4 &&& (1 : Int32)) = (0 : Int32)) then p0 else p3) = p0 ∧ (if ¬ ((p4 &&& (2 : Int32)) = (0 : Int32)) then p1 else p3) = p1 ∧ (if ¬ ((p4 &&& (4 : Int32)) = (0 : Int32)) then p2 else p3) = p2))), .val (.int (0 : Int32)), .val (.int (0 : Int32))] [(.int (1 : Int32))])) _
    refine XS.goto X68.here hx rfl (pc0 := 201) (pc' := 205) rfl (hb hby at_201) (by decide) (by decide) ?_
    exact k
  refine OG.step s69 ?_
  exact OG.retZ X68 hx hlk Bd.returns (hb hby at_205) (nar_1) e68 ⟨rfl, N68⟩ (by decide) (by decide)
set_option maxRecDepth 65536 in
set_option maxHeartbeats 40000000 in
theorem comes_1 {Post : Tables → Env → Array Value → State → Outcome → State → Prop} (hpost : ∀ tb e args s v u, (limb_1_1.after args s (.returned v) u = true ∧ limb_1_2.after args s (.returned v) u = true ∧ True) → FrameEnd s (.returned v) u (Jvm.fieldLocs frame_1_writes args s ++ Jvm.arrayLocs frame_1_arrays args s ++ Jvm.staticLocs frame_1_statics s) 16 128 → Post tb e args s (.returned v) u) :
    ArmFor flags0 classFile x code maxLocals ret World_1 tables_1 room_1 Calls_1 rest_1 Pre_1 Post := by
  intro l hfl _ _ p e ha hc hk s m args below hf hA hF happ hP
  obtain ⟨hcalls, hrest, hpre⟩ := hP
  obtain ⟨-, -, -, hnamed, -, -, -, hat⟩ := (Spec.applies_iff hf).mp happ
  obtain ⟨hg, hn⟩ := and_e (Cond.before_iff.mp (show (Jvm.Cond.and given_1 narrow_1).before args s = true from hpre))
  obtain ⟨hcount, hg0⟩ := and_e hg
  obtain ⟨ha0, hg1⟩ := and_e hg0
  obtain ⟨ha1, hg2⟩ := and_e hg1
  obtain ⟨ha2, hg3⟩ := and_e hg2
  obtain ⟨ha3, hg4⟩ := and_e hg3
  obtain ⟨w0, w1, w2, w3, w4, rfl⟩ : ∃ w0 w1 w2 w3 w4 : Value, args = #[w0, w1, w2, w3, w4] := by
    have hs : args.size = 5 := by simpa [Cond.value, given_1] using hcount
    obtain ⟨L⟩ := args
    match L, hs with
    | [w0, w1, w2, w3, w4], _ => exact ⟨w0, w1, w2, w3, w4, rfl⟩
  have hw := fun d (hd : d ∈ tables_1) => atoms_spec (ws := Jvm.Cond.code x code maxLocals ret :: tables_1) hat d (List.mem_cons_of_mem _ hd)
  obtain ⟨i0, ei0⟩ := is_v ha0
  obtain rfl : w0 = (.int i0) := Option.some.inj ei0
  obtain ⟨i1, ei1⟩ := is_v ha1
  obtain rfl : w1 = (.int i1) := Option.some.inj ei1
  obtain ⟨i2, ei2⟩ := is_v ha2
  obtain rfl : w2 = (.int i2) := Option.some.inj ei2
  obtain ⟨i3, ei3⟩ := is_v ha3
  obtain rfl : w3 = (.int i3) := Option.some.inj ei3
  obtain ⟨i4, ei4⟩ := is_v hg4
  obtain rfl : w4 = (.int i4) := Option.some.inj ei4
  obtain ⟨n, o, h1, h2, h3, _, L, rfl, ⟨rfl, N⟩, hq⟩ := rm0 l s _ hw tables_1 i0 i1 i2 i3 i4 s.heap s.heap.size (Nat.le_refl _) p e ha hc hk s m _ below hf ((Spec.applies_iff_loose hf).mp happ).1 ⟨rfl, State.Warmed39.refl s, rfl⟩ trivial
  refine ⟨n, _, h1, h2, h3, hpost _ _ _ _ _ _ ⟨Cond.after_iff.mpr rfl, Cond.after_iff.mpr (eq_i res_at (Term.int_eval (1)) rfl), trivial⟩ ⟨hq.1, hq.2.1, (hq.2.2.sift fun y hy => Or.inr (N y hy)).mono (by decide) (by decide)⟩⟩
theorem main_1_1 : Claimed_1_1 := comes_1 fun _ _ _ _ _ _ h hF => ⟨h.1, hF⟩
theorem main_1_2 : Claimed_1_2 := comes_1 fun _ _ _ _ _ _ h hF => ⟨h.2.1, hF⟩
end Jvm.Pilot.@@N@@
namespace Jvm.Pilot.@@N@@
open Jvm Jvm.ClassFile Sem Op Lib Jvm.Free Jvm.Stand Jvm.Pilot.@@N@@.Jvm.D
/-! MADE BY PROGRAM (witnessworld.py) out of the Statement's table words and the real class files: 10 classes; the members and pool entries that the words name. The judged class is class 1, her method 1. -/
namespace start1
open Jvm.ClassFile
def u (s : String) : CpInfo := .utf8 (stringToUtf16 s)
/-- a pool by its gaps: so many unusable entries, then the entry; so many at the end -/
def gap : Nat → List CpInfo → List CpInfo
  | 0, r => r
  | n + 1, r => .unusable :: gap n r
def poolList (es : List (Nat × CpInfo)) (last : Nat) : List CpInfo := es.foldr (fun e r => gap e.1 (e.2 :: r)) (gap last [])
def pool (es : List (Nat × CpInfo)) (last : Nat) : Array CpInfo := ⟨poolList es last⟩
def fileOf (pool : Array CpInfo) (this : Nat) (attrs : Array Attribute := #[]) (ms : Array MethodInfo := #[]) (fl : Nat := 33) (sup : Nat := 0) (ifs : Array Nat := #[]) (fds : Array FieldInfo := #[]) : ClassFile where
  minorVersion := 0
  majorVersion := 65
  constantPool := pool
  accessFlags := fl
  thisClass := this
  superClass := sup
  interfaces := ifs
  fields := fds
  methods := ms
  attributes := attrs
def plain (name : String) (sup : Option ClassId) : Class where
  name := name
  kind := .ordinary
  loader := none
  accessFlags := 33
  super := sup
  interfaces := #[]
  cf := none
  fields := #[]
  methods := #[]
  instanceTypes := #[]
  staticTypes := #[]
  resolved := #[]
  callSites := []
  init := .initialized
  statics := none
  mirror := none

def pool0 : Array CpInfo := pool [(5, u "<init>"), (0, u "()V"), (1, .class_ 10), (1, u "java/lang/Object")] 113

def k0c0 : Code := { maxStack := 0, maxLocals := 1, code := object_method_1_code, exceptionTable := #[], attributes := #[] }
def k0m0 : Method := { name := "<init>", desc := "()V", sig := { parameters := [], returnType := none }, accessFlags := 1, code := some k0c0 }
/-- java/lang/Object -/
def k0 : Class := { plain "java/lang/Object" none with
  accessFlags := 33
  interfaces := #[]
  cf := some (fileOf pool0 8 #[] #[{ accessFlags := 1, nameIndex := 5, descriptorIndex := 6, attributes := #[] }] 33 0 #[] #[])
  fields := #[]
  methods := #[k0m0]
  instanceTypes := #[]
  staticTypes := #[]
  resolved := Array.replicate 124 none
  statics := none }

def pool1 : Array CpInfo := pool [(2, .class_ 4), (1, u "java/lang/Object"), (0, u "<init>"), (0, u "()V"), (0, .class_ 8), (0, u "com/example/ludus/ludus/PackingTask$Good"), (0, .methodref 7 10), (0, .nameAndType 5 11), (0, u "(III)V"), (0, .class_ 13), (0, u "com/example/ludus/ludus/PackingTask$Bag"), (0, .methodref 12 15), (0, .nameAndType 5 16), (0, u "(II)V"), (0, .methodref 7 18), (0, .nameAndType 19 20), (0, u "equals"), (0, u "(Ljava/lang/Object;)Z"), (0, .class_ 22), (0, u "com/example/ludus/ludus/GoodEqualsPinLaw"), (2, u "law"), (0, u "(IIIII)Z")] 8

def k1m0 : Method := { name := "<init>", desc := "()V", sig := { parameters := [], returnType := none }, accessFlags := 2, code := none }
def k1c1 : Code := { maxStack := 5, maxLocals := 19, code := code, exceptionTable := #[], attributes := #[] }
def k1m1 : Method := { name := "law", desc := "(IIIII)Z", sig := { parameters := [.int, .int, .int, .int, .int], returnType := some .boolean }, accessFlags := 9, code := some k1c1 }
/-- com/example/ludus/ludus/GoodEqualsPinLaw -/
def k1 : Class := { plain "com/example/ludus/ludus/GoodEqualsPinLaw" (some 0) with
  accessFlags := 49
  interfaces := #[]
  cf := some (fileOf pool1 21 #[] #[{ accessFlags := 2, nameIndex := 5, descriptorIndex := 6, attributes := #[] }, { accessFlags := 9, nameIndex := 25, descriptorIndex := 26, attributes := #[] }] 49 2 #[] #[])
  fields := #[]
  methods := #[k1m0, k1m1]
  instanceTypes := #[]
  staticTypes := #[]
  resolved := Array.replicate 35 none
  statics := none }

def pool2 : Array CpInfo := pool [(1, .methodref 2 3), (0, .class_ 4), (0, .nameAndType 5 6), (0, u "java/lang/Object"), (0, u "<init>"), (0, u "()V"), (0, .fieldref 8 9), (0, .class_ 10), (0, .nameAndType 11 12), (0, u "com/example/ludus/ludus/PackingTask$Good"), (0, u "width"), (0, u "I"), (0, .fieldref 8 14), (0, .nameAndType 15 12), (0, u "height"), (0, .fieldref 8 17), (0, .nameAndType 18 12), (0, u "value"), (16, u "(III)V"), (3, u "equals"), (0, u "(Ljava/lang/Object;)Z"), (7, .class_ 49), (0, u "com/example/ludus/ludus/PackingTask")] 16

def k2c0 : Code := { maxStack := 2, maxLocals := 4, code := prog_51_method_1_code, exceptionTable := #[], attributes := #[] }
def k2m0 : Method := { name := "<init>", desc := "(III)V", sig := { parameters := [.int, .int, .int], returnType := none }, accessFlags := 0, code := some k2c0 }
def k2c1 : Code := { maxStack := 2, maxLocals := 3, code := prog_51_method_5_code, exceptionTable := #[], attributes := #[] }
def k2m1 : Method := { name := "equals", desc := "(Ljava/lang/Object;)Z", sig := { parameters := [(.object "java/lang/Object")], returnType := some .boolean }, accessFlags := 1, code := some k2c1 }
/-- com/example/ludus/ludus/PackingTask$Good -/
def k2 : Class := { plain "com/example/ludus/ludus/PackingTask$Good" (some 0) with
  accessFlags := 48
  interfaces := #[]
  cf := some (fileOf pool2 8 #[.nestHost 48] #[{ accessFlags := 0, nameIndex := 5, descriptorIndex := 35, attributes := #[] }, { accessFlags := 1, nameIndex := 39, descriptorIndex := 40, attributes := #[] }] 48 2 #[] #[{ accessFlags := 18, nameIndex := 11, descriptorIndex := 12, attributes := #[] }, { accessFlags := 18, nameIndex := 15, descriptorIndex := 12, attributes := #[] }, { accessFlags := 18, nameIndex := 18, descriptorIndex := 12, attributes := #[] }])
  fields := #[{ name := "width", type := .int, accessFlags := 18, slot := 0, constantValue := 0 }, { name := "height", type := .int, accessFlags := 18, slot := 1, constantValue := 0 }, { name := "value", type := .int, accessFlags := 18, slot := 2, constantValue := 0 }]
  methods := #[k2m0, k2m1]
  instanceTypes := #[.int, .int, .int]
  staticTypes := #[]
  resolved := Array.replicate 66 none
  statics := none }

def pool3 : Array CpInfo := pool [(1, .methodref 2 3), (0, .class_ 4), (0, .nameAndType 5 6), (0, u "java/lang/Object"), (0, u "<init>"), (0, u "()V"), (0, .fieldref 8 9), (0, .class_ 10), (0, .nameAndType 11 12), (0, u "com/example/ludus/ludus/PackingTask$Bag"), (0, u "width"), (0, u "I"), (0, .fieldref 8 14), (0, .nameAndType 15 12), (0, u "height"), (16, u "(II)V"), (12, .class_ 46), (0, u "com/example/ludus/ludus/PackingTask")] 16

def k3c0 : Code := { maxStack := 2, maxLocals := 3, code := prog_50_method_1_code, exceptionTable := #[], attributes := #[] }
def k3m0 : Method := { name := "<init>", desc := "(II)V", sig := { parameters := [.int, .int], returnType := none }, accessFlags := 0, code := some k3c0 }
/-- com/example/ludus/ludus/PackingTask$Bag -/
def k3 : Class := { plain "com/example/ludus/ludus/PackingTask$Bag" (some 0) with
  accessFlags := 48
  interfaces := #[]
  cf := some (fileOf pool3 8 #[.nestHost 45] #[{ accessFlags := 0, nameIndex := 5, descriptorIndex := 32, attributes := #[] }] 48 2 #[] #[{ accessFlags := 18, nameIndex := 11, descriptorIndex := 12, attributes := #[] }, { accessFlags := 18, nameIndex := 15, descriptorIndex := 12, attributes := #[] }])
  fields := #[{ name := "width", type := .int, accessFlags := 18, slot := 0, constantValue := 0 }, { name := "height", type := .int, accessFlags := 18, slot := 1, constantValue := 0 }]
  methods := #[k3m0]
  instanceTypes := #[.int, .int]
  staticTypes := #[]
  resolved := Array.replicate 63 none
  statics := none }

def pool4 : Array CpInfo := pool [(1, u "java/lang/Cloneable"), (0, .class_ 1), (0, u "java/lang/Object"), (0, .class_ 3)] 3

/-- java/lang/Cloneable -/
def k4 : Class := { plain "java/lang/Cloneable" (some 0) with
  accessFlags := 1537
  interfaces := #[]
  cf := some (fileOf pool4 2 #[] #[] 1537 4 #[] #[])
  fields := #[]
  methods := #[]
  instanceTypes := #[]
  staticTypes := #[]
  resolved := Array.replicate 8 none
  statics := none }

def pool5 : Array CpInfo := pool [(1, u "java/io/Serializable"), (0, .class_ 1), (0, u "java/lang/Object"), (0, .class_ 3)] 3

/-- java/io/Serializable -/
def k5 : Class := { plain "java/io/Serializable" (some 0) with
  accessFlags := 1537
  interfaces := #[]
  cf := some (fileOf pool5 2 #[] #[] 1537 4 #[] #[])
  fields := #[]
  methods := #[]
  instanceTypes := #[]
  staticTypes := #[]
  resolved := Array.replicate 8 none
  statics := none }

/-- the primitive byte -/
def k6 : Class := { plain "byte" none with kind := .primitive 'B', accessFlags := 0x411 }
/-- [B -/
def k7 : Class := { plain "[B" (some 0) with kind := .array 6 .byte, interfaces := #[4, 5], accessFlags := 1041 }

/-- the primitive int -/
def k8 : Class := { plain "int" none with kind := .primitive 'I', accessFlags := 0x411 }
/-- [I -/
def k9 : Class := { plain "[I" (some 0) with kind := .array 8 .int, interfaces := #[4, 5], accessFlags := 1041 }

def heap : Heap := #[]
def classes : Array Class := #[k0, k1, k2, k3, k4, k5, k6, k7, k8, k9]
def interned : List (Array UInt16 × Addr) := []
def slotsUsed : Nat := 0
def theMethod : MethodId := ⟨1, 1⟩
def args0 : Array Value := #[.int 5, .int 9, .int 3, .int 4, .int 1]
def aboutOver (below : List Frame) : State where
  vm := { classes := classes, interned := interned.toArray }
  heap := heap
  slotsUsed := slotsUsed
  threads := #[{ frames := .invoking theMethod args0 :: below }]
def below0 : List Frame := [.native { method := ⟨0, 0⟩, args := #[] }]
def about1 : State := aboutOver below0
def p0 : Program := .bare "" "" ""
def e0 : Env := launch0.env 0 0 0
theorem w_frames : about1.frames = Frame.invoking theMethod args0 :: below0 := rfl
set_option maxRecDepth 65536 in
theorem w_args : argsFit about1.vm theMethod args0 = true := by decide +kernel
set_option maxRecDepth 65536 in
theorem w_heap : heapFits about1 = true := by decide +kernel
set_option maxRecDepth 65536 in
theorem w_runnable : about1.curStatus? = some .runnable := by decide +kernel
set_option maxRecDepth 65536 in
theorem w_alone : about1.alone = true := by decide +kernel
set_option maxRecDepth 65536 in
theorem w_named : about1.methodNamed? x = some theMethod := by decide +kernel
set_option maxRecDepth 65536 in
theorem w_hears : about1.hears theMethod below0 = true := by decide +kernel
set_option maxRecDepth 65536 in
theorem w_ripe : about1.ripe theMethod args0 below0 = true := by decide +kernel
theorem w_running : about1.status = .running := rfl
set_option maxRecDepth 65536 in
theorem w_room : about1.hasRoom e0.platform room_1 = true :=
  launch0.hasRoom_least _ room_1 (by decide +kernel) (by decide +kernel) (by decide +kernel) (by decide +kernel) (by decide +kernel) (by decide +kernel)
theorem allAtoms_all (ts : List Jvm.Cond) (a : Array Jvm.Value) (st : Jvm.State) : (allAtoms ts).before a st = ts.all (fun c => c.before a st) := by
  induction ts with
  | nil => rfl
  | cons c t ih =>
    show (Jvm.Cond.and c (allAtoms t)).before a st = _
    rw [Jvm.Cond.before_and, ih, List.all_cons]
def words1 : List Jvm.Cond := Jvm.Cond.code x code maxLocals ret :: tables_1
/-- a 'code' word, met by the world's own term for the bytes: nothing is compared byte by byte -/
theorem code_word {y : MethodName} {bytes : ByteArray} {mx : Nat} {rt : Option FieldType} {a : Array Value} {s : State} {m : MethodId} {meth : Method} {c : Code} (h1 : s.methodNamed? y = some m) (h2 : s.vm.method? m = some meth) (h3 : meth.code = some c) (h4 : c.code = bytes)
    (h5 : (c.maxLocals == mx && c.exceptionTable.isEmpty && decide (c.maxStack ≤ mostOperands) && decide (meth.sig.returnType = rt) && !meth.locks && decide (parseMethodDescriptor y.desc = some meth.sig)) = true) : (Jvm.Cond.code y bytes mx rt).before a s = true := by
  simp only [Bool.and_eq_true, beq_iff_eq, Bool.not_eq_true', decide_eq_true_eq] at h5
  obtain ⟨⟨⟨⟨⟨g1, g2⟩, g3⟩, g4⟩, g5⟩, g6⟩ := h5
  simp [Cond.before, Cond.holds, Cond.value, h1, h2, h3, h4, g1, g2, g3, g4, g5, g6]
def isCode : Jvm.Cond → Bool
  | .code _ _ _ _ => true
  | _ => false
theorem all_split {L : List Jvm.Cond} {P : Jvm.Cond → Bool} (h1 : L.all (fun c => isCode c || P c) = true) (h2 : ∀ c ∈ L.filter isCode, P c = true) : L.all P = true := by
  refine List.all_eq_true.mpr fun c hc => ?_
  have h := List.all_eq_true.mp h1 c hc
  rcases Bool.eq_false_or_eq_true (isCode c) with hi | hi
  · exact h2 c (List.mem_filter.mpr ⟨hc, hi⟩)
  · simpa [hi] using h
set_option maxRecDepth 65536 in
theorem w_c0 : (Jvm.Cond.code x code maxLocals ret).before args0 about1 = true := code_word (m := ⟨1, 1⟩) (meth := k1m1) (c := k1c1) (by decide +kernel) rfl rfl rfl (by decide +kernel)
set_option maxRecDepth 65536 in
theorem w_c1 : (Jvm.Cond.code ({ cls := "com/example/ludus/ludus/PackingTask$Good", name := "<init>", desc := "(III)V" } : Jvm.MethodName) prog_51_method_1_code (4 : Nat) (Option.none : Option Jvm.ClassFile.FieldType)).before args0 about1 = true := code_word (m := ⟨2, 0⟩) (meth := k2m0) (c := k2c0) (by decide +kernel) rfl rfl rfl (by decide +kernel)
set_option maxRecDepth 65536 in
theorem w_c2 : (Jvm.Cond.code ({ cls := "java/lang/Object", name := "<init>", desc := "()V" } : Jvm.MethodName) object_method_1_code (1 : Nat) (Option.none : Option Jvm.ClassFile.FieldType)).before args0 about1 = true := code_word (m := ⟨0, 0⟩) (meth := k0m0) (c := k0c0) (by decide +kernel) rfl rfl rfl (by decide +kernel)
set_option maxRecDepth 65536 in
theorem w_c3 : (Jvm.Cond.code ({ cls := "com/example/ludus/ludus/PackingTask$Bag", name := "<init>", desc := "(II)V" } : Jvm.MethodName) prog_50_method_1_code (3 : Nat) (Option.none : Option Jvm.ClassFile.FieldType)).before args0 about1 = true := code_word (m := ⟨3, 0⟩) (meth := k3m0) (c := k3c0) (by decide +kernel) rfl rfl rfl (by decide +kernel)
set_option maxRecDepth 65536 in
theorem w_c4 : (Jvm.Cond.code ({ cls := "com/example/ludus/ludus/PackingTask$Good", name := "equals", desc := "(Ljava/lang/Object;)Z" } : Jvm.MethodName) prog_51_method_5_code (3 : Nat) (Option.some Jvm.ClassFile.FieldType.boolean)).before args0 about1 = true := code_word (m := ⟨2, 1⟩) (meth := k2m1) (c := k2c1) (by decide +kernel) rfl rfl rfl (by decide +kernel)
def codes1 : List Jvm.Cond := [Jvm.Cond.code x code maxLocals ret, Jvm.Cond.code ({ cls := "com/example/ludus/ludus/PackingTask$Good", name := "<init>", desc := "(III)V" } : Jvm.MethodName) prog_51_method_1_code (4 : Nat) (Option.none : Option Jvm.ClassFile.FieldType), Jvm.Cond.code ({ cls := "java/lang/Object", name := "<init>", desc := "()V" } : Jvm.MethodName) object_method_1_code (1 : Nat) (Option.none : Option Jvm.ClassFile.FieldType), Jvm.Cond.code ({ cls := "com/example/ludus/ludus/PackingTask$Bag", name := "<init>", desc := "(II)V" } : Jvm.MethodName) prog_50_method_1_code (3 : Nat) (Option.none : Option Jvm.ClassFile.FieldType), Jvm.Cond.code ({ cls := "com/example/ludus/ludus/PackingTask$Good", name := "equals", desc := "(Ljava/lang/Object;)Z" } : Jvm.MethodName) prog_51_method_5_code (3 : Nat) (Option.some Jvm.ClassFile.FieldType.boolean)]
set_option maxRecDepth 65536 in
theorem codes_eq : words1.filter isCode = codes1 := rfl
theorem w_codes : ∀ c ∈ words1.filter isCode, c.before args0 about1 = true := by
  rw [codes_eq]
  intro c hc
  simp only [codes1, List.mem_cons, List.not_mem_nil, or_false] at hc
  rcases hc with rfl | rfl | rfl | rfl | rfl
  · exact w_c0
  · exact w_c1
  · exact w_c2
  · exact w_c3
  · exact w_c4
set_option maxRecDepth 65536 in
theorem w_t1 : (words1.take 24).all (fun c => isCode c || c.before args0 about1) = true := by decide +kernel
set_option maxRecDepth 65536 in
theorem w_t2 : (words1.drop 24).all (fun c => isCode c || c.before args0 about1) = true := by decide +kernel
theorem w_tables : (allAtoms (Jvm.Cond.code x code maxLocals ret :: tables_1)).before args0 about1 = true := by
  rw [allAtoms_all]
  show words1.all (fun c => c.before args0 about1) = true
  refine all_split ?_ w_codes
  rw [← List.take_append_drop 24 words1, List.all_append, w_t1, w_t2]
  rfl
set_option maxRecDepth 65536 in
theorem w_case : (Jvm.Cond.and given_1 narrow_1).before args0 about1 = true := by decide +kernel
theorem w_applies : (headSpec (Jvm.Cond.code x code maxLocals ret :: tables_1) room_1).applies x e0.platform about1 = true :=
  (Spec.applies_iff w_frames).mpr ⟨w_running, w_runnable, w_alone, w_named, w_hears, w_ripe, w_room, w_tables⟩
theorem atStart : AtStart classFile x code maxLocals ret World_1 tables_1 room_1 Calls_1 rest_1 Pre_1 launch0 p0 e0 about1 theMethod args0 below0 :=
  ⟨lists_1, trivial, launch0.admits_env _ _ _, launch0.least_env, fairChoices_fair.cas, fairChoices_fair.clock, w_frames, w_args, w_heap, w_applies, trivial, trivial, w_case⟩
end start1
theorem witness_1 : WitnessClaimed_1 := ⟨start1.p0, start1.e0, start1.about1, start1.theMethod, start1.args0, start1.below0, start1.atStart⟩
end Jvm.Pilot.@@N@@
