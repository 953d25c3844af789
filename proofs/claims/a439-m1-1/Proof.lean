import JvmDerived
import JvmDerived.Pilot.@@N@@Statement
import JvmDerived.Pilot.@@N@@Code
set_option linter.unusedVariables false
set_option linter.unusedSimpArgs false
namespace Jvm.RoadKit
open Sem ClassFile Op Lib Jvm.Stand Jvm.Free Jvm.LawKit
section New
variable {p : Program} {l : Launch} {e : Env} {R : Room} {s : State} {m : MethodId} {args : Array Value} {below : List Frame} {meth : Method} {c : Code} {T : State} {locs : List Loc} {cells slots : Nat}
theorem retI (X : Stand p l e R s m args below meth c T locs cells slots) (hx : p.tables.exec = Jvm.exec) {pc : Nat} {Ls : Array Slot} {z : Int32} {rest : List Value} (hret : meth.sig.returnType = some .int) (hd : decode c.code pc = .ok (.ireturn, 1)) {fs : List Frame}
    (hl : ∀ (f : JFrame) (acts : List Action), f.method = m → f.locked = none → f.entered = [] → (doReturn e (T.setTop f) acts (some (.int z))).1 = T.setFrames fs) : Steps p.tables e below (T.setTop (mkF m pc Ls (.int z :: rest))) (T.setFrames fs) := by
  have hm' : T.vm.method? m = some meth := X.method'
  have hn : narrow .int (.int z) = .int z := rfl
  show Steps p.tables e below (T.setTop { method := m, pc := pc, locals := Ls, stack := _ :: rest, locked := none }) _
  jvm_step X.here [X.here.top, hx, hd, hm', hret, hn]
  first | (intro acts; rw [hl _ acts rfl rfl rfl]) | rw [hl _ _ rfl rfl rfl]
  exact Steps.refl _
theorem retJ (X : Stand p l e R s m args below meth c T locs cells slots) (hx : p.tables.exec = Jvm.exec) {pc : Nat} {Ls : Array Slot} {z : Int64} {rest : List Value} (hret : meth.sig.returnType = some .long) (hd : decode c.code pc = .ok (.lreturn, 1)) {fs : List Frame}
    (hl : ∀ (f : JFrame) (acts : List Action), f.method = m → f.locked = none → f.entered = [] → (doReturn e (T.setTop f) acts (some (.long z))).1 = T.setFrames fs) : Steps p.tables e below (T.setTop (mkF m pc Ls (.long z :: rest))) (T.setFrames fs) := by
  have hm' : T.vm.method? m = some meth := X.method'
  have hn : narrow .long (.long z) = .long z := rfl
  show Steps p.tables e below (T.setTop { method := m, pc := pc, locals := Ls, stack := _ :: rest, locked := none }) _
  jvm_step X.here [X.here.top, hx, hd, hm', hret, hn, narrow]
  first | (intro acts; rw [hl _ acts rfl rfl rfl]) | rw [hl _ _ rfl rfl rfl]
  exact Steps.refl _
theorem retR (X : Stand p l e R s m args below meth c T locs cells slots) (hx : p.tables.exec = Jvm.exec) {pc : Nat} {Ls : Array Slot} {z : Addr} {rest : List Value} {ty : FieldType} (hret : meth.sig.returnType = some ty) (hty : ty.isReference = true) (hd : decode c.code pc = .ok (.areturn, 1)) {fs : List Frame}
    (hl : ∀ (f : JFrame) (acts : List Action), f.method = m → f.locked = none → f.entered = [] → (doReturn e (T.setTop f) acts (some (.ref z))).1 = T.setFrames fs) : Steps p.tables e below (T.setTop (mkF m pc Ls (.ref z :: rest))) (T.setFrames fs) := by
  have hm' : T.vm.method? m = some meth := X.method'
  show Steps p.tables e below (T.setTop { method := m, pc := pc, locals := Ls, stack := _ :: rest, locked := none }) _
  jvm_step X.here [X.here.top, hx, hd, hm', hret, hty, Value.isRef]
  first | (intro acts; rw [hl _ acts rfl rfl rfl]) | rw [hl _ _ rfl rfl rfl]
  exact Steps.refl _
theorem lremM {tb : Tables} [Ours tb] {target : State} {g : JFrame} (h : At T m c below) (hx : tb.exec = Jvm.exec) (hg : g.method = m) {x y : Int64} {rest : List Value} (hd : decode c.code g.pc = .ok (.lrem, 1)) (hs : g.stack = .long y :: .long x :: rest) (hy : y ≠ 0)
    (hr : Steps tb e below (T.setTop { g with pc := g.pc + 1, stack := .long (x % y) :: rest }) target) : Steps tb e below (T.setTop g) target := by
  rw [← lrem_mod] at hr
  exact XS.lrem h hx hg hd hs hy hr
end New
end Jvm.RoadKit
namespace Jvm.Pilot.@@N@@
open Jvm Jvm.ClassFile Sem Op Lib Jvm.Free Jvm.Stand Jvm.LawKit Jvm.RoadKit Bundle Jvm.Pilot.@@N@@.Jvm.D
/-- a Java boolean -/
def bI (P : Prop) [Decidable P] : Int32 := if P then 1 else 0
theorem bI_pos {P : Prop} [Decidable P] (h : P) : bI P = (1 : Int32) := if_pos h
theorem bI_neg {P : Prop} [Decidable P] (h : ¬ P) : bI P = (0 : Int32) := if_neg h
theorem bI_0 {P : Prop} [Decidable P] (h : ¬ P) : bI P = 0 := if_neg h
theorem bI_ne0 {P : Prop} [Decidable P] (h : P) : ¬ bI P = 0 := by rw [bI_pos h]; decide
theorem bI_iff {P Q : Prop} [Decidable P] [Decidable Q] : bI P = bI Q ↔ (P ↔ Q) := by
  by_cases p : P <;> by_cases q : Q <;> simp [bI, p, q]
theorem nar_0 : nar .boolean (0 : Int32) = 0 := by decide
theorem nar_1 : nar .boolean (1 : Int32) = 1 := by decide
theorem nar_bI (P : Prop) [Decidable P] : nar .boolean (bI P) = bI P := by by_cases p : P <;> simp [bI, p] <;> decide
/-- the run from st ends, and Q holds of what it returns and leaves -/
def OG (p : Program) (e : Env) (below : List Frame) (s : State) (Q : Option Value → Heap → List Loc → Prop) (cc ss : Nat) (st : State) : Prop :=
  ∃ s₂ o, Steps p.tables e below st s₂ ∧ s₂.status = .running ∧ Ended s₂ below o ∧ ∃ v L, o = .returned v ∧ Q v s₂.heap L ∧ FrameEnd s o s₂ L cc ss
section Out
variable {p : Program} {l : Launch} {e : Env} {R : Room} {s : State} {m : MethodId} {args : Array Value} {below : List Frame} {meth : Method} {c : Code} {T : State} {locs : List Loc} {cells slots : Nat} {Q : Option Value → Heap → List Loc → Prop} {cc ss : Nat} {h : Heap}
theorem OG.step {st st' : State} (h : ∀ t, Steps p.tables e below st' t → Steps p.tables e below st t) (g : OG p e below s Q cc ss st') : OG p e below s Q cc ss st := by
  obtain ⟨s₂, o, h1, r⟩ := g
  exact ⟨s₂, o, h _ h1, r⟩
theorem OG.out (X : Stand p l e R s m args below meth c T locs cells slots) {v : Option Value} (hv : meth.sig.returnType = none → v = none) (hlk : meth.locks = false) {g : JFrame} (eT : T.heap = h)
    (hs : ∀ fs, (∀ (f : JFrame) (acts : List Action), f.method = m → f.locked = none → f.entered = [] → (doReturn e (T.setTop f) acts v).1 = T.setFrames fs) → Steps p.tables e below (T.setTop g) (T.setFrames fs))
    (hQ : Q v h locs) (hc : cells ≤ cc) (hl : slots ≤ ss) : OG p e below s Q cc ss (T.setTop g) := by
  obtain ⟨fs, hr, hrun, hended, hW, hsame⟩ := X.leave (v := v) hv hlk
  exact ⟨_, _, hs fs hr, hrun, hended, _, _, rfl, by show Q v T.heap locs; rw [eT]; exact hQ, ⟨_, rfl⟩, hW, hsame.mono hc hl⟩
theorem OG.retV (X : Stand p l e R s m args below meth c T locs cells slots) (hx : p.tables.exec = Jvm.exec) (hlk : meth.locks = false) (hret : meth.sig.returnType = none) {pc : Nat} {Ls : Array Slot} (hd : decode c.code pc = .ok (.return_, 1)) (eT : T.heap = h) (hQ : Q none h locs) (hc : cells ≤ cc) (hl : slots ≤ ss) : OG p e below s Q cc ss (T.setTop (mkF m pc Ls [])) :=
  OG.out X (fun _ => rfl) hlk eT (fun _ hr => X.returnOut hx hret hd hr) hQ hc hl
theorem OG.retI (X : Stand p l e R s m args below meth c T locs cells slots) (hx : p.tables.exec = Jvm.exec) (hlk : meth.locks = false) (hret : meth.sig.returnType = some .int) {pc : Nat} {Ls : Array Slot} {z : Int32} {rest : List Value} (hd : decode c.code pc = .ok (.ireturn, 1)) (eT : T.heap = h) (hQ : Q (some (.int z)) h locs) (hc : cells ≤ cc) (hl : slots ≤ ss) : OG p e below s Q cc ss (T.setTop (mkF m pc Ls (.int z :: rest))) :=
  OG.out X (fun h => by rw [hret] at h; cases h) hlk eT (fun _ hr => Jvm.RoadKit.retI X hx hret hd hr) hQ hc hl
theorem OG.retJ (X : Stand p l e R s m args below meth c T locs cells slots) (hx : p.tables.exec = Jvm.exec) (hlk : meth.locks = false) (hret : meth.sig.returnType = some .long) {pc : Nat} {Ls : Array Slot} {z : Int64} {rest : List Value} (hd : decode c.code pc = .ok (.lreturn, 1)) (eT : T.heap = h) (hQ : Q (some (.long z)) h locs) (hc : cells ≤ cc) (hl : slots ≤ ss) : OG p e below s Q cc ss (T.setTop (mkF m pc Ls (.long z :: rest))) :=
  OG.out X (fun h => by rw [hret] at h; cases h) hlk eT (fun _ hr => Jvm.RoadKit.retJ X hx hret hd hr) hQ hc hl
theorem OG.retR (X : Stand p l e R s m args below meth c T locs cells slots) (hx : p.tables.exec = Jvm.exec) (hlk : meth.locks = false) {ty : FieldType} (hret : meth.sig.returnType = some ty) (hty : ty.isReference = true) {pc : Nat} {Ls : Array Slot} {z : Addr} {rest : List Value} (hd : decode c.code pc = .ok (.areturn, 1)) (eT : T.heap = h) (hQ : Q (some (.ref z)) h locs) (hc : cells ≤ cc) (hl : slots ≤ ss) : OG p e below s Q cc ss (T.setTop (mkF m pc Ls (.ref z :: rest))) :=
  OG.out X (fun h => by rw [hret] at h; cases h) hlk eT (fun _ hr => Jvm.RoadKit.retR X hx hret hty hd hr) hQ hc hl
theorem OG.retZ (X : Stand p l e R s m args below meth c T locs cells slots) (hx : p.tables.exec = Jvm.exec) (hlk : meth.locks = false) (hret : meth.sig.returnType = some .boolean) {pc : Nat} {Ls : Array Slot} {z z' : Int32} {rest : List Value} (hd : decode c.code pc = .ok (.ireturn, 1)) (hz : nar .boolean z = z') (eT : T.heap = h) (hQ : Q (some (.int z')) h locs) (hc : cells ≤ cc) (hl : slots ≤ ss) : OG p e below s Q cc ss (T.setTop (mkF m pc Ls (.int z :: rest))) := by
  subst hz
  exact OG.out X (fun h => by rw [hret] at h; cases h) hlk eT (fun _ hr => retN X hx (t := .boolean) hret (by simp) hd hr) hQ hc hl
end Out
def own_m1 (z : Int64) : Int64 := (z ^^^ ((z.toUInt64 >>> ((30 : Int32) &&& 0x3f).toInt64.toUInt64).toInt64)) * (-4658895280553007687 : Int64)
def own_m2 (z : Int64) : Int64 := (z ^^^ ((z.toUInt64 >>> ((27 : Int32) &&& 0x3f).toInt64.toUInt64).toInt64)) * (-7723592293110705685 : Int64)
def own_m3 (z : Int64) : Int64 := z ^^^ ((z.toUInt64 >>> ((31 : Int32) &&& 0x3f).toInt64.toUInt64).toInt64)
def own_mix (z : Int64) : Int64 := own_m3 (own_m2 (own_m1 z))
theorem d1_0 : decode prog_63_method_1_code 0 = .ok (.aload_n 0, 1) := by decide +kernel
theorem d1_1 : decode prog_63_method_1_code 1 = .ok (.invokespecial 1, 3) := by decide +kernel
theorem d1_4 : decode prog_63_method_1_code 4 = .ok (.aload_n 0, 1) := by decide +kernel
theorem d1_5 : decode prog_63_method_1_code 5 = .ok (.lload_n 1, 1) := by decide +kernel
theorem d1_6 : decode prog_63_method_1_code 6 = .ok (.putfield 7, 3) := by decide +kernel
theorem d1_9 : decode prog_63_method_1_code 9 = .ok (.return_, 1) := by decide +kernel
theorem pn_com_example_manyflow_manyflow_simulate_SeededRandom : plainName "com/example/manyflow/manyflow/simulate/SeededRandom" = true := by first | (simp [plainName, overriddenIn]; done) | decide +kernel
theorem ef_1 (m : MethodId) (x0 : Addr) (x1 : Int64) : entryFrame m #[(.ref x0), (.long x1)] 3 = mkF m 0 #[.val (.ref x0), .val (.long x1), .second] [] := by first | (simp [entryFrame, mkF, argsToLocals, Value.category]; done) | rfl
def Q1 (Z : State) (a1 : Addr) (q1 : Int64) (u1 : Value) (h0 : Heap) (n0 : Nat) (v : Option Value) (h : Heap) (L : List Loc) : Prop := (v = none) ∧ (Fr n0 L) ∧ (Keep h0 h [a1]) ∧ (Fld Z h a1 "com/example/manyflow/manyflow/simulate/SeededRandom" "state" "J" (.long q1))
abbrev rom_1 : Room := { frames := 1, cells := 0, slots := 0, locals := 12 }
set_option maxRecDepth 65536 in
set_option maxHeartbeats 40000000 in
theorem rm1 (l : Launch) (Z : State) (a0 : Array Value) (hw : ∀ d ∈ tables_1, d.before a0 Z = true) (ws : List Jvm.Cond) (a1 : Addr) (q1 : Int64) (u1 : Value) (h0 : Heap) (n0 : Nat) (Z0 : n0 ≤ h0.size) (F0_a1 : Exa Z h0 a1 "com/example/manyflow/manyflow/simulate/SeededRandom") (F1_a1_state : Fld Z h0 a1 "com/example/manyflow/manyflow/simulate/SeededRandom" "state" "J" u1) (g_a1 : n0 ≤ a1) :
    MetFree l (⟨"com/example/manyflow/manyflow/simulate/SeededRandom", "<init>", "(J)V"⟩ : MethodName) (head1 (Jvm.Cond.code (⟨"com/example/manyflow/manyflow/simulate/SeededRandom", "<init>", "(J)V"⟩ : MethodName) prog_63_method_1_code 3 none :: ws) rom_1) (fun a U => a = #[(.ref a1), (.long q1)] ∧ Z.Warmed39 U.vm ∧ U.heap = h0) (fun _ _ _ _ _ => True) (fun _ U o U' => ∃ v L, o = .returned v ∧ Q1 Z a1 q1 u1 h0 n0 v U'.heap L ∧ FrameEnd U o U' L rom_1.cells rom_1.slots) := by
  refine MetFree.of_bodySF (plainFor_of_name pn_com_example_manyflow_manyflow_simulate_SeededRandom) hisR ?_
  intro p e s m args below meth c s₁ Bd hml0 hP hK
  obtain ⟨rfl, hZ, hh⟩ := hP
  have hx := Bd.exec
  have hby := Bd.bytes
  have hlk := Bd.notSynchronized
  have hml : c.maxLocals = 3 := hml0
  have hown : s.vm.findClass "com/example/manyflow/manyflow/simulate/SeededRandom" = some m.cls := findClass_of_methodNamed Bd.named
  have hnm := (name_of_methodNamed Bd.named Bd.method).1
  have X0 : Stand p l e rom_1 s m #[(.ref a1), (.long q1)] below meth c s₁ [] 0 0 := Stand.of_body Bd
  have e0 : s₁.heap = h0 := by rw [← hh, Bd.state]; rfl
  have N0 := Fr.nil n0
  have K0 : Keep h0 h0 [a1] := Keep.refl _ _
  refine (?_ : OG p e below s (Q1 Z a1 q1 u1 h0 n0) rom_1.cells rom_1.slots _)
  rw [ef_1]
  have s1 : ∀ tz, Steps p.tables e below (s₁.setTop (mkF m 1 #[.val (.ref a1), .val (.long q1), .second] [(.ref a1)])) tz → Steps p.tables e below (s₁.setTop (mkF m 0 #[.val (.ref a1), .val (.long q1), .second] [])) tz := by
    intro tz kz
    refine XS.aloadN X0.here hx rfl (hb hby d1_0) rfl rfl ?_
    exact kz
  refine OG.step s1 ?_
  obtain ⟨T2, X2, e2, st2⟩ := initO X0 hx hZ hown (hw _ (List.mem_of_getElem? (i := 6) rfl)) (hw _ (List.mem_of_getElem? (i := 7) rfl)) (hw _ (List.mem_of_getElem? (i := 8) rfl)) e0 (g := (mkF m 1 #[.val (.ref a1), .val (.long q1), .second] [(.ref a1)])) rfl (by rw [hml]; rfl) rfl (hb hby d1_1) (by decide) (W := 0) (by show 2 * 0 + _ ≤ _; exact Nat.le_of_eq rfl) (by decide)
  refine OG.step st2 ?_
  show OG _ _ _ _ _ _ _ (T2.setTop (mkF m 4 #[.val (.ref a1), .val (.long q1), .second] []))
  have s3 : ∀ tz, Steps p.tables e below (T2.setTop (mkF m 6 #[.val (.ref a1), .val (.long q1), .second] [(.long q1), (.ref a1)])) tz → Steps p.tables e below (T2.setTop (mkF m 4 #[.val (.ref a1), .val (.long q1), .second] [])) tz := by
    intro tz kz
    refine XS.aloadN X2.here hx rfl (hb hby d1_4) rfl rfl ?_
    show Steps p.tables e below (T2.setTop (mkF m 5 #[.val (.ref a1), .val (.long q1), .second] [(.ref a1)])) _
    refine XS.lloadN X2.here hx rfl (hb hby d1_5) rfl ?_
    exact kz
  refine OG.step s3 ?_
  obtain ⟨T4, h4, X4, e4, W4, st4⟩ := putF X2 hx hZ hown (host := "") (Or.inl (hw _ (List.mem_of_getElem? (i := 9) rfl))) Via.refl e2 F1_a1_state F0_a1 (Or.inl (hw _ (List.mem_of_getElem? (i := 10) rfl))) (hw _ (List.mem_of_getElem? (i := 1) rfl)) (ty := .long) (by decide) rfl rfl (g := (mkF m 6 #[.val (.ref a1), .val (.long q1), .second] [(.long q1), (.ref a1)])) rfl rfl (hb hby d1_6)
  refine OG.step st4 ?_
  have fw4 := F1_a1_state.same W4
  have f5 := F0_a1.wr W4
  have K4 := K0.wr W4 (Or.inl (List.mem_of_getElem? (i := 0) rfl))
  have N4 := Fr.snoc X4 N0 g_a1
  show OG _ _ _ _ _ _ _ (T4.setTop (mkF m 9 #[.val (.ref a1), .val (.long q1), .second] []))
  exact OG.retV X4 hx hlk Bd.returns (hb hby d1_9) e4 ⟨rfl, N4, K4, fw4⟩ (by decide) (by decide)
theorem d3_0 : decode prog_63_method_2_code 0 = .ok (.aload_n 0, 1) := by decide +kernel
theorem d3_1 : decode prog_63_method_2_code 1 = .ok (.dup, 1) := by decide +kernel
theorem d3_2 : decode prog_63_method_2_code 2 = .ok (.getfield 7, 3) := by decide +kernel
theorem d3_5 : decode prog_63_method_2_code 5 = .ok (.ldc2_w 13, 3) := by decide +kernel
theorem d3_8 : decode prog_63_method_2_code 8 = .ok (.ladd, 1) := by decide +kernel
theorem d3_9 : decode prog_63_method_2_code 9 = .ok (.putfield 7, 3) := by decide +kernel
theorem d3_12 : decode prog_63_method_2_code 12 = .ok (.aload_n 0, 1) := by decide +kernel
theorem d3_13 : decode prog_63_method_2_code 13 = .ok (.getfield 7, 3) := by decide +kernel
theorem d3_16 : decode prog_63_method_2_code 16 = .ok (.lstore_n 1, 1) := by decide +kernel
theorem d3_17 : decode prog_63_method_2_code 17 = .ok (.lload_n 1, 1) := by decide +kernel
theorem d3_18 : decode prog_63_method_2_code 18 = .ok (.lload_n 1, 1) := by decide +kernel
theorem d3_19 : decode prog_63_method_2_code 19 = .ok (.bipush 30, 2) := by decide +kernel
theorem d3_21 : decode prog_63_method_2_code 21 = .ok (.lushr, 1) := by decide +kernel
theorem d3_22 : decode prog_63_method_2_code 22 = .ok (.lxor, 1) := by decide +kernel
theorem d3_23 : decode prog_63_method_2_code 23 = .ok (.ldc2_w 15, 3) := by decide +kernel
theorem d3_26 : decode prog_63_method_2_code 26 = .ok (.lmul, 1) := by decide +kernel
theorem d3_27 : decode prog_63_method_2_code 27 = .ok (.lstore_n 1, 1) := by decide +kernel
theorem d3_28 : decode prog_63_method_2_code 28 = .ok (.lload_n 1, 1) := by decide +kernel
theorem d3_29 : decode prog_63_method_2_code 29 = .ok (.lload_n 1, 1) := by decide +kernel
theorem d3_30 : decode prog_63_method_2_code 30 = .ok (.bipush 27, 2) := by decide +kernel
theorem d3_32 : decode prog_63_method_2_code 32 = .ok (.lushr, 1) := by decide +kernel
theorem d3_33 : decode prog_63_method_2_code 33 = .ok (.lxor, 1) := by decide +kernel
theorem d3_34 : decode prog_63_method_2_code 34 = .ok (.ldc2_w 17, 3) := by decide +kernel
theorem d3_37 : decode prog_63_method_2_code 37 = .ok (.lmul, 1) := by decide +kernel
theorem d3_38 : decode prog_63_method_2_code 38 = .ok (.lstore_n 1, 1) := by decide +kernel
theorem d3_39 : decode prog_63_method_2_code 39 = .ok (.lload_n 1, 1) := by decide +kernel
theorem d3_40 : decode prog_63_method_2_code 40 = .ok (.lload_n 1, 1) := by decide +kernel
theorem d3_41 : decode prog_63_method_2_code 41 = .ok (.bipush 31, 2) := by decide +kernel
theorem d3_43 : decode prog_63_method_2_code 43 = .ok (.lushr, 1) := by decide +kernel
theorem d3_44 : decode prog_63_method_2_code 44 = .ok (.lxor, 1) := by decide +kernel
theorem d3_45 : decode prog_63_method_2_code 45 = .ok (.lreturn, 1) := by decide +kernel
theorem ef_3 (m : MethodId) (x0 : Addr) : entryFrame m #[(.ref x0)] 3 = mkF m 0 #[.val (.ref x0), .unset, .unset] [] := by first | (simp [entryFrame, mkF, argsToLocals, Value.category]; done) | rfl
def Q3 (Z : State) (a1 : Addr) (w : Int64) (h0 : Heap) (n0 : Nat) (v : Option Value) (h : Heap) (L : List Loc) : Prop := (v = some (.long (own_mix (w + (-7046029254386353131 : Int64))))) ∧ (Fr n0 L) ∧ (Keep h0 h [a1]) ∧ (Fld Z h a1 "com/example/manyflow/manyflow/simulate/SeededRandom" "state" "J" (.long (w + (-7046029254386353131 : Int64))))
abbrev rom_3 : Room := { frames := 0, cells := 0, slots := 0, locals := 0 }
set_option maxRecDepth 65536 in
set_option maxHeartbeats 40000000 in
theorem rm3 (l : Launch) (Z : State) (a0 : Array Value) (hw : ∀ d ∈ tables_1, d.before a0 Z = true) (ws : List Jvm.Cond) (a1 : Addr) (w : Int64) (h0 : Heap) (n0 : Nat) (Z0 : n0 ≤ h0.size) (F0_a1 : Exa Z h0 a1 "com/example/manyflow/manyflow/simulate/SeededRandom") (F1_a1_state : Fld Z h0 a1 "com/example/manyflow/manyflow/simulate/SeededRandom" "state" "J" (.long w)) (g_a1 : n0 ≤ a1) :
    MetFree l (⟨"com/example/manyflow/manyflow/simulate/SeededRandom", "nextLong", "()J"⟩ : MethodName) (head1 (Jvm.Cond.code (⟨"com/example/manyflow/manyflow/simulate/SeededRandom", "nextLong", "()J"⟩ : MethodName) prog_63_method_2_code 3 (some .long) :: ws) rom_3) (fun a U => a = #[(.ref a1)] ∧ Z.Warmed39 U.vm ∧ U.heap = h0) (fun _ _ _ _ _ => True) (fun _ U o U' => ∃ v L, o = .returned v ∧ Q3 Z a1 w h0 n0 v U'.heap L ∧ FrameEnd U o U' L rom_3.cells rom_3.slots) := by
  refine MetFree.of_bodySF (plainFor_of_name pn_com_example_manyflow_manyflow_simulate_SeededRandom) hisR ?_
  intro p e s m args below meth c s₁ Bd hml0 hP hK
  obtain ⟨rfl, hZ, hh⟩ := hP
  have hx := Bd.exec
  have hby := Bd.bytes
  have hlk := Bd.notSynchronized
  have hml : c.maxLocals = 3 := hml0
  have hown : s.vm.findClass "com/example/manyflow/manyflow/simulate/SeededRandom" = some m.cls := findClass_of_methodNamed Bd.named
  have hnm := (name_of_methodNamed Bd.named Bd.method).1
  have X0 : Stand p l e rom_3 s m #[(.ref a1)] below meth c s₁ [] 0 0 := Stand.of_body Bd
  have e0 : s₁.heap = h0 := by rw [← hh, Bd.state]; rfl
  have N0 := Fr.nil n0
  have K0 : Keep h0 h0 [a1] := Keep.refl _ _
  refine (?_ : OG p e below s (Q3 Z a1 w h0 n0) rom_3.cells rom_3.slots _)
  rw [ef_3]
  have s1 : ∀ tz, Steps p.tables e below (s₁.setTop (mkF m 2 #[.val (.ref a1), .unset, .unset] [(.ref a1), (.ref a1)])) tz → Steps p.tables e below (s₁.setTop (mkF m 0 #[.val (.ref a1), .unset, .unset] [])) tz := by
    intro tz kz
    refine XS.aloadN X0.here hx rfl (hb hby d3_0) rfl rfl ?_
    show Steps p.tables e below (s₁.setTop (mkF m 1 #[.val (.ref a1), .unset, .unset] [(.ref a1)])) _
    refine XS.dup X0.here hx rfl (hb hby d3_1) rfl rfl ?_
    exact kz
  refine OG.step s1 ?_
  obtain ⟨T2, X2, e2, st2⟩ := getF X0 hx hZ hown (host := "") (Or.inl (hw _ (List.mem_of_getElem? (i := 9) rfl))) Via.refl e0 F1_a1_state (g := (mkF m 2 #[.val (.ref a1), .unset, .unset] [(.ref a1), (.ref a1)])) rfl rfl (hb hby d3_2)
  refine OG.step st2 ?_
  show OG _ _ _ _ _ _ _ (T2.setTop (mkF m 5 #[.val (.ref a1), .unset, .unset] [(.long w), (.ref a1)]))
  have s3 : ∀ tz, Steps p.tables e below (T2.setTop (mkF m 9 #[.val (.ref a1), .unset, .unset] [(.long (w + (-7046029254386353131 : Int64))), (.ref a1)])) tz → Steps p.tables e below (T2.setTop (mkF m 5 #[.val (.ref a1), .unset, .unset] [(.long w), (.ref a1)])) tz := by
    intro tz kz
    refine X2.ldc2Long hx hown (mvT hZ (hw _ (List.mem_of_getElem? (i := 16) rfl))) (g := (mkF m 5 #[.val (.ref a1), .unset, .unset] [(.long w), (.ref a1)])) rfl (hb hby d3_5) _ ?_
    show Steps p.tables e below (T2.setTop (mkF m 8 #[.val (.ref a1), .unset, .unset] [(.long (-7046029254386353131 : Int64)), (.long w), (.ref a1)])) _
    refine XS.ladd X2.here hx rfl (hb hby d3_8) rfl ?_
    exact kz
  refine OG.step s3 ?_
  obtain ⟨T4, h4, X4, e4, W4, st4⟩ := putF X2 hx hZ hown (host := "") (Or.inl (hw _ (List.mem_of_getElem? (i := 9) rfl))) Via.refl e2 F1_a1_state F0_a1 (Or.inl (hw _ (List.mem_of_getElem? (i := 10) rfl))) (hw _ (List.mem_of_getElem? (i := 1) rfl)) (ty := .long) (by decide) rfl rfl (g := (mkF m 9 #[.val (.ref a1), .unset, .unset] [(.long (w + (-7046029254386353131 : Int64))), (.ref a1)])) rfl rfl (hb hby d3_9)
  refine OG.step st4 ?_
  have fw4 := F1_a1_state.same W4
  have f5 := F0_a1.wr W4
  have K4 := K0.wr W4 (Or.inl (List.mem_of_getElem? (i := 0) rfl))
  have N4 := Fr.snoc X4 N0 g_a1
  show OG _ _ _ _ _ _ _ (T4.setTop (mkF m 12 #[.val (.ref a1), .unset, .unset] []))
  have s6 : ∀ tz, Steps p.tables e below (T4.setTop (mkF m 13 #[.val (.ref a1), .unset, .unset] [(.ref a1)])) tz → Steps p.tables e below (T4.setTop (mkF m 12 #[.val (.ref a1), .unset, .unset] [])) tz := by
    intro tz kz
    refine XS.aloadN X4.here hx rfl (hb hby d3_12) rfl rfl ?_
    exact kz
  refine OG.step s6 ?_
  obtain ⟨T7, X7, e7, st7⟩ := getF X4 hx hZ hown (host := "") (Or.inl (hw _ (List.mem_of_getElem? (i := 9) rfl))) Via.refl e4 fw4 (g := (mkF m 13 #[.val (.ref a1), .unset, .unset] [(.ref a1)])) rfl rfl (hb hby d3_13)
  refine OG.step st7 ?_
  show OG _ _ _ _ _ _ _ (T7.setTop (mkF m 16 #[.val (.ref a1), .unset, .unset] [(.long (w + (-7046029254386353131 : Int64)))]))
  have s8 : ∀ tz, Steps p.tables e below (T7.setTop (mkF m 45 #[.val (.ref a1), .val (.long (own_m2 (own_m1 (w + (-7046029254386353131 : Int64))))), .second] [(.long ((own_m2 (own_m1 (w + (-7046029254386353131 : Int64)))) ^^^ (((own_m2 (own_m1 (w + (-7046029254386353131 : Int64)))).toUInt64 >>> ((31 : Int32) &&& 0x3f).toInt64.toUInt64).toInt64)))])) tz → Steps p.tables e below (T7.setTop (mkF m 16 #[.val (.ref a1), .unset, .unset] [(.long (w + (-7046029254386353131 : Int64)))])) tz := by
    intro tz kz
    refine XS.lstoreN X7.here hx rfl (hb hby d3_16) rfl (l' := #[.val (.ref a1), .val (.long (w + (-7046029254386353131 : Int64))), .second]) rfl ?_
    show Steps p.tables e below (T7.setTop (mkF m 17 #[.val (.ref a1), .val (.long (w + (-7046029254386353131 : Int64))), .second] [])) _
    refine XS.lloadN X7.here hx rfl (hb hby d3_17) rfl ?_
    show Steps p.tables e below (T7.setTop (mkF m 18 #[.val (.ref a1), .val (.long (w + (-7046029254386353131 : Int64))), .second] [(.long (w + (-7046029254386353131 : Int64)))])) _
    refine XS.lloadN X7.here hx rfl (hb hby d3_18) rfl ?_
    show Steps p.tables e below (T7.setTop (mkF m 19 #[.val (.ref a1), .val (.long (w + (-7046029254386353131 : Int64))), .second] [(.long (w + (-7046029254386353131 : Int64))), (.long (w + (-7046029254386353131 : Int64)))])) _
    refine XS.bipush X7.here hx rfl (hb hby d3_19) ?_
    show Steps p.tables e below (T7.setTop (mkF m 21 #[.val (.ref a1), .val (.long (w + (-7046029254386353131 : Int64))), .second] [(.int (30 : Int32)), (.long (w + (-7046029254386353131 : Int64))), (.long (w + (-7046029254386353131 : Int64)))])) _
    refine XS.lushr X7.here hx rfl (hb hby d3_21) rfl ?_
    show Steps p.tables e below (T7.setTop (mkF m 22 #[.val (.ref a1), .val (.long (w + (-7046029254386353131 : Int64))), .second] [(.long (((w + (-7046029254386353131 : Int64)).toUInt64 >>> ((30 : Int32) &&& 0x3f).toInt64.toUInt64).toInt64)), (.long (w + (-7046029254386353131 : Int64)))])) _
    refine XS.lxor X7.here hx rfl (hb hby d3_22) rfl ?_
    show Steps p.tables e below (T7.setTop (mkF m 23 #[.val (.ref a1), .val (.long (w + (-7046029254386353131 : Int64))), .second] [(.long ((w + (-7046029254386353131 : Int64)) ^^^ (((w + (-7046029254386353131 : Int64)).toUInt64 >>> ((30 : Int32) &&& 0x3f).toInt64.toUInt64).toInt64)))])) _
    refine X7.ldc2Long hx hown (mvT hZ (hw _ (List.mem_of_getElem? (i := 17) rfl))) (g := (mkF m 23 #[.val (.ref a1), .val (.long (w + (-7046029254386353131 : Int64))), .second] [(.long ((w + (-7046029254386353131 : Int64)) ^^^ (((w + (-7046029254386353131 : Int64)).toUInt64 >>> ((30 : Int32) &&& 0x3f).toInt64.toUInt64).toInt64)))])) rfl (hb hby d3_23) _ ?_
    show Steps p.tables e below (T7.setTop (mkF m 26 #[.val (.ref a1), .val (.long (w + (-7046029254386353131 : Int64))), .second] [(.long (-4658895280553007687 : Int64)), (.long ((w + (-7046029254386353131 : Int64)) ^^^ (((w + (-7046029254386353131 : Int64)).toUInt64 >>> ((30 : Int32) &&& 0x3f).toInt64.toUInt64).toInt64)))])) _
    refine XS.lmul X7.here hx rfl (hb hby d3_26) rfl ?_
    show Steps p.tables e below (T7.setTop (mkF m 27 #[.val (.ref a1), .val (.long (w + (-7046029254386353131 : Int64))), .second] [(.long (((w + (-7046029254386353131 : Int64)) ^^^ (((w + (-7046029254386353131 : Int64)).toUInt64 >>> ((30 : Int32) &&& 0x3f).toInt64.toUInt64).toInt64)) * (-4658895280553007687 : Int64)))])) _
    refine XS.lstoreN X7.here hx rfl (hb hby d3_27) rfl (l' := #[.val (.ref a1), .val (.long (own_m1 (w + (-7046029254386353131 : Int64)))), .second]) rfl ?_
    show Steps p.tables e below (T7.setTop (mkF m 28 #[.val (.ref a1), .val (.long (own_m1 (w + (-7046029254386353131 : Int64)))), .second] [])) _
    refine XS.lloadN X7.here hx rfl (hb hby d3_28) rfl ?_
    show Steps p.tables e below (T7.setTop (mkF m 29 #[.val (.ref a1), .val (.long (own_m1 (w + (-7046029254386353131 : Int64)))), .second] [(.long (own_m1 (w + (-7046029254386353131 : Int64))))])) _
    refine XS.lloadN X7.here hx rfl (hb hby d3_29) rfl ?_
    show Steps p.tables e below (T7.setTop (mkF m 30 #[.val (.ref a1), .val (.long (own_m1 (w + (-7046029254386353131 : Int64)))), .second] [(.long (own_m1 (w + (-7046029254386353131 : Int64)))), (.long (own_m1 (w + (-7046029254386353131 : Int64))))])) _
    refine XS.bipush X7.here hx rfl (hb hby d3_30) ?_
    show Steps p.tables e below (T7.setTop (mkF m 32 #[.val (.ref a1), .val (.long (own_m1 (w + (-7046029254386353131 : Int64)))), .second] [(.int (27 : Int32)), (.long (own_m1 (w + (-7046029254386353131 : Int64)))), (.long (own_m1 (w + (-7046029254386353131 : Int64))))])) _
    refine XS.lushr X7.here hx rfl (hb hby d3_32) rfl ?_
    show Steps p.tables e below (T7.setTop (mkF m 33 #[.val (.ref a1), .val (.long (own_m1 (w + (-7046029254386353131 : Int64)))), .second] [(.long (((own_m1 (w + (-7046029254386353131 : Int64))).toUInt64 >>> ((27 : Int32) &&& 0x3f).toInt64.toUInt64).toInt64)), (.long (own_m1 (w + (-7046029254386353131 : Int64))))])) _
    refine XS.lxor X7.here hx rfl (hb hby d3_33) rfl ?_
    show Steps p.tables e below (T7.setTop (mkF m 34 #[.val (.ref a1), .val (.long (own_m1 (w + (-7046029254386353131 : Int64)))), .second] [(.long ((own_m1 (w + (-7046029254386353131 : Int64))) ^^^ (((own_m1 (w + (-7046029254386353131 : Int64))).toUInt64 >>> ((27 : Int32) &&& 0x3f).toInt64.toUInt64).toInt64)))])) _
    refine X7.ldc2Long hx hown (mvT hZ (hw _ (List.mem_of_getElem? (i := 18) rfl))) (g := (mkF m 34 #[.val (.ref a1), .val (.long (own_m1 (w + (-7046029254386353131 : Int64)))), .second] [(.long ((own_m1 (w + (-7046029254386353131 : Int64))) ^^^ (((own_m1 (w + (-7046029254386353131 : Int64))).toUInt64 >>> ((27 : Int32) &&& 0x3f).toInt64.toUInt64).toInt64)))])) rfl (hb hby d3_34) _ ?_
    show Steps p.tables e below (T7.setTop (mkF m 37 #[.val (.ref a1), .val (.long (own_m1 (w + (-7046029254386353131 : Int64)))), .second] [(.long (-7723592293110705685 : Int64)), (.long ((own_m1 (w + (-7046029254386353131 : Int64))) ^^^ (((own_m1 (w + (-7046029254386353131 : Int64))).toUInt64 >>> ((27 : Int32) &&& 0x3f).toInt64.toUInt64).toInt64)))])) _
    refine XS.lmul X7.here hx rfl (hb hby d3_37) rfl ?_
    show Steps p.tables e below (T7.setTop (mkF m 38 #[.val (.ref a1), .val (.long (own_m1 (w + (-7046029254386353131 : Int64)))), .second] [(.long (((own_m1 (w + (-7046029254386353131 : Int64))) ^^^ (((own_m1 (w + (-7046029254386353131 : Int64))).toUInt64 >>> ((27 : Int32) &&& 0x3f).toInt64.toUInt64).toInt64)) * (-7723592293110705685 : Int64)))])) _
    refine XS.lstoreN X7.here hx rfl (hb hby d3_38) rfl (l' := #[.val (.ref a1), .val (.long (own_m2 (own_m1 (w + (-7046029254386353131 : Int64))))), .second]) rfl ?_
    show Steps p.tables e below (T7.setTop (mkF m 39 #[.val (.ref a1), .val (.long (own_m2 (own_m1 (w + (-7046029254386353131 : Int64))))), .second] [])) _
    refine XS.lloadN X7.here hx rfl (hb hby d3_39) rfl ?_
    show Steps p.tables e below (T7.setTop (mkF m 40 #[.val (.ref a1), .val (.long (own_m2 (own_m1 (w + (-7046029254386353131 : Int64))))), .second] [(.long (own_m2 (own_m1 (w + (-7046029254386353131 : Int64)))))])) _
    refine XS.lloadN X7.here hx rfl (hb hby d3_40) rfl ?_
    show Steps p.tables e below (T7.setTop (mkF m 41 #[.val (.ref a1), .val (.long (own_m2 (own_m1 (w + (-7046029254386353131 : Int64))))), .second] [(.long (own_m2 (own_m1 (w + (-7046029254386353131 : Int64))))), (.long (own_m2 (own_m1 (w + (-7046029254386353131 : Int64)))))])) _
    refine XS.bipush X7.here hx rfl (hb hby d3_41) ?_
    show Steps p.tables e below (T7.setTop (mkF m 43 #[.val (.ref a1), .val (.long (own_m2 (own_m1 (w + (-7046029254386353131 : Int64))))), .second] [(.int (31 : Int32)), (.long (own_m2 (own_m1 (w + (-7046029254386353131 : Int64))))), (.long (own_m2 (own_m1 (w + (-7046029254386353131 : Int64)))))])) _
    refine XS.lushr X7.here hx rfl (hb hby d3_43) rfl ?_
    show Steps p.tables e below (T7.setTop (mkF m 44 #[.val (.ref a1), .val (.long (own_m2 (own_m1 (w + (-7046029254386353131 : Int64))))), .second] [(.long (((own_m2 (own_m1 (w + (-7046029254386353131 : Int64)))).toUInt64 >>> ((31 : Int32) &&& 0x3f).toInt64.toUInt64).toInt64)), (.long (own_m2 (own_m1 (w + (-7046029254386353131 : Int64)))))])) _
    refine XS.lxor X7.here hx rfl (hb hby d3_44) rfl ?_
    exact kz
  refine OG.step s8 ?_
  exact OG.retJ X7 hx hlk Bd.returns (hb hby d3_45) e7 ⟨rfl, N4, K4, fw4⟩ (by decide) (by decide)
def own_nw (c x : Int64) : Int64 := x * ((2 : Int64) - c * x)
def own_inv (c : Int64) : Int64 := (own_nw c (own_nw c (own_nw c (own_nw c (own_nw c (own_nw c c))))))
theorem d4_0 : decode method_2_code 0 = .ok (.lload_n 0, 1) := by decide +kernel
theorem d4_1 : decode method_2_code 1 = .ok (.lstore_n 2, 1) := by decide +kernel
theorem d4_2 : decode method_2_code 2 = .ok (.lload_n 2, 1) := by decide +kernel
theorem d4_3 : decode method_2_code 3 = .ok (.ldc2_w 7, 3) := by decide +kernel
theorem d4_6 : decode method_2_code 6 = .ok (.lload_n 0, 1) := by decide +kernel
theorem d4_7 : decode method_2_code 7 = .ok (.lload_n 2, 1) := by decide +kernel
theorem d4_8 : decode method_2_code 8 = .ok (.lmul, 1) := by decide +kernel
theorem d4_9 : decode method_2_code 9 = .ok (.lsub, 1) := by decide +kernel
theorem d4_10 : decode method_2_code 10 = .ok (.lmul, 1) := by decide +kernel
theorem d4_11 : decode method_2_code 11 = .ok (.lstore_n 2, 1) := by decide +kernel
theorem d4_12 : decode method_2_code 12 = .ok (.lload_n 2, 1) := by decide +kernel
theorem d4_13 : decode method_2_code 13 = .ok (.ldc2_w 7, 3) := by decide +kernel
theorem d4_16 : decode method_2_code 16 = .ok (.lload_n 0, 1) := by decide +kernel
theorem d4_17 : decode method_2_code 17 = .ok (.lload_n 2, 1) := by decide +kernel
theorem d4_18 : decode method_2_code 18 = .ok (.lmul, 1) := by decide +kernel
theorem d4_19 : decode method_2_code 19 = .ok (.lsub, 1) := by decide +kernel
theorem d4_20 : decode method_2_code 20 = .ok (.lmul, 1) := by decide +kernel
theorem d4_21 : decode method_2_code 21 = .ok (.lstore_n 2, 1) := by decide +kernel
theorem d4_22 : decode method_2_code 22 = .ok (.lload_n 2, 1) := by decide +kernel
theorem d4_23 : decode method_2_code 23 = .ok (.ldc2_w 7, 3) := by decide +kernel
theorem d4_26 : decode method_2_code 26 = .ok (.lload_n 0, 1) := by decide +kernel
theorem d4_27 : decode method_2_code 27 = .ok (.lload_n 2, 1) := by decide +kernel
theorem d4_28 : decode method_2_code 28 = .ok (.lmul, 1) := by decide +kernel
theorem d4_29 : decode method_2_code 29 = .ok (.lsub, 1) := by decide +kernel
theorem d4_30 : decode method_2_code 30 = .ok (.lmul, 1) := by decide +kernel
theorem d4_31 : decode method_2_code 31 = .ok (.lstore_n 2, 1) := by decide +kernel
theorem d4_32 : decode method_2_code 32 = .ok (.lload_n 2, 1) := by decide +kernel
theorem d4_33 : decode method_2_code 33 = .ok (.ldc2_w 7, 3) := by decide +kernel
theorem d4_36 : decode method_2_code 36 = .ok (.lload_n 0, 1) := by decide +kernel
theorem d4_37 : decode method_2_code 37 = .ok (.lload_n 2, 1) := by decide +kernel
theorem d4_38 : decode method_2_code 38 = .ok (.lmul, 1) := by decide +kernel
theorem d4_39 : decode method_2_code 39 = .ok (.lsub, 1) := by decide +kernel
theorem d4_40 : decode method_2_code 40 = .ok (.lmul, 1) := by decide +kernel
theorem d4_41 : decode method_2_code 41 = .ok (.lstore_n 2, 1) := by decide +kernel
theorem d4_42 : decode method_2_code 42 = .ok (.lload_n 2, 1) := by decide +kernel
theorem d4_43 : decode method_2_code 43 = .ok (.ldc2_w 7, 3) := by decide +kernel
theorem d4_46 : decode method_2_code 46 = .ok (.lload_n 0, 1) := by decide +kernel
theorem d4_47 : decode method_2_code 47 = .ok (.lload_n 2, 1) := by decide +kernel
theorem d4_48 : decode method_2_code 48 = .ok (.lmul, 1) := by decide +kernel
theorem d4_49 : decode method_2_code 49 = .ok (.lsub, 1) := by decide +kernel
theorem d4_50 : decode method_2_code 50 = .ok (.lmul, 1) := by decide +kernel
theorem d4_51 : decode method_2_code 51 = .ok (.lstore_n 2, 1) := by decide +kernel
theorem d4_52 : decode method_2_code 52 = .ok (.lload_n 2, 1) := by decide +kernel
theorem d4_53 : decode method_2_code 53 = .ok (.ldc2_w 7, 3) := by decide +kernel
theorem d4_56 : decode method_2_code 56 = .ok (.lload_n 0, 1) := by decide +kernel
theorem d4_57 : decode method_2_code 57 = .ok (.lload_n 2, 1) := by decide +kernel
theorem d4_58 : decode method_2_code 58 = .ok (.lmul, 1) := by decide +kernel
theorem d4_59 : decode method_2_code 59 = .ok (.lsub, 1) := by decide +kernel
theorem d4_60 : decode method_2_code 60 = .ok (.lmul, 1) := by decide +kernel
theorem d4_61 : decode method_2_code 61 = .ok (.lstore_n 2, 1) := by decide +kernel
theorem d4_62 : decode method_2_code 62 = .ok (.lload_n 2, 1) := by decide +kernel
theorem d4_63 : decode method_2_code 63 = .ok (.lreturn, 1) := by decide +kernel
theorem pn_com_example_manyflow_manyflow_simulate_SeededRandomNextLongPinLaw : plainName "com/example/manyflow/manyflow/simulate/SeededRandomNextLongPinLaw" = true := by first | (simp [plainName, overriddenIn]; done) | decide +kernel
theorem ef_4 (m : MethodId) (x0 : Int64) : entryFrame m #[(.long x0)] 4 = mkF m 0 #[.val (.long x0), .second, .unset, .unset] [] := by first | (simp [entryFrame, mkF, argsToLocals, Value.category]; done) | rfl
def Q4 (Z : State) (q0 : Int64) (h0 : Heap) (n0 : Nat) (v : Option Value) (h : Heap) (L : List Loc) : Prop := (v = some (.long (own_inv q0))) ∧ (Fr n0 L) ∧ (h = h0)
abbrev rom_4 : Room := { frames := 0, cells := 0, slots := 0, locals := 0 }
set_option maxRecDepth 65536 in
set_option maxHeartbeats 40000000 in
theorem rm4 (l : Launch) (Z : State) (a0 : Array Value) (hw : ∀ d ∈ tables_1, d.before a0 Z = true) (ws : List Jvm.Cond) (q0 : Int64) (h0 : Heap) (n0 : Nat) (Z0 : n0 ≤ h0.size) :
    MetFree l (⟨"com/example/manyflow/manyflow/simulate/SeededRandomNextLongPinLaw", "inverse", "(J)J"⟩ : MethodName) (head1 (Jvm.Cond.code (⟨"com/example/manyflow/manyflow/simulate/SeededRandomNextLongPinLaw", "inverse", "(J)J"⟩ : MethodName) method_2_code 4 (some .long) :: ws) rom_4) (fun a U => a = #[(.long q0)] ∧ Z.Warmed39 U.vm ∧ U.heap = h0) (fun _ _ _ _ _ => True) (fun _ U o U' => ∃ v L, o = .returned v ∧ Q4 Z q0 h0 n0 v U'.heap L ∧ FrameEnd U o U' L rom_4.cells rom_4.slots) := by
  refine MetFree.of_bodySF (plainFor_of_name pn_com_example_manyflow_manyflow_simulate_SeededRandomNextLongPinLaw) hisR ?_
  intro p e s m args below meth c s₁ Bd hml0 hP hK
  obtain ⟨rfl, hZ, hh⟩ := hP
  have hx := Bd.exec
  have hby := Bd.bytes
  have hlk := Bd.notSynchronized
  have hml : c.maxLocals = 4 := hml0
  have hown : s.vm.findClass "com/example/manyflow/manyflow/simulate/SeededRandomNextLongPinLaw" = some m.cls := findClass_of_methodNamed Bd.named
  have hnm := (name_of_methodNamed Bd.named Bd.method).1
  have X0 : Stand p l e rom_4 s m #[(.long q0)] below meth c s₁ [] 0 0 := Stand.of_body Bd
  have e0 : s₁.heap = h0 := by rw [← hh, Bd.state]; rfl
  have N0 := Fr.nil n0
  have K0 : Keep h0 h0 [] := Keep.refl _ _
  refine (?_ : OG p e below s (Q4 Z q0 h0 n0) rom_4.cells rom_4.slots _)
  rw [ef_4]
  have s1 : ∀ tz, Steps p.tables e below (s₁.setTop (mkF m 63 #[.val (.long q0), .second, .val (.long (own_nw q0 (own_nw q0 (own_nw q0 (own_nw q0 (own_nw q0 (own_nw q0 q0))))))), .second] [(.long (own_nw q0 (own_nw q0 (own_nw q0 (own_nw q0 (own_nw q0 (own_nw q0 q0)))))))])) tz → Steps p.tables e below (s₁.setTop (mkF m 0 #[.val (.long q0), .second, .unset, .unset] [])) tz := by
    intro tz kz
    refine XS.lloadN X0.here hx rfl (hb hby d4_0) rfl ?_
    show Steps p.tables e below (s₁.setTop (mkF m 1 #[.val (.long q0), .second, .unset, .unset] [(.long q0)])) _
    refine XS.lstoreN X0.here hx rfl (hb hby d4_1) rfl (l' := #[.val (.long q0), .second, .val (.long q0), .second]) rfl ?_
    show Steps p.tables e below (s₁.setTop (mkF m 2 #[.val (.long q0), .second, .val (.long q0), .second] [])) _
    refine XS.lloadN X0.here hx rfl (hb hby d4_2) rfl ?_
    show Steps p.tables e below (s₁.setTop (mkF m 3 #[.val (.long q0), .second, .val (.long q0), .second] [(.long q0)])) _
    refine X0.ldc2Long hx hown (mvT hZ (hw _ (List.mem_of_getElem? (i := 24) rfl))) (g := (mkF m 3 #[.val (.long q0), .second, .val (.long q0), .second] [(.long q0)])) rfl (hb hby d4_3) _ ?_
    show Steps p.tables e below (s₁.setTop (mkF m 6 #[.val (.long q0), .second, .val (.long q0), .second] [(.long (2 : Int64)), (.long q0)])) _
    refine XS.lloadN X0.here hx rfl (hb hby d4_6) rfl ?_
    show Steps p.tables e below (s₁.setTop (mkF m 7 #[.val (.long q0), .second, .val (.long q0), .second] [(.long q0), (.long (2 : Int64)), (.long q0)])) _
    refine XS.lloadN X0.here hx rfl (hb hby d4_7) rfl ?_
    show Steps p.tables e below (s₁.setTop (mkF m 8 #[.val (.long q0), .second, .val (.long q0), .second] [(.long q0), (.long q0), (.long (2 : Int64)), (.long q0)])) _
    refine XS.lmul X0.here hx rfl (hb hby d4_8) rfl ?_
    show Steps p.tables e below (s₁.setTop (mkF m 9 #[.val (.long q0), .second, .val (.long q0), .second] [(.long (q0 * q0)), (.long (2 : Int64)), (.long q0)])) _
    refine XS.lsub X0.here hx rfl (hb hby d4_9) rfl ?_
    show Steps p.tables e below (s₁.setTop (mkF m 10 #[.val (.long q0), .second, .val (.long q0), .second] [(.long ((2 : Int64) - (q0 * q0))), (.long q0)])) _
    refine XS.lmul X0.here hx rfl (hb hby d4_10) rfl ?_
    show Steps p.tables e below (s₁.setTop (mkF m 11 #[.val (.long q0), .second, .val (.long q0), .second] [(.long (q0 * ((2 : Int64) - (q0 * q0))))])) _
    refine XS.lstoreN X0.here hx rfl (hb hby d4_11) rfl (l' := #[.val (.long q0), .second, .val (.long (own_nw q0 q0)), .second]) rfl ?_
    show Steps p.tables e below (s₁.setTop (mkF m 12 #[.val (.long q0), .second, .val (.long (own_nw q0 q0)), .second] [])) _
    refine XS.lloadN X0.here hx rfl (hb hby d4_12) rfl ?_
    show Steps p.tables e below (s₁.setTop (mkF m 13 #[.val (.long q0), .second, .val (.long (own_nw q0 q0)), .second] [(.long (own_nw q0 q0))])) _
    refine X0.ldc2Long hx hown (mvT hZ (hw _ (List.mem_of_getElem? (i := 24) rfl))) (g := (mkF m 13 #[.val (.long q0), .second, .val (.long (own_nw q0 q0)), .second] [(.long (own_nw q0 q0))])) rfl (hb hby d4_13) _ ?_
    show Steps p.tables e below (s₁.setTop (mkF m 16 #[.val (.long q0), .second, .val (.long (own_nw q0 q0)), .second] [(.long (2 : Int64)), (.long (own_nw q0 q0))])) _
    refine XS.lloadN X0.here hx rfl (hb hby d4_16) rfl ?_
    show Steps p.tables e below (s₁.setTop (mkF m 17 #[.val (.long q0), .second, .val (.long (own_nw q0 q0)), .second] [(.long q0), (.long (2 : Int64)), (.long (own_nw q0 q0))])) _
    refine XS.lloadN X0.here hx rfl (hb hby d4_17) rfl ?_
    show Steps p.tables e below (s₁.setTop (mkF m 18 #[.val (.long q0), .second, .val (.long (own_nw q0 q0)), .second] [(.long (own_nw q0 q0)), (.long q0), (.long (2 : Int64)), (.long (own_nw q0 q0))])) _
    refine XS.lmul X0.here hx rfl (hb hby d4_18) rfl ?_
    show Steps p.tables e below (s₁.setTop (mkF m 19 #[.val (.long q0), .second, .val (.long (own_nw q0 q0)), .second] [(.long (q0 * (own_nw q0 q0))), (.long (2 : Int64)), (.long (own_nw q0 q0))])) _
    refine XS.lsub X0.here hx rfl (hb hby d4_19) rfl ?_
    show Steps p.tables e below (s₁.setTop (mkF m 20 #[.val (.long q0), .second, .val (.long (own_nw q0 q0)), .second] [(.long ((2 : Int64) - (q0 * (own_nw q0 q0)))), (.long (own_nw q0 q0))])) _
    refine XS.lmul X0.here hx rfl (hb hby d4_20) rfl ?_
    show Steps p.tables e below (s₁.setTop (mkF m 21 #[.val (.long q0), .second, .val (.long (own_nw q0 q0)), .second] [(.long ((own_nw q0 q0) * ((2 : Int64) - (q0 * (own_nw q0 q0)))))])) _
    refine XS.lstoreN X0.here hx rfl (hb hby d4_21) rfl (l' := #[.val (.long q0), .second, .val (.long (own_nw q0 (own_nw q0 q0))), .second]) rfl ?_
    show Steps p.tables e below (s₁.setTop (mkF m 22 #[.val (.long q0), .second, .val (.long (own_nw q0 (own_nw q0 q0))), .second] [])) _
    refine XS.lloadN X0.here hx rfl (hb hby d4_22) rfl ?_
    show Steps p.tables e below (s₁.setTop (mkF m 23 #[.val (.long q0), .second, .val (.long (own_nw q0 (own_nw q0 q0))), .second] [(.long (own_nw q0 (own_nw q0 q0)))])) _
    refine X0.ldc2Long hx hown (mvT hZ (hw _ (List.mem_of_getElem? (i := 24) rfl))) (g := (mkF m 23 #[.val (.long q0), .second, .val (.long (own_nw q0 (own_nw q0 q0))), .second] [(.long (own_nw q0 (own_nw q0 q0)))])) rfl (hb hby d4_23) _ ?_
    show Steps p.tables e below (s₁.setTop (mkF m 26 #[.val (.long q0), .second, .val (.long (own_nw q0 (own_nw q0 q0))), .second] [(.long (2 : Int64)), (.long (own_nw q0 (own_nw q0 q0)))])) _
    refine XS.lloadN X0.here hx rfl (hb hby d4_26) rfl ?_
    show Steps p.tables e below (s₁.setTop (mkF m 27 #[.val (.long q0), .second, .val (.long (own_nw q0 (own_nw q0 q0))), .second] [(.long q0), (.long (2 : Int64)), (.long (own_nw q0 (own_nw q0 q0)))])) _
    refine XS.lloadN X0.here hx rfl (hb hby d4_27) rfl ?_
    show Steps p.tables e below (s₁.setTop (mkF m 28 #[.val (.long q0), .second, .val (.long (own_nw q0 (own_nw q0 q0))), .second] [(.long (own_nw q0 (own_nw q0 q0))), (.long q0), (.long (2 : Int64)), (.long (own_nw q0 (own_nw q0 q0)))])) _
    refine XS.lmul X0.here hx rfl (hb hby d4_28) rfl ?_
    show Steps p.tables e below (s₁.setTop (mkF m 29 #[.val (.long q0), .second, .val (.long (own_nw q0 (own_nw q0 q0))), .second] [(.long (q0 * (own_nw q0 (own_nw q0 q0)))), (.long (2 : Int64)), (.long (own_nw q0 (own_nw q0 q0)))])) _
    refine XS.lsub X0.here hx rfl (hb hby d4_29) rfl ?_
    show Steps p.tables e below (s₁.setTop (mkF m 30 #[.val (.long q0), .second, .val (.long (own_nw q0 (own_nw q0 q0))), .second] [(.long ((2 : Int64) - (q0 * (own_nw q0 (own_nw q0 q0))))), (.long (own_nw q0 (own_nw q0 q0)))])) _
    refine XS.lmul X0.here hx rfl (hb hby d4_30) rfl ?_
    show Steps p.tables e below (s₁.setTop (mkF m 31 #[.val (.long q0), .second, .val (.long (own_nw q0 (own_nw q0 q0))), .second] [(.long ((own_nw q0 (own_nw q0 q0)) * ((2 : Int64) - (q0 * (own_nw q0 (own_nw q0 q0))))))])) _
    refine XS.lstoreN X0.here hx rfl (hb hby d4_31) rfl (l' := #[.val (.long q0), .second, .val (.long (own_nw q0 (own_nw q0 (own_nw q0 q0)))), .second]) rfl ?_
    show Steps p.tables e below (s₁.setTop (mkF m 32 #[.val (.long q0), .second, .val (.long (own_nw q0 (own_nw q0 (own_nw q0 q0)))), .second] [])) _
    refine XS.lloadN X0.here hx rfl (hb hby d4_32) rfl ?_
    show Steps p.tables e below (s₁.setTop (mkF m 33 #[.val (.long q0), .second, .val (.long (own_nw q0 (own_nw q0 (own_nw q0 q0)))), .second] [(.long (own_nw q0 (own_nw q0 (own_nw q0 q0))))])) _
    refine X0.ldc2Long hx hown (mvT hZ (hw _ (List.mem_of_getElem? (i := 24) rfl))) (g := (mkF m 33 #[.val (.long q0), .second, .val (.long (own_nw q0 (own_nw q0 (own_nw q0 q0)))), .second] [(.long (own_nw q0 (own_nw q0 (own_nw q0 q0))))])) rfl (hb hby d4_33) _ ?_
    show Steps p.tables e below (s₁.setTop (mkF m 36 #[.val (.long q0), .second, .val (.long (own_nw q0 (own_nw q0 (own_nw q0 q0)))), .second] [(.long (2 : Int64)), (.long (own_nw q0 (own_nw q0 (own_nw q0 q0))))])) _
    refine XS.lloadN X0.here hx rfl (hb hby d4_36) rfl ?_
    show Steps p.tables e below (s₁.setTop (mkF m 37 #[.val (.long q0), .second, .val (.long (own_nw q0 (own_nw q0 (own_nw q0 q0)))), .second] [(.long q0), (.long (2 : Int64)), (.long (own_nw q0 (own_nw q0 (own_nw q0 q0))))])) _
    refine XS.lloadN X0.here hx rfl (hb hby d4_37) rfl ?_
    show Steps p.tables e below (s₁.setTop (mkF m 38 #[.val (.long q0), .second, .val (.long (own_nw q0 (own_nw q0 (own_nw q0 q0)))), .second] [(.long (own_nw q0 (own_nw q0 (own_nw q0 q0)))), (.long q0), (.long (2 : Int64)), (.long (own_nw q0 (own_nw q0 (own_nw q0 q0))))])) _
    refine XS.lmul X0.here hx rfl (hb hby d4_38) rfl ?_
    show Steps p.tables e below (s₁.setTop (mkF m 39 #[.val (.long q0), .second, .val (.long (own_nw q0 (own_nw q0 (own_nw q0 q0)))), .second] [(.long (q0 * (own_nw q0 (own_nw q0 (own_nw q0 q0))))), (.long (2 : Int64)), (.long (own_nw q0 (own_nw q0 (own_nw q0 q0))))])) _
    refine XS.lsub X0.here hx rfl (hb hby d4_39) rfl ?_
    show Steps p.tables e below (s₁.setTop (mkF m 40 #[.val (.long q0), .second, .val (.long (own_nw q0 (own_nw q0 (own_nw q0 q0)))), .second] [(.long ((2 : Int64) - (q0 * (own_nw q0 (own_nw q0 (own_nw q0 q0)))))), (.long (own_nw q0 (own_nw q0 (own_nw q0 q0))))])) _
    refine XS.lmul X0.here hx rfl (hb hby d4_40) rfl ?_
    show Steps p.tables e below (s₁.setTop (mkF m 41 #[.val (.long q0), .second, .val (.long (own_nw q0 (own_nw q0 (own_nw q0 q0)))), .second] [(.long ((own_nw q0 (own_nw q0 (own_nw q0 q0))) * ((2 : Int64) - (q0 * (own_nw q0 (own_nw q0 (own_nw q0 q0)))))))])) _
    refine XS.lstoreN X0.here hx rfl (hb hby d4_41) rfl (l' := #[.val (.long q0), .second, .val (.long (own_nw q0 (own_nw q0 (own_nw q0 (own_nw q0 q0))))), .second]) rfl ?_
    show Steps p.tables e below (s₁.setTop (mkF m 42 #[.val (.long q0), .second, .val (.long (own_nw q0 (own_nw q0 (own_nw q0 (own_nw q0 q0))))), .second] [])) _
    refine XS.lloadN X0.here hx rfl (hb hby d4_42) rfl ?_
    show Steps p.tables e below (s₁.setTop (mkF m 43 #[.val (.long q0), .second, .val (.long (own_nw q0 (own_nw q0 (own_nw q0 (own_nw q0 q0))))), .second] [(.long (own_nw q0 (own_nw q0 (own_nw q0 (own_nw q0 q0)))))])) _
    refine X0.ldc2Long hx hown (mvT hZ (hw _ (List.mem_of_getElem? (i := 24) rfl))) (g := (mkF m 43 #[.val (.long q0), .second, .val (.long (own_nw q0 (own_nw q0 (own_nw q0 (own_nw q0 q0))))), .second] [(.long (own_nw q0 (own_nw q0 (own_nw q0 (own_nw q0 q0)))))])) rfl (hb hby d4_43) _ ?_
    show Steps p.tables e below (s₁.setTop (mkF m 46 #[.val (.long q0), .second, .val (.long (own_nw q0 (own_nw q0 (own_nw q0 (own_nw q0 q0))))), .second] [(.long (2 : Int64)), (.long (own_nw q0 (own_nw q0 (own_nw q0 (own_nw q0 q0)))))])) _
    refine XS.lloadN X0.here hx rfl (hb hby d4_46) rfl ?_
    show Steps p.tables e below (s₁.setTop (mkF m 47 #[.val (.long q0), .second, .val (.long (own_nw q0 (own_nw q0 (own_nw q0 (own_nw q0 q0))))), .second] [(.long q0), (.long (2 : Int64)), (.long (own_nw q0 (own_nw q0 (own_nw q0 (own_nw q0 q0)))))])) _
    refine XS.lloadN X0.here hx rfl (hb hby d4_47) rfl ?_
    show Steps p.tables e below (s₁.setTop (mkF m 48 #[.val (.long q0), .second, .val (.long (own_nw q0 (own_nw q0 (own_nw q0 (own_nw q0 q0))))), .second] [(.long (own_nw q0 (own_nw q0 (own_nw q0 (own_nw q0 q0))))), (.long q0), (.long (2 : Int64)), (.long (own_nw q0 (own_nw q0 (own_nw q0 (own_nw q0 q0)))))])) _
    refine XS.lmul X0.here hx rfl (hb hby d4_48) rfl ?_
    show Steps p.tables e below (s₁.setTop (mkF m 49 #[.val (.long q0), .second, .val (.long (own_nw q0 (own_nw q0 (own_nw q0 (own_nw q0 q0))))), .second] [(.long (q0 * (own_nw q0 (own_nw q0 (own_nw q0 (own_nw q0 q0)))))), (.long (2 : Int64)), (.long (own_nw q0 (own_nw q0 (own_nw q0 (own_nw q0 q0)))))])) _
    refine XS.lsub X0.here hx rfl (hb hby d4_49) rfl ?_
    show Steps p.tables e below (s₁.setTop (mkF m 50 #[.val (.long q0), .second, .val (.long (own_nw q0 (own_nw q0 (own_nw q0 (own_nw q0 q0))))), .second] [(.long ((2 : Int64) - (q0 * (own_nw q0 (own_nw q0 (own_nw q0 (own_nw q0 q0))))))), (.long (own_nw q0 (own_nw q0 (own_nw q0 (own_nw q0 q0)))))])) _
    refine XS.lmul X0.here hx rfl (hb hby d4_50) rfl ?_
    show Steps p.tables e below (s₁.setTop (mkF m 51 #[.val (.long q0), .second, .val (.long (own_nw q0 (own_nw q0 (own_nw q0 (own_nw q0 q0))))), .second] [(.long ((own_nw q0 (own_nw q0 (own_nw q0 (own_nw q0 q0)))) * ((2 : Int64) - (q0 * (own_nw q0 (own_nw q0 (own_nw q0 (own_nw q0 q0))))))))])) _
    refine XS.lstoreN X0.here hx rfl (hb hby d4_51) rfl (l' := #[.val (.long q0), .second, .val (.long (own_nw q0 (own_nw q0 (own_nw q0 (own_nw q0 (own_nw q0 q0)))))), .second]) rfl ?_
    show Steps p.tables e below (s₁.setTop (mkF m 52 #[.val (.long q0), .second, .val (.long (own_nw q0 (own_nw q0 (own_nw q0 (own_nw q0 (own_nw q0 q0)))))), .second] [])) _
    refine XS.lloadN X0.here hx rfl (hb hby d4_52) rfl ?_
    show Steps p.tables e below (s₁.setTop (mkF m 53 #[.val (.long q0), .second, .val (.long (own_nw q0 (own_nw q0 (own_nw q0 (own_nw q0 (own_nw q0 q0)))))), .second] [(.long (own_nw q0 (own_nw q0 (own_nw q0 (own_nw q0 (own_nw q0 q0))))))])) _
    refine X0.ldc2Long hx hown (mvT hZ (hw _ (List.mem_of_getElem? (i := 24) rfl))) (g := (mkF m 53 #[.val (.long q0), .second, .val (.long (own_nw q0 (own_nw q0 (own_nw q0 (own_nw q0 (own_nw q0 q0)))))), .second] [(.long (own_nw q0 (own_nw q0 (own_nw q0 (own_nw q0 (own_nw q0 q0))))))])) rfl (hb hby d4_53) _ ?_
    show Steps p.tables e below (s₁.setTop (mkF m 56 #[.val (.long q0), .second, .val (.long (own_nw q0 (own_nw q0 (own_nw q0 (own_nw q0 (own_nw q0 q0)))))), .second] [(.long (2 : Int64)), (.long (own_nw q0 (own_nw q0 (own_nw q0 (own_nw q0 (own_nw q0 q0))))))])) _
    refine XS.lloadN X0.here hx rfl (hb hby d4_56) rfl ?_
    show Steps p.tables e below (s₁.setTop (mkF m 57 #[.val (.long q0), .second, .val (.long (own_nw q0 (own_nw q0 (own_nw q0 (own_nw q0 (own_nw q0 q0)))))), .second] [(.long q0), (.long (2 : Int64)), (.long (own_nw q0 (own_nw q0 (own_nw q0 (own_nw q0 (own_nw q0 q0))))))])) _
    refine XS.lloadN X0.here hx rfl (hb hby d4_57) rfl ?_
    show Steps p.tables e below (s₁.setTop (mkF m 58 #[.val (.long q0), .second, .val (.long (own_nw q0 (own_nw q0 (own_nw q0 (own_nw q0 (own_nw q0 q0)))))), .second] [(.long (own_nw q0 (own_nw q0 (own_nw q0 (own_nw q0 (own_nw q0 q0)))))), (.long q0), (.long (2 : Int64)), (.long (own_nw q0 (own_nw q0 (own_nw q0 (own_nw q0 (own_nw q0 q0))))))])) _
    refine XS.lmul X0.here hx rfl (hb hby d4_58) rfl ?_
    show Steps p.tables e below (s₁.setTop (mkF m 59 #[.val (.long q0), .second, .val (.long (own_nw q0 (own_nw q0 (own_nw q0 (own_nw q0 (own_nw q0 q0)))))), .second] [(.long (q0 * (own_nw q0 (own_nw q0 (own_nw q0 (own_nw q0 (own_nw q0 q0))))))), (.long (2 : Int64)), (.long (own_nw q0 (own_nw q0 (own_nw q0 (own_nw q0 (own_nw q0 q0))))))])) _
    refine XS.lsub X0.here hx rfl (hb hby d4_59) rfl ?_
    show Steps p.tables e below (s₁.setTop (mkF m 60 #[.val (.long q0), .second, .val (.long (own_nw q0 (own_nw q0 (own_nw q0 (own_nw q0 (own_nw q0 q0)))))), .second] [(.long ((2 : Int64) - (q0 * (own_nw q0 (own_nw q0 (own_nw q0 (own_nw q0 (own_nw q0 q0)))))))), (.long (own_nw q0 (own_nw q0 (own_nw q0 (own_nw q0 (own_nw q0 q0))))))])) _
    refine XS.lmul X0.here hx rfl (hb hby d4_60) rfl ?_
    show Steps p.tables e below (s₁.setTop (mkF m 61 #[.val (.long q0), .second, .val (.long (own_nw q0 (own_nw q0 (own_nw q0 (own_nw q0 (own_nw q0 q0)))))), .second] [(.long ((own_nw q0 (own_nw q0 (own_nw q0 (own_nw q0 (own_nw q0 q0))))) * ((2 : Int64) - (q0 * (own_nw q0 (own_nw q0 (own_nw q0 (own_nw q0 (own_nw q0 q0)))))))))])) _
    refine XS.lstoreN X0.here hx rfl (hb hby d4_61) rfl (l' := #[.val (.long q0), .second, .val (.long (own_nw q0 (own_nw q0 (own_nw q0 (own_nw q0 (own_nw q0 (own_nw q0 q0))))))), .second]) rfl ?_
    show Steps p.tables e below (s₁.setTop (mkF m 62 #[.val (.long q0), .second, .val (.long (own_nw q0 (own_nw q0 (own_nw q0 (own_nw q0 (own_nw q0 (own_nw q0 q0))))))), .second] [])) _
    refine XS.lloadN X0.here hx rfl (hb hby d4_62) rfl ?_
    exact kz
  refine OG.step s1 ?_
  exact OG.retJ X0 hx hlk Bd.returns (hb hby d4_63) e0 ⟨rfl, N0, rfl⟩ (by decide) (by decide)
def own_u1 (y : Int64) : Int64 := (y ^^^ ((y.toUInt64 >>> ((31 : Int32) &&& 0x3f).toInt64.toUInt64).toInt64)) ^^^ ((y.toUInt64 >>> ((62 : Int32) &&& 0x3f).toInt64.toUInt64).toInt64)
def own_u2 (y : Int64) : Int64 := (y ^^^ ((y.toUInt64 >>> ((27 : Int32) &&& 0x3f).toInt64.toUInt64).toInt64)) ^^^ ((y.toUInt64 >>> ((54 : Int32) &&& 0x3f).toInt64.toUInt64).toInt64)
def own_u3 (y : Int64) : Int64 := (y ^^^ ((y.toUInt64 >>> ((30 : Int32) &&& 0x3f).toInt64.toUInt64).toInt64)) ^^^ ((y.toUInt64 >>> ((60 : Int32) &&& 0x3f).toInt64.toUInt64).toInt64)
def own_unmix (q0 : Int64) : Int64 := own_u3 ((own_u2 ((own_u1 q0) * (own_inv (-7723592293110705685 : Int64)))) * (own_inv (-4658895280553007687 : Int64)))
theorem d5_0 : decode method_3_code 0 = .ok (.lload_n 0, 1) := by decide +kernel
theorem d5_1 : decode method_3_code 1 = .ok (.lload_n 0, 1) := by decide +kernel
theorem d5_2 : decode method_3_code 2 = .ok (.bipush 31, 2) := by decide +kernel
theorem d5_4 : decode method_3_code 4 = .ok (.lushr, 1) := by decide +kernel
theorem d5_5 : decode method_3_code 5 = .ok (.lxor, 1) := by decide +kernel
theorem d5_6 : decode method_3_code 6 = .ok (.lload_n 0, 1) := by decide +kernel
theorem d5_7 : decode method_3_code 7 = .ok (.bipush 62, 2) := by decide +kernel
theorem d5_9 : decode method_3_code 9 = .ok (.lushr, 1) := by decide +kernel
theorem d5_10 : decode method_3_code 10 = .ok (.lxor, 1) := by decide +kernel
theorem d5_11 : decode method_3_code 11 = .ok (.lstore_n 2, 1) := by decide +kernel
theorem d5_12 : decode method_3_code 12 = .ok (.lload_n 2, 1) := by decide +kernel
theorem d5_13 : decode method_3_code 13 = .ok (.ldc2_w 11, 3) := by decide +kernel
theorem d5_16 : decode method_3_code 16 = .ok (.invokestatic 13, 3) := by decide +kernel
theorem d5_19 : decode method_3_code 19 = .ok (.lmul, 1) := by decide +kernel
theorem d5_20 : decode method_3_code 20 = .ok (.lstore_n 2, 1) := by decide +kernel
theorem d5_21 : decode method_3_code 21 = .ok (.lload_n 2, 1) := by decide +kernel
theorem d5_22 : decode method_3_code 22 = .ok (.lload_n 2, 1) := by decide +kernel
theorem d5_23 : decode method_3_code 23 = .ok (.bipush 27, 2) := by decide +kernel
theorem d5_25 : decode method_3_code 25 = .ok (.lushr, 1) := by decide +kernel
theorem d5_26 : decode method_3_code 26 = .ok (.lxor, 1) := by decide +kernel
theorem d5_27 : decode method_3_code 27 = .ok (.lload_n 2, 1) := by decide +kernel
theorem d5_28 : decode method_3_code 28 = .ok (.bipush 54, 2) := by decide +kernel
theorem d5_30 : decode method_3_code 30 = .ok (.lushr, 1) := by decide +kernel
theorem d5_31 : decode method_3_code 31 = .ok (.lxor, 1) := by decide +kernel
theorem d5_32 : decode method_3_code 32 = .ok (.lstore_n 2, 1) := by decide +kernel
theorem d5_33 : decode method_3_code 33 = .ok (.lload_n 2, 1) := by decide +kernel
theorem d5_34 : decode method_3_code 34 = .ok (.ldc2_w 17, 3) := by decide +kernel
theorem d5_37 : decode method_3_code 37 = .ok (.invokestatic 13, 3) := by decide +kernel
theorem d5_40 : decode method_3_code 40 = .ok (.lmul, 1) := by decide +kernel
theorem d5_41 : decode method_3_code 41 = .ok (.lstore_n 2, 1) := by decide +kernel
theorem d5_42 : decode method_3_code 42 = .ok (.lload_n 2, 1) := by decide +kernel
theorem d5_43 : decode method_3_code 43 = .ok (.lload_n 2, 1) := by decide +kernel
theorem d5_44 : decode method_3_code 44 = .ok (.bipush 30, 2) := by decide +kernel
theorem d5_46 : decode method_3_code 46 = .ok (.lushr, 1) := by decide +kernel
theorem d5_47 : decode method_3_code 47 = .ok (.lxor, 1) := by decide +kernel
theorem d5_48 : decode method_3_code 48 = .ok (.lload_n 2, 1) := by decide +kernel
theorem d5_49 : decode method_3_code 49 = .ok (.bipush 60, 2) := by decide +kernel
theorem d5_51 : decode method_3_code 51 = .ok (.lushr, 1) := by decide +kernel
theorem d5_52 : decode method_3_code 52 = .ok (.lxor, 1) := by decide +kernel
theorem d5_53 : decode method_3_code 53 = .ok (.lstore_n 2, 1) := by decide +kernel
theorem d5_54 : decode method_3_code 54 = .ok (.lload_n 2, 1) := by decide +kernel
theorem d5_55 : decode method_3_code 55 = .ok (.lreturn, 1) := by decide +kernel
theorem ef_5 (m : MethodId) (x0 : Int64) : entryFrame m #[(.long x0)] 4 = mkF m 0 #[.val (.long x0), .second, .unset, .unset] [] := by first | (simp [entryFrame, mkF, argsToLocals, Value.category]; done) | rfl
def Q5 (Z : State) (q0 : Int64) (h0 : Heap) (n0 : Nat) (v : Option Value) (h : Heap) (L : List Loc) : Prop := (v = some (.long (own_unmix q0))) ∧ (Fr n0 L) ∧ (h = h0)
theorem pd__J_J : parseMethodDescriptor "(J)J" = some ⟨[.long], some .long⟩ := by decide +kernel
abbrev rom_5 : Room := { frames := 1, cells := 0, slots := 0, locals := 17 }
set_option maxRecDepth 65536 in
set_option maxHeartbeats 40000000 in
theorem rm5 (l : Launch) (Z : State) (a0 : Array Value) (hw : ∀ d ∈ tables_1, d.before a0 Z = true) (ws : List Jvm.Cond) (q0 : Int64) (h0 : Heap) (n0 : Nat) (Z0 : n0 ≤ h0.size) :
    MetFree l (⟨"com/example/manyflow/manyflow/simulate/SeededRandomNextLongPinLaw", "unmix", "(J)J"⟩ : MethodName) (head1 (Jvm.Cond.code (⟨"com/example/manyflow/manyflow/simulate/SeededRandomNextLongPinLaw", "unmix", "(J)J"⟩ : MethodName) method_3_code 4 (some .long) :: ws) rom_5) (fun a U => a = #[(.long q0)] ∧ Z.Warmed39 U.vm ∧ U.heap = h0) (fun _ _ _ _ _ => True) (fun _ U o U' => ∃ v L, o = .returned v ∧ Q5 Z q0 h0 n0 v U'.heap L ∧ FrameEnd U o U' L rom_5.cells rom_5.slots) := by
  refine MetFree.of_bodySF (plainFor_of_name pn_com_example_manyflow_manyflow_simulate_SeededRandomNextLongPinLaw) hisR ?_
  intro p e s m args below meth c s₁ Bd hml0 hP hK
  obtain ⟨rfl, hZ, hh⟩ := hP
  have hx := Bd.exec
  have hby := Bd.bytes
  have hlk := Bd.notSynchronized
  have hml : c.maxLocals = 4 := hml0
  have hown : s.vm.findClass "com/example/manyflow/manyflow/simulate/SeededRandomNextLongPinLaw" = some m.cls := findClass_of_methodNamed Bd.named
  have hnm := (name_of_methodNamed Bd.named Bd.method).1
  have X0 : Stand p l e rom_5 s m #[(.long q0)] below meth c s₁ [] 0 0 := Stand.of_body Bd
  have e0 : s₁.heap = h0 := by rw [← hh, Bd.state]; rfl
  have N0 := Fr.nil n0
  have K0 : Keep h0 h0 [] := Keep.refl _ _
  refine (?_ : OG p e below s (Q5 Z q0 h0 n0) rom_5.cells rom_5.slots _)
  rw [ef_5]
  have s1 : ∀ tz, Steps p.tables e below (s₁.setTop (mkF m 16 #[.val (.long q0), .second, .val (.long (own_u1 q0)), .second] [(.long (-7723592293110705685 : Int64)), (.long (own_u1 q0))])) tz → Steps p.tables e below (s₁.setTop (mkF m 0 #[.val (.long q0), .second, .unset, .unset] [])) tz := by
    intro tz kz
    refine XS.lloadN X0.here hx rfl (hb hby d5_0) rfl ?_
    show Steps p.tables e below (s₁.setTop (mkF m 1 #[.val (.long q0), .second, .unset, .unset] [(.long q0)])) _
    refine XS.lloadN X0.here hx rfl (hb hby d5_1) rfl ?_
    show Steps p.tables e below (s₁.setTop (mkF m 2 #[.val (.long q0), .second, .unset, .unset] [(.long q0), (.long q0)])) _
    refine XS.bipush X0.here hx rfl (hb hby d5_2) ?_
    show Steps p.tables e below (s₁.setTop (mkF m 4 #[.val (.long q0), .second, .unset, .unset] [(.int (31 : Int32)), (.long q0), (.long q0)])) _
    refine XS.lushr X0.here hx rfl (hb hby d5_4) rfl ?_
    show Steps p.tables e below (s₁.setTop (mkF m 5 #[.val (.long q0), .second, .unset, .unset] [(.long ((q0.toUInt64 >>> ((31 : Int32) &&& 0x3f).toInt64.toUInt64).toInt64)), (.long q0)])) _
    refine XS.lxor X0.here hx rfl (hb hby d5_5) rfl ?_
    show Steps p.tables e below (s₁.setTop (mkF m 6 #[.val (.long q0), .second, .unset, .unset] [(.long (q0 ^^^ ((q0.toUInt64 >>> ((31 : Int32) &&& 0x3f).toInt64.toUInt64).toInt64)))])) _
    refine XS.lloadN X0.here hx rfl (hb hby d5_6) rfl ?_
    show Steps p.tables e below (s₁.setTop (mkF m 7 #[.val (.long q0), .second, .unset, .unset] [(.long q0), (.long (q0 ^^^ ((q0.toUInt64 >>> ((31 : Int32) &&& 0x3f).toInt64.toUInt64).toInt64)))])) _
    refine XS.bipush X0.here hx rfl (hb hby d5_7) ?_
    show Steps p.tables e below (s₁.setTop (mkF m 9 #[.val (.long q0), .second, .unset, .unset] [(.int (62 : Int32)), (.long q0), (.long (q0 ^^^ ((q0.toUInt64 >>> ((31 : Int32) &&& 0x3f).toInt64.toUInt64).toInt64)))])) _
    refine XS.lushr X0.here hx rfl (hb hby d5_9) rfl ?_
    show Steps p.tables e below (s₁.setTop (mkF m 10 #[.val (.long q0), .second, .unset, .unset] [(.long ((q0.toUInt64 >>> ((62 : Int32) &&& 0x3f).toInt64.toUInt64).toInt64)), (.long (q0 ^^^ ((q0.toUInt64 >>> ((31 : Int32) &&& 0x3f).toInt64.toUInt64).toInt64)))])) _
    refine XS.lxor X0.here hx rfl (hb hby d5_10) rfl ?_
    show Steps p.tables e below (s₁.setTop (mkF m 11 #[.val (.long q0), .second, .unset, .unset] [(.long ((q0 ^^^ ((q0.toUInt64 >>> ((31 : Int32) &&& 0x3f).toInt64.toUInt64).toInt64)) ^^^ ((q0.toUInt64 >>> ((62 : Int32) &&& 0x3f).toInt64.toUInt64).toInt64)))])) _
    refine XS.lstoreN X0.here hx rfl (hb hby d5_11) rfl (l' := #[.val (.long q0), .second, .val (.long (own_u1 q0)), .second]) rfl ?_
    show Steps p.tables e below (s₁.setTop (mkF m 12 #[.val (.long q0), .second, .val (.long (own_u1 q0)), .second] [])) _
    refine XS.lloadN X0.here hx rfl (hb hby d5_12) rfl ?_
    show Steps p.tables e below (s₁.setTop (mkF m 13 #[.val (.long q0), .second, .val (.long (own_u1 q0)), .second] [(.long (own_u1 q0))])) _
    refine X0.ldc2Long hx hown (mvT hZ (hw _ (List.mem_of_getElem? (i := 25) rfl))) (g := (mkF m 13 #[.val (.long q0), .second, .val (.long (own_u1 q0)), .second] [(.long (own_u1 q0))])) rfl (hb hby d5_13) _ ?_
    exact kz
  refine OG.step s1 ?_
  obtain ⟨_, _, ⟨T2, L2, k2, n2⟩, -, X2, ⟨Lc2, hQ2, l2, y2, z2⟩, st2⟩ := Jvm.LawKit.callS X0 hx (y := (⟨"com/example/manyflow/manyflow/simulate/SeededRandomNextLongPinLaw", "inverse", "(J)J"⟩ : MethodName)) hown (mvT hZ (hw _ (List.mem_of_getElem? (i := 20) rfl))) (mvT hZ (hw _ (List.mem_of_getElem? (i := 21) rfl))) (mvT hZ (hw _ (List.mem_of_getElem? (i := 22) rfl))) (mvT hZ (hw _ (List.mem_of_getElem? (i := 23) rfl))) (by decide) (backOf (W := 2) (rm4 l Z a0 hw [] (-7723592293110705685 : Int64) h0 n0 (Nat.le_trans Z0 K0.1)) hZ (hw _ (List.mem_of_getElem? (i := 23) rfl)) (hw _ (List.mem_of_getElem? (i := 22) rfl)) (by decide) (by decide)) (g := (mkF m 16 #[.val (.long q0), .second, .val (.long (own_u1 q0)), .second] [(.long (-7723592293110705685 : Int64)), (.long (own_u1 q0))])) rfl (by rw [hml]; rfl) (argsL := [(.long (-7723592293110705685 : Int64))]) (rest := [(.long (own_u1 q0))]) (lenOf pd__J_J rfl) rfl (by show 2 * 0 + _ ≤ _; exact Nat.le_of_eq rfl) (hb hby d5_16) (fun _ _ => ⟨rfl, e0, (by decide : 0 + 0 ≤ _), (by decide : 0 + 0 ≤ _)⟩)
  dsimp only [Pt.U, Pt.locs, Pt.cells, Pt.slots] at X2 l2 y2 z2 st2 hQ2
  subst l2 y2 z2
  obtain ⟨rfl, N2q, e2⟩ := hQ2
  have N2 := Fr.app N0 N2q
  refine OG.step st2 ?_
  show OG _ _ _ _ _ _ _ (T2.setTop (mkF m 19 #[.val (.long q0), .second, .val (.long (own_u1 q0)), .second] [(.long (own_inv (-7723592293110705685 : Int64))), (.long (own_u1 q0))]))
  have s3 : ∀ tz, Steps p.tables e below (T2.setTop (mkF m 37 #[.val (.long q0), .second, .val (.long (own_u2 ((own_u1 q0) * (own_inv (-7723592293110705685 : Int64))))), .second] [(.long (-4658895280553007687 : Int64)), (.long (own_u2 ((own_u1 q0) * (own_inv (-7723592293110705685 : Int64)))))])) tz → Steps p.tables e below (T2.setTop (mkF m 19 #[.val (.long q0), .second, .val (.long (own_u1 q0)), .second] [(.long (own_inv (-7723592293110705685 : Int64))), (.long (own_u1 q0))])) tz := by
    intro tz kz
    refine XS.lmul X2.here hx rfl (hb hby d5_19) rfl ?_
    show Steps p.tables e below (T2.setTop (mkF m 20 #[.val (.long q0), .second, .val (.long (own_u1 q0)), .second] [(.long ((own_u1 q0) * (own_inv (-7723592293110705685 : Int64))))])) _
    refine XS.lstoreN X2.here hx rfl (hb hby d5_20) rfl (l' := #[.val (.long q0), .second, .val (.long ((own_u1 q0) * (own_inv (-7723592293110705685 : Int64)))), .second]) rfl ?_
    show Steps p.tables e below (T2.setTop (mkF m 21 #[.val (.long q0), .second, .val (.long ((own_u1 q0) * (own_inv (-7723592293110705685 : Int64)))), .second] [])) _
    refine XS.lloadN X2.here hx rfl (hb hby d5_21) rfl ?_
    show Steps p.tables e below (T2.setTop (mkF m 22 #[.val (.long q0), .second, .val (.long ((own_u1 q0) * (own_inv (-7723592293110705685 : Int64)))), .second] [(.long ((own_u1 q0) * (own_inv (-7723592293110705685 : Int64))))])) _
    refine XS.lloadN X2.here hx rfl (hb hby d5_22) rfl ?_
    show Steps p.tables e below (T2.setTop (mkF m 23 #[.val (.long q0), .second, .val (.long ((own_u1 q0) * (own_inv (-7723592293110705685 : Int64)))), .second] [(.long ((own_u1 q0) * (own_inv (-7723592293110705685 : Int64)))), (.long ((own_u1 q0) * (own_inv (-7723592293110705685 : Int64))))])) _
    refine XS.bipush X2.here hx rfl (hb hby d5_23) ?_
    show Steps p.tables e below (T2.setTop (mkF m 25 #[.val (.long q0), .second, .val (.long ((own_u1 q0) * (own_inv (-7723592293110705685 : Int64)))), .second] [(.int (27 : Int32)), (.long ((own_u1 q0) * (own_inv (-7723592293110705685 : Int64)))), (.long ((own_u1 q0) * (own_inv (-7723592293110705685 : Int64))))])) _
    refine XS.lushr X2.here hx rfl (hb hby d5_25) rfl ?_
    show Steps p.tables e below (T2.setTop (mkF m 26 #[.val (.long q0), .second, .val (.long ((own_u1 q0) * (own_inv (-7723592293110705685 : Int64)))), .second] [(.long ((((own_u1 q0) * (own_inv (-7723592293110705685 : Int64))).toUInt64 >>> ((27 : Int32) &&& 0x3f).toInt64.toUInt64).toInt64)), (.long ((own_u1 q0) * (own_inv (-7723592293110705685 : Int64))))])) _
    refine XS.lxor X2.here hx rfl (hb hby d5_26) rfl ?_
    show Steps p.tables e below (T2.setTop (mkF m 27 #[.val (.long q0), .second, .val (.long ((own_u1 q0) * (own_inv (-7723592293110705685 : Int64)))), .second] [(.long (((own_u1 q0) * (own_inv (-7723592293110705685 : Int64))) ^^^ ((((own_u1 q0) * (own_inv (-7723592293110705685 : Int64))).toUInt64 >>> ((27 : Int32) &&& 0x3f).toInt64.toUInt64).toInt64)))])) _
    refine XS.lloadN X2.here hx rfl (hb hby d5_27) rfl ?_
    show Steps p.tables e below (T2.setTop (mkF m 28 #[.val (.long q0), .second, .val (.long ((own_u1 q0) * (own_inv (-7723592293110705685 : Int64)))), .second] [(.long ((own_u1 q0) * (own_inv (-7723592293110705685 : Int64)))), (.long (((own_u1 q0) * (own_inv (-7723592293110705685 : Int64))) ^^^ ((((own_u1 q0) * (own_inv (-7723592293110705685 : Int64))).toUInt64 >>> ((27 : Int32) &&& 0x3f).toInt64.toUInt64).toInt64)))])) _
    refine XS.bipush X2.here hx rfl (hb hby d5_28) ?_
    show Steps p.tables e below (T2.setTop (mkF m 30 #[.val (.long q0), .second, .val (.long ((own_u1 q0) * (own_inv (-7723592293110705685 : Int64)))), .second] [(.int (54 : Int32)), (.long ((own_u1 q0) * (own_inv (-7723592293110705685 : Int64)))), (.long (((own_u1 q0) * (own_inv (-7723592293110705685 : Int64))) ^^^ ((((own_u1 q0) * (own_inv (-7723592293110705685 : Int64))).toUInt64 >>> ((27 : Int32) &&& 0x3f).toInt64.toUInt64).toInt64)))])) _
    refine XS.lushr X2.here hx rfl (hb hby d5_30) rfl ?_
    show Steps p.tables e below (T2.setTop (mkF m 31 #[.val (.long q0), .second, .val (.long ((own_u1 q0) * (own_inv (-7723592293110705685 : Int64)))), .second] [(.long ((((own_u1 q0) * (own_inv (-7723592293110705685 : Int64))).toUInt64 >>> ((54 : Int32) &&& 0x3f).toInt64.toUInt64).toInt64)), (.long (((own_u1 q0) * (own_inv (-7723592293110705685 : Int64))) ^^^ ((((own_u1 q0) * (own_inv (-7723592293110705685 : Int64))).toUInt64 >>> ((27 : Int32) &&& 0x3f).toInt64.toUInt64).toInt64)))])) _
    refine XS.lxor X2.here hx rfl (hb hby d5_31) rfl ?_
    show Steps p.tables e below (T2.setTop (mkF m 32 #[.val (.long q0), .second, .val (.long ((own_u1 q0) * (own_inv (-7723592293110705685 : Int64)))), .second] [(.long ((((own_u1 q0) * (own_inv (-7723592293110705685 : Int64))) ^^^ ((((own_u1 q0) * (own_inv (-7723592293110705685 : Int64))).toUInt64 >>> ((27 : Int32) &&& 0x3f).toInt64.toUInt64).toInt64)) ^^^ ((((own_u1 q0) * (own_inv (-7723592293110705685 : Int64))).toUInt64 >>> ((54 : Int32) &&& 0x3f).toInt64.toUInt64).toInt64)))])) _
    refine XS.lstoreN X2.here hx rfl (hb hby d5_32) rfl (l' := #[.val (.long q0), .second, .val (.long (own_u2 ((own_u1 q0) * (own_inv (-7723592293110705685 : Int64))))), .second]) rfl ?_
    show Steps p.tables e below (T2.setTop (mkF m 33 #[.val (.long q0), .second, .val (.long (own_u2 ((own_u1 q0) * (own_inv (-7723592293110705685 : Int64))))), .second] [])) _
    refine XS.lloadN X2.here hx rfl (hb hby d5_33) rfl ?_
    show Steps p.tables e below (T2.setTop (mkF m 34 #[.val (.long q0), .second, .val (.long (own_u2 ((own_u1 q0) * (own_inv (-7723592293110705685 : Int64))))), .second] [(.long (own_u2 ((own_u1 q0) * (own_inv (-7723592293110705685 : Int64)))))])) _
    refine X2.ldc2Long hx hown (mvT hZ (hw _ (List.mem_of_getElem? (i := 19) rfl))) (g := (mkF m 34 #[.val (.long q0), .second, .val (.long (own_u2 ((own_u1 q0) * (own_inv (-7723592293110705685 : Int64))))), .second] [(.long (own_u2 ((own_u1 q0) * (own_inv (-7723592293110705685 : Int64)))))])) rfl (hb hby d5_34) _ ?_
    exact kz
  refine OG.step s3 ?_
  obtain ⟨_, _, ⟨T4, L4, k4, n4⟩, -, X4, ⟨Lc4, hQ4, l4, y4, z4⟩, st4⟩ := Jvm.LawKit.callS X2 hx (y := (⟨"com/example/manyflow/manyflow/simulate/SeededRandomNextLongPinLaw", "inverse", "(J)J"⟩ : MethodName)) hown (mvT hZ (hw _ (List.mem_of_getElem? (i := 20) rfl))) (mvT hZ (hw _ (List.mem_of_getElem? (i := 21) rfl))) (mvT hZ (hw _ (List.mem_of_getElem? (i := 22) rfl))) (mvT hZ (hw _ (List.mem_of_getElem? (i := 23) rfl))) (by decide) (backOf (W := 2) (rm4 l Z a0 hw [] (-4658895280553007687 : Int64) h0 n0 (Nat.le_trans Z0 K0.1)) hZ (hw _ (List.mem_of_getElem? (i := 23) rfl)) (hw _ (List.mem_of_getElem? (i := 22) rfl)) (by decide) (by decide)) (g := (mkF m 37 #[.val (.long q0), .second, .val (.long (own_u2 ((own_u1 q0) * (own_inv (-7723592293110705685 : Int64))))), .second] [(.long (-4658895280553007687 : Int64)), (.long (own_u2 ((own_u1 q0) * (own_inv (-7723592293110705685 : Int64)))))])) rfl (by rw [hml]; rfl) (argsL := [(.long (-4658895280553007687 : Int64))]) (rest := [(.long (own_u2 ((own_u1 q0) * (own_inv (-7723592293110705685 : Int64)))))]) (lenOf pd__J_J rfl) rfl (by show 2 * 0 + _ ≤ _; exact Nat.le_of_eq rfl) (hb hby d5_37) (fun _ _ => ⟨rfl, e2, (by decide : 0 + 0 ≤ _), (by decide : 0 + 0 ≤ _)⟩)
  dsimp only [Pt.U, Pt.locs, Pt.cells, Pt.slots] at X4 l4 y4 z4 st4 hQ4
  subst l4 y4 z4
  obtain ⟨rfl, N4q, e4⟩ := hQ4
  have N4 := Fr.app N2 N4q
  refine OG.step st4 ?_
  show OG _ _ _ _ _ _ _ (T4.setTop (mkF m 40 #[.val (.long q0), .second, .val (.long (own_u2 ((own_u1 q0) * (own_inv (-7723592293110705685 : Int64))))), .second] [(.long (own_inv (-4658895280553007687 : Int64))), (.long (own_u2 ((own_u1 q0) * (own_inv (-7723592293110705685 : Int64)))))]))
  have s5 : ∀ tz, Steps p.tables e below (T4.setTop (mkF m 55 #[.val (.long q0), .second, .val (.long (own_unmix q0)), .second] [(.long (own_unmix q0))])) tz → Steps p.tables e below (T4.setTop (mkF m 40 #[.val (.long q0), .second, .val (.long (own_u2 ((own_u1 q0) * (own_inv (-7723592293110705685 : Int64))))), .second] [(.long (own_inv (-4658895280553007687 : Int64))), (.long (own_u2 ((own_u1 q0) * (own_inv (-7723592293110705685 : Int64)))))])) tz := by
    intro tz kz
    refine XS.lmul X4.here hx rfl (hb hby d5_40) rfl ?_
    show Steps p.tables e below (T4.setTop (mkF m 41 #[.val (.long q0), .second, .val (.long (own_u2 ((own_u1 q0) * (own_inv (-7723592293110705685 : Int64))))), .second] [(.long ((own_u2 ((own_u1 q0) * (own_inv (-7723592293110705685 : Int64)))) * (own_inv (-4658895280553007687 : Int64))))])) _
    refine XS.lstoreN X4.here hx rfl (hb hby d5_41) rfl (l' := #[.val (.long q0), .second, .val (.long ((own_u2 ((own_u1 q0) * (own_inv (-7723592293110705685 : Int64)))) * (own_inv (-4658895280553007687 : Int64)))), .second]) rfl ?_
    show Steps p.tables e below (T4.setTop (mkF m 42 #[.val (.long q0), .second, .val (.long ((own_u2 ((own_u1 q0) * (own_inv (-7723592293110705685 : Int64)))) * (own_inv (-4658895280553007687 : Int64)))), .second] [])) _
    refine XS.lloadN X4.here hx rfl (hb hby d5_42) rfl ?_
    show Steps p.tables e below (T4.setTop (mkF m 43 #[.val (.long q0), .second, .val (.long ((own_u2 ((own_u1 q0) * (own_inv (-7723592293110705685 : Int64)))) * (own_inv (-4658895280553007687 : Int64)))), .second] [(.long ((own_u2 ((own_u1 q0) * (own_inv (-7723592293110705685 : Int64)))) * (own_inv (-4658895280553007687 : Int64))))])) _
    refine XS.lloadN X4.here hx rfl (hb hby d5_43) rfl ?_
    show Steps p.tables e below (T4.setTop (mkF m 44 #[.val (.long q0), .second, .val (.long ((own_u2 ((own_u1 q0) * (own_inv (-7723592293110705685 : Int64)))) * (own_inv (-4658895280553007687 : Int64)))), .second] [(.long ((own_u2 ((own_u1 q0) * (own_inv (-7723592293110705685 : Int64)))) * (own_inv (-4658895280553007687 : Int64)))), (.long ((own_u2 ((own_u1 q0) * (own_inv (-7723592293110705685 : Int64)))) * (own_inv (-4658895280553007687 : Int64))))])) _
    refine XS.bipush X4.here hx rfl (hb hby d5_44) ?_
    show Steps p.tables e below (T4.setTop (mkF m 46 #[.val (.long q0), .second, .val (.long ((own_u2 ((own_u1 q0) * (own_inv (-7723592293110705685 : Int64)))) * (own_inv (-4658895280553007687 : Int64)))), .second] [(.int (30 : Int32)), (.long ((own_u2 ((own_u1 q0) * (own_inv (-7723592293110705685 : Int64)))) * (own_inv (-4658895280553007687 : Int64)))), (.long ((own_u2 ((own_u1 q0) * (own_inv (-7723592293110705685 : Int64)))) * (own_inv (-4658895280553007687 : Int64))))])) _
    refine XS.lushr X4.here hx rfl (hb hby d5_46) rfl ?_
    show Steps p.tables e below (T4.setTop (mkF m 47 #[.val (.long q0), .second, .val (.long ((own_u2 ((own_u1 q0) * (own_inv (-7723592293110705685 : Int64)))) * (own_inv (-4658895280553007687 : Int64)))), .second] [(.long ((((own_u2 ((own_u1 q0) * (own_inv (-7723592293110705685 : Int64)))) * (own_inv (-4658895280553007687 : Int64))).toUInt64 >>> ((30 : Int32) &&& 0x3f).toInt64.toUInt64).toInt64)), (.long ((own_u2 ((own_u1 q0) * (own_inv (-7723592293110705685 : Int64)))) * (own_inv (-4658895280553007687 : Int64))))])) _
    refine XS.lxor X4.here hx rfl (hb hby d5_47) rfl ?_
    show Steps p.tables e below (T4.setTop (mkF m 48 #[.val (.long q0), .second, .val (.long ((own_u2 ((own_u1 q0) * (own_inv (-7723592293110705685 : Int64)))) * (own_inv (-4658895280553007687 : Int64)))), .second] [(.long (((own_u2 ((own_u1 q0) * (own_inv (-7723592293110705685 : Int64)))) * (own_inv (-4658895280553007687 : Int64))) ^^^ ((((own_u2 ((own_u1 q0) * (own_inv (-7723592293110705685 : Int64)))) * (own_inv (-4658895280553007687 : Int64))).toUInt64 >>> ((30 : Int32) &&& 0x3f).toInt64.toUInt64).toInt64)))])) _
    refine XS.lloadN X4.here hx rfl (hb hby d5_48) rfl ?_
    show Steps p.tables e below (T4.setTop (mkF m 49 #[.val (.long q0), .second, .val (.long ((own_u2 ((own_u1 q0) * (own_inv (-7723592293110705685 : Int64)))) * (own_inv (-4658895280553007687 : Int64)))), .second] [(.long ((own_u2 ((own_u1 q0) * (own_inv (-7723592293110705685 : Int64)))) * (own_inv (-4658895280553007687 : Int64)))), (.long (((own_u2 ((own_u1 q0) * (own_inv (-7723592293110705685 : Int64)))) * (own_inv (-4658895280553007687 : Int64))) ^^^ ((((own_u2 ((own_u1 q0) * (own_inv (-7723592293110705685 : Int64)))) * (own_inv (-4658895280553007687 : Int64))).toUInt64 >>> ((30 : Int32) &&& 0x3f).toInt64.toUInt64).toInt64)))])) _
    refine XS.bipush X4.here hx rfl (hb hby d5_49) ?_
    show Steps p.tables e below (T4.setTop (mkF m 51 #[.val (.long q0), .second, .val (.long ((own_u2 ((own_u1 q0) * (own_inv (-7723592293110705685 : Int64)))) * (own_inv (-4658895280553007687 : Int64)))), .second] [(.int (60 : Int32)), (.long ((own_u2 ((own_u1 q0) * (own_inv (-7723592293110705685 : Int64)))) * (own_inv (-4658895280553007687 : Int64)))), (.long (((own_u2 ((own_u1 q0) * (own_inv (-7723592293110705685 : Int64)))) * (own_inv (-4658895280553007687 : Int64))) ^^^ ((((own_u2 ((own_u1 q0) * (own_inv (-7723592293110705685 : Int64)))) * (own_inv (-4658895280553007687 : Int64))).toUInt64 >>> ((30 : Int32) &&& 0x3f).toInt64.toUInt64).toInt64)))])) _
    refine XS.lushr X4.here hx rfl (hb hby d5_51) rfl ?_
    show Steps p.tables e below (T4.setTop (mkF m 52 #[.val (.long q0), .second, .val (.long ((own_u2 ((own_u1 q0) * (own_inv (-7723592293110705685 : Int64)))) * (own_inv (-4658895280553007687 : Int64)))), .second] [(.long ((((own_u2 ((own_u1 q0) * (own_inv (-7723592293110705685 : Int64)))) * (own_inv (-4658895280553007687 : Int64))).toUInt64 >>> ((60 : Int32) &&& 0x3f).toInt64.toUInt64).toInt64)), (.long (((own_u2 ((own_u1 q0) * (own_inv (-7723592293110705685 : Int64)))) * (own_inv (-4658895280553007687 : Int64))) ^^^ ((((own_u2 ((own_u1 q0) * (own_inv (-7723592293110705685 : Int64)))) * (own_inv (-4658895280553007687 : Int64))).toUInt64 >>> ((30 : Int32) &&& 0x3f).toInt64.toUInt64).toInt64)))])) _
    refine XS.lxor X4.here hx rfl (hb hby d5_52) rfl ?_
    show Steps p.tables e below (T4.setTop (mkF m 53 #[.val (.long q0), .second, .val (.long ((own_u2 ((own_u1 q0) * (own_inv (-7723592293110705685 : Int64)))) * (own_inv (-4658895280553007687 : Int64)))), .second] [(.long ((((own_u2 ((own_u1 q0) * (own_inv (-7723592293110705685 : Int64)))) * (own_inv (-4658895280553007687 : Int64))) ^^^ ((((own_u2 ((own_u1 q0) * (own_inv (-7723592293110705685 : Int64)))) * (own_inv (-4658895280553007687 : Int64))).toUInt64 >>> ((30 : Int32) &&& 0x3f).toInt64.toUInt64).toInt64)) ^^^ ((((own_u2 ((own_u1 q0) * (own_inv (-7723592293110705685 : Int64)))) * (own_inv (-4658895280553007687 : Int64))).toUInt64 >>> ((60 : Int32) &&& 0x3f).toInt64.toUInt64).toInt64)))])) _
    refine XS.lstoreN X4.here hx rfl (hb hby d5_53) rfl (l' := #[.val (.long q0), .second, .val (.long (own_unmix q0)), .second]) rfl ?_
    show Steps p.tables e below (T4.setTop (mkF m 54 #[.val (.long q0), .second, .val (.long (own_unmix q0)), .second] [])) _
    refine XS.lloadN X4.here hx rfl (hb hby d5_54) rfl ?_
    exact kz
  refine OG.step s5 ?_
  exact OG.retJ X4 hx hlk Bd.returns (hb hby d5_55) e4 ⟨rfl, N4, rfl⟩ (by decide) (by decide)
theorem own_i1 : (-4658895280553007687 : Int64) * own_inv (-4658895280553007687 : Int64) = (1 : Int64) := by decide +kernel
theorem own_i2 : (-7723592293110705685 : Int64) * own_inv (-7723592293110705685 : Int64) = (1 : Int64) := by decide +kernel
theorem own_shb (z : Int64) (k : Int32) (n : Nat) (hk : ((k &&& 0x3f).toInt64.toUInt64).toBitVec = BitVec.ofNat 64 n) (hn : n < 64) : ((z.toUInt64 >>> (k &&& 0x3f).toInt64.toUInt64).toInt64).toBitVec = z.toBitVec >>> n := by
  show (z.toUInt64 >>> (k &&& 0x3f).toInt64.toUInt64).toBitVec = _
  rw [UInt64.toBitVec_shiftRight, hk]
  show z.toBitVec >>> (BitVec.ofNat 64 n % 64#64) = _
  have e : BitVec.ofNat 64 n % 64#64 = BitVec.ofNat 64 n := by
    apply BitVec.eq_of_toNat_eq
    rw [BitVec.toNat_umod, BitVec.toNat_ofNat]
    show _ % 2 ^ 64 % 64 = _ % 2 ^ 64
    omega
  rw [e]
  show z.toBitVec >>> (BitVec.ofNat 64 n).toNat = _
  rw [BitVec.toNat_ofNat, Nat.mod_eq_of_lt (by omega)]
theorem own_bits (x : BitVec 64) (k : Nat) (hk : 64 ≤ k + k + k) : ((x ^^^ (x >>> k)) ^^^ ((x ^^^ (x >>> k)) >>> k)) ^^^ ((x ^^^ (x >>> k)) >>> (k + k)) = x := by
  have z : x >>> (k + k + k) = 0#64 := BitVec.ushiftRight_eq_zero hk
  rw [BitVec.ushiftRight_xor_distrib, BitVec.ushiftRight_xor_distrib, ← BitVec.shiftRight_add, ← BitVec.shiftRight_add]
  have z' : x >>> (k + (k + k)) = 0#64 := by rw [← Nat.add_assoc]; exact z
  rw [z', BitVec.xor_zero]
  have a : (x ^^^ x >>> k) ^^^ (x >>> k ^^^ x >>> (k + k)) = x ^^^ x >>> (k + k) := by
    rw [BitVec.xor_assoc, ← BitVec.xor_assoc (x >>> k), BitVec.xor_self, BitVec.zero_xor]
  rw [a, BitVec.xor_assoc, BitVec.xor_self, BitVec.xor_zero]
theorem own_x3 (z : Int64) : own_u1 (own_m3 z) = z := by
  apply Int64.toBitVec_inj.mp
  unfold own_u1 own_m3
  simp only [Int64.toBitVec_xor, own_shb _ (31 : Int32) 31 (by decide) (by decide), own_shb _ (62 : Int32) 62 (by decide) (by decide)]
  exact own_bits z.toBitVec 31 (by decide)
theorem own_x2 (z : Int64) : own_u2 (z ^^^ ((z.toUInt64 >>> ((27 : Int32) &&& 0x3f).toInt64.toUInt64).toInt64)) = z := by
  apply Int64.toBitVec_inj.mp
  unfold own_u2
  simp only [Int64.toBitVec_xor, own_shb _ (27 : Int32) 27 (by decide) (by decide), own_shb _ (54 : Int32) 54 (by decide) (by decide)]
  exact own_bits z.toBitVec 27 (by decide)
theorem own_x1 (z : Int64) : own_u3 (z ^^^ ((z.toUInt64 >>> ((30 : Int32) &&& 0x3f).toInt64.toUInt64).toInt64)) = z := by
  apply Int64.toBitVec_inj.mp
  unfold own_u3
  simp only [Int64.toBitVec_xor, own_shb _ (30 : Int32) 30 (by decide) (by decide), own_shb _ (60 : Int32) 60 (by decide) (by decide)]
  exact own_bits z.toBitVec 30 (by decide)
theorem own_um (z : Int64) : own_unmix (own_mix z) = z := by
  unfold own_unmix own_mix
  rw [own_x3]
  unfold own_m2
  rw [Int64.mul_assoc, own_i2, Int64.mul_one, own_x2]
  unfold own_m1
  rw [Int64.mul_assoc, own_i1, Int64.mul_one, own_x1]
theorem own_g2 (q0 : Int64) : (q0 + (-7046029254386353131 : Int64)) + (-7046029254386353131 : Int64) = q0 + (4354685564936845354 : Int64) := by
  rw [Int64.add_assoc]; rfl
theorem own_g3 (q0 : Int64) : ((q0 + (-7046029254386353131 : Int64)) + (-7046029254386353131 : Int64)) + (-7046029254386353131 : Int64) = q0 + (-2691343689449507777 : Int64) := by
  rw [own_g2, Int64.add_assoc]; rfl

theorem ef_0 (m : MethodId) (x0 : Int64) : entryFrame m #[(.long x0)] maxLocals = mkF m 0 #[.val (.long x0), .second, .unset, .unset, .unset, .unset, .unset, .unset, .unset, .unset] [] := by first | (simp [entryFrame, mkF, argsToLocals, Value.category, maxLocals]; done) | rfl
def Q0 (Z : State) (q0 : Int64) (h0 : Heap) (n0 : Nat) (v : Option Value) (h : Heap) (L : List Loc) : Prop := (v = some (.int (1 : Int32))) ∧ (Fr n0 L)
theorem pd__J_V : parseMethodDescriptor "(J)V" = some ⟨[.long], none⟩ := by decide +kernel
theorem pd___J : parseMethodDescriptor "()J" = some ⟨[], some .long⟩ := by decide +kernel
set_option maxRecDepth 65536 in
set_option maxHeartbeats 40000000 in
theorem rm0 (l : Launch) (Z : State) (a0 : Array Value) (hw : ∀ d ∈ tables_1, d.before a0 Z = true) (ws : List Jvm.Cond) (q0 : Int64) (h0 : Heap) (n0 : Nat) (Z0 : n0 ≤ h0.size) :
    MetFree l x (head1 (Jvm.Cond.code x code maxLocals ret :: ws) room_1) (fun a U => a = #[(.long q0)] ∧ Z.Warmed39 U.vm ∧ U.heap = h0) (fun _ _ _ _ _ => True) (fun _ U o U' => ∃ v L, o = .returned v ∧ Q0 Z q0 h0 n0 v U'.heap L ∧ FrameEnd U o U' L room_1.cells room_1.slots) := by
  refine MetFree.of_bodySF (plainFor_of_name pn_com_example_manyflow_manyflow_simulate_SeededRandomNextLongPinLaw) hisR ?_
  intro p e s m args below meth c s₁ Bd hml0 hP hK
  obtain ⟨rfl, hZ, hh⟩ := hP
  have hx := Bd.exec
  have hby := Bd.bytes
  have hlk := Bd.notSynchronized
  have hml : c.maxLocals = 10 := hml0
  have hown : s.vm.findClass "com/example/manyflow/manyflow/simulate/SeededRandomNextLongPinLaw" = some m.cls := findClass_of_methodNamed Bd.named
  have hnm := (name_of_methodNamed Bd.named Bd.method).1
  have X0 : Stand p l e room_1 s m #[(.long q0)] below meth c s₁ [] 0 0 := Stand.of_body Bd
  have e0 : s₁.heap = h0 := by rw [← hh, Bd.state]; rfl
  have N0 := Fr.nil n0
  have K0 : Keep h0 h0 [] := Keep.refl _ _
  refine (?_ : OG p e below s (Q0 Z q0 h0 n0) room_1.cells room_1.slots _)
  rw [ef_0]
  obtain ⟨T1, h1, X1, e1, E1, A1, D1, -, st1⟩ := newO X0 hx hZ hown (hw _ (List.mem_of_getElem? (i := 0) rfl)) (hw _ (List.mem_of_getElem? (i := 1) rfl)) (hw _ (List.mem_of_getElem? (i := 2) rfl)) e0 (g := (mkF m 0 #[.val (.long q0), .second, .unset, .unset, .unset, .unset, .unset, .unset, .unset, .unset] [])) rfl (hb hby at_0) (by decide) (by decide)
  obtain ⟨b1, g1⟩ : ∃ z, z = h0.size := ⟨_, rfl⟩
  rw [← g1] at A1 D1 st1
  have sz1 : h0.size ≤ b1 := Nat.le_trans K0.1 (Nat.le_of_eq g1.symm)
  have ge1 : n0 ≤ b1 := Nat.le_trans Z0 sz1
  refine OG.step st1 ?_
  have F1_state : Fld Z h1 b1 "com/example/manyflow/manyflow/simulate/SeededRandom" "state" "J" (.long (0 : Int64)) := D1 (Or.inl (hw _ (List.mem_of_getElem? (i := 10) rfl))) (ty := .long) (by decide)
  have K1 := K0.ext E1
  show OG _ _ _ _ _ _ _ (T1.setTop (mkF m 3 #[.val (.long q0), .second, .unset, .unset, .unset, .unset, .unset, .unset, .unset, .unset] [(.ref b1)]))
  have s2 : ∀ tz, Steps p.tables e below (T1.setTop (mkF m 5 #[.val (.long q0), .second, .unset, .unset, .unset, .unset, .unset, .unset, .unset, .unset] [(.long q0), (.ref b1), (.ref b1)])) tz → Steps p.tables e below (T1.setTop (mkF m 3 #[.val (.long q0), .second, .unset, .unset, .unset, .unset, .unset, .unset, .unset, .unset] [(.ref b1)])) tz := by
    intro tz kz
    refine XS.dup X1.here hx rfl (hb hby at_3) rfl rfl ?_
    show Steps p.tables e below (T1.setTop (mkF m 4 #[.val (.long q0), .second, .unset, .unset, .unset, .unset, .unset, .unset, .unset, .unset] [(.ref b1), (.ref b1)])) _
    refine XS.lloadN X1.here hx rfl (hb hby at_4) rfl ?_
    exact kz
  refine OG.step s2 ?_
  obtain ⟨_, _, ⟨T3, L3, k3, n3⟩, -, X3, ⟨Lc3, hQ3, l3, y3, z3⟩, st3⟩ := X1.specialBack hx (y := (⟨"com/example/manyflow/manyflow/simulate/SeededRandom", "<init>", "(J)V"⟩ : MethodName)) rfl hown (mvT hZ (hw _ (List.mem_of_getElem? (i := 3) rfl))) (mvT hZ (hw _ (List.mem_of_getElem? (i := 4) rfl))) (mvT hZ (hw _ (List.mem_of_getElem? (i := 5) rfl))) (by decide) (backOf (W := 1) (rm1 l Z a0 hw [] b1 q0 (.long (0 : Int64)) h1 n0 (Nat.le_trans Z0 K1.1) A1 F1_state ge1) hZ (hw _ (List.mem_of_getElem? (i := 5) rfl)) (hw _ (List.mem_of_getElem? (i := 2) rfl)) (by decide) (by decide)) (g := (mkF m 5 #[.val (.long q0), .second, .unset, .unset, .unset, .unset, .unset, .unset, .unset, .unset] [(.long q0), (.ref b1), (.ref b1)])) rfl (by rw [hml]; rfl) (Steps.refl _) (a := b1) (argsL := [(.long q0)]) (rest := [(.ref b1)]) (lenOf pd__J_V rfl) rfl (by show 2 * 0 + _ ≤ _; exact Nat.le_of_eq rfl) (hb hby at_5) (fun _ _ => ⟨rfl, e1, (by decide : 1 + 0 ≤ _), (by decide : 1 + 0 ≤ _)⟩)
  dsimp only [Pt.U, Pt.locs, Pt.cells, Pt.slots] at X3 l3 y3 z3 st3 hQ3
  subst l3 y3 z3
  obtain ⟨rfl, N3q, Kc3, p3_0⟩ := hQ3
  have N3 := Fr.app N0 N3q
  refine OG.step (fun tz kz => st3.trans kz) ?_
  have f4 := A1.keep Kc3
  have K3 := K1.trans Kc3 (allS (Or.inr sz1) all0)
  show OG _ _ _ _ _ _ _ (T3.setTop (mkF m 8 #[.val (.long q0), .second, .unset, .unset, .unset, .unset, .unset, .unset, .unset, .unset] [(.ref b1)]))
  have s6 : ∀ tz, Steps p.tables e below (T3.setTop (mkF m 10 #[.val (.long q0), .second, .val (.ref b1), .unset, .unset, .unset, .unset, .unset, .unset, .unset] [(.ref b1)])) tz → Steps p.tables e below (T3.setTop (mkF m 8 #[.val (.long q0), .second, .unset, .unset, .unset, .unset, .unset, .unset, .unset, .unset] [(.ref b1)])) tz := by
    intro tz kz
    refine XS.astoreN X3.here hx rfl (hb hby at_8) rfl rfl (l' := #[.val (.long q0), .second, .val (.ref b1), .unset, .unset, .unset, .unset, .unset, .unset, .unset]) rfl ?_
    show Steps p.tables e below (T3.setTop (mkF m 9 #[.val (.long q0), .second, .val (.ref b1), .unset, .unset, .unset, .unset, .unset, .unset, .unset] [])) _
    refine XS.aloadN X3.here hx rfl (hb hby at_9) rfl rfl ?_
    exact kz
  refine OG.step s6 ?_
  obtain ⟨cq7, kq7, q7a, q7b, q7c⟩ := isOf hZ rfl f4
  obtain ⟨_, _, ⟨T7, L7, k7, n7⟩, -, X7, ⟨Lc7, hQ7, l7, y7, z7⟩, st7⟩ := X3.virtualBack hx (y := (⟨"com/example/manyflow/manyflow/simulate/SeededRandom", "nextLong", "()J"⟩ : MethodName)) (z := (⟨"com/example/manyflow/manyflow/simulate/SeededRandom", "nextLong", "()J"⟩ : MethodName)) hown (mvT hZ (hw _ (List.mem_of_getElem? (i := 11) rfl))) (mvT hZ (hw _ (List.mem_of_getElem? (i := 12) rfl))) (notFace_of_selects (args := #[]) (mvT hZ (hw _ (List.mem_of_getElem? (i := 14) rfl)))) (mvT hZ (hw _ (List.mem_of_getElem? (i := 14) rfl))) (mvT hZ (hw _ (List.mem_of_getElem? (i := 13) rfl))) (by decide) (backOf (W := 0) (rm3 l Z a0 hw [] b1 q0 T3.heap n0 (Nat.le_trans Z0 K3.1) f4 p3_0 ge1) hZ (hw _ (List.mem_of_getElem? (i := 15) rfl)) (hw _ (List.mem_of_getElem? (i := 2) rfl)) (by decide) (by decide)) q7a q7c (g := (mkF m 10 #[.val (.long q0), .second, .val (.ref b1), .unset, .unset, .unset, .unset, .unset, .unset, .unset] [(.ref b1)])) rfl (by rw [hml]; rfl) (Steps.refl _) (argsL := []) (rest := []) (lenOf pd___J rfl) rfl (by show 2 * 0 + _ ≤ _; exact Nat.le_of_eq rfl) (hb hby at_10) (fun _ _ => ⟨rfl, rfl, (by decide : 1 + 0 ≤ _), (by decide : 1 + 0 ≤ _)⟩)
  dsimp only [Pt.U, Pt.locs, Pt.cells, Pt.slots] at X7 l7 y7 z7 st7 hQ7
  subst l7 y7 z7
  obtain ⟨rfl, N7q, Kc7, p7_0⟩ := hQ7
  have N7 := Fr.app N3 N7q
  refine OG.step (fun tz kz => st7.trans kz) ?_
  have f8 := f4.keep Kc7
  have K7 := K3.trans Kc7 (allS (Or.inr sz1) all0)
  show OG _ _ _ _ _ _ _ (T7.setTop (mkF m 13 #[.val (.long q0), .second, .val (.ref b1), .unset, .unset, .unset, .unset, .unset, .unset, .unset] [(.long (own_mix (q0 + (-7046029254386353131 : Int64))))]))
  have s10 : ∀ tz, Steps p.tables e below (T7.setTop (mkF m 15 #[.val (.long q0), .second, .val (.ref b1), .val (.long (own_mix (q0 + (-7046029254386353131 : Int64)))), .second, .unset, .unset, .unset, .unset, .unset] [(.ref b1)])) tz → Steps p.tables e below (T7.setTop (mkF m 13 #[.val (.long q0), .second, .val (.ref b1), .unset, .unset, .unset, .unset, .unset, .unset, .unset] [(.long (own_mix (q0 + (-7046029254386353131 : Int64))))])) tz := by
    intro tz kz
    refine XS.lstoreN X7.here hx rfl (hb hby at_13) rfl (l' := #[.val (.long q0), .second, .val (.ref b1), .val (.long (own_mix (q0 + (-7046029254386353131 : Int64)))), .second, .unset, .unset, .unset, .unset, .unset]) rfl ?_
    show Steps p.tables e below (T7.setTop (mkF m 14 #[.val (.long q0), .second, .val (.ref b1), .val (.long (own_mix (q0 + (-7046029254386353131 : Int64)))), .second, .unset, .unset, .unset, .unset, .unset] [])) _
    refine XS.aloadN X7.here hx rfl (hb hby at_14) rfl rfl ?_
    exact kz
  refine OG.step s10 ?_
  obtain ⟨cq11, kq11, q11a, q11b, q11c⟩ := isOf hZ rfl f8
  obtain ⟨_, _, ⟨T11, L11, k11, n11⟩, -, X11, ⟨Lc11, hQ11, l11, y11, z11⟩, st11⟩ := X7.virtualBack hx (y := (⟨"com/example/manyflow/manyflow/simulate/SeededRandom", "nextLong", "()J"⟩ : MethodName)) (z := (⟨"com/example/manyflow/manyflow/simulate/SeededRandom", "nextLong", "()J"⟩ : MethodName)) hown (mvT hZ (hw _ (List.mem_of_getElem? (i := 11) rfl))) (mvT hZ (hw _ (List.mem_of_getElem? (i := 12) rfl))) (notFace_of_selects (args := #[]) (mvT hZ (hw _ (List.mem_of_getElem? (i := 14) rfl)))) (mvT hZ (hw _ (List.mem_of_getElem? (i := 14) rfl))) (mvT hZ (hw _ (List.mem_of_getElem? (i := 13) rfl))) (by decide) (backOf (W := 0) (rm3 l Z a0 hw [] b1 (q0 + (-7046029254386353131 : Int64)) T7.heap n0 (Nat.le_trans Z0 K7.1) f8 p7_0 ge1) hZ (hw _ (List.mem_of_getElem? (i := 15) rfl)) (hw _ (List.mem_of_getElem? (i := 2) rfl)) (by decide) (by decide)) q11a q11c (g := (mkF m 15 #[.val (.long q0), .second, .val (.ref b1), .val (.long (own_mix (q0 + (-7046029254386353131 : Int64)))), .second, .unset, .unset, .unset, .unset, .unset] [(.ref b1)])) rfl (by rw [hml]; rfl) (Steps.refl _) (argsL := []) (rest := []) (lenOf pd___J rfl) rfl (by show 2 * 0 + _ ≤ _; exact Nat.le_of_eq rfl) (hb hby at_15) (fun _ _ => ⟨rfl, rfl, (by decide : 1 + 0 ≤ _), (by decide : 1 + 0 ≤ _)⟩)
  dsimp only [Pt.U, Pt.locs, Pt.cells, Pt.slots] at X11 l11 y11 z11 st11 hQ11
  subst l11 y11 z11
  obtain ⟨rfl, N11q, Kc11, p11_0⟩ := hQ11
  have N11 := Fr.app N7 N11q
  refine OG.step (fun tz kz => st11.trans kz) ?_
  have f12 := f8.keep Kc11
  have K11 := K7.trans Kc11 (allS (Or.inr sz1) all0)
  show OG _ _ _ _ _ _ _ (T11.setTop (mkF m 18 #[.val (.long q0), .second, .val (.ref b1), .val (.long (own_mix (q0 + (-7046029254386353131 : Int64)))), .second, .unset, .unset, .unset, .unset, .unset] [(.long (own_mix ((q0 + (-7046029254386353131 : Int64)) + (-7046029254386353131 : Int64))))]))
  have s14 : ∀ tz, Steps p.tables e below (T11.setTop (mkF m 21 #[.val (.long q0), .second, .val (.ref b1), .val (.long (own_mix (q0 + (-7046029254386353131 : Int64)))), .second, .val (.long (own_mix ((q0 + (-7046029254386353131 : Int64)) + (-7046029254386353131 : Int64)))), .second, .unset, .unset, .unset] [(.ref b1)])) tz → Steps p.tables e below (T11.setTop (mkF m 18 #[.val (.long q0), .second, .val (.ref b1), .val (.long (own_mix (q0 + (-7046029254386353131 : Int64)))), .second, .unset, .unset, .unset, .unset, .unset] [(.long (own_mix ((q0 + (-7046029254386353131 : Int64)) + (-7046029254386353131 : Int64))))])) tz := by
    intro tz kz
    refine XS.lstore X11.here hx rfl (hb hby at_18) rfl (l' := #[.val (.long q0), .second, .val (.ref b1), .val (.long (own_mix (q0 + (-7046029254386353131 : Int64)))), .second, .val (.long (own_mix ((q0 + (-7046029254386353131 : Int64)) + (-7046029254386353131 : Int64)))), .second, .unset, .unset, .unset]) rfl ?_
    show Steps p.tables e below (T11.setTop (mkF m 20 #[.val (.long q0), .second, .val (.ref b1), .val (.long (own_mix (q0 + (-7046029254386353131 : Int64)))), .second, .val (.long (own_mix ((q0 + (-7046029254386353131 : Int64)) + (-7046029254386353131 : Int64)))), .second, .unset, .unset, .unset] [])) _
    refine XS.aloadN X11.here hx rfl (hb hby at_20) rfl rfl ?_
    exact kz
  refine OG.step s14 ?_
  obtain ⟨cq15, kq15, q15a, q15b, q15c⟩ := isOf hZ rfl f12
  obtain ⟨_, _, ⟨T15, L15, k15, n15⟩, -, X15, ⟨Lc15, hQ15, l15, y15, z15⟩, st15⟩ := X11.virtualBack hx (y := (⟨"com/example/manyflow/manyflow/simulate/SeededRandom", "nextLong", "()J"⟩ : MethodName)) (z := (⟨"com/example/manyflow/manyflow/simulate/SeededRandom", "nextLong", "()J"⟩ : MethodName)) hown (mvT hZ (hw _ (List.mem_of_getElem? (i := 11) rfl))) (mvT hZ (hw _ (List.mem_of_getElem? (i := 12) rfl))) (notFace_of_selects (args := #[]) (mvT hZ (hw _ (List.mem_of_getElem? (i := 14) rfl)))) (mvT hZ (hw _ (List.mem_of_getElem? (i := 14) rfl))) (mvT hZ (hw _ (List.mem_of_getElem? (i := 13) rfl))) (by decide) (backOf (W := 0) (rm3 l Z a0 hw [] b1 ((q0 + (-7046029254386353131 : Int64)) + (-7046029254386353131 : Int64)) T11.heap n0 (Nat.le_trans Z0 K11.1) f12 p11_0 ge1) hZ (hw _ (List.mem_of_getElem? (i := 15) rfl)) (hw _ (List.mem_of_getElem? (i := 2) rfl)) (by decide) (by decide)) q15a q15c (g := (mkF m 21 #[.val (.long q0), .second, .val (.ref b1), .val (.long (own_mix (q0 + (-7046029254386353131 : Int64)))), .second, .val (.long (own_mix ((q0 + (-7046029254386353131 : Int64)) + (-7046029254386353131 : Int64)))), .second, .unset, .unset, .unset] [(.ref b1)])) rfl (by rw [hml]; rfl) (Steps.refl _) (argsL := []) (rest := []) (lenOf pd___J rfl) rfl (by show 2 * 0 + _ ≤ _; exact Nat.le_of_eq rfl) (hb hby at_21) (fun _ _ => ⟨rfl, rfl, (by decide : 1 + 0 ≤ _), (by decide : 1 + 0 ≤ _)⟩)
  dsimp only [Pt.U, Pt.locs, Pt.cells, Pt.slots] at X15 l15 y15 z15 st15 hQ15
  subst l15 y15 z15
  obtain ⟨rfl, N15q, Kc15, p15_0⟩ := hQ15
  have N15 := Fr.app N11 N15q
  refine OG.step (fun tz kz => st15.trans kz) ?_
  have f16 := f12.keep Kc15
  have K15 := K11.trans Kc15 (allS (Or.inr sz1) all0)
  show OG _ _ _ _ _ _ _ (T15.setTop (mkF m 24 #[.val (.long q0), .second, .val (.ref b1), .val (.long (own_mix (q0 + (-7046029254386353131 : Int64)))), .second, .val (.long (own_mix ((q0 + (-7046029254386353131 : Int64)) + (-7046029254386353131 : Int64)))), .second, .unset, .unset, .unset] [(.long (own_mix (((q0 + (-7046029254386353131 : Int64)) + (-7046029254386353131 : Int64)) + (-7046029254386353131 : Int64))))]))
  have s18 : ∀ tz, Steps p.tables e below (T15.setTop (mkF m 32 #[.val (.long q0), .second, .val (.ref b1), .val (.long (own_mix (q0 + (-7046029254386353131 : Int64)))), .second, .val (.long (own_mix ((q0 + (-7046029254386353131 : Int64)) + (-7046029254386353131 : Int64)))), .second, .val (.long (own_mix (((q0 + (-7046029254386353131 : Int64)) + (-7046029254386353131 : Int64)) + (-7046029254386353131 : Int64)))), .second, .unset] [(.long (-4658895280553007687 : Int64)), (.long (-4658895280553007687 : Int64))])) tz → Steps p.tables e below (T15.setTop (mkF m 24 #[.val (.long q0), .second, .val (.ref b1), .val (.long (own_mix (q0 + (-7046029254386353131 : Int64)))), .second, .val (.long (own_mix ((q0 + (-7046029254386353131 : Int64)) + (-7046029254386353131 : Int64)))), .second, .unset, .unset, .unset] [(.long (own_mix (((q0 + (-7046029254386353131 : Int64)) + (-7046029254386353131 : Int64)) + (-7046029254386353131 : Int64))))])) tz := by
    intro tz kz
    refine XS.lstore X15.here hx rfl (hb hby at_24) rfl (l' := #[.val (.long q0), .second, .val (.ref b1), .val (.long (own_mix (q0 + (-7046029254386353131 : Int64)))), .second, .val (.long (own_mix ((q0 + (-7046029254386353131 : Int64)) + (-7046029254386353131 : Int64)))), .second, .val (.long (own_mix (((q0 + (-7046029254386353131 : Int64)) + (-7046029254386353131 : Int64)) + (-7046029254386353131 : Int64)))), .second, .unset]) rfl ?_
    show Steps p.tables e below (T15.setTop (mkF m 26 #[.val (.long q0), .second, .val (.ref b1), .val (.long (own_mix (q0 + (-7046029254386353131 : Int64)))), .second, .val (.long (own_mix ((q0 + (-7046029254386353131 : Int64)) + (-7046029254386353131 : Int64)))), .second, .val (.long (own_mix (((q0 + (-7046029254386353131 : Int64)) + (-7046029254386353131 : Int64)) + (-7046029254386353131 : Int64)))), .second, .unset] [])) _
    refine X15.ldc2Long hx hown (mvT hZ (hw _ (List.mem_of_getElem? (i := 19) rfl))) (g := (mkF m 26 #[.val (.long q0), .second, .val (.ref b1), .val (.long (own_mix (q0 + (-7046029254386353131 : Int64)))), .second, .val (.long (own_mix ((q0 + (-7046029254386353131 : Int64)) + (-7046029254386353131 : Int64)))), .second, .val (.long (own_mix (((q0 + (-7046029254386353131 : Int64)) + (-7046029254386353131 : Int64)) + (-7046029254386353131 : Int64)))), .second, .unset] [])) rfl (hb hby at_26) _ ?_
    show Steps p.tables e below (T15.setTop (mkF m 29 #[.val (.long q0), .second, .val (.ref b1), .val (.long (own_mix (q0 + (-7046029254386353131 : Int64)))), .second, .val (.long (own_mix ((q0 + (-7046029254386353131 : Int64)) + (-7046029254386353131 : Int64)))), .second, .val (.long (own_mix (((q0 + (-7046029254386353131 : Int64)) + (-7046029254386353131 : Int64)) + (-7046029254386353131 : Int64)))), .second, .unset] [(.long (-4658895280553007687 : Int64))])) _
    refine X15.ldc2Long hx hown (mvT hZ (hw _ (List.mem_of_getElem? (i := 19) rfl))) (g := (mkF m 29 #[.val (.long q0), .second, .val (.ref b1), .val (.long (own_mix (q0 + (-7046029254386353131 : Int64)))), .second, .val (.long (own_mix ((q0 + (-7046029254386353131 : Int64)) + (-7046029254386353131 : Int64)))), .second, .val (.long (own_mix (((q0 + (-7046029254386353131 : Int64)) + (-7046029254386353131 : Int64)) + (-7046029254386353131 : Int64)))), .second, .unset] [(.long (-4658895280553007687 : Int64))])) rfl (hb hby at_29) _ ?_
    exact kz
  refine OG.step s18 ?_
  obtain ⟨_, _, ⟨T19, L19, k19, n19⟩, -, X19, ⟨Lc19, hQ19, l19, y19, z19⟩, st19⟩ := Jvm.LawKit.callS X15 hx (y := (⟨"com/example/manyflow/manyflow/simulate/SeededRandomNextLongPinLaw", "inverse", "(J)J"⟩ : MethodName)) hown (mvT hZ (hw _ (List.mem_of_getElem? (i := 20) rfl))) (mvT hZ (hw _ (List.mem_of_getElem? (i := 21) rfl))) (mvT hZ (hw _ (List.mem_of_getElem? (i := 22) rfl))) (mvT hZ (hw _ (List.mem_of_getElem? (i := 23) rfl))) (by decide) (backOf (W := 2) (rm4 l Z a0 hw [] (-4658895280553007687 : Int64) T15.heap n0 (Nat.le_trans Z0 K15.1)) hZ (hw _ (List.mem_of_getElem? (i := 23) rfl)) (hw _ (List.mem_of_getElem? (i := 22) rfl)) (by decide) (by decide)) (g := (mkF m 32 #[.val (.long q0), .second, .val (.ref b1), .val (.long (own_mix (q0 + (-7046029254386353131 : Int64)))), .second, .val (.long (own_mix ((q0 + (-7046029254386353131 : Int64)) + (-7046029254386353131 : Int64)))), .second, .val (.long (own_mix (((q0 + (-7046029254386353131 : Int64)) + (-7046029254386353131 : Int64)) + (-7046029254386353131 : Int64)))), .second, .unset] [(.long (-4658895280553007687 : Int64)), (.long (-4658895280553007687 : Int64))])) rfl (by rw [hml]; rfl) (argsL := [(.long (-4658895280553007687 : Int64))]) (rest := [(.long (-4658895280553007687 : Int64))]) (lenOf pd__J_J rfl) rfl (by show 2 * 0 + _ ≤ _; exact Nat.le_of_eq rfl) (hb hby at_32) (fun _ _ => ⟨rfl, rfl, (by decide : 1 + 0 ≤ _), (by decide : 1 + 0 ≤ _)⟩)
  dsimp only [Pt.U, Pt.locs, Pt.cells, Pt.slots] at X19 l19 y19 z19 st19 hQ19
  subst l19 y19 z19
  obtain ⟨rfl, N19q, e19⟩ := hQ19
  have N19 := Fr.app N15 N19q
  refine OG.step st19 ?_
  show OG _ _ _ _ _ _ _ (T19.setTop (mkF m 35 #[.val (.long q0), .second, .val (.ref b1), .val (.long (own_mix (q0 + (-7046029254386353131 : Int64)))), .second, .val (.long (own_mix ((q0 + (-7046029254386353131 : Int64)) + (-7046029254386353131 : Int64)))), .second, .val (.long (own_mix (((q0 + (-7046029254386353131 : Int64)) + (-7046029254386353131 : Int64)) + (-7046029254386353131 : Int64)))), .second, .unset] [(.long (own_inv (-4658895280553007687 : Int64))), (.long (-4658895280553007687 : Int64))]))
  have s20 : ∀ tz, Steps p.tables e below (T19.setTop (mkF m 47 #[.val (.long q0), .second, .val (.ref b1), .val (.long (own_mix (q0 + (-7046029254386353131 : Int64)))), .second, .val (.long (own_mix ((q0 + (-7046029254386353131 : Int64)) + (-7046029254386353131 : Int64)))), .second, .val (.long (own_mix (((q0 + (-7046029254386353131 : Int64)) + (-7046029254386353131 : Int64)) + (-7046029254386353131 : Int64)))), .second, .unset] [(.long (-7723592293110705685 : Int64)), (.long (-7723592293110705685 : Int64))])) tz → Steps p.tables e below (T19.setTop (mkF m 35 #[.val (.long q0), .second, .val (.ref b1), .val (.long (own_mix (q0 + (-7046029254386353131 : Int64)))), .second, .val (.long (own_mix ((q0 + (-7046029254386353131 : Int64)) + (-7046029254386353131 : Int64)))), .second, .val (.long (own_mix (((q0 + (-7046029254386353131 : Int64)) + (-7046029254386353131 : Int64)) + (-7046029254386353131 : Int64)))), .second, .unset] [(.long (own_inv (-4658895280553007687 : Int64))), (.long (-4658895280553007687 : Int64))])) tz := by
    intro tz kz
    refine XS.lmul X19.here hx rfl (hb hby at_35) rfl ?_
    show Steps p.tables e below (T19.setTop (mkF m 36 #[.val (.long q0), .second, .val (.ref b1), .val (.long (own_mix (q0 + (-7046029254386353131 : Int64)))), .second, .val (.long (own_mix ((q0 + (-7046029254386353131 : Int64)) + (-7046029254386353131 : Int64)))), .second, .val (.long (own_mix (((q0 + (-7046029254386353131 : Int64)) + (-7046029254386353131 : Int64)) + (-7046029254386353131 : Int64)))), .second, .unset] [(.long ((-4658895280553007687 : Int64) * (own_inv (-4658895280553007687 : Int64))))])) _
    refine XS.lconst X19.here hx rfl (hb hby at_36) ?_
    show Steps p.tables e below (T19.setTop (mkF m 37 #[.val (.long q0), .second, .val (.ref b1), .val (.long (own_mix (q0 + (-7046029254386353131 : Int64)))), .second, .val (.long (own_mix ((q0 + (-7046029254386353131 : Int64)) + (-7046029254386353131 : Int64)))), .second, .val (.long (own_mix (((q0 + (-7046029254386353131 : Int64)) + (-7046029254386353131 : Int64)) + (-7046029254386353131 : Int64)))), .second, .unset] [(.long (1 : Int64)), (.long ((-4658895280553007687 : Int64) * (own_inv (-4658895280553007687 : Int64))))])) _
    refine XS.lcmp X19.here hx rfl (hb hby at_37) rfl ?_
    show Steps p.tables e below (T19.setTop (mkF m 38 #[.val (.long q0), .second, .val (.ref b1), .val (.long (own_mix (q0 + (-7046029254386353131 : Int64)))), .second, .val (.long (own_mix ((q0 + (-7046029254386353131 : Int64)) + (-7046029254386353131 : Int64)))), .second, .val (.long (own_mix (((q0 + (-7046029254386353131 : Int64)) + (-7046029254386353131 : Int64)) + (-7046029254386353131 : Int64)))), .second, .unset] [(.int (lcmpW ((-4658895280553007687 : Int64) * (own_inv (-4658895280553007687 : Int64))) (1 : Int64)))])) _
    refine XS.ifNo X19.here hx rfl (hb hby at_38) rfl ((if0 _ _).trans (teq ((lw_eq ((-4658895280553007687 : Int64) * (own_inv (-4658895280553007687 : Int64))) (1 : Int64)).mpr own_i1)).2) ?_
    show Steps p.tables e below (T19.setTop (mkF m 41 #[.val (.long q0), .second, .val (.ref b1), .val (.long (own_mix (q0 + (-7046029254386353131 : Int64)))), .second, .val (.long (own_mix ((q0 + (-7046029254386353131 : Int64)) + (-7046029254386353131 : Int64)))), .second, .val (.long (own_mix (((q0 + (-7046029254386353131 : Int64)) + (-7046029254386353131 : Int64)) + (-7046029254386353131 : Int64)))), .second, .unset] [])) _
    refine X19.ldc2Long hx hown (mvT hZ (hw _ (List.mem_of_getElem? (i := 25) rfl))) (g := (mkF m 41 #[.val (.long q0), .second, .val (.ref b1), .val (.long (own_mix (q0 + (-7046029254386353131 : Int64)))), .second, .val (.long (own_mix ((q0 + (-7046029254386353131 : Int64)) + (-7046029254386353131 : Int64)))), .second, .val (.long (own_mix (((q0 + (-7046029254386353131 : Int64)) + (-7046029254386353131 : Int64)) + (-7046029254386353131 : Int64)))), .second, .unset] [])) rfl (hb hby at_41) _ ?_
    show Steps p.tables e below (T19.setTop (mkF m 44 #[.val (.long q0), .second, .val (.ref b1), .val (.long (own_mix (q0 + (-7046029254386353131 : Int64)))), .second, .val (.long (own_mix ((q0 + (-7046029254386353131 : Int64)) + (-7046029254386353131 : Int64)))), .second, .val (.long (own_mix (((q0 + (-7046029254386353131 : Int64)) + (-7046029254386353131 : Int64)) + (-7046029254386353131 : Int64)))), .second, .unset] [(.long (-7723592293110705685 : Int64))])) _
    refine X19.ldc2Long hx hown (mvT hZ (hw _ (List.mem_of_getElem? (i := 25) rfl))) (g := (mkF m 44 #[.val (.long q0), .second, .val (.ref b1), .val (.long (own_mix (q0 + (-7046029254386353131 : Int64)))), .second, .val (.long (own_mix ((q0 + (-7046029254386353131 : Int64)) + (-7046029254386353131 : Int64)))), .second, .val (.long (own_mix (((q0 + (-7046029254386353131 : Int64)) + (-7046029254386353131 : Int64)) + (-7046029254386353131 : Int64)))), .second, .unset] [(.long (-7723592293110705685 : Int64))])) rfl (hb hby at_44) _ ?_
    exact kz
  refine OG.step s20 ?_
  obtain ⟨_, _, ⟨T21, L21, k21, n21⟩, -, X21, ⟨Lc21, hQ21, l21, y21, z21⟩, st21⟩ := Jvm.LawKit.callS X19 hx (y := (⟨"com/example/manyflow/manyflow/simulate/SeededRandomNextLongPinLaw", "inverse", "(J)J"⟩ : MethodName)) hown (mvT hZ (hw _ (List.mem_of_getElem? (i := 20) rfl))) (mvT hZ (hw _ (List.mem_of_getElem? (i := 21) rfl))) (mvT hZ (hw _ (List.mem_of_getElem? (i := 22) rfl))) (mvT hZ (hw _ (List.mem_of_getElem? (i := 23) rfl))) (by decide) (backOf (W := 2) (rm4 l Z a0 hw [] (-7723592293110705685 : Int64) T15.heap n0 (Nat.le_trans Z0 K15.1)) hZ (hw _ (List.mem_of_getElem? (i := 23) rfl)) (hw _ (List.mem_of_getElem? (i := 22) rfl)) (by decide) (by decide)) (g := (mkF m 47 #[.val (.long q0), .second, .val (.ref b1), .val (.long (own_mix (q0 + (-7046029254386353131 : Int64)))), .second, .val (.long (own_mix ((q0 + (-7046029254386353131 : Int64)) + (-7046029254386353131 : Int64)))), .second, .val (.long (own_mix (((q0 + (-7046029254386353131 : Int64)) + (-7046029254386353131 : Int64)) + (-7046029254386353131 : Int64)))), .second, .unset] [(.long (-7723592293110705685 : Int64)), (.long (-7723592293110705685 : Int64))])) rfl (by rw [hml]; rfl) (argsL := [(.long (-7723592293110705685 : Int64))]) (rest := [(.long (-7723592293110705685 : Int64))]) (lenOf pd__J_J rfl) rfl (by show 2 * 0 + _ ≤ _; exact Nat.le_of_eq rfl) (hb hby at_47) (fun _ _ => ⟨rfl, e19, (by decide : 1 + 0 ≤ _), (by decide : 1 + 0 ≤ _)⟩)
  dsimp only [Pt.U, Pt.locs, Pt.cells, Pt.slots] at X21 l21 y21 z21 st21 hQ21
  subst l21 y21 z21
  obtain ⟨rfl, N21q, e21⟩ := hQ21
  have N21 := Fr.app N19 N21q
  refine OG.step st21 ?_
  show OG _ _ _ _ _ _ _ (T21.setTop (mkF m 50 #[.val (.long q0), .second, .val (.ref b1), .val (.long (own_mix (q0 + (-7046029254386353131 : Int64)))), .second, .val (.long (own_mix ((q0 + (-7046029254386353131 : Int64)) + (-7046029254386353131 : Int64)))), .second, .val (.long (own_mix (((q0 + (-7046029254386353131 : Int64)) + (-7046029254386353131 : Int64)) + (-7046029254386353131 : Int64)))), .second, .unset] [(.long (own_inv (-7723592293110705685 : Int64))), (.long (-7723592293110705685 : Int64))]))
  have s22 : ∀ tz, Steps p.tables e below (T21.setTop (mkF m 69 #[.val (.long q0), .second, .val (.ref b1), .val (.long (own_mix (q0 + (-7046029254386353131 : Int64)))), .second, .val (.long (own_mix ((q0 + (-7046029254386353131 : Int64)) + (-7046029254386353131 : Int64)))), .second, .val (.long (own_mix (((q0 + (-7046029254386353131 : Int64)) + (-7046029254386353131 : Int64)) + (-7046029254386353131 : Int64)))), .second, .val (.int (1 : Int32))] [(.long (own_mix (q0 + (-7046029254386353131 : Int64))))])) tz → Steps p.tables e below (T21.setTop (mkF m 50 #[.val (.long q0), .second, .val (.ref b1), .val (.long (own_mix (q0 + (-7046029254386353131 : Int64)))), .second, .val (.long (own_mix ((q0 + (-7046029254386353131 : Int64)) + (-7046029254386353131 : Int64)))), .second, .val (.long (own_mix (((q0 + (-7046029254386353131 : Int64)) + (-7046029254386353131 : Int64)) + (-7046029254386353131 : Int64)))), .second, .unset] [(.long (own_inv (-7723592293110705685 : Int64))), (.long (-7723592293110705685 : Int64))])) tz := by
    intro tz kz
    refine XS.lmul X21.here hx rfl (hb hby at_50) rfl ?_
    show Steps p.tables e below (T21.setTop (mkF m 51 #[.val (.long q0), .second, .val (.ref b1), .val (.long (own_mix (q0 + (-7046029254386353131 : Int64)))), .second, .val (.long (own_mix ((q0 + (-7046029254386353131 : Int64)) + (-7046029254386353131 : Int64)))), .second, .val (.long (own_mix (((q0 + (-7046029254386353131 : Int64)) + (-7046029254386353131 : Int64)) + (-7046029254386353131 : Int64)))), .second, .unset] [(.long ((-7723592293110705685 : Int64) * (own_inv (-7723592293110705685 : Int64))))])) _
    refine XS.lconst X21.here hx rfl (hb hby at_51) ?_
    show Steps p.tables e below (T21.setTop (mkF m 52 #[.val (.long q0), .second, .val (.ref b1), .val (.long (own_mix (q0 + (-7046029254386353131 : Int64)))), .second, .val (.long (own_mix ((q0 + (-7046029254386353131 : Int64)) + (-7046029254386353131 : Int64)))), .second, .val (.long (own_mix (((q0 + (-7046029254386353131 : Int64)) + (-7046029254386353131 : Int64)) + (-7046029254386353131 : Int64)))), .second, .unset] [(.long (1 : Int64)), (.long ((-7723592293110705685 : Int64) * (own_inv (-7723592293110705685 : Int64))))])) _
    refine XS.lcmp X21.here hx rfl (hb hby at_52) rfl ?_
    show Steps p.tables e below (T21.setTop (mkF m 53 #[.val (.long q0), .second, .val (.ref b1), .val (.long (own_mix (q0 + (-7046029254386353131 : Int64)))), .second, .val (.long (own_mix ((q0 + (-7046029254386353131 : Int64)) + (-7046029254386353131 : Int64)))), .second, .val (.long (own_mix (((q0 + (-7046029254386353131 : Int64)) + (-7046029254386353131 : Int64)) + (-7046029254386353131 : Int64)))), .second, .unset] [(.int (lcmpW ((-7723592293110705685 : Int64) * (own_inv (-7723592293110705685 : Int64))) (1 : Int64)))])) _
    refine XS.ifNo X21.here hx rfl (hb hby at_53) rfl ((if0 _ _).trans (teq ((lw_eq ((-7723592293110705685 : Int64) * (own_inv (-7723592293110705685 : Int64))) (1 : Int64)).mpr own_i2)).2) ?_
    show Steps p.tables e below (T21.setTop (mkF m 56 #[.val (.long q0), .second, .val (.ref b1), .val (.long (own_mix (q0 + (-7046029254386353131 : Int64)))), .second, .val (.long (own_mix ((q0 + (-7046029254386353131 : Int64)) + (-7046029254386353131 : Int64)))), .second, .val (.long (own_mix (((q0 + (-7046029254386353131 : Int64)) + (-7046029254386353131 : Int64)) + (-7046029254386353131 : Int64)))), .second, .unset] [])) _
    refine XS.iconst X21.here hx rfl (hb hby at_56) ?_
    show Steps p.tables e below (T21.setTop (mkF m 57 #[.val (.long q0), .second, .val (.ref b1), .val (.long (own_mix (q0 + (-7046029254386353131 : Int64)))), .second, .val (.long (own_mix ((q0 + (-7046029254386353131 : Int64)) + (-7046029254386353131 : Int64)))), .second, .val (.long (own_mix (((q0 + (-7046029254386353131 : Int64)) + (-7046029254386353131 : Int64)) + (-7046029254386353131 : Int64)))), .second, .unset] [(.int (1 : Int32))])) _
    refine XS.goto X21.here hx rfl (pc0 := 57) (pc' := 61) rfl (hb hby at_57) (by decide) (by decide) ?_
    show Steps p.tables e below (T21.setTop (mkF m 61 #[.val (.long q0), .second, .val (.ref b1), .val (.long (own_mix (q0 + (-7046029254386353131 : Int64)))), .second, .val (.long (own_mix ((q0 + (-7046029254386353131 : Int64)) + (-7046029254386353131 : Int64)))), .second, .val (.long (own_mix (((q0 + (-7046029254386353131 : Int64)) + (-7046029254386353131 : Int64)) + (-7046029254386353131 : Int64)))), .second, .unset] [(.int (1 : Int32))])) _
    refine XS.istore X21.here hx rfl (hb hby at_61) rfl (l' := #[.val (.long q0), .second, .val (.ref b1), .val (.long (own_mix (q0 + (-7046029254386353131 : Int64)))), .second, .val (.long (own_mix ((q0 + (-7046029254386353131 : Int64)) + (-7046029254386353131 : Int64)))), .second, .val (.long (own_mix (((q0 + (-7046029254386353131 : Int64)) + (-7046029254386353131 : Int64)) + (-7046029254386353131 : Int64)))), .second, .val (.int (1 : Int32))]) rfl ?_
    show Steps p.tables e below (T21.setTop (mkF m 63 #[.val (.long q0), .second, .val (.ref b1), .val (.long (own_mix (q0 + (-7046029254386353131 : Int64)))), .second, .val (.long (own_mix ((q0 + (-7046029254386353131 : Int64)) + (-7046029254386353131 : Int64)))), .second, .val (.long (own_mix (((q0 + (-7046029254386353131 : Int64)) + (-7046029254386353131 : Int64)) + (-7046029254386353131 : Int64)))), .second, .val (.int (1 : Int32))] [])) _
    refine XS.iload X21.here hx rfl (hb hby at_63) rfl ?_
    show Steps p.tables e below (T21.setTop (mkF m 65 #[.val (.long q0), .second, .val (.ref b1), .val (.long (own_mix (q0 + (-7046029254386353131 : Int64)))), .second, .val (.long (own_mix ((q0 + (-7046029254386353131 : Int64)) + (-7046029254386353131 : Int64)))), .second, .val (.long (own_mix (((q0 + (-7046029254386353131 : Int64)) + (-7046029254386353131 : Int64)) + (-7046029254386353131 : Int64)))), .second, .val (.int (1 : Int32))] [(.int (1 : Int32))])) _
    refine XS.ifNo X21.here hx rfl (hb hby at_65) rfl ((if0 _ _).trans (feq (by decide)).1) ?_
    show Steps p.tables e below (T21.setTop (mkF m 68 #[.val (.long q0), .second, .val (.ref b1), .val (.long (own_mix (q0 + (-7046029254386353131 : Int64)))), .second, .val (.long (own_mix ((q0 + (-7046029254386353131 : Int64)) + (-7046029254386353131 : Int64)))), .second, .val (.long (own_mix (((q0 + (-7046029254386353131 : Int64)) + (-7046029254386353131 : Int64)) + (-7046029254386353131 : Int64)))), .second, .val (.int (1 : Int32))] [])) _
    refine XS.lloadN X21.here hx rfl (hb hby at_68) rfl ?_
    exact kz
  refine OG.step s22 ?_
  obtain ⟨_, _, ⟨T23, L23, k23, n23⟩, -, X23, ⟨Lc23, hQ23, l23, y23, z23⟩, st23⟩ := Jvm.LawKit.callS X21 hx (y := (⟨"com/example/manyflow/manyflow/simulate/SeededRandomNextLongPinLaw", "unmix", "(J)J"⟩ : MethodName)) hown (mvT hZ (hw _ (List.mem_of_getElem? (i := 26) rfl))) (mvT hZ (hw _ (List.mem_of_getElem? (i := 27) rfl))) (mvT hZ (hw _ (List.mem_of_getElem? (i := 22) rfl))) (mvT hZ (hw _ (List.mem_of_getElem? (i := 28) rfl))) (by decide) (backOf (W := 0) (rm5 l Z a0 hw [] (own_mix (q0 + (-7046029254386353131 : Int64))) T15.heap n0 (Nat.le_trans Z0 K15.1)) hZ (hw _ (List.mem_of_getElem? (i := 28) rfl)) (hw _ (List.mem_of_getElem? (i := 22) rfl)) (by decide) (by decide)) (g := (mkF m 69 #[.val (.long q0), .second, .val (.ref b1), .val (.long (own_mix (q0 + (-7046029254386353131 : Int64)))), .second, .val (.long (own_mix ((q0 + (-7046029254386353131 : Int64)) + (-7046029254386353131 : Int64)))), .second, .val (.long (own_mix (((q0 + (-7046029254386353131 : Int64)) + (-7046029254386353131 : Int64)) + (-7046029254386353131 : Int64)))), .second, .val (.int (1 : Int32))] [(.long (own_mix (q0 + (-7046029254386353131 : Int64))))])) rfl (by rw [hml]; rfl) (argsL := [(.long (own_mix (q0 + (-7046029254386353131 : Int64))))]) (rest := []) (lenOf pd__J_J rfl) rfl (by show 2 * 0 + _ ≤ _; exact Nat.le_of_eq rfl) (hb hby at_69) (fun _ _ => ⟨rfl, e21, (by decide : 1 + 0 ≤ _), (by decide : 1 + 0 ≤ _)⟩)
  dsimp only [Pt.U, Pt.locs, Pt.cells, Pt.slots] at X23 l23 y23 z23 st23 hQ23
  subst l23 y23 z23
  obtain ⟨rfl, N23q, e23⟩ := hQ23
  have N23 := Fr.app N21 N23q
  refine OG.step st23 ?_
  show OG _ _ _ _ _ _ _ (T23.setTop (mkF m 72 #[.val (.long q0), .second, .val (.ref b1), .val (.long (own_mix (q0 + (-7046029254386353131 : Int64)))), .second, .val (.long (own_mix ((q0 + (-7046029254386353131 : Int64)) + (-7046029254386353131 : Int64)))), .second, .val (.long (own_mix (((q0 + (-7046029254386353131 : Int64)) + (-7046029254386353131 : Int64)) + (-7046029254386353131 : Int64)))), .second, .val (.int (1 : Int32))] [(.long (own_unmix (own_mix (q0 + (-7046029254386353131 : Int64)))))]))
  have s24 : ∀ tz, Steps p.tables e below (T23.setTop (mkF m 83 #[.val (.long q0), .second, .val (.ref b1), .val (.long (own_mix (q0 + (-7046029254386353131 : Int64)))), .second, .val (.long (own_mix ((q0 + (-7046029254386353131 : Int64)) + (-7046029254386353131 : Int64)))), .second, .val (.long (own_mix (((q0 + (-7046029254386353131 : Int64)) + (-7046029254386353131 : Int64)) + (-7046029254386353131 : Int64)))), .second, .val (.int (1 : Int32))] [(.long (own_mix ((q0 + (-7046029254386353131 : Int64)) + (-7046029254386353131 : Int64))))])) tz → Steps p.tables e below (T23.setTop (mkF m 72 #[.val (.long q0), .second, .val (.ref b1), .val (.long (own_mix (q0 + (-7046029254386353131 : Int64)))), .second, .val (.long (own_mix ((q0 + (-7046029254386353131 : Int64)) + (-7046029254386353131 : Int64)))), .second, .val (.long (own_mix (((q0 + (-7046029254386353131 : Int64)) + (-7046029254386353131 : Int64)) + (-7046029254386353131 : Int64)))), .second, .val (.int (1 : Int32))] [(.long (own_unmix (own_mix (q0 + (-7046029254386353131 : Int64)))))])) tz := by
    intro tz kz
    refine XS.lloadN X23.here hx rfl (hb hby at_72) rfl ?_
    show Steps p.tables e below (T23.setTop (mkF m 73 #[.val (.long q0), .second, .val (.ref b1), .val (.long (own_mix (q0 + (-7046029254386353131 : Int64)))), .second, .val (.long (own_mix ((q0 + (-7046029254386353131 : Int64)) + (-7046029254386353131 : Int64)))), .second, .val (.long (own_mix (((q0 + (-7046029254386353131 : Int64)) + (-7046029254386353131 : Int64)) + (-7046029254386353131 : Int64)))), .second, .val (.int (1 : Int32))] [(.long q0), (.long (own_unmix (own_mix (q0 + (-7046029254386353131 : Int64)))))])) _
    refine X23.ldc2Long hx hown (mvT hZ (hw _ (List.mem_of_getElem? (i := 29) rfl))) (g := (mkF m 73 #[.val (.long q0), .second, .val (.ref b1), .val (.long (own_mix (q0 + (-7046029254386353131 : Int64)))), .second, .val (.long (own_mix ((q0 + (-7046029254386353131 : Int64)) + (-7046029254386353131 : Int64)))), .second, .val (.long (own_mix (((q0 + (-7046029254386353131 : Int64)) + (-7046029254386353131 : Int64)) + (-7046029254386353131 : Int64)))), .second, .val (.int (1 : Int32))] [(.long q0), (.long (own_unmix (own_mix (q0 + (-7046029254386353131 : Int64)))))])) rfl (hb hby at_73) _ ?_
    show Steps p.tables e below (T23.setTop (mkF m 76 #[.val (.long q0), .second, .val (.ref b1), .val (.long (own_mix (q0 + (-7046029254386353131 : Int64)))), .second, .val (.long (own_mix ((q0 + (-7046029254386353131 : Int64)) + (-7046029254386353131 : Int64)))), .second, .val (.long (own_mix (((q0 + (-7046029254386353131 : Int64)) + (-7046029254386353131 : Int64)) + (-7046029254386353131 : Int64)))), .second, .val (.int (1 : Int32))] [(.long (-7046029254386353131 : Int64)), (.long q0), (.long (own_unmix (own_mix (q0 + (-7046029254386353131 : Int64)))))])) _
    refine XS.ladd X23.here hx rfl (hb hby at_76) rfl ?_
    show Steps p.tables e below (T23.setTop (mkF m 77 #[.val (.long q0), .second, .val (.ref b1), .val (.long (own_mix (q0 + (-7046029254386353131 : Int64)))), .second, .val (.long (own_mix ((q0 + (-7046029254386353131 : Int64)) + (-7046029254386353131 : Int64)))), .second, .val (.long (own_mix (((q0 + (-7046029254386353131 : Int64)) + (-7046029254386353131 : Int64)) + (-7046029254386353131 : Int64)))), .second, .val (.int (1 : Int32))] [(.long (q0 + (-7046029254386353131 : Int64))), (.long (own_unmix (own_mix (q0 + (-7046029254386353131 : Int64)))))])) _
    refine XS.lcmp X23.here hx rfl (hb hby at_77) rfl ?_
    show Steps p.tables e below (T23.setTop (mkF m 78 #[.val (.long q0), .second, .val (.ref b1), .val (.long (own_mix (q0 + (-7046029254386353131 : Int64)))), .second, .val (.long (own_mix ((q0 + (-7046029254386353131 : Int64)) + (-7046029254386353131 : Int64)))), .second, .val (.long (own_mix (((q0 + (-7046029254386353131 : Int64)) + (-7046029254386353131 : Int64)) + (-7046029254386353131 : Int64)))), .second, .val (.int (1 : Int32))] [(.int (lcmpW (own_unmix (own_mix (q0 + (-7046029254386353131 : Int64)))) (q0 + (-7046029254386353131 : Int64))))])) _
    refine XS.ifNo X23.here hx rfl (hb hby at_78) rfl ((if0 _ _).trans (teq ((lw_eq (own_unmix (own_mix (q0 + (-7046029254386353131 : Int64)))) (q0 + (-7046029254386353131 : Int64))).mpr (own_um _))).2) ?_
    show Steps p.tables e below (T23.setTop (mkF m 81 #[.val (.long q0), .second, .val (.ref b1), .val (.long (own_mix (q0 + (-7046029254386353131 : Int64)))), .second, .val (.long (own_mix ((q0 + (-7046029254386353131 : Int64)) + (-7046029254386353131 : Int64)))), .second, .val (.long (own_mix (((q0 + (-7046029254386353131 : Int64)) + (-7046029254386353131 : Int64)) + (-7046029254386353131 : Int64)))), .second, .val (.int (1 : Int32))] [])) _
    refine XS.lload X23.here hx rfl (hb hby at_81) rfl ?_
    exact kz
  refine OG.step s24 ?_
  obtain ⟨_, _, ⟨T25, L25, k25, n25⟩, -, X25, ⟨Lc25, hQ25, l25, y25, z25⟩, st25⟩ := Jvm.LawKit.callS X23 hx (y := (⟨"com/example/manyflow/manyflow/simulate/SeededRandomNextLongPinLaw", "unmix", "(J)J"⟩ : MethodName)) hown (mvT hZ (hw _ (List.mem_of_getElem? (i := 26) rfl))) (mvT hZ (hw _ (List.mem_of_getElem? (i := 27) rfl))) (mvT hZ (hw _ (List.mem_of_getElem? (i := 22) rfl))) (mvT hZ (hw _ (List.mem_of_getElem? (i := 28) rfl))) (by decide) (backOf (W := 0) (rm5 l Z a0 hw [] (own_mix ((q0 + (-7046029254386353131 : Int64)) + (-7046029254386353131 : Int64))) T15.heap n0 (Nat.le_trans Z0 K15.1)) hZ (hw _ (List.mem_of_getElem? (i := 28) rfl)) (hw _ (List.mem_of_getElem? (i := 22) rfl)) (by decide) (by decide)) (g := (mkF m 83 #[.val (.long q0), .second, .val (.ref b1), .val (.long (own_mix (q0 + (-7046029254386353131 : Int64)))), .second, .val (.long (own_mix ((q0 + (-7046029254386353131 : Int64)) + (-7046029254386353131 : Int64)))), .second, .val (.long (own_mix (((q0 + (-7046029254386353131 : Int64)) + (-7046029254386353131 : Int64)) + (-7046029254386353131 : Int64)))), .second, .val (.int (1 : Int32))] [(.long (own_mix ((q0 + (-7046029254386353131 : Int64)) + (-7046029254386353131 : Int64))))])) rfl (by rw [hml]; rfl) (argsL := [(.long (own_mix ((q0 + (-7046029254386353131 : Int64)) + (-7046029254386353131 : Int64))))]) (rest := []) (lenOf pd__J_J rfl) rfl (by show 2 * 0 + _ ≤ _; exact Nat.le_of_eq rfl) (hb hby at_83) (fun _ _ => ⟨rfl, e23, (by decide : 1 + 0 ≤ _), (by decide : 1 + 0 ≤ _)⟩)
  dsimp only [Pt.U, Pt.locs, Pt.cells, Pt.slots] at X25 l25 y25 z25 st25 hQ25
  subst l25 y25 z25
  obtain ⟨rfl, N25q, e25⟩ := hQ25
  have N25 := Fr.app N23 N25q
  refine OG.step st25 ?_
  show OG _ _ _ _ _ _ _ (T25.setTop (mkF m 86 #[.val (.long q0), .second, .val (.ref b1), .val (.long (own_mix (q0 + (-7046029254386353131 : Int64)))), .second, .val (.long (own_mix ((q0 + (-7046029254386353131 : Int64)) + (-7046029254386353131 : Int64)))), .second, .val (.long (own_mix (((q0 + (-7046029254386353131 : Int64)) + (-7046029254386353131 : Int64)) + (-7046029254386353131 : Int64)))), .second, .val (.int (1 : Int32))] [(.long (own_unmix (own_mix ((q0 + (-7046029254386353131 : Int64)) + (-7046029254386353131 : Int64)))))]))
  have s26 : ∀ tz, Steps p.tables e below (T25.setTop (mkF m 97 #[.val (.long q0), .second, .val (.ref b1), .val (.long (own_mix (q0 + (-7046029254386353131 : Int64)))), .second, .val (.long (own_mix ((q0 + (-7046029254386353131 : Int64)) + (-7046029254386353131 : Int64)))), .second, .val (.long (own_mix (((q0 + (-7046029254386353131 : Int64)) + (-7046029254386353131 : Int64)) + (-7046029254386353131 : Int64)))), .second, .val (.int (1 : Int32))] [(.long (own_mix (((q0 + (-7046029254386353131 : Int64)) + (-7046029254386353131 : Int64)) + (-7046029254386353131 : Int64))))])) tz → Steps p.tables e below (T25.setTop (mkF m 86 #[.val (.long q0), .second, .val (.ref b1), .val (.long (own_mix (q0 + (-7046029254386353131 : Int64)))), .second, .val (.long (own_mix ((q0 + (-7046029254386353131 : Int64)) + (-7046029254386353131 : Int64)))), .second, .val (.long (own_mix (((q0 + (-7046029254386353131 : Int64)) + (-7046029254386353131 : Int64)) + (-7046029254386353131 : Int64)))), .second, .val (.int (1 : Int32))] [(.long (own_unmix (own_mix ((q0 + (-7046029254386353131 : Int64)) + (-7046029254386353131 : Int64)))))])) tz := by
    intro tz kz
    refine XS.lloadN X25.here hx rfl (hb hby at_86) rfl ?_
    show Steps p.tables e below (T25.setTop (mkF m 87 #[.val (.long q0), .second, .val (.ref b1), .val (.long (own_mix (q0 + (-7046029254386353131 : Int64)))), .second, .val (.long (own_mix ((q0 + (-7046029254386353131 : Int64)) + (-7046029254386353131 : Int64)))), .second, .val (.long (own_mix (((q0 + (-7046029254386353131 : Int64)) + (-7046029254386353131 : Int64)) + (-7046029254386353131 : Int64)))), .second, .val (.int (1 : Int32))] [(.long q0), (.long (own_unmix (own_mix ((q0 + (-7046029254386353131 : Int64)) + (-7046029254386353131 : Int64)))))])) _
    refine X25.ldc2Long hx hown (mvT hZ (hw _ (List.mem_of_getElem? (i := 30) rfl))) (g := (mkF m 87 #[.val (.long q0), .second, .val (.ref b1), .val (.long (own_mix (q0 + (-7046029254386353131 : Int64)))), .second, .val (.long (own_mix ((q0 + (-7046029254386353131 : Int64)) + (-7046029254386353131 : Int64)))), .second, .val (.long (own_mix (((q0 + (-7046029254386353131 : Int64)) + (-7046029254386353131 : Int64)) + (-7046029254386353131 : Int64)))), .second, .val (.int (1 : Int32))] [(.long q0), (.long (own_unmix (own_mix ((q0 + (-7046029254386353131 : Int64)) + (-7046029254386353131 : Int64)))))])) rfl (hb hby at_87) _ ?_
    show Steps p.tables e below (T25.setTop (mkF m 90 #[.val (.long q0), .second, .val (.ref b1), .val (.long (own_mix (q0 + (-7046029254386353131 : Int64)))), .second, .val (.long (own_mix ((q0 + (-7046029254386353131 : Int64)) + (-7046029254386353131 : Int64)))), .second, .val (.long (own_mix (((q0 + (-7046029254386353131 : Int64)) + (-7046029254386353131 : Int64)) + (-7046029254386353131 : Int64)))), .second, .val (.int (1 : Int32))] [(.long (4354685564936845354 : Int64)), (.long q0), (.long (own_unmix (own_mix ((q0 + (-7046029254386353131 : Int64)) + (-7046029254386353131 : Int64)))))])) _
    refine XS.ladd X25.here hx rfl (hb hby at_90) rfl ?_
    show Steps p.tables e below (T25.setTop (mkF m 91 #[.val (.long q0), .second, .val (.ref b1), .val (.long (own_mix (q0 + (-7046029254386353131 : Int64)))), .second, .val (.long (own_mix ((q0 + (-7046029254386353131 : Int64)) + (-7046029254386353131 : Int64)))), .second, .val (.long (own_mix (((q0 + (-7046029254386353131 : Int64)) + (-7046029254386353131 : Int64)) + (-7046029254386353131 : Int64)))), .second, .val (.int (1 : Int32))] [(.long (q0 + (4354685564936845354 : Int64))), (.long (own_unmix (own_mix ((q0 + (-7046029254386353131 : Int64)) + (-7046029254386353131 : Int64)))))])) _
    refine XS.lcmp X25.here hx rfl (hb hby at_91) rfl ?_
    show Steps p.tables e below (T25.setTop (mkF m 92 #[.val (.long q0), .second, .val (.ref b1), .val (.long (own_mix (q0 + (-7046029254386353131 : Int64)))), .second, .val (.long (own_mix ((q0 + (-7046029254386353131 : Int64)) + (-7046029254386353131 : Int64)))), .second, .val (.long (own_mix (((q0 + (-7046029254386353131 : Int64)) + (-7046029254386353131 : Int64)) + (-7046029254386353131 : Int64)))), .second, .val (.int (1 : Int32))] [(.int (lcmpW (own_unmix (own_mix ((q0 + (-7046029254386353131 : Int64)) + (-7046029254386353131 : Int64)))) (q0 + (4354685564936845354 : Int64))))])) _
    refine XS.ifNo X25.here hx rfl (hb hby at_92) rfl ((if0 _ _).trans (teq ((lw_eq (own_unmix (own_mix ((q0 + (-7046029254386353131 : Int64)) + (-7046029254386353131 : Int64)))) (q0 + (4354685564936845354 : Int64))).mpr ((own_um _).trans (own_g2 q0)))).2) ?_
    show Steps p.tables e below (T25.setTop (mkF m 95 #[.val (.long q0), .second, .val (.ref b1), .val (.long (own_mix (q0 + (-7046029254386353131 : Int64)))), .second, .val (.long (own_mix ((q0 + (-7046029254386353131 : Int64)) + (-7046029254386353131 : Int64)))), .second, .val (.long (own_mix (((q0 + (-7046029254386353131 : Int64)) + (-7046029254386353131 : Int64)) + (-7046029254386353131 : Int64)))), .second, .val (.int (1 : Int32))] [])) _
    refine XS.lload X25.here hx rfl (hb hby at_95) rfl ?_
    exact kz
  refine OG.step s26 ?_
  obtain ⟨_, _, ⟨T27, L27, k27, n27⟩, -, X27, ⟨Lc27, hQ27, l27, y27, z27⟩, st27⟩ := Jvm.LawKit.callS X25 hx (y := (⟨"com/example/manyflow/manyflow/simulate/SeededRandomNextLongPinLaw", "unmix", "(J)J"⟩ : MethodName)) hown (mvT hZ (hw _ (List.mem_of_getElem? (i := 26) rfl))) (mvT hZ (hw _ (List.mem_of_getElem? (i := 27) rfl))) (mvT hZ (hw _ (List.mem_of_getElem? (i := 22) rfl))) (mvT hZ (hw _ (List.mem_of_getElem? (i := 28) rfl))) (by decide) (backOf (W := 0) (rm5 l Z a0 hw [] (own_mix (((q0 + (-7046029254386353131 : Int64)) + (-7046029254386353131 : Int64)) + (-7046029254386353131 : Int64))) T15.heap n0 (Nat.le_trans Z0 K15.1)) hZ (hw _ (List.mem_of_getElem? (i := 28) rfl)) (hw _ (List.mem_of_getElem? (i := 22) rfl)) (by decide) (by decide)) (g := (mkF m 97 #[.val (.long q0), .second, .val (.ref b1), .val (.long (own_mix (q0 + (-7046029254386353131 : Int64)))), .second, .val (.long (own_mix ((q0 + (-7046029254386353131 : Int64)) + (-7046029254386353131 : Int64)))), .second, .val (.long (own_mix (((q0 + (-7046029254386353131 : Int64)) + (-7046029254386353131 : Int64)) + (-7046029254386353131 : Int64)))), .second, .val (.int (1 : Int32))] [(.long (own_mix (((q0 + (-7046029254386353131 : Int64)) + (-7046029254386353131 : Int64)) + (-7046029254386353131 : Int64))))])) rfl (by rw [hml]; rfl) (argsL := [(.long (own_mix (((q0 + (-7046029254386353131 : Int64)) + (-7046029254386353131 : Int64)) + (-7046029254386353131 : Int64))))]) (rest := []) (lenOf pd__J_J rfl) rfl (by show 2 * 0 + _ ≤ _; exact Nat.le_of_eq rfl) (hb hby at_97) (fun _ _ => ⟨rfl, e25, (by decide : 1 + 0 ≤ _), (by decide : 1 + 0 ≤ _)⟩)
  dsimp only [Pt.U, Pt.locs, Pt.cells, Pt.slots] at X27 l27 y27 z27 st27 hQ27
  subst l27 y27 z27
  obtain ⟨rfl, N27q, e27⟩ := hQ27
  have N27 := Fr.app N25 N27q
  refine OG.step st27 ?_
  show OG _ _ _ _ _ _ _ (T27.setTop (mkF m 100 #[.val (.long q0), .second, .val (.ref b1), .val (.long (own_mix (q0 + (-7046029254386353131 : Int64)))), .second, .val (.long (own_mix ((q0 + (-7046029254386353131 : Int64)) + (-7046029254386353131 : Int64)))), .second, .val (.long (own_mix (((q0 + (-7046029254386353131 : Int64)) + (-7046029254386353131 : Int64)) + (-7046029254386353131 : Int64)))), .second, .val (.int (1 : Int32))] [(.long (own_unmix (own_mix (((q0 + (-7046029254386353131 : Int64)) + (-7046029254386353131 : Int64)) + (-7046029254386353131 : Int64)))))]))
  have s28 : ∀ tz, Steps p.tables e below (T27.setTop (mkF m 114 #[.val (.long q0), .second, .val (.ref b1), .val (.long (own_mix (q0 + (-7046029254386353131 : Int64)))), .second, .val (.long (own_mix ((q0 + (-7046029254386353131 : Int64)) + (-7046029254386353131 : Int64)))), .second, .val (.long (own_mix (((q0 + (-7046029254386353131 : Int64)) + (-7046029254386353131 : Int64)) + (-7046029254386353131 : Int64)))), .second, .val (.int (1 : Int32))] [(.int (1 : Int32))])) tz → Steps p.tables e below (T27.setTop (mkF m 100 #[.val (.long q0), .second, .val (.ref b1), .val (.long (own_mix (q0 + (-7046029254386353131 : Int64)))), .second, .val (.long (own_mix ((q0 + (-7046029254386353131 : Int64)) + (-7046029254386353131 : Int64)))), .second, .val (.long (own_mix (((q0 + (-7046029254386353131 : Int64)) + (-7046029254386353131 : Int64)) + (-7046029254386353131 : Int64)))), .second, .val (.int (1 : Int32))] [(.long (own_unmix (own_mix (((q0 + (-7046029254386353131 : Int64)) + (-7046029254386353131 : Int64)) + (-7046029254386353131 : Int64)))))])) tz := by
    intro tz kz
    refine XS.lloadN X27.here hx rfl (hb hby at_100) rfl ?_
    show Steps p.tables e below (T27.setTop (mkF m 101 #[.val (.long q0), .second, .val (.ref b1), .val (.long (own_mix (q0 + (-7046029254386353131 : Int64)))), .second, .val (.long (own_mix ((q0 + (-7046029254386353131 : Int64)) + (-7046029254386353131 : Int64)))), .second, .val (.long (own_mix (((q0 + (-7046029254386353131 : Int64)) + (-7046029254386353131 : Int64)) + (-7046029254386353131 : Int64)))), .second, .val (.int (1 : Int32))] [(.long q0), (.long (own_unmix (own_mix (((q0 + (-7046029254386353131 : Int64)) + (-7046029254386353131 : Int64)) + (-7046029254386353131 : Int64)))))])) _
    refine X27.ldc2Long hx hown (mvT hZ (hw _ (List.mem_of_getElem? (i := 31) rfl))) (g := (mkF m 101 #[.val (.long q0), .second, .val (.ref b1), .val (.long (own_mix (q0 + (-7046029254386353131 : Int64)))), .second, .val (.long (own_mix ((q0 + (-7046029254386353131 : Int64)) + (-7046029254386353131 : Int64)))), .second, .val (.long (own_mix (((q0 + (-7046029254386353131 : Int64)) + (-7046029254386353131 : Int64)) + (-7046029254386353131 : Int64)))), .second, .val (.int (1 : Int32))] [(.long q0), (.long (own_unmix (own_mix (((q0 + (-7046029254386353131 : Int64)) + (-7046029254386353131 : Int64)) + (-7046029254386353131 : Int64)))))])) rfl (hb hby at_101) _ ?_
    show Steps p.tables e below (T27.setTop (mkF m 104 #[.val (.long q0), .second, .val (.ref b1), .val (.long (own_mix (q0 + (-7046029254386353131 : Int64)))), .second, .val (.long (own_mix ((q0 + (-7046029254386353131 : Int64)) + (-7046029254386353131 : Int64)))), .second, .val (.long (own_mix (((q0 + (-7046029254386353131 : Int64)) + (-7046029254386353131 : Int64)) + (-7046029254386353131 : Int64)))), .second, .val (.int (1 : Int32))] [(.long (-2691343689449507777 : Int64)), (.long q0), (.long (own_unmix (own_mix (((q0 + (-7046029254386353131 : Int64)) + (-7046029254386353131 : Int64)) + (-7046029254386353131 : Int64)))))])) _
    refine XS.ladd X27.here hx rfl (hb hby at_104) rfl ?_
    show Steps p.tables e below (T27.setTop (mkF m 105 #[.val (.long q0), .second, .val (.ref b1), .val (.long (own_mix (q0 + (-7046029254386353131 : Int64)))), .second, .val (.long (own_mix ((q0 + (-7046029254386353131 : Int64)) + (-7046029254386353131 : Int64)))), .second, .val (.long (own_mix (((q0 + (-7046029254386353131 : Int64)) + (-7046029254386353131 : Int64)) + (-7046029254386353131 : Int64)))), .second, .val (.int (1 : Int32))] [(.long (q0 + (-2691343689449507777 : Int64))), (.long (own_unmix (own_mix (((q0 + (-7046029254386353131 : Int64)) + (-7046029254386353131 : Int64)) + (-7046029254386353131 : Int64)))))])) _
    refine XS.lcmp X27.here hx rfl (hb hby at_105) rfl ?_
    show Steps p.tables e below (T27.setTop (mkF m 106 #[.val (.long q0), .second, .val (.ref b1), .val (.long (own_mix (q0 + (-7046029254386353131 : Int64)))), .second, .val (.long (own_mix ((q0 + (-7046029254386353131 : Int64)) + (-7046029254386353131 : Int64)))), .second, .val (.long (own_mix (((q0 + (-7046029254386353131 : Int64)) + (-7046029254386353131 : Int64)) + (-7046029254386353131 : Int64)))), .second, .val (.int (1 : Int32))] [(.int (lcmpW (own_unmix (own_mix (((q0 + (-7046029254386353131 : Int64)) + (-7046029254386353131 : Int64)) + (-7046029254386353131 : Int64)))) (q0 + (-2691343689449507777 : Int64))))])) _
    refine XS.ifNo X27.here hx rfl (hb hby at_106) rfl ((if0 _ _).trans (teq ((lw_eq (own_unmix (own_mix (((q0 + (-7046029254386353131 : Int64)) + (-7046029254386353131 : Int64)) + (-7046029254386353131 : Int64)))) (q0 + (-2691343689449507777 : Int64))).mpr ((own_um _).trans (own_g3 q0)))).2) ?_
    show Steps p.tables e below (T27.setTop (mkF m 109 #[.val (.long q0), .second, .val (.ref b1), .val (.long (own_mix (q0 + (-7046029254386353131 : Int64)))), .second, .val (.long (own_mix ((q0 + (-7046029254386353131 : Int64)) + (-7046029254386353131 : Int64)))), .second, .val (.long (own_mix (((q0 + (-7046029254386353131 : Int64)) + (-7046029254386353131 : Int64)) + (-7046029254386353131 : Int64)))), .second, .val (.int (1 : Int32))] [])) _
    refine XS.iconst X27.here hx rfl (hb hby at_109) ?_
    show Steps p.tables e below (T27.setTop (mkF m 110 #[.val (.long q0), .second, .val (.ref b1), .val (.long (own_mix (q0 + (-7046029254386353131 : Int64)))), .second, .val (.long (own_mix ((q0 + (-7046029254386353131 : Int64)) + (-7046029254386353131 : Int64)))), .second, .val (.long (own_mix (((q0 + (-7046029254386353131 : Int64)) + (-7046029254386353131 : Int64)) + (-7046029254386353131 : Int64)))), .second, .val (.int (1 : Int32))] [(.int (1 : Int32))])) _
    refine XS.goto X27.here hx rfl (pc0 := 110) (pc' := 114) rfl (hb hby at_110) (by decide) (by decide) ?_
    exact kz
  refine OG.step s28 ?_
  exact OG.retZ X27 hx hlk Bd.returns (hb hby at_114) (nar_1) e27 ⟨rfl, N27⟩ (by decide) (by decide)
set_option maxRecDepth 65536 in
set_option maxHeartbeats 40000000 in
theorem comes_1 {Post : Tables → Env → Array Value → State → Outcome → State → Prop} (hpost : ∀ tb e args s v u, (limb_1_1.after args s (.returned v) u = true ∧ limb_1_2.after args s (.returned v) u = true ∧ True) → FrameEnd s (.returned v) u (Jvm.fieldLocs frame_1_writes args s ++ Jvm.arrayLocs frame_1_arrays args s ++ Jvm.staticLocs frame_1_statics s) 16 128 → Post tb e args s (.returned v) u) :
    ArmFor flags0 classFile x code maxLocals ret World_1 tables_1 room_1 Calls_1 rest_1 Pre_1 Post := by
  intro l hfl _ _ p e ha hc hk s m args below hf hA hF happ hP
  obtain ⟨hcalls, hrest, hpre⟩ := hP
  obtain ⟨-, -, -, hnamed, -, -, -, hat⟩ := (Spec.applies_iff hf).mp happ
  obtain ⟨hg, hn⟩ := and_e (Cond.before_iff.mp (show (Jvm.Cond.and given_1 narrow_1).before args s = true from hpre))
  obtain ⟨hcount, hg0⟩ := and_e hg
  obtain ⟨w0, rfl⟩ : ∃ w0 : Value, args = #[w0] := by
    have hs : args.size = 1 := by simpa [Cond.value, given_1] using hcount
    obtain ⟨L⟩ := args
    match L, hs with
    | [w0], _ => exact ⟨w0, rfl⟩
  have hw := fun d (hd : d ∈ tables_1) => atoms_spec (ws := Jvm.Cond.code x code maxLocals ret :: tables_1) hat d (List.mem_cons_of_mem _ hd)
  obtain ⟨i0, ei0⟩ := isL_v hg0
  obtain rfl : w0 = (.long i0) := Option.some.inj ei0
  obtain ⟨n, o, h1, h2, h3, _, L, rfl, ⟨rfl, N⟩, hq⟩ := rm0 l s _ hw tables_1 i0 s.heap s.heap.size (Nat.le_refl _) p e ha hc hk s m _ below hf ((Spec.applies_iff_loose hf).mp happ).1 ⟨rfl, State.Warmed39.refl s, rfl⟩ trivial
  refine ⟨n, _, h1, h2, h3, hpost _ _ _ _ _ _ ⟨Cond.after_iff.mpr rfl, Cond.after_iff.mpr (eq_i res_at (Term.int_eval (1)) rfl), trivial⟩ ⟨hq.1, hq.2.1, (hq.2.2.sift fun y hy => Or.inr (N y hy)).mono (by decide) (by decide)⟩⟩
theorem main_1_1 : Claimed_1_1 := comes_1 fun _ _ _ _ _ _ h hF => ⟨h.1, hF⟩
theorem main_1_2 : Claimed_1_2 := comes_1 fun _ _ _ _ _ _ h hF => ⟨h.2.1, hF⟩
end Jvm.Pilot.@@N@@
namespace Jvm.Pilot.@@N@@
open Jvm Jvm.ClassFile Sem Op Lib Jvm.Free Jvm.Stand Jvm.Pilot.@@N@@.Jvm.D
/-! MADE BY PROGRAM (witnessworld.py) out of the Statement's table words and the real class files: 9 classes; the members and pool entries that the words name. The judged class is class 1, her method 3. -/
namespace start1
open Jvm.ClassFile
def u (s : String) : CpInfo := .utf8 (stringToUtf16 s)
/-- a pool by its gaps: so many unusable entries, then the entry; so many at the end -/
def gap : Nat → List CpInfo → List CpInfo
  | 0, r => r
  | n + 1, r => .unusable :: gap n r
def poolList (es : List (Nat × CpInfo)) (last : Nat) : List CpInfo := es.foldr (fun e r => gap e.1 (e.2 :: r)) (gap last [])
def pool (es : List (Nat × CpInfo)) (last : Nat) : Array CpInfo := ⟨poolList es last⟩
def fileOf (pool : Array CpInfo) (this : Nat) (attrs : Array Attribute := #[]) (ms : Array MethodInfo := #[]) (fl : Nat := 33) (sup : Nat := 0) (ifs : Array Nat := #[]) (fds : Array FieldInfo := #[]) : ClassFile where
  minorVersion := 0
  majorVersion := 65
  constantPool := pool
  accessFlags := fl
  thisClass := this
  superClass := sup
  interfaces := ifs
  fields := fds
  methods := ms
  attributes := attrs
def plain (name : String) (sup : Option ClassId) : Class where
  name := name
  kind := .ordinary
  loader := none
  accessFlags := 33
  super := sup
  interfaces := #[]
  cf := none
  fields := #[]
  methods := #[]
  instanceTypes := #[]
  staticTypes := #[]
  resolved := #[]
  callSites := []
  init := .initialized
  statics := none
  mirror := none

def pool0 : Array CpInfo := pool [(5, u "<init>"), (0, u "()V"), (1, .class_ 10), (1, u "java/lang/Object")] 113

def k0c0 : Code := { maxStack := 0, maxLocals := 1, code := object_method_1_code, exceptionTable := #[], attributes := #[] }
def k0m0 : Method := { name := "<init>", desc := "()V", sig := { parameters := [], returnType := none }, accessFlags := 1, code := some k0c0 }
/-- java/lang/Object -/
def k0 : Class := { plain "java/lang/Object" none with
  accessFlags := 33
  interfaces := #[]
  cf := some (fileOf pool0 8 #[] #[{ accessFlags := 1, nameIndex := 5, descriptorIndex := 6, attributes := #[] }] 33 0 #[] #[])
  fields := #[]
  methods := #[k0m0]
  instanceTypes := #[]
  staticTypes := #[]
  resolved := Array.replicate 124 none
  statics := none }

def pool1 : Array CpInfo := pool [(2, .class_ 4), (1, u "java/lang/Object"), (0, u "<init>"), (0, u "()V"), (0, .long 2), (1, .class_ 10), (0, u "com/example/manyflow/manyflow/simulate/SeededRandomNextLongPinLaw"), (0, .long 10723151780598845931), (1, .methodref 9 14), (0, .nameAndType 15 16), (0, u "inverse"), (0, u "(J)J"), (0, .long 13787848793156543929), (1, .class_ 20), (0, u "com/example/manyflow/manyflow/simulate/SeededRandom"), (0, .methodref 19 22), (0, .nameAndType 5 23), (0, u "(J)V"), (0, .methodref 19 25), (0, .nameAndType 26 27), (0, u "nextLong"), (0, u "()J"), (0, .methodref 9 29), (0, .nameAndType 30 16), (0, u "unmix"), (0, .long 11400714819323198485), (1, .long 4354685564936845354), (1, .long 15755400384260043839), (1, u "G"), (0, u "J"), (1, u "M1"), (0, u "M2"), (2, u "law"), (0, u "(J)Z")] 3

def k1m0 : Method := { name := "<init>", desc := "()V", sig := { parameters := [], returnType := none }, accessFlags := 1, code := none }
def k1c1 : Code := { maxStack := 8, maxLocals := 4, code := method_2_code, exceptionTable := #[], attributes := #[] }
def k1m1 : Method := { name := "inverse", desc := "(J)J", sig := { parameters := [.long], returnType := some .long }, accessFlags := 10, code := some k1c1 }
def k1c2 : Code := { maxStack := 5, maxLocals := 4, code := method_3_code, exceptionTable := #[], attributes := #[] }
def k1m2 : Method := { name := "unmix", desc := "(J)J", sig := { parameters := [.long], returnType := some .long }, accessFlags := 10, code := some k1c2 }
def k1c3 : Code := { maxStack := 6, maxLocals := 10, code := code, exceptionTable := #[], attributes := #[] }
def k1m3 : Method := { name := "law", desc := "(J)Z", sig := { parameters := [.long], returnType := some .boolean }, accessFlags := 9, code := some k1c3 }
/-- com/example/manyflow/manyflow/simulate/SeededRandomNextLongPinLaw -/
def k1 : Class := { plain "com/example/manyflow/manyflow/simulate/SeededRandomNextLongPinLaw" (some 0) with
  accessFlags := 49
  interfaces := #[]
  cf := some (fileOf pool1 9 #[] #[{ accessFlags := 1, nameIndex := 5, descriptorIndex := 6, attributes := #[] }, { accessFlags := 10, nameIndex := 15, descriptorIndex := 16, attributes := #[] }, { accessFlags := 10, nameIndex := 30, descriptorIndex := 16, attributes := #[] }, { accessFlags := 9, nameIndex := 44, descriptorIndex := 45, attributes := #[] }] 49 2 #[] #[{ accessFlags := 26, nameIndex := 37, descriptorIndex := 38, attributes := #[] }, { accessFlags := 26, nameIndex := 40, descriptorIndex := 38, attributes := #[] }, { accessFlags := 26, nameIndex := 41, descriptorIndex := 38, attributes := #[] }])
  fields := #[{ name := "G", type := .long, accessFlags := 26, slot := 0, constantValue := 0 }, { name := "M1", type := .long, accessFlags := 26, slot := 1, constantValue := 0 }, { name := "M2", type := .long, accessFlags := 26, slot := 2, constantValue := 0 }]
  methods := #[k1m0, k1m1, k1m2, k1m3]
  instanceTypes := #[]
  staticTypes := #[.long, .long, .long]
  resolved := Array.replicate 49 none
  statics := none }

def pool2 : Array CpInfo := pool [(1, .methodref 2 3), (0, .class_ 4), (0, .nameAndType 5 6), (0, u "java/lang/Object"), (0, u "<init>"), (0, u "()V"), (0, .fieldref 8 9), (0, .class_ 10), (0, .nameAndType 11 12), (0, u "com/example/manyflow/manyflow/simulate/SeededRandom"), (0, u "state"), (0, u "J"), (0, .long 11400714819323198485), (1, .long 13787848793156543929), (1, .long 10723151780598845931), (7, u "nextLong"), (0, u "()J"), (36, u "GAMMA"), (1, u "(J)V")] 10

def k2c0 : Code := { maxStack := 3, maxLocals := 3, code := prog_63_method_1_code, exceptionTable := #[], attributes := #[] }
def k2m0 : Method := { name := "<init>", desc := "(J)V", sig := { parameters := [.long], returnType := none }, accessFlags := 0, code := some k2c0 }
def k2c1 : Code := { maxStack := 5, maxLocals := 3, code := prog_63_method_2_code, exceptionTable := #[], attributes := #[] }
def k2m1 : Method := { name := "nextLong", desc := "()J", sig := { parameters := [], returnType := some .long }, accessFlags := 0, code := some k2c1 }
/-- com/example/manyflow/manyflow/simulate/SeededRandom -/
def k2 : Class := { plain "com/example/manyflow/manyflow/simulate/SeededRandom" (some 0) with
  accessFlags := 32
  interfaces := #[]
  cf := some (fileOf pool2 8 #[] #[{ accessFlags := 0, nameIndex := 5, descriptorIndex := 65, attributes := #[] }, { accessFlags := 0, nameIndex := 25, descriptorIndex := 26, attributes := #[] }] 32 2 #[] #[{ accessFlags := 26, nameIndex := 63, descriptorIndex := 12, attributes := #[] }, { accessFlags := 2, nameIndex := 11, descriptorIndex := 12, attributes := #[] }])
  fields := #[{ name := "GAMMA", type := .long, accessFlags := 26, slot := 0, constantValue := 0 }, { name := "state", type := .long, accessFlags := 2, slot := 0, constantValue := 0 }]
  methods := #[k2m0, k2m1]
  instanceTypes := #[.long]
  staticTypes := #[.long]
  resolved := Array.replicate 76 none
  statics := none }

def pool3 : Array CpInfo := pool [(1, u "java/lang/Cloneable"), (0, .class_ 1), (0, u "java/lang/Object"), (0, .class_ 3)] 3

/-- java/lang/Cloneable -/
def k3 : Class := { plain "java/lang/Cloneable" (some 0) with
  accessFlags := 1537
  interfaces := #[]
  cf := some (fileOf pool3 2 #[] #[] 1537 4 #[] #[])
  fields := #[]
  methods := #[]
  instanceTypes := #[]
  staticTypes := #[]
  resolved := Array.replicate 8 none
  statics := none }

def pool4 : Array CpInfo := pool [(1, u "java/io/Serializable"), (0, .class_ 1), (0, u "java/lang/Object"), (0, .class_ 3)] 3

/-- java/io/Serializable -/
def k4 : Class := { plain "java/io/Serializable" (some 0) with
  accessFlags := 1537
  interfaces := #[]
  cf := some (fileOf pool4 2 #[] #[] 1537 4 #[] #[])
  fields := #[]
  methods := #[]
  instanceTypes := #[]
  staticTypes := #[]
  resolved := Array.replicate 8 none
  statics := none }

/-- the primitive byte -/
def k5 : Class := { plain "byte" none with kind := .primitive 'B', accessFlags := 0x411 }
/-- [B -/
def k6 : Class := { plain "[B" (some 0) with kind := .array 5 .byte, interfaces := #[3, 4], accessFlags := 1041 }

/-- the primitive int -/
def k7 : Class := { plain "int" none with kind := .primitive 'I', accessFlags := 0x411 }
/-- [I -/
def k8 : Class := { plain "[I" (some 0) with kind := .array 7 .int, interfaces := #[3, 4], accessFlags := 1041 }

def heap : Heap := #[]
def classes : Array Class := #[k0, k1, k2, k3, k4, k5, k6, k7, k8]
def interned : List (Array UInt16 × Addr) := []
def slotsUsed : Nat := 0
def theMethod : MethodId := ⟨1, 3⟩
def args0 : Array Value := #[.long 5]
def aboutOver (below : List Frame) : State where
  vm := { classes := classes, interned := interned.toArray }
  heap := heap
  slotsUsed := slotsUsed
  threads := #[{ frames := .invoking theMethod args0 :: below }]
def below0 : List Frame := [.native { method := ⟨0, 0⟩, args := #[] }]
def about1 : State := aboutOver below0
def p0 : Program := .bare "" "" ""
def e0 : Env := launch0.env 0 0 0
theorem w_frames : about1.frames = Frame.invoking theMethod args0 :: below0 := rfl
set_option maxRecDepth 65536 in
theorem w_args : argsFit about1.vm theMethod args0 = true := by decide +kernel
set_option maxRecDepth 65536 in
theorem w_heap : heapFits about1 = true := by decide +kernel
set_option maxRecDepth 65536 in
theorem w_runnable : about1.curStatus? = some .runnable := by decide +kernel
set_option maxRecDepth 65536 in
theorem w_alone : about1.alone = true := by decide +kernel
set_option maxRecDepth 65536 in
theorem w_named : about1.methodNamed? x = some theMethod := by decide +kernel
set_option maxRecDepth 65536 in
theorem w_hears : about1.hears theMethod below0 = true := by decide +kernel
set_option maxRecDepth 65536 in
theorem w_ripe : about1.ripe theMethod args0 below0 = true := by decide +kernel
theorem w_running : about1.status = .running := rfl
set_option maxRecDepth 65536 in
theorem w_room : about1.hasRoom e0.platform room_1 = true :=
  launch0.hasRoom_least _ room_1 (by decide +kernel) (by decide +kernel) (by decide +kernel) (by decide +kernel) (by decide +kernel) (by decide +kernel)
theorem allAtoms_all (ts : List Jvm.Cond) (a : Array Jvm.Value) (st : Jvm.State) : (allAtoms ts).before a st = ts.all (fun c => c.before a st) := by
  induction ts with
  | nil => rfl
  | cons c t ih =>
    show (Jvm.Cond.and c (allAtoms t)).before a st = _
    rw [Jvm.Cond.before_and, ih, List.all_cons]
def words1 : List Jvm.Cond := Jvm.Cond.code x code maxLocals ret :: tables_1
/-- a 'code' word, met by the world's own term for the bytes: nothing is compared byte by byte -/
theorem code_word {y : MethodName} {bytes : ByteArray} {mx : Nat} {rt : Option FieldType} {a : Array Value} {s : State} {m : MethodId} {meth : Method} {c : Code} (h1 : s.methodNamed? y = some m) (h2 : s.vm.method? m = some meth) (h3 : meth.code = some c) (h4 : c.code = bytes)
    (h5 : (c.maxLocals == mx && c.exceptionTable.isEmpty && decide (c.maxStack ≤ mostOperands) && decide (meth.sig.returnType = rt) && !meth.locks && decide (parseMethodDescriptor y.desc = some meth.sig)) = true) : (Jvm.Cond.code y bytes mx rt).before a s = true := by
  simp only [Bool.and_eq_true, beq_iff_eq, Bool.not_eq_true', decide_eq_true_eq] at h5
  obtain ⟨⟨⟨⟨⟨g1, g2⟩, g3⟩, g4⟩, g5⟩, g6⟩ := h5
  simp [Cond.before, Cond.holds, Cond.value, h1, h2, h3, h4, g1, g2, g3, g4, g5, g6]
def isCode : Jvm.Cond → Bool
  | .code _ _ _ _ => true
  | _ => false
theorem all_split {L : List Jvm.Cond} {P : Jvm.Cond → Bool} (h1 : L.all (fun c => isCode c || P c) = true) (h2 : ∀ c ∈ L.filter isCode, P c = true) : L.all P = true := by
  refine List.all_eq_true.mpr fun c hc => ?_
  have h := List.all_eq_true.mp h1 c hc
  rcases Bool.eq_false_or_eq_true (isCode c) with hi | hi
  · exact h2 c (List.mem_filter.mpr ⟨hc, hi⟩)
  · simpa [hi] using h
set_option maxRecDepth 65536 in
theorem w_c0 : (Jvm.Cond.code x code maxLocals ret).before args0 about1 = true := code_word (m := ⟨1, 3⟩) (meth := k1m3) (c := k1c3) (by decide +kernel) rfl rfl rfl (by decide +kernel)
set_option maxRecDepth 65536 in
theorem w_c1 : (Jvm.Cond.code ({ cls := "com/example/manyflow/manyflow/simulate/SeededRandom", name := "<init>", desc := "(J)V" } : Jvm.MethodName) prog_63_method_1_code (3 : Nat) (Option.none : Option Jvm.ClassFile.FieldType)).before args0 about1 = true := code_word (m := ⟨2, 0⟩) (meth := k2m0) (c := k2c0) (by decide +kernel) rfl rfl rfl (by decide +kernel)
set_option maxRecDepth 65536 in
theorem w_c2 : (Jvm.Cond.code ({ cls := "java/lang/Object", name := "<init>", desc := "()V" } : Jvm.MethodName) object_method_1_code (1 : Nat) (Option.none : Option Jvm.ClassFile.FieldType)).before args0 about1 = true := code_word (m := ⟨0, 0⟩) (meth := k0m0) (c := k0c0) (by decide +kernel) rfl rfl rfl (by decide +kernel)
set_option maxRecDepth 65536 in
theorem w_c3 : (Jvm.Cond.code ({ cls := "com/example/manyflow/manyflow/simulate/SeededRandom", name := "nextLong", desc := "()J" } : Jvm.MethodName) prog_63_method_2_code (3 : Nat) (Option.some Jvm.ClassFile.FieldType.long)).before args0 about1 = true := code_word (m := ⟨2, 1⟩) (meth := k2m1) (c := k2c1) (by decide +kernel) rfl rfl rfl (by decide +kernel)
set_option maxRecDepth 65536 in
theorem w_c4 : (Jvm.Cond.code ({ cls := "com/example/manyflow/manyflow/simulate/SeededRandomNextLongPinLaw", name := "inverse", desc := "(J)J" } : Jvm.MethodName) method_2_code (4 : Nat) (Option.some Jvm.ClassFile.FieldType.long)).before args0 about1 = true := code_word (m := ⟨1, 1⟩) (meth := k1m1) (c := k1c1) (by decide +kernel) rfl rfl rfl (by decide +kernel)
set_option maxRecDepth 65536 in
theorem w_c5 : (Jvm.Cond.code ({ cls := "com/example/manyflow/manyflow/simulate/SeededRandomNextLongPinLaw", name := "unmix", desc := "(J)J" } : Jvm.MethodName) method_3_code (4 : Nat) (Option.some Jvm.ClassFile.FieldType.long)).before args0 about1 = true := code_word (m := ⟨1, 2⟩) (meth := k1m2) (c := k1c2) (by decide +kernel) rfl rfl rfl (by decide +kernel)
def codes1 : List Jvm.Cond := [Jvm.Cond.code x code maxLocals ret, Jvm.Cond.code ({ cls := "com/example/manyflow/manyflow/simulate/SeededRandom", name := "<init>", desc := "(J)V" } : Jvm.MethodName) prog_63_method_1_code (3 : Nat) (Option.none : Option Jvm.ClassFile.FieldType), Jvm.Cond.code ({ cls := "java/lang/Object", name := "<init>", desc := "()V" } : Jvm.MethodName) object_method_1_code (1 : Nat) (Option.none : Option Jvm.ClassFile.FieldType), Jvm.Cond.code ({ cls := "com/example/manyflow/manyflow/simulate/SeededRandom", name := "nextLong", desc := "()J" } : Jvm.MethodName) prog_63_method_2_code (3 : Nat) (Option.some Jvm.ClassFile.FieldType.long), Jvm.Cond.code ({ cls := "com/example/manyflow/manyflow/simulate/SeededRandomNextLongPinLaw", name := "inverse", desc := "(J)J" } : Jvm.MethodName) method_2_code (4 : Nat) (Option.some Jvm.ClassFile.FieldType.long), Jvm.Cond.code ({ cls := "com/example/manyflow/manyflow/simulate/SeededRandomNextLongPinLaw", name := "unmix", desc := "(J)J" } : Jvm.MethodName) method_3_code (4 : Nat) (Option.some Jvm.ClassFile.FieldType.long)]
set_option maxRecDepth 65536 in
theorem codes_eq : words1.filter isCode = codes1 := rfl
theorem w_codes : ∀ c ∈ words1.filter isCode, c.before args0 about1 = true := by
  rw [codes_eq]
  intro c hc
  simp only [codes1, List.mem_cons, List.not_mem_nil, or_false] at hc
  rcases hc with rfl | rfl | rfl | rfl | rfl | rfl
  · exact w_c0
  · exact w_c1
  · exact w_c2
  · exact w_c3
  · exact w_c4
  · exact w_c5
set_option maxRecDepth 65536 in
theorem w_t1 : (words1.take 24).all (fun c => isCode c || c.before args0 about1) = true := by decide +kernel
set_option maxRecDepth 65536 in
theorem w_t2 : (words1.drop 24).all (fun c => isCode c || c.before args0 about1) = true := by decide +kernel
theorem w_tables : (allAtoms (Jvm.Cond.code x code maxLocals ret :: tables_1)).before args0 about1 = true := by
  rw [allAtoms_all]
  show words1.all (fun c => c.before args0 about1) = true
  refine all_split ?_ w_codes
  rw [← List.take_append_drop 24 words1, List.all_append, w_t1, w_t2]
  rfl
set_option maxRecDepth 65536 in
theorem w_case : (Jvm.Cond.and given_1 narrow_1).before args0 about1 = true := by decide +kernel
theorem w_applies : (headSpec (Jvm.Cond.code x code maxLocals ret :: tables_1) room_1).applies x e0.platform about1 = true :=
  (Spec.applies_iff w_frames).mpr ⟨w_running, w_runnable, w_alone, w_named, w_hears, w_ripe, w_room, w_tables⟩
theorem atStart : AtStart classFile x code maxLocals ret World_1 tables_1 room_1 Calls_1 rest_1 Pre_1 launch0 p0 e0 about1 theMethod args0 below0 :=
  ⟨lists_1, trivial, launch0.admits_env _ _ _, launch0.least_env, fairChoices_fair.cas, fairChoices_fair.clock, w_frames, w_args, w_heap, w_applies, trivial, trivial, w_case⟩
end start1
theorem witness_1 : WitnessClaimed_1 := ⟨start1.p0, start1.e0, start1.about1, start1.theMethod, start1.args0, start1.below0, start1.atStart⟩
end Jvm.Pilot.@@N@@
