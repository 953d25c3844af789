import JvmDerived
import JvmDerived.Pilot.@@N@@Statement
import JvmDerived.Pilot.@@N@@Code
set_option linter.unusedVariables false
set_option linter.unusedSimpArgs false
namespace Jvm.RoadKit
open Sem ClassFile Op Lib Jvm.Stand Jvm.Free Jvm.LawKit
section New
variable {p : Program} {l : Launch} {e : Env} {R : Room} {s : State} {m : MethodId} {args : Array Value} {below : List Frame} {meth : Method} {c : Code} {T : State} {locs : List Loc} {cells slots : Nat}
theorem retI (X : Stand p l e R s m args below meth c T locs cells slots) (hx : p.tables.exec = Jvm.exec) {pc : Nat} {Ls : Array Slot} {z : Int32} {rest : List Value} (hret : meth.sig.returnType = some .int) (hd : decode c.code pc = .ok (.ireturn, 1)) {fs : List Frame}
    (hl : ∀ (f : JFrame) (acts : List Action), f.method = m → f.locked = none → f.entered = [] → (doReturn e (T.setTop f) acts (some (.int z))).1 = T.setFrames fs) : Steps p.tables e below (T.setTop (mkF m pc Ls (.int z :: rest))) (T.setFrames fs) := by
  have hm' : T.vm.method? m = some meth := X.method'
  have hn : narrow .int (.int z) = .int z := rfl
  show Steps p.tables e below (T.setTop { method := m, pc := pc, locals := Ls, stack := _ :: rest, locked := none }) _
  jvm_step X.here [X.here.top, hx, hd, hm', hret, hn]
  first | (intro acts; rw [hl _ acts rfl rfl rfl]) | rw [hl _ _ rfl rfl rfl]
  exact Steps.refl _
theorem retJ (X : Stand p l e R s m args below meth c T locs cells slots) (hx : p.tables.exec = Jvm.exec) {pc : Nat} {Ls : Array Slot} {z : Int64} {rest : List Value} (hret : meth.sig.returnType = some .long) (hd : decode c.code pc = .ok (.lreturn, 1)) {fs : List Frame}
    (hl : ∀ (f : JFrame) (acts : List Action), f.method = m → f.locked = none → f.entered = [] → (doReturn e (T.setTop f) acts (some (.long z))).1 = T.setFrames fs) : Steps p.tables e below (T.setTop (mkF m pc Ls (.long z :: rest))) (T.setFrames fs) := by
  have hm' : T.vm.method? m = some meth := X.method'
  have hn : narrow .long (.long z) = .long z := rfl
  show Steps p.tables e below (T.setTop { method := m, pc := pc, locals := Ls, stack := _ :: rest, locked := none }) _
  jvm_step X.here [X.here.top, hx, hd, hm', hret, hn, narrow]
  first | (intro acts; rw [hl _ acts rfl rfl rfl]) | rw [hl _ _ rfl rfl rfl]
  exact Steps.refl _
theorem retR (X : Stand p l e R s m args below meth c T locs cells slots) (hx : p.tables.exec = Jvm.exec) {pc : Nat} {Ls : Array Slot} {z : Addr} {rest : List Value} {ty : FieldType} (hret : meth.sig.returnType = some ty) (hty : ty.isReference = true) (hd : decode c.code pc = .ok (.areturn, 1)) {fs : List Frame}
    (hl : ∀ (f : JFrame) (acts : List Action), f.method = m → f.locked = none → f.entered = [] → (doReturn e (T.setTop f) acts (some (.ref z))).1 = T.setFrames fs) : Steps p.tables e below (T.setTop (mkF m pc Ls (.ref z :: rest))) (T.setFrames fs) := by
  have hm' : T.vm.method? m = some meth := X.method'
  show Steps p.tables e below (T.setTop { method := m, pc := pc, locals := Ls, stack := _ :: rest, locked := none }) _
  jvm_step X.here [X.here.top, hx, hd, hm', hret, hty, Value.isRef]
  first | (intro acts; rw [hl _ acts rfl rfl rfl]) | rw [hl _ _ rfl rfl rfl]
  exact Steps.refl _
theorem lremM {tb : Tables} [Ours tb] {target : State} {g : JFrame} (h : At T m c below) (hx : tb.exec = Jvm.exec) (hg : g.method = m) {x y : Int64} {rest : List Value} (hd : decode c.code g.pc = .ok (.lrem, 1)) (hs : g.stack = .long y :: .long x :: rest) (hy : y ≠ 0)
    (hr : Steps tb e below (T.setTop { g with pc := g.pc + 1, stack := .long (x % y) :: rest }) target) : Steps tb e below (T.setTop g) target := by
  rw [← lrem_mod] at hr
  exact XS.lrem h hx hg hd hs hy hr
end New
end Jvm.RoadKit
namespace Jvm.Pilot.@@N@@
open Jvm Jvm.ClassFile Sem Op Lib Jvm.Free Jvm.Stand Jvm.LawKit Jvm.RoadKit Bundle Jvm.Pilot.@@N@@.Jvm.D
/-- a Java boolean -/
def bI (P : Prop) [Decidable P] : Int32 := if P then 1 else 0
theorem bI_pos {P : Prop} [Decidable P] (h : P) : bI P = (1 : Int32) := if_pos h
theorem bI_neg {P : Prop} [Decidable P] (h : ¬ P) : bI P = (0 : Int32) := if_neg h
theorem bI_0 {P : Prop} [Decidable P] (h : ¬ P) : bI P = 0 := if_neg h
theorem bI_ne0 {P : Prop} [Decidable P] (h : P) : ¬ bI P = 0 := by rw [bI_pos h]; decide
theorem bI_iff {P Q : Prop} [Decidable P] [Decidable Q] : bI P = bI Q ↔ (P ↔ Q) := by
  by_cases p : P <;> by_cases q : Q <;> simp [bI, p, q]
theorem nar_0 : nar .boolean (0 : Int32) = 0 := by decide
theorem nar_1 : nar .boolean (1 : Int32) = 1 := by decide
theorem nar_bI (P : Prop) [Decidable P] : nar .boolean (bI P) = bI P := by by_cases p : P <;> simp [bI, p] <;> decide
/-- the run from st ends, and Q holds of what it returns and leaves -/
def OG (p : Program) (e : Env) (below : List Frame) (s : State) (Q : Option Value → Heap → List Loc → Prop) (cc ss : Nat) (st : State) : Prop :=
  ∃ s₂ o, Steps p.tables e below st s₂ ∧ s₂.status = .running ∧ Ended s₂ below o ∧ ∃ v L, o = .returned v ∧ Q v s₂.heap L ∧ FrameEnd s o s₂ L cc ss
section Out
variable {p : Program} {l : Launch} {e : Env} {R : Room} {s : State} {m : MethodId} {args : Array Value} {below : List Frame} {meth : Method} {c : Code} {T : State} {locs : List Loc} {cells slots : Nat} {Q : Option Value → Heap → List Loc → Prop} {cc ss : Nat} {h : Heap}
theorem OG.step {st st' : State} (h : ∀ t, Steps p.tables e below st' t → Steps p.tables e below st t) (g : OG p e below s Q cc ss st') : OG p e below s Q cc ss st := by
  obtain ⟨s₂, o, h1, r⟩ := g
  exact ⟨s₂, o, h _ h1, r⟩
theorem OG.out (X : Stand p l e R s m args below meth c T locs cells slots) {v : Option Value} (hv : meth.sig.returnType = none → v = none) (hlk : meth.locks = false) {g : JFrame} (eT : T.heap = h)
    (hs : ∀ fs, (∀ (f : JFrame) (acts : List Action), f.method = m → f.locked = none → f.entered = [] → (doReturn e (T.setTop f) acts v).1 = T.setFrames fs) → Steps p.tables e below (T.setTop g) (T.setFrames fs))
    (hQ : Q v h locs) (hc : cells ≤ cc) (hl : slots ≤ ss) : OG p e below s Q cc ss (T.setTop g) := by
  obtain ⟨fs, hr, hrun, hended, hW, hsame⟩ := X.leave (v := v) hv hlk
  exact ⟨_, _, hs fs hr, hrun, hended, _, _, rfl, by show Q v T.heap locs; rw [eT]; exact hQ, ⟨_, rfl⟩, hW, hsame.mono hc hl⟩
theorem OG.retV (X : Stand p l e R s m args below meth c T locs cells slots) (hx : p.tables.exec = Jvm.exec) (hlk : meth.locks = false) (hret : meth.sig.returnType = none) {pc : Nat} {Ls : Array Slot} (hd : decode c.code pc = .ok (.return_, 1)) (eT : T.heap = h) (hQ : Q none h locs) (hc : cells ≤ cc) (hl : slots ≤ ss) : OG p e below s Q cc ss (T.setTop (mkF m pc Ls [])) :=
  OG.out X (fun _ => rfl) hlk eT (fun _ hr => X.returnOut hx hret hd hr) hQ hc hl
theorem OG.retI (X : Stand p l e R s m args below meth c T locs cells slots) (hx : p.tables.exec = Jvm.exec) (hlk : meth.locks = false) (hret : meth.sig.returnType = some .int) {pc : Nat} {Ls : Array Slot} {z : Int32} {rest : List Value} (hd : decode c.code pc = .ok (.ireturn, 1)) (eT : T.heap = h) (hQ : Q (some (.int z)) h locs) (hc : cells ≤ cc) (hl : slots ≤ ss) : OG p e below s Q cc ss (T.setTop (mkF m pc Ls (.int z :: rest))) :=
  OG.out X (fun h => by rw [hret] at h; cases h) hlk eT (fun _ hr => Jvm.RoadKit.retI X hx hret hd hr) hQ hc hl
theorem OG.retJ (X : Stand p l e R s m args below meth c T locs cells slots) (hx : p.tables.exec = Jvm.exec) (hlk : meth.locks = false) (hret : meth.sig.returnType = some .long) {pc : Nat} {Ls : Array Slot} {z : Int64} {rest : List Value} (hd : decode c.code pc = .ok (.lreturn, 1)) (eT : T.heap = h) (hQ : Q (some (.long z)) h locs) (hc : cells ≤ cc) (hl : slots ≤ ss) : OG p e below s Q cc ss (T.setTop (mkF m pc Ls (.long z :: rest))) :=
  OG.out X (fun h => by rw [hret] at h; cases h) hlk eT (fun _ hr => Jvm.RoadKit.retJ X hx hret hd hr) hQ hc hl
theorem OG.retR (X : Stand p l e R s m args below meth c T locs cells slots) (hx : p.tables.exec = Jvm.exec) (hlk : meth.locks = false) {ty : FieldType} (hret : meth.sig.returnType = some ty) (hty : ty.isReference = true) {pc : Nat} {Ls : Array Slot} {z : Addr} {rest : List Value} (hd : decode c.code pc = .ok (.areturn, 1)) (eT : T.heap = h) (hQ : Q (some (.ref z)) h locs) (hc : cells ≤ cc) (hl : slots ≤ ss) : OG p e below s Q cc ss (T.setTop (mkF m pc Ls (.ref z :: rest))) :=
  OG.out X (fun h => by rw [hret] at h; cases h) hlk eT (fun _ hr => Jvm.RoadKit.retR X hx hret hty hd hr) hQ hc hl
theorem OG.retZ (X : Stand p l e R s m args below meth c T locs cells slots) (hx : p.tables.exec = Jvm.exec) (hlk : meth.locks = false) (hret : meth.sig.returnType = some .boolean) {pc : Nat} {Ls : Array Slot} {z z' : Int32} {rest : List Value} (hd : decode c.code pc = .ok (.ireturn, 1)) (hz : nar .boolean z = z') (eT : T.heap = h) (hQ : Q (some (.int z')) h locs) (hc : cells ≤ cc) (hl : slots ≤ ss) : OG p e below s Q cc ss (T.setTop (mkF m pc Ls (.int z :: rest))) := by
  subst hz
  exact OG.out X (fun h => by rw [hret] at h; cases h) hlk eT (fun _ hr => retN X hx (t := .boolean) hret (by simp) hd hr) hQ hc hl
end Out
theorem d1_0 : decode prog_50_method_1_code 0 = .ok (.aload_n 0, 1) := by decide +kernel
theorem d1_1 : decode prog_50_method_1_code 1 = .ok (.invokespecial 1, 3) := by decide +kernel
theorem d1_4 : decode prog_50_method_1_code 4 = .ok (.aload_n 0, 1) := by decide +kernel
theorem d1_5 : decode prog_50_method_1_code 5 = .ok (.iload_n 1, 1) := by decide +kernel
theorem d1_6 : decode prog_50_method_1_code 6 = .ok (.putfield 7, 3) := by decide +kernel
theorem d1_9 : decode prog_50_method_1_code 9 = .ok (.aload_n 0, 1) := by decide +kernel
theorem d1_10 : decode prog_50_method_1_code 10 = .ok (.iload_n 2, 1) := by decide +kernel
theorem d1_11 : decode prog_50_method_1_code 11 = .ok (.putfield 13, 3) := by decide +kernel
theorem d1_14 : decode prog_50_method_1_code 14 = .ok (.return_, 1) := by decide +kernel
theorem pn_com_example_ludus_ludus_PackingTask_Bag : plainName "com/example/ludus/ludus/PackingTask$Bag" = true := by first | (simp [plainName, overriddenIn]; done) | decide +kernel
theorem ef_1 (m : MethodId) (x0 : Addr) (x1 : Int32) (x2 : Int32) : entryFrame m #[(.ref x0), (.int x1), (.int x2)] 3 = mkF m 0 #[.val (.ref x0), .val (.int x1), .val (.int x2)] [] := by first | (simp [entryFrame, mkF, argsToLocals, Value.category]; done) | rfl
def Q1 (Z : State) (a1 : Addr) (q1 : Int32) (q2 : Int32) (u0 : Value) (u1 : Value) (h0 : Heap) (n0 : Nat) (v : Option Value) (h : Heap) (L : List Loc) : Prop := (v = none) ∧ (Fr n0 L) ∧ (Keep h0 h [a1]) ∧ (Fld Z h a1 "com/example/ludus/ludus/PackingTask$Bag" "width" "I" (.int q1)) ∧ (Fld Z h a1 "com/example/ludus/ludus/PackingTask$Bag" "height" "I" (.int q2))
abbrev rom_1 : Room := { frames := 1, cells := 0, slots := 0, locals := 12 }
set_option maxRecDepth 65536 in
set_option maxHeartbeats 40000000 in
theorem rm1 (l : Launch) (Z : State) (a0 : Array Value) (hw : ∀ d ∈ tables_1, d.before a0 Z = true) (ws : List Jvm.Cond) (a1 : Addr) (q1 : Int32) (q2 : Int32) (u0 : Value) (u1 : Value) (h0 : Heap) (n0 : Nat) (Z0 : n0 ≤ h0.size) (F0_a1 : Exa Z h0 a1 "com/example/ludus/ludus/PackingTask$Bag") (F1_a1_width : Fld Z h0 a1 "com/example/ludus/ludus/PackingTask$Bag" "width" "I" u0) (F2_a1_height : Fld Z h0 a1 "com/example/ludus/ludus/PackingTask$Bag" "height" "I" u1) (g_a1 : n0 ≤ a1) :
    MetFree l (⟨"com/example/ludus/ludus/PackingTask$Bag", "<init>", "(II)V"⟩ : MethodName) (head1 (Jvm.Cond.code (⟨"com/example/ludus/ludus/PackingTask$Bag", "<init>", "(II)V"⟩ : MethodName) prog_50_method_1_code 3 none :: ws) rom_1) (fun a U => a = #[(.ref a1), (.int q1), (.int q2)] ∧ Z.Warmed39 U.vm ∧ U.heap = h0) (fun _ _ _ _ _ => True) (fun _ U o U' => ∃ v L, o = .returned v ∧ Q1 Z a1 q1 q2 u0 u1 h0 n0 v U'.heap L ∧ FrameEnd U o U' L rom_1.cells rom_1.slots) := by
  refine MetFree.of_bodySF (plainFor_of_name pn_com_example_ludus_ludus_PackingTask_Bag) hisR ?_
  intro p e s m args below meth c s₁ Bd hml0 hP hK
  obtain ⟨rfl, hZ, hh⟩ := hP
  have hx := Bd.exec
  have hby := Bd.bytes
  have hlk := Bd.notSynchronized
  have hml : c.maxLocals = 3 := hml0
  have hown : s.vm.findClass "com/example/ludus/ludus/PackingTask$Bag" = some m.cls := findClass_of_methodNamed Bd.named
  have hnm := (name_of_methodNamed Bd.named Bd.method).1
  have X0 : Stand p l e rom_1 s m #[(.ref a1), (.int q1), (.int q2)] below meth c s₁ [] 0 0 := Stand.of_body Bd
  have e0 : s₁.heap = h0 := by rw [← hh, Bd.state]; rfl
  have N0 := Fr.nil n0
  have K0 : Keep h0 h0 [a1] := Keep.refl _ _
  refine (?_ : OG p e below s (Q1 Z a1 q1 q2 u0 u1 h0 n0) rom_1.cells rom_1.slots _)
  rw [ef_1]
  have s1 : ∀ t, Steps p.tables e below (s₁.setTop (mkF m 1 #[.val (.ref a1), .val (.int q1), .val (.int q2)] [(.ref a1)])) t → Steps p.tables e below (s₁.setTop (mkF m 0 #[.val (.ref a1), .val (.int q1), .val (.int q2)] [])) t := by
    intro t k
    refine XS.aloadN X0.here hx rfl (hb hby d1_0) rfl rfl ?_
    exact k
  refine OG.step s1 ?_
  obtain ⟨T2, X2, e2, st2⟩ := initO X0 hx hZ hown (hw _ (List.mem_of_getElem? (i := 6) rfl)) (hw _ (List.mem_of_getElem? (i := 7) rfl)) (hw _ (List.mem_of_getElem? (i := 8) rfl)) e0 (g := (mkF m 1 #[.val (.ref a1), .val (.int q1), .val (.int q2)] [(.ref a1)])) rfl (by rw [hml]; rfl) rfl (hb hby d1_1) (by decide) (W := 0) (by show 2 * 0 + _ ≤ _; exact Nat.le_of_eq rfl) (by decide)
  refine OG.step st2 ?_
  show OG _ _ _ _ _ _ _ (T2.setTop (mkF m 4 #[.val (.ref a1), .val (.int q1), .val (.int q2)] []))
  have s3 : ∀ t, Steps p.tables e below (T2.setTop (mkF m 6 #[.val (.ref a1), .val (.int q1), .val (.int q2)] [(.int q1), (.ref a1)])) t → Steps p.tables e below (T2.setTop (mkF m 4 #[.val (.ref a1), .val (.int q1), .val (.int q2)] [])) t := by
    intro t k
    refine XS.aloadN X2.here hx rfl (hb hby d1_4) rfl rfl ?_
    show Steps p.tables e below (T2.setTop (mkF m 5 #[.val (.ref a1), .val (.int q1), .val (.int q2)] [(.ref a1)])) _
    refine XS.iloadN X2.here hx rfl (hb hby d1_5) rfl ?_
    exact k
  refine OG.step s3 ?_
  obtain ⟨T4, h4, X4, e4, W4, st4⟩ := putF X2 hx hZ hown (host := "") (Or.inl (hw _ (List.mem_of_getElem? (i := 9) rfl))) Via.refl e2 F1_a1_width F0_a1 (Or.inr ⟨(hw _ (List.mem_of_getElem? (i := 10) rfl)), rfl, hnm⟩) (hw _ (List.mem_of_getElem? (i := 1) rfl)) (ty := .int) (by decide) rfl rfl (g := (mkF m 6 #[.val (.ref a1), .val (.int q1), .val (.int q2)] [(.int q1), (.ref a1)])) rfl rfl (hb hby d1_6)
  refine OG.step st4 ?_
  have fw4 := F1_a1_width.same W4
  have f5 := F0_a1.wr W4
  have f6 := F2_a1_height.other W4 (Or.inr (slot_ne (Or.inr (hw _ (List.mem_of_getElem? (i := 12) rfl))) (Or.inr (hw _ (List.mem_of_getElem? (i := 10) rfl))) (by decide) (t := .int) (t' := .int) (by decide) (by decide)))
  have K4 := K0.wr W4 (Or.inl (List.mem_of_getElem? (i := 0) rfl))
  have N4 := Fr.snoc X4 N0 g_a1
  show OG _ _ _ _ _ _ _ (T4.setTop (mkF m 9 #[.val (.ref a1), .val (.int q1), .val (.int q2)] []))
  have s7 : ∀ t, Steps p.tables e below (T4.setTop (mkF m 11 #[.val (.ref a1), .val (.int q1), .val (.int q2)] [(.int q2), (.ref a1)])) t → Steps p.tables e below (T4.setTop (mkF m 9 #[.val (.ref a1), .val (.int q1), .val (.int q2)] [])) t := by
    intro t k
    refine XS.aloadN X4.here hx rfl (hb hby d1_9) rfl rfl ?_
    show Steps p.tables e below (T4.setTop (mkF m 10 #[.val (.ref a1), .val (.int q1), .val (.int q2)] [(.ref a1)])) _
    refine XS.iloadN X4.here hx rfl (hb hby d1_10) rfl ?_
    exact k
  refine OG.step s7 ?_
  obtain ⟨T8, h8, X8, e8, W8, st8⟩ := putF X4 hx hZ hown (host := "") (Or.inl (hw _ (List.mem_of_getElem? (i := 11) rfl))) Via.refl e4 f6 f5 (Or.inr ⟨(hw _ (List.mem_of_getElem? (i := 12) rfl)), rfl, hnm⟩) (hw _ (List.mem_of_getElem? (i := 1) rfl)) (ty := .int) (by decide) rfl rfl (g := (mkF m 11 #[.val (.ref a1), .val (.int q1), .val (.int q2)] [(.int q2), (.ref a1)])) rfl rfl (hb hby d1_11)
  refine OG.step st8 ?_
  have fw8 := f6.same W8
  have f9 := f5.wr W8
  have f10 := fw4.other W8 (Or.inr (slot_ne (Or.inr (hw _ (List.mem_of_getElem? (i := 10) rfl))) (Or.inr (hw _ (List.mem_of_getElem? (i := 12) rfl))) (by decide) (t := .int) (t' := .int) (by decide) (by decide)))
  have K8 := K4.wr W8 (Or.inl (List.mem_of_getElem? (i := 0) rfl))
  have N8 := Fr.snoc X8 N4 g_a1
  show OG _ _ _ _ _ _ _ (T8.setTop (mkF m 14 #[.val (.ref a1), .val (.int q1), .val (.int q2)] []))
  exact OG.retV X8 hx hlk Bd.returns (hb hby d1_14) e8 ⟨rfl, N8, K8, f10, fw8⟩ (by decide) (by decide)
theorem d4_0 : decode prog_51_method_1_code 0 = .ok (.aload_n 0, 1) := by decide +kernel
theorem d4_1 : decode prog_51_method_1_code 1 = .ok (.invokespecial 1, 3) := by decide +kernel
theorem d4_4 : decode prog_51_method_1_code 4 = .ok (.aload_n 0, 1) := by decide +kernel
theorem d4_5 : decode prog_51_method_1_code 5 = .ok (.iload_n 1, 1) := by decide +kernel
theorem d4_6 : decode prog_51_method_1_code 6 = .ok (.putfield 7, 3) := by decide +kernel
theorem d4_9 : decode prog_51_method_1_code 9 = .ok (.aload_n 0, 1) := by decide +kernel
theorem d4_10 : decode prog_51_method_1_code 10 = .ok (.iload_n 2, 1) := by decide +kernel
theorem d4_11 : decode prog_51_method_1_code 11 = .ok (.putfield 13, 3) := by decide +kernel
theorem d4_14 : decode prog_51_method_1_code 14 = .ok (.aload_n 0, 1) := by decide +kernel
theorem d4_15 : decode prog_51_method_1_code 15 = .ok (.iload_n 3, 1) := by decide +kernel
theorem d4_16 : decode prog_51_method_1_code 16 = .ok (.putfield 16, 3) := by decide +kernel
theorem d4_19 : decode prog_51_method_1_code 19 = .ok (.return_, 1) := by decide +kernel
theorem pn_com_example_ludus_ludus_PackingTask_Good : plainName "com/example/ludus/ludus/PackingTask$Good" = true := by first | (simp [plainName, overriddenIn]; done) | decide +kernel
theorem ef_4 (m : MethodId) (x0 : Addr) (x1 : Int32) (x2 : Int32) (x3 : Int32) : entryFrame m #[(.ref x0), (.int x1), (.int x2), (.int x3)] 4 = mkF m 0 #[.val (.ref x0), .val (.int x1), .val (.int x2), .val (.int x3)] [] := by first | (simp [entryFrame, mkF, argsToLocals, Value.category]; done) | rfl
def Q4 (Z : State) (a1 : Addr) (q1 : Int32) (q2 : Int32) (q3 : Int32) (u0 : Value) (u1 : Value) (u2 : Value) (h0 : Heap) (n0 : Nat) (v : Option Value) (h : Heap) (L : List Loc) : Prop := (v = none) ∧ (Fr n0 L) ∧ (Keep h0 h [a1]) ∧ (Fld Z h a1 "com/example/ludus/ludus/PackingTask$Good" "width" "I" (.int q1)) ∧ (Fld Z h a1 "com/example/ludus/ludus/PackingTask$Good" "height" "I" (.int q2)) ∧ (Fld Z h a1 "com/example/ludus/ludus/PackingTask$Good" "value" "I" (.int q3))
abbrev rom_4 : Room := { frames := 1, cells := 0, slots := 0, locals := 12 }
set_option maxRecDepth 65536 in
set_option maxHeartbeats 40000000 in
theorem rm4 (l : Launch) (Z : State) (a0 : Array Value) (hw : ∀ d ∈ tables_1, d.before a0 Z = true) (ws : List Jvm.Cond) (a1 : Addr) (q1 : Int32) (q2 : Int32) (q3 : Int32) (u0 : Value) (u1 : Value) (u2 : Value) (h0 : Heap) (n0 : Nat) (Z0 : n0 ≤ h0.size) (F0_a1 : Exa Z h0 a1 "com/example/ludus/ludus/PackingTask$Good") (F1_a1_width : Fld Z h0 a1 "com/example/ludus/ludus/PackingTask$Good" "width" "I" u0) (F2_a1_height : Fld Z h0 a1 "com/example/ludus/ludus/PackingTask$Good" "height" "I" u1) (F3_a1_value : Fld Z h0 a1 "com/example/ludus/ludus/PackingTask$Good" "value" "I" u2) (g_a1 : n0 ≤ a1) :
    MetFree l (⟨"com/example/ludus/ludus/PackingTask$Good", "<init>", "(III)V"⟩ : MethodName) (head1 (Jvm.Cond.code (⟨"com/example/ludus/ludus/PackingTask$Good", "<init>", "(III)V"⟩ : MethodName) prog_51_method_1_code 4 none :: ws) rom_4) (fun a U => a = #[(.ref a1), (.int q1), (.int q2), (.int q3)] ∧ Z.Warmed39 U.vm ∧ U.heap = h0) (fun _ _ _ _ _ => True) (fun _ U o U' => ∃ v L, o = .returned v ∧ Q4 Z a1 q1 q2 q3 u0 u1 u2 h0 n0 v U'.heap L ∧ FrameEnd U o U' L rom_4.cells rom_4.slots) := by
  refine MetFree.of_bodySF (plainFor_of_name pn_com_example_ludus_ludus_PackingTask_Good) hisR ?_
  intro p e s m args below meth c s₁ Bd hml0 hP hK
  obtain ⟨rfl, hZ, hh⟩ := hP
  have hx := Bd.exec
  have hby := Bd.bytes
  have hlk := Bd.notSynchronized
  have hml : c.maxLocals = 4 := hml0
  have hown : s.vm.findClass "com/example/ludus/ludus/PackingTask$Good" = some m.cls := findClass_of_methodNamed Bd.named
  have hnm := (name_of_methodNamed Bd.named Bd.method).1
  have X0 : Stand p l e rom_4 s m #[(.ref a1), (.int q1), (.int q2), (.int q3)] below meth c s₁ [] 0 0 := Stand.of_body Bd
  have e0 : s₁.heap = h0 := by rw [← hh, Bd.state]; rfl
  have N0 := Fr.nil n0
  have K0 : Keep h0 h0 [a1] := Keep.refl _ _
  refine (?_ : OG p e below s (Q4 Z a1 q1 q2 q3 u0 u1 u2 h0 n0) rom_4.cells rom_4.slots _)
  rw [ef_4]
  have s1 : ∀ t, Steps p.tables e below (s₁.setTop (mkF m 1 #[.val (.ref a1), .val (.int q1), .val (.int q2), .val (.int q3)] [(.ref a1)])) t → Steps p.tables e below (s₁.setTop (mkF m 0 #[.val (.ref a1), .val (.int q1), .val (.int q2), .val (.int q3)] [])) t := by
    intro t k
    refine XS.aloadN X0.here hx rfl (hb hby d4_0) rfl rfl ?_
    exact k
  refine OG.step s1 ?_
  obtain ⟨T2, X2, e2, st2⟩ := initO X0 hx hZ hown (hw _ (List.mem_of_getElem? (i := 26) rfl)) (hw _ (List.mem_of_getElem? (i := 7) rfl)) (hw _ (List.mem_of_getElem? (i := 8) rfl)) e0 (g := (mkF m 1 #[.val (.ref a1), .val (.int q1), .val (.int q2), .val (.int q3)] [(.ref a1)])) rfl (by rw [hml]; rfl) rfl (hb hby d4_1) (by decide) (W := 0) (by show 2 * 0 + _ ≤ _; exact Nat.le_of_eq rfl) (by decide)
  refine OG.step st2 ?_
  show OG _ _ _ _ _ _ _ (T2.setTop (mkF m 4 #[.val (.ref a1), .val (.int q1), .val (.int q2), .val (.int q3)] []))
  have s3 : ∀ t, Steps p.tables e below (T2.setTop (mkF m 6 #[.val (.ref a1), .val (.int q1), .val (.int q2), .val (.int q3)] [(.int q1), (.ref a1)])) t → Steps p.tables e below (T2.setTop (mkF m 4 #[.val (.ref a1), .val (.int q1), .val (.int q2), .val (.int q3)] [])) t := by
    intro t k
    refine XS.aloadN X2.here hx rfl (hb hby d4_4) rfl rfl ?_
    show Steps p.tables e below (T2.setTop (mkF m 5 #[.val (.ref a1), .val (.int q1), .val (.int q2), .val (.int q3)] [(.ref a1)])) _
    refine XS.iloadN X2.here hx rfl (hb hby d4_5) rfl ?_
    exact k
  refine OG.step s3 ?_
  obtain ⟨T4, h4, X4, e4, W4, st4⟩ := putF X2 hx hZ hown (host := "") (Or.inl (hw _ (List.mem_of_getElem? (i := 27) rfl))) Via.refl e2 F1_a1_width F0_a1 (Or.inr ⟨(hw _ (List.mem_of_getElem? (i := 28) rfl)), rfl, hnm⟩) (hw _ (List.mem_of_getElem? (i := 21) rfl)) (ty := .int) (by decide) rfl rfl (g := (mkF m 6 #[.val (.ref a1), .val (.int q1), .val (.int q2), .val (.int q3)] [(.int q1), (.ref a1)])) rfl rfl (hb hby d4_6)
  refine OG.step st4 ?_
  have fw4 := F1_a1_width.same W4
  have f5 := F0_a1.wr W4
  have f6 := F2_a1_height.other W4 (Or.inr (slot_ne (Or.inr (hw _ (List.mem_of_getElem? (i := 30) rfl))) (Or.inr (hw _ (List.mem_of_getElem? (i := 28) rfl))) (by decide) (t := .int) (t' := .int) (by decide) (by decide)))
  have f7 := F3_a1_value.other W4 (Or.inr (slot_ne (Or.inr (hw _ (List.mem_of_getElem? (i := 32) rfl))) (Or.inr (hw _ (List.mem_of_getElem? (i := 28) rfl))) (by decide) (t := .int) (t' := .int) (by decide) (by decide)))
  have K4 := K0.wr W4 (Or.inl (List.mem_of_getElem? (i := 0) rfl))
  have N4 := Fr.snoc X4 N0 g_a1
  show OG _ _ _ _ _ _ _ (T4.setTop (mkF m 9 #[.val (.ref a1), .val (.int q1), .val (.int q2), .val (.int q3)] []))
  have s8 : ∀ t, Steps p.tables e below (T4.setTop (mkF m 11 #[.val (.ref a1), .val (.int q1), .val (.int q2), .val (.int q3)] [(.int q2), (.ref a1)])) t → Steps p.tables e below (T4.setTop (mkF m 9 #[.val (.ref a1), .val (.int q1), .val (.int q2), .val (.int q3)] [])) t := by
    intro t k
    refine XS.aloadN X4.here hx rfl (hb hby d4_9) rfl rfl ?_
    show Steps p.tables e below (T4.setTop (mkF m 10 #[.val (.ref a1), .val (.int q1), .val (.int q2), .val (.int q3)] [(.ref a1)])) _
    refine XS.iloadN X4.here hx rfl (hb hby d4_10) rfl ?_
    exact k
  refine OG.step s8 ?_
  obtain ⟨T9, h9, X9, e9, W9, st9⟩ := putF X4 hx hZ hown (host := "") (Or.inl (hw _ (List.mem_of_getElem? (i := 29) rfl))) Via.refl e4 f6 f5 (Or.inr ⟨(hw _ (List.mem_of_getElem? (i := 30) rfl)), rfl, hnm⟩) (hw _ (List.mem_of_getElem? (i := 21) rfl)) (ty := .int) (by decide) rfl rfl (g := (mkF m 11 #[.val (.ref a1), .val (.int q1), .val (.int q2), .val (.int q3)] [(.int q2), (.ref a1)])) rfl rfl (hb hby d4_11)
  refine OG.step st9 ?_
  have fw9 := f6.same W9
  have f10 := f5.wr W9
  have f11 := f7.other W9 (Or.inr (slot_ne (Or.inr (hw _ (List.mem_of_getElem? (i := 32) rfl))) (Or.inr (hw _ (List.mem_of_getElem? (i := 30) rfl))) (by decide) (t := .int) (t' := .int) (by decide) (by decide)))
  have f12 := fw4.other W9 (Or.inr (slot_ne (Or.inr (hw _ (List.mem_of_getElem? (i := 28) rfl))) (Or.inr (hw _ (List.mem_of_getElem? (i := 30) rfl))) (by decide) (t := .int) (t' := .int) (by decide) (by decide)))
  have K9 := K4.wr W9 (Or.inl (List.mem_of_getElem? (i := 0) rfl))
  have N9 := Fr.snoc X9 N4 g_a1
  show OG _ _ _ _ _ _ _ (T9.setTop (mkF m 14 #[.val (.ref a1), .val (.int q1), .val (.int q2), .val (.int q3)] []))
  have s13 : ∀ t, Steps p.tables e below (T9.setTop (mkF m 16 #[.val (.ref a1), .val (.int q1), .val (.int q2), .val (.int q3)] [(.int q3), (.ref a1)])) t → Steps p.tables e below (T9.setTop (mkF m 14 #[.val (.ref a1), .val (.int q1), .val (.int q2), .val (.int q3)] [])) t := by
    intro t k
    refine XS.aloadN X9.here hx rfl (hb hby d4_14) rfl rfl ?_
    show Steps p.tables e below (T9.setTop (mkF m 15 #[.val (.ref a1), .val (.int q1), .val (.int q2), .val (.int q3)] [(.ref a1)])) _
    refine XS.iloadN X9.here hx rfl (hb hby d4_15) rfl ?_
    exact k
  refine OG.step s13 ?_
  obtain ⟨T14, h14, X14, e14, W14, st14⟩ := putF X9 hx hZ hown (host := "") (Or.inl (hw _ (List.mem_of_getElem? (i := 31) rfl))) Via.refl e9 f11 f10 (Or.inr ⟨(hw _ (List.mem_of_getElem? (i := 32) rfl)), rfl, hnm⟩) (hw _ (List.mem_of_getElem? (i := 21) rfl)) (ty := .int) (by decide) rfl rfl (g := (mkF m 16 #[.val (.ref a1), .val (.int q1), .val (.int q2), .val (.int q3)] [(.int q3), (.ref a1)])) rfl rfl (hb hby d4_16)
  refine OG.step st14 ?_
  have fw14 := f11.same W14
  have f15 := f10.wr W14
  have f16 := f12.other W14 (Or.inr (slot_ne (Or.inr (hw _ (List.mem_of_getElem? (i := 28) rfl))) (Or.inr (hw _ (List.mem_of_getElem? (i := 32) rfl))) (by decide) (t := .int) (t' := .int) (by decide) (by decide)))
  have f17 := fw9.other W14 (Or.inr (slot_ne (Or.inr (hw _ (List.mem_of_getElem? (i := 30) rfl))) (Or.inr (hw _ (List.mem_of_getElem? (i := 32) rfl))) (by decide) (t := .int) (t' := .int) (by decide) (by decide)))
  have K14 := K9.wr W14 (Or.inl (List.mem_of_getElem? (i := 0) rfl))
  have N14 := Fr.snoc X14 N9 g_a1
  show OG _ _ _ _ _ _ _ (T14.setTop (mkF m 19 #[.val (.ref a1), .val (.int q1), .val (.int q2), .val (.int q3)] []))
  exact OG.retV X14 hx hlk Bd.returns (hb hby d4_19) e14 ⟨rfl, N14, K14, f16, f17, fw14⟩ (by decide) (by decide)
theorem own_ni {Z : State} {a0 : Array Value} (hw : ∀ d ∈ tables_1, d.before a0 Z = true) {h : Heap} {a : Addr} (E : Exa Z h a "com/example/ludus/ludus/PackingTask$Good") : Ins Z h a "com/example/ludus/ludus/PackingTask$Bag" false := by
  obtain ⟨cell, k, h1, h2, h3, h4, h5⟩ := E
  obtain ⟨cy, ky, i1, i2, i3, i4, -⟩ := Cond.instantiable_spec (hw _ (List.mem_of_getElem? (i := 1) rfl))
  have hi : ky.isInterface = false := by cases hq : ky.isInterface <;> simp [hq] at i4 ⊢
  refine ⟨cell, cy, h1, i1, ?_⟩
  rw [Vm.notAssignable_of_chain (args := a0) (s := Z) (t := ["java/lang/Object"]) h2 i1 i2 i3 hi (by
    intro w hw'
    simp only [Cond.chainWords, List.mem_cons, List.not_mem_nil, or_false] at hw'
    rcases hw' with rfl | rfl
    · exact (hw _ (List.mem_of_getElem? (i := 33) rfl))
    · exact (hw _ (List.mem_of_getElem? (i := 34) rfl))) (by decide)]
  simp
theorem d3_0 : decode prog_50_method_4_code 0 = .ok (.aload_n 1, 1) := by decide +kernel
theorem d3_1 : decode prog_50_method_4_code 1 = .ok (.instanceof 8, 3) := by decide +kernel
theorem d3_4 : decode prog_50_method_4_code 4 = .ok (.ifCond .eq 11, 3) := by decide +kernel
theorem d3_7 : decode prog_50_method_4_code 7 = .ok (.aload_n 1, 1) := by decide +kernel
theorem d3_8 : decode prog_50_method_4_code 8 = .ok (.checkcast 8, 3) := by decide +kernel
theorem d3_11 : decode prog_50_method_4_code 11 = .ok (.astore_n 2, 1) := by decide +kernel
theorem d3_12 : decode prog_50_method_4_code 12 = .ok (.goto 5, 3) := by decide +kernel
theorem d3_15 : decode prog_50_method_4_code 15 = .ok (.iconst 0, 1) := by decide +kernel
theorem d3_16 : decode prog_50_method_4_code 16 = .ok (.ireturn, 1) := by decide +kernel
theorem d3_17 : decode prog_50_method_4_code 17 = .ok (.aload_n 0, 1) := by decide +kernel
theorem d3_18 : decode prog_50_method_4_code 18 = .ok (.getfield 7, 3) := by decide +kernel
theorem d3_21 : decode prog_50_method_4_code 21 = .ok (.aload_n 2, 1) := by decide +kernel
theorem d3_22 : decode prog_50_method_4_code 22 = .ok (.getfield 7, 3) := by decide +kernel
theorem d3_25 : decode prog_50_method_4_code 25 = .ok (.if_icmp .ne 18, 3) := by decide +kernel
theorem d3_28 : decode prog_50_method_4_code 28 = .ok (.aload_n 0, 1) := by decide +kernel
theorem d3_29 : decode prog_50_method_4_code 29 = .ok (.getfield 13, 3) := by decide +kernel
theorem d3_32 : decode prog_50_method_4_code 32 = .ok (.aload_n 2, 1) := by decide +kernel
theorem d3_33 : decode prog_50_method_4_code 33 = .ok (.getfield 13, 3) := by decide +kernel
theorem d3_36 : decode prog_50_method_4_code 36 = .ok (.if_icmp .ne 7, 3) := by decide +kernel
theorem d3_39 : decode prog_50_method_4_code 39 = .ok (.iconst 1, 1) := by decide +kernel
theorem d3_40 : decode prog_50_method_4_code 40 = .ok (.goto 4, 3) := by decide +kernel
theorem d3_43 : decode prog_50_method_4_code 43 = .ok (.iconst 0, 1) := by decide +kernel
theorem d3_44 : decode prog_50_method_4_code 44 = .ok (.ireturn, 1) := by decide +kernel
theorem ef_3s (m : MethodId) (x0 : Addr) (x1 : Addr) : entryFrame m #[(.ref x0), (.ref x1)] 3 = mkF m 0 #[.val (.ref x0), .val (.ref x1), .unset] [] := by first | (simp [entryFrame, mkF, argsToLocals, Value.category]; done) | rfl
def Q3s (Z : State) (a1 : Addr) (a2 : Addr) (v0 : Int32) (v1 : Int32) (w0 : Int32) (w1 : Int32) (h0 : Heap) (n0 : Nat) (v : Option Value) (h : Heap) (L : List Loc) : Prop := (v = some (.int (bI (v0 = w0 ∧ v1 = w1)))) ∧ (Fr n0 L) ∧ (h = h0)
abbrev rom_3s : Room := { frames := 0, cells := 0, slots := 0, locals := 0 }
set_option maxRecDepth 65536 in
set_option maxHeartbeats 40000000 in
theorem rm3s (l : Launch) (Z : State) (a0 : Array Value) (hw : ∀ d ∈ tables_1, d.before a0 Z = true) (ws : List Jvm.Cond) (a1 : Addr) (a2 : Addr) (v0 : Int32) (v1 : Int32) (w0 : Int32) (w1 : Int32) (h0 : Heap) (n0 : Nat) (Z0 : n0 ≤ h0.size) (F0_a2 : Exa Z h0 a2 "com/example/ludus/ludus/PackingTask$Bag") (F1_a1_width : Fld Z h0 a1 "com/example/ludus/ludus/PackingTask$Bag" "width" "I" (.int v0)) (F2_a1_height : Fld Z h0 a1 "com/example/ludus/ludus/PackingTask$Bag" "height" "I" (.int v1)) (F3_a2_width : Fld Z h0 a2 "com/example/ludus/ludus/PackingTask$Bag" "width" "I" (.int w0)) (F4_a2_height : Fld Z h0 a2 "com/example/ludus/ludus/PackingTask$Bag" "height" "I" (.int w1)) :
    MetFree l (⟨"com/example/ludus/ludus/PackingTask$Bag", "equals", "(Ljava/lang/Object;)Z"⟩ : MethodName) (head1 (Jvm.Cond.code (⟨"com/example/ludus/ludus/PackingTask$Bag", "equals", "(Ljava/lang/Object;)Z"⟩ : MethodName) prog_50_method_4_code 3 (some .boolean) :: ws) rom_3s) (fun a U => a = #[(.ref a1), (.ref a2)] ∧ Z.Warmed39 U.vm ∧ U.heap = h0) (fun _ _ _ _ _ => True) (fun _ U o U' => ∃ v L, o = .returned v ∧ Q3s Z a1 a2 v0 v1 w0 w1 h0 n0 v U'.heap L ∧ FrameEnd U o U' L rom_3s.cells rom_3s.slots) := by
  refine MetFree.of_bodySF (plainFor_of_name pn_com_example_ludus_ludus_PackingTask_Bag) hisR ?_
  intro p e s m args below meth c s₁ Bd hml0 hP hK
  obtain ⟨rfl, hZ, hh⟩ := hP
  have hx := Bd.exec
  have hby := Bd.bytes
  have hlk := Bd.notSynchronized
  have hml : c.maxLocals = 3 := hml0
  have hown : s.vm.findClass "com/example/ludus/ludus/PackingTask$Bag" = some m.cls := findClass_of_methodNamed Bd.named
  have hnm := (name_of_methodNamed Bd.named Bd.method).1
  have X0 : Stand p l e rom_3s s m #[(.ref a1), (.ref a2)] below meth c s₁ [] 0 0 := Stand.of_body Bd
  have e0 : s₁.heap = h0 := by rw [← hh, Bd.state]; rfl
  have N0 := Fr.nil n0
  have K0 : Keep h0 h0 [] := Keep.refl _ _
  refine (?_ : OG p e below s (Q3s Z a1 a2 v0 v1 w0 w1 h0 n0) rom_3s.cells rom_3s.slots _)
  rw [ef_3s]
  have s1 : ∀ t, Steps p.tables e below (s₁.setTop (mkF m 1 #[.val (.ref a1), .val (.ref a2), .unset] [(.ref a2)])) t → Steps p.tables e below (s₁.setTop (mkF m 0 #[.val (.ref a1), .val (.ref a2), .unset] [])) t := by
    intro t k
    refine XS.aloadN X0.here hx rfl (hb hby d3_0) rfl rfl ?_
    exact k
  refine OG.step s1 ?_
  obtain ⟨T2, X2, e2, st2⟩ := instY X0 hx hZ hown (hw _ (List.mem_of_getElem? (i := 18) rfl)) e0 (Ins.self F0_a2) (g := (mkF m 1 #[.val (.ref a1), .val (.ref a2), .unset] [(.ref a2)])) rfl rfl (hb hby d3_1)
  refine OG.step st2 ?_
  show OG _ _ _ _ _ _ _ (T2.setTop (mkF m 4 #[.val (.ref a1), .val (.ref a2), .unset] [(.int (1 : Int32))]))
  have s3 : ∀ t, Steps p.tables e below (T2.setTop (mkF m 8 #[.val (.ref a1), .val (.ref a2), .unset] [(.ref a2)])) t → Steps p.tables e below (T2.setTop (mkF m 4 #[.val (.ref a1), .val (.ref a2), .unset] [(.int (1 : Int32))])) t := by
    intro t k
    refine XS.ifNo X2.here hx rfl (hb hby d3_4) rfl ((if0 _ _).trans (feq (by decide)).1) ?_
    show Steps p.tables e below (T2.setTop (mkF m 7 #[.val (.ref a1), .val (.ref a2), .unset] [])) _
    refine XS.aloadN X2.here hx rfl (hb hby d3_7) rfl rfl ?_
    exact k
  refine OG.step s3 ?_
  obtain ⟨T4, X4, e4, st4⟩ := castY X2 hx hZ hown (hw _ (List.mem_of_getElem? (i := 18) rfl)) e2 (Ins.self F0_a2) (g := (mkF m 8 #[.val (.ref a1), .val (.ref a2), .unset] [(.ref a2)])) rfl rfl (hb hby d3_8)
  refine OG.step st4 ?_
  show OG _ _ _ _ _ _ _ (T4.setTop (mkF m 11 #[.val (.ref a1), .val (.ref a2), .unset] [(.ref a2)]))
  have s5 : ∀ t, Steps p.tables e below (T4.setTop (mkF m 18 #[.val (.ref a1), .val (.ref a2), .val (.ref a2)] [(.ref a1)])) t → Steps p.tables e below (T4.setTop (mkF m 11 #[.val (.ref a1), .val (.ref a2), .unset] [(.ref a2)])) t := by
    intro t k
    refine XS.astoreN X4.here hx rfl (hb hby d3_11) rfl rfl (l' := #[.val (.ref a1), .val (.ref a2), .val (.ref a2)]) rfl ?_
    show Steps p.tables e below (T4.setTop (mkF m 12 #[.val (.ref a1), .val (.ref a2), .val (.ref a2)] [])) _
    refine XS.goto X4.here hx rfl (pc0 := 12) (pc' := 17) rfl (hb hby d3_12) (by decide) (by decide) ?_
    show Steps p.tables e below (T4.setTop (mkF m 17 #[.val (.ref a1), .val (.ref a2), .val (.ref a2)] [])) _
    refine XS.aloadN X4.here hx rfl (hb hby d3_17) rfl rfl ?_
    exact k
  refine OG.step s5 ?_
  obtain ⟨T6, X6, e6, st6⟩ := getF X4 hx hZ hown (host := "") (Or.inl (hw _ (List.mem_of_getElem? (i := 9) rfl))) Via.refl e4 F1_a1_width (g := (mkF m 18 #[.val (.ref a1), .val (.ref a2), .val (.ref a2)] [(.ref a1)])) rfl rfl (hb hby d3_18)
  refine OG.step st6 ?_
  show OG _ _ _ _ _ _ _ (T6.setTop (mkF m 21 #[.val (.ref a1), .val (.ref a2), .val (.ref a2)] [(.int v0)]))
  have s7 : ∀ t, Steps p.tables e below (T6.setTop (mkF m 22 #[.val (.ref a1), .val (.ref a2), .val (.ref a2)] [(.ref a2), (.int v0)])) t → Steps p.tables e below (T6.setTop (mkF m 21 #[.val (.ref a1), .val (.ref a2), .val (.ref a2)] [(.int v0)])) t := by
    intro t k
    refine XS.aloadN X6.here hx rfl (hb hby d3_21) rfl rfl ?_
    exact k
  refine OG.step s7 ?_
  obtain ⟨T8, X8, e8, st8⟩ := getF X6 hx hZ hown (host := "") (Or.inl (hw _ (List.mem_of_getElem? (i := 9) rfl))) Via.refl e6 F3_a2_width (g := (mkF m 22 #[.val (.ref a1), .val (.ref a2), .val (.ref a2)] [(.ref a2), (.int v0)])) rfl rfl (hb hby d3_22)
  refine OG.step st8 ?_
  show OG _ _ _ _ _ _ _ (T8.setTop (mkF m 25 #[.val (.ref a1), .val (.ref a2), .val (.ref a2)] [(.int w0), (.int v0)]))
  by_cases hc25 : v0 = w0
  · have s9 : ∀ t, Steps p.tables e below (T8.setTop (mkF m 29 #[.val (.ref a1), .val (.ref a2), .val (.ref a2)] [(.ref a1)])) t → Steps p.tables e below (T8.setTop (mkF m 25 #[.val (.ref a1), .val (.ref a2), .val (.ref a2)] [(.int w0), (.int v0)])) t := by
      intro t k
      refine XS.icmpNo X8.here hx rfl (hb hby d3_25) rfl (teq hc25).2 ?_
      show Steps p.tables e below (T8.setTop (mkF m 28 #[.val (.ref a1), .val (.ref a2), .val (.ref a2)] [])) _
      refine XS.aloadN X8.here hx rfl (hb hby d3_28) rfl rfl ?_
      exact k
    refine OG.step s9 ?_
    obtain ⟨T10, X10, e10, st10⟩ := getF X8 hx hZ hown (host := "") (Or.inl (hw _ (List.mem_of_getElem? (i := 11) rfl))) Via.refl e8 F2_a1_height (g := (mkF m 29 #[.val (.ref a1), .val (.ref a2), .val (.ref a2)] [(.ref a1)])) rfl rfl (hb hby d3_29)
    refine OG.step st10 ?_
    show OG _ _ _ _ _ _ _ (T10.setTop (mkF m 32 #[.val (.ref a1), .val (.ref a2), .val (.ref a2)] [(.int v1)]))
    have s11 : ∀ t, Steps p.tables e below (T10.setTop (mkF m 33 #[.val (.ref a1), .val (.ref a2), .val (.ref a2)] [(.ref a2), (.int v1)])) t → Steps p.tables e below (T10.setTop (mkF m 32 #[.val (.ref a1), .val (.ref a2), .val (.ref a2)] [(.int v1)])) t := by
      intro t k
      refine XS.aloadN X10.here hx rfl (hb hby d3_32) rfl rfl ?_
      exact k
    refine OG.step s11 ?_
    obtain ⟨T12, X12, e12, st12⟩ := getF X10 hx hZ hown (host := "") (Or.inl (hw _ (List.mem_of_getElem? (i := 11) rfl))) Via.refl e10 F4_a2_height (g := (mkF m 33 #[.val (.ref a1), .val (.ref a2), .val (.ref a2)] [(.ref a2), (.int v1)])) rfl rfl (hb hby d3_33)
    refine OG.step st12 ?_
    show OG _ _ _ _ _ _ _ (T12.setTop (mkF m 36 #[.val (.ref a1), .val (.ref a2), .val (.ref a2)] [(.int w1), (.int v1)]))
    by_cases hc36 : v1 = w1
    · have s13 : ∀ t, Steps p.tables e below (T12.setTop (mkF m 44 #[.val (.ref a1), .val (.ref a2), .val (.ref a2)] [(.int (1 : Int32))])) t → Steps p.tables e below (T12.setTop (mkF m 36 #[.val (.ref a1), .val (.ref a2), .val (.ref a2)] [(.int w1), (.int v1)])) t := by
        intro t k
        refine XS.icmpNo X12.here hx rfl (hb hby d3_36) rfl (teq hc36).2 ?_
        show Steps p.tables e below (T12.setTop (mkF m 39 #[.val (.ref a1), .val (.ref a2), .val (.ref a2)] [])) _
        refine XS.iconst X12.here hx rfl (hb hby d3_39) ?_
        show Steps p.tables e below (T12.setTop (mkF m 40 #[.val (.ref a1), .val (.ref a2), .val (.ref a2)] [(.int (1 : Int32))])) _
        refine XS.goto X12.here hx rfl (pc0 := 40) (pc' := 44) rfl (hb hby d3_40) (by decide) (by decide) ?_
        exact k
      refine OG.step s13 ?_
      exact OG.retZ X12 hx hlk Bd.returns (hb hby d3_44) (nar_1) e12 ⟨(by simp [bI, hc25, hc36]), N0, rfl⟩ (by decide) (by decide)
    · have s14 : ∀ t, Steps p.tables e below (T12.setTop (mkF m 44 #[.val (.ref a1), .val (.ref a2), .val (.ref a2)] [(.int (0 : Int32))])) t → Steps p.tables e below (T12.setTop (mkF m 36 #[.val (.ref a1), .val (.ref a2), .val (.ref a2)] [(.int w1), (.int v1)])) t := by
        intro t k
        refine XS.icmpYes X12.here hx rfl (pc0 := 36) (pc' := 43) rfl (hb hby d3_36) rfl (feq hc36).2 (by decide) (by decide) ?_
        show Steps p.tables e below (T12.setTop (mkF m 43 #[.val (.ref a1), .val (.ref a2), .val (.ref a2)] [])) _
        refine XS.iconst X12.here hx rfl (hb hby d3_43) ?_
        exact k
      refine OG.step s14 ?_
      exact OG.retZ X12 hx hlk Bd.returns (hb hby d3_44) (nar_0) e12 ⟨(by simp [bI, hc25, hc36]), N0, rfl⟩ (by decide) (by decide)
  · have s15 : ∀ t, Steps p.tables e below (T8.setTop (mkF m 44 #[.val (.ref a1), .val (.ref a2), .val (.ref a2)] [(.int (0 : Int32))])) t → Steps p.tables e below (T8.setTop (mkF m 25 #[.val (.ref a1), .val (.ref a2), .val (.ref a2)] [(.int w0), (.int v0)])) t := by
      intro t k
      refine XS.icmpYes X8.here hx rfl (pc0 := 25) (pc' := 43) rfl (hb hby d3_25) rfl (feq hc25).2 (by decide) (by decide) ?_
      show Steps p.tables e below (T8.setTop (mkF m 43 #[.val (.ref a1), .val (.ref a2), .val (.ref a2)] [])) _
      refine XS.iconst X8.here hx rfl (hb hby d3_43) ?_
      exact k
    refine OG.step s15 ?_
    exact OG.retZ X8 hx hlk Bd.returns (hb hby d3_44) (nar_0) e8 ⟨(by simp [bI, hc25]), N0, rfl⟩ (by decide) (by decide)
theorem ef_3n (m : MethodId) (x0 : Addr) : entryFrame m #[(.ref x0), .null] 3 = mkF m 0 #[.val (.ref x0), .val .null, .unset] [] := by first | (simp [entryFrame, mkF, argsToLocals, Value.category]; done) | rfl
def Q3n (Z : State) (a1 : Addr) (h0 : Heap) (n0 : Nat) (v : Option Value) (h : Heap) (L : List Loc) : Prop := (v = some (.int (0 : Int32))) ∧ (Fr n0 L) ∧ (h = h0)
abbrev rom_3n : Room := { frames := 0, cells := 0, slots := 0, locals := 0 }
set_option maxRecDepth 65536 in
set_option maxHeartbeats 40000000 in
theorem rm3n (l : Launch) (Z : State) (a0 : Array Value) (hw : ∀ d ∈ tables_1, d.before a0 Z = true) (ws : List Jvm.Cond) (a1 : Addr) (h0 : Heap) (n0 : Nat) (Z0 : n0 ≤ h0.size) :
    MetFree l (⟨"com/example/ludus/ludus/PackingTask$Bag", "equals", "(Ljava/lang/Object;)Z"⟩ : MethodName) (head1 (Jvm.Cond.code (⟨"com/example/ludus/ludus/PackingTask$Bag", "equals", "(Ljava/lang/Object;)Z"⟩ : MethodName) prog_50_method_4_code 3 (some .boolean) :: ws) rom_3n) (fun a U => a = #[(.ref a1), .null] ∧ Z.Warmed39 U.vm ∧ U.heap = h0) (fun _ _ _ _ _ => True) (fun _ U o U' => ∃ v L, o = .returned v ∧ Q3n Z a1 h0 n0 v U'.heap L ∧ FrameEnd U o U' L rom_3n.cells rom_3n.slots) := by
  refine MetFree.of_bodySF (plainFor_of_name pn_com_example_ludus_ludus_PackingTask_Bag) hisR ?_
  intro p e s m args below meth c s₁ Bd hml0 hP hK
  obtain ⟨rfl, hZ, hh⟩ := hP
  have hx := Bd.exec
  have hby := Bd.bytes
  have hlk := Bd.notSynchronized
  have hml : c.maxLocals = 3 := hml0
  have hown : s.vm.findClass "com/example/ludus/ludus/PackingTask$Bag" = some m.cls := findClass_of_methodNamed Bd.named
  have hnm := (name_of_methodNamed Bd.named Bd.method).1
  have X0 : Stand p l e rom_3n s m #[(.ref a1), .null] below meth c s₁ [] 0 0 := Stand.of_body Bd
  have e0 : s₁.heap = h0 := by rw [← hh, Bd.state]; rfl
  have N0 := Fr.nil n0
  have K0 : Keep h0 h0 [] := Keep.refl _ _
  refine (?_ : OG p e below s (Q3n Z a1 h0 n0) rom_3n.cells rom_3n.slots _)
  rw [ef_3n]
  have s1 : ∀ t, Steps p.tables e below (s₁.setTop (mkF m 1 #[.val (.ref a1), .val .null, .unset] [.null])) t → Steps p.tables e below (s₁.setTop (mkF m 0 #[.val (.ref a1), .val .null, .unset] [])) t := by
    intro t k
    refine XS.aloadN X0.here hx rfl (hb hby d3_0) rfl rfl ?_
    exact k
  refine OG.step s1 ?_
  refine OG.step (X0.instanceofNull hx (g := (mkF m 1 #[.val (.ref a1), .val .null, .unset] [.null])) rfl rfl (hb hby d3_1)) ?_
  show OG _ _ _ _ _ _ _ (s₁.setTop (mkF m 4 #[.val (.ref a1), .val .null, .unset] [(.int (0 : Int32))]))
  have s2 : ∀ t, Steps p.tables e below (s₁.setTop (mkF m 16 #[.val (.ref a1), .val .null, .unset] [(.int (0 : Int32))])) t → Steps p.tables e below (s₁.setTop (mkF m 4 #[.val (.ref a1), .val .null, .unset] [(.int (0 : Int32))])) t := by
    intro t k
    refine XS.ifYes X0.here hx rfl (pc0 := 4) (pc' := 15) rfl (hb hby d3_4) rfl ((if0 _ _).trans (teq rfl).1) (by decide) (by decide) ?_
    show Steps p.tables e below (s₁.setTop (mkF m 15 #[.val (.ref a1), .val .null, .unset] [])) _
    refine XS.iconst X0.here hx rfl (hb hby d3_15) ?_
    exact k
  refine OG.step s2 ?_
  exact OG.retZ X0 hx hlk Bd.returns (hb hby d3_16) (nar_0) e0 ⟨rfl, N0, rfl⟩ (by decide) (by decide)
theorem ef_3o (m : MethodId) (x0 : Addr) (x1 : Addr) : entryFrame m #[(.ref x0), (.ref x1)] 3 = mkF m 0 #[.val (.ref x0), .val (.ref x1), .unset] [] := by first | (simp [entryFrame, mkF, argsToLocals, Value.category]; done) | rfl
def Q3o (Z : State) (a1 : Addr) (a2 : Addr) (h0 : Heap) (n0 : Nat) (v : Option Value) (h : Heap) (L : List Loc) : Prop := (v = some (.int (0 : Int32))) ∧ (Fr n0 L) ∧ (h = h0)
abbrev rom_3o : Room := { frames := 0, cells := 0, slots := 0, locals := 0 }
set_option maxRecDepth 65536 in
set_option maxHeartbeats 40000000 in
theorem rm3o (l : Launch) (Z : State) (a0 : Array Value) (hw : ∀ d ∈ tables_1, d.before a0 Z = true) (ws : List Jvm.Cond) (a1 : Addr) (a2 : Addr) (h0 : Heap) (n0 : Nat) (Z0 : n0 ≤ h0.size) (F0_a2 : Exa Z h0 a2 "com/example/ludus/ludus/PackingTask$Good") :
    MetFree l (⟨"com/example/ludus/ludus/PackingTask$Bag", "equals", "(Ljava/lang/Object;)Z"⟩ : MethodName) (head1 (Jvm.Cond.code (⟨"com/example/ludus/ludus/PackingTask$Bag", "equals", "(Ljava/lang/Object;)Z"⟩ : MethodName) prog_50_method_4_code 3 (some .boolean) :: ws) rom_3o) (fun a U => a = #[(.ref a1), (.ref a2)] ∧ Z.Warmed39 U.vm ∧ U.heap = h0) (fun _ _ _ _ _ => True) (fun _ U o U' => ∃ v L, o = .returned v ∧ Q3o Z a1 a2 h0 n0 v U'.heap L ∧ FrameEnd U o U' L rom_3o.cells rom_3o.slots) := by
  refine MetFree.of_bodySF (plainFor_of_name pn_com_example_ludus_ludus_PackingTask_Bag) hisR ?_
  intro p e s m args below meth c s₁ Bd hml0 hP hK
  obtain ⟨rfl, hZ, hh⟩ := hP
  have hx := Bd.exec
  have hby := Bd.bytes
  have hlk := Bd.notSynchronized
  have hml : c.maxLocals = 3 := hml0
  have hown : s.vm.findClass "com/example/ludus/ludus/PackingTask$Bag" = some m.cls := findClass_of_methodNamed Bd.named
  have hnm := (name_of_methodNamed Bd.named Bd.method).1
  have X0 : Stand p l e rom_3o s m #[(.ref a1), (.ref a2)] below meth c s₁ [] 0 0 := Stand.of_body Bd
  have e0 : s₁.heap = h0 := by rw [← hh, Bd.state]; rfl
  have N0 := Fr.nil n0
  have K0 : Keep h0 h0 [] := Keep.refl _ _
  refine (?_ : OG p e below s (Q3o Z a1 a2 h0 n0) rom_3o.cells rom_3o.slots _)
  rw [ef_3o]
  have s1 : ∀ t, Steps p.tables e below (s₁.setTop (mkF m 1 #[.val (.ref a1), .val (.ref a2), .unset] [(.ref a2)])) t → Steps p.tables e below (s₁.setTop (mkF m 0 #[.val (.ref a1), .val (.ref a2), .unset] [])) t := by
    intro t k
    refine XS.aloadN X0.here hx rfl (hb hby d3_0) rfl rfl ?_
    exact k
  refine OG.step s1 ?_
  obtain ⟨T2, X2, e2, st2⟩ := instN X0 hx hZ hown (hw _ (List.mem_of_getElem? (i := 18) rfl)) e0 (by rw [hh]; exact own_ni hw F0_a2) (by rw [hh]; exact F0_a2) (g := (mkF m 1 #[.val (.ref a1), .val (.ref a2), .unset] [(.ref a2)])) rfl rfl (hb hby d3_1)
  refine OG.step st2 ?_
  show OG _ _ _ _ _ _ _ (T2.setTop (mkF m 4 #[.val (.ref a1), .val (.ref a2), .unset] [(.int (0 : Int32))]))
  have s3 : ∀ t, Steps p.tables e below (T2.setTop (mkF m 16 #[.val (.ref a1), .val (.ref a2), .unset] [(.int (0 : Int32))])) t → Steps p.tables e below (T2.setTop (mkF m 4 #[.val (.ref a1), .val (.ref a2), .unset] [(.int (0 : Int32))])) t := by
    intro t k
    refine XS.ifYes X2.here hx rfl (pc0 := 4) (pc' := 15) rfl (hb hby d3_4) rfl ((if0 _ _).trans (teq rfl).1) (by decide) (by decide) ?_
    show Steps p.tables e below (T2.setTop (mkF m 15 #[.val (.ref a1), .val (.ref a2), .unset] [])) _
    refine XS.iconst X2.here hx rfl (hb hby d3_15) ?_
    exact k
  refine OG.step s3 ?_
  exact OG.retZ X2 hx hlk Bd.returns (hb hby d3_16) (nar_0) e2 ⟨rfl, N0, rfl⟩ (by decide) (by decide)
theorem pn_com_example_ludus_ludus_BagEqualsPinLaw : plainName "com/example/ludus/ludus/BagEqualsPinLaw" = true := by first | (simp [plainName, overriddenIn]; done) | decide +kernel
theorem ef_0 (m : MethodId) (x0 : Int32) (x1 : Int32) (x2 : Int32) (x3 : Int32) (x4 : Int32) : entryFrame m #[(.int x0), (.int x1), (.int x2), (.int x3), (.int x4)] maxLocals = mkF m 0 #[.val (.int x0), .val (.int x1), .val (.int x2), .val (.int x3), .val (.int x4), .unset, .unset, .unset, .unset, .unset, .unset, .unset] [] := by first | (simp [entryFrame, mkF, argsToLocals, Value.category, maxLocals]; done) | rfl
def Q0 (Z : State) (p0 : Int32) (p1 : Int32) (p2 : Int32) (p3 : Int32) (p4 : Int32) (h0 : Heap) (n0 : Nat) (v : Option Value) (h : Heap) (L : List Loc) : Prop := (v = some (.int (1 : Int32))) ∧ (Fr n0 L)
theorem pd__II_V : parseMethodDescriptor "(II)V" = some ⟨[.int, .int], none⟩ := by decide +kernel
theorem pd__Ljava_lang_Object__Z : parseMethodDescriptor "(Ljava/lang/Object;)Z" = some ⟨[(.object "java/lang/Object")], some .boolean⟩ := by decide +kernel
theorem pd__III_V : parseMethodDescriptor "(III)V" = some ⟨[.int, .int, .int], none⟩ := by decide +kernel
set_option maxRecDepth 65536 in
set_option maxHeartbeats 40000000 in
theorem rm0 (l : Launch) (Z : State) (a0 : Array Value) (hw : ∀ d ∈ tables_1, d.before a0 Z = true) (ws : List Jvm.Cond) (p0 : Int32) (p1 : Int32) (p2 : Int32) (p3 : Int32) (p4 : Int32) (h0 : Heap) (n0 : Nat) (Z0 : n0 ≤ h0.size) :
    MetFree l x (head1 (Jvm.Cond.code x code maxLocals ret :: ws) room_1) (fun a U => a = #[(.int p0), (.int p1), (.int p2), (.int p3), (.int p4)] ∧ Z.Warmed39 U.vm ∧ U.heap = h0) (fun _ _ _ _ _ => True) (fun _ U o U' => ∃ v L, o = .returned v ∧ Q0 Z p0 p1 p2 p3 p4 h0 n0 v U'.heap L ∧ FrameEnd U o U' L room_1.cells room_1.slots) := by
  refine MetFree.of_bodySF (plainFor_of_name pn_com_example_ludus_ludus_BagEqualsPinLaw) hisR ?_
  intro p e s m args below meth c s₁ Bd hml0 hP hK
  obtain ⟨rfl, hZ, hh⟩ := hP
  have hx := Bd.exec
  have hby := Bd.bytes
  have hlk := Bd.notSynchronized
  have hml : c.maxLocals = 12 := hml0
  have hown : s.vm.findClass "com/example/ludus/ludus/BagEqualsPinLaw" = some m.cls := findClass_of_methodNamed Bd.named
  have hnm := (name_of_methodNamed Bd.named Bd.method).1
  have X0 : Stand p l e room_1 s m #[(.int p0), (.int p1), (.int p2), (.int p3), (.int p4)] below meth c s₁ [] 0 0 := Stand.of_body Bd
  have e0 : s₁.heap = h0 := by rw [← hh, Bd.state]; rfl
  have N0 := Fr.nil n0
  have K0 : Keep h0 h0 [] := Keep.refl _ _
  refine (?_ : OG p e below s (Q0 Z p0 p1 p2 p3 p4 h0 n0) room_1.cells room_1.slots _)
  rw [ef_0]
  have s1 : ∀ t, Steps p.tables e below (s₁.setTop (mkF m 12 #[.val (.int p0), .val (.int p1), .val (.int p2), .val (.int p3), .val (.int p4), .unset, .unset, .unset, .unset, .unset, .unset, .unset] [(.int (if (p4 &&& (1 : Int32)) = (0 : Int32) then p2 else p0))])) t → Steps p.tables e below (s₁.setTop (mkF m 0 #[.val (.int p0), .val (.int p1), .val (.int p2), .val (.int p3), .val (.int p4), .unset, .unset, .unset, .unset, .unset, .unset, .unset] [])) t := by
    intro t k
    refine XS.iload X0.here hx rfl (hb hby at_0) rfl ?_
    show Steps p.tables e below (s₁.setTop (mkF m 2 #[.val (.int p0), .val (.int p1), .val (.int p2), .val (.int p3), .val (.int p4), .unset, .unset, .unset, .unset, .unset, .unset, .unset] [(.int p4)])) _
    refine XS.iconst X0.here hx rfl (hb hby at_2) ?_
    show Steps p.tables e below (s₁.setTop (mkF m 3 #[.val (.int p0), .val (.int p1), .val (.int p2), .val (.int p3), .val (.int p4), .unset, .unset, .unset, .unset, .unset, .unset, .unset] [(.int (1 : Int32)), (.int p4)])) _
    refine XS.iand X0.here hx rfl (hb hby at_3) rfl ?_
    show Steps p.tables e below (s₁.setTop (mkF m 4 #[.val (.int p0), .val (.int p1), .val (.int p2), .val (.int p3), .val (.int p4), .unset, .unset, .unset, .unset, .unset, .unset, .unset] [(.int (p4 &&& (1 : Int32)))])) _
    by_cases hm4 : (p4 &&& (1 : Int32)) = (0 : Int32)
    · refine XS.ifYes X0.here hx rfl (pc0 := 4) (pc' := 11) rfl (hb hby at_4) rfl ((if0 _ _).trans (teq hm4).1) (by decide) (by decide) ?_
      show Steps p.tables e below (s₁.setTop (mkF m 11 #[.val (.int p0), .val (.int p1), .val (.int p2), .val (.int p3), .val (.int p4), .unset, .unset, .unset, .unset, .unset, .unset, .unset] [])) _
      refine XS.iloadN X0.here hx rfl (hb hby at_11) rfl ?_
      show Steps p.tables e below (s₁.setTop (mkF m 12 #[.val (.int p0), .val (.int p1), .val (.int p2), .val (.int p3), .val (.int p4), .unset, .unset, .unset, .unset, .unset, .unset, .unset] [(.int p2)])) _
      rw [show (if (p4 &&& (1 : Int32)) = (0 : Int32) then p2 else p0) = p2 from (if_pos hm4)] at k
      exact k
    · refine XS.ifNo X0.here hx rfl (hb hby at_4) rfl ((if0 _ _).trans (feq hm4).1) ?_
      show Steps p.tables e below (s₁.setTop (mkF m 7 #[.val (.int p0), .val (.int p1), .val (.int p2), .val (.int p3), .val (.int p4), .unset, .unset, .unset, .unset, .unset, .unset, .unset] [])) _
      refine XS.iloadN X0.here hx rfl (hb hby at_7) rfl ?_
      show Steps p.tables e below (s₁.setTop (mkF m 8 #[.val (.int p0), .val (.int p1), .val (.int p2), .val (.int p3), .val (.int p4), .unset, .unset, .unset, .unset, .unset, .unset, .unset] [(.int p0)])) _
      refine XS.goto X0.here hx rfl (pc0 := 8) (pc' := 12) rfl (hb hby at_8) (by decide) (by decide) ?_
      show Steps p.tables e below (s₁.setTop (mkF m 12 #[.val (.int p0), .val (.int p1), .val (.int p2), .val (.int p3), .val (.int p4), .unset, .unset, .unset, .unset, .unset, .unset, .unset] [(.int p0)])) _
      rw [show (if (p4 &&& (1 : Int32)) = (0 : Int32) then p2 else p0) = p0 from (if_neg hm4)] at k
      exact k
  refine OG.step s1 ?_
  have s2 : ∀ t, Steps p.tables e below (s₁.setTop (mkF m 14 #[.val (.int p0), .val (.int p1), .val (.int p2), .val (.int p3), .val (.int p4), .val (.int (if (p4 &&& (1 : Int32)) = (0 : Int32) then p2 else p0)), .unset, .unset, .unset, .unset, .unset, .unset] [])) t → Steps p.tables e below (s₁.setTop (mkF m 12 #[.val (.int p0), .val (.int p1), .val (.int p2), .val (.int p3), .val (.int p4), .unset, .unset, .unset, .unset, .unset, .unset, .unset] [(.int (if (p4 &&& (1 : Int32)) = (0 : Int32) then p2 else p0))])) t := by
    intro t k
    refine XS.istore X0.here hx rfl (hb hby at_12) rfl (l' := #[.val (.int p0), .val (.int p1), .val (.int p2), .val (.int p3), .val (.int p4), .val (.int (if (p4 &&& (1 : Int32)) = (0 : Int32) then p2 else p0)), .unset, .unset, .unset, .unset, .unset, .unset]) rfl ?_
    exact k
  refine OG.step s2 ?_
  have s3 : ∀ t, Steps p.tables e below (s₁.setTop (mkF m 26 #[.val (.int p0), .val (.int p1), .val (.int p2), .val (.int p3), .val (.int p4), .val (.int (if (p4 &&& (1 : Int32)) = (0 : Int32) then p2 else p0)), .unset, .unset, .unset, .unset, .unset, .unset] [(.int (if (p4 &&& (2 : Int32)) = (0 : Int32) then p3 else p1))])) t → Steps p.tables e below (s₁.setTop (mkF m 14 #[.val (.int p0), .val (.int p1), .val (.int p2), .val (.int p3), .val (.int p4), .val (.int (if (p4 &&& (1 : Int32)) = (0 : Int32) then p2 else p0)), .unset, .unset, .unset, .unset, .unset, .unset] [])) t := by
    intro t k
    refine XS.iload X0.here hx rfl (hb hby at_14) rfl ?_
    show Steps p.tables e below (s₁.setTop (mkF m 16 #[.val (.int p0), .val (.int p1), .val (.int p2), .val (.int p3), .val (.int p4), .val (.int (if (p4 &&& (1 : Int32)) = (0 : Int32) then p2 else p0)), .unset, .unset, .unset, .unset, .unset, .unset] [(.int p4)])) _
    refine XS.iconst X0.here hx rfl (hb hby at_16) ?_
    show Steps p.tables e below (s₁.setTop (mkF m 17 #[.val (.int p0), .val (.int p1), .val (.int p2), .val (.int p3), .val (.int p4), .val (.int (if (p4 &&& (1 : Int32)) = (0 : Int32) then p2 else p0)), .unset, .unset, .unset, .unset, .unset, .unset] [(.int (2 : Int32)), (.int p4)])) _
    refine XS.iand X0.here hx rfl (hb hby at_17) rfl ?_
    show Steps p.tables e below (s₁.setTop (mkF m 18 #[.val (.int p0), .val (.int p1), .val (.int p2), .val (.int p3), .val (.int p4), .val (.int (if (p4 &&& (1 : Int32)) = (0 : Int32) then p2 else p0)), .unset, .unset, .unset, .unset, .unset, .unset] [(.int (p4 &&& (2 : Int32)))])) _
    by_cases hm18 : (p4 &&& (2 : Int32)) = (0 : Int32)
    · refine XS.ifYes X0.here hx rfl (pc0 := 18) (pc' := 25) rfl (hb hby at_18) rfl ((if0 _ _).trans (teq hm18).1) (by decide) (by decide) ?_
      show Steps p.tables e below (s₁.setTop (mkF m 25 #[.val (.int p0), .val (.int p1), .val (.int p2), .val (.int p3), .val (.int p4), .val (.int (if (p4 &&& (1 : Int32)) = (0 : Int32) then p2 else p0)), .unset, .unset, .unset, .unset, .unset, .unset] [])) _
      refine XS.iloadN X0.here hx rfl (hb hby at_25) rfl ?_
      show Steps p.tables e below (s₁.setTop (mkF m 26 #[.val (.int p0), .val (.int p1), .val (.int p2), .val (.int p3), .val (.int p4), .val (.int (if (p4 &&& (1 : Int32)) = (0 : Int32) then p2 else p0)), .unset, .unset, .unset, .unset, .unset, .unset] [(.int p3)])) _
      rw [show (if (p4 &&& (2 : Int32)) = (0 : Int32) then p3 else p1) = p3 from (if_pos hm18)] at k
      exact k
    · refine XS.ifNo X0.here hx rfl (hb hby at_18) rfl ((if0 _ _).trans (feq hm18).1) ?_
      show Steps p.tables e below (s₁.setTop (mkF m 21 #[.val (.int p0), .val (.int p1), .val (.int p2), .val (.int p3), .val (.int p4), .val (.int (if (p4 &&& (1 : Int32)) = (0 : Int32) then p2 else p0)), .unset, .unset, .unset, .unset, .unset, .unset] [])) _
      refine XS.iloadN X0.here hx rfl (hb hby at_21) rfl ?_
      show Steps p.tables e below (s₁.setTop (mkF m 22 #[.val (.int p0), .val (.int p1), .val (.int p2), .val (.int p3), .val (.int p4), .val (.int (if (p4 &&& (1 : Int32)) = (0 : Int32) then p2 else p0)), .unset, .unset, .unset, .unset, .unset, .unset] [(.int p1)])) _
      refine XS.goto X0.here hx rfl (pc0 := 22) (pc' := 26) rfl (hb hby at_22) (by decide) (by decide) ?_
      show Steps p.tables e below (s₁.setTop (mkF m 26 #[.val (.int p0), .val (.int p1), .val (.int p2), .val (.int p3), .val (.int p4), .val (.int (if (p4 &&& (1 : Int32)) = (0 : Int32) then p2 else p0)), .unset, .unset, .unset, .unset, .unset, .unset] [(.int p1)])) _
      rw [show (if (p4 &&& (2 : Int32)) = (0 : Int32) then p3 else p1) = p1 from (if_neg hm18)] at k
      exact k
  refine OG.step s3 ?_
  have s4 : ∀ t, Steps p.tables e below (s₁.setTop (mkF m 28 #[.val (.int p0), .val (.int p1), .val (.int p2), .val (.int p3), .val (.int p4), .val (.int (if (p4 &&& (1 : Int32)) = (0 : Int32) then p2 else p0)), .val (.int (if (p4 &&& (2 : Int32)) = (0 : Int32) then p3 else p1)), .unset, .unset, .unset, .unset, .unset] [])) t → Steps p.tables e below (s₁.setTop (mkF m 26 #[.val (.int p0), .val (.int p1), .val (.int p2), .val (.int p3), .val (.int p4), .val (.int (if (p4 &&& (1 : Int32)) = (0 : Int32) then p2 else p0)), .unset, .unset, .unset, .unset, .unset, .unset] [(.int (if (p4 &&& (2 : Int32)) = (0 : Int32) then p3 else p1))])) t := by
    intro t k
    refine XS.istore X0.here hx rfl (hb hby at_26) rfl (l' := #[.val (.int p0), .val (.int p1), .val (.int p2), .val (.int p3), .val (.int p4), .val (.int (if (p4 &&& (1 : Int32)) = (0 : Int32) then p2 else p0)), .val (.int (if (p4 &&& (2 : Int32)) = (0 : Int32) then p3 else p1)), .unset, .unset, .unset, .unset, .unset]) rfl ?_
    exact k
  refine OG.step s4 ?_
  obtain ⟨T5, h5, X5, e5, E5, A5, D5, -, st5⟩ := newO X0 hx hZ hown (hw _ (List.mem_of_getElem? (i := 0) rfl)) (hw _ (List.mem_of_getElem? (i := 1) rfl)) (hw _ (List.mem_of_getElem? (i := 2) rfl)) e0 (g := (mkF m 28 #[.val (.int p0), .val (.int p1), .val (.int p2), .val (.int p3), .val (.int p4), .val (.int (if (p4 &&& (1 : Int32)) = (0 : Int32) then p2 else p0)), .val (.int (if (p4 &&& (2 : Int32)) = (0 : Int32) then p3 else p1)), .unset, .unset, .unset, .unset, .unset] [])) rfl (hb hby at_28) (by decide) (by decide)
  obtain ⟨b5, g5⟩ : ∃ z, z = h0.size := ⟨_, rfl⟩
  rw [← g5] at A5 D5 st5
  have sz5 : h0.size ≤ b5 := Nat.le_trans K0.1 (Nat.le_of_eq g5.symm)
  have ge5 : n0 ≤ b5 := Nat.le_trans Z0 sz5
  refine OG.step st5 ?_
  have F5_width : Fld Z h5 b5 "com/example/ludus/ludus/PackingTask$Bag" "width" "I" (.int (0 : Int32)) := D5 (Or.inr (hw _ (List.mem_of_getElem? (i := 10) rfl))) (ty := .int) (by decide)
  have F5_height : Fld Z h5 b5 "com/example/ludus/ludus/PackingTask$Bag" "height" "I" (.int (0 : Int32)) := D5 (Or.inr (hw _ (List.mem_of_getElem? (i := 12) rfl))) (ty := .int) (by decide)
  have K5 := K0.ext E5
  show OG _ _ _ _ _ _ _ (T5.setTop (mkF m 31 #[.val (.int p0), .val (.int p1), .val (.int p2), .val (.int p3), .val (.int p4), .val (.int (if (p4 &&& (1 : Int32)) = (0 : Int32) then p2 else p0)), .val (.int (if (p4 &&& (2 : Int32)) = (0 : Int32) then p3 else p1)), .unset, .unset, .unset, .unset, .unset] [(.ref b5)]))
  have s6 : ∀ t, Steps p.tables e below (T5.setTop (mkF m 34 #[.val (.int p0), .val (.int p1), .val (.int p2), .val (.int p3), .val (.int p4), .val (.int (if (p4 &&& (1 : Int32)) = (0 : Int32) then p2 else p0)), .val (.int (if (p4 &&& (2 : Int32)) = (0 : Int32) then p3 else p1)), .unset, .unset, .unset, .unset, .unset] [(.int p1), (.int p0), (.ref b5), (.ref b5)])) t → Steps p.tables e below (T5.setTop (mkF m 31 #[.val (.int p0), .val (.int p1), .val (.int p2), .val (.int p3), .val (.int p4), .val (.int (if (p4 &&& (1 : Int32)) = (0 : Int32) then p2 else p0)), .val (.int (if (p4 &&& (2 : Int32)) = (0 : Int32) then p3 else p1)), .unset, .unset, .unset, .unset, .unset] [(.ref b5)])) t := by
    intro t k
    refine XS.dup X5.here hx rfl (hb hby at_31) rfl rfl ?_
    show Steps p.tables e below (T5.setTop (mkF m 32 #[.val (.int p0), .val (.int p1), .val (.int p2), .val (.int p3), .val (.int p4), .val (.int (if (p4 &&& (1 : Int32)) = (0 : Int32) then p2 else p0)), .val (.int (if (p4 &&& (2 : Int32)) = (0 : Int32) then p3 else p1)), .unset, .unset, .unset, .unset, .unset] [(.ref b5), (.ref b5)])) _
    refine XS.iloadN X5.here hx rfl (hb hby at_32) rfl ?_
    show Steps p.tables e below (T5.setTop (mkF m 33 #[.val (.int p0), .val (.int p1), .val (.int p2), .val (.int p3), .val (.int p4), .val (.int (if (p4 &&& (1 : Int32)) = (0 : Int32) then p2 else p0)), .val (.int (if (p4 &&& (2 : Int32)) = (0 : Int32) then p3 else p1)), .unset, .unset, .unset, .unset, .unset] [(.int p0), (.ref b5), (.ref b5)])) _
    refine XS.iloadN X5.here hx rfl (hb hby at_33) rfl ?_
    exact k
  refine OG.step s6 ?_
  obtain ⟨_, _, ⟨T7, L7, k7, n7⟩, -, X7, ⟨Lc7, hQ7, l7, y7, z7⟩, st7⟩ := X5.specialBack hx (y := (⟨"com/example/ludus/ludus/PackingTask$Bag", "<init>", "(II)V"⟩ : MethodName)) rfl hown (mvT hZ (hw _ (List.mem_of_getElem? (i := 3) rfl))) (mvT hZ (hw _ (List.mem_of_getElem? (i := 4) rfl))) (mvT hZ (hw _ (List.mem_of_getElem? (i := 5) rfl))) (by decide) (backOf (W := 1) (rm1 l Z a0 hw [] b5 p0 p1 (.int (0 : Int32)) (.int (0 : Int32)) h5 n0 (Nat.le_trans Z0 K5.1) A5 F5_width F5_height ge5) hZ (hw _ (List.mem_of_getElem? (i := 5) rfl)) (hw _ (List.mem_of_getElem? (i := 2) rfl)) (by decide) (by decide)) (g := (mkF m 34 #[.val (.int p0), .val (.int p1), .val (.int p2), .val (.int p3), .val (.int p4), .val (.int (if (p4 &&& (1 : Int32)) = (0 : Int32) then p2 else p0)), .val (.int (if (p4 &&& (2 : Int32)) = (0 : Int32) then p3 else p1)), .unset, .unset, .unset, .unset, .unset] [(.int p1), (.int p0), (.ref b5), (.ref b5)])) rfl (by rw [hml]; rfl) (Steps.refl _) (a := b5) (argsL := [(.int p0), (.int p1)]) (rest := [(.ref b5)]) (lenOf pd__II_V rfl) rfl (by show 2 * 0 + _ ≤ _; exact Nat.le_of_eq rfl) (hb hby at_34) (fun _ _ => ⟨rfl, e5, (by decide : 1 + 0 ≤ _), (by decide : 2 + 0 ≤ _)⟩)
  dsimp only [Pt.U, Pt.locs, Pt.cells, Pt.slots] at X7 l7 y7 z7 st7 hQ7
  subst l7 y7 z7
  obtain ⟨rfl, N7q, Kc7, p7_0, p7_1⟩ := hQ7
  have N7 := Fr.app N0 N7q
  refine OG.step (fun t k => st7.trans k) ?_
  have f8 := A5.keep Kc7
  have K7 := K5.trans Kc7 (allS (Or.inr sz5) all0)
  show OG _ _ _ _ _ _ _ (T7.setTop (mkF m 37 #[.val (.int p0), .val (.int p1), .val (.int p2), .val (.int p3), .val (.int p4), .val (.int (if (p4 &&& (1 : Int32)) = (0 : Int32) then p2 else p0)), .val (.int (if (p4 &&& (2 : Int32)) = (0 : Int32) then p3 else p1)), .unset, .unset, .unset, .unset, .unset] [(.ref b5)]))
  have s11 : ∀ t, Steps p.tables e below (T7.setTop (mkF m 39 #[.val (.int p0), .val (.int p1), .val (.int p2), .val (.int p3), .val (.int p4), .val (.int (if (p4 &&& (1 : Int32)) = (0 : Int32) then p2 else p0)), .val (.int (if (p4 &&& (2 : Int32)) = (0 : Int32) then p3 else p1)), .val (.ref b5), .unset, .unset, .unset, .unset] [])) t → Steps p.tables e below (T7.setTop (mkF m 37 #[.val (.int p0), .val (.int p1), .val (.int p2), .val (.int p3), .val (.int p4), .val (.int (if (p4 &&& (1 : Int32)) = (0 : Int32) then p2 else p0)), .val (.int (if (p4 &&& (2 : Int32)) = (0 : Int32) then p3 else p1)), .unset, .unset, .unset, .unset, .unset] [(.ref b5)])) t := by
    intro t k
    refine XS.astore X7.here hx rfl (hb hby at_37) rfl rfl (l' := #[.val (.int p0), .val (.int p1), .val (.int p2), .val (.int p3), .val (.int p4), .val (.int (if (p4 &&& (1 : Int32)) = (0 : Int32) then p2 else p0)), .val (.int (if (p4 &&& (2 : Int32)) = (0 : Int32) then p3 else p1)), .val (.ref b5), .unset, .unset, .unset, .unset]) rfl ?_
    exact k
  refine OG.step s11 ?_
  obtain ⟨T12, h12, X12, e12, E12, A12, D12, -, st12⟩ := newO X7 hx hZ hown (hw _ (List.mem_of_getElem? (i := 0) rfl)) (hw _ (List.mem_of_getElem? (i := 1) rfl)) (hw _ (List.mem_of_getElem? (i := 2) rfl)) rfl (g := (mkF m 39 #[.val (.int p0), .val (.int p1), .val (.int p2), .val (.int p3), .val (.int p4), .val (.int (if (p4 &&& (1 : Int32)) = (0 : Int32) then p2 else p0)), .val (.int (if (p4 &&& (2 : Int32)) = (0 : Int32) then p3 else p1)), .val (.ref b5), .unset, .unset, .unset, .unset] [])) rfl (hb hby at_39) (by decide) (by decide)
  obtain ⟨b12, g12⟩ : ∃ z, z = T7.heap.size := ⟨_, rfl⟩
  rw [← g12] at A12 D12 st12
  have sz12 : h0.size ≤ b12 := Nat.le_trans K7.1 (Nat.le_of_eq g12.symm)
  have ge12 : n0 ≤ b12 := Nat.le_trans Z0 sz12
  have ne12_b5 : b5 ≠ b12 := Nat.ne_of_lt (Nat.lt_of_lt_of_le f8.lt (Nat.le_of_eq g12.symm))
  refine OG.step st12 ?_
  have f13 := f8.ext E12
  have f14 := p7_0.ext E12
  have f15 := p7_1.ext E12
  have F12_width : Fld Z h12 b12 "com/example/ludus/ludus/PackingTask$Bag" "width" "I" (.int (0 : Int32)) := D12 (Or.inr (hw _ (List.mem_of_getElem? (i := 10) rfl))) (ty := .int) (by decide)
  have F12_height : Fld Z h12 b12 "com/example/ludus/ludus/PackingTask$Bag" "height" "I" (.int (0 : Int32)) := D12 (Or.inr (hw _ (List.mem_of_getElem? (i := 12) rfl))) (ty := .int) (by decide)
  have K12 := K7.ext E12
  show OG _ _ _ _ _ _ _ (T12.setTop (mkF m 42 #[.val (.int p0), .val (.int p1), .val (.int p2), .val (.int p3), .val (.int p4), .val (.int (if (p4 &&& (1 : Int32)) = (0 : Int32) then p2 else p0)), .val (.int (if (p4 &&& (2 : Int32)) = (0 : Int32) then p3 else p1)), .val (.ref b5), .unset, .unset, .unset, .unset] [(.ref b12)]))
  have s16 : ∀ t, Steps p.tables e below (T12.setTop (mkF m 47 #[.val (.int p0), .val (.int p1), .val (.int p2), .val (.int p3), .val (.int p4), .val (.int (if (p4 &&& (1 : Int32)) = (0 : Int32) then p2 else p0)), .val (.int (if (p4 &&& (2 : Int32)) = (0 : Int32) then p3 else p1)), .val (.ref b5), .unset, .unset, .unset, .unset] [(.int (if (p4 &&& (2 : Int32)) = (0 : Int32) then p3 else p1)), (.int (if (p4 &&& (1 : Int32)) = (0 : Int32) then p2 else p0)), (.ref b12), (.ref b12)])) t → Steps p.tables e below (T12.setTop (mkF m 42 #[.val (.int p0), .val (.int p1), .val (.int p2), .val (.int p3), .val (.int p4), .val (.int (if (p4 &&& (1 : Int32)) = (0 : Int32) then p2 else p0)), .val (.int (if (p4 &&& (2 : Int32)) = (0 : Int32) then p3 else p1)), .val (.ref b5), .unset, .unset, .unset, .unset] [(.ref b12)])) t := by
    intro t k
    refine XS.dup X12.here hx rfl (hb hby at_42) rfl rfl ?_
    show Steps p.tables e below (T12.setTop (mkF m 43 #[.val (.int p0), .val (.int p1), .val (.int p2), .val (.int p3), .val (.int p4), .val (.int (if (p4 &&& (1 : Int32)) = (0 : Int32) then p2 else p0)), .val (.int (if (p4 &&& (2 : Int32)) = (0 : Int32) then p3 else p1)), .val (.ref b5), .unset, .unset, .unset, .unset] [(.ref b12), (.ref b12)])) _
    refine XS.iload X12.here hx rfl (hb hby at_43) rfl ?_
    show Steps p.tables e below (T12.setTop (mkF m 45 #[.val (.int p0), .val (.int p1), .val (.int p2), .val (.int p3), .val (.int p4), .val (.int (if (p4 &&& (1 : Int32)) = (0 : Int32) then p2 else p0)), .val (.int (if (p4 &&& (2 : Int32)) = (0 : Int32) then p3 else p1)), .val (.ref b5), .unset, .unset, .unset, .unset] [(.int (if (p4 &&& (1 : Int32)) = (0 : Int32) then p2 else p0)), (.ref b12), (.ref b12)])) _
    refine XS.iload X12.here hx rfl (hb hby at_45) rfl ?_
    exact k
  refine OG.step s16 ?_
  obtain ⟨_, _, ⟨T17, L17, k17, n17⟩, -, X17, ⟨Lc17, hQ17, l17, y17, z17⟩, st17⟩ := X12.specialBack hx (y := (⟨"com/example/ludus/ludus/PackingTask$Bag", "<init>", "(II)V"⟩ : MethodName)) rfl hown (mvT hZ (hw _ (List.mem_of_getElem? (i := 3) rfl))) (mvT hZ (hw _ (List.mem_of_getElem? (i := 4) rfl))) (mvT hZ (hw _ (List.mem_of_getElem? (i := 5) rfl))) (by decide) (backOf (W := 1) (rm1 l Z a0 hw [] b12 (if (p4 &&& (1 : Int32)) = (0 : Int32) then p2 else p0) (if (p4 &&& (2 : Int32)) = (0 : Int32) then p3 else p1) (.int (0 : Int32)) (.int (0 : Int32)) h12 n0 (Nat.le_trans Z0 K12.1) A12 F12_width F12_height ge12) hZ (hw _ (List.mem_of_getElem? (i := 5) rfl)) (hw _ (List.mem_of_getElem? (i := 2) rfl)) (by decide) (by decide)) (g := (mkF m 47 #[.val (.int p0), .val (.int p1), .val (.int p2), .val (.int p3), .val (.int p4), .val (.int (if (p4 &&& (1 : Int32)) = (0 : Int32) then p2 else p0)), .val (.int (if (p4 &&& (2 : Int32)) = (0 : Int32) then p3 else p1)), .val (.ref b5), .unset, .unset, .unset, .unset] [(.int (if (p4 &&& (2 : Int32)) = (0 : Int32) then p3 else p1)), (.int (if (p4 &&& (1 : Int32)) = (0 : Int32) then p2 else p0)), (.ref b12), (.ref b12)])) rfl (by rw [hml]; rfl) (Steps.refl _) (a := b12) (argsL := [(.int (if (p4 &&& (1 : Int32)) = (0 : Int32) then p2 else p0)), (.int (if (p4 &&& (2 : Int32)) = (0 : Int32) then p3 else p1))]) (rest := [(.ref b12)]) (lenOf pd__II_V rfl) rfl (by show 2 * 0 + _ ≤ _; exact Nat.le_of_eq rfl) (hb hby at_47) (fun _ _ => ⟨rfl, e12, (by decide : 2 + 0 ≤ _), (by decide : 4 + 0 ≤ _)⟩)
  dsimp only [Pt.U, Pt.locs, Pt.cells, Pt.slots] at X17 l17 y17 z17 st17 hQ17
  subst l17 y17 z17
  obtain ⟨rfl, N17q, Kc17, p17_0, p17_1⟩ := hQ17
  have N17 := Fr.app N7 N17q
  refine OG.step (fun t k => st17.trans k) ?_
  have f18 := f13.keep Kc17
  have f19 := f14.keep Kc17 (ninS ne12_b5 nin0)
  have f20 := f15.keep Kc17 (ninS ne12_b5 nin0)
  have f21 := A12.keep Kc17
  have K17 := K12.trans Kc17 (allS (Or.inr sz12) all0)
  show OG _ _ _ _ _ _ _ (T17.setTop (mkF m 50 #[.val (.int p0), .val (.int p1), .val (.int p2), .val (.int p3), .val (.int p4), .val (.int (if (p4 &&& (1 : Int32)) = (0 : Int32) then p2 else p0)), .val (.int (if (p4 &&& (2 : Int32)) = (0 : Int32) then p3 else p1)), .val (.ref b5), .unset, .unset, .unset, .unset] [(.ref b12)]))
  have s24 : ∀ t, Steps p.tables e below (T17.setTop (mkF m 52 #[.val (.int p0), .val (.int p1), .val (.int p2), .val (.int p3), .val (.int p4), .val (.int (if (p4 &&& (1 : Int32)) = (0 : Int32) then p2 else p0)), .val (.int (if (p4 &&& (2 : Int32)) = (0 : Int32) then p3 else p1)), .val (.ref b5), .val (.ref b12), .unset, .unset, .unset] [])) t → Steps p.tables e below (T17.setTop (mkF m 50 #[.val (.int p0), .val (.int p1), .val (.int p2), .val (.int p3), .val (.int p4), .val (.int (if (p4 &&& (1 : Int32)) = (0 : Int32) then p2 else p0)), .val (.int (if (p4 &&& (2 : Int32)) = (0 : Int32) then p3 else p1)), .val (.ref b5), .unset, .unset, .unset, .unset] [(.ref b12)])) t := by
    intro t k
    refine XS.astore X17.here hx rfl (hb hby at_50) rfl rfl (l' := #[.val (.int p0), .val (.int p1), .val (.int p2), .val (.int p3), .val (.int p4), .val (.int (if (p4 &&& (1 : Int32)) = (0 : Int32) then p2 else p0)), .val (.int (if (p4 &&& (2 : Int32)) = (0 : Int32) then p3 else p1)), .val (.ref b5), .val (.ref b12), .unset, .unset, .unset]) rfl ?_
    exact k
  refine OG.step s24 ?_
  have s25 : ∀ t, Steps p.tables e below (T17.setTop (mkF m 69 #[.val (.int p0), .val (.int p1), .val (.int p2), .val (.int p3), .val (.int p4), .val (.int (if (p4 &&& (1 : Int32)) = (0 : Int32) then p2 else p0)), .val (.int (if (p4 &&& (2 : Int32)) = (0 : Int32) then p3 else p1)), .val (.ref b5), .val (.ref b12), .unset, .unset, .unset] [(.int (bI ((p0 = (if (p4 &&& (1 : Int32)) = (0 : Int32) then p2 else p0)) ∧ (p1 = (if (p4 &&& (2 : Int32)) = (0 : Int32) then p3 else p1)))))])) t → Steps p.tables e below (T17.setTop (mkF m 52 #[.val (.int p0), .val (.int p1), .val (.int p2), .val (.int p3), .val (.int p4), .val (.int (if (p4 &&& (1 : Int32)) = (0 : Int32) then p2 else p0)), .val (.int (if (p4 &&& (2 : Int32)) = (0 : Int32) then p3 else p1)), .val (.ref b5), .val (.ref b12), .unset, .unset, .unset] [])) t := by
    intro t k
    refine XS.iloadN X17.here hx rfl (hb hby at_52) rfl ?_
    show Steps p.tables e below (T17.setTop (mkF m 53 #[.val (.int p0), .val (.int p1), .val (.int p2), .val (.int p3), .val (.int p4), .val (.int (if (p4 &&& (1 : Int32)) = (0 : Int32) then p2 else p0)), .val (.int (if (p4 &&& (2 : Int32)) = (0 : Int32) then p3 else p1)), .val (.ref b5), .val (.ref b12), .unset, .unset, .unset] [(.int p0)])) _
    refine XS.iload X17.here hx rfl (hb hby at_53) rfl ?_
    show Steps p.tables e below (T17.setTop (mkF m 55 #[.val (.int p0), .val (.int p1), .val (.int p2), .val (.int p3), .val (.int p4), .val (.int (if (p4 &&& (1 : Int32)) = (0 : Int32) then p2 else p0)), .val (.int (if (p4 &&& (2 : Int32)) = (0 : Int32) then p3 else p1)), .val (.ref b5), .val (.ref b12), .unset, .unset, .unset] [(.int (if (p4 &&& (1 : Int32)) = (0 : Int32) then p2 else p0)), (.int p0)])) _
    by_cases hm55 : p0 = (if (p4 &&& (1 : Int32)) = (0 : Int32) then p2 else p0)
    · refine XS.icmpNo X17.here hx rfl (hb hby at_55) rfl (teq hm55).2 ?_
      show Steps p.tables e below (T17.setTop (mkF m 58 #[.val (.int p0), .val (.int p1), .val (.int p2), .val (.int p3), .val (.int p4), .val (.int (if (p4 &&& (1 : Int32)) = (0 : Int32) then p2 else p0)), .val (.int (if (p4 &&& (2 : Int32)) = (0 : Int32) then p3 else p1)), .val (.ref b5), .val (.ref b12), .unset, .unset, .unset] [])) _
      refine XS.iloadN X17.here hx rfl (hb hby at_58) rfl ?_
      show Steps p.tables e below (T17.setTop (mkF m 59 #[.val (.int p0), .val (.int p1), .val (.int p2), .val (.int p3), .val (.int p4), .val (.int (if (p4 &&& (1 : Int32)) = (0 : Int32) then p2 else p0)), .val (.int (if (p4 &&& (2 : Int32)) = (0 : Int32) then p3 else p1)), .val (.ref b5), .val (.ref b12), .unset, .unset, .unset] [(.int p1)])) _
      refine XS.iload X17.here hx rfl (hb hby at_59) rfl ?_
      show Steps p.tables e below (T17.setTop (mkF m 61 #[.val (.int p0), .val (.int p1), .val (.int p2), .val (.int p3), .val (.int p4), .val (.int (if (p4 &&& (1 : Int32)) = (0 : Int32) then p2 else p0)), .val (.int (if (p4 &&& (2 : Int32)) = (0 : Int32) then p3 else p1)), .val (.ref b5), .val (.ref b12), .unset, .unset, .unset] [(.int (if (p4 &&& (2 : Int32)) = (0 : Int32) then p3 else p1)), (.int p1)])) _
      by_cases hm61 : p1 = (if (p4 &&& (2 : Int32)) = (0 : Int32) then p3 else p1)
      · refine XS.icmpNo X17.here hx rfl (hb hby at_61) rfl (teq hm61).2 ?_
        show Steps p.tables e below (T17.setTop (mkF m 64 #[.val (.int p0), .val (.int p1), .val (.int p2), .val (.int p3), .val (.int p4), .val (.int (if (p4 &&& (1 : Int32)) = (0 : Int32) then p2 else p0)), .val (.int (if (p4 &&& (2 : Int32)) = (0 : Int32) then p3 else p1)), .val (.ref b5), .val (.ref b12), .unset, .unset, .unset] [])) _
        refine XS.iconst X17.here hx rfl (hb hby at_64) ?_
        show Steps p.tables e below (T17.setTop (mkF m 65 #[.val (.int p0), .val (.int p1), .val (.int p2), .val (.int p3), .val (.int p4), .val (.int (if (p4 &&& (1 : Int32)) = (0 : Int32) then p2 else p0)), .val (.int (if (p4 &&& (2 : Int32)) = (0 : Int32) then p3 else p1)), .val (.ref b5), .val (.ref b12), .unset, .unset, .unset] [(.int (1 : Int32))])) _
        refine XS.goto X17.here hx rfl (pc0 := 65) (pc' := 69) rfl (hb hby at_65) (by decide) (by decide) ?_
        show Steps p.tables e below (T17.setTop (mkF m 69 #[.val (.int p0), .val (.int p1), .val (.int p2), .val (.int p3), .val (.int p4), .val (.int (if (p4 &&& (1 : Int32)) = (0 : Int32) then p2 else p0)), .val (.int (if (p4 &&& (2 : Int32)) = (0 : Int32) then p3 else p1)), .val (.ref b5), .val (.ref b12), .unset, .unset, .unset] [(.int (1 : Int32))])) _
        rw [show (bI ((p0 = (if (p4 &&& (1 : Int32)) = (0 : Int32) then p2 else p0)) ∧ (p1 = (if (p4 &&& (2 : Int32)) = (0 : Int32) then p3 else p1)))) = (1 : Int32) from bI_pos (P := (p0 = (if (p4 &&& (1 : Int32)) = (0 : Int32) then p2 else p0)) ∧ (p1 = (if (p4 &&& (2 : Int32)) = (0 : Int32) then p3 else p1))) ⟨hm55, hm61⟩] at k
        exact k
      · refine XS.icmpYes X17.here hx rfl (pc0 := 61) (pc' := 68) rfl (hb hby at_61) rfl (feq hm61).2 (by decide) (by decide) ?_
        show Steps p.tables e below (T17.setTop (mkF m 68 #[.val (.int p0), .val (.int p1), .val (.int p2), .val (.int p3), .val (.int p4), .val (.int (if (p4 &&& (1 : Int32)) = (0 : Int32) then p2 else p0)), .val (.int (if (p4 &&& (2 : Int32)) = (0 : Int32) then p3 else p1)), .val (.ref b5), .val (.ref b12), .unset, .unset, .unset] [])) _
        refine XS.iconst X17.here hx rfl (hb hby at_68) ?_
        show Steps p.tables e below (T17.setTop (mkF m 69 #[.val (.int p0), .val (.int p1), .val (.int p2), .val (.int p3), .val (.int p4), .val (.int (if (p4 &&& (1 : Int32)) = (0 : Int32) then p2 else p0)), .val (.int (if (p4 &&& (2 : Int32)) = (0 : Int32) then p3 else p1)), .val (.ref b5), .val (.ref b12), .unset, .unset, .unset] [(.int (0 : Int32))])) _
        rw [show (bI ((p0 = (if (p4 &&& (1 : Int32)) = (0 : Int32) then p2 else p0)) ∧ (p1 = (if (p4 &&& (2 : Int32)) = (0 : Int32) then p3 else p1)))) = (0 : Int32) from bI_neg (P := (p0 = (if (p4 &&& (1 : Int32)) = (0 : Int32) then p2 else p0)) ∧ (p1 = (if (p4 &&& (2 : Int32)) = (0 : Int32) then p3 else p1))) (fun z => hm61 z.2)] at k
        exact k
    · refine XS.icmpYes X17.here hx rfl (pc0 := 55) (pc' := 68) rfl (hb hby at_55) rfl (feq hm55).2 (by decide) (by decide) ?_
      show Steps p.tables e below (T17.setTop (mkF m 68 #[.val (.int p0), .val (.int p1), .val (.int p2), .val (.int p3), .val (.int p4), .val (.int (if (p4 &&& (1 : Int32)) = (0 : Int32) then p2 else p0)), .val (.int (if (p4 &&& (2 : Int32)) = (0 : Int32) then p3 else p1)), .val (.ref b5), .val (.ref b12), .unset, .unset, .unset] [])) _
      refine XS.iconst X17.here hx rfl (hb hby at_68) ?_
      show Steps p.tables e below (T17.setTop (mkF m 69 #[.val (.int p0), .val (.int p1), .val (.int p2), .val (.int p3), .val (.int p4), .val (.int (if (p4 &&& (1 : Int32)) = (0 : Int32) then p2 else p0)), .val (.int (if (p4 &&& (2 : Int32)) = (0 : Int32) then p3 else p1)), .val (.ref b5), .val (.ref b12), .unset, .unset, .unset] [(.int (0 : Int32))])) _
      rw [show (bI ((p0 = (if (p4 &&& (1 : Int32)) = (0 : Int32) then p2 else p0)) ∧ (p1 = (if (p4 &&& (2 : Int32)) = (0 : Int32) then p3 else p1)))) = (0 : Int32) from bI_neg (P := (p0 = (if (p4 &&& (1 : Int32)) = (0 : Int32) then p2 else p0)) ∧ (p1 = (if (p4 &&& (2 : Int32)) = (0 : Int32) then p3 else p1))) (fun z => hm55 z.1)] at k
      exact k
  refine OG.step s25 ?_
  have s26 : ∀ t, Steps p.tables e below (T17.setTop (mkF m 75 #[.val (.int p0), .val (.int p1), .val (.int p2), .val (.int p3), .val (.int p4), .val (.int (if (p4 &&& (1 : Int32)) = (0 : Int32) then p2 else p0)), .val (.int (if (p4 &&& (2 : Int32)) = (0 : Int32) then p3 else p1)), .val (.ref b5), .val (.ref b12), .val (.int (bI ((p0 = (if (p4 &&& (1 : Int32)) = (0 : Int32) then p2 else p0)) ∧ (p1 = (if (p4 &&& (2 : Int32)) = (0 : Int32) then p3 else p1))))), .unset, .unset] [(.ref b12), (.ref b5)])) t → Steps p.tables e below (T17.setTop (mkF m 69 #[.val (.int p0), .val (.int p1), .val (.int p2), .val (.int p3), .val (.int p4), .val (.int (if (p4 &&& (1 : Int32)) = (0 : Int32) then p2 else p0)), .val (.int (if (p4 &&& (2 : Int32)) = (0 : Int32) then p3 else p1)), .val (.ref b5), .val (.ref b12), .unset, .unset, .unset] [(.int (bI ((p0 = (if (p4 &&& (1 : Int32)) = (0 : Int32) then p2 else p0)) ∧ (p1 = (if (p4 &&& (2 : Int32)) = (0 : Int32) then p3 else p1)))))])) t := by
    intro t k
    refine XS.istore X17.here hx rfl (hb hby at_69) rfl (l' := #[.val (.int p0), .val (.int p1), .val (.int p2), .val (.int p3), .val (.int p4), .val (.int (if (p4 &&& (1 : Int32)) = (0 : Int32) then p2 else p0)), .val (.int (if (p4 &&& (2 : Int32)) = (0 : Int32) then p3 else p1)), .val (.ref b5), .val (.ref b12), .val (.int (bI ((p0 = (if (p4 &&& (1 : Int32)) = (0 : Int32) then p2 else p0)) ∧ (p1 = (if (p4 &&& (2 : Int32)) = (0 : Int32) then p3 else p1))))), .unset, .unset]) rfl ?_
    show Steps p.tables e below (T17.setTop (mkF m 71 #[.val (.int p0), .val (.int p1), .val (.int p2), .val (.int p3), .val (.int p4), .val (.int (if (p4 &&& (1 : Int32)) = (0 : Int32) then p2 else p0)), .val (.int (if (p4 &&& (2 : Int32)) = (0 : Int32) then p3 else p1)), .val (.ref b5), .val (.ref b12), .val (.int (bI ((p0 = (if (p4 &&& (1 : Int32)) = (0 : Int32) then p2 else p0)) ∧ (p1 = (if (p4 &&& (2 : Int32)) = (0 : Int32) then p3 else p1))))), .unset, .unset] [])) _
    refine XS.aload X17.here hx rfl (hb hby at_71) rfl rfl ?_
    show Steps p.tables e below (T17.setTop (mkF m 73 #[.val (.int p0), .val (.int p1), .val (.int p2), .val (.int p3), .val (.int p4), .val (.int (if (p4 &&& (1 : Int32)) = (0 : Int32) then p2 else p0)), .val (.int (if (p4 &&& (2 : Int32)) = (0 : Int32) then p3 else p1)), .val (.ref b5), .val (.ref b12), .val (.int (bI ((p0 = (if (p4 &&& (1 : Int32)) = (0 : Int32) then p2 else p0)) ∧ (p1 = (if (p4 &&& (2 : Int32)) = (0 : Int32) then p3 else p1))))), .unset, .unset] [(.ref b5)])) _
    refine XS.aload X17.here hx rfl (hb hby at_73) rfl rfl ?_
    exact k
  refine OG.step s26 ?_
  obtain ⟨cq27, kq27, q27a, q27b, q27c⟩ := isOf hZ rfl f18
  obtain ⟨_, _, ⟨T27, L27, k27, n27⟩, -, X27, ⟨Lc27, hQ27, l27, y27, z27⟩, st27⟩ := X17.virtualBack hx (y := (⟨"com/example/ludus/ludus/PackingTask$Bag", "equals", "(Ljava/lang/Object;)Z"⟩ : MethodName)) (z := (⟨"com/example/ludus/ludus/PackingTask$Bag", "equals", "(Ljava/lang/Object;)Z"⟩ : MethodName)) hown (mvT hZ (hw _ (List.mem_of_getElem? (i := 13) rfl))) (mvT hZ (hw _ (List.mem_of_getElem? (i := 14) rfl))) (notFace_of_selects (args := #[]) (mvT hZ (hw _ (List.mem_of_getElem? (i := 16) rfl)))) (mvT hZ (hw _ (List.mem_of_getElem? (i := 16) rfl))) (mvT hZ (hw _ (List.mem_of_getElem? (i := 15) rfl))) (by decide) (backOf (W := 0) (rm3s l Z a0 hw [] b5 b12 p0 p1 (if (p4 &&& (1 : Int32)) = (0 : Int32) then p2 else p0) (if (p4 &&& (2 : Int32)) = (0 : Int32) then p3 else p1) T17.heap n0 (Nat.le_trans Z0 K17.1) f21 f19 f20 p17_0 p17_1) hZ (hw _ (List.mem_of_getElem? (i := 17) rfl)) (hw _ (List.mem_of_getElem? (i := 2) rfl)) (by decide) (by decide)) q27a q27c (g := (mkF m 75 #[.val (.int p0), .val (.int p1), .val (.int p2), .val (.int p3), .val (.int p4), .val (.int (if (p4 &&& (1 : Int32)) = (0 : Int32) then p2 else p0)), .val (.int (if (p4 &&& (2 : Int32)) = (0 : Int32) then p3 else p1)), .val (.ref b5), .val (.ref b12), .val (.int (bI ((p0 = (if (p4 &&& (1 : Int32)) = (0 : Int32) then p2 else p0)) ∧ (p1 = (if (p4 &&& (2 : Int32)) = (0 : Int32) then p3 else p1))))), .unset, .unset] [(.ref b12), (.ref b5)])) rfl (by rw [hml]; rfl) (Steps.refl _) (argsL := [(.ref b12)]) (rest := []) (lenOf pd__Ljava_lang_Object__Z rfl) rfl (by show 2 * 0 + _ ≤ _; exact Nat.le_of_eq rfl) (hb hby at_75) (fun _ _ => ⟨rfl, rfl, (by decide : 2 + 0 ≤ _), (by decide : 4 + 0 ≤ _)⟩)
  dsimp only [Pt.U, Pt.locs, Pt.cells, Pt.slots] at X27 l27 y27 z27 st27 hQ27
  subst l27 y27 z27
  obtain ⟨rfl, N27q, e27⟩ := hQ27
  have N27 := Fr.app N17 N27q
  refine OG.step (fun t k => st27.trans k) ?_
  show OG _ _ _ _ _ _ _ (T27.setTop (mkF m 78 #[.val (.int p0), .val (.int p1), .val (.int p2), .val (.int p3), .val (.int p4), .val (.int (if (p4 &&& (1 : Int32)) = (0 : Int32) then p2 else p0)), .val (.int (if (p4 &&& (2 : Int32)) = (0 : Int32) then p3 else p1)), .val (.ref b5), .val (.ref b12), .val (.int (bI ((p0 = (if (p4 &&& (1 : Int32)) = (0 : Int32) then p2 else p0)) ∧ (p1 = (if (p4 &&& (2 : Int32)) = (0 : Int32) then p3 else p1))))), .unset, .unset] [(.int (bI (p0 = (if (p4 &&& (1 : Int32)) = (0 : Int32) then p2 else p0) ∧ p1 = (if (p4 &&& (2 : Int32)) = (0 : Int32) then p3 else p1))))]))
  have s28 : ∀ t, Steps p.tables e below (T27.setTop (mkF m 89 #[.val (.int p0), .val (.int p1), .val (.int p2), .val (.int p3), .val (.int p4), .val (.int (if (p4 &&& (1 : Int32)) = (0 : Int32) then p2 else p0)), .val (.int (if (p4 &&& (2 : Int32)) = (0 : Int32) then p3 else p1)), .val (.ref b5), .val (.ref b12), .val (.int (bI ((p0 = (if (p4 &&& (1 : Int32)) = (0 : Int32) then p2 else p0)) ∧ (p1 = (if (p4 &&& (2 : Int32)) = (0 : Int32) then p3 else p1))))), .unset, .unset] [(.ref b5), (.ref b12)])) t → Steps p.tables e below (T27.setTop (mkF m 78 #[.val (.int p0), .val (.int p1), .val (.int p2), .val (.int p3), .val (.int p4), .val (.int (if (p4 &&& (1 : Int32)) = (0 : Int32) then p2 else p0)), .val (.int (if (p4 &&& (2 : Int32)) = (0 : Int32) then p3 else p1)), .val (.ref b5), .val (.ref b12), .val (.int (bI ((p0 = (if (p4 &&& (1 : Int32)) = (0 : Int32) then p2 else p0)) ∧ (p1 = (if (p4 &&& (2 : Int32)) = (0 : Int32) then p3 else p1))))), .unset, .unset] [(.int (bI (p0 = (if (p4 &&& (1 : Int32)) = (0 : Int32) then p2 else p0) ∧ p1 = (if (p4 &&& (2 : Int32)) = (0 : Int32) then p3 else p1))))])) t := by
    intro t k
    refine XS.iload X27.here hx rfl (hb hby at_78) rfl ?_
    show Steps p.tables e below (T27.setTop (mkF m 80 #[.val (.int p0), .val (.int p1), .val (.int p2), .val (.int p3), .val (.int p4), .val (.int (if (p4 &&& (1 : Int32)) = (0 : Int32) then p2 else p0)), .val (.int (if (p4 &&& (2 : Int32)) = (0 : Int32) then p3 else p1)), .val (.ref b5), .val (.ref b12), .val (.int (bI ((p0 = (if (p4 &&& (1 : Int32)) = (0 : Int32) then p2 else p0)) ∧ (p1 = (if (p4 &&& (2 : Int32)) = (0 : Int32) then p3 else p1))))), .unset, .unset] [(.int (bI ((p0 = (if (p4 &&& (1 : Int32)) = (0 : Int32) then p2 else p0)) ∧ (p1 = (if (p4 &&& (2 : Int32)) = (0 : Int32) then p3 else p1))))), (.int (bI (p0 = (if (p4 &&& (1 : Int32)) = (0 : Int32) then p2 else p0) ∧ p1 = (if (p4 &&& (2 : Int32)) = (0 : Int32) then p3 else p1))))])) _
    refine XS.icmpYes X27.here hx rfl (pc0 := 80) (pc' := 85) rfl (hb hby at_80) rfl (teq rfl).1 (by decide) (by decide) ?_
    show Steps p.tables e below (T27.setTop (mkF m 85 #[.val (.int p0), .val (.int p1), .val (.int p2), .val (.int p3), .val (.int p4), .val (.int (if (p4 &&& (1 : Int32)) = (0 : Int32) then p2 else p0)), .val (.int (if (p4 &&& (2 : Int32)) = (0 : Int32) then p3 else p1)), .val (.ref b5), .val (.ref b12), .val (.int (bI ((p0 = (if (p4 &&& (1 : Int32)) = (0 : Int32) then p2 else p0)) ∧ (p1 = (if (p4 &&& (2 : Int32)) = (0 : Int32) then p3 else p1))))), .unset, .unset] [])) _
    refine XS.aload X27.here hx rfl (hb hby at_85) rfl rfl ?_
    show Steps p.tables e below (T27.setTop (mkF m 87 #[.val (.int p0), .val (.int p1), .val (.int p2), .val (.int p3), .val (.int p4), .val (.int (if (p4 &&& (1 : Int32)) = (0 : Int32) then p2 else p0)), .val (.int (if (p4 &&& (2 : Int32)) = (0 : Int32) then p3 else p1)), .val (.ref b5), .val (.ref b12), .val (.int (bI ((p0 = (if (p4 &&& (1 : Int32)) = (0 : Int32) then p2 else p0)) ∧ (p1 = (if (p4 &&& (2 : Int32)) = (0 : Int32) then p3 else p1))))), .unset, .unset] [(.ref b12)])) _
    refine XS.aload X27.here hx rfl (hb hby at_87) rfl rfl ?_
    exact k
  refine OG.step s28 ?_
  obtain ⟨cq29, kq29, q29a, q29b, q29c⟩ := isOf hZ e27 f21
  obtain ⟨_, _, ⟨T29, L29, k29, n29⟩, -, X29, ⟨Lc29, hQ29, l29, y29, z29⟩, st29⟩ := X27.virtualBack hx (y := (⟨"com/example/ludus/ludus/PackingTask$Bag", "equals", "(Ljava/lang/Object;)Z"⟩ : MethodName)) (z := (⟨"com/example/ludus/ludus/PackingTask$Bag", "equals", "(Ljava/lang/Object;)Z"⟩ : MethodName)) hown (mvT hZ (hw _ (List.mem_of_getElem? (i := 13) rfl))) (mvT hZ (hw _ (List.mem_of_getElem? (i := 14) rfl))) (notFace_of_selects (args := #[]) (mvT hZ (hw _ (List.mem_of_getElem? (i := 16) rfl)))) (mvT hZ (hw _ (List.mem_of_getElem? (i := 16) rfl))) (mvT hZ (hw _ (List.mem_of_getElem? (i := 15) rfl))) (by decide) (backOf (W := 0) (rm3s l Z a0 hw [] b12 b5 (if (p4 &&& (1 : Int32)) = (0 : Int32) then p2 else p0) (if (p4 &&& (2 : Int32)) = (0 : Int32) then p3 else p1) p0 p1 T17.heap n0 (Nat.le_trans Z0 K17.1) f18 p17_0 p17_1 f19 f20) hZ (hw _ (List.mem_of_getElem? (i := 17) rfl)) (hw _ (List.mem_of_getElem? (i := 2) rfl)) (by decide) (by decide)) q29a q29c (g := (mkF m 89 #[.val (.int p0), .val (.int p1), .val (.int p2), .val (.int p3), .val (.int p4), .val (.int (if (p4 &&& (1 : Int32)) = (0 : Int32) then p2 else p0)), .val (.int (if (p4 &&& (2 : Int32)) = (0 : Int32) then p3 else p1)), .val (.ref b5), .val (.ref b12), .val (.int (bI ((p0 = (if (p4 &&& (1 : Int32)) = (0 : Int32) then p2 else p0)) ∧ (p1 = (if (p4 &&& (2 : Int32)) = (0 : Int32) then p3 else p1))))), .unset, .unset] [(.ref b5), (.ref b12)])) rfl (by rw [hml]; rfl) (Steps.refl _) (argsL := [(.ref b5)]) (rest := []) (lenOf pd__Ljava_lang_Object__Z rfl) rfl (by show 2 * 0 + _ ≤ _; exact Nat.le_of_eq rfl) (hb hby at_89) (fun _ _ => ⟨rfl, e27, (by decide : 2 + 0 ≤ _), (by decide : 4 + 0 ≤ _)⟩)
  dsimp only [Pt.U, Pt.locs, Pt.cells, Pt.slots] at X29 l29 y29 z29 st29 hQ29
  subst l29 y29 z29
  obtain ⟨rfl, N29q, e29⟩ := hQ29
  have N29 := Fr.app N27 N29q
  refine OG.step (fun t k => st29.trans k) ?_
  show OG _ _ _ _ _ _ _ (T29.setTop (mkF m 92 #[.val (.int p0), .val (.int p1), .val (.int p2), .val (.int p3), .val (.int p4), .val (.int (if (p4 &&& (1 : Int32)) = (0 : Int32) then p2 else p0)), .val (.int (if (p4 &&& (2 : Int32)) = (0 : Int32) then p3 else p1)), .val (.ref b5), .val (.ref b12), .val (.int (bI ((p0 = (if (p4 &&& (1 : Int32)) = (0 : Int32) then p2 else p0)) ∧ (p1 = (if (p4 &&& (2 : Int32)) = (0 : Int32) then p3 else p1))))), .unset, .unset] [(.int (bI ((if (p4 &&& (1 : Int32)) = (0 : Int32) then p2 else p0) = p0 ∧ (if (p4 &&& (2 : Int32)) = (0 : Int32) then p3 else p1) = p1)))]))
  have s30 : ∀ t, Steps p.tables e below (T29.setTop (mkF m 103 #[.val (.int p0), .val (.int p1), .val (.int p2), .val (.int p3), .val (.int p4), .val (.int (if (p4 &&& (1 : Int32)) = (0 : Int32) then p2 else p0)), .val (.int (if (p4 &&& (2 : Int32)) = (0 : Int32) then p3 else p1)), .val (.ref b5), .val (.ref b12), .val (.int (bI ((p0 = (if (p4 &&& (1 : Int32)) = (0 : Int32) then p2 else p0)) ∧ (p1 = (if (p4 &&& (2 : Int32)) = (0 : Int32) then p3 else p1))))), .unset, .unset] [(.ref b5), (.ref b5)])) t → Steps p.tables e below (T29.setTop (mkF m 92 #[.val (.int p0), .val (.int p1), .val (.int p2), .val (.int p3), .val (.int p4), .val (.int (if (p4 &&& (1 : Int32)) = (0 : Int32) then p2 else p0)), .val (.int (if (p4 &&& (2 : Int32)) = (0 : Int32) then p3 else p1)), .val (.ref b5), .val (.ref b12), .val (.int (bI ((p0 = (if (p4 &&& (1 : Int32)) = (0 : Int32) then p2 else p0)) ∧ (p1 = (if (p4 &&& (2 : Int32)) = (0 : Int32) then p3 else p1))))), .unset, .unset] [(.int (bI ((if (p4 &&& (1 : Int32)) = (0 : Int32) then p2 else p0) = p0 ∧ (if (p4 &&& (2 : Int32)) = (0 : Int32) then p3 else p1) = p1)))])) t := by
    intro t k
    refine XS.iload X29.here hx rfl (hb hby at_92) rfl ?_
    show Steps p.tables e below (T29.setTop (mkF m 94 #[.val (.int p0), .val (.int p1), .val (.int p2), .val (.int p3), .val (.int p4), .val (.int (if (p4 &&& (1 : Int32)) = (0 : Int32) then p2 else p0)), .val (.int (if (p4 &&& (2 : Int32)) = (0 : Int32) then p3 else p1)), .val (.ref b5), .val (.ref b12), .val (.int (bI ((p0 = (if (p4 &&& (1 : Int32)) = (0 : Int32) then p2 else p0)) ∧ (p1 = (if (p4 &&& (2 : Int32)) = (0 : Int32) then p3 else p1))))), .unset, .unset] [(.int (bI ((p0 = (if (p4 &&& (1 : Int32)) = (0 : Int32) then p2 else p0)) ∧ (p1 = (if (p4 &&& (2 : Int32)) = (0 : Int32) then p3 else p1))))), (.int (bI ((if (p4 &&& (1 : Int32)) = (0 : Int32) then p2 else p0) = p0 ∧ (if (p4 &&& (2 : Int32)) = (0 : Int32) then p3 else p1) = p1)))])) _
    refine XS.icmpYes X29.here hx rfl (pc0 := 94) (pc' := 99) rfl (hb hby at_94) rfl (teq (bI_iff.mpr ⟨fun z => ⟨z.1.symm, z.2.symm⟩, fun z => ⟨z.1.symm, z.2.symm⟩⟩)).1 (by decide) (by decide) ?_
    show Steps p.tables e below (T29.setTop (mkF m 99 #[.val (.int p0), .val (.int p1), .val (.int p2), .val (.int p3), .val (.int p4), .val (.int (if (p4 &&& (1 : Int32)) = (0 : Int32) then p2 else p0)), .val (.int (if (p4 &&& (2 : Int32)) = (0 : Int32) then p3 else p1)), .val (.ref b5), .val (.ref b12), .val (.int (bI ((p0 = (if (p4 &&& (1 : Int32)) = (0 : Int32) then p2 else p0)) ∧ (p1 = (if (p4 &&& (2 : Int32)) = (0 : Int32) then p3 else p1))))), .unset, .unset] [])) _
    refine XS.aload X29.here hx rfl (hb hby at_99) rfl rfl ?_
    show Steps p.tables e below (T29.setTop (mkF m 101 #[.val (.int p0), .val (.int p1), .val (.int p2), .val (.int p3), .val (.int p4), .val (.int (if (p4 &&& (1 : Int32)) = (0 : Int32) then p2 else p0)), .val (.int (if (p4 &&& (2 : Int32)) = (0 : Int32) then p3 else p1)), .val (.ref b5), .val (.ref b12), .val (.int (bI ((p0 = (if (p4 &&& (1 : Int32)) = (0 : Int32) then p2 else p0)) ∧ (p1 = (if (p4 &&& (2 : Int32)) = (0 : Int32) then p3 else p1))))), .unset, .unset] [(.ref b5)])) _
    refine XS.aload X29.here hx rfl (hb hby at_101) rfl rfl ?_
    exact k
  refine OG.step s30 ?_
  obtain ⟨cq31, kq31, q31a, q31b, q31c⟩ := isOf hZ e29 f18
  obtain ⟨_, _, ⟨T31, L31, k31, n31⟩, -, X31, ⟨Lc31, hQ31, l31, y31, z31⟩, st31⟩ := X29.virtualBack hx (y := (⟨"com/example/ludus/ludus/PackingTask$Bag", "equals", "(Ljava/lang/Object;)Z"⟩ : MethodName)) (z := (⟨"com/example/ludus/ludus/PackingTask$Bag", "equals", "(Ljava/lang/Object;)Z"⟩ : MethodName)) hown (mvT hZ (hw _ (List.mem_of_getElem? (i := 13) rfl))) (mvT hZ (hw _ (List.mem_of_getElem? (i := 14) rfl))) (notFace_of_selects (args := #[]) (mvT hZ (hw _ (List.mem_of_getElem? (i := 16) rfl)))) (mvT hZ (hw _ (List.mem_of_getElem? (i := 16) rfl))) (mvT hZ (hw _ (List.mem_of_getElem? (i := 15) rfl))) (by decide) (backOf (W := 0) (rm3s l Z a0 hw [] b5 b5 p0 p1 p0 p1 T17.heap n0 (Nat.le_trans Z0 K17.1) f18 f19 f20 f19 f20) hZ (hw _ (List.mem_of_getElem? (i := 17) rfl)) (hw _ (List.mem_of_getElem? (i := 2) rfl)) (by decide) (by decide)) q31a q31c (g := (mkF m 103 #[.val (.int p0), .val (.int p1), .val (.int p2), .val (.int p3), .val (.int p4), .val (.int (if (p4 &&& (1 : Int32)) = (0 : Int32) then p2 else p0)), .val (.int (if (p4 &&& (2 : Int32)) = (0 : Int32) then p3 else p1)), .val (.ref b5), .val (.ref b12), .val (.int (bI ((p0 = (if (p4 &&& (1 : Int32)) = (0 : Int32) then p2 else p0)) ∧ (p1 = (if (p4 &&& (2 : Int32)) = (0 : Int32) then p3 else p1))))), .unset, .unset] [(.ref b5), (.ref b5)])) rfl (by rw [hml]; rfl) (Steps.refl _) (argsL := [(.ref b5)]) (rest := []) (lenOf pd__Ljava_lang_Object__Z rfl) rfl (by show 2 * 0 + _ ≤ _; exact Nat.le_of_eq rfl) (hb hby at_103) (fun _ _ => ⟨rfl, e29, (by decide : 2 + 0 ≤ _), (by decide : 4 + 0 ≤ _)⟩)
  dsimp only [Pt.U, Pt.locs, Pt.cells, Pt.slots] at X31 l31 y31 z31 st31 hQ31
  subst l31 y31 z31
  obtain ⟨rfl, N31q, e31⟩ := hQ31
  have N31 := Fr.app N29 N31q
  refine OG.step (fun t k => st31.trans k) ?_
  show OG _ _ _ _ _ _ _ (T31.setTop (mkF m 106 #[.val (.int p0), .val (.int p1), .val (.int p2), .val (.int p3), .val (.int p4), .val (.int (if (p4 &&& (1 : Int32)) = (0 : Int32) then p2 else p0)), .val (.int (if (p4 &&& (2 : Int32)) = (0 : Int32) then p3 else p1)), .val (.ref b5), .val (.ref b12), .val (.int (bI ((p0 = (if (p4 &&& (1 : Int32)) = (0 : Int32) then p2 else p0)) ∧ (p1 = (if (p4 &&& (2 : Int32)) = (0 : Int32) then p3 else p1))))), .unset, .unset] [(.int (bI (p0 = p0 ∧ p1 = p1)))]))
  have s32 : ∀ t, Steps p.tables e below (T31.setTop (mkF m 118 #[.val (.int p0), .val (.int p1), .val (.int p2), .val (.int p3), .val (.int p4), .val (.int (if (p4 &&& (1 : Int32)) = (0 : Int32) then p2 else p0)), .val (.int (if (p4 &&& (2 : Int32)) = (0 : Int32) then p3 else p1)), .val (.ref b5), .val (.ref b12), .val (.int (bI ((p0 = (if (p4 &&& (1 : Int32)) = (0 : Int32) then p2 else p0)) ∧ (p1 = (if (p4 &&& (2 : Int32)) = (0 : Int32) then p3 else p1))))), .val .null, .unset] [.null, (.ref b5)])) t → Steps p.tables e below (T31.setTop (mkF m 106 #[.val (.int p0), .val (.int p1), .val (.int p2), .val (.int p3), .val (.int p4), .val (.int (if (p4 &&& (1 : Int32)) = (0 : Int32) then p2 else p0)), .val (.int (if (p4 &&& (2 : Int32)) = (0 : Int32) then p3 else p1)), .val (.ref b5), .val (.ref b12), .val (.int (bI ((p0 = (if (p4 &&& (1 : Int32)) = (0 : Int32) then p2 else p0)) ∧ (p1 = (if (p4 &&& (2 : Int32)) = (0 : Int32) then p3 else p1))))), .unset, .unset] [(.int (bI (p0 = p0 ∧ p1 = p1)))])) t := by
    intro t k
    refine XS.ifYes X31.here hx rfl (pc0 := 106) (pc' := 111) rfl (hb hby at_106) rfl ((if0 _ _).trans (feq (bI_ne0 ⟨rfl, rfl⟩)).2) (by decide) (by decide) ?_
    show Steps p.tables e below (T31.setTop (mkF m 111 #[.val (.int p0), .val (.int p1), .val (.int p2), .val (.int p3), .val (.int p4), .val (.int (if (p4 &&& (1 : Int32)) = (0 : Int32) then p2 else p0)), .val (.int (if (p4 &&& (2 : Int32)) = (0 : Int32) then p3 else p1)), .val (.ref b5), .val (.ref b12), .val (.int (bI ((p0 = (if (p4 &&& (1 : Int32)) = (0 : Int32) then p2 else p0)) ∧ (p1 = (if (p4 &&& (2 : Int32)) = (0 : Int32) then p3 else p1))))), .unset, .unset] [])) _
    refine XS.aconstNull X31.here hx rfl (hb hby at_111) ?_
    show Steps p.tables e below (T31.setTop (mkF m 112 #[.val (.int p0), .val (.int p1), .val (.int p2), .val (.int p3), .val (.int p4), .val (.int (if (p4 &&& (1 : Int32)) = (0 : Int32) then p2 else p0)), .val (.int (if (p4 &&& (2 : Int32)) = (0 : Int32) then p3 else p1)), .val (.ref b5), .val (.ref b12), .val (.int (bI ((p0 = (if (p4 &&& (1 : Int32)) = (0 : Int32) then p2 else p0)) ∧ (p1 = (if (p4 &&& (2 : Int32)) = (0 : Int32) then p3 else p1))))), .unset, .unset] [.null])) _
    refine XS.astore X31.here hx rfl (hb hby at_112) rfl rfl (l' := #[.val (.int p0), .val (.int p1), .val (.int p2), .val (.int p3), .val (.int p4), .val (.int (if (p4 &&& (1 : Int32)) = (0 : Int32) then p2 else p0)), .val (.int (if (p4 &&& (2 : Int32)) = (0 : Int32) then p3 else p1)), .val (.ref b5), .val (.ref b12), .val (.int (bI ((p0 = (if (p4 &&& (1 : Int32)) = (0 : Int32) then p2 else p0)) ∧ (p1 = (if (p4 &&& (2 : Int32)) = (0 : Int32) then p3 else p1))))), .val .null, .unset]) rfl ?_
    show Steps p.tables e below (T31.setTop (mkF m 114 #[.val (.int p0), .val (.int p1), .val (.int p2), .val (.int p3), .val (.int p4), .val (.int (if (p4 &&& (1 : Int32)) = (0 : Int32) then p2 else p0)), .val (.int (if (p4 &&& (2 : Int32)) = (0 : Int32) then p3 else p1)), .val (.ref b5), .val (.ref b12), .val (.int (bI ((p0 = (if (p4 &&& (1 : Int32)) = (0 : Int32) then p2 else p0)) ∧ (p1 = (if (p4 &&& (2 : Int32)) = (0 : Int32) then p3 else p1))))), .val .null, .unset] [])) _
    refine XS.aload X31.here hx rfl (hb hby at_114) rfl rfl ?_
    show Steps p.tables e below (T31.setTop (mkF m 116 #[.val (.int p0), .val (.int p1), .val (.int p2), .val (.int p3), .val (.int p4), .val (.int (if (p4 &&& (1 : Int32)) = (0 : Int32) then p2 else p0)), .val (.int (if (p4 &&& (2 : Int32)) = (0 : Int32) then p3 else p1)), .val (.ref b5), .val (.ref b12), .val (.int (bI ((p0 = (if (p4 &&& (1 : Int32)) = (0 : Int32) then p2 else p0)) ∧ (p1 = (if (p4 &&& (2 : Int32)) = (0 : Int32) then p3 else p1))))), .val .null, .unset] [(.ref b5)])) _
    refine XS.aload X31.here hx rfl (hb hby at_116) rfl rfl ?_
    exact k
  refine OG.step s32 ?_
  obtain ⟨cq33, kq33, q33a, q33b, q33c⟩ := isOf hZ e31 f18
  obtain ⟨_, _, ⟨T33, L33, k33, n33⟩, -, X33, ⟨Lc33, hQ33, l33, y33, z33⟩, st33⟩ := X31.virtualBack hx (y := (⟨"com/example/ludus/ludus/PackingTask$Bag", "equals", "(Ljava/lang/Object;)Z"⟩ : MethodName)) (z := (⟨"com/example/ludus/ludus/PackingTask$Bag", "equals", "(Ljava/lang/Object;)Z"⟩ : MethodName)) hown (mvT hZ (hw _ (List.mem_of_getElem? (i := 13) rfl))) (mvT hZ (hw _ (List.mem_of_getElem? (i := 14) rfl))) (notFace_of_selects (args := #[]) (mvT hZ (hw _ (List.mem_of_getElem? (i := 16) rfl)))) (mvT hZ (hw _ (List.mem_of_getElem? (i := 16) rfl))) (mvT hZ (hw _ (List.mem_of_getElem? (i := 15) rfl))) (by decide) (backOf (W := 0) (rm3n l Z a0 hw [] b5 T17.heap n0 (Nat.le_trans Z0 K17.1)) hZ (hw _ (List.mem_of_getElem? (i := 17) rfl)) (hw _ (List.mem_of_getElem? (i := 2) rfl)) (by decide) (by decide)) q33a q33c (g := (mkF m 118 #[.val (.int p0), .val (.int p1), .val (.int p2), .val (.int p3), .val (.int p4), .val (.int (if (p4 &&& (1 : Int32)) = (0 : Int32) then p2 else p0)), .val (.int (if (p4 &&& (2 : Int32)) = (0 : Int32) then p3 else p1)), .val (.ref b5), .val (.ref b12), .val (.int (bI ((p0 = (if (p4 &&& (1 : Int32)) = (0 : Int32) then p2 else p0)) ∧ (p1 = (if (p4 &&& (2 : Int32)) = (0 : Int32) then p3 else p1))))), .val .null, .unset] [.null, (.ref b5)])) rfl (by rw [hml]; rfl) (Steps.refl _) (argsL := [.null]) (rest := []) (lenOf pd__Ljava_lang_Object__Z rfl) rfl (by show 2 * 0 + _ ≤ _; exact Nat.le_of_eq rfl) (hb hby at_118) (fun _ _ => ⟨rfl, e31, (by decide : 2 + 0 ≤ _), (by decide : 4 + 0 ≤ _)⟩)
  dsimp only [Pt.U, Pt.locs, Pt.cells, Pt.slots] at X33 l33 y33 z33 st33 hQ33
  subst l33 y33 z33
  obtain ⟨rfl, N33q, e33⟩ := hQ33
  have N33 := Fr.app N31 N33q
  refine OG.step (fun t k => st33.trans k) ?_
  show OG _ _ _ _ _ _ _ (T33.setTop (mkF m 121 #[.val (.int p0), .val (.int p1), .val (.int p2), .val (.int p3), .val (.int p4), .val (.int (if (p4 &&& (1 : Int32)) = (0 : Int32) then p2 else p0)), .val (.int (if (p4 &&& (2 : Int32)) = (0 : Int32) then p3 else p1)), .val (.ref b5), .val (.ref b12), .val (.int (bI ((p0 = (if (p4 &&& (1 : Int32)) = (0 : Int32) then p2 else p0)) ∧ (p1 = (if (p4 &&& (2 : Int32)) = (0 : Int32) then p3 else p1))))), .val .null, .unset] [(.int (0 : Int32))]))
  have s34 : ∀ t, Steps p.tables e below (T33.setTop (mkF m 126 #[.val (.int p0), .val (.int p1), .val (.int p2), .val (.int p3), .val (.int p4), .val (.int (if (p4 &&& (1 : Int32)) = (0 : Int32) then p2 else p0)), .val (.int (if (p4 &&& (2 : Int32)) = (0 : Int32) then p3 else p1)), .val (.ref b5), .val (.ref b12), .val (.int (bI ((p0 = (if (p4 &&& (1 : Int32)) = (0 : Int32) then p2 else p0)) ∧ (p1 = (if (p4 &&& (2 : Int32)) = (0 : Int32) then p3 else p1))))), .val .null, .unset] [])) t → Steps p.tables e below (T33.setTop (mkF m 121 #[.val (.int p0), .val (.int p1), .val (.int p2), .val (.int p3), .val (.int p4), .val (.int (if (p4 &&& (1 : Int32)) = (0 : Int32) then p2 else p0)), .val (.int (if (p4 &&& (2 : Int32)) = (0 : Int32) then p3 else p1)), .val (.ref b5), .val (.ref b12), .val (.int (bI ((p0 = (if (p4 &&& (1 : Int32)) = (0 : Int32) then p2 else p0)) ∧ (p1 = (if (p4 &&& (2 : Int32)) = (0 : Int32) then p3 else p1))))), .val .null, .unset] [(.int (0 : Int32))])) t := by
    intro t k
    refine XS.ifYes X33.here hx rfl (pc0 := 121) (pc' := 126) rfl (hb hby at_121) rfl ((if0 _ _).trans (teq rfl).1) (by decide) (by decide) ?_
    exact k
  refine OG.step s34 ?_
  obtain ⟨T35, h35, X35, e35, E35, A35, D35, -, st35⟩ := newO X33 hx hZ hown (hw _ (List.mem_of_getElem? (i := 20) rfl)) (hw _ (List.mem_of_getElem? (i := 21) rfl)) (hw _ (List.mem_of_getElem? (i := 22) rfl)) e33 (g := (mkF m 126 #[.val (.int p0), .val (.int p1), .val (.int p2), .val (.int p3), .val (.int p4), .val (.int (if (p4 &&& (1 : Int32)) = (0 : Int32) then p2 else p0)), .val (.int (if (p4 &&& (2 : Int32)) = (0 : Int32) then p3 else p1)), .val (.ref b5), .val (.ref b12), .val (.int (bI ((p0 = (if (p4 &&& (1 : Int32)) = (0 : Int32) then p2 else p0)) ∧ (p1 = (if (p4 &&& (2 : Int32)) = (0 : Int32) then p3 else p1))))), .val .null, .unset] [])) rfl (hb hby at_126) (by decide) (by decide)
  obtain ⟨b35, g35⟩ : ∃ z, z = T17.heap.size := ⟨_, rfl⟩
  rw [← g35] at A35 D35 st35
  have sz35 : h0.size ≤ b35 := Nat.le_trans K17.1 (Nat.le_of_eq g35.symm)
  have ge35 : n0 ≤ b35 := Nat.le_trans Z0 sz35
  have ne35_b5 : b5 ≠ b35 := Nat.ne_of_lt (Nat.lt_of_lt_of_le f18.lt (Nat.le_of_eq g35.symm))
  have ne35_b12 : b12 ≠ b35 := Nat.ne_of_lt (Nat.lt_of_lt_of_le f21.lt (Nat.le_of_eq g35.symm))
  refine OG.step st35 ?_
  have f36 := f18.ext E35
  have f37 := f19.ext E35
  have f38 := f20.ext E35
  have f39 := f21.ext E35
  have f40 := p17_0.ext E35
  have f41 := p17_1.ext E35
  have F35_width : Fld Z h35 b35 "com/example/ludus/ludus/PackingTask$Good" "width" "I" (.int (0 : Int32)) := D35 (Or.inr (hw _ (List.mem_of_getElem? (i := 28) rfl))) (ty := .int) (by decide)
  have F35_height : Fld Z h35 b35 "com/example/ludus/ludus/PackingTask$Good" "height" "I" (.int (0 : Int32)) := D35 (Or.inr (hw _ (List.mem_of_getElem? (i := 30) rfl))) (ty := .int) (by decide)
  have F35_value : Fld Z h35 b35 "com/example/ludus/ludus/PackingTask$Good" "value" "I" (.int (0 : Int32)) := D35 (Or.inr (hw _ (List.mem_of_getElem? (i := 32) rfl))) (ty := .int) (by decide)
  have K35 := K17.ext E35
  show OG _ _ _ _ _ _ _ (T35.setTop (mkF m 129 #[.val (.int p0), .val (.int p1), .val (.int p2), .val (.int p3), .val (.int p4), .val (.int (if (p4 &&& (1 : Int32)) = (0 : Int32) then p2 else p0)), .val (.int (if (p4 &&& (2 : Int32)) = (0 : Int32) then p3 else p1)), .val (.ref b5), .val (.ref b12), .val (.int (bI ((p0 = (if (p4 &&& (1 : Int32)) = (0 : Int32) then p2 else p0)) ∧ (p1 = (if (p4 &&& (2 : Int32)) = (0 : Int32) then p3 else p1))))), .val .null, .unset] [(.ref b35)]))
  have s42 : ∀ t, Steps p.tables e below (T35.setTop (mkF m 133 #[.val (.int p0), .val (.int p1), .val (.int p2), .val (.int p3), .val (.int p4), .val (.int (if (p4 &&& (1 : Int32)) = (0 : Int32) then p2 else p0)), .val (.int (if (p4 &&& (2 : Int32)) = (0 : Int32) then p3 else p1)), .val (.ref b5), .val (.ref b12), .val (.int (bI ((p0 = (if (p4 &&& (1 : Int32)) = (0 : Int32) then p2 else p0)) ∧ (p1 = (if (p4 &&& (2 : Int32)) = (0 : Int32) then p3 else p1))))), .val .null, .unset] [(.int p2), (.int p1), (.int p0), (.ref b35), (.ref b35)])) t → Steps p.tables e below (T35.setTop (mkF m 129 #[.val (.int p0), .val (.int p1), .val (.int p2), .val (.int p3), .val (.int p4), .val (.int (if (p4 &&& (1 : Int32)) = (0 : Int32) then p2 else p0)), .val (.int (if (p4 &&& (2 : Int32)) = (0 : Int32) then p3 else p1)), .val (.ref b5), .val (.ref b12), .val (.int (bI ((p0 = (if (p4 &&& (1 : Int32)) = (0 : Int32) then p2 else p0)) ∧ (p1 = (if (p4 &&& (2 : Int32)) = (0 : Int32) then p3 else p1))))), .val .null, .unset] [(.ref b35)])) t := by
    intro t k
    refine XS.dup X35.here hx rfl (hb hby at_129) rfl rfl ?_
    show Steps p.tables e below (T35.setTop (mkF m 130 #[.val (.int p0), .val (.int p1), .val (.int p2), .val (.int p3), .val (.int p4), .val (.int (if (p4 &&& (1 : Int32)) = (0 : Int32) then p2 else p0)), .val (.int (if (p4 &&& (2 : Int32)) = (0 : Int32) then p3 else p1)), .val (.ref b5), .val (.ref b12), .val (.int (bI ((p0 = (if (p4 &&& (1 : Int32)) = (0 : Int32) then p2 else p0)) ∧ (p1 = (if (p4 &&& (2 : Int32)) = (0 : Int32) then p3 else p1))))), .val .null, .unset] [(.ref b35), (.ref b35)])) _
    refine XS.iloadN X35.here hx rfl (hb hby at_130) rfl ?_
    show Steps p.tables e below (T35.setTop (mkF m 131 #[.val (.int p0), .val (.int p1), .val (.int p2), .val (.int p3), .val (.int p4), .val (.int (if (p4 &&& (1 : Int32)) = (0 : Int32) then p2 else p0)), .val (.int (if (p4 &&& (2 : Int32)) = (0 : Int32) then p3 else p1)), .val (.ref b5), .val (.ref b12), .val (.int (bI ((p0 = (if (p4 &&& (1 : Int32)) = (0 : Int32) then p2 else p0)) ∧ (p1 = (if (p4 &&& (2 : Int32)) = (0 : Int32) then p3 else p1))))), .val .null, .unset] [(.int p0), (.ref b35), (.ref b35)])) _
    refine XS.iloadN X35.here hx rfl (hb hby at_131) rfl ?_
    show Steps p.tables e below (T35.setTop (mkF m 132 #[.val (.int p0), .val (.int p1), .val (.int p2), .val (.int p3), .val (.int p4), .val (.int (if (p4 &&& (1 : Int32)) = (0 : Int32) then p2 else p0)), .val (.int (if (p4 &&& (2 : Int32)) = (0 : Int32) then p3 else p1)), .val (.ref b5), .val (.ref b12), .val (.int (bI ((p0 = (if (p4 &&& (1 : Int32)) = (0 : Int32) then p2 else p0)) ∧ (p1 = (if (p4 &&& (2 : Int32)) = (0 : Int32) then p3 else p1))))), .val .null, .unset] [(.int p1), (.int p0), (.ref b35), (.ref b35)])) _
    refine XS.iloadN X35.here hx rfl (hb hby at_132) rfl ?_
    exact k
  refine OG.step s42 ?_
  obtain ⟨_, _, ⟨T43, L43, k43, n43⟩, -, X43, ⟨Lc43, hQ43, l43, y43, z43⟩, st43⟩ := X35.specialBack hx (y := (⟨"com/example/ludus/ludus/PackingTask$Good", "<init>", "(III)V"⟩ : MethodName)) rfl hown (mvT hZ (hw _ (List.mem_of_getElem? (i := 23) rfl))) (mvT hZ (hw _ (List.mem_of_getElem? (i := 24) rfl))) (mvT hZ (hw _ (List.mem_of_getElem? (i := 25) rfl))) (by decide) (backOf (W := 1) (rm4 l Z a0 hw [] b35 p0 p1 p2 (.int (0 : Int32)) (.int (0 : Int32)) (.int (0 : Int32)) h35 n0 (Nat.le_trans Z0 K35.1) A35 F35_width F35_height F35_value ge35) hZ (hw _ (List.mem_of_getElem? (i := 25) rfl)) (hw _ (List.mem_of_getElem? (i := 22) rfl)) (by decide) (by decide)) (g := (mkF m 133 #[.val (.int p0), .val (.int p1), .val (.int p2), .val (.int p3), .val (.int p4), .val (.int (if (p4 &&& (1 : Int32)) = (0 : Int32) then p2 else p0)), .val (.int (if (p4 &&& (2 : Int32)) = (0 : Int32) then p3 else p1)), .val (.ref b5), .val (.ref b12), .val (.int (bI ((p0 = (if (p4 &&& (1 : Int32)) = (0 : Int32) then p2 else p0)) ∧ (p1 = (if (p4 &&& (2 : Int32)) = (0 : Int32) then p3 else p1))))), .val .null, .unset] [(.int p2), (.int p1), (.int p0), (.ref b35), (.ref b35)])) rfl (by rw [hml]; rfl) (Steps.refl _) (a := b35) (argsL := [(.int p0), (.int p1), (.int p2)]) (rest := [(.ref b35)]) (lenOf pd__III_V rfl) rfl (by show 2 * 0 + _ ≤ _; exact Nat.le_of_eq rfl) (hb hby at_133) (fun _ _ => ⟨rfl, e35, (by decide : 3 + 0 ≤ _), (by decide : 7 + 0 ≤ _)⟩)
  dsimp only [Pt.U, Pt.locs, Pt.cells, Pt.slots] at X43 l43 y43 z43 st43 hQ43
  subst l43 y43 z43
  obtain ⟨rfl, N43q, Kc43, p43_0, p43_1, p43_2⟩ := hQ43
  have N43 := Fr.app N33 N43q
  refine OG.step (fun t k => st43.trans k) ?_
  have f44 := f36.keep Kc43
  have f45 := f37.keep Kc43 (ninS ne35_b5 nin0)
  have f46 := f38.keep Kc43 (ninS ne35_b5 nin0)
  have f47 := f39.keep Kc43
  have f48 := f40.keep Kc43 (ninS ne35_b12 nin0)
  have f49 := f41.keep Kc43 (ninS ne35_b12 nin0)
  have f50 := A35.keep Kc43
  have K43 := K35.trans Kc43 (allS (Or.inr sz35) all0)
  show OG _ _ _ _ _ _ _ (T43.setTop (mkF m 136 #[.val (.int p0), .val (.int p1), .val (.int p2), .val (.int p3), .val (.int p4), .val (.int (if (p4 &&& (1 : Int32)) = (0 : Int32) then p2 else p0)), .val (.int (if (p4 &&& (2 : Int32)) = (0 : Int32) then p3 else p1)), .val (.ref b5), .val (.ref b12), .val (.int (bI ((p0 = (if (p4 &&& (1 : Int32)) = (0 : Int32) then p2 else p0)) ∧ (p1 = (if (p4 &&& (2 : Int32)) = (0 : Int32) then p3 else p1))))), .val .null, .unset] [(.ref b35)]))
  have s54 : ∀ t, Steps p.tables e below (T43.setTop (mkF m 142 #[.val (.int p0), .val (.int p1), .val (.int p2), .val (.int p3), .val (.int p4), .val (.int (if (p4 &&& (1 : Int32)) = (0 : Int32) then p2 else p0)), .val (.int (if (p4 &&& (2 : Int32)) = (0 : Int32) then p3 else p1)), .val (.ref b5), .val (.ref b12), .val (.int (bI ((p0 = (if (p4 &&& (1 : Int32)) = (0 : Int32) then p2 else p0)) ∧ (p1 = (if (p4 &&& (2 : Int32)) = (0 : Int32) then p3 else p1))))), .val .null, .val (.ref b35)] [(.ref b35), (.ref b5)])) t → Steps p.tables e below (T43.setTop (mkF m 136 #[.val (.int p0), .val (.int p1), .val (.int p2), .val (.int p3), .val (.int p4), .val (.int (if (p4 &&& (1 : Int32)) = (0 : Int32) then p2 else p0)), .val (.int (if (p4 &&& (2 : Int32)) = (0 : Int32) then p3 else p1)), .val (.ref b5), .val (.ref b12), .val (.int (bI ((p0 = (if (p4 &&& (1 : Int32)) = (0 : Int32) then p2 else p0)) ∧ (p1 = (if (p4 &&& (2 : Int32)) = (0 : Int32) then p3 else p1))))), .val .null, .unset] [(.ref b35)])) t := by
    intro t k
    refine XS.astore X43.here hx rfl (hb hby at_136) rfl rfl (l' := #[.val (.int p0), .val (.int p1), .val (.int p2), .val (.int p3), .val (.int p4), .val (.int (if (p4 &&& (1 : Int32)) = (0 : Int32) then p2 else p0)), .val (.int (if (p4 &&& (2 : Int32)) = (0 : Int32) then p3 else p1)), .val (.ref b5), .val (.ref b12), .val (.int (bI ((p0 = (if (p4 &&& (1 : Int32)) = (0 : Int32) then p2 else p0)) ∧ (p1 = (if (p4 &&& (2 : Int32)) = (0 : Int32) then p3 else p1))))), .val .null, .val (.ref b35)]) rfl ?_
    show Steps p.tables e below (T43.setTop (mkF m 138 #[.val (.int p0), .val (.int p1), .val (.int p2), .val (.int p3), .val (.int p4), .val (.int (if (p4 &&& (1 : Int32)) = (0 : Int32) then p2 else p0)), .val (.int (if (p4 &&& (2 : Int32)) = (0 : Int32) then p3 else p1)), .val (.ref b5), .val (.ref b12), .val (.int (bI ((p0 = (if (p4 &&& (1 : Int32)) = (0 : Int32) then p2 else p0)) ∧ (p1 = (if (p4 &&& (2 : Int32)) = (0 : Int32) then p3 else p1))))), .val .null, .val (.ref b35)] [])) _
    refine XS.aload X43.here hx rfl (hb hby at_138) rfl rfl ?_
    show Steps p.tables e below (T43.setTop (mkF m 140 #[.val (.int p0), .val (.int p1), .val (.int p2), .val (.int p3), .val (.int p4), .val (.int (if (p4 &&& (1 : Int32)) = (0 : Int32) then p2 else p0)), .val (.int (if (p4 &&& (2 : Int32)) = (0 : Int32) then p3 else p1)), .val (.ref b5), .val (.ref b12), .val (.int (bI ((p0 = (if (p4 &&& (1 : Int32)) = (0 : Int32) then p2 else p0)) ∧ (p1 = (if (p4 &&& (2 : Int32)) = (0 : Int32) then p3 else p1))))), .val .null, .val (.ref b35)] [(.ref b5)])) _
    refine XS.aload X43.here hx rfl (hb hby at_140) rfl rfl ?_
    exact k
  refine OG.step s54 ?_
  obtain ⟨cq55, kq55, q55a, q55b, q55c⟩ := isOf hZ rfl f44
  obtain ⟨_, _, ⟨T55, L55, k55, n55⟩, -, X55, ⟨Lc55, hQ55, l55, y55, z55⟩, st55⟩ := X43.virtualBack hx (y := (⟨"com/example/ludus/ludus/PackingTask$Bag", "equals", "(Ljava/lang/Object;)Z"⟩ : MethodName)) (z := (⟨"com/example/ludus/ludus/PackingTask$Bag", "equals", "(Ljava/lang/Object;)Z"⟩ : MethodName)) hown (mvT hZ (hw _ (List.mem_of_getElem? (i := 13) rfl))) (mvT hZ (hw _ (List.mem_of_getElem? (i := 14) rfl))) (notFace_of_selects (args := #[]) (mvT hZ (hw _ (List.mem_of_getElem? (i := 16) rfl)))) (mvT hZ (hw _ (List.mem_of_getElem? (i := 16) rfl))) (mvT hZ (hw _ (List.mem_of_getElem? (i := 15) rfl))) (by decide) (backOf (W := 0) (rm3o l Z a0 hw [] b5 b35 T43.heap n0 (Nat.le_trans Z0 K43.1) f50) hZ (hw _ (List.mem_of_getElem? (i := 17) rfl)) (hw _ (List.mem_of_getElem? (i := 2) rfl)) (by decide) (by decide)) q55a q55c (g := (mkF m 142 #[.val (.int p0), .val (.int p1), .val (.int p2), .val (.int p3), .val (.int p4), .val (.int (if (p4 &&& (1 : Int32)) = (0 : Int32) then p2 else p0)), .val (.int (if (p4 &&& (2 : Int32)) = (0 : Int32) then p3 else p1)), .val (.ref b5), .val (.ref b12), .val (.int (bI ((p0 = (if (p4 &&& (1 : Int32)) = (0 : Int32) then p2 else p0)) ∧ (p1 = (if (p4 &&& (2 : Int32)) = (0 : Int32) then p3 else p1))))), .val .null, .val (.ref b35)] [(.ref b35), (.ref b5)])) rfl (by rw [hml]; rfl) (Steps.refl _) (argsL := [(.ref b35)]) (rest := []) (lenOf pd__Ljava_lang_Object__Z rfl) rfl (by show 2 * 0 + _ ≤ _; exact Nat.le_of_eq rfl) (hb hby at_142) (fun _ _ => ⟨rfl, rfl, (by decide : 3 + 0 ≤ _), (by decide : 7 + 0 ≤ _)⟩)
  dsimp only [Pt.U, Pt.locs, Pt.cells, Pt.slots] at X55 l55 y55 z55 st55 hQ55
  subst l55 y55 z55
  obtain ⟨rfl, N55q, e55⟩ := hQ55
  have N55 := Fr.app N43 N55q
  refine OG.step (fun t k => st55.trans k) ?_
  show OG _ _ _ _ _ _ _ (T55.setTop (mkF m 145 #[.val (.int p0), .val (.int p1), .val (.int p2), .val (.int p3), .val (.int p4), .val (.int (if (p4 &&& (1 : Int32)) = (0 : Int32) then p2 else p0)), .val (.int (if (p4 &&& (2 : Int32)) = (0 : Int32) then p3 else p1)), .val (.ref b5), .val (.ref b12), .val (.int (bI ((p0 = (if (p4 &&& (1 : Int32)) = (0 : Int32) then p2 else p0)) ∧ (p1 = (if (p4 &&& (2 : Int32)) = (0 : Int32) then p3 else p1))))), .val .null, .val (.ref b35)] [(.int (0 : Int32))]))
  have s56 : ∀ t, Steps p.tables e below (T55.setTop (mkF m 151 #[.val (.int p0), .val (.int p1), .val (.int p2), .val (.int p3), .val (.int p4), .val (.int (if (p4 &&& (1 : Int32)) = (0 : Int32) then p2 else p0)), .val (.int (if (p4 &&& (2 : Int32)) = (0 : Int32) then p3 else p1)), .val (.ref b5), .val (.ref b12), .val (.int (bI ((p0 = (if (p4 &&& (1 : Int32)) = (0 : Int32) then p2 else p0)) ∧ (p1 = (if (p4 &&& (2 : Int32)) = (0 : Int32) then p3 else p1))))), .val .null, .val (.ref b35)] [(.int (1 : Int32))])) t → Steps p.tables e below (T55.setTop (mkF m 145 #[.val (.int p0), .val (.int p1), .val (.int p2), .val (.int p3), .val (.int p4), .val (.int (if (p4 &&& (1 : Int32)) = (0 : Int32) then p2 else p0)), .val (.int (if (p4 &&& (2 : Int32)) = (0 : Int32) then p3 else p1)), .val (.ref b5), .val (.ref b12), .val (.int (bI ((p0 = (if (p4 &&& (1 : Int32)) = (0 : Int32) then p2 else p0)) ∧ (p1 = (if (p4 &&& (2 : Int32)) = (0 : Int32) then p3 else p1))))), .val .null, .val (.ref b35)] [(.int (0 : Int32))])) t := by
    intro t k
    refine XS.ifYes X55.here hx rfl (pc0 := 145) (pc' := 150) rfl (hb hby at_145) rfl ((if0 _ _).trans (teq rfl).1) (by decide) (by decide) ?_
    show Steps p.tables e below (T55.setTop (mkF m 150 #[.val (.int p0), .val (.int p1), .val (.int p2), .val (.int p3), .val (.int p4), .val (.int (if (p4 &&& (1 : Int32)) = (0 : Int32) then p2 else p0)), .val (.int (if (p4 &&& (2 : Int32)) = (0 : Int32) then p3 else p1)), .val (.ref b5), .val (.ref b12), .val (.int (bI ((p0 = (if (p4 &&& (1 : Int32)) = (0 : Int32) then p2 else p0)) ∧ (p1 = (if (p4 &&& (2 : Int32)) = (0 : Int32) then p3 else p1))))), .val .null, .val (.ref b35)] [])) _
    refine XS.iconst X55.here hx rfl (hb hby at_150) ?_
    exact k
  refine OG.step s56 ?_
  exact OG.retZ X55 hx hlk Bd.returns (hb hby at_151) (nar_1) e55 ⟨rfl, N55⟩ (by decide) (by decide)
set_option maxRecDepth 65536 in
set_option maxHeartbeats 40000000 in
theorem comes_1 {Post : Tables → Env → Array Value → State → Outcome → State → Prop} (hpost : ∀ tb e args s v u, (limb_1_1.after args s (.returned v) u = true ∧ limb_1_2.after args s (.returned v) u = true ∧ True) → FrameEnd s (.returned v) u (Jvm.fieldLocs frame_1_writes args s ++ Jvm.arrayLocs frame_1_arrays args s ++ Jvm.staticLocs frame_1_statics s) 16 128 → Post tb e args s (.returned v) u) :
    ArmFor flags0 classFile x code maxLocals ret World_1 tables_1 room_1 Calls_1 rest_1 Pre_1 Post := by
  intro l hfl _ _ p e ha hc hk s m args below hf hA hF happ hP
  obtain ⟨hcalls, hrest, hpre⟩ := hP
  obtain ⟨-, -, -, hnamed, -, -, -, hat⟩ := (Spec.applies_iff hf).mp happ
  obtain ⟨hg, hn⟩ := and_e (Cond.before_iff.mp (show (Jvm.Cond.and given_1 narrow_1).before args s = true from hpre))
  obtain ⟨hcount, hg0⟩ := and_e hg
  obtain ⟨ha0, hg1⟩ := and_e hg0
  obtain ⟨ha1, hg2⟩ := and_e hg1
  obtain ⟨ha2, hg3⟩ := and_e hg2
  obtain ⟨ha3, hg4⟩ := and_e hg3
  obtain ⟨w0, w1, w2, w3, w4, rfl⟩ : ∃ w0 w1 w2 w3 w4 : Value, args = #[w0, w1, w2, w3, w4] := by
    have hs : args.size = 5 := by simpa [Cond.value, given_1] using hcount
    obtain ⟨L⟩ := args
    match L, hs with
    | [w0, w1, w2, w3, w4], _ => exact ⟨w0, w1, w2, w3, w4, rfl⟩
  have hw := fun d (hd : d ∈ tables_1) => atoms_spec (ws := Jvm.Cond.code x code maxLocals ret :: tables_1) hat d (List.mem_cons_of_mem _ hd)
  obtain ⟨i0, ei0⟩ := is_v ha0
  obtain rfl : w0 = (.int i0) := Option.some.inj ei0
  obtain ⟨i1, ei1⟩ := is_v ha1
  obtain rfl : w1 = (.int i1) := Option.some.inj ei1
  obtain ⟨i2, ei2⟩ := is_v ha2
  obtain rfl : w2 = (.int i2) := Option.some.inj ei2
  obtain ⟨i3, ei3⟩ := is_v ha3
  obtain rfl : w3 = (.int i3) := Option.some.inj ei3
  obtain ⟨i4, ei4⟩ := is_v hg4
  obtain rfl : w4 = (.int i4) := Option.some.inj ei4
  obtain ⟨n, o, h1, h2, h3, _, L, rfl, ⟨rfl, N⟩, hq⟩ := rm0 l s _ hw tables_1 i0 i1 i2 i3 i4 s.heap s.heap.size (Nat.le_refl _) p e ha hc hk s m _ below hf ((Spec.applies_iff_loose hf).mp happ).1 ⟨rfl, State.Warmed39.refl s, rfl⟩ trivial
  refine ⟨n, _, h1, h2, h3, hpost _ _ _ _ _ _ ⟨Cond.after_iff.mpr rfl, Cond.after_iff.mpr (eq_i res_at (Term.int_eval (1)) rfl), trivial⟩ ⟨hq.1, hq.2.1, (hq.2.2.sift fun y hy => Or.inr (N y hy)).mono (by decide) (by decide)⟩⟩
theorem main_1_1 : Claimed_1_1 := comes_1 fun _ _ _ _ _ _ h hF => ⟨h.1, hF⟩
theorem main_1_2 : Claimed_1_2 := comes_1 fun _ _ _ _ _ _ h hF => ⟨h.2.1, hF⟩
end Jvm.Pilot.@@N@@
namespace Jvm.Pilot.@@N@@
open Jvm Jvm.ClassFile Sem Op Lib Jvm.Free Jvm.Stand Jvm.Pilot.@@N@@.Jvm.D
/-! MADE BY PROGRAM (witnessworld.py) out of the Statement's table words and the real class files: 10 classes; the members and pool entries that the words name. The judged class is class 1, her method 1. -/
namespace start1
open Jvm.ClassFile
def u (s : String) : CpInfo := .utf8 (stringToUtf16 s)
/-- a pool by its gaps: so many unusable entries, then the entry; so many at the end -/
def gap : Nat → List CpInfo → List CpInfo
  | 0, r => r
  | n + 1, r => .unusable :: gap n r
def poolList (es : List (Nat × CpInfo)) (last : Nat) : List CpInfo := es.foldr (fun e r => gap e.1 (e.2 :: r)) (gap last [])
def pool (es : List (Nat × CpInfo)) (last : Nat) : Array CpInfo := ⟨poolList es last⟩
def fileOf (pool : Array CpInfo) (this : Nat) (attrs : Array Attribute := #[]) (ms : Array MethodInfo := #[]) (fl : Nat := 33) (sup : Nat := 0) (ifs : Array Nat := #[]) (fds : Array FieldInfo := #[]) : ClassFile where
  minorVersion := 0
  majorVersion := 65
  constantPool := pool
  accessFlags := fl
  thisClass := this
  superClass := sup
  interfaces := ifs
  fields := fds
  methods := ms
  attributes := attrs
def plain (name : String) (sup : Option ClassId) : Class where
  name := name
  kind := .ordinary
  loader := none
  accessFlags := 33
  super := sup
  interfaces := #[]
  cf := none
  fields := #[]
  methods := #[]
  instanceTypes := #[]
  staticTypes := #[]
  resolved := #[]
  callSites := []
  init := .initialized
  statics := none
  mirror := none

def pool0 : Array CpInfo := pool [(5, u "<init>"), (0, u "()V"), (1, .class_ 10), (1, u "java/lang/Object")] 113

def k0c0 : Code := { maxStack := 0, maxLocals := 1, code := object_method_1_code, exceptionTable := #[], attributes := #[] }
def k0m0 : Method := { name := "<init>", desc := "()V", sig := { parameters := [], returnType := none }, accessFlags := 1, code := some k0c0 }
/-- java/lang/Object -/
def k0 : Class := { plain "java/lang/Object" none with
  accessFlags := 33
  interfaces := #[]
  cf := some (fileOf pool0 8 #[] #[{ accessFlags := 1, nameIndex := 5, descriptorIndex := 6, attributes := #[] }] 33 0 #[] #[])
  fields := #[]
  methods := #[k0m0]
  instanceTypes := #[]
  staticTypes := #[]
  resolved := Array.replicate 124 none
  statics := none }

def pool1 : Array CpInfo := pool [(2, .class_ 4), (1, u "java/lang/Object"), (0, u "<init>"), (0, u "()V"), (0, .class_ 8), (0, u "com/example/ludus/ludus/PackingTask$Bag"), (0, .methodref 7 10), (0, .nameAndType 5 11), (0, u "(II)V"), (0, .methodref 7 13), (0, .nameAndType 14 15), (0, u "equals"), (0, u "(Ljava/lang/Object;)Z"), (0, .class_ 17), (0, u "com/example/ludus/ludus/PackingTask$Good"), (0, .methodref 16 19), (0, .nameAndType 5 20), (0, u "(III)V"), (0, .class_ 22), (0, u "com/example/ludus/ludus/BagEqualsPinLaw"), (2, u "law"), (0, u "(IIIII)Z")] 8

def k1m0 : Method := { name := "<init>", desc := "()V", sig := { parameters := [], returnType := none }, accessFlags := 2, code := none }
def k1c1 : Code := { maxStack := 5, maxLocals := 12, code := code, exceptionTable := #[], attributes := #[] }
def k1m1 : Method := { name := "law", desc := "(IIIII)Z", sig := { parameters := [.int, .int, .int, .int, .int], returnType := some .boolean }, accessFlags := 9, code := some k1c1 }
/-- com/example/ludus/ludus/BagEqualsPinLaw -/
def k1 : Class := { plain "com/example/ludus/ludus/BagEqualsPinLaw" (some 0) with
  accessFlags := 49
  interfaces := #[]
  cf := some (fileOf pool1 21 #[] #[{ accessFlags := 2, nameIndex := 5, descriptorIndex := 6, attributes := #[] }, { accessFlags := 9, nameIndex := 25, descriptorIndex := 26, attributes := #[] }] 49 2 #[] #[])
  fields := #[]
  methods := #[k1m0, k1m1]
  instanceTypes := #[]
  staticTypes := #[]
  resolved := Array.replicate 35 none
  statics := none }

def pool2 : Array CpInfo := pool [(1, .methodref 2 3), (0, .class_ 4), (0, .nameAndType 5 6), (0, u "java/lang/Object"), (0, u "<init>"), (0, u "()V"), (0, .fieldref 8 9), (0, .class_ 10), (0, .nameAndType 11 12), (0, u "com/example/ludus/ludus/PackingTask$Bag"), (0, u "width"), (0, u "I"), (0, .fieldref 8 14), (0, .nameAndType 15 12), (0, u "height"), (16, u "(II)V"), (3, u "equals"), (0, u "(Ljava/lang/Object;)Z"), (7, .class_ 46), (0, u "com/example/ludus/ludus/PackingTask")] 16

def k2c0 : Code := { maxStack := 2, maxLocals := 3, code := prog_50_method_1_code, exceptionTable := #[], attributes := #[] }
def k2m0 : Method := { name := "<init>", desc := "(II)V", sig := { parameters := [.int, .int], returnType := none }, accessFlags := 0, code := some k2c0 }
def k2c1 : Code := { maxStack := 2, maxLocals := 3, code := prog_50_method_4_code, exceptionTable := #[], attributes := #[] }
def k2m1 : Method := { name := "equals", desc := "(Ljava/lang/Object;)Z", sig := { parameters := [(.object "java/lang/Object")], returnType := some .boolean }, accessFlags := 1, code := some k2c1 }
/-- com/example/ludus/ludus/PackingTask$Bag -/
def k2 : Class := { plain "com/example/ludus/ludus/PackingTask$Bag" (some 0) with
  accessFlags := 48
  interfaces := #[]
  cf := some (fileOf pool2 8 #[.nestHost 45] #[{ accessFlags := 0, nameIndex := 5, descriptorIndex := 32, attributes := #[] }, { accessFlags := 1, nameIndex := 36, descriptorIndex := 37, attributes := #[] }] 48 2 #[] #[{ accessFlags := 18, nameIndex := 11, descriptorIndex := 12, attributes := #[] }, { accessFlags := 18, nameIndex := 15, descriptorIndex := 12, attributes := #[] }])
  fields := #[{ name := "width", type := .int, accessFlags := 18, slot := 0, constantValue := 0 }, { name := "height", type := .int, accessFlags := 18, slot := 1, constantValue := 0 }]
  methods := #[k2m0, k2m1]
  instanceTypes := #[.int, .int]
  staticTypes := #[]
  resolved := Array.replicate 63 none
  statics := none }

def pool3 : Array CpInfo := pool [(1, .methodref 2 3), (0, .class_ 4), (0, .nameAndType 5 6), (0, u "java/lang/Object"), (0, u "<init>"), (0, u "()V"), (0, .fieldref 8 9), (0, .class_ 10), (0, .nameAndType 11 12), (0, u "com/example/ludus/ludus/PackingTask$Good"), (0, u "width"), (0, u "I"), (0, .fieldref 8 14), (0, .nameAndType 15 12), (0, u "height"), (0, .fieldref 8 17), (0, .nameAndType 18 12), (0, u "value"), (16, u "(III)V"), (12, .class_ 49), (0, u "com/example/ludus/ludus/PackingTask")] 16

def k3c0 : Code := { maxStack := 2, maxLocals := 4, code := prog_51_method_1_code, exceptionTable := #[], attributes := #[] }
def k3m0 : Method := { name := "<init>", desc := "(III)V", sig := { parameters := [.int, .int, .int], returnType := none }, accessFlags := 0, code := some k3c0 }
/-- com/example/ludus/ludus/PackingTask$Good -/
def k3 : Class := { plain "com/example/ludus/ludus/PackingTask$Good" (some 0) with
  accessFlags := 48
  interfaces := #[]
  cf := some (fileOf pool3 8 #[.nestHost 48] #[{ accessFlags := 0, nameIndex := 5, descriptorIndex := 35, attributes := #[] }] 48 2 #[] #[{ accessFlags := 18, nameIndex := 11, descriptorIndex := 12, attributes := #[] }, { accessFlags := 18, nameIndex := 15, descriptorIndex := 12, attributes := #[] }, { accessFlags := 18, nameIndex := 18, descriptorIndex := 12, attributes := #[] }])
  fields := #[{ name := "width", type := .int, accessFlags := 18, slot := 0, constantValue := 0 }, { name := "height", type := .int, accessFlags := 18, slot := 1, constantValue := 0 }, { name := "value", type := .int, accessFlags := 18, slot := 2, constantValue := 0 }]
  methods := #[k3m0]
  instanceTypes := #[.int, .int, .int]
  staticTypes := #[]
  resolved := Array.replicate 66 none
  statics := none }

def pool4 : Array CpInfo := pool [(1, u "java/lang/Cloneable"), (0, .class_ 1), (0, u "java/lang/Object"), (0, .class_ 3)] 3

/-- java/lang/Cloneable -/
def k4 : Class := { plain "java/lang/Cloneable" (some 0) with
  accessFlags := 1537
  interfaces := #[]
  cf := some (fileOf pool4 2 #[] #[] 1537 4 #[] #[])
  fields := #[]
  methods := #[]
  instanceTypes := #[]
  staticTypes := #[]
  resolved := Array.replicate 8 none
  statics := none }

def pool5 : Array CpInfo := pool [(1, u "java/io/Serializable"), (0, .class_ 1), (0, u "java/lang/Object"), (0, .class_ 3)] 3

/-- java/io/Serializable -/
def k5 : Class := { plain "java/io/Serializable" (some 0) with
  accessFlags := 1537
  interfaces := #[]
  cf := some (fileOf pool5 2 #[] #[] 1537 4 #[] #[])
  fields := #[]
  methods := #[]
  instanceTypes := #[]
  staticTypes := #[]
  resolved := Array.replicate 8 none
  statics := none }

/-- the primitive byte -/
def k6 : Class := { plain "byte" none with kind := .primitive 'B', accessFlags := 0x411 }
/-- [B -/
def k7 : Class := { plain "[B" (some 0) with kind := .array 6 .byte, interfaces := #[4, 5], accessFlags := 1041 }

/-- the primitive int -/
def k8 : Class := { plain "int" none with kind := .primitive 'I', accessFlags := 0x411 }
/-- [I -/
def k9 : Class := { plain "[I" (some 0) with kind := .array 8 .int, interfaces := #[4, 5], accessFlags := 1041 }

def heap : Heap := #[]
def classes : Array Class := #[k0, k1, k2, k3, k4, k5, k6, k7, k8, k9]
def interned : List (Array UInt16 × Addr) := []
def slotsUsed : Nat := 0
def theMethod : MethodId := ⟨1, 1⟩
def args0 : Array Value := #[.int 5, .int 9, .int 3, .int 4, .int 1]
def aboutOver (below : List Frame) : State where
  vm := { classes := classes, interned := interned.toArray }
  heap := heap
  slotsUsed := slotsUsed
  threads := #[{ frames := .invoking theMethod args0 :: below }]
def below0 : List Frame := [.native { method := ⟨0, 0⟩, args := #[] }]
def about1 : State := aboutOver below0
def p0 : Program := .bare "" "" ""
def e0 : Env := launch0.env 0 0 0
theorem w_frames : about1.frames = Frame.invoking theMethod args0 :: below0 := rfl
set_option maxRecDepth 65536 in
theorem w_args : argsFit about1.vm theMethod args0 = true := by decide +kernel
set_option maxRecDepth 65536 in
theorem w_heap : heapFits about1 = true := by decide +kernel
set_option maxRecDepth 65536 in
theorem w_runnable : about1.curStatus? = some .runnable := by decide +kernel
set_option maxRecDepth 65536 in
theorem w_alone : about1.alone = true := by decide +kernel
set_option maxRecDepth 65536 in
theorem w_named : about1.methodNamed? x = some theMethod := by decide +kernel
set_option maxRecDepth 65536 in
theorem w_hears : about1.hears theMethod below0 = true := by decide +kernel
set_option maxRecDepth 65536 in
theorem w_ripe : about1.ripe theMethod args0 below0 = true := by decide +kernel
theorem w_running : about1.status = .running := rfl
set_option maxRecDepth 65536 in
theorem w_room : about1.hasRoom e0.platform room_1 = true :=
  launch0.hasRoom_least _ room_1 (by decide +kernel) (by decide +kernel) (by decide +kernel) (by decide +kernel) (by decide +kernel) (by decide +kernel)
theorem allAtoms_all (ts : List Jvm.Cond) (a : Array Jvm.Value) (st : Jvm.State) : (allAtoms ts).before a st = ts.all (fun c => c.before a st) := by
  induction ts with
  | nil => rfl
  | cons c t ih =>
    show (Jvm.Cond.and c (allAtoms t)).before a st = _
    rw [Jvm.Cond.before_and, ih, List.all_cons]
def words1 : List Jvm.Cond := Jvm.Cond.code x code maxLocals ret :: tables_1
/-- a 'code' word, met by the world's own term for the bytes: nothing is compared byte by byte -/
theorem code_word {y : MethodName} {bytes : ByteArray} {mx : Nat} {rt : Option FieldType} {a : Array Value} {s : State} {m : MethodId} {meth : Method} {c : Code} (h1 : s.methodNamed? y = some m) (h2 : s.vm.method? m = some meth) (h3 : meth.code = some c) (h4 : c.code = bytes)
    (h5 : (c.maxLocals == mx && c.exceptionTable.isEmpty && decide (c.maxStack ≤ mostOperands) && decide (meth.sig.returnType = rt) && !meth.locks && decide (parseMethodDescriptor y.desc = some meth.sig)) = true) : (Jvm.Cond.code y bytes mx rt).before a s = true := by
  simp only [Bool.and_eq_true, beq_iff_eq, Bool.not_eq_true', decide_eq_true_eq] at h5
  obtain ⟨⟨⟨⟨⟨g1, g2⟩, g3⟩, g4⟩, g5⟩, g6⟩ := h5
  simp [Cond.before, Cond.holds, Cond.value, h1, h2, h3, h4, g1, g2, g3, g4, g5, g6]
def isCode : Jvm.Cond → Bool
  | .code _ _ _ _ => true
  | _ => false
theorem all_split {L : List Jvm.Cond} {P : Jvm.Cond → Bool} (h1 : L.all (fun c => isCode c || P c) = true) (h2 : ∀ c ∈ L.filter isCode, P c = true) : L.all P = true := by
  refine List.all_eq_true.mpr fun c hc => ?_
  have h := List.all_eq_true.mp h1 c hc
  rcases Bool.eq_false_or_eq_true (isCode c) with hi | hi
  · exact h2 c (List.mem_filter.mpr ⟨hc, hi⟩)
  · simpa [hi] using h
set_option maxRecDepth 65536 in
theorem w_c0 : (Jvm.Cond.code x code maxLocals ret).before args0 about1 = true := code_word (m := ⟨1, 1⟩) (meth := k1m1) (c := k1c1) (by decide +kernel) rfl rfl rfl (by decide +kernel)
set_option maxRecDepth 65536 in
theorem w_c1 : (Jvm.Cond.code ({ cls := "com/example/ludus/ludus/PackingTask$Bag", name := "<init>", desc := "(II)V" } : Jvm.MethodName) prog_50_method_1_code (3 : Nat) (Option.none : Option Jvm.ClassFile.FieldType)).before args0 about1 = true := code_word (m := ⟨2, 0⟩) (meth := k2m0) (c := k2c0) (by decide +kernel) rfl rfl rfl (by decide +kernel)
set_option maxRecDepth 65536 in
theorem w_c2 : (Jvm.Cond.code ({ cls := "java/lang/Object", name := "<init>", desc := "()V" } : Jvm.MethodName) object_method_1_code (1 : Nat) (Option.none : Option Jvm.ClassFile.FieldType)).before args0 about1 = true := code_word (m := ⟨0, 0⟩) (meth := k0m0) (c := k0c0) (by decide +kernel) rfl rfl rfl (by decide +kernel)
set_option maxRecDepth 65536 in
theorem w_c3 : (Jvm.Cond.code ({ cls := "com/example/ludus/ludus/PackingTask$Bag", name := "equals", desc := "(Ljava/lang/Object;)Z" } : Jvm.MethodName) prog_50_method_4_code (3 : Nat) (Option.some Jvm.ClassFile.FieldType.boolean)).before args0 about1 = true := code_word (m := ⟨2, 1⟩) (meth := k2m1) (c := k2c1) (by decide +kernel) rfl rfl rfl (by decide +kernel)
set_option maxRecDepth 65536 in
theorem w_c4 : (Jvm.Cond.code ({ cls := "com/example/ludus/ludus/PackingTask$Good", name := "<init>", desc := "(III)V" } : Jvm.MethodName) prog_51_method_1_code (4 : Nat) (Option.none : Option Jvm.ClassFile.FieldType)).before args0 about1 = true := code_word (m := ⟨3, 0⟩) (meth := k3m0) (c := k3c0) (by decide +kernel) rfl rfl rfl (by decide +kernel)
def codes1 : List Jvm.Cond := [Jvm.Cond.code x code maxLocals ret, Jvm.Cond.code ({ cls := "com/example/ludus/ludus/PackingTask$Bag", name := "<init>", desc := "(II)V" } : Jvm.MethodName) prog_50_method_1_code (3 : Nat) (Option.none : Option Jvm.ClassFile.FieldType), Jvm.Cond.code ({ cls := "java/lang/Object", name := "<init>", desc := "()V" } : Jvm.MethodName) object_method_1_code (1 : Nat) (Option.none : Option Jvm.ClassFile.FieldType), Jvm.Cond.code ({ cls := "com/example/ludus/ludus/PackingTask$Bag", name := "equals", desc := "(Ljava/lang/Object;)Z" } : Jvm.MethodName) prog_50_method_4_code (3 : Nat) (Option.some Jvm.ClassFile.FieldType.boolean), Jvm.Cond.code ({ cls := "com/example/ludus/ludus/PackingTask$Good", name := "<init>", desc := "(III)V" } : Jvm.MethodName) prog_51_method_1_code (4 : Nat) (Option.none : Option Jvm.ClassFile.FieldType)]
set_option maxRecDepth 65536 in
theorem codes_eq : words1.filter isCode = codes1 := rfl
theorem w_codes : ∀ c ∈ words1.filter isCode, c.before args0 about1 = true := by
  rw [codes_eq]
  intro c hc
  simp only [codes1, List.mem_cons, List.not_mem_nil, or_false] at hc
  rcases hc with rfl | rfl | rfl | rfl | rfl
  · exact w_c0
  · exact w_c1
  · exact w_c2
  · exact w_c3
  · exact w_c4
set_option maxRecDepth 65536 in
theorem w_t1 : (words1.take 24).all (fun c => isCode c || c.before args0 about1) = true := by decide +kernel
set_option maxRecDepth 65536 in
theorem w_t2 : (words1.drop 24).all (fun c => isCode c || c.before args0 about1) = true := by decide +kernel
theorem w_tables : (allAtoms (Jvm.Cond.code x code maxLocals ret :: tables_1)).before args0 about1 = true := by
  rw [allAtoms_all]
  show words1.all (fun c => c.before args0 about1) = true
  refine all_split ?_ w_codes
  rw [← List.take_append_drop 24 words1, List.all_append, w_t1, w_t2]
  rfl
set_option maxRecDepth 65536 in
theorem w_case : (Jvm.Cond.and given_1 narrow_1).before args0 about1 = true := by decide +kernel
theorem w_applies : (headSpec (Jvm.Cond.code x code maxLocals ret :: tables_1) room_1).applies x e0.platform about1 = true :=
  (Spec.applies_iff w_frames).mpr ⟨w_running, w_runnable, w_alone, w_named, w_hears, w_ripe, w_room, w_tables⟩
theorem atStart : AtStart classFile x code maxLocals ret World_1 tables_1 room_1 Calls_1 rest_1 Pre_1 launch0 p0 e0 about1 theMethod args0 below0 :=
  ⟨lists_1, trivial, launch0.admits_env _ _ _, launch0.least_env, fairChoices_fair.cas, fairChoices_fair.clock, w_frames, w_args, w_heap, w_applies, trivial, trivial, w_case⟩
end start1
theorem witness_1 : WitnessClaimed_1 := ⟨start1.p0, start1.e0, start1.about1, start1.theMethod, start1.args0, start1.below0, start1.atStart⟩
end Jvm.Pilot.@@N@@
