import JvmDerived
import JvmDerived.Pilot.@@N@@Statement
import JvmDerived.Pilot.@@N@@Code
set_option linter.unusedVariables false
set_option linter.unusedSimpArgs false
namespace Jvm.RoadKit
open Sem ClassFile Op Lib Jvm.Stand Jvm.Free Jvm.LawKit
section New
variable {p : Program} {l : Launch} {e : Env} {R : Room} {s : State} {m : MethodId} {args : Array Value} {below : List Frame} {meth : Method} {c : Code} {T : State} {locs : List Loc} {cells slots : Nat}
theorem retI (X : Stand p l e R s m args below meth c T locs cells slots) (hx : p.tables.exec = Jvm.exec) {pc : Nat} {Ls : Array Slot} {z : Int32} {rest : List Value} (hret : meth.sig.returnType = some .int) (hd : decode c.code pc = .ok (.ireturn, 1)) {fs : List Frame}
    (hl : ∀ (f : JFrame) (acts : List Action), f.method = m → f.locked = none → f.entered = [] → (doReturn e (T.setTop f) acts (some (.int z))).1 = T.setFrames fs) : Steps p.tables e below (T.setTop (mkF m pc Ls (.int z :: rest))) (T.setFrames fs) := by
  have hm' : T.vm.method? m = some meth := X.method'
  have hn : narrow .int (.int z) = .int z := rfl
  show Steps p.tables e below (T.setTop { method := m, pc := pc, locals := Ls, stack := _ :: rest, locked := none }) _
  jvm_step X.here [X.here.top, hx, hd, hm', hret, hn]
  first | (intro acts; rw [hl _ acts rfl rfl rfl]) | rw [hl _ _ rfl rfl rfl]
  exact Steps.refl _
theorem retJ (X : Stand p l e R s m args below meth c T locs cells slots) (hx : p.tables.exec = Jvm.exec) {pc : Nat} {Ls : Array Slot} {z : Int64} {rest : List Value} (hret : meth.sig.returnType = some .long) (hd : decode c.code pc = .ok (.lreturn, 1)) {fs : List Frame}
    (hl : ∀ (f : JFrame) (acts : List Action), f.method = m → f.locked = none → f.entered = [] → (doReturn e (T.setTop f) acts (some (.long z))).1 = T.setFrames fs) : Steps p.tables e below (T.setTop (mkF m pc Ls (.long z :: rest))) (T.setFrames fs) := by
  have hm' : T.vm.method? m = some meth := X.method'
  have hn : narrow .long (.long z) = .long z := rfl
  show Steps p.tables e below (T.setTop { method := m, pc := pc, locals := Ls, stack := _ :: rest, locked := none }) _
  jvm_step X.here [X.here.top, hx, hd, hm', hret, hn, narrow]
  first | (intro acts; rw [hl _ acts rfl rfl rfl]) | rw [hl _ _ rfl rfl rfl]
  exact Steps.refl _
theorem retR (X : Stand p l e R s m args below meth c T locs cells slots) (hx : p.tables.exec = Jvm.exec) {pc : Nat} {Ls : Array Slot} {z : Addr} {rest : List Value} {ty : FieldType} (hret : meth.sig.returnType = some ty) (hty : ty.isReference = true) (hd : decode c.code pc = .ok (.areturn, 1)) {fs : List Frame}
    (hl : ∀ (f : JFrame) (acts : List Action), f.method = m → f.locked = none → f.entered = [] → (doReturn e (T.setTop f) acts (some (.ref z))).1 = T.setFrames fs) : Steps p.tables e below (T.setTop (mkF m pc Ls (.ref z :: rest))) (T.setFrames fs) := by
  have hm' : T.vm.method? m = some meth := X.method'
  show Steps p.tables e below (T.setTop { method := m, pc := pc, locals := Ls, stack := _ :: rest, locked := none }) _
  jvm_step X.here [X.here.top, hx, hd, hm', hret, hty, Value.isRef]
  first | (intro acts; rw [hl _ acts rfl rfl rfl]) | rw [hl _ _ rfl rfl rfl]
  exact Steps.refl _
theorem lremM {tb : Tables} [Ours tb] {target : State} {g : JFrame} (h : At T m c below) (hx : tb.exec = Jvm.exec) (hg : g.method = m) {x y : Int64} {rest : List Value} (hd : decode c.code g.pc = .ok (.lrem, 1)) (hs : g.stack = .long y :: .long x :: rest) (hy : y ≠ 0)
    (hr : Steps tb e below (T.setTop { g with pc := g.pc + 1, stack := .long (x % y) :: rest }) target) : Steps tb e below (T.setTop g) target := by
  rw [← lrem_mod] at hr
  exact XS.lrem h hx hg hd hs hy hr
end New
end Jvm.RoadKit
namespace Jvm.Pilot.@@N@@
open Jvm Jvm.ClassFile Sem Op Lib Jvm.Free Jvm.Stand Jvm.LawKit Jvm.RoadKit Bundle Jvm.Pilot.@@N@@.Jvm.D
/-- a Java boolean -/
def bI (P : Prop) [Decidable P] : Int32 := if P then 1 else 0
theorem bI_pos {P : Prop} [Decidable P] (h : P) : bI P = (1 : Int32) := if_pos h
theorem bI_neg {P : Prop} [Decidable P] (h : ¬ P) : bI P = (0 : Int32) := if_neg h
theorem bI_0 {P : Prop} [Decidable P] (h : ¬ P) : bI P = 0 := if_neg h
theorem bI_ne0 {P : Prop} [Decidable P] (h : P) : ¬ bI P = 0 := by rw [bI_pos h]; decide
theorem bI_iff {P Q : Prop} [Decidable P] [Decidable Q] : bI P = bI Q ↔ (P ↔ Q) := by
  by_cases p : P <;> by_cases q : Q <;> simp [bI, p, q]
theorem nar_0 : nar .boolean (0 : Int32) = 0 := by decide
theorem nar_1 : nar .boolean (1 : Int32) = 1 := by decide
theorem nar_bI (P : Prop) [Decidable P] : nar .boolean (bI P) = bI P := by by_cases p : P <;> simp [bI, p] <;> decide
/-- the run from st ends, and Q holds of what it returns and leaves -/
def OG (p : Program) (e : Env) (below : List Frame) (s : State) (Q : Option Value → Heap → List Loc → Prop) (cc ss : Nat) (st : State) : Prop :=
  ∃ s₂ o, Steps p.tables e below st s₂ ∧ s₂.status = .running ∧ Ended s₂ below o ∧ ∃ v L, o = .returned v ∧ Q v s₂.heap L ∧ FrameEnd s o s₂ L cc ss
section Out
variable {p : Program} {l : Launch} {e : Env} {R : Room} {s : State} {m : MethodId} {args : Array Value} {below : List Frame} {meth : Method} {c : Code} {T : State} {locs : List Loc} {cells slots : Nat} {Q : Option Value → Heap → List Loc → Prop} {cc ss : Nat} {h : Heap}
theorem OG.step {st st' : State} (h : ∀ t, Steps p.tables e below st' t → Steps p.tables e below st t) (g : OG p e below s Q cc ss st') : OG p e below s Q cc ss st := by
  obtain ⟨s₂, o, h1, r⟩ := g
  exact ⟨s₂, o, h _ h1, r⟩
theorem OG.out (X : Stand p l e R s m args below meth c T locs cells slots) {v : Option Value} (hv : meth.sig.returnType = none → v = none) (hlk : meth.locks = false) {g : JFrame} (eT : T.heap = h)
    (hs : ∀ fs, (∀ (f : JFrame) (acts : List Action), f.method = m → f.locked = none → f.entered = [] → (doReturn e (T.setTop f) acts v).1 = T.setFrames fs) → Steps p.tables e below (T.setTop g) (T.setFrames fs))
    (hQ : Q v h locs) (hc : cells ≤ cc) (hl : slots ≤ ss) : OG p e below s Q cc ss (T.setTop g) := by
  obtain ⟨fs, hr, hrun, hended, hW, hsame⟩ := X.leave (v := v) hv hlk
  exact ⟨_, _, hs fs hr, hrun, hended, _, _, rfl, by show Q v T.heap locs; rw [eT]; exact hQ, ⟨_, rfl⟩, hW, hsame.mono hc hl⟩
theorem OG.retV (X : Stand p l e R s m args below meth c T locs cells slots) (hx : p.tables.exec = Jvm.exec) (hlk : meth.locks = false) (hret : meth.sig.returnType = none) {pc : Nat} {Ls : Array Slot} (hd : decode c.code pc = .ok (.return_, 1)) (eT : T.heap = h) (hQ : Q none h locs) (hc : cells ≤ cc) (hl : slots ≤ ss) : OG p e below s Q cc ss (T.setTop (mkF m pc Ls [])) :=
  OG.out X (fun _ => rfl) hlk eT (fun _ hr => X.returnOut hx hret hd hr) hQ hc hl
theorem OG.retI (X : Stand p l e R s m args below meth c T locs cells slots) (hx : p.tables.exec = Jvm.exec) (hlk : meth.locks = false) (hret : meth.sig.returnType = some .int) {pc : Nat} {Ls : Array Slot} {z : Int32} {rest : List Value} (hd : decode c.code pc = .ok (.ireturn, 1)) (eT : T.heap = h) (hQ : Q (some (.int z)) h locs) (hc : cells ≤ cc) (hl : slots ≤ ss) : OG p e below s Q cc ss (T.setTop (mkF m pc Ls (.int z :: rest))) :=
  OG.out X (fun h => by rw [hret] at h; cases h) hlk eT (fun _ hr => Jvm.RoadKit.retI X hx hret hd hr) hQ hc hl
theorem OG.retJ (X : Stand p l e R s m args below meth c T locs cells slots) (hx : p.tables.exec = Jvm.exec) (hlk : meth.locks = false) (hret : meth.sig.returnType = some .long) {pc : Nat} {Ls : Array Slot} {z : Int64} {rest : List Value} (hd : decode c.code pc = .ok (.lreturn, 1)) (eT : T.heap = h) (hQ : Q (some (.long z)) h locs) (hc : cells ≤ cc) (hl : slots ≤ ss) : OG p e below s Q cc ss (T.setTop (mkF m pc Ls (.long z :: rest))) :=
  OG.out X (fun h => by rw [hret] at h; cases h) hlk eT (fun _ hr => Jvm.RoadKit.retJ X hx hret hd hr) hQ hc hl
theorem OG.retR (X : Stand p l e R s m args below meth c T locs cells slots) (hx : p.tables.exec = Jvm.exec) (hlk : meth.locks = false) {ty : FieldType} (hret : meth.sig.returnType = some ty) (hty : ty.isReference = true) {pc : Nat} {Ls : Array Slot} {z : Addr} {rest : List Value} (hd : decode c.code pc = .ok (.areturn, 1)) (eT : T.heap = h) (hQ : Q (some (.ref z)) h locs) (hc : cells ≤ cc) (hl : slots ≤ ss) : OG p e below s Q cc ss (T.setTop (mkF m pc Ls (.ref z :: rest))) :=
  OG.out X (fun h => by rw [hret] at h; cases h) hlk eT (fun _ hr => Jvm.RoadKit.retR X hx hret hty hd hr) hQ hc hl
theorem OG.retZ (X : Stand p l e R s m args below meth c T locs cells slots) (hx : p.tables.exec = Jvm.exec) (hlk : meth.locks = false) (hret : meth.sig.returnType = some .boolean) {pc : Nat} {Ls : Array Slot} {z z' : Int32} {rest : List Value} (hd : decode c.code pc = .ok (.ireturn, 1)) (hz : nar .boolean z = z') (eT : T.heap = h) (hQ : Q (some (.int z')) h locs) (hc : cells ≤ cc) (hl : slots ≤ ss) : OG p e below s Q cc ss (T.setTop (mkF m pc Ls (.int z :: rest))) := by
  subst hz
  exact OG.out X (fun h => by rw [hret] at h; cases h) hlk eT (fun _ hr => retN X hx (t := .boolean) hret (by simp) hd hr) hQ hc hl
end Out
/-- the run from st ends, and Q holds; Strings may have been interned -/
def OGW (p : Program) (e : Env) (below : List Frame) (s : State) (Q : Option Value → Heap → List Loc → Prop) (cc ss : Nat) (st : State) : Prop :=
  ∃ s₂ o, Steps p.tables e below st s₂ ∧ s₂.status = .running ∧ Ended s₂ below o ∧ ∃ v L, o = .returned v ∧ Q v s₂.heap L ∧ ReturnedEndW s o s₂ L cc ss
section OutW
variable {p : Program} {l : Launch} {e : Env} {R : Room} {s : State} {m : MethodId} {args : Array Value} {below : List Frame} {meth : Method} {c : Code} {T : State} {locs : List Loc} {cells slots : Nat} {Q : Option Value → Heap → List Loc → Prop} {cc ss : Nat} {h : Heap} {vm1 : Vm} {k0 : Nat}
theorem OGW.step {st st' : State} (h : ∀ t, Steps p.tables e below st' t → Steps p.tables e below st t) (g : OGW p e below s Q cc ss st') : OGW p e below s Q cc ss st := by
  obtain ⟨s₂, o, h1, r⟩ := g
  exact ⟨s₂, o, h _ h1, r⟩
theorem OGW.out (X : Stand p l e R (s.setVm vm1) m args below meth c T locs cells slots) (hS : s.Since vm1 k0) (hk : k0 ≤ h.size) {v : Option Value} (hv : meth.sig.returnType = none → v = none) (hlk : meth.locks = false) {g : JFrame} (eT : T.heap = h)
    (hs : ∀ fs, (∀ (f : JFrame) (acts : List Action), f.method = m → f.locked = none → f.entered = [] → (doReturn e (T.setTop f) acts v).1 = T.setFrames fs) → Steps p.tables e below (T.setTop g) (T.setFrames fs))
    (hQ : Q v h locs) (hc : cells ≤ cc) (hl : slots ≤ ss) : OGW p e below s Q cc ss (T.setTop g) := by
  obtain ⟨fs, hr, hrun, hended, hE⟩ := X.leaveW hS (by rw [eT]; exact hk) (v := v) hv hlk
  exact ⟨_, _, hs fs hr, hrun, hended, _, _, rfl, by show Q v T.heap locs; rw [eT]; exact hQ, hE.1, hE.2.1, hE.2.2.1, hE.2.2.2.mono hc hl⟩
theorem OGW.retV (X : Stand p l e R (s.setVm vm1) m args below meth c T locs cells slots) (hS : s.Since vm1 k0) (hk : k0 ≤ h.size) (hx : p.tables.exec = Jvm.exec) (hlk : meth.locks = false) (hret : meth.sig.returnType = none) {pc : Nat} {Ls : Array Slot} (hd : decode c.code pc = .ok (.return_, 1)) (eT : T.heap = h) (hQ : Q none h locs) (hc : cells ≤ cc) (hl : slots ≤ ss) : OGW p e below s Q cc ss (T.setTop (mkF m pc Ls [])) :=
  OGW.out X hS hk (fun _ => rfl) hlk eT (fun _ hr => X.returnOut hx hret hd hr) hQ hc hl
theorem OGW.retZ (X : Stand p l e R (s.setVm vm1) m args below meth c T locs cells slots) (hS : s.Since vm1 k0) (hk : k0 ≤ h.size) (hx : p.tables.exec = Jvm.exec) (hlk : meth.locks = false) (hret : meth.sig.returnType = some .boolean) {pc : Nat} {Ls : Array Slot} {z z' : Int32} {rest : List Value} (hd : decode c.code pc = .ok (.ireturn, 1)) (hz : nar .boolean z = z') (eT : T.heap = h) (hQ : Q (some (.int z')) h locs) (hc : cells ≤ cc) (hl : slots ≤ ss) : OGW p e below s Q cc ss (T.setTop (mkF m pc Ls (.int z :: rest))) := by
  subst hz
  exact OGW.out X hS hk (fun h => by rw [hret] at h; cases h) hlk eT (fun _ hr => retN X hx (t := .boolean) hret (by simp) hd hr) hQ hc hl
end OutW

theorem own_wS {Z : State} {a0 : Array Value} (hw : ∀ d ∈ tables_1, d.before a0 Z = true) : ∀ a ∈ Bundle.stringAtoms, a.before a0 Z = true := by
  intro a ha
  simp only [Bundle.stringAtoms, Bundle.sN, List.mem_cons, List.not_mem_nil, or_false] at ha
  rcases ha with rfl | rfl | rfl | rfl | rfl | rfl | rfl
  · exact (hw _ (List.mem_of_getElem? (i := 5) rfl))
  · exact (hw _ (List.mem_of_getElem? (i := 13) rfl))
  · exact (hw _ (List.mem_of_getElem? (i := 17) rfl))
  · exact (hw _ (List.mem_of_getElem? (i := 26) rfl))
  · exact (hw _ (List.mem_of_getElem? (i := 28) rfl))
  · exact (hw _ (List.mem_of_getElem? (i := 30) rfl))
  · exact (hw _ (List.mem_of_getElem? (i := 31) rfl))
theorem own_fitR {C : String} {v : Value} (h : v.isRef = true) : fits (.object C) v = true := by rcases ref_cases h with rfl | ⟨_, rfl⟩ <;> rfl
theorem own_narR {C : String} {v : Value} : narrow (.object C) v = v := by cases v <;> rfl
def own_ir (v : Value) : Prop := v = .null ∨ ∃ a, v = .ref a
def own_nl : Value → Bool
  | .null => true
  | _ => false
def own_sl (v1 a1 v2 a2 : Value) : Bool := (own_nl v1 == own_nl v2) && (!own_nl v1 || (own_nl a1 == own_nl a2))
theorem own_irI (P : Prop) [Decidable P] (a : Addr) : own_ir (if P then (.ref a) else .null) := by
  by_cases h : P
  · rw [if_pos h]; exact Or.inr ⟨a, rfl⟩
  · rw [if_neg h]; exact Or.inl rfl
theorem own_isI (P : Prop) [Decidable P] (a : Addr) : (if P then (Value.ref a) else Value.null).isRef = true := by
  by_cases h : P
  · rw [if_pos h]; rfl
  · rw [if_neg h]; rfl
theorem own_chr (c : Int32) : ¬ (255 : Int32) < ((c &&& (255 : Int32)).toUInt32.toUInt16.toUInt32.toInt32) := by
  have e := c_mask c (255 : Int32) 8 (by decide) (by decide)
  have f := c_i2c (c &&& (255 : Int32))
  have o : (255 : Int32).toInt = 255 := by decide
  have p8 : ((2 ^ 8 : Nat) : Int) = 256 := by decide
  rw [p8] at e
  rw [Int32.lt_iff_toInt_lt]; omega
theorem d2_0 : decode jdk_43_method_3_code 0 = .ok (.iload_n 0, 1) := by decide +kernel
theorem d2_1 : decode jdk_43_method_3_code 1 = .ok (.sipush 255, 3) := by decide +kernel
theorem d2_4 : decode jdk_43_method_3_code 4 = .ok (.if_icmp .gt 7, 3) := by decide +kernel
theorem d2_7 : decode jdk_43_method_3_code 7 = .ok (.iconst 1, 1) := by decide +kernel
theorem d2_8 : decode jdk_43_method_3_code 8 = .ok (.goto 4, 3) := by decide +kernel
theorem d2_11 : decode jdk_43_method_3_code 11 = .ok (.iconst 0, 1) := by decide +kernel
theorem d2_12 : decode jdk_43_method_3_code 12 = .ok (.ireturn, 1) := by decide +kernel
theorem pn_java_lang_StringLatin1 : plainName "java/lang/StringLatin1" = true := by first | (simp [plainName, overriddenIn]; done) | decide +kernel
theorem ef_2 (m : MethodId) (x0 : Int32) : entryFrame m #[(.int x0)] 1 = mkF m 0 #[.val (.int x0)] [] := by first | (simp [entryFrame, mkF, argsToLocals, Value.category]; done) | rfl
def Q2 (Z : State) (p0 : Int32) (h0 : Heap) (n0 : Nat) (v : Option Value) (h : Heap) (L : List Loc) : Prop := (v = some (.int (bI (¬ ((255 : Int32) < p0))))) ∧ (Fr n0 L) ∧ (h = h0)
abbrev rom_2 : Room := { frames := 0, cells := 0, slots := 0, locals := 0 }
set_option maxRecDepth 65536 in
set_option maxHeartbeats 40000000 in
theorem rm2 (l : Launch) (Z : State) (a0 : Array Value) (hw : ∀ d ∈ tables_1, d.before a0 Z = true) (ws : List Jvm.Cond) (p0 : Int32) (h0 : Heap) (n0 : Nat) (Z0 : n0 ≤ h0.size) :
    MetFree l (⟨"java/lang/StringLatin1", "canEncode", "(C)Z"⟩ : MethodName) (head1 (Jvm.Cond.code (⟨"java/lang/StringLatin1", "canEncode", "(C)Z"⟩ : MethodName) jdk_43_method_3_code 1 (some .boolean) :: ws) rom_2) (fun a U => a = #[(.int p0)] ∧ Z.Warmed39 U.vm ∧ U.heap = h0) (fun _ _ _ _ _ => True) (fun _ U o U' => ∃ v L, o = .returned v ∧ Q2 Z p0 h0 n0 v U'.heap L ∧ FrameEnd U o U' L rom_2.cells rom_2.slots) := by
  refine MetFree.of_bodySF (plainFor_of_name pn_java_lang_StringLatin1) hisR ?_
  intro p e s m args below meth c s₁ Bd hml0 hP hK
  obtain ⟨rfl, hZ, hh⟩ := hP
  have hx := Bd.exec
  have hby := Bd.bytes
  have hlk := Bd.notSynchronized
  have hml : c.maxLocals = 1 := hml0
  have hown : s.vm.findClass "java/lang/StringLatin1" = some m.cls := findClass_of_methodNamed Bd.named
  have hnm := (name_of_methodNamed Bd.named Bd.method).1
  have X0 : Stand p l e rom_2 s m #[(.int p0)] below meth c s₁ [] 0 0 := Stand.of_body Bd
  have e0 : s₁.heap = h0 := by rw [← hh, Bd.state]; rfl
  have N0 := Fr.nil n0
  have K0 : Keep h0 h0 [] := Keep.refl _ _
  refine (?_ : OG p e below s (Q2 Z p0 h0 n0) rom_2.cells rom_2.slots _)
  rw [ef_2]
  have s1 : ∀ tz, Steps p.tables e below (s₁.setTop (mkF m 4 #[.val (.int p0)] [(.int (255 : Int32)), (.int p0)])) tz → Steps p.tables e below (s₁.setTop (mkF m 0 #[.val (.int p0)] [])) tz := by
    intro tz kz
    refine XS.iloadN X0.here hx rfl (hb hby d2_0) rfl ?_
    show Steps p.tables e below (s₁.setTop (mkF m 1 #[.val (.int p0)] [(.int p0)])) _
    refine XS.sipush X0.here hx rfl (hb hby d2_1) ?_
    exact kz
  refine OG.step s1 ?_
  have s2 : ∀ tz, Steps p.tables e below (s₁.setTop (mkF m 12 #[.val (.int p0)] [(.int (bI (¬ ((255 : Int32) < p0))))])) tz → Steps p.tables e below (s₁.setTop (mkF m 4 #[.val (.int p0)] [(.int (255 : Int32)), (.int p0)])) tz := by
    intro tz kz
    by_cases hm4 : (255 : Int32) < p0
    · refine XS.icmpYes X0.here hx rfl (pc0 := 4) (pc' := 11) rfl (hb hby d2_4) rfl (tlt hm4).2.2.1 (by decide) (by decide) ?_
      show Steps p.tables e below (s₁.setTop (mkF m 11 #[.val (.int p0)] [])) _
      refine XS.iconst X0.here hx rfl (hb hby d2_11) ?_
      show Steps p.tables e below (s₁.setTop (mkF m 12 #[.val (.int p0)] [(.int (0 : Int32))])) _
      rw [show (bI (¬ ((255 : Int32) < p0))) = (0 : Int32) from bI_neg (P := ¬ ((255 : Int32) < p0)) (fun z => z hm4)] at kz
      exact kz
    · refine XS.icmpNo X0.here hx rfl (hb hby d2_4) rfl (flt hm4).2.2.1 ?_
      show Steps p.tables e below (s₁.setTop (mkF m 7 #[.val (.int p0)] [])) _
      refine XS.iconst X0.here hx rfl (hb hby d2_7) ?_
      show Steps p.tables e below (s₁.setTop (mkF m 8 #[.val (.int p0)] [(.int (1 : Int32))])) _
      refine XS.goto X0.here hx rfl (pc0 := 8) (pc' := 12) rfl (hb hby d2_8) (by decide) (by decide) ?_
      show Steps p.tables e below (s₁.setTop (mkF m 12 #[.val (.int p0)] [(.int (1 : Int32))])) _
      rw [show (bI (¬ ((255 : Int32) < p0))) = (1 : Int32) from bI_pos (P := ¬ ((255 : Int32) < p0)) hm4] at kz
      exact kz
  refine OG.step s2 ?_
  exact OG.retZ X0 hx hlk Bd.returns (hb hby d2_12) (nar_bI _) e0 ⟨rfl, N0, rfl⟩ (by decide) (by decide)
theorem d3_0 : decode jdk_43_method_46_code 0 = .ok (.iconst 1, 1) := by decide +kernel
theorem d3_1 : decode jdk_43_method_46_code 1 = .ok (.newarray .byte, 2) := by decide +kernel
theorem d3_3 : decode jdk_43_method_46_code 3 = .ok (.dup, 1) := by decide +kernel
theorem d3_4 : decode jdk_43_method_46_code 4 = .ok (.iconst 0, 1) := by decide +kernel
theorem d3_5 : decode jdk_43_method_46_code 5 = .ok (.iload_n 0, 1) := by decide +kernel
theorem d3_6 : decode jdk_43_method_46_code 6 = .ok (.i2b, 1) := by decide +kernel
theorem d3_7 : decode jdk_43_method_46_code 7 = .ok (.bastore, 1) := by decide +kernel
theorem d3_8 : decode jdk_43_method_46_code 8 = .ok (.areturn, 1) := by decide +kernel
theorem ef_3 (m : MethodId) (x0 : Int32) : entryFrame m #[(.int x0)] 1 = mkF m 0 #[.val (.int x0)] [] := by first | (simp [entryFrame, mkF, argsToLocals, Value.category]; done) | rfl
def Q3 (Z : State) (p0 : Int32) (h0 : Heap) (n0 : Nat) (v : Option Value) (h : Heap) (L : List Loc) : Prop := ∃ (b1 : Addr) (kb : ClassId) (w1 : Int32), (v = some (.ref b1)) ∧ (Fr n0 L) ∧ (Keep h0 h []) ∧ (Arv Z h b1 kb .byte (1 : Int32) [(.int w1)] (.int (0 : Int32))) ∧ (h0.size ≤ b1)
abbrev rom_3 : Room := { frames := 0, cells := 1, slots := 1, locals := 0 }
set_option maxRecDepth 65536 in
set_option maxHeartbeats 40000000 in
theorem rm3 (l : Launch) (Z : State) (a0 : Array Value) (hw : ∀ d ∈ tables_1, d.before a0 Z = true) (ws : List Jvm.Cond) (p0 : Int32) (h0 : Heap) (n0 : Nat) (Z0 : n0 ≤ h0.size) :
    MetFree l (⟨"java/lang/StringLatin1", "toBytes", "(C)[B"⟩ : MethodName) (head1 (Jvm.Cond.code (⟨"java/lang/StringLatin1", "toBytes", "(C)[B"⟩ : MethodName) jdk_43_method_46_code 1 (some (.array .byte)) :: ws) rom_3) (fun a U => a = #[(.int p0)] ∧ Z.Warmed39 U.vm ∧ U.heap = h0) (fun _ _ _ _ _ => True) (fun _ U o U' => ∃ v L, o = .returned v ∧ Q3 Z p0 h0 n0 v U'.heap L ∧ FrameEnd U o U' L rom_3.cells rom_3.slots) := by
  refine MetFree.of_bodySF (plainFor_of_name pn_java_lang_StringLatin1) hisR ?_
  intro p e s m args below meth c s₁ Bd hml0 hP hK
  obtain ⟨rfl, hZ, hh⟩ := hP
  have hx := Bd.exec
  have hby := Bd.bytes
  have hlk := Bd.notSynchronized
  have hml : c.maxLocals = 1 := hml0
  have hown : s.vm.findClass "java/lang/StringLatin1" = some m.cls := findClass_of_methodNamed Bd.named
  have hnm := (name_of_methodNamed Bd.named Bd.method).1
  have X0 : Stand p l e rom_3 s m #[(.int p0)] below meth c s₁ [] 0 0 := Stand.of_body Bd
  have e0 : s₁.heap = h0 := by rw [← hh, Bd.state]; rfl
  have N0 := Fr.nil n0
  have K0 : Keep h0 h0 [] := Keep.refl _ _
  refine (?_ : OG p e below s (Q3 Z p0 h0 n0) rom_3.cells rom_3.slots _)
  rw [ef_3]
  have s1 : ∀ tz, Steps p.tables e below (s₁.setTop (mkF m 1 #[.val (.int p0)] [(.int (1 : Int32))])) tz → Steps p.tables e below (s₁.setTop (mkF m 0 #[.val (.int p0)] [])) tz := by
    intro tz kz
    refine XS.iconst X0.here hx rfl (hb hby d3_0) ?_
    exact kz
  refine OG.step s1 ?_
  obtain ⟨T2, h2, k2, X2, e2, E2, A2, st2⟩ := newP X0 hx hZ (hw _ (List.mem_of_getElem? (i := 17) rfl)) e0 (g := (mkF m 1 #[.val (.int p0)] [(.int (1 : Int32))])) rfl (hb hby d3_1) rfl (by decide) (cap := 1) (by decide) (by decide) (by decide) (by decide)
  obtain ⟨b2, g2⟩ : ∃ z, z = h0.size := ⟨_, rfl⟩
  rw [← g2] at A2 st2
  have sz2 : h0.size ≤ b2 := Nat.le_trans K0.1 (Nat.le_of_eq g2.symm)
  have ge2 : n0 ≤ b2 := Nat.le_trans Z0 sz2
  refine OG.step st2 ?_
  have V2 : Arv Z h2 b2 k2 .byte (1 : Int32) [(.int (0 : Int32))] (.int (0 : Int32)) := (Arv.new A2 (by decide)).pad (pad_rep [] (.int (0 : Int32)) 1)
  have K2 := K0.ext E2
  show OG _ _ _ _ _ _ _ (T2.setTop (mkF m 3 #[.val (.int p0)] [(.ref b2)]))
  have s3 : ∀ tz, Steps p.tables e below (T2.setTop (mkF m 7 #[.val (.int p0)] [(.int (p0.toInt8.toInt32)), (.int (0 : Int32)), (.ref b2), (.ref b2)])) tz → Steps p.tables e below (T2.setTop (mkF m 3 #[.val (.int p0)] [(.ref b2)])) tz := by
    intro tz kz
    refine XS.dup X2.here hx rfl (hb hby d3_3) rfl rfl ?_
    show Steps p.tables e below (T2.setTop (mkF m 4 #[.val (.int p0)] [(.ref b2), (.ref b2)])) _
    refine XS.iconst X2.here hx rfl (hb hby d3_4) ?_
    show Steps p.tables e below (T2.setTop (mkF m 5 #[.val (.int p0)] [(.int (0 : Int32)), (.ref b2), (.ref b2)])) _
    refine XS.iloadN X2.here hx rfl (hb hby d3_5) rfl ?_
    show Steps p.tables e below (T2.setTop (mkF m 6 #[.val (.int p0)] [(.int p0), (.int (0 : Int32)), (.ref b2), (.ref b2)])) _
    refine XS.i2b X2.here hx rfl (hb hby d3_6) rfl ?_
    exact kz
  refine OG.step s3 ?_
  have av4 := V2
  obtain ⟨cl4, Ar4, qa_4, Sa_4, Nn_4, Ha_4, Ga_4⟩ := av4
  have hin4 : ¬ ((0 : Int32) < 0 ∨ cl4.slots.size ≤ ((0 : Int32)).toNatClampNeg) := inb_of Sa_4 ⟨(by decide), (by decide)⟩
  obtain ⟨T5, h5, X5, e5, W5, st5⟩ := stB X2 hx hZ e2 Ar4 (j := (0 : Int32)) hin4 (g := (mkF m 7 #[.val (.int p0)] [(.int (p0.toInt8.toInt32)), (.int (0 : Int32)), (.ref b2), (.ref b2)])) rfl rfl (hb hby d3_7)
  refine OG.step st5 ?_
  have Va5 := Arv.set Ar4 qa_4 Sa_4 Nn_4 Ha_4 Ga_4 (fits_nar_byte _) W5 (0) (by decide) (Nat.le_of_ble_eq_true rfl)
  have V5 : Arv Z h5 b2 k2 .byte (1 : Int32) [(.int (nar .byte (p0.toInt8.toInt32)))] (.int (0 : Int32)) := Va5
  have K5 := K2.wr W5 (Or.inr sz2)
  have N5 := Fr.snoc X5 N0 ge2
  obtain ⟨Lz6, X5, N5⟩ : ∃ Lz, Stand p l e rom_3 s m #[(.int p0)] below meth c T5 Lz 1 1 ∧ Fr n0 Lz := ⟨_, X5, N5⟩
  show OG _ _ _ _ _ _ _ (T5.setTop (mkF m 8 #[.val (.int p0)] [(.ref b2)]))
  exact OG.retR X5 hx hlk Bd.returns (by decide) (hb hby d3_8) e5 ⟨b2, k2, (nar .byte (p0.toInt8.toInt32)), rfl, N5, K5, V5, sz2⟩ (by decide) (by decide)
theorem d4_0 : decode jdk_42_method_151_code 0 = .ok (.aload_n 0, 1) := by decide +kernel
theorem d4_1 : decode jdk_42_method_151_code 1 = .ok (.invokespecial 1, 3) := by decide +kernel
theorem d4_4 : decode jdk_42_method_151_code 4 = .ok (.aload_n 0, 1) := by decide +kernel
theorem d4_5 : decode jdk_42_method_151_code 5 = .ok (.aload_n 1, 1) := by decide +kernel
theorem d4_6 : decode jdk_42_method_151_code 6 = .ok (.putfield 9, 3) := by decide +kernel
theorem d4_9 : decode jdk_42_method_151_code 9 = .ok (.aload_n 0, 1) := by decide +kernel
theorem d4_10 : decode jdk_42_method_151_code 10 = .ok (.iload_n 2, 1) := by decide +kernel
theorem d4_11 : decode jdk_42_method_151_code 11 = .ok (.putfield 15, 3) := by decide +kernel
theorem d4_14 : decode jdk_42_method_151_code 14 = .ok (.return_, 1) := by decide +kernel
theorem pn_java_lang_String : plainName "java/lang/String" = true := by first | (simp [plainName, overriddenIn]; done) | decide +kernel
theorem ef_4 (m : MethodId) (x0 : Addr) (x1 : Addr) (x2 : Int32) : entryFrame m #[(.ref x0), (.ref x1), (.int x2)] 3 = mkF m 0 #[.val (.ref x0), .val (.ref x1), .val (.int x2)] [] := by first | (simp [entryFrame, mkF, argsToLocals, Value.category]; done) | rfl
def Q4 (Z : State) (a1 : Addr) (ob : Addr) (u1 : Value) (u2 : Value) (h0 : Heap) (n0 : Nat) (v : Option Value) (h : Heap) (L : List Loc) : Prop := (v = none) ∧ (Fr n0 L) ∧ (Keep h0 h [a1]) ∧ (Fld Z h a1 "java/lang/String" "value" "[B" (.ref ob))
abbrev rom_4 : Room := { frames := 1, cells := 0, slots := 0, locals := 12 }
set_option maxRecDepth 65536 in
set_option maxHeartbeats 40000000 in
theorem rm4 (l : Launch) (Z : State) (a0 : Array Value) (hw : ∀ d ∈ tables_1, d.before a0 Z = true) (ws : List Jvm.Cond) (a1 : Addr) (ob : Addr) (u1 : Value) (u2 : Value) (h0 : Heap) (n0 : Nat) (Z0 : n0 ≤ h0.size) (F0_a1 : Exa Z h0 a1 "java/lang/String") (F1_a1_value : Fld Z h0 a1 "java/lang/String" "value" "[B" u1) (F2_a1_coder : Fld Z h0 a1 "java/lang/String" "coder" "B" u2) (g_a1 : n0 ≤ a1) :
    MetFree l (⟨"java/lang/String", "<init>", "([BB)V"⟩ : MethodName) (head1 (Jvm.Cond.code (⟨"java/lang/String", "<init>", "([BB)V"⟩ : MethodName) jdk_42_method_151_code 3 none :: ws) rom_4) (fun a U => a = #[(.ref a1), (.ref ob), (.int (0 : Int32))] ∧ Z.Warmed39 U.vm ∧ U.heap = h0) (fun _ _ _ _ _ => True) (fun _ U o U' => ∃ v L, o = .returned v ∧ Q4 Z a1 ob u1 u2 h0 n0 v U'.heap L ∧ FrameEnd U o U' L rom_4.cells rom_4.slots) := by
  refine MetFree.of_bodySF (plainFor_of_name pn_java_lang_String) hisR ?_
  intro p e s m args below meth c s₁ Bd hml0 hP hK
  obtain ⟨rfl, hZ, hh⟩ := hP
  have hx := Bd.exec
  have hby := Bd.bytes
  have hlk := Bd.notSynchronized
  have hml : c.maxLocals = 3 := hml0
  have hown : s.vm.findClass "java/lang/String" = some m.cls := findClass_of_methodNamed Bd.named
  have hnm := (name_of_methodNamed Bd.named Bd.method).1
  have X0 : Stand p l e rom_4 s m #[(.ref a1), (.ref ob), (.int (0 : Int32))] below meth c s₁ [] 0 0 := Stand.of_body Bd
  have e0 : s₁.heap = h0 := by rw [← hh, Bd.state]; rfl
  have N0 := Fr.nil n0
  have K0 : Keep h0 h0 [a1] := Keep.refl _ _
  refine (?_ : OG p e below s (Q4 Z a1 ob u1 u2 h0 n0) rom_4.cells rom_4.slots _)
  rw [ef_4]
  have s1 : ∀ tz, Steps p.tables e below (s₁.setTop (mkF m 1 #[.val (.ref a1), .val (.ref ob), .val (.int (0 : Int32))] [(.ref a1)])) tz → Steps p.tables e below (s₁.setTop (mkF m 0 #[.val (.ref a1), .val (.ref ob), .val (.int (0 : Int32))] [])) tz := by
    intro tz kz
    refine XS.aloadN X0.here hx rfl (hb hby d4_0) rfl rfl ?_
    exact kz
  refine OG.step s1 ?_
  obtain ⟨T2, X2, e2, st2⟩ := initO X0 hx hZ hown (hw _ (List.mem_of_getElem? (i := 22) rfl)) (hw _ (List.mem_of_getElem? (i := 23) rfl)) (hw _ (List.mem_of_getElem? (i := 24) rfl)) e0 (g := (mkF m 1 #[.val (.ref a1), .val (.ref ob), .val (.int (0 : Int32))] [(.ref a1)])) rfl (by rw [hml]; rfl) rfl (hb hby d4_1) (by decide) (W := 0) (by show 2 * 0 + _ ≤ _; exact Nat.le_of_eq rfl) (by decide)
  refine OG.step st2 ?_
  show OG _ _ _ _ _ _ _ (T2.setTop (mkF m 4 #[.val (.ref a1), .val (.ref ob), .val (.int (0 : Int32))] []))
  have s3 : ∀ tz, Steps p.tables e below (T2.setTop (mkF m 6 #[.val (.ref a1), .val (.ref ob), .val (.int (0 : Int32))] [(.ref ob), (.ref a1)])) tz → Steps p.tables e below (T2.setTop (mkF m 4 #[.val (.ref a1), .val (.ref ob), .val (.int (0 : Int32))] [])) tz := by
    intro tz kz
    refine XS.aloadN X2.here hx rfl (hb hby d4_4) rfl rfl ?_
    show Steps p.tables e below (T2.setTop (mkF m 5 #[.val (.ref a1), .val (.ref ob), .val (.int (0 : Int32))] [(.ref a1)])) _
    refine XS.aloadN X2.here hx rfl (hb hby d4_5) rfl rfl ?_
    exact kz
  refine OG.step s3 ?_
  obtain ⟨T4, h4, X4, e4, W4, st4⟩ := putF X2 hx hZ hown (host := "") (Or.inl (hw _ (List.mem_of_getElem? (i := 25) rfl))) Via.refl e2 F1_a1_value F0_a1 (Or.inr ⟨(hw _ (List.mem_of_getElem? (i := 26) rfl)), rfl, hnm⟩) (hw _ (List.mem_of_getElem? (i := 13) rfl)) (ty := (.array .byte)) (by decide) rfl rfl (g := (mkF m 6 #[.val (.ref a1), .val (.ref ob), .val (.int (0 : Int32))] [(.ref ob), (.ref a1)])) rfl rfl (hb hby d4_6)
  refine OG.step st4 ?_
  have fw4 := F1_a1_value.same W4
  have f5 := F0_a1.wr W4
  have f6 := F2_a1_coder.other W4 (Or.inr (slot_ne (Or.inr (hw _ (List.mem_of_getElem? (i := 28) rfl))) (Or.inr (hw _ (List.mem_of_getElem? (i := 26) rfl))) (by decide) (t := .byte) (t' := (.array .byte)) (by decide) (by decide)))
  have K4 := K0.wr W4 (Or.inl (List.mem_of_getElem? (i := 0) rfl))
  have N4 := Fr.snoc X4 N0 g_a1
  obtain ⟨Lz7, X4, N4⟩ : ∃ Lz, Stand p l e rom_4 s m #[(.ref a1), (.ref ob), (.int (0 : Int32))] below meth c T4 Lz 0 0 ∧ Fr n0 Lz := ⟨_, X4, N4⟩
  show OG _ _ _ _ _ _ _ (T4.setTop (mkF m 9 #[.val (.ref a1), .val (.ref ob), .val (.int (0 : Int32))] []))
  have s8 : ∀ tz, Steps p.tables e below (T4.setTop (mkF m 11 #[.val (.ref a1), .val (.ref ob), .val (.int (0 : Int32))] [(.int (0 : Int32)), (.ref a1)])) tz → Steps p.tables e below (T4.setTop (mkF m 9 #[.val (.ref a1), .val (.ref ob), .val (.int (0 : Int32))] [])) tz := by
    intro tz kz
    refine XS.aloadN X4.here hx rfl (hb hby d4_9) rfl rfl ?_
    show Steps p.tables e below (T4.setTop (mkF m 10 #[.val (.ref a1), .val (.ref ob), .val (.int (0 : Int32))] [(.ref a1)])) _
    refine XS.iloadN X4.here hx rfl (hb hby d4_10) rfl ?_
    exact kz
  refine OG.step s8 ?_
  obtain ⟨T9, h9, X9, e9, W9, st9⟩ := putFN X4 hx hZ hown (hw _ (List.mem_of_getElem? (i := 27) rfl)) Via.refl e4 f6 f5 (Or.inr ⟨(hw _ (List.mem_of_getElem? (i := 28) rfl)), rfl, hnm⟩) (hw _ (List.mem_of_getElem? (i := 13) rfl)) (ty := .byte) (v' := (.int (nar .byte (0 : Int32)))) (by decide) rfl (fits_nar_byte _) (g := (mkF m 11 #[.val (.ref a1), .val (.ref ob), .val (.int (0 : Int32))] [(.int (0 : Int32)), (.ref a1)])) rfl rfl (hb hby d4_11)
  refine OG.step st9 ?_
  have fw9 := f6.same W9
  have f10 := f5.wr W9
  have f11 := fw4.other W9 (Or.inr (slot_ne (Or.inr (hw _ (List.mem_of_getElem? (i := 26) rfl))) (Or.inr (hw _ (List.mem_of_getElem? (i := 28) rfl))) (by decide) (t := (.array .byte)) (t' := .byte) (by decide) (by decide)))
  have K9 := K4.wr W9 (Or.inl (List.mem_of_getElem? (i := 0) rfl))
  have N9 := Fr.snoc X9 N4 g_a1
  obtain ⟨Lz12, X9, N9⟩ : ∃ Lz, Stand p l e rom_4 s m #[(.ref a1), (.ref ob), (.int (0 : Int32))] below meth c T9 Lz 0 0 ∧ Fr n0 Lz := ⟨_, X9, N9⟩
  show OG _ _ _ _ _ _ _ (T9.setTop (mkF m 14 #[.val (.ref a1), .val (.ref ob), .val (.int (0 : Int32))] []))
  exact OG.retV X9 hx hlk Bd.returns (hb hby d4_14) e9 ⟨rfl, N9, K9, f11⟩ (by decide) (by decide)
theorem d1_0 : decode jdk_42_method_139_code 0 = .ok (.getstatic 38, 3) := by decide +kernel
theorem d1_3 : decode jdk_42_method_139_code 3 = .ok (.ifCond .eq 23, 3) := by decide +kernel
theorem d1_6 : decode jdk_42_method_139_code 6 = .ok (.iload_n 0, 1) := by decide +kernel
theorem d1_7 : decode jdk_42_method_139_code 7 = .ok (.invokestatic 1015, 3) := by decide +kernel
theorem d1_10 : decode jdk_42_method_139_code 10 = .ok (.ifCond .eq 16, 3) := by decide +kernel
theorem d1_13 : decode jdk_42_method_139_code 13 = .ok (.new 10, 3) := by decide +kernel
theorem d1_16 : decode jdk_42_method_139_code 16 = .ok (.dup, 1) := by decide +kernel
theorem d1_17 : decode jdk_42_method_139_code 17 = .ok (.iload_n 0, 1) := by decide +kernel
theorem d1_18 : decode jdk_42_method_139_code 18 = .ok (.invokestatic 1018, 3) := by decide +kernel
theorem d1_21 : decode jdk_42_method_139_code 21 = .ok (.iconst 0, 1) := by decide +kernel
theorem d1_22 : decode jdk_42_method_139_code 22 = .ok (.invokespecial 209, 3) := by decide +kernel
theorem d1_25 : decode jdk_42_method_139_code 25 = .ok (.areturn, 1) := by decide +kernel
theorem d1_26 : decode jdk_42_method_139_code 26 = .ok (.new 10, 3) := by decide +kernel
theorem d1_29 : decode jdk_42_method_139_code 29 = .ok (.dup, 1) := by decide +kernel
theorem d1_30 : decode jdk_42_method_139_code 30 = .ok (.iload_n 0, 1) := by decide +kernel
theorem d1_31 : decode jdk_42_method_139_code 31 = .ok (.invokestatic 1021, 3) := by decide +kernel
theorem d1_34 : decode jdk_42_method_139_code 34 = .ok (.iconst 1, 1) := by decide +kernel
theorem d1_35 : decode jdk_42_method_139_code 35 = .ok (.invokespecial 209, 3) := by decide +kernel
theorem d1_38 : decode jdk_42_method_139_code 38 = .ok (.areturn, 1) := by decide +kernel
theorem ef_1 (m : MethodId) (x0 : Int32) : entryFrame m #[(.int x0)] 1 = mkF m 0 #[.val (.int x0)] [] := by first | (simp [entryFrame, mkF, argsToLocals, Value.category]; done) | rfl
def Q1 (Z : State) (p0 : Int32) (wz : Int32) (h0 : Heap) (n0 : Nat) (v : Option Value) (h : Heap) (L : List Loc) : Prop := ∃ (s1 : Addr) (b1 : Addr) (kb : ClassId) (w1 : Int32), (v = some (.ref s1)) ∧ (Fr n0 L) ∧ (Keep h0 h []) ∧ (Exa Z h s1 "java/lang/String") ∧ (Fld Z h s1 "java/lang/String" "value" "[B" (.ref b1)) ∧ (Arv Z h b1 kb .byte (1 : Int32) [(.int w1)] (.int (0 : Int32))) ∧ (h0.size ≤ s1) ∧ (h0.size ≤ b1) ∧ (s1 ≠ b1)
theorem pd__C_Z : parseMethodDescriptor "(C)Z" = some ⟨[.char], some .boolean⟩ := by decide +kernel
theorem pd__C__B : parseMethodDescriptor "(C)[B" = some ⟨[.char], some (.array .byte)⟩ := by decide +kernel
theorem pd___BB_V : parseMethodDescriptor "([BB)V" = some ⟨[(.array .byte), .byte], none⟩ := by decide +kernel
abbrev rom_1 : Room := { frames := 2, cells := 2, slots := 5, locals := 27 }
set_option maxRecDepth 65536 in
set_option maxHeartbeats 40000000 in
theorem rm1 (l : Launch) (Z : State) (a0 : Array Value) (hw : ∀ d ∈ tables_1, d.before a0 Z = true) (ws : List Jvm.Cond) (p0 : Int32) (wz : Int32) (h0 : Heap) (n0 : Nat) (Z0 : n0 ≤ h0.size) (hsta : Sta Z h0 "java/lang/String" "COMPACT_STRINGS" "Z" (.int wz)) (hnz : ¬ wz = (0 : Int32)) (hch : ¬ (255 : Int32) < p0) :
    MetFree l (⟨"java/lang/String", "valueOf", "(C)Ljava/lang/String;"⟩ : MethodName) (head1 (Jvm.Cond.code (⟨"java/lang/String", "valueOf", "(C)Ljava/lang/String;"⟩ : MethodName) jdk_42_method_139_code 1 (some (.object "java/lang/String")) :: ws) rom_1) (fun a U => a = #[(.int p0)] ∧ Z.Warmed39 U.vm ∧ U.heap = h0) (fun _ _ _ _ _ => True) (fun _ U o U' => ∃ v L, o = .returned v ∧ Q1 Z p0 wz h0 n0 v U'.heap L ∧ FrameEnd U o U' L rom_1.cells rom_1.slots) := by
  refine MetFree.of_bodySF (plainFor_of_name pn_java_lang_String) hisR ?_
  intro p e s m args below meth c s₁ Bd hml0 hP hK
  obtain ⟨rfl, hZ, hh⟩ := hP
  have hx := Bd.exec
  have hby := Bd.bytes
  have hlk := Bd.notSynchronized
  have hml : c.maxLocals = 1 := hml0
  have hown : s.vm.findClass "java/lang/String" = some m.cls := findClass_of_methodNamed Bd.named
  have hnm := (name_of_methodNamed Bd.named Bd.method).1
  have X0 : Stand p l e rom_1 s m #[(.int p0)] below meth c s₁ [] 0 0 := Stand.of_body Bd
  have e0 : s₁.heap = h0 := by rw [← hh, Bd.state]; rfl
  have N0 := Fr.nil n0
  have K0 : Keep h0 h0 [] := Keep.refl _ _
  refine (?_ : OG p e below s (Q1 Z p0 wz h0 n0) rom_1.cells rom_1.slots _)
  rw [ef_1]
  obtain ⟨T1, X1, e1, st1⟩ := getS2 X0 hx hZ hown (host := "") (Or.inl (hw _ (List.mem_of_getElem? (i := 7) rfl))) Via.refl e0 hsta (g := (mkF m 0 #[.val (.int p0)] [])) rfl (hb hby d1_0)
  refine OG.step st1 ?_
  show OG _ _ _ _ _ _ _ (T1.setTop (mkF m 3 #[.val (.int p0)] [(.int wz)]))
  have s2 : ∀ tz, Steps p.tables e below (T1.setTop (mkF m 7 #[.val (.int p0)] [(.int p0)])) tz → Steps p.tables e below (T1.setTop (mkF m 3 #[.val (.int p0)] [(.int wz)])) tz := by
    intro tz kz
    refine XS.ifNo X1.here hx rfl (hb hby d1_3) rfl ((if0 _ _).trans (feq hnz).1) ?_
    show Steps p.tables e below (T1.setTop (mkF m 6 #[.val (.int p0)] [])) _
    refine XS.iloadN X1.here hx rfl (hb hby d1_6) rfl ?_
    exact kz
  refine OG.step s2 ?_
  obtain ⟨_, _, ⟨T3, L3, k3, n3⟩, -, X3, ⟨Lc3, hQ3, l3, y3, z3⟩, st3⟩ := Jvm.LawKit.callS X1 hx (y := (⟨"java/lang/StringLatin1", "canEncode", "(C)Z"⟩ : MethodName)) hown (mvT hZ (hw _ (List.mem_of_getElem? (i := 8) rfl))) (mvT hZ (hw _ (List.mem_of_getElem? (i := 9) rfl))) (mvT hZ (hw _ (List.mem_of_getElem? (i := 10) rfl))) (mvT hZ (hw _ (List.mem_of_getElem? (i := 11) rfl))) (by decide) (backOf (W := 0) (rm2 l Z a0 hw [] p0 h0 n0 (Nat.le_trans Z0 K0.1)) hZ (hw _ (List.mem_of_getElem? (i := 11) rfl)) (hw _ (List.mem_of_getElem? (i := 10) rfl)) (by decide) (by decide)) (g := (mkF m 7 #[.val (.int p0)] [(.int p0)])) rfl (by rw [hml]; rfl) (argsL := [(.int p0)]) (rest := []) (lenOf pd__C_Z rfl) rfl (by show 2 * 0 + _ ≤ _; exact Nat.le_of_eq rfl) (hb hby d1_7) (fun _ _ => ⟨rfl, e1, (by decide : 0 + 0 ≤ _), (by decide : 0 + 0 ≤ _)⟩)
  dsimp only [Pt.U, Pt.locs, Pt.cells, Pt.slots] at X3 l3 y3 z3 st3 hQ3
  subst l3 y3 z3
  obtain ⟨rfl, N3q, e3⟩ := hQ3
  have N3 := Fr.app N0 N3q
  refine OG.step st3 ?_
  obtain ⟨Lz4, X3, N3⟩ : ∃ Lz, Stand p l e rom_1 s m #[(.int p0)] below meth c T3 Lz 0 0 ∧ Fr n0 Lz := ⟨_, X3, N3⟩
  show OG _ _ _ _ _ _ _ (T3.setTop (mkF m 10 #[.val (.int p0)] [(.int (bI (¬ ((255 : Int32) < p0))))]))
  have s5 : ∀ tz, Steps p.tables e below (T3.setTop (mkF m 13 #[.val (.int p0)] [])) tz → Steps p.tables e below (T3.setTop (mkF m 10 #[.val (.int p0)] [(.int (bI (¬ ((255 : Int32) < p0))))])) tz := by
    intro tz kz
    refine XS.ifNo X3.here hx rfl (hb hby d1_10) rfl ((if0 _ _).trans (feq (bI_ne0 hch)).1) ?_
    exact kz
  refine OG.step s5 ?_
  obtain ⟨T6, h6, X6, e6, E6, A6, D6, -, st6⟩ := newO X3 hx hZ hown (hw _ (List.mem_of_getElem? (i := 12) rfl)) (hw _ (List.mem_of_getElem? (i := 13) rfl)) (hw _ (List.mem_of_getElem? (i := 5) rfl)) e3 (g := (mkF m 13 #[.val (.int p0)] [])) rfl (hb hby d1_13) (by decide) (by decide)
  obtain ⟨b6, g6⟩ : ∃ z, z = h0.size := ⟨_, rfl⟩
  rw [← g6] at A6 D6 st6
  have sz6 : h0.size ≤ b6 := Nat.le_trans K0.1 (Nat.le_of_eq g6.symm)
  have ge6 : n0 ≤ b6 := Nat.le_trans Z0 sz6
  refine OG.step st6 ?_
  have F6_value : Fld Z h6 b6 "java/lang/String" "value" "[B" .null := D6 (Or.inr (hw _ (List.mem_of_getElem? (i := 26) rfl))) (ty := (.array .byte)) (by decide)
  have F6_coder : Fld Z h6 b6 "java/lang/String" "coder" "B" (.int (0 : Int32)) := D6 (Or.inr (hw _ (List.mem_of_getElem? (i := 28) rfl))) (ty := .byte) (by decide)
  have K6 := K0.ext E6
  show OG _ _ _ _ _ _ _ (T6.setTop (mkF m 16 #[.val (.int p0)] [(.ref b6)]))
  have s7 : ∀ tz, Steps p.tables e below (T6.setTop (mkF m 18 #[.val (.int p0)] [(.int p0), (.ref b6), (.ref b6)])) tz → Steps p.tables e below (T6.setTop (mkF m 16 #[.val (.int p0)] [(.ref b6)])) tz := by
    intro tz kz
    refine XS.dup X6.here hx rfl (hb hby d1_16) rfl rfl ?_
    show Steps p.tables e below (T6.setTop (mkF m 17 #[.val (.int p0)] [(.ref b6), (.ref b6)])) _
    refine XS.iloadN X6.here hx rfl (hb hby d1_17) rfl ?_
    exact kz
  refine OG.step s7 ?_
  obtain ⟨_, _, ⟨T8, L8, k8, n8⟩, -, X8, ⟨Lc8, hQ8, l8, y8, z8⟩, st8⟩ := Jvm.LawKit.callS X6 hx (y := (⟨"java/lang/StringLatin1", "toBytes", "(C)[B"⟩ : MethodName)) hown (mvT hZ (hw _ (List.mem_of_getElem? (i := 14) rfl))) (mvT hZ (hw _ (List.mem_of_getElem? (i := 15) rfl))) (mvT hZ (hw _ (List.mem_of_getElem? (i := 10) rfl))) (mvT hZ (hw _ (List.mem_of_getElem? (i := 16) rfl))) (by decide) (backOf (W := 2) (rm3 l Z a0 hw [] p0 h6 n0 (Nat.le_trans Z0 K6.1)) hZ (hw _ (List.mem_of_getElem? (i := 16) rfl)) (hw _ (List.mem_of_getElem? (i := 10) rfl)) (by decide) (by decide)) (g := (mkF m 18 #[.val (.int p0)] [(.int p0), (.ref b6), (.ref b6)])) rfl (by rw [hml]; rfl) (argsL := [(.int p0)]) (rest := [(.ref b6), (.ref b6)]) (lenOf pd__C__B rfl) rfl (by show 2 * 0 + _ ≤ _; exact Nat.le_of_eq rfl) (hb hby d1_18) (fun _ _ => ⟨rfl, e6, (by decide : 1 + 1 ≤ _), (by decide : 4 + 1 ≤ _)⟩)
  dsimp only [Pt.U, Pt.locs, Pt.cells, Pt.slots] at X8 l8 y8 z8 st8 hQ8
  subst l8 y8 z8
  obtain ⟨b1_8, kb_8, w1_8, rfl, N8q, Kc8, p8_0, u8_0⟩ := hQ8
  have N8 := Fr.app N3 N8q
  refine OG.step st8 ?_
  have f9 := A6.keep Kc8
  have f10 := F6_value.keep Kc8 nin0
  have f11 := F6_coder.keep Kc8 nin0
  have K8 := K6.trans Kc8 all0
  obtain ⟨Lz12, X8, N8⟩ : ∃ Lz, Stand p l e rom_1 s m #[(.int p0)] below meth c T8 Lz 2 5 ∧ Fr n0 Lz := ⟨_, X8, N8⟩
  have sz8_b1_8 : h0.size ≤ b1_8 := Nat.le_trans K6.1 u8_0
  have ge8_b1_8 : n0 ≤ b1_8 := Nat.le_trans Z0 sz8_b1_8
  have ne8_b6_b1_8 : b6 ≠ b1_8 := Nat.ne_of_lt (Nat.lt_of_lt_of_le A6.lt u8_0)
  show OG _ _ _ _ _ _ _ (T8.setTop (mkF m 21 #[.val (.int p0)] [(.ref b1_8), (.ref b6), (.ref b6)]))
  have s13 : ∀ tz, Steps p.tables e below (T8.setTop (mkF m 22 #[.val (.int p0)] [(.int (0 : Int32)), (.ref b1_8), (.ref b6), (.ref b6)])) tz → Steps p.tables e below (T8.setTop (mkF m 21 #[.val (.int p0)] [(.ref b1_8), (.ref b6), (.ref b6)])) tz := by
    intro tz kz
    refine XS.iconst X8.here hx rfl (hb hby d1_21) ?_
    exact kz
  refine OG.step s13 ?_
  obtain ⟨_, _, ⟨T14, L14, k14, n14⟩, -, X14, ⟨Lc14, hQ14, l14, y14, z14⟩, st14⟩ := X8.specialBack hx (y := (⟨"java/lang/String", "<init>", "([BB)V"⟩ : MethodName)) rfl hown (mvT hZ (hw _ (List.mem_of_getElem? (i := 18) rfl))) (mvT hZ (hw _ (List.mem_of_getElem? (i := 19) rfl))) (mvT hZ (hw _ (List.mem_of_getElem? (i := 21) rfl))) (by decide) (backOf (W := 1) (rm4 l Z a0 hw [] b6 b1_8 .null (.int (0 : Int32)) T8.heap n0 (Nat.le_trans Z0 K8.1) f9 f10 f11 ge6) hZ (hw _ (List.mem_of_getElem? (i := 21) rfl)) (hw _ (List.mem_of_getElem? (i := 5) rfl)) (by decide) (by decide)) (g := (mkF m 22 #[.val (.int p0)] [(.int (0 : Int32)), (.ref b1_8), (.ref b6), (.ref b6)])) rfl (by rw [hml]; rfl) (Steps.refl _) (a := b6) (argsL := [(.ref b1_8), (.int (0 : Int32))]) (rest := [(.ref b6)]) (lenOf pd___BB_V rfl) rfl (by show 2 * 0 + _ ≤ _; exact Nat.le_of_eq rfl) (hb hby d1_22) (fun _ _ => ⟨rfl, rfl, (by decide : 2 + 0 ≤ _), (by decide : 5 + 0 ≤ _)⟩)
  dsimp only [Pt.U, Pt.locs, Pt.cells, Pt.slots] at X14 l14 y14 z14 st14 hQ14
  subst l14 y14 z14
  obtain ⟨rfl, N14q, Kc14, p14_0⟩ := hQ14
  have N14 := Fr.app N8 N14q
  refine OG.step (fun tz kz => st14.trans kz) ?_
  have f15 := f9.keep Kc14
  have f18 := p8_0.keep Kc14 (ninS (Ne.symm ne8_b6_b1_8) nin0)
  have K14 := K8.trans Kc14 (allS (Or.inr sz6) all0)
  obtain ⟨Lz19, X14, N14⟩ : ∃ Lz, Stand p l e rom_1 s m #[(.int p0)] below meth c T14 Lz 2 5 ∧ Fr n0 Lz := ⟨_, X14, N14⟩
  show OG _ _ _ _ _ _ _ (T14.setTop (mkF m 25 #[.val (.int p0)] [(.ref b6)]))
  exact OG.retR X14 hx hlk Bd.returns (by decide) (hb hby d1_25) rfl ⟨b6, b1_8, kb_8, w1_8, rfl, N14, K14, f15, p14_0, f18, sz6, sz8_b1_8, ne8_b6_b1_8⟩ (by decide) (by decide)
theorem d8_0 : decode jdk_31_method_11_code 0 = .ok (.aload_n 0, 1) := by decide +kernel
theorem d8_1 : decode jdk_31_method_11_code 1 = .ok (.ifnonnull 12, 3) := by decide +kernel
theorem d8_4 : decode jdk_31_method_11_code 4 = .ok (.new 84, 3) := by decide +kernel
theorem d8_7 : decode jdk_31_method_11_code 7 = .ok (.dup, 1) := by decide +kernel
theorem d8_8 : decode jdk_31_method_11_code 8 = .ok (.aload_n 1, 1) := by decide +kernel
theorem d8_9 : decode jdk_31_method_11_code 9 = .ok (.invokespecial 87, 3) := by decide +kernel
theorem d8_12 : decode jdk_31_method_11_code 12 = .ok (.athrow, 1) := by decide +kernel
theorem d8_13 : decode jdk_31_method_11_code 13 = .ok (.aload_n 0, 1) := by decide +kernel
theorem d8_14 : decode jdk_31_method_11_code 14 = .ok (.areturn, 1) := by decide +kernel
theorem pn_java_util_Objects : plainName "java/util/Objects" = true := by first | (simp [plainName, overriddenIn]; done) | decide +kernel
theorem ef_8 (m : MethodId) (x0 : Addr) (x1 : Addr) : entryFrame m #[(.ref x0), (.ref x1)] 2 = mkF m 0 #[.val (.ref x0), .val (.ref x1)] [] := by first | (simp [entryFrame, mkF, argsToLocals, Value.category]; done) | rfl
def Q8 (Z : State) (o0 : Addr) (o1 : Addr) (h0 : Heap) (n0 : Nat) (v : Option Value) (h : Heap) (L : List Loc) : Prop := (v = some (.ref o0)) ∧ (Fr n0 L) ∧ (h = h0)
abbrev rom_8 : Room := { frames := 0, cells := 0, slots := 0, locals := 0 }
set_option maxRecDepth 65536 in
set_option maxHeartbeats 40000000 in
theorem rm8 (l : Launch) (Z : State) (a0 : Array Value) (hw : ∀ d ∈ tables_1, d.before a0 Z = true) (ws : List Jvm.Cond) (o0 : Addr) (o1 : Addr) (h0 : Heap) (n0 : Nat) (Z0 : n0 ≤ h0.size) :
    MetFree l (⟨"java/util/Objects", "requireNonNull", "(Ljava/lang/Object;Ljava/lang/String;)Ljava/lang/Object;"⟩ : MethodName) (head1 (Jvm.Cond.code (⟨"java/util/Objects", "requireNonNull", "(Ljava/lang/Object;Ljava/lang/String;)Ljava/lang/Object;"⟩ : MethodName) jdk_31_method_11_code 2 (some (.object "java/lang/Object")) :: ws) rom_8) (fun a U => a = #[(.ref o0), (.ref o1)] ∧ Z.Warmed39 U.vm ∧ U.heap = h0) (fun _ _ _ _ _ => True) (fun _ U o U' => ∃ v L, o = .returned v ∧ Q8 Z o0 o1 h0 n0 v U'.heap L ∧ FrameEnd U o U' L rom_8.cells rom_8.slots) := by
  refine MetFree.of_bodySF (plainFor_of_name pn_java_util_Objects) hisR ?_
  intro p e s m args below meth c s₁ Bd hml0 hP hK
  obtain ⟨rfl, hZ, hh⟩ := hP
  have hx := Bd.exec
  have hby := Bd.bytes
  have hlk := Bd.notSynchronized
  have hml : c.maxLocals = 2 := hml0
  have hown : s.vm.findClass "java/util/Objects" = some m.cls := findClass_of_methodNamed Bd.named
  have hnm := (name_of_methodNamed Bd.named Bd.method).1
  have X0 : Stand p l e rom_8 s m #[(.ref o0), (.ref o1)] below meth c s₁ [] 0 0 := Stand.of_body Bd
  have e0 : s₁.heap = h0 := by rw [← hh, Bd.state]; rfl
  have N0 := Fr.nil n0
  have K0 : Keep h0 h0 [] := Keep.refl _ _
  refine (?_ : OG p e below s (Q8 Z o0 o1 h0 n0) rom_8.cells rom_8.slots _)
  rw [ef_8]
  have s1 : ∀ tz, Steps p.tables e below (s₁.setTop (mkF m 14 #[.val (.ref o0), .val (.ref o1)] [(.ref o0)])) tz → Steps p.tables e below (s₁.setTop (mkF m 0 #[.val (.ref o0), .val (.ref o1)] [])) tz := by
    intro tz kz
    refine XS.aloadN X0.here hx rfl (hb hby d8_0) rfl rfl ?_
    show Steps p.tables e below (s₁.setTop (mkF m 1 #[.val (.ref o0), .val (.ref o1)] [(.ref o0)])) _
    refine XS.ifnonnullYes X0.here hx rfl (pc0 := 1) (pc' := 13) rfl (hb hby d8_1) rfl (by decide) (by decide) ?_
    show Steps p.tables e below (s₁.setTop (mkF m 13 #[.val (.ref o0), .val (.ref o1)] [])) _
    refine XS.aloadN X0.here hx rfl (hb hby d8_13) rfl rfl ?_
    exact kz
  refine OG.step s1 ?_
  exact OG.retR X0 hx hlk Bd.returns (by decide) (hb hby d8_14) e0 ⟨rfl, N0, rfl⟩ (by decide) (by decide)
theorem d9_0 : decode jdk_42_method_55_code 0 = .ok (.aload_n 0, 1) := by decide +kernel
theorem d9_1 : decode jdk_42_method_55_code 1 = .ok (.getfield 9, 3) := by decide +kernel
theorem d9_4 : decode jdk_42_method_55_code 4 = .ok (.arraylength, 1) := by decide +kernel
theorem d9_5 : decode jdk_42_method_55_code 5 = .ok (.ifCond .ne 7, 3) := by decide +kernel
theorem d9_8 : decode jdk_42_method_55_code 8 = .ok (.iconst 1, 1) := by decide +kernel
theorem d9_9 : decode jdk_42_method_55_code 9 = .ok (.goto 4, 3) := by decide +kernel
theorem d9_12 : decode jdk_42_method_55_code 12 = .ok (.iconst 0, 1) := by decide +kernel
theorem d9_13 : decode jdk_42_method_55_code 13 = .ok (.ireturn, 1) := by decide +kernel
theorem ef_9 (m : MethodId) (x0 : Addr) : entryFrame m #[(.ref x0)] 1 = mkF m 0 #[.val (.ref x0)] [] := by first | (simp [entryFrame, mkF, argsToLocals, Value.category]; done) | rfl
def Q9 (Z : State) (a1 : Addr) (b1 : Addr) (kb : ClassId) (w1 : Int32) (h0 : Heap) (n0 : Nat) (v : Option Value) (h : Heap) (L : List Loc) : Prop := (v = some (.int (0 : Int32))) ∧ (Fr n0 L) ∧ (h = h0)
abbrev rom_9 : Room := { frames := 0, cells := 0, slots := 0, locals := 0 }
set_option maxRecDepth 65536 in
set_option maxHeartbeats 40000000 in
theorem rm9 (l : Launch) (Z : State) (a0 : Array Value) (hw : ∀ d ∈ tables_1, d.before a0 Z = true) (ws : List Jvm.Cond) (a1 : Addr) (b1 : Addr) (kb : ClassId) (w1 : Int32) (h0 : Heap) (n0 : Nat) (Z0 : n0 ≤ h0.size) (F0_a1_value : Fld Z h0 a1 "java/lang/String" "value" "[B" (.ref b1)) (F1_b1 : Arv Z h0 b1 kb .byte (1 : Int32) [(.int w1)] (.int (0 : Int32))) :
    MetFree l (⟨"java/lang/String", "isEmpty", "()Z"⟩ : MethodName) (head1 (Jvm.Cond.code (⟨"java/lang/String", "isEmpty", "()Z"⟩ : MethodName) jdk_42_method_55_code 1 (some .boolean) :: ws) rom_9) (fun a U => a = #[(.ref a1)] ∧ Z.Warmed39 U.vm ∧ U.heap = h0) (fun _ _ _ _ _ => True) (fun _ U o U' => ∃ v L, o = .returned v ∧ Q9 Z a1 b1 kb w1 h0 n0 v U'.heap L ∧ FrameEnd U o U' L rom_9.cells rom_9.slots) := by
  refine MetFree.of_bodySF (plainFor_of_name pn_java_lang_String) hisR ?_
  intro p e s m args below meth c s₁ Bd hml0 hP hK
  obtain ⟨rfl, hZ, hh⟩ := hP
  have hx := Bd.exec
  have hby := Bd.bytes
  have hlk := Bd.notSynchronized
  have hml : c.maxLocals = 1 := hml0
  have hown : s.vm.findClass "java/lang/String" = some m.cls := findClass_of_methodNamed Bd.named
  have hnm := (name_of_methodNamed Bd.named Bd.method).1
  have X0 : Stand p l e rom_9 s m #[(.ref a1)] below meth c s₁ [] 0 0 := Stand.of_body Bd
  have e0 : s₁.heap = h0 := by rw [← hh, Bd.state]; rfl
  have N0 := Fr.nil n0
  have K0 : Keep h0 h0 [] := Keep.refl _ _
  refine (?_ : OG p e below s (Q9 Z a1 b1 kb w1 h0 n0) rom_9.cells rom_9.slots _)
  rw [ef_9]
  have s1 : ∀ tz, Steps p.tables e below (s₁.setTop (mkF m 1 #[.val (.ref a1)] [(.ref a1)])) tz → Steps p.tables e below (s₁.setTop (mkF m 0 #[.val (.ref a1)] [])) tz := by
    intro tz kz
    refine XS.aloadN X0.here hx rfl (hb hby d9_0) rfl rfl ?_
    exact kz
  refine OG.step s1 ?_
  obtain ⟨T2, X2, e2, st2⟩ := getF X0 hx hZ hown (host := "") (Or.inl (hw _ (List.mem_of_getElem? (i := 25) rfl))) Via.refl e0 F0_a1_value (g := (mkF m 1 #[.val (.ref a1)] [(.ref a1)])) rfl rfl (hb hby d9_1)
  refine OG.step st2 ?_
  show OG _ _ _ _ _ _ _ (T2.setTop (mkF m 4 #[.val (.ref a1)] [(.ref b1)]))
  have av3 := F1_b1
  obtain ⟨cl3, Ar3, qa_3, Sa_3, Nn_3, Ha_3, Ga_3⟩ := av3
  refine OG.step (X2.arraylength hx (by rw [e2]; exact Ar3.1) (State.isArrayOf_alike hZ.alike Ar3.2.1) (g := (mkF m 4 #[.val (.ref a1)] [(.ref b1)])) rfl rfl (hb hby d9_4)) ?_
  rw [len_of Sa_3 Nn_3]
  show OG _ _ _ _ _ _ _ (T2.setTop (mkF m 5 #[.val (.ref a1)] [(.int (1 : Int32))]))
  have s4 : ∀ tz, Steps p.tables e below (T2.setTop (mkF m 13 #[.val (.ref a1)] [(.int (0 : Int32))])) tz → Steps p.tables e below (T2.setTop (mkF m 5 #[.val (.ref a1)] [(.int (1 : Int32))])) tz := by
    intro tz kz
    refine XS.ifYes X2.here hx rfl (pc0 := 5) (pc' := 12) rfl (hb hby d9_5) rfl ((if0 _ _).trans (feq (by decide)).2) (by decide) (by decide) ?_
    show Steps p.tables e below (T2.setTop (mkF m 12 #[.val (.ref a1)] [])) _
    refine XS.iconst X2.here hx rfl (hb hby d9_12) ?_
    exact kz
  refine OG.step s4 ?_
  exact OG.retZ X2 hx hlk Bd.returns (hb hby d9_13) (nar_0) e2 ⟨rfl, N0, rfl⟩ (by decide) (by decide)
theorem d7_0 : decode jdk_30_method_1_code 0 = .ok (.aload_n 0, 1) := by decide +kernel
theorem d7_1 : decode jdk_30_method_1_code 1 = .ok (.invokespecial 1, 3) := by decide +kernel
theorem d7_4 : decode jdk_30_method_1_code 4 = .ok (.return_, 1) := by decide +kernel
theorem pn_java_lang_Record : plainName "java/lang/Record" = true := by first | (simp [plainName, overriddenIn]; done) | decide +kernel
theorem ef_7 (m : MethodId) (x0 : Addr) : entryFrame m #[(.ref x0)] 1 = mkF m 0 #[.val (.ref x0)] [] := by first | (simp [entryFrame, mkF, argsToLocals, Value.category]; done) | rfl
def Q7 (Z : State) (o0 : Addr) (h0 : Heap) (n0 : Nat) (v : Option Value) (h : Heap) (L : List Loc) : Prop := (v = none) ∧ (Fr n0 L) ∧ (h = h0)
abbrev rom_7 : Room := { frames := 1, cells := 0, slots := 0, locals := 12 }
set_option maxRecDepth 65536 in
set_option maxHeartbeats 40000000 in
theorem rm7 (l : Launch) (Z : State) (a0 : Array Value) (hw : ∀ d ∈ tables_1, d.before a0 Z = true) (ws : List Jvm.Cond) (o0 : Addr) (h0 : Heap) (n0 : Nat) (Z0 : n0 ≤ h0.size) :
    MetFree l (⟨"java/lang/Record", "<init>", "()V"⟩ : MethodName) (head1 (Jvm.Cond.code (⟨"java/lang/Record", "<init>", "()V"⟩ : MethodName) jdk_30_method_1_code 1 none :: ws) rom_7) (fun a U => a = #[(.ref o0)] ∧ Z.Warmed39 U.vm ∧ U.heap = h0) (fun _ _ _ _ _ => True) (fun _ U o U' => ∃ v L, o = .returned v ∧ Q7 Z o0 h0 n0 v U'.heap L ∧ FrameEnd U o U' L rom_7.cells rom_7.slots) := by
  refine MetFree.of_bodySF (plainFor_of_name pn_java_lang_Record) hisR ?_
  intro p e s m args below meth c s₁ Bd hml0 hP hK
  obtain ⟨rfl, hZ, hh⟩ := hP
  have hx := Bd.exec
  have hby := Bd.bytes
  have hlk := Bd.notSynchronized
  have hml : c.maxLocals = 1 := hml0
  have hown : s.vm.findClass "java/lang/Record" = some m.cls := findClass_of_methodNamed Bd.named
  have hnm := (name_of_methodNamed Bd.named Bd.method).1
  have X0 : Stand p l e rom_7 s m #[(.ref o0)] below meth c s₁ [] 0 0 := Stand.of_body Bd
  have e0 : s₁.heap = h0 := by rw [← hh, Bd.state]; rfl
  have N0 := Fr.nil n0
  have K0 : Keep h0 h0 [] := Keep.refl _ _
  refine (?_ : OG p e below s (Q7 Z o0 h0 n0) rom_7.cells rom_7.slots _)
  rw [ef_7]
  have s1 : ∀ tz, Steps p.tables e below (s₁.setTop (mkF m 1 #[.val (.ref o0)] [(.ref o0)])) tz → Steps p.tables e below (s₁.setTop (mkF m 0 #[.val (.ref o0)] [])) tz := by
    intro tz kz
    refine XS.aloadN X0.here hx rfl (hb hby d7_0) rfl rfl ?_
    exact kz
  refine OG.step s1 ?_
  obtain ⟨T2, X2, e2, st2⟩ := initO X0 hx hZ hown (hw _ (List.mem_of_getElem? (i := 40) rfl)) (hw _ (List.mem_of_getElem? (i := 23) rfl)) (hw _ (List.mem_of_getElem? (i := 24) rfl)) e0 (g := (mkF m 1 #[.val (.ref o0)] [(.ref o0)])) rfl (by rw [hml]; rfl) rfl (hb hby d7_1) (by decide) (W := 0) (by show 2 * 0 + _ ≤ _; exact Nat.le_of_eq rfl) (by decide)
  refine OG.step st2 ?_
  show OG _ _ _ _ _ _ _ (T2.setTop (mkF m 4 #[.val (.ref o0)] []))
  exact OG.retV X2 hx hlk Bd.returns (hb hby d7_4) e2 ⟨rfl, N0, rfl⟩ (by decide) (by decide)
theorem d6_0 : decode prog_32_method_1_code 0 = .ok (.aload_n 0, 1) := by decide +kernel
theorem d6_1 : decode prog_32_method_1_code 1 = .ok (.invokespecial 1, 3) := by decide +kernel
theorem d6_4 : decode prog_32_method_1_code 4 = .ok (.aload_n 1, 1) := by decide +kernel
theorem d6_5 : decode prog_32_method_1_code 5 = .ok (.ldc 7, 2) := by decide +kernel
theorem d6_7 : decode prog_32_method_1_code 7 = .ok (.invokestatic 9, 3) := by decide +kernel
theorem d6_10 : decode prog_32_method_1_code 10 = .ok (.pop, 1) := by decide +kernel
theorem d6_11 : decode prog_32_method_1_code 11 = .ok (.aload_n 2, 1) := by decide +kernel
theorem d6_12 : decode prog_32_method_1_code 12 = .ok (.ldc 15, 2) := by decide +kernel
theorem d6_14 : decode prog_32_method_1_code 14 = .ok (.invokestatic 9, 3) := by decide +kernel
theorem d6_17 : decode prog_32_method_1_code 17 = .ok (.pop, 1) := by decide +kernel
theorem d6_18 : decode prog_32_method_1_code 18 = .ok (.aload_n 3, 1) := by decide +kernel
theorem d6_19 : decode prog_32_method_1_code 19 = .ok (.ldc 17, 2) := by decide +kernel
theorem d6_21 : decode prog_32_method_1_code 21 = .ok (.invokestatic 9, 3) := by decide +kernel
theorem d6_24 : decode prog_32_method_1_code 24 = .ok (.pop, 1) := by decide +kernel
theorem d6_25 : decode prog_32_method_1_code 25 = .ok (.aload_n 1, 1) := by decide +kernel
theorem d6_26 : decode prog_32_method_1_code 26 = .ok (.invokevirtual 19, 3) := by decide +kernel
theorem d6_29 : decode prog_32_method_1_code 29 = .ok (.ifCond .eq 13, 3) := by decide +kernel
theorem d6_32 : decode prog_32_method_1_code 32 = .ok (.new 25, 3) := by decide +kernel
theorem d6_35 : decode prog_32_method_1_code 35 = .ok (.dup, 1) := by decide +kernel
theorem d6_36 : decode prog_32_method_1_code 36 = .ok (.ldc 27, 2) := by decide +kernel
theorem d6_38 : decode prog_32_method_1_code 38 = .ok (.invokespecial 29, 3) := by decide +kernel
theorem d6_41 : decode prog_32_method_1_code 41 = .ok (.athrow, 1) := by decide +kernel
theorem d6_42 : decode prog_32_method_1_code 42 = .ok (.aload_n 0, 1) := by decide +kernel
theorem d6_43 : decode prog_32_method_1_code 43 = .ok (.aload_n 1, 1) := by decide +kernel
theorem d6_44 : decode prog_32_method_1_code 44 = .ok (.putfield 32, 3) := by decide +kernel
theorem d6_47 : decode prog_32_method_1_code 47 = .ok (.aload_n 0, 1) := by decide +kernel
theorem d6_48 : decode prog_32_method_1_code 48 = .ok (.aload_n 2, 1) := by decide +kernel
theorem d6_49 : decode prog_32_method_1_code 49 = .ok (.putfield 37, 3) := by decide +kernel
theorem d6_52 : decode prog_32_method_1_code 52 = .ok (.aload_n 0, 1) := by decide +kernel
theorem d6_53 : decode prog_32_method_1_code 53 = .ok (.aload_n 3, 1) := by decide +kernel
theorem d6_54 : decode prog_32_method_1_code 54 = .ok (.putfield 39, 3) := by decide +kernel
theorem d6_57 : decode prog_32_method_1_code 57 = .ok (.return_, 1) := by decide +kernel
theorem pn_com_example_mergeward_mergeward_core_Identifier : plainName "com/example/mergeward/mergeward/core/Identifier" = true := by first | (simp [plainName, overriddenIn]; done) | decide +kernel
theorem ef_6 (m : MethodId) (x0 : Addr) (x1 : Addr) (x2 : Addr) (x3 : Addr) : entryFrame m #[(.ref x0), (.ref x1), (.ref x2), (.ref x3)] 4 = mkF m 0 #[.val (.ref x0), .val (.ref x1), .val (.ref x2), .val (.ref x3)] [] := by first | (simp [entryFrame, mkF, argsToLocals, Value.category]; done) | rfl
def Q6 (Z : State) (a1 : Addr) (o1 : Addr) (o2 : Addr) (o3 : Addr) (u0 : Value) (u1 : Value) (u2 : Value) (b1 : Addr) (kb : ClassId) (w1 : Int32) (h0 : Heap) (n0 : Nat) (v : Option Value) (h : Heap) (L : List Loc) : Prop := (v = none) ∧ (Fr n0 L) ∧ (Keep h0 h [a1])
theorem pd___V : parseMethodDescriptor "()V" = some ⟨[], none⟩ := by decide +kernel
theorem pd__Ljava_lang_Object_Ljava_lang_String__Ljava_lang_Object_ : parseMethodDescriptor "(Ljava/lang/Object;Ljava/lang/String;)Ljava/lang/Object;" = some ⟨[(.object "java/lang/Object"), (.object "java/lang/String")], some (.object "java/lang/Object")⟩ := by decide +kernel
theorem pd___Z : parseMethodDescriptor "()Z" = some ⟨[], some .boolean⟩ := by decide +kernel
abbrev rom_6 : Room := { frames := 2, cells := 6, slots := 136, locals := 24 }
set_option maxRecDepth 65536 in
set_option maxHeartbeats 40000000 in
theorem rm6 (l : Launch) (Z : State) (a0 : Array Value) (hw : ∀ d ∈ tables_1, d.before a0 Z = true) (ws : List Jvm.Cond) (a1 : Addr) (o1 : Addr) (o2 : Addr) (o3 : Addr) (u0 : Value) (u1 : Value) (u2 : Value) (b1 : Addr) (kb : ClassId) (w1 : Int32) (h0 : Heap) (n0 : Nat) (Z0 : n0 ≤ h0.size) (F0_a1 : Exa Z h0 a1 "com/example/mergeward/mergeward/core/Identifier") (F1_a1_value : Fld Z h0 a1 "com/example/mergeward/mergeward/core/Identifier" "value" "Ljava/lang/String;" u0) (F2_a1_assigningAuthority : Fld Z h0 a1 "com/example/mergeward/mergeward/core/Identifier" "assigningAuthority" "Ljava/lang/String;" u1) (F3_a1_typeCode : Fld Z h0 a1 "com/example/mergeward/mergeward/core/Identifier" "typeCode" "Ljava/lang/String;" u2) (F4_o1 : Exa Z h0 o1 "java/lang/String") (F5_o1_value : Fld Z h0 o1 "java/lang/String" "value" "[B" (.ref b1)) (F6_b1 : Arv Z h0 b1 kb .byte (1 : Int32) [(.int w1)] (.int (0 : Int32))) (ne_a1_o1 : a1 ≠ o1) (ne_a1_b1 : a1 ≠ b1) (g_a1 : n0 ≤ a1) :
    MetFree l (⟨"com/example/mergeward/mergeward/core/Identifier", "<init>", "(Ljava/lang/String;Ljava/lang/String;Ljava/lang/String;)V"⟩ : MethodName) (head1 (Jvm.Cond.code (⟨"com/example/mergeward/mergeward/core/Identifier", "<init>", "(Ljava/lang/String;Ljava/lang/String;Ljava/lang/String;)V"⟩ : MethodName) prog_32_method_1_code 4 none :: ws) rom_6) (fun a U => a = #[(.ref a1), (.ref o1), (.ref o2), (.ref o3)] ∧ Z.Warmed39 U.vm ∧ U.heap = h0) (fun _ _ _ _ _ => True) (fun _ U o U' => ∃ v L, o = .returned v ∧ Q6 Z a1 o1 o2 o3 u0 u1 u2 b1 kb w1 h0 n0 v U'.heap L ∧ ReturnedEndW U o U' L rom_6.cells rom_6.slots) := by
  refine MetFree.of_bodySF (plainFor_of_name pn_com_example_mergeward_mergeward_core_Identifier) hisR ?_
  intro p e s m args below meth c s₁ Bd hml0 hP hK
  obtain ⟨rfl, hZ, hh⟩ := hP
  have hx := Bd.exec
  have hby := Bd.bytes
  have hlk := Bd.notSynchronized
  have hml : c.maxLocals = 4 := hml0
  have hown : s.vm.findClass "com/example/mergeward/mergeward/core/Identifier" = some m.cls := findClass_of_methodNamed Bd.named
  have hnm := (name_of_methodNamed Bd.named Bd.method).1
  have X0s : Stand p l e rom_6 s m #[(.ref a1), (.ref o1), (.ref o2), (.ref o3)] below meth c s₁ [] 0 0 := Stand.of_body Bd
  have X0 : Stand p l e rom_6 (s.setVm s.vm) m #[(.ref a1), (.ref o1), (.ref o2), (.ref o3)] below meth c s₁ [] 0 0 := X0s
  have hS0 : s.Since s.vm 0 := (State.WarmedH.refl s).since 0
  have hk0 : 0 ≤ h0.size := Nat.zero_le _
  have wS := own_wS hw
  have e0 : s₁.heap = h0 := by rw [← hh, Bd.state]; rfl
  have N0 := Fr.nil n0
  have K0 : Keep h0 h0 [a1] := Keep.refl _ _
  refine (?_ : OGW p e below s (Q6 Z a1 o1 o2 o3 u0 u1 u2 b1 kb w1 h0 n0) rom_6.cells rom_6.slots _)
  rw [ef_6]
  have s1 : ∀ tz, Steps p.tables e below (s₁.setTop (mkF m 1 #[.val (.ref a1), .val (.ref o1), .val (.ref o2), .val (.ref o3)] [(.ref a1)])) tz → Steps p.tables e below (s₁.setTop (mkF m 0 #[.val (.ref a1), .val (.ref o1), .val (.ref o2), .val (.ref o3)] [])) tz := by
    intro tz kz
    refine XS.aloadN X0.here hx rfl (hb hby d6_0) rfl rfl ?_
    exact kz
  refine OGW.step s1 ?_
  obtain ⟨_, _, ⟨T2, L2, k2, n2⟩, -, X2, ⟨Lc2, hQ2, l2, y2, z2⟩, st2⟩ := X0.specialBack hx (y := (⟨"java/lang/Record", "<init>", "()V"⟩ : MethodName)) rfl hown (mvT hZ (hw _ (List.mem_of_getElem? (i := 35) rfl))) (mvT hZ (hw _ (List.mem_of_getElem? (i := 36) rfl))) (mvT hZ (hw _ (List.mem_of_getElem? (i := 39) rfl))) (by decide) (backOf (W := 0) (rm7 l Z a0 hw [] a1 h0 n0 (Nat.le_trans Z0 K0.1)) hZ (hw _ (List.mem_of_getElem? (i := 39) rfl)) (hw _ (List.mem_of_getElem? (i := 38) rfl)) (by decide) (by decide)) (g := (mkF m 1 #[.val (.ref a1), .val (.ref o1), .val (.ref o2), .val (.ref o3)] [(.ref a1)])) rfl (by rw [hml]; rfl) (Steps.refl _) (a := a1) (argsL := []) (rest := []) (lenOf pd___V rfl) rfl (by show 2 * 0 + _ ≤ _; exact Nat.le_of_eq rfl) (hb hby d6_1) (fun _ _ => ⟨rfl, e0, (by decide : 0 + 0 ≤ _), (by decide : 0 + 0 ≤ _)⟩)
  dsimp only [Pt.U, Pt.locs, Pt.cells, Pt.slots] at X2 l2 y2 z2 st2 hQ2
  subst l2 y2 z2
  obtain ⟨rfl, N2q, e2⟩ := hQ2
  have N2 := Fr.app N0 N2q
  refine OGW.step (fun tz kz => st2.trans kz) ?_
  obtain ⟨Lz3, X2, N2⟩ : ∃ Lz, Stand p l e rom_6 (s.setVm s.vm) m #[(.ref a1), (.ref o1), (.ref o2), (.ref o3)] below meth c T2 Lz 0 0 ∧ Fr n0 Lz := ⟨_, X2, N2⟩
  show OGW _ _ _ _ _ _ _ (T2.setTop (mkF m 4 #[.val (.ref a1), .val (.ref o1), .val (.ref o2), .val (.ref o3)] []))
  have s4 : ∀ tz, Steps p.tables e below (T2.setTop (mkF m 5 #[.val (.ref a1), .val (.ref o1), .val (.ref o2), .val (.ref o3)] [(.ref o1)])) tz → Steps p.tables e below (T2.setTop (mkF m 4 #[.val (.ref a1), .val (.ref o1), .val (.ref o2), .val (.ref o3)] [])) tz := by
    intro tz kz
    refine XS.aloadN X2.here hx rfl (hb hby d6_4) rfl rfl ?_
    exact kz
  refine OGW.step s4 ?_
  obtain ⟨a5, T5, h5, k5, X5, e5, E5, hS5, hk5, hZ, hown, st5⟩ := ldcS X2 hx hZ hown (hw _ (List.mem_of_getElem? (i := 41) rfl)) wS e2 hS0 hk0 (g := (mkF m 5 #[.val (.ref a1), .val (.ref o1), .val (.ref o2), .val (.ref o3)] [(.ref o1)])) rfl (hb hby d6_5) (n := 20) (by first | decide | decide +kernel) (by decide) (by decide) (by decide)
  refine OGW.step st5 ?_
  have f6 := F0_a1.ext E5
  have f7 := F1_a1_value.ext E5
  have f8 := F2_a1_assigningAuthority.ext E5
  have f9 := F3_a1_typeCode.ext E5
  have f10 := F4_o1.ext E5
  have f11 := F5_o1_value.ext E5
  have f12 := F6_b1.ext E5
  have K5 := K0.ext E5
  show OGW _ _ _ _ _ _ _ (T5.setTop (mkF m 7 #[.val (.ref a1), .val (.ref o1), .val (.ref o2), .val (.ref o3)] [(.ref a5), (.ref o1)]))
  obtain ⟨_, _, ⟨T13, L13, k13, n13⟩, -, X13, ⟨Lc13, hQ13, l13, y13, z13⟩, st13⟩ := Jvm.LawKit.callS X5 hx (y := (⟨"java/util/Objects", "requireNonNull", "(Ljava/lang/Object;Ljava/lang/String;)Ljava/lang/Object;"⟩ : MethodName)) hown (mvT hZ (hw _ (List.mem_of_getElem? (i := 42) rfl))) (mvT hZ (hw _ (List.mem_of_getElem? (i := 43) rfl))) (mvT hZ (hw _ (List.mem_of_getElem? (i := 44) rfl))) (mvT hZ (hw _ (List.mem_of_getElem? (i := 45) rfl))) (by decide) (backOf (W := 0) (rm8 l Z a0 hw [] o1 a5 h5 n0 (Nat.le_trans Z0 K5.1)) hZ (hw _ (List.mem_of_getElem? (i := 45) rfl)) (hw _ (List.mem_of_getElem? (i := 44) rfl)) (by decide) (by decide)) (g := (mkF m 7 #[.val (.ref a1), .val (.ref o1), .val (.ref o2), .val (.ref o3)] [(.ref a5), (.ref o1)])) rfl (by rw [hml]; rfl) (argsL := [(.ref o1), (.ref a5)]) (rest := []) (lenOf pd__Ljava_lang_Object_Ljava_lang_String__Ljava_lang_Object_ rfl) rfl (by show 2 * 0 + _ ≤ _; exact Nat.le_of_eq rfl) (hb hby d6_7) (fun _ _ => ⟨rfl, e5, (by decide : 2 + 0 ≤ _), (by decide : 24 + 0 ≤ _)⟩)
  dsimp only [Pt.U, Pt.locs, Pt.cells, Pt.slots] at X13 l13 y13 z13 st13 hQ13
  subst l13 y13 z13
  obtain ⟨rfl, N13q, e13⟩ := hQ13
  have N13 := Fr.app N2 N13q
  refine OGW.step st13 ?_
  obtain ⟨Lz14, X13, N13⟩ : ∃ Lz, Stand p l e rom_6 (s.setVm T5.vm) m #[(.ref a1), (.ref o1), (.ref o2), (.ref o3)] below meth c T13 Lz 2 24 ∧ Fr n0 Lz := ⟨_, X13, N13⟩
  show OGW _ _ _ _ _ _ _ (T13.setTop (mkF m 10 #[.val (.ref a1), .val (.ref o1), .val (.ref o2), .val (.ref o3)] [(.ref o1)]))
  have s15 : ∀ tz, Steps p.tables e below (T13.setTop (mkF m 12 #[.val (.ref a1), .val (.ref o1), .val (.ref o2), .val (.ref o3)] [(.ref o2)])) tz → Steps p.tables e below (T13.setTop (mkF m 10 #[.val (.ref a1), .val (.ref o1), .val (.ref o2), .val (.ref o3)] [(.ref o1)])) tz := by
    intro tz kz
    refine XS.pop X13.here hx rfl (hb hby d6_10) rfl rfl ?_
    show Steps p.tables e below (T13.setTop (mkF m 11 #[.val (.ref a1), .val (.ref o1), .val (.ref o2), .val (.ref o3)] [])) _
    refine XS.aloadN X13.here hx rfl (hb hby d6_11) rfl rfl ?_
    exact kz
  refine OGW.step s15 ?_
  obtain ⟨a16, T16, h16, k16, X16, e16, E16, hS16, hk16, hZ, hown, st16⟩ := ldcS X13 hx hZ hown (hw _ (List.mem_of_getElem? (i := 46) rfl)) wS e13 hS5 hk5 (g := (mkF m 12 #[.val (.ref a1), .val (.ref o1), .val (.ref o2), .val (.ref o3)] [(.ref o2)])) rfl (hb hby d6_12) (n := 72) (by first | decide | decide +kernel) (by decide) (by decide) (by decide)
  refine OGW.step st16 ?_
  have f17 := f6.ext E16
  have f18 := f7.ext E16
  have f19 := f8.ext E16
  have f20 := f9.ext E16
  have f21 := f10.ext E16
  have f22 := f11.ext E16
  have f23 := f12.ext E16
  have K16 := K5.ext E16
  show OGW _ _ _ _ _ _ _ (T16.setTop (mkF m 14 #[.val (.ref a1), .val (.ref o1), .val (.ref o2), .val (.ref o3)] [(.ref a16), (.ref o2)]))
  obtain ⟨_, _, ⟨T24, L24, k24, n24⟩, -, X24, ⟨Lc24, hQ24, l24, y24, z24⟩, st24⟩ := Jvm.LawKit.callS X16 hx (y := (⟨"java/util/Objects", "requireNonNull", "(Ljava/lang/Object;Ljava/lang/String;)Ljava/lang/Object;"⟩ : MethodName)) hown (mvT hZ (hw _ (List.mem_of_getElem? (i := 42) rfl))) (mvT hZ (hw _ (List.mem_of_getElem? (i := 43) rfl))) (mvT hZ (hw _ (List.mem_of_getElem? (i := 44) rfl))) (mvT hZ (hw _ (List.mem_of_getElem? (i := 45) rfl))) (by decide) (backOf (W := 0) (rm8 l Z a0 hw [] o2 a16 h16 n0 (Nat.le_trans Z0 K16.1)) hZ (hw _ (List.mem_of_getElem? (i := 45) rfl)) (hw _ (List.mem_of_getElem? (i := 44) rfl)) (by decide) (by decide)) (g := (mkF m 14 #[.val (.ref a1), .val (.ref o1), .val (.ref o2), .val (.ref o3)] [(.ref a16), (.ref o2)])) rfl (by rw [hml]; rfl) (argsL := [(.ref o2), (.ref a16)]) (rest := []) (lenOf pd__Ljava_lang_Object_Ljava_lang_String__Ljava_lang_Object_ rfl) rfl (by show 2 * 0 + _ ≤ _; exact Nat.le_of_eq rfl) (hb hby d6_14) (fun _ _ => ⟨rfl, e16, (by decide : 4 + 0 ≤ _), (by decide : 100 + 0 ≤ _)⟩)
  dsimp only [Pt.U, Pt.locs, Pt.cells, Pt.slots] at X24 l24 y24 z24 st24 hQ24
  subst l24 y24 z24
  obtain ⟨rfl, N24q, e24⟩ := hQ24
  have N24 := Fr.app N13 N24q
  refine OGW.step st24 ?_
  obtain ⟨Lz25, X24, N24⟩ : ∃ Lz, Stand p l e rom_6 (s.setVm T16.vm) m #[(.ref a1), (.ref o1), (.ref o2), (.ref o3)] below meth c T24 Lz 4 100 ∧ Fr n0 Lz := ⟨_, X24, N24⟩
  show OGW _ _ _ _ _ _ _ (T24.setTop (mkF m 17 #[.val (.ref a1), .val (.ref o1), .val (.ref o2), .val (.ref o3)] [(.ref o2)]))
  have s26 : ∀ tz, Steps p.tables e below (T24.setTop (mkF m 19 #[.val (.ref a1), .val (.ref o1), .val (.ref o2), .val (.ref o3)] [(.ref o3)])) tz → Steps p.tables e below (T24.setTop (mkF m 17 #[.val (.ref a1), .val (.ref o1), .val (.ref o2), .val (.ref o3)] [(.ref o2)])) tz := by
    intro tz kz
    refine XS.pop X24.here hx rfl (hb hby d6_17) rfl rfl ?_
    show Steps p.tables e below (T24.setTop (mkF m 18 #[.val (.ref a1), .val (.ref o1), .val (.ref o2), .val (.ref o3)] [])) _
    refine XS.aloadN X24.here hx rfl (hb hby d6_18) rfl rfl ?_
    exact kz
  refine OGW.step s26 ?_
  obtain ⟨a27, T27, h27, k27, X27, e27, E27, hS27, hk27, hZ, hown, st27⟩ := ldcS X24 hx hZ hown (hw _ (List.mem_of_getElem? (i := 47) rfl)) wS e24 hS16 hk16 (g := (mkF m 19 #[.val (.ref a1), .val (.ref o1), .val (.ref o2), .val (.ref o3)] [(.ref o3)])) rfl (hb hby d6_19) (n := 32) (by first | decide | decide +kernel) (by decide) (by decide) (by decide)
  refine OGW.step st27 ?_
  have f28 := f17.ext E27
  have f29 := f18.ext E27
  have f30 := f19.ext E27
  have f31 := f20.ext E27
  have f32 := f21.ext E27
  have f33 := f22.ext E27
  have f34 := f23.ext E27
  have K27 := K16.ext E27
  show OGW _ _ _ _ _ _ _ (T27.setTop (mkF m 21 #[.val (.ref a1), .val (.ref o1), .val (.ref o2), .val (.ref o3)] [(.ref a27), (.ref o3)]))
  obtain ⟨_, _, ⟨T35, L35, k35, n35⟩, -, X35, ⟨Lc35, hQ35, l35, y35, z35⟩, st35⟩ := Jvm.LawKit.callS X27 hx (y := (⟨"java/util/Objects", "requireNonNull", "(Ljava/lang/Object;Ljava/lang/String;)Ljava/lang/Object;"⟩ : MethodName)) hown (mvT hZ (hw _ (List.mem_of_getElem? (i := 42) rfl))) (mvT hZ (hw _ (List.mem_of_getElem? (i := 43) rfl))) (mvT hZ (hw _ (List.mem_of_getElem? (i := 44) rfl))) (mvT hZ (hw _ (List.mem_of_getElem? (i := 45) rfl))) (by decide) (backOf (W := 0) (rm8 l Z a0 hw [] o3 a27 h27 n0 (Nat.le_trans Z0 K27.1)) hZ (hw _ (List.mem_of_getElem? (i := 45) rfl)) (hw _ (List.mem_of_getElem? (i := 44) rfl)) (by decide) (by decide)) (g := (mkF m 21 #[.val (.ref a1), .val (.ref o1), .val (.ref o2), .val (.ref o3)] [(.ref a27), (.ref o3)])) rfl (by rw [hml]; rfl) (argsL := [(.ref o3), (.ref a27)]) (rest := []) (lenOf pd__Ljava_lang_Object_Ljava_lang_String__Ljava_lang_Object_ rfl) rfl (by show 2 * 0 + _ ≤ _; exact Nat.le_of_eq rfl) (hb hby d6_21) (fun _ _ => ⟨rfl, e27, (by decide : 6 + 0 ≤ _), (by decide : 136 + 0 ≤ _)⟩)
  dsimp only [Pt.U, Pt.locs, Pt.cells, Pt.slots] at X35 l35 y35 z35 st35 hQ35
  subst l35 y35 z35
  obtain ⟨rfl, N35q, e35⟩ := hQ35
  have N35 := Fr.app N24 N35q
  refine OGW.step st35 ?_
  obtain ⟨Lz36, X35, N35⟩ : ∃ Lz, Stand p l e rom_6 (s.setVm T27.vm) m #[(.ref a1), (.ref o1), (.ref o2), (.ref o3)] below meth c T35 Lz 6 136 ∧ Fr n0 Lz := ⟨_, X35, N35⟩
  show OGW _ _ _ _ _ _ _ (T35.setTop (mkF m 24 #[.val (.ref a1), .val (.ref o1), .val (.ref o2), .val (.ref o3)] [(.ref o3)]))
  have s37 : ∀ tz, Steps p.tables e below (T35.setTop (mkF m 26 #[.val (.ref a1), .val (.ref o1), .val (.ref o2), .val (.ref o3)] [(.ref o1)])) tz → Steps p.tables e below (T35.setTop (mkF m 24 #[.val (.ref a1), .val (.ref o1), .val (.ref o2), .val (.ref o3)] [(.ref o3)])) tz := by
    intro tz kz
    refine XS.pop X35.here hx rfl (hb hby d6_24) rfl rfl ?_
    show Steps p.tables e below (T35.setTop (mkF m 25 #[.val (.ref a1), .val (.ref o1), .val (.ref o2), .val (.ref o3)] [])) _
    refine XS.aloadN X35.here hx rfl (hb hby d6_25) rfl rfl ?_
    exact kz
  refine OGW.step s37 ?_
  obtain ⟨cq38, kq38, q38a, q38b, q38c⟩ := isOf hZ e35 f32
  obtain ⟨_, _, ⟨T38, L38, k38, n38⟩, -, X38, ⟨Lc38, hQ38, l38, y38, z38⟩, st38⟩ := X35.virtualBack hx (y := (⟨"java/lang/String", "isEmpty", "()Z"⟩ : MethodName)) (z := (⟨"java/lang/String", "isEmpty", "()Z"⟩ : MethodName)) hown (mvT hZ (hw _ (List.mem_of_getElem? (i := 48) rfl))) (mvT hZ (hw _ (List.mem_of_getElem? (i := 49) rfl))) (notFace_of_selects (args := #[]) (mvT hZ (hw _ (List.mem_of_getElem? (i := 51) rfl)))) (mvT hZ (hw _ (List.mem_of_getElem? (i := 51) rfl))) (mvT hZ (hw _ (List.mem_of_getElem? (i := 50) rfl))) (by decide) (backOf (W := 0) (rm9 l Z a0 hw [] o1 b1 kb w1 h27 n0 (Nat.le_trans Z0 K27.1) f33 f34) hZ (hw _ (List.mem_of_getElem? (i := 52) rfl)) (hw _ (List.mem_of_getElem? (i := 5) rfl)) (by decide) (by decide)) q38a q38c (g := (mkF m 26 #[.val (.ref a1), .val (.ref o1), .val (.ref o2), .val (.ref o3)] [(.ref o1)])) rfl (by rw [hml]; rfl) (Steps.refl _) (argsL := []) (rest := []) (lenOf pd___Z rfl) rfl (by show 2 * 0 + _ ≤ _; exact Nat.le_of_eq rfl) (hb hby d6_26) (fun _ _ => ⟨rfl, e35, (by decide : 6 + 0 ≤ _), (by decide : 136 + 0 ≤ _)⟩)
  dsimp only [Pt.U, Pt.locs, Pt.cells, Pt.slots] at X38 l38 y38 z38 st38 hQ38
  subst l38 y38 z38
  obtain ⟨rfl, N38q, e38⟩ := hQ38
  have N38 := Fr.app N35 N38q
  refine OGW.step (fun tz kz => st38.trans kz) ?_
  obtain ⟨Lz39, X38, N38⟩ : ∃ Lz, Stand p l e rom_6 (s.setVm T27.vm) m #[(.ref a1), (.ref o1), (.ref o2), (.ref o3)] below meth c T38 Lz 6 136 ∧ Fr n0 Lz := ⟨_, X38, N38⟩
  show OGW _ _ _ _ _ _ _ (T38.setTop (mkF m 29 #[.val (.ref a1), .val (.ref o1), .val (.ref o2), .val (.ref o3)] [(.int (0 : Int32))]))
  have s40 : ∀ tz, Steps p.tables e below (T38.setTop (mkF m 44 #[.val (.ref a1), .val (.ref o1), .val (.ref o2), .val (.ref o3)] [(.ref o1), (.ref a1)])) tz → Steps p.tables e below (T38.setTop (mkF m 29 #[.val (.ref a1), .val (.ref o1), .val (.ref o2), .val (.ref o3)] [(.int (0 : Int32))])) tz := by
    intro tz kz
    refine XS.ifYes X38.here hx rfl (pc0 := 29) (pc' := 42) rfl (hb hby d6_29) rfl ((if0 _ _).trans (teq (by decide)).1) (by decide) (by decide) ?_
    show Steps p.tables e below (T38.setTop (mkF m 42 #[.val (.ref a1), .val (.ref o1), .val (.ref o2), .val (.ref o3)] [])) _
    refine XS.aloadN X38.here hx rfl (hb hby d6_42) rfl rfl ?_
    show Steps p.tables e below (T38.setTop (mkF m 43 #[.val (.ref a1), .val (.ref o1), .val (.ref o2), .val (.ref o3)] [(.ref a1)])) _
    refine XS.aloadN X38.here hx rfl (hb hby d6_43) rfl rfl ?_
    exact kz
  refine OGW.step s40 ?_
  obtain ⟨T41, h41, X41, e41, W41, st41⟩ := putF X38 hx hZ hown (host := "") (Or.inl (hw _ (List.mem_of_getElem? (i := 53) rfl))) Via.refl e38 f29 f28 (Or.inr ⟨(hw _ (List.mem_of_getElem? (i := 54) rfl)), rfl, hnm⟩) (hw _ (List.mem_of_getElem? (i := 1) rfl)) (ty := (.object "java/lang/String")) (by decide) rfl rfl (g := (mkF m 44 #[.val (.ref a1), .val (.ref o1), .val (.ref o2), .val (.ref o3)] [(.ref o1), (.ref a1)])) rfl rfl (hb hby d6_44)
  refine OGW.step st41 ?_
  have fw41 := f29.same W41
  have f42 := f28.wr W41
  have f43 := f30.other W41 (Or.inr (slot_ne (Or.inr (hw _ (List.mem_of_getElem? (i := 56) rfl))) (Or.inr (hw _ (List.mem_of_getElem? (i := 54) rfl))) (by decide) (t := (.object "java/lang/String")) (t' := (.object "java/lang/String")) (by decide) (by decide)))
  have f44 := f31.other W41 (Or.inr (slot_ne (Or.inr (hw _ (List.mem_of_getElem? (i := 58) rfl))) (Or.inr (hw _ (List.mem_of_getElem? (i := 54) rfl))) (by decide) (t := (.object "java/lang/String")) (t' := (.object "java/lang/String")) (by decide) (by decide)))
  have f45 := f32.wr W41
  have f46 := f33.other W41 (Or.inl (Ne.symm ne_a1_o1))
  have f47 := f34.other W41 (Ne.symm ne_a1_b1)
  have K41 := K27.wr W41 (Or.inl (List.mem_of_getElem? (i := 0) rfl))
  have N41 := Fr.snoc X41 N38 g_a1
  have hk48 := Nat.le_trans hk27 (Keep.of_wr W41).1
  obtain ⟨Lz49, X41, N41⟩ : ∃ Lz, Stand p l e rom_6 (s.setVm T27.vm) m #[(.ref a1), (.ref o1), (.ref o2), (.ref o3)] below meth c T41 Lz 6 136 ∧ Fr n0 Lz := ⟨_, X41, N41⟩
  show OGW _ _ _ _ _ _ _ (T41.setTop (mkF m 47 #[.val (.ref a1), .val (.ref o1), .val (.ref o2), .val (.ref o3)] []))
  have s50 : ∀ tz, Steps p.tables e below (T41.setTop (mkF m 49 #[.val (.ref a1), .val (.ref o1), .val (.ref o2), .val (.ref o3)] [(.ref o2), (.ref a1)])) tz → Steps p.tables e below (T41.setTop (mkF m 47 #[.val (.ref a1), .val (.ref o1), .val (.ref o2), .val (.ref o3)] [])) tz := by
    intro tz kz
    refine XS.aloadN X41.here hx rfl (hb hby d6_47) rfl rfl ?_
    show Steps p.tables e below (T41.setTop (mkF m 48 #[.val (.ref a1), .val (.ref o1), .val (.ref o2), .val (.ref o3)] [(.ref a1)])) _
    refine XS.aloadN X41.here hx rfl (hb hby d6_48) rfl rfl ?_
    exact kz
  refine OGW.step s50 ?_
  obtain ⟨T51, h51, X51, e51, W51, st51⟩ := putF X41 hx hZ hown (host := "") (Or.inl (hw _ (List.mem_of_getElem? (i := 55) rfl))) Via.refl e41 f43 f42 (Or.inr ⟨(hw _ (List.mem_of_getElem? (i := 56) rfl)), rfl, hnm⟩) (hw _ (List.mem_of_getElem? (i := 1) rfl)) (ty := (.object "java/lang/String")) (by decide) rfl rfl (g := (mkF m 49 #[.val (.ref a1), .val (.ref o1), .val (.ref o2), .val (.ref o3)] [(.ref o2), (.ref a1)])) rfl rfl (hb hby d6_49)
  refine OGW.step st51 ?_
  have fw51 := f43.same W51
  have f52 := f42.wr W51
  have f53 := f44.other W51 (Or.inr (slot_ne (Or.inr (hw _ (List.mem_of_getElem? (i := 58) rfl))) (Or.inr (hw _ (List.mem_of_getElem? (i := 56) rfl))) (by decide) (t := (.object "java/lang/String")) (t' := (.object "java/lang/String")) (by decide) (by decide)))
  have f54 := f45.wr W51
  have f55 := f46.other W51 (Or.inl (Ne.symm ne_a1_o1))
  have f56 := f47.other W51 (Ne.symm ne_a1_b1)
  have f57 := fw41.other W51 (Or.inr (slot_ne (Or.inr (hw _ (List.mem_of_getElem? (i := 54) rfl))) (Or.inr (hw _ (List.mem_of_getElem? (i := 56) rfl))) (by decide) (t := (.object "java/lang/String")) (t' := (.object "java/lang/String")) (by decide) (by decide)))
  have K51 := K41.wr W51 (Or.inl (List.mem_of_getElem? (i := 0) rfl))
  have N51 := Fr.snoc X51 N41 g_a1
  have hk58 := Nat.le_trans hk48 (Keep.of_wr W51).1
  obtain ⟨Lz59, X51, N51⟩ : ∃ Lz, Stand p l e rom_6 (s.setVm T27.vm) m #[(.ref a1), (.ref o1), (.ref o2), (.ref o3)] below meth c T51 Lz 6 136 ∧ Fr n0 Lz := ⟨_, X51, N51⟩
  show OGW _ _ _ _ _ _ _ (T51.setTop (mkF m 52 #[.val (.ref a1), .val (.ref o1), .val (.ref o2), .val (.ref o3)] []))
  have s60 : ∀ tz, Steps p.tables e below (T51.setTop (mkF m 54 #[.val (.ref a1), .val (.ref o1), .val (.ref o2), .val (.ref o3)] [(.ref o3), (.ref a1)])) tz → Steps p.tables e below (T51.setTop (mkF m 52 #[.val (.ref a1), .val (.ref o1), .val (.ref o2), .val (.ref o3)] [])) tz := by
    intro tz kz
    refine XS.aloadN X51.here hx rfl (hb hby d6_52) rfl rfl ?_
    show Steps p.tables e below (T51.setTop (mkF m 53 #[.val (.ref a1), .val (.ref o1), .val (.ref o2), .val (.ref o3)] [(.ref a1)])) _
    refine XS.aloadN X51.here hx rfl (hb hby d6_53) rfl rfl ?_
    exact kz
  refine OGW.step s60 ?_
  obtain ⟨T61, h61, X61, e61, W61, st61⟩ := putF X51 hx hZ hown (host := "") (Or.inl (hw _ (List.mem_of_getElem? (i := 57) rfl))) Via.refl e51 f53 f52 (Or.inr ⟨(hw _ (List.mem_of_getElem? (i := 58) rfl)), rfl, hnm⟩) (hw _ (List.mem_of_getElem? (i := 1) rfl)) (ty := (.object "java/lang/String")) (by decide) rfl rfl (g := (mkF m 54 #[.val (.ref a1), .val (.ref o1), .val (.ref o2), .val (.ref o3)] [(.ref o3), (.ref a1)])) rfl rfl (hb hby d6_54)
  refine OGW.step st61 ?_
  have fw61 := f53.same W61
  have f62 := f52.wr W61
  have f63 := f54.wr W61
  have f64 := f55.other W61 (Or.inl (Ne.symm ne_a1_o1))
  have f65 := f56.other W61 (Ne.symm ne_a1_b1)
  have f66 := f57.other W61 (Or.inr (slot_ne (Or.inr (hw _ (List.mem_of_getElem? (i := 54) rfl))) (Or.inr (hw _ (List.mem_of_getElem? (i := 58) rfl))) (by decide) (t := (.object "java/lang/String")) (t' := (.object "java/lang/String")) (by decide) (by decide)))
  have f67 := fw51.other W61 (Or.inr (slot_ne (Or.inr (hw _ (List.mem_of_getElem? (i := 56) rfl))) (Or.inr (hw _ (List.mem_of_getElem? (i := 58) rfl))) (by decide) (t := (.object "java/lang/String")) (t' := (.object "java/lang/String")) (by decide) (by decide)))
  have K61 := K51.wr W61 (Or.inl (List.mem_of_getElem? (i := 0) rfl))
  have N61 := Fr.snoc X61 N51 g_a1
  have hk68 := Nat.le_trans hk58 (Keep.of_wr W61).1
  obtain ⟨Lz69, X61, N61⟩ : ∃ Lz, Stand p l e rom_6 (s.setVm T27.vm) m #[(.ref a1), (.ref o1), (.ref o2), (.ref o3)] below meth c T61 Lz 6 136 ∧ Fr n0 Lz := ⟨_, X61, N61⟩
  show OGW _ _ _ _ _ _ _ (T61.setTop (mkF m 57 #[.val (.ref a1), .val (.ref o1), .val (.ref o2), .val (.ref o3)] []))
  exact OGW.retV X61 hS27 hk68 hx hlk Bd.returns (hb hby d6_57) e61 ⟨rfl, N61, K61⟩ (by decide) (by decide)
theorem d10_0 : decode prog_84_method_1_code 0 = .ok (.aload_n 0, 1) := by decide +kernel
theorem d10_1 : decode prog_84_method_1_code 1 = .ok (.invokespecial 1, 3) := by decide +kernel
theorem d10_4 : decode prog_84_method_1_code 4 = .ok (.aload_n 1, 1) := by decide +kernel
theorem d10_5 : decode prog_84_method_1_code 5 = .ok (.ldc 7, 2) := by decide +kernel
theorem d10_7 : decode prog_84_method_1_code 7 = .ok (.invokestatic 9, 3) := by decide +kernel
theorem d10_10 : decode prog_84_method_1_code 10 = .ok (.pop, 1) := by decide +kernel
theorem d10_11 : decode prog_84_method_1_code 11 = .ok (.aload_n 0, 1) := by decide +kernel
theorem d10_12 : decode prog_84_method_1_code 12 = .ok (.aload_n 1, 1) := by decide +kernel
theorem d10_13 : decode prog_84_method_1_code 13 = .ok (.putfield 15, 3) := by decide +kernel
theorem d10_16 : decode prog_84_method_1_code 16 = .ok (.aload_n 0, 1) := by decide +kernel
theorem d10_17 : decode prog_84_method_1_code 17 = .ok (.aload_n 2, 1) := by decide +kernel
theorem d10_18 : decode prog_84_method_1_code 18 = .ok (.putfield 20, 3) := by decide +kernel
theorem d10_21 : decode prog_84_method_1_code 21 = .ok (.aload_n 0, 1) := by decide +kernel
theorem d10_22 : decode prog_84_method_1_code 22 = .ok (.aload_n 3, 1) := by decide +kernel
theorem d10_23 : decode prog_84_method_1_code 23 = .ok (.putfield 23, 3) := by decide +kernel
theorem d10_26 : decode prog_84_method_1_code 26 = .ok (.return_, 1) := by decide +kernel
theorem pn_com_example_mergeward_mergeward_core_RecordPath : plainName "com/example/mergeward/mergeward/core/RecordPath" = true := by first | (simp [plainName, overriddenIn]; done) | decide +kernel
theorem ef_10 (m : MethodId) (x0 : Addr) (x1 : Addr) (x2 : Value) (x3 : Value) (hx2 : x2.isRef = true) (hx3 : x3.isRef = true) : entryFrame m #[(.ref x0), (.ref x1), x2, x3] 4 = mkF m 0 #[.val (.ref x0), .val (.ref x1), .val x2, .val x3] [] := by
  rcases ref_cases hx2 with rfl | ⟨_, rfl⟩ <;> rcases ref_cases hx3 with rfl | ⟨_, rfl⟩ <;> rfl
def Q10 (Z : State) (a1 : Addr) (o1 : Addr) (v2 : Value) (v3 : Value) (u0 : Value) (u1 : Value) (u2 : Value) (h0 : Heap) (n0 : Nat) (v : Option Value) (h : Heap) (L : List Loc) : Prop := (v = none) ∧ (Fr n0 L) ∧ (Keep h0 h [a1]) ∧ (Fld Z h a1 "com/example/mergeward/mergeward/core/RecordPath" "account" "Lcom/example/mergeward/mergeward/core/Identifier;" v2) ∧ (Fld Z h a1 "com/example/mergeward/mergeward/core/RecordPath" "visit" "Lcom/example/mergeward/mergeward/core/Identifier;" v3)
abbrev rom_10 : Room := { frames := 2, cells := 2, slots := 32, locals := 24 }
set_option maxRecDepth 65536 in
set_option maxHeartbeats 40000000 in
theorem rm10 (l : Launch) (Z : State) (a0 : Array Value) (hw : ∀ d ∈ tables_1, d.before a0 Z = true) (ws : List Jvm.Cond) (a1 : Addr) (o1 : Addr) (v2 : Value) (v3 : Value) (u0 : Value) (u1 : Value) (u2 : Value) (h0 : Heap) (n0 : Nat) (Z0 : n0 ≤ h0.size) (F0_a1 : Exa Z h0 a1 "com/example/mergeward/mergeward/core/RecordPath") (F1_a1_patient : Fld Z h0 a1 "com/example/mergeward/mergeward/core/RecordPath" "patient" "Lcom/example/mergeward/mergeward/core/Identifier;" u0) (F2_a1_account : Fld Z h0 a1 "com/example/mergeward/mergeward/core/RecordPath" "account" "Lcom/example/mergeward/mergeward/core/Identifier;" u1) (F3_a1_visit : Fld Z h0 a1 "com/example/mergeward/mergeward/core/RecordPath" "visit" "Lcom/example/mergeward/mergeward/core/Identifier;" u2) (g_a1 : n0 ≤ a1) (hr2 : v2.isRef = true) (hr3 : v3.isRef = true) :
    MetFree l (⟨"com/example/mergeward/mergeward/core/RecordPath", "<init>", "(Lcom/example/mergeward/mergeward/core/Identifier;Lcom/example/mergeward/mergeward/core/Identifier;Lcom/example/mergeward/mergeward/core/Identifier;)V"⟩ : MethodName) (head1 (Jvm.Cond.code (⟨"com/example/mergeward/mergeward/core/RecordPath", "<init>", "(Lcom/example/mergeward/mergeward/core/Identifier;Lcom/example/mergeward/mergeward/core/Identifier;Lcom/example/mergeward/mergeward/core/Identifier;)V"⟩ : MethodName) prog_84_method_1_code 4 none :: ws) rom_10) (fun a U => a = #[(.ref a1), (.ref o1), v2, v3] ∧ Z.Warmed39 U.vm ∧ U.heap = h0) (fun _ _ _ _ _ => True) (fun _ U o U' => ∃ v L, o = .returned v ∧ Q10 Z a1 o1 v2 v3 u0 u1 u2 h0 n0 v U'.heap L ∧ ReturnedEndW U o U' L rom_10.cells rom_10.slots) := by
  refine MetFree.of_bodySF (plainFor_of_name pn_com_example_mergeward_mergeward_core_RecordPath) hisR ?_
  intro p e s m args below meth c s₁ Bd hml0 hP hK
  obtain ⟨rfl, hZ, hh⟩ := hP
  have hx := Bd.exec
  have hby := Bd.bytes
  have hlk := Bd.notSynchronized
  have hml : c.maxLocals = 4 := hml0
  have hown : s.vm.findClass "com/example/mergeward/mergeward/core/RecordPath" = some m.cls := findClass_of_methodNamed Bd.named
  have hnm := (name_of_methodNamed Bd.named Bd.method).1
  have X0s : Stand p l e rom_10 s m #[(.ref a1), (.ref o1), v2, v3] below meth c s₁ [] 0 0 := Stand.of_body Bd
  have X0 : Stand p l e rom_10 (s.setVm s.vm) m #[(.ref a1), (.ref o1), v2, v3] below meth c s₁ [] 0 0 := X0s
  have hS0 : s.Since s.vm 0 := (State.WarmedH.refl s).since 0
  have hk0 : 0 ≤ h0.size := Nat.zero_le _
  have wS := own_wS hw
  have e0 : s₁.heap = h0 := by rw [← hh, Bd.state]; rfl
  have N0 := Fr.nil n0
  have K0 : Keep h0 h0 [a1] := Keep.refl _ _
  refine (?_ : OGW p e below s (Q10 Z a1 o1 v2 v3 u0 u1 u2 h0 n0) rom_10.cells rom_10.slots _)
  rw [ef_10 m a1 o1 v2 v3 hr2 hr3]
  have s1 : ∀ tz, Steps p.tables e below (s₁.setTop (mkF m 1 #[.val (.ref a1), .val (.ref o1), .val v2, .val v3] [(.ref a1)])) tz → Steps p.tables e below (s₁.setTop (mkF m 0 #[.val (.ref a1), .val (.ref o1), .val v2, .val v3] [])) tz := by
    intro tz kz
    refine XS.aloadN X0.here hx rfl (hb hby d10_0) rfl rfl ?_
    exact kz
  refine OGW.step s1 ?_
  obtain ⟨_, _, ⟨T2, L2, k2, n2⟩, -, X2, ⟨Lc2, hQ2, l2, y2, z2⟩, st2⟩ := X0.specialBack hx (y := (⟨"java/lang/Record", "<init>", "()V"⟩ : MethodName)) rfl hown (mvT hZ (hw _ (List.mem_of_getElem? (i := 65) rfl))) (mvT hZ (hw _ (List.mem_of_getElem? (i := 36) rfl))) (mvT hZ (hw _ (List.mem_of_getElem? (i := 39) rfl))) (by decide) (backOf (W := 0) (rm7 l Z a0 hw [] a1 h0 n0 (Nat.le_trans Z0 K0.1)) hZ (hw _ (List.mem_of_getElem? (i := 39) rfl)) (hw _ (List.mem_of_getElem? (i := 38) rfl)) (by decide) (by decide)) (g := (mkF m 1 #[.val (.ref a1), .val (.ref o1), .val v2, .val v3] [(.ref a1)])) rfl (by rw [hml]; rfl) (Steps.refl _) (a := a1) (argsL := []) (rest := []) (lenOf pd___V rfl) rfl (by show 2 * 0 + _ ≤ _; exact Nat.le_of_eq rfl) (hb hby d10_1) (fun _ _ => ⟨rfl, e0, (by decide : 0 + 0 ≤ _), (by decide : 0 + 0 ≤ _)⟩)
  dsimp only [Pt.U, Pt.locs, Pt.cells, Pt.slots] at X2 l2 y2 z2 st2 hQ2
  subst l2 y2 z2
  obtain ⟨rfl, N2q, e2⟩ := hQ2
  have N2 := Fr.app N0 N2q
  refine OGW.step (fun tz kz => st2.trans kz) ?_
  obtain ⟨Lz3, X2, N2⟩ : ∃ Lz, Stand p l e rom_10 (s.setVm s.vm) m #[(.ref a1), (.ref o1), v2, v3] below meth c T2 Lz 0 0 ∧ Fr n0 Lz := ⟨_, X2, N2⟩
  show OGW _ _ _ _ _ _ _ (T2.setTop (mkF m 4 #[.val (.ref a1), .val (.ref o1), .val v2, .val v3] []))
  have s4 : ∀ tz, Steps p.tables e below (T2.setTop (mkF m 5 #[.val (.ref a1), .val (.ref o1), .val v2, .val v3] [(.ref o1)])) tz → Steps p.tables e below (T2.setTop (mkF m 4 #[.val (.ref a1), .val (.ref o1), .val v2, .val v3] [])) tz := by
    intro tz kz
    refine XS.aloadN X2.here hx rfl (hb hby d10_4) rfl rfl ?_
    exact kz
  refine OGW.step s4 ?_
  obtain ⟨a5, T5, h5, k5, X5, e5, E5, hS5, hk5, hZ, hown, st5⟩ := ldcS X2 hx hZ hown (hw _ (List.mem_of_getElem? (i := 66) rfl)) wS e2 hS0 hk0 (g := (mkF m 5 #[.val (.ref a1), .val (.ref o1), .val v2, .val v3] [(.ref o1)])) rfl (hb hby d10_5) (n := 28) (by first | decide | decide +kernel) (by decide) (by decide) (by decide)
  refine OGW.step st5 ?_
  have f6 := F0_a1.ext E5
  have f7 := F1_a1_patient.ext E5
  have f8 := F2_a1_account.ext E5
  have f9 := F3_a1_visit.ext E5
  have K5 := K0.ext E5
  show OGW _ _ _ _ _ _ _ (T5.setTop (mkF m 7 #[.val (.ref a1), .val (.ref o1), .val v2, .val v3] [(.ref a5), (.ref o1)]))
  obtain ⟨_, _, ⟨T10, L10, k10, n10⟩, -, X10, ⟨Lc10, hQ10, l10, y10, z10⟩, st10⟩ := Jvm.LawKit.callS X5 hx (y := (⟨"java/util/Objects", "requireNonNull", "(Ljava/lang/Object;Ljava/lang/String;)Ljava/lang/Object;"⟩ : MethodName)) hown (mvT hZ (hw _ (List.mem_of_getElem? (i := 67) rfl))) (mvT hZ (hw _ (List.mem_of_getElem? (i := 43) rfl))) (mvT hZ (hw _ (List.mem_of_getElem? (i := 44) rfl))) (mvT hZ (hw _ (List.mem_of_getElem? (i := 45) rfl))) (by decide) (backOf (W := 0) (rm8 l Z a0 hw [] o1 a5 h5 n0 (Nat.le_trans Z0 K5.1)) hZ (hw _ (List.mem_of_getElem? (i := 45) rfl)) (hw _ (List.mem_of_getElem? (i := 44) rfl)) (by decide) (by decide)) (g := (mkF m 7 #[.val (.ref a1), .val (.ref o1), .val v2, .val v3] [(.ref a5), (.ref o1)])) rfl (by rw [hml]; rfl) (argsL := [(.ref o1), (.ref a5)]) (rest := []) (lenOf pd__Ljava_lang_Object_Ljava_lang_String__Ljava_lang_Object_ rfl) rfl (by show 2 * 0 + _ ≤ _; exact Nat.le_of_eq rfl) (hb hby d10_7) (fun _ _ => ⟨rfl, e5, (by decide : 2 + 0 ≤ _), (by decide : 32 + 0 ≤ _)⟩)
  dsimp only [Pt.U, Pt.locs, Pt.cells, Pt.slots] at X10 l10 y10 z10 st10 hQ10
  subst l10 y10 z10
  obtain ⟨rfl, N10q, e10⟩ := hQ10
  have N10 := Fr.app N2 N10q
  refine OGW.step st10 ?_
  obtain ⟨Lz11, X10, N10⟩ : ∃ Lz, Stand p l e rom_10 (s.setVm T5.vm) m #[(.ref a1), (.ref o1), v2, v3] below meth c T10 Lz 2 32 ∧ Fr n0 Lz := ⟨_, X10, N10⟩
  show OGW _ _ _ _ _ _ _ (T10.setTop (mkF m 10 #[.val (.ref a1), .val (.ref o1), .val v2, .val v3] [(.ref o1)]))
  have s12 : ∀ tz, Steps p.tables e below (T10.setTop (mkF m 13 #[.val (.ref a1), .val (.ref o1), .val v2, .val v3] [(.ref o1), (.ref a1)])) tz → Steps p.tables e below (T10.setTop (mkF m 10 #[.val (.ref a1), .val (.ref o1), .val v2, .val v3] [(.ref o1)])) tz := by
    intro tz kz
    refine XS.pop X10.here hx rfl (hb hby d10_10) rfl rfl ?_
    show Steps p.tables e below (T10.setTop (mkF m 11 #[.val (.ref a1), .val (.ref o1), .val v2, .val v3] [])) _
    refine XS.aloadN X10.here hx rfl (hb hby d10_11) rfl rfl ?_
    show Steps p.tables e below (T10.setTop (mkF m 12 #[.val (.ref a1), .val (.ref o1), .val v2, .val v3] [(.ref a1)])) _
    refine XS.aloadN X10.here hx rfl (hb hby d10_12) rfl rfl ?_
    exact kz
  refine OGW.step s12 ?_
  obtain ⟨T13, h13, X13, e13, W13, st13⟩ := putF X10 hx hZ hown (host := "") (Or.inl (hw _ (List.mem_of_getElem? (i := 68) rfl))) Via.refl e10 f7 f6 (Or.inr ⟨(hw _ (List.mem_of_getElem? (i := 69) rfl)), rfl, hnm⟩) (hw _ (List.mem_of_getElem? (i := 60) rfl)) (ty := (.object "com/example/mergeward/mergeward/core/Identifier")) (by decide) rfl rfl (g := (mkF m 13 #[.val (.ref a1), .val (.ref o1), .val v2, .val v3] [(.ref o1), (.ref a1)])) rfl rfl (hb hby d10_13)
  refine OGW.step st13 ?_
  have fw13 := f7.same W13
  have f14 := f6.wr W13
  have f15 := f8.other W13 (Or.inr (slot_ne (Or.inr (hw _ (List.mem_of_getElem? (i := 71) rfl))) (Or.inr (hw _ (List.mem_of_getElem? (i := 69) rfl))) (by decide) (t := (.object "com/example/mergeward/mergeward/core/Identifier")) (t' := (.object "com/example/mergeward/mergeward/core/Identifier")) (by decide) (by decide)))
  have f16 := f9.other W13 (Or.inr (slot_ne (Or.inr (hw _ (List.mem_of_getElem? (i := 73) rfl))) (Or.inr (hw _ (List.mem_of_getElem? (i := 69) rfl))) (by decide) (t := (.object "com/example/mergeward/mergeward/core/Identifier")) (t' := (.object "com/example/mergeward/mergeward/core/Identifier")) (by decide) (by decide)))
  have K13 := K5.wr W13 (Or.inl (List.mem_of_getElem? (i := 0) rfl))
  have N13 := Fr.snoc X13 N10 g_a1
  have hk17 := Nat.le_trans hk5 (Keep.of_wr W13).1
  obtain ⟨Lz18, X13, N13⟩ : ∃ Lz, Stand p l e rom_10 (s.setVm T5.vm) m #[(.ref a1), (.ref o1), v2, v3] below meth c T13 Lz 2 32 ∧ Fr n0 Lz := ⟨_, X13, N13⟩
  show OGW _ _ _ _ _ _ _ (T13.setTop (mkF m 16 #[.val (.ref a1), .val (.ref o1), .val v2, .val v3] []))
  have s19 : ∀ tz, Steps p.tables e below (T13.setTop (mkF m 18 #[.val (.ref a1), .val (.ref o1), .val v2, .val v3] [v2, (.ref a1)])) tz → Steps p.tables e below (T13.setTop (mkF m 16 #[.val (.ref a1), .val (.ref o1), .val v2, .val v3] [])) tz := by
    intro tz kz
    refine XS.aloadN X13.here hx rfl (hb hby d10_16) rfl rfl ?_
    show Steps p.tables e below (T13.setTop (mkF m 17 #[.val (.ref a1), .val (.ref o1), .val v2, .val v3] [(.ref a1)])) _
    refine XS.aloadN X13.here hx rfl (hb hby d10_17) rfl hr2 ?_
    exact kz
  refine OGW.step s19 ?_
  obtain ⟨T20, h20, X20, e20, W20, st20⟩ := putF X13 hx hZ hown (host := "") (Or.inl (hw _ (List.mem_of_getElem? (i := 70) rfl))) Via.refl e13 f15 f14 (Or.inr ⟨(hw _ (List.mem_of_getElem? (i := 71) rfl)), rfl, hnm⟩) (hw _ (List.mem_of_getElem? (i := 60) rfl)) (ty := (.object "com/example/mergeward/mergeward/core/Identifier")) (by decide) own_narR (own_fitR hr2) (g := (mkF m 18 #[.val (.ref a1), .val (.ref o1), .val v2, .val v3] [v2, (.ref a1)])) rfl rfl (hb hby d10_18)
  refine OGW.step st20 ?_
  have fw20 := f15.same W20
  have f21 := f14.wr W20
  have f22 := f16.other W20 (Or.inr (slot_ne (Or.inr (hw _ (List.mem_of_getElem? (i := 73) rfl))) (Or.inr (hw _ (List.mem_of_getElem? (i := 71) rfl))) (by decide) (t := (.object "com/example/mergeward/mergeward/core/Identifier")) (t' := (.object "com/example/mergeward/mergeward/core/Identifier")) (by decide) (by decide)))
  have f23 := fw13.other W20 (Or.inr (slot_ne (Or.inr (hw _ (List.mem_of_getElem? (i := 69) rfl))) (Or.inr (hw _ (List.mem_of_getElem? (i := 71) rfl))) (by decide) (t := (.object "com/example/mergeward/mergeward/core/Identifier")) (t' := (.object "com/example/mergeward/mergeward/core/Identifier")) (by decide) (by decide)))
  have K20 := K13.wr W20 (Or.inl (List.mem_of_getElem? (i := 0) rfl))
  have N20 := Fr.snoc X20 N13 g_a1
  have hk24 := Nat.le_trans hk17 (Keep.of_wr W20).1
  obtain ⟨Lz25, X20, N20⟩ : ∃ Lz, Stand p l e rom_10 (s.setVm T5.vm) m #[(.ref a1), (.ref o1), v2, v3] below meth c T20 Lz 2 32 ∧ Fr n0 Lz := ⟨_, X20, N20⟩
  show OGW _ _ _ _ _ _ _ (T20.setTop (mkF m 21 #[.val (.ref a1), .val (.ref o1), .val v2, .val v3] []))
  have s26 : ∀ tz, Steps p.tables e below (T20.setTop (mkF m 23 #[.val (.ref a1), .val (.ref o1), .val v2, .val v3] [v3, (.ref a1)])) tz → Steps p.tables e below (T20.setTop (mkF m 21 #[.val (.ref a1), .val (.ref o1), .val v2, .val v3] [])) tz := by
    intro tz kz
    refine XS.aloadN X20.here hx rfl (hb hby d10_21) rfl rfl ?_
    show Steps p.tables e below (T20.setTop (mkF m 22 #[.val (.ref a1), .val (.ref o1), .val v2, .val v3] [(.ref a1)])) _
    refine XS.aloadN X20.here hx rfl (hb hby d10_22) rfl hr3 ?_
    exact kz
  refine OGW.step s26 ?_
  obtain ⟨T27, h27, X27, e27, W27, st27⟩ := putF X20 hx hZ hown (host := "") (Or.inl (hw _ (List.mem_of_getElem? (i := 72) rfl))) Via.refl e20 f22 f21 (Or.inr ⟨(hw _ (List.mem_of_getElem? (i := 73) rfl)), rfl, hnm⟩) (hw _ (List.mem_of_getElem? (i := 60) rfl)) (ty := (.object "com/example/mergeward/mergeward/core/Identifier")) (by decide) own_narR (own_fitR hr3) (g := (mkF m 23 #[.val (.ref a1), .val (.ref o1), .val v2, .val v3] [v3, (.ref a1)])) rfl rfl (hb hby d10_23)
  refine OGW.step st27 ?_
  have fw27 := f22.same W27
  have f28 := f21.wr W27
  have f29 := f23.other W27 (Or.inr (slot_ne (Or.inr (hw _ (List.mem_of_getElem? (i := 69) rfl))) (Or.inr (hw _ (List.mem_of_getElem? (i := 73) rfl))) (by decide) (t := (.object "com/example/mergeward/mergeward/core/Identifier")) (t' := (.object "com/example/mergeward/mergeward/core/Identifier")) (by decide) (by decide)))
  have f30 := fw20.other W27 (Or.inr (slot_ne (Or.inr (hw _ (List.mem_of_getElem? (i := 71) rfl))) (Or.inr (hw _ (List.mem_of_getElem? (i := 73) rfl))) (by decide) (t := (.object "com/example/mergeward/mergeward/core/Identifier")) (t' := (.object "com/example/mergeward/mergeward/core/Identifier")) (by decide) (by decide)))
  have K27 := K20.wr W27 (Or.inl (List.mem_of_getElem? (i := 0) rfl))
  have N27 := Fr.snoc X27 N20 g_a1
  have hk31 := Nat.le_trans hk24 (Keep.of_wr W27).1
  obtain ⟨Lz32, X27, N27⟩ : ∃ Lz, Stand p l e rom_10 (s.setVm T5.vm) m #[(.ref a1), (.ref o1), v2, v3] below meth c T27 Lz 2 32 ∧ Fr n0 Lz := ⟨_, X27, N27⟩
  show OGW _ _ _ _ _ _ _ (T27.setTop (mkF m 26 #[.val (.ref a1), .val (.ref o1), .val v2, .val v3] []))
  exact OGW.retV X27 hS5 hk31 hx hlk Bd.returns (hb hby d10_26) e27 ⟨rfl, N27, K27, f30, fw27⟩ (by decide) (by decide)
theorem d12_0 : decode prog_84_method_6_code 0 = .ok (.aload_n 0, 1) := by decide +kernel
theorem d12_1 : decode prog_84_method_6_code 1 = .ok (.getfield 23, 3) := by decide +kernel
theorem d12_4 : decode prog_84_method_6_code 4 = .ok (.ifnonnull 7, 3) := by decide +kernel
theorem d12_7 : decode prog_84_method_6_code 7 = .ok (.iconst 1, 1) := by decide +kernel
theorem d12_8 : decode prog_84_method_6_code 8 = .ok (.goto 4, 3) := by decide +kernel
theorem d12_11 : decode prog_84_method_6_code 11 = .ok (.iconst 0, 1) := by decide +kernel
theorem d12_12 : decode prog_84_method_6_code 12 = .ok (.aload_n 1, 1) := by decide +kernel
theorem d12_13 : decode prog_84_method_6_code 13 = .ok (.getfield 23, 3) := by decide +kernel
theorem d12_16 : decode prog_84_method_6_code 16 = .ok (.ifnonnull 7, 3) := by decide +kernel
theorem d12_19 : decode prog_84_method_6_code 19 = .ok (.iconst 1, 1) := by decide +kernel
theorem d12_20 : decode prog_84_method_6_code 20 = .ok (.goto 4, 3) := by decide +kernel
theorem d12_23 : decode prog_84_method_6_code 23 = .ok (.iconst 0, 1) := by decide +kernel
theorem d12_24 : decode prog_84_method_6_code 24 = .ok (.if_icmp .ne 41, 3) := by decide +kernel
theorem d12_27 : decode prog_84_method_6_code 27 = .ok (.aload_n 0, 1) := by decide +kernel
theorem d12_28 : decode prog_84_method_6_code 28 = .ok (.getfield 23, 3) := by decide +kernel
theorem d12_31 : decode prog_84_method_6_code 31 = .ok (.ifnonnull 30, 3) := by decide +kernel
theorem d12_34 : decode prog_84_method_6_code 34 = .ok (.aload_n 0, 1) := by decide +kernel
theorem d12_35 : decode prog_84_method_6_code 35 = .ok (.getfield 20, 3) := by decide +kernel
theorem d12_38 : decode prog_84_method_6_code 38 = .ok (.ifnonnull 7, 3) := by decide +kernel
theorem d12_41 : decode prog_84_method_6_code 41 = .ok (.iconst 1, 1) := by decide +kernel
theorem d12_42 : decode prog_84_method_6_code 42 = .ok (.goto 4, 3) := by decide +kernel
theorem d12_45 : decode prog_84_method_6_code 45 = .ok (.iconst 0, 1) := by decide +kernel
theorem d12_46 : decode prog_84_method_6_code 46 = .ok (.aload_n 1, 1) := by decide +kernel
theorem d12_47 : decode prog_84_method_6_code 47 = .ok (.getfield 20, 3) := by decide +kernel
theorem d12_50 : decode prog_84_method_6_code 50 = .ok (.ifnonnull 7, 3) := by decide +kernel
theorem d12_53 : decode prog_84_method_6_code 53 = .ok (.iconst 1, 1) := by decide +kernel
theorem d12_54 : decode prog_84_method_6_code 54 = .ok (.goto 4, 3) := by decide +kernel
theorem d12_57 : decode prog_84_method_6_code 57 = .ok (.iconst 0, 1) := by decide +kernel
theorem d12_58 : decode prog_84_method_6_code 58 = .ok (.if_icmp .ne 7, 3) := by decide +kernel
theorem d12_61 : decode prog_84_method_6_code 61 = .ok (.iconst 1, 1) := by decide +kernel
theorem d12_62 : decode prog_84_method_6_code 62 = .ok (.goto 4, 3) := by decide +kernel
theorem d12_65 : decode prog_84_method_6_code 65 = .ok (.iconst 0, 1) := by decide +kernel
theorem d12_66 : decode prog_84_method_6_code 66 = .ok (.ireturn, 1) := by decide +kernel
theorem ef_12 (m : MethodId) (x0 : Addr) (x1 : Addr) : entryFrame m #[(.ref x0), (.ref x1)] 2 = mkF m 0 #[.val (.ref x0), .val (.ref x1)] [] := by first | (simp [entryFrame, mkF, argsToLocals, Value.category]; done) | rfl
def Q12 (Z : State) (a1 : Addr) (a2 : Addr) (vv1 : Value) (va1 : Value) (vv2 : Value) (va2 : Value) (h0 : Heap) (n0 : Nat) (v : Option Value) (h : Heap) (L : List Loc) : Prop := (v = some (.int (bI (own_sl vv1 va1 vv2 va2 = true)))) ∧ (Fr n0 L) ∧ (h = h0)
abbrev rom_12 : Room := { frames := 0, cells := 0, slots := 0, locals := 0 }
set_option maxRecDepth 65536 in
set_option maxHeartbeats 40000000 in
theorem rm12 (l : Launch) (Z : State) (a0 : Array Value) (hw : ∀ d ∈ tables_1, d.before a0 Z = true) (ws : List Jvm.Cond) (a1 : Addr) (a2 : Addr) (vv1 : Value) (va1 : Value) (vv2 : Value) (va2 : Value) (h0 : Heap) (n0 : Nat) (Z0 : n0 ≤ h0.size) (F0_a1_visit : Fld Z h0 a1 "com/example/mergeward/mergeward/core/RecordPath" "visit" "Lcom/example/mergeward/mergeward/core/Identifier;" vv1) (F1_a1_account : Fld Z h0 a1 "com/example/mergeward/mergeward/core/RecordPath" "account" "Lcom/example/mergeward/mergeward/core/Identifier;" va1) (F2_a2_visit : Fld Z h0 a2 "com/example/mergeward/mergeward/core/RecordPath" "visit" "Lcom/example/mergeward/mergeward/core/Identifier;" vv2) (F3_a2_account : Fld Z h0 a2 "com/example/mergeward/mergeward/core/RecordPath" "account" "Lcom/example/mergeward/mergeward/core/Identifier;" va2) (h1 : own_ir vv1) (h2 : own_ir va1) (h3 : own_ir vv2) (h4 : own_ir va2) :
    MetFree l (⟨"com/example/mergeward/mergeward/core/RecordPath", "sameLevelAs", "(Lcom/example/mergeward/mergeward/core/RecordPath;)Z"⟩ : MethodName) (head1 (Jvm.Cond.code (⟨"com/example/mergeward/mergeward/core/RecordPath", "sameLevelAs", "(Lcom/example/mergeward/mergeward/core/RecordPath;)Z"⟩ : MethodName) prog_84_method_6_code 2 (some .boolean) :: ws) rom_12) (fun a U => a = #[(.ref a1), (.ref a2)] ∧ Z.Warmed39 U.vm ∧ U.heap = h0) (fun _ _ _ _ _ => True) (fun _ U o U' => ∃ v L, o = .returned v ∧ Q12 Z a1 a2 vv1 va1 vv2 va2 h0 n0 v U'.heap L ∧ FrameEnd U o U' L rom_12.cells rom_12.slots) := by
  refine MetFree.of_bodySF (plainFor_of_name pn_com_example_mergeward_mergeward_core_RecordPath) hisR ?_
  intro p e s m args below meth c s₁ Bd hml0 hP hK
  obtain ⟨rfl, hZ, hh⟩ := hP
  have hx := Bd.exec
  have hby := Bd.bytes
  have hlk := Bd.notSynchronized
  have hml : c.maxLocals = 2 := hml0
  have hown : s.vm.findClass "com/example/mergeward/mergeward/core/RecordPath" = some m.cls := findClass_of_methodNamed Bd.named
  have hnm := (name_of_methodNamed Bd.named Bd.method).1
  have X0 : Stand p l e rom_12 s m #[(.ref a1), (.ref a2)] below meth c s₁ [] 0 0 := Stand.of_body Bd
  have e0 : s₁.heap = h0 := by rw [← hh, Bd.state]; rfl
  have N0 := Fr.nil n0
  have K0 : Keep h0 h0 [] := Keep.refl _ _
  refine (?_ : OG p e below s (Q12 Z a1 a2 vv1 va1 vv2 va2 h0 n0) rom_12.cells rom_12.slots _)
  rw [ef_12]
  have s1 : ∀ tz, Steps p.tables e below (s₁.setTop (mkF m 1 #[.val (.ref a1), .val (.ref a2)] [(.ref a1)])) tz → Steps p.tables e below (s₁.setTop (mkF m 0 #[.val (.ref a1), .val (.ref a2)] [])) tz := by
    intro tz kz
    refine XS.aloadN X0.here hx rfl (hb hby d12_0) rfl rfl ?_
    exact kz
  refine OG.step s1 ?_
  obtain ⟨T2, X2, e2, st2⟩ := getF X0 hx hZ hown (host := "") (Or.inl (hw _ (List.mem_of_getElem? (i := 72) rfl))) Via.refl e0 F0_a1_visit (g := (mkF m 1 #[.val (.ref a1), .val (.ref a2)] [(.ref a1)])) rfl rfl (hb hby d12_1)
  refine OG.step st2 ?_
  show OG _ _ _ _ _ _ _ (T2.setTop (mkF m 4 #[.val (.ref a1), .val (.ref a2)] [vv1]))
  rcases h1 with hz3 | ⟨rf3, hz3⟩
  · subst hz3
    have s4 : ∀ tz, Steps p.tables e below (T2.setTop (mkF m 13 #[.val (.ref a1), .val (.ref a2)] [(.ref a2), (.int (1 : Int32))])) tz → Steps p.tables e below (T2.setTop (mkF m 4 #[.val (.ref a1), .val (.ref a2)] [.null])) tz := by
      intro tz kz
      refine XS.ifnonnullNo X2.here hx rfl (hb hby d12_4) rfl ?_
      show Steps p.tables e below (T2.setTop (mkF m 7 #[.val (.ref a1), .val (.ref a2)] [])) _
      refine XS.iconst X2.here hx rfl (hb hby d12_7) ?_
      show Steps p.tables e below (T2.setTop (mkF m 8 #[.val (.ref a1), .val (.ref a2)] [(.int (1 : Int32))])) _
      refine XS.goto X2.here hx rfl (pc0 := 8) (pc' := 12) rfl (hb hby d12_8) (by decide) (by decide) ?_
      show Steps p.tables e below (T2.setTop (mkF m 12 #[.val (.ref a1), .val (.ref a2)] [(.int (1 : Int32))])) _
      refine XS.aloadN X2.here hx rfl (hb hby d12_12) rfl rfl ?_
      exact kz
    refine OG.step s4 ?_
    obtain ⟨T5, X5, e5, st5⟩ := getF X2 hx hZ hown (host := "") (Or.inl (hw _ (List.mem_of_getElem? (i := 72) rfl))) Via.refl e2 F2_a2_visit (g := (mkF m 13 #[.val (.ref a1), .val (.ref a2)] [(.ref a2), (.int (1 : Int32))])) rfl rfl (hb hby d12_13)
    refine OG.step st5 ?_
    show OG _ _ _ _ _ _ _ (T5.setTop (mkF m 16 #[.val (.ref a1), .val (.ref a2)] [vv2, (.int (1 : Int32))]))
    rcases h3 with hz6 | ⟨rf6, hz6⟩
    · subst hz6
      have s7 : ∀ tz, Steps p.tables e below (T5.setTop (mkF m 28 #[.val (.ref a1), .val (.ref a2)] [(.ref a1)])) tz → Steps p.tables e below (T5.setTop (mkF m 16 #[.val (.ref a1), .val (.ref a2)] [.null, (.int (1 : Int32))])) tz := by
        intro tz kz
        refine XS.ifnonnullNo X5.here hx rfl (hb hby d12_16) rfl ?_
        show Steps p.tables e below (T5.setTop (mkF m 19 #[.val (.ref a1), .val (.ref a2)] [(.int (1 : Int32))])) _
        refine XS.iconst X5.here hx rfl (hb hby d12_19) ?_
        show Steps p.tables e below (T5.setTop (mkF m 20 #[.val (.ref a1), .val (.ref a2)] [(.int (1 : Int32)), (.int (1 : Int32))])) _
        refine XS.goto X5.here hx rfl (pc0 := 20) (pc' := 24) rfl (hb hby d12_20) (by decide) (by decide) ?_
        show Steps p.tables e below (T5.setTop (mkF m 24 #[.val (.ref a1), .val (.ref a2)] [(.int (1 : Int32)), (.int (1 : Int32))])) _
        refine XS.icmpNo X5.here hx rfl (hb hby d12_24) rfl (teq (by decide)).2 ?_
        show Steps p.tables e below (T5.setTop (mkF m 27 #[.val (.ref a1), .val (.ref a2)] [])) _
        refine XS.aloadN X5.here hx rfl (hb hby d12_27) rfl rfl ?_
        exact kz
      refine OG.step s7 ?_
      obtain ⟨T8, X8, e8, st8⟩ := getF X5 hx hZ hown (host := "") (Or.inl (hw _ (List.mem_of_getElem? (i := 72) rfl))) Via.refl e5 F0_a1_visit (g := (mkF m 28 #[.val (.ref a1), .val (.ref a2)] [(.ref a1)])) rfl rfl (hb hby d12_28)
      refine OG.step st8 ?_
      show OG _ _ _ _ _ _ _ (T8.setTop (mkF m 31 #[.val (.ref a1), .val (.ref a2)] [.null]))
      have s9 : ∀ tz, Steps p.tables e below (T8.setTop (mkF m 35 #[.val (.ref a1), .val (.ref a2)] [(.ref a1)])) tz → Steps p.tables e below (T8.setTop (mkF m 31 #[.val (.ref a1), .val (.ref a2)] [.null])) tz := by
        intro tz kz
        refine XS.ifnonnullNo X8.here hx rfl (hb hby d12_31) rfl ?_
        show Steps p.tables e below (T8.setTop (mkF m 34 #[.val (.ref a1), .val (.ref a2)] [])) _
        refine XS.aloadN X8.here hx rfl (hb hby d12_34) rfl rfl ?_
        exact kz
      refine OG.step s9 ?_
      obtain ⟨T10, X10, e10, st10⟩ := getF X8 hx hZ hown (host := "") (Or.inl (hw _ (List.mem_of_getElem? (i := 70) rfl))) Via.refl e8 F1_a1_account (g := (mkF m 35 #[.val (.ref a1), .val (.ref a2)] [(.ref a1)])) rfl rfl (hb hby d12_35)
      refine OG.step st10 ?_
      show OG _ _ _ _ _ _ _ (T10.setTop (mkF m 38 #[.val (.ref a1), .val (.ref a2)] [va1]))
      rcases h2 with hz11 | ⟨rf11, hz11⟩
      · subst hz11
        have s12 : ∀ tz, Steps p.tables e below (T10.setTop (mkF m 47 #[.val (.ref a1), .val (.ref a2)] [(.ref a2), (.int (1 : Int32))])) tz → Steps p.tables e below (T10.setTop (mkF m 38 #[.val (.ref a1), .val (.ref a2)] [.null])) tz := by
          intro tz kz
          refine XS.ifnonnullNo X10.here hx rfl (hb hby d12_38) rfl ?_
          show Steps p.tables e below (T10.setTop (mkF m 41 #[.val (.ref a1), .val (.ref a2)] [])) _
          refine XS.iconst X10.here hx rfl (hb hby d12_41) ?_
          show Steps p.tables e below (T10.setTop (mkF m 42 #[.val (.ref a1), .val (.ref a2)] [(.int (1 : Int32))])) _
          refine XS.goto X10.here hx rfl (pc0 := 42) (pc' := 46) rfl (hb hby d12_42) (by decide) (by decide) ?_
          show Steps p.tables e below (T10.setTop (mkF m 46 #[.val (.ref a1), .val (.ref a2)] [(.int (1 : Int32))])) _
          refine XS.aloadN X10.here hx rfl (hb hby d12_46) rfl rfl ?_
          exact kz
        refine OG.step s12 ?_
        obtain ⟨T13, X13, e13, st13⟩ := getF X10 hx hZ hown (host := "") (Or.inl (hw _ (List.mem_of_getElem? (i := 70) rfl))) Via.refl e10 F3_a2_account (g := (mkF m 47 #[.val (.ref a1), .val (.ref a2)] [(.ref a2), (.int (1 : Int32))])) rfl rfl (hb hby d12_47)
        refine OG.step st13 ?_
        show OG _ _ _ _ _ _ _ (T13.setTop (mkF m 50 #[.val (.ref a1), .val (.ref a2)] [va2, (.int (1 : Int32))]))
        rcases h4 with hz14 | ⟨rf14, hz14⟩
        · subst hz14
          have s15 : ∀ tz, Steps p.tables e below (T13.setTop (mkF m 66 #[.val (.ref a1), .val (.ref a2)] [(.int (1 : Int32))])) tz → Steps p.tables e below (T13.setTop (mkF m 50 #[.val (.ref a1), .val (.ref a2)] [.null, (.int (1 : Int32))])) tz := by
            intro tz kz
            refine XS.ifnonnullNo X13.here hx rfl (hb hby d12_50) rfl ?_
            show Steps p.tables e below (T13.setTop (mkF m 53 #[.val (.ref a1), .val (.ref a2)] [(.int (1 : Int32))])) _
            refine XS.iconst X13.here hx rfl (hb hby d12_53) ?_
            show Steps p.tables e below (T13.setTop (mkF m 54 #[.val (.ref a1), .val (.ref a2)] [(.int (1 : Int32)), (.int (1 : Int32))])) _
            refine XS.goto X13.here hx rfl (pc0 := 54) (pc' := 58) rfl (hb hby d12_54) (by decide) (by decide) ?_
            show Steps p.tables e below (T13.setTop (mkF m 58 #[.val (.ref a1), .val (.ref a2)] [(.int (1 : Int32)), (.int (1 : Int32))])) _
            refine XS.icmpNo X13.here hx rfl (hb hby d12_58) rfl (teq (by decide)).2 ?_
            show Steps p.tables e below (T13.setTop (mkF m 61 #[.val (.ref a1), .val (.ref a2)] [])) _
            refine XS.iconst X13.here hx rfl (hb hby d12_61) ?_
            show Steps p.tables e below (T13.setTop (mkF m 62 #[.val (.ref a1), .val (.ref a2)] [(.int (1 : Int32))])) _
            refine XS.goto X13.here hx rfl (pc0 := 62) (pc' := 66) rfl (hb hby d12_62) (by decide) (by decide) ?_
            exact kz
          refine OG.step s15 ?_
          exact OG.retZ X13 hx hlk Bd.returns (hb hby d12_66) (nar_1) e13 ⟨rfl, N0, rfl⟩ (by decide) (by decide)
        · subst hz14
          have s16 : ∀ tz, Steps p.tables e below (T13.setTop (mkF m 66 #[.val (.ref a1), .val (.ref a2)] [(.int (0 : Int32))])) tz → Steps p.tables e below (T13.setTop (mkF m 50 #[.val (.ref a1), .val (.ref a2)] [(.ref rf14), (.int (1 : Int32))])) tz := by
            intro tz kz
            refine XS.ifnonnullYes X13.here hx rfl (pc0 := 50) (pc' := 57) rfl (hb hby d12_50) rfl (by decide) (by decide) ?_
            show Steps p.tables e below (T13.setTop (mkF m 57 #[.val (.ref a1), .val (.ref a2)] [(.int (1 : Int32))])) _
            refine XS.iconst X13.here hx rfl (hb hby d12_57) ?_
            show Steps p.tables e below (T13.setTop (mkF m 58 #[.val (.ref a1), .val (.ref a2)] [(.int (0 : Int32)), (.int (1 : Int32))])) _
            refine XS.icmpYes X13.here hx rfl (pc0 := 58) (pc' := 65) rfl (hb hby d12_58) rfl (feq (by decide)).2 (by decide) (by decide) ?_
            show Steps p.tables e below (T13.setTop (mkF m 65 #[.val (.ref a1), .val (.ref a2)] [])) _
            refine XS.iconst X13.here hx rfl (hb hby d12_65) ?_
            exact kz
          refine OG.step s16 ?_
          exact OG.retZ X13 hx hlk Bd.returns (hb hby d12_66) (nar_0) e13 ⟨rfl, N0, rfl⟩ (by decide) (by decide)
      · subst hz11
        have s17 : ∀ tz, Steps p.tables e below (T10.setTop (mkF m 47 #[.val (.ref a1), .val (.ref a2)] [(.ref a2), (.int (0 : Int32))])) tz → Steps p.tables e below (T10.setTop (mkF m 38 #[.val (.ref a1), .val (.ref a2)] [(.ref rf11)])) tz := by
          intro tz kz
          refine XS.ifnonnullYes X10.here hx rfl (pc0 := 38) (pc' := 45) rfl (hb hby d12_38) rfl (by decide) (by decide) ?_
          show Steps p.tables e below (T10.setTop (mkF m 45 #[.val (.ref a1), .val (.ref a2)] [])) _
          refine XS.iconst X10.here hx rfl (hb hby d12_45) ?_
          show Steps p.tables e below (T10.setTop (mkF m 46 #[.val (.ref a1), .val (.ref a2)] [(.int (0 : Int32))])) _
          refine XS.aloadN X10.here hx rfl (hb hby d12_46) rfl rfl ?_
          exact kz
        refine OG.step s17 ?_
        obtain ⟨T18, X18, e18, st18⟩ := getF X10 hx hZ hown (host := "") (Or.inl (hw _ (List.mem_of_getElem? (i := 70) rfl))) Via.refl e10 F3_a2_account (g := (mkF m 47 #[.val (.ref a1), .val (.ref a2)] [(.ref a2), (.int (0 : Int32))])) rfl rfl (hb hby d12_47)
        refine OG.step st18 ?_
        show OG _ _ _ _ _ _ _ (T18.setTop (mkF m 50 #[.val (.ref a1), .val (.ref a2)] [va2, (.int (0 : Int32))]))
        rcases h4 with hz19 | ⟨rf19, hz19⟩
        · subst hz19
          have s20 : ∀ tz, Steps p.tables e below (T18.setTop (mkF m 66 #[.val (.ref a1), .val (.ref a2)] [(.int (0 : Int32))])) tz → Steps p.tables e below (T18.setTop (mkF m 50 #[.val (.ref a1), .val (.ref a2)] [.null, (.int (0 : Int32))])) tz := by
            intro tz kz
            refine XS.ifnonnullNo X18.here hx rfl (hb hby d12_50) rfl ?_
            show Steps p.tables e below (T18.setTop (mkF m 53 #[.val (.ref a1), .val (.ref a2)] [(.int (0 : Int32))])) _
            refine XS.iconst X18.here hx rfl (hb hby d12_53) ?_
            show Steps p.tables e below (T18.setTop (mkF m 54 #[.val (.ref a1), .val (.ref a2)] [(.int (1 : Int32)), (.int (0 : Int32))])) _
            refine XS.goto X18.here hx rfl (pc0 := 54) (pc' := 58) rfl (hb hby d12_54) (by decide) (by decide) ?_
            show Steps p.tables e below (T18.setTop (mkF m 58 #[.val (.ref a1), .val (.ref a2)] [(.int (1 : Int32)), (.int (0 : Int32))])) _
            refine XS.icmpYes X18.here hx rfl (pc0 := 58) (pc' := 65) rfl (hb hby d12_58) rfl (feq (by decide)).2 (by decide) (by decide) ?_
            show Steps p.tables e below (T18.setTop (mkF m 65 #[.val (.ref a1), .val (.ref a2)] [])) _
            refine XS.iconst X18.here hx rfl (hb hby d12_65) ?_
            exact kz
          refine OG.step s20 ?_
          exact OG.retZ X18 hx hlk Bd.returns (hb hby d12_66) (nar_0) e18 ⟨rfl, N0, rfl⟩ (by decide) (by decide)
        · subst hz19
          have s21 : ∀ tz, Steps p.tables e below (T18.setTop (mkF m 66 #[.val (.ref a1), .val (.ref a2)] [(.int (1 : Int32))])) tz → Steps p.tables e below (T18.setTop (mkF m 50 #[.val (.ref a1), .val (.ref a2)] [(.ref rf19), (.int (0 : Int32))])) tz := by
            intro tz kz
            refine XS.ifnonnullYes X18.here hx rfl (pc0 := 50) (pc' := 57) rfl (hb hby d12_50) rfl (by decide) (by decide) ?_
            show Steps p.tables e below (T18.setTop (mkF m 57 #[.val (.ref a1), .val (.ref a2)] [(.int (0 : Int32))])) _
            refine XS.iconst X18.here hx rfl (hb hby d12_57) ?_
            show Steps p.tables e below (T18.setTop (mkF m 58 #[.val (.ref a1), .val (.ref a2)] [(.int (0 : Int32)), (.int (0 : Int32))])) _
            refine XS.icmpNo X18.here hx rfl (hb hby d12_58) rfl (teq (by decide)).2 ?_
            show Steps p.tables e below (T18.setTop (mkF m 61 #[.val (.ref a1), .val (.ref a2)] [])) _
            refine XS.iconst X18.here hx rfl (hb hby d12_61) ?_
            show Steps p.tables e below (T18.setTop (mkF m 62 #[.val (.ref a1), .val (.ref a2)] [(.int (1 : Int32))])) _
            refine XS.goto X18.here hx rfl (pc0 := 62) (pc' := 66) rfl (hb hby d12_62) (by decide) (by decide) ?_
            exact kz
          refine OG.step s21 ?_
          exact OG.retZ X18 hx hlk Bd.returns (hb hby d12_66) (nar_1) e18 ⟨rfl, N0, rfl⟩ (by decide) (by decide)
    · subst hz6
      have s22 : ∀ tz, Steps p.tables e below (T5.setTop (mkF m 66 #[.val (.ref a1), .val (.ref a2)] [(.int (0 : Int32))])) tz → Steps p.tables e below (T5.setTop (mkF m 16 #[.val (.ref a1), .val (.ref a2)] [(.ref rf6), (.int (1 : Int32))])) tz := by
        intro tz kz
        refine XS.ifnonnullYes X5.here hx rfl (pc0 := 16) (pc' := 23) rfl (hb hby d12_16) rfl (by decide) (by decide) ?_
        show Steps p.tables e below (T5.setTop (mkF m 23 #[.val (.ref a1), .val (.ref a2)] [(.int (1 : Int32))])) _
        refine XS.iconst X5.here hx rfl (hb hby d12_23) ?_
        show Steps p.tables e below (T5.setTop (mkF m 24 #[.val (.ref a1), .val (.ref a2)] [(.int (0 : Int32)), (.int (1 : Int32))])) _
        refine XS.icmpYes X5.here hx rfl (pc0 := 24) (pc' := 65) rfl (hb hby d12_24) rfl (feq (by decide)).2 (by decide) (by decide) ?_
        show Steps p.tables e below (T5.setTop (mkF m 65 #[.val (.ref a1), .val (.ref a2)] [])) _
        refine XS.iconst X5.here hx rfl (hb hby d12_65) ?_
        exact kz
      refine OG.step s22 ?_
      exact OG.retZ X5 hx hlk Bd.returns (hb hby d12_66) (nar_0) e5 ⟨rfl, N0, rfl⟩ (by decide) (by decide)
  · subst hz3
    have s23 : ∀ tz, Steps p.tables e below (T2.setTop (mkF m 13 #[.val (.ref a1), .val (.ref a2)] [(.ref a2), (.int (0 : Int32))])) tz → Steps p.tables e below (T2.setTop (mkF m 4 #[.val (.ref a1), .val (.ref a2)] [(.ref rf3)])) tz := by
      intro tz kz
      refine XS.ifnonnullYes X2.here hx rfl (pc0 := 4) (pc' := 11) rfl (hb hby d12_4) rfl (by decide) (by decide) ?_
      show Steps p.tables e below (T2.setTop (mkF m 11 #[.val (.ref a1), .val (.ref a2)] [])) _
      refine XS.iconst X2.here hx rfl (hb hby d12_11) ?_
      show Steps p.tables e below (T2.setTop (mkF m 12 #[.val (.ref a1), .val (.ref a2)] [(.int (0 : Int32))])) _
      refine XS.aloadN X2.here hx rfl (hb hby d12_12) rfl rfl ?_
      exact kz
    refine OG.step s23 ?_
    obtain ⟨T24, X24, e24, st24⟩ := getF X2 hx hZ hown (host := "") (Or.inl (hw _ (List.mem_of_getElem? (i := 72) rfl))) Via.refl e2 F2_a2_visit (g := (mkF m 13 #[.val (.ref a1), .val (.ref a2)] [(.ref a2), (.int (0 : Int32))])) rfl rfl (hb hby d12_13)
    refine OG.step st24 ?_
    show OG _ _ _ _ _ _ _ (T24.setTop (mkF m 16 #[.val (.ref a1), .val (.ref a2)] [vv2, (.int (0 : Int32))]))
    rcases h3 with hz25 | ⟨rf25, hz25⟩
    · subst hz25
      have s26 : ∀ tz, Steps p.tables e below (T24.setTop (mkF m 66 #[.val (.ref a1), .val (.ref a2)] [(.int (0 : Int32))])) tz → Steps p.tables e below (T24.setTop (mkF m 16 #[.val (.ref a1), .val (.ref a2)] [.null, (.int (0 : Int32))])) tz := by
        intro tz kz
        refine XS.ifnonnullNo X24.here hx rfl (hb hby d12_16) rfl ?_
        show Steps p.tables e below (T24.setTop (mkF m 19 #[.val (.ref a1), .val (.ref a2)] [(.int (0 : Int32))])) _
        refine XS.iconst X24.here hx rfl (hb hby d12_19) ?_
        show Steps p.tables e below (T24.setTop (mkF m 20 #[.val (.ref a1), .val (.ref a2)] [(.int (1 : Int32)), (.int (0 : Int32))])) _
        refine XS.goto X24.here hx rfl (pc0 := 20) (pc' := 24) rfl (hb hby d12_20) (by decide) (by decide) ?_
        show Steps p.tables e below (T24.setTop (mkF m 24 #[.val (.ref a1), .val (.ref a2)] [(.int (1 : Int32)), (.int (0 : Int32))])) _
        refine XS.icmpYes X24.here hx rfl (pc0 := 24) (pc' := 65) rfl (hb hby d12_24) rfl (feq (by decide)).2 (by decide) (by decide) ?_
        show Steps p.tables e below (T24.setTop (mkF m 65 #[.val (.ref a1), .val (.ref a2)] [])) _
        refine XS.iconst X24.here hx rfl (hb hby d12_65) ?_
        exact kz
      refine OG.step s26 ?_
      exact OG.retZ X24 hx hlk Bd.returns (hb hby d12_66) (nar_0) e24 ⟨rfl, N0, rfl⟩ (by decide) (by decide)
    · subst hz25
      have s27 : ∀ tz, Steps p.tables e below (T24.setTop (mkF m 28 #[.val (.ref a1), .val (.ref a2)] [(.ref a1)])) tz → Steps p.tables e below (T24.setTop (mkF m 16 #[.val (.ref a1), .val (.ref a2)] [(.ref rf25), (.int (0 : Int32))])) tz := by
        intro tz kz
        refine XS.ifnonnullYes X24.here hx rfl (pc0 := 16) (pc' := 23) rfl (hb hby d12_16) rfl (by decide) (by decide) ?_
        show Steps p.tables e below (T24.setTop (mkF m 23 #[.val (.ref a1), .val (.ref a2)] [(.int (0 : Int32))])) _
        refine XS.iconst X24.here hx rfl (hb hby d12_23) ?_
        show Steps p.tables e below (T24.setTop (mkF m 24 #[.val (.ref a1), .val (.ref a2)] [(.int (0 : Int32)), (.int (0 : Int32))])) _
        refine XS.icmpNo X24.here hx rfl (hb hby d12_24) rfl (teq (by decide)).2 ?_
        show Steps p.tables e below (T24.setTop (mkF m 27 #[.val (.ref a1), .val (.ref a2)] [])) _
        refine XS.aloadN X24.here hx rfl (hb hby d12_27) rfl rfl ?_
        exact kz
      refine OG.step s27 ?_
      obtain ⟨T28, X28, e28, st28⟩ := getF X24 hx hZ hown (host := "") (Or.inl (hw _ (List.mem_of_getElem? (i := 72) rfl))) Via.refl e24 F0_a1_visit (g := (mkF m 28 #[.val (.ref a1), .val (.ref a2)] [(.ref a1)])) rfl rfl (hb hby d12_28)
      refine OG.step st28 ?_
      show OG _ _ _ _ _ _ _ (T28.setTop (mkF m 31 #[.val (.ref a1), .val (.ref a2)] [(.ref rf3)]))
      have s29 : ∀ tz, Steps p.tables e below (T28.setTop (mkF m 66 #[.val (.ref a1), .val (.ref a2)] [(.int (1 : Int32))])) tz → Steps p.tables e below (T28.setTop (mkF m 31 #[.val (.ref a1), .val (.ref a2)] [(.ref rf3)])) tz := by
        intro tz kz
        refine XS.ifnonnullYes X28.here hx rfl (pc0 := 31) (pc' := 61) rfl (hb hby d12_31) rfl (by decide) (by decide) ?_
        show Steps p.tables e below (T28.setTop (mkF m 61 #[.val (.ref a1), .val (.ref a2)] [])) _
        refine XS.iconst X28.here hx rfl (hb hby d12_61) ?_
        show Steps p.tables e below (T28.setTop (mkF m 62 #[.val (.ref a1), .val (.ref a2)] [(.int (1 : Int32))])) _
        refine XS.goto X28.here hx rfl (pc0 := 62) (pc' := 66) rfl (hb hby d12_62) (by decide) (by decide) ?_
        exact kz
      refine OG.step s29 ?_
      exact OG.retZ X28 hx hlk Bd.returns (hb hby d12_66) (nar_1) e28 ⟨rfl, N0, rfl⟩ (by decide) (by decide)
def own_lv (a v : Int32) : Int32 := if v = (0 : Int32) then (if a = (0 : Int32) then 0 else 1) else 2
theorem d11_0 : decode method_3_code 0 = .ok (.iload_n 1, 1) := by decide +kernel
theorem d11_1 : decode method_3_code 1 = .ok (.ifCond .eq 5, 3) := by decide +kernel
theorem d11_4 : decode method_3_code 4 = .ok (.iconst 2, 1) := by decide +kernel
theorem d11_5 : decode method_3_code 5 = .ok (.ireturn, 1) := by decide +kernel
theorem d11_6 : decode method_3_code 6 = .ok (.iload_n 0, 1) := by decide +kernel
theorem d11_7 : decode method_3_code 7 = .ok (.ifCond .eq 5, 3) := by decide +kernel
theorem d11_10 : decode method_3_code 10 = .ok (.iconst 1, 1) := by decide +kernel
theorem d11_11 : decode method_3_code 11 = .ok (.ireturn, 1) := by decide +kernel
theorem d11_12 : decode method_3_code 12 = .ok (.iconst 0, 1) := by decide +kernel
theorem d11_13 : decode method_3_code 13 = .ok (.ireturn, 1) := by decide +kernel
theorem pn_com_example_mergeward_mergeward_core_RecordPathSameLevelAsPinLaw : plainName "com/example/mergeward/mergeward/core/RecordPathSameLevelAsPinLaw" = true := by first | (simp [plainName, overriddenIn]; done) | decide +kernel
theorem ef_11 (m : MethodId) (x0 : Int32) (x1 : Int32) : entryFrame m #[(.int x0), (.int x1)] 2 = mkF m 0 #[.val (.int x0), .val (.int x1)] [] := by first | (simp [entryFrame, mkF, argsToLocals, Value.category]; done) | rfl
def Q11 (Z : State) (p0 : Int32) (p1 : Int32) (h0 : Heap) (n0 : Nat) (v : Option Value) (h : Heap) (L : List Loc) : Prop := (v = some (.int (own_lv p0 p1))) ∧ (Fr n0 L) ∧ (h = h0)
abbrev rom_11 : Room := { frames := 0, cells := 0, slots := 0, locals := 0 }
set_option maxRecDepth 65536 in
set_option maxHeartbeats 40000000 in
theorem rm11 (l : Launch) (Z : State) (a0 : Array Value) (hw : ∀ d ∈ tables_1, d.before a0 Z = true) (ws : List Jvm.Cond) (p0 : Int32) (p1 : Int32) (h0 : Heap) (n0 : Nat) (Z0 : n0 ≤ h0.size) :
    MetFree l (⟨"com/example/mergeward/mergeward/core/RecordPathSameLevelAsPinLaw", "level", "(ZZ)I"⟩ : MethodName) (head1 (Jvm.Cond.code (⟨"com/example/mergeward/mergeward/core/RecordPathSameLevelAsPinLaw", "level", "(ZZ)I"⟩ : MethodName) method_3_code 2 (some .int) :: ws) rom_11) (fun a U => a = #[(.int p0), (.int p1)] ∧ Z.Warmed39 U.vm ∧ U.heap = h0) (fun _ _ _ _ _ => True) (fun _ U o U' => ∃ v L, o = .returned v ∧ Q11 Z p0 p1 h0 n0 v U'.heap L ∧ FrameEnd U o U' L rom_11.cells rom_11.slots) := by
  refine MetFree.of_bodySF (plainFor_of_name pn_com_example_mergeward_mergeward_core_RecordPathSameLevelAsPinLaw) hisR ?_
  intro p e s m args below meth c s₁ Bd hml0 hP hK
  obtain ⟨rfl, hZ, hh⟩ := hP
  have hx := Bd.exec
  have hby := Bd.bytes
  have hlk := Bd.notSynchronized
  have hml : c.maxLocals = 2 := hml0
  have hown : s.vm.findClass "com/example/mergeward/mergeward/core/RecordPathSameLevelAsPinLaw" = some m.cls := findClass_of_methodNamed Bd.named
  have hnm := (name_of_methodNamed Bd.named Bd.method).1
  have X0 : Stand p l e rom_11 s m #[(.int p0), (.int p1)] below meth c s₁ [] 0 0 := Stand.of_body Bd
  have e0 : s₁.heap = h0 := by rw [← hh, Bd.state]; rfl
  have N0 := Fr.nil n0
  have K0 : Keep h0 h0 [] := Keep.refl _ _
  refine (?_ : OG p e below s (Q11 Z p0 p1 h0 n0) rom_11.cells rom_11.slots _)
  rw [ef_11]
  have s1 : ∀ tz, Steps p.tables e below (s₁.setTop (mkF m 1 #[.val (.int p0), .val (.int p1)] [(.int p1)])) tz → Steps p.tables e below (s₁.setTop (mkF m 0 #[.val (.int p0), .val (.int p1)] [])) tz := by
    intro tz kz
    refine XS.iloadN X0.here hx rfl (hb hby d11_0) rfl ?_
    exact kz
  refine OG.step s1 ?_
  by_cases hc1 : p1 = (0 : Int32)
  · have s2 : ∀ tz, Steps p.tables e below (s₁.setTop (mkF m 7 #[.val (.int p0), .val (.int p1)] [(.int p0)])) tz → Steps p.tables e below (s₁.setTop (mkF m 1 #[.val (.int p0), .val (.int p1)] [(.int p1)])) tz := by
      intro tz kz
      refine XS.ifYes X0.here hx rfl (pc0 := 1) (pc' := 6) rfl (hb hby d11_1) rfl ((if0 _ _).trans (teq hc1).1) (by decide) (by decide) ?_
      show Steps p.tables e below (s₁.setTop (mkF m 6 #[.val (.int p0), .val (.int p1)] [])) _
      refine XS.iloadN X0.here hx rfl (hb hby d11_6) rfl ?_
      exact kz
    refine OG.step s2 ?_
    by_cases hc7 : p0 = (0 : Int32)
    · have s3 : ∀ tz, Steps p.tables e below (s₁.setTop (mkF m 13 #[.val (.int p0), .val (.int p1)] [(.int (0 : Int32))])) tz → Steps p.tables e below (s₁.setTop (mkF m 7 #[.val (.int p0), .val (.int p1)] [(.int p0)])) tz := by
        intro tz kz
        refine XS.ifYes X0.here hx rfl (pc0 := 7) (pc' := 12) rfl (hb hby d11_7) rfl ((if0 _ _).trans (teq hc7).1) (by decide) (by decide) ?_
        show Steps p.tables e below (s₁.setTop (mkF m 12 #[.val (.int p0), .val (.int p1)] [])) _
        refine XS.iconst X0.here hx rfl (hb hby d11_12) ?_
        exact kz
      refine OG.step s3 ?_
      exact OG.retI X0 hx hlk Bd.returns (hb hby d11_13) e0 ⟨(by simp [own_lv, hc1, hc7]), N0, rfl⟩ (by decide) (by decide)
    · have s4 : ∀ tz, Steps p.tables e below (s₁.setTop (mkF m 11 #[.val (.int p0), .val (.int p1)] [(.int (1 : Int32))])) tz → Steps p.tables e below (s₁.setTop (mkF m 7 #[.val (.int p0), .val (.int p1)] [(.int p0)])) tz := by
        intro tz kz
        refine XS.ifNo X0.here hx rfl (hb hby d11_7) rfl ((if0 _ _).trans (feq hc7).1) ?_
        show Steps p.tables e below (s₁.setTop (mkF m 10 #[.val (.int p0), .val (.int p1)] [])) _
        refine XS.iconst X0.here hx rfl (hb hby d11_10) ?_
        exact kz
      refine OG.step s4 ?_
      exact OG.retI X0 hx hlk Bd.returns (hb hby d11_11) e0 ⟨(by simp [own_lv, hc1, hc7]), N0, rfl⟩ (by decide) (by decide)
  · have s5 : ∀ tz, Steps p.tables e below (s₁.setTop (mkF m 5 #[.val (.int p0), .val (.int p1)] [(.int (2 : Int32))])) tz → Steps p.tables e below (s₁.setTop (mkF m 1 #[.val (.int p0), .val (.int p1)] [(.int p1)])) tz := by
      intro tz kz
      refine XS.ifNo X0.here hx rfl (hb hby d11_1) rfl ((if0 _ _).trans (feq hc1).1) ?_
      show Steps p.tables e below (s₁.setTop (mkF m 4 #[.val (.int p0), .val (.int p1)] [])) _
      refine XS.iconst X0.here hx rfl (hb hby d11_4) ?_
      exact kz
    refine OG.step s5 ?_
    exact OG.retI X0 hx hlk Bd.returns (hb hby d11_5) e0 ⟨(by simp [own_lv, hc1]), N0, rfl⟩ (by decide) (by decide)
theorem own_key (A1 V1 A2 V2 : Prop) [Decidable A1] [Decidable V1] [Decidable A2] [Decidable V2] (a b c d : Addr) : (own_sl (if V1 then (.ref a) else .null) (if A1 then (.ref b) else .null) (if V2 then (.ref c) else .null) (if A2 then (.ref d) else .null) = true) ↔ (own_lv (bI A1) (bI V1) = own_lv (bI A2) (bI V2)) := by
  by_cases h1 : A1 <;> by_cases h2 : V1 <;> by_cases h3 : A2 <;> by_cases h4 : V2 <;> simp [h1, h2, h3, h4, own_sl, own_nl, own_lv, bI]
theorem ef_0 (m : MethodId) (x0 : Int32) (x1 : Int32) (x2 : Int32) : entryFrame m #[(.int x0), (.int x1), (.int x2)] maxLocals = mkF m 0 #[.val (.int x0), .val (.int x1), .val (.int x2), .unset, .unset, .unset, .unset, .unset, .unset, .unset, .unset, .unset] [] := by first | (simp [entryFrame, mkF, argsToLocals, Value.category, maxLocals]; done) | rfl
def Q0 (Z : State) (p0 : Int32) (p1 : Int32) (p2 : Int32) (wz : Int32) (h0 : Heap) (n0 : Nat) (v : Option Value) (h : Heap) (L : List Loc) : Prop := (v = some (.int (1 : Int32))) ∧ (Fr n0 L)
theorem pd__C_Ljava_lang_String_ : parseMethodDescriptor "(C)Ljava/lang/String;" = some ⟨[.char], some (.object "java/lang/String")⟩ := by decide +kernel
theorem pd__Ljava_lang_String_Ljava_lang_String_Ljava_lang_String__V : parseMethodDescriptor "(Ljava/lang/String;Ljava/lang/String;Ljava/lang/String;)V" = some ⟨[(.object "java/lang/String"), (.object "java/lang/String"), (.object "java/lang/String")], none⟩ := by decide +kernel
theorem pd__Lcom_example_mergeward_mergeward_core_Identifier_Lcom_example_mergeward_mergeward_core_Identifier_Lcom_example_mergeward_mergeward_core_Identifier__V : parseMethodDescriptor "(Lcom/example/mergeward/mergeward/core/Identifier;Lcom/example/mergeward/mergeward/core/Identifier;Lcom/example/mergeward/mergeward/core/Identifier;)V" = some ⟨[(.object "com/example/mergeward/mergeward/core/Identifier"), (.object "com/example/mergeward/mergeward/core/Identifier"), (.object "com/example/mergeward/mergeward/core/Identifier")], none⟩ := by decide +kernel
theorem pd__ZZ_I : parseMethodDescriptor "(ZZ)I" = some ⟨[.boolean, .boolean], some .int⟩ := by decide +kernel
theorem pd__Lcom_example_mergeward_mergeward_core_RecordPath__Z : parseMethodDescriptor "(Lcom/example/mergeward/mergeward/core/RecordPath;)Z" = some ⟨[(.object "com/example/mergeward/mergeward/core/RecordPath")], some .boolean⟩ := by decide +kernel
set_option maxRecDepth 65536 in
set_option maxHeartbeats 40000000 in
theorem rm0 (l : Launch) (Z : State) (a0 : Array Value) (hw : ∀ d ∈ tables_1, d.before a0 Z = true) (ws : List Jvm.Cond) (p0 : Int32) (p1 : Int32) (p2 : Int32) (wz : Int32) (h0 : Heap) (n0 : Nat) (Z0 : n0 ≤ h0.size) (hOld : Old Z n0 h0) (hS : Sta Z Z.heap "java/lang/String" "COMPACT_STRINGS" "Z" (.int wz)) (hnz : ¬ wz = (0 : Int32)) :
    MetFree l x (head1 (Jvm.Cond.code x code maxLocals ret :: ws) room_1) (fun a U => a = #[(.int p0), (.int p1), (.int p2)] ∧ Z.Warmed39 U.vm ∧ U.heap = h0) (fun _ _ _ _ _ => True) (fun _ U o U' => ∃ v L, o = .returned v ∧ Q0 Z p0 p1 p2 wz h0 n0 v U'.heap L ∧ ReturnedEndW U o U' L room_1.cells room_1.slots) := by
  refine MetFree.of_bodySF (plainFor_of_name pn_com_example_mergeward_mergeward_core_RecordPathSameLevelAsPinLaw) hisR ?_
  intro p e s m args below meth c s₁ Bd hml0 hP hK
  obtain ⟨rfl, hZ, hh⟩ := hP
  have hx := Bd.exec
  have hby := Bd.bytes
  have hlk := Bd.notSynchronized
  have hml : c.maxLocals = 12 := hml0
  have hown : s.vm.findClass "com/example/mergeward/mergeward/core/RecordPathSameLevelAsPinLaw" = some m.cls := findClass_of_methodNamed Bd.named
  have hnm := (name_of_methodNamed Bd.named Bd.method).1
  have X0s : Stand p l e room_1 s m #[(.int p0), (.int p1), (.int p2)] below meth c s₁ [] 0 0 := Stand.of_body Bd
  have X0 : Stand p l e room_1 (s.setVm s.vm) m #[(.int p0), (.int p1), (.int p2)] below meth c s₁ [] 0 0 := X0s
  have hS0 : s.Since s.vm 0 := (State.WarmedH.refl s).since 0
  have hk0 : 0 ≤ h0.size := Nat.zero_le _
  have wS := own_wS hw
  have e0 : s₁.heap = h0 := by rw [← hh, Bd.state]; rfl
  have N0 := Fr.nil n0
  have K0 : Keep h0 h0 [] := Keep.refl _ _
  refine (?_ : OGW p e below s (Q0 Z p0 p1 p2 wz h0 n0) room_1.cells room_1.slots _)
  rw [ef_0]
  obtain ⟨T1, h1, X1, e1, E1, A1, D1, -, st1⟩ := newO X0 hx hZ hown (hw _ (List.mem_of_getElem? (i := 0) rfl)) (hw _ (List.mem_of_getElem? (i := 1) rfl)) (hw _ (List.mem_of_getElem? (i := 2) rfl)) e0 (g := (mkF m 0 #[.val (.int p0), .val (.int p1), .val (.int p2), .unset, .unset, .unset, .unset, .unset, .unset, .unset, .unset, .unset] [])) rfl (hb hby at_0) (by decide) (by decide)
  obtain ⟨b1, g1⟩ : ∃ z, z = h0.size := ⟨_, rfl⟩
  rw [← g1] at A1 D1 st1
  have sz1 : h0.size ≤ b1 := Nat.le_trans K0.1 (Nat.le_of_eq g1.symm)
  have ge1 : n0 ≤ b1 := Nat.le_trans Z0 sz1
  refine OGW.step st1 ?_
  have f2 := hOld.ext E1
  have F1_value : Fld Z h1 b1 "com/example/mergeward/mergeward/core/Identifier" "value" "Ljava/lang/String;" .null := D1 (Or.inr (hw _ (List.mem_of_getElem? (i := 54) rfl))) (ty := (.object "java/lang/String")) (by decide)
  have F1_assigningAuthority : Fld Z h1 b1 "com/example/mergeward/mergeward/core/Identifier" "assigningAuthority" "Ljava/lang/String;" .null := D1 (Or.inr (hw _ (List.mem_of_getElem? (i := 56) rfl))) (ty := (.object "java/lang/String")) (by decide)
  have F1_typeCode : Fld Z h1 b1 "com/example/mergeward/mergeward/core/Identifier" "typeCode" "Ljava/lang/String;" .null := D1 (Or.inr (hw _ (List.mem_of_getElem? (i := 58) rfl))) (ty := (.object "java/lang/String")) (by decide)
  have K1 := K0.ext E1
  have hk3 := Nat.le_trans hk0 E1.1
  show OGW _ _ _ _ _ _ _ (T1.setTop (mkF m 3 #[.val (.int p0), .val (.int p1), .val (.int p2), .unset, .unset, .unset, .unset, .unset, .unset, .unset, .unset, .unset] [(.ref b1)]))
  have s4 : ∀ tz, Steps p.tables e below (T1.setTop (mkF m 10 #[.val (.int p0), .val (.int p1), .val (.int p2), .unset, .unset, .unset, .unset, .unset, .unset, .unset, .unset, .unset] [(.int ((p1 &&& (255 : Int32)).toUInt32.toUInt16.toUInt32.toInt32)), (.ref b1), (.ref b1)])) tz → Steps p.tables e below (T1.setTop (mkF m 3 #[.val (.int p0), .val (.int p1), .val (.int p2), .unset, .unset, .unset, .unset, .unset, .unset, .unset, .unset, .unset] [(.ref b1)])) tz := by
    intro tz kz
    refine XS.dup X1.here hx rfl (hb hby at_3) rfl rfl ?_
    show Steps p.tables e below (T1.setTop (mkF m 4 #[.val (.int p0), .val (.int p1), .val (.int p2), .unset, .unset, .unset, .unset, .unset, .unset, .unset, .unset, .unset] [(.ref b1), (.ref b1)])) _
    refine XS.iloadN X1.here hx rfl (hb hby at_4) rfl ?_
    show Steps p.tables e below (T1.setTop (mkF m 5 #[.val (.int p0), .val (.int p1), .val (.int p2), .unset, .unset, .unset, .unset, .unset, .unset, .unset, .unset, .unset] [(.int p1), (.ref b1), (.ref b1)])) _
    refine XS.sipush X1.here hx rfl (hb hby at_5) ?_
    show Steps p.tables e below (T1.setTop (mkF m 8 #[.val (.int p0), .val (.int p1), .val (.int p2), .unset, .unset, .unset, .unset, .unset, .unset, .unset, .unset, .unset] [(.int (255 : Int32)), (.int p1), (.ref b1), (.ref b1)])) _
    refine XS.iand X1.here hx rfl (hb hby at_8) rfl ?_
    show Steps p.tables e below (T1.setTop (mkF m 9 #[.val (.int p0), .val (.int p1), .val (.int p2), .unset, .unset, .unset, .unset, .unset, .unset, .unset, .unset, .unset] [(.int (p1 &&& (255 : Int32))), (.ref b1), (.ref b1)])) _
    refine XS.i2c X1.here hx rfl (hb hby at_9) rfl ?_
    exact kz
  refine OGW.step s4 ?_
  obtain ⟨_, _, ⟨T5, L5, k5, n5⟩, -, X5, ⟨Lc5, hQ5, l5, y5, z5⟩, st5⟩ := Jvm.LawKit.callS X1 hx (y := (⟨"java/lang/String", "valueOf", "(C)Ljava/lang/String;"⟩ : MethodName)) hown (mvT hZ (hw _ (List.mem_of_getElem? (i := 3) rfl))) (mvT hZ (hw _ (List.mem_of_getElem? (i := 4) rfl))) (mvT hZ (hw _ (List.mem_of_getElem? (i := 5) rfl))) (mvT hZ (hw _ (List.mem_of_getElem? (i := 6) rfl))) (by decide) (backOf (W := 2) (rm1 l Z a0 hw [] ((p1 &&& (255 : Int32)).toUInt32.toUInt16.toUInt32.toInt32) wz h1 n0 (Nat.le_trans Z0 K1.1) (hS.ext f2.2) hnz (own_chr p1)) hZ (hw _ (List.mem_of_getElem? (i := 6) rfl)) (hw _ (List.mem_of_getElem? (i := 5) rfl)) (by decide) (by decide)) (g := (mkF m 10 #[.val (.int p0), .val (.int p1), .val (.int p2), .unset, .unset, .unset, .unset, .unset, .unset, .unset, .unset, .unset] [(.int ((p1 &&& (255 : Int32)).toUInt32.toUInt16.toUInt32.toInt32)), (.ref b1), (.ref b1)])) rfl (by rw [hml]; rfl) (argsL := [(.int ((p1 &&& (255 : Int32)).toUInt32.toUInt16.toUInt32.toInt32))]) (rest := [(.ref b1), (.ref b1)]) (lenOf pd__C_Ljava_lang_String_ rfl) rfl (by show 2 * 0 + _ ≤ _; exact Nat.le_of_eq rfl) (hb hby at_10) (fun _ _ => ⟨rfl, e1, (by decide : 1 + 2 ≤ _), (by decide : 3 + 5 ≤ _)⟩)
  dsimp only [Pt.U, Pt.locs, Pt.cells, Pt.slots] at X5 l5 y5 z5 st5 hQ5
  subst l5 y5 z5
  obtain ⟨s1_5, b1_5, kb_5, w1_5, rfl, N5q, Kc5, p5_0, p5_1, p5_2, u5_0, u5_1, u5_2⟩ := hQ5
  have N5 := Fr.app N0 N5q
  refine OGW.step st5 ?_
  have f6 := f2.keep Kc5 all0
  have f7 := A1.keep Kc5
  have f8 := F1_value.keep Kc5 nin0
  have f9 := F1_assigningAuthority.keep Kc5 nin0
  have f10 := F1_typeCode.keep Kc5 nin0
  have hk11 := Nat.le_trans hk3 Kc5.1
  have K5 := K1.trans Kc5 all0
  obtain ⟨Lz12, X5, N5⟩ : ∃ Lz, Stand p l e room_1 (s.setVm s.vm) m #[(.int p0), (.int p1), (.int p2)] below meth c T5 Lz 3 8 ∧ Fr n0 Lz := ⟨_, X5, N5⟩
  have sz5_s1_5 : h0.size ≤ s1_5 := Nat.le_trans K1.1 u5_0
  have ge5_s1_5 : n0 ≤ s1_5 := Nat.le_trans Z0 sz5_s1_5
  have ne5_b1_s1_5 : b1 ≠ s1_5 := Nat.ne_of_lt (Nat.lt_of_lt_of_le A1.lt u5_0)
  have sz5_b1_5 : h0.size ≤ b1_5 := Nat.le_trans K1.1 u5_1
  have ge5_b1_5 : n0 ≤ b1_5 := Nat.le_trans Z0 sz5_b1_5
  have ne5_b1_b1_5 : b1 ≠ b1_5 := Nat.ne_of_lt (Nat.lt_of_lt_of_le A1.lt u5_1)
  show OGW _ _ _ _ _ _ _ (T5.setTop (mkF m 13 #[.val (.int p0), .val (.int p1), .val (.int p2), .unset, .unset, .unset, .unset, .unset, .unset, .unset, .unset, .unset] [(.ref s1_5), (.ref b1), (.ref b1)]))
  obtain ⟨a13, T13, h13, k13, X13, e13, E13, hS13, hk13, hZ, hown, st13⟩ := ldcS X5 hx hZ hown (hw _ (List.mem_of_getElem? (i := 29) rfl)) wS rfl hS0 hk11 (g := (mkF m 13 #[.val (.int p0), .val (.int p1), .val (.int p2), .unset, .unset, .unset, .unset, .unset, .unset, .unset, .unset, .unset] [(.ref s1_5), (.ref b1), (.ref b1)])) rfl (hb hby at_13) (n := 0) (by first | decide | decide +kernel) (by decide) (by decide) (by decide)
  refine OGW.step st13 ?_
  have f14 := f6.ext E13
  have f15 := f7.ext E13
  have f16 := f8.ext E13
  have f17 := f9.ext E13
  have f18 := f10.ext E13
  have f19 := p5_0.ext E13
  have f20 := p5_1.ext E13
  have f21 := p5_2.ext E13
  have K13 := K5.ext E13
  show OGW _ _ _ _ _ _ _ (T13.setTop (mkF m 15 #[.val (.int p0), .val (.int p1), .val (.int p2), .unset, .unset, .unset, .unset, .unset, .unset, .unset, .unset, .unset] [(.ref a13), (.ref s1_5), (.ref b1), (.ref b1)]))
  obtain ⟨a22, T22, h22, k22, X22, e22, E22, hS22, hk22, hZ, hown, st22⟩ := ldcS X13 hx hZ hown (hw _ (List.mem_of_getElem? (i := 29) rfl)) wS e13 hS13 hk13 (g := (mkF m 15 #[.val (.int p0), .val (.int p1), .val (.int p2), .unset, .unset, .unset, .unset, .unset, .unset, .unset, .unset, .unset] [(.ref a13), (.ref s1_5), (.ref b1), (.ref b1)])) rfl (hb hby at_15) (n := 0) (by first | decide | decide +kernel) (by decide) (by decide) (by decide)
  refine OGW.step st22 ?_
  have f23 := f14.ext E22
  have f24 := f15.ext E22
  have f25 := f16.ext E22
  have f26 := f17.ext E22
  have f27 := f18.ext E22
  have f28 := f19.ext E22
  have f29 := f20.ext E22
  have f30 := f21.ext E22
  have K22 := K13.ext E22
  show OGW _ _ _ _ _ _ _ (T22.setTop (mkF m 17 #[.val (.int p0), .val (.int p1), .val (.int p2), .unset, .unset, .unset, .unset, .unset, .unset, .unset, .unset, .unset] [(.ref a22), (.ref a13), (.ref s1_5), (.ref b1), (.ref b1)]))
  obtain ⟨_, _, ⟨T31, L31, k31, n31⟩, -, X31, hSn31, hgr31, ⟨Lc31, hQ31, l31, y31, z31⟩, st31⟩ := X22.specialBackS hx (y := (⟨"com/example/mergeward/mergeward/core/Identifier", "<init>", "(Ljava/lang/String;Ljava/lang/String;Ljava/lang/String;)V"⟩ : MethodName)) rfl hown (mvT hZ (hw _ (List.mem_of_getElem? (i := 32) rfl))) (mvT hZ (hw _ (List.mem_of_getElem? (i := 33) rfl))) (mvT hZ (hw _ (List.mem_of_getElem? (i := 34) rfl))) (by decide) (backOfS (W := 1) (rm6 l Z a0 hw [] b1 s1_5 a13 a22 .null .null .null b1_5 kb_5 w1_5 h22 n0 (Nat.le_trans Z0 K22.1) f24 f25 f26 f27 f28 f29 f30 ne5_b1_s1_5 ne5_b1_b1_5 ge1) hZ (hw _ (List.mem_of_getElem? (i := 34) rfl)) (hw _ (List.mem_of_getElem? (i := 2) rfl)) (by decide) (by decide)) (g := (mkF m 17 #[.val (.int p0), .val (.int p1), .val (.int p2), .unset, .unset, .unset, .unset, .unset, .unset, .unset, .unset, .unset] [(.ref a22), (.ref a13), (.ref s1_5), (.ref b1), (.ref b1)])) rfl (by rw [hml]; rfl) (Steps.refl _) (a := b1) (argsL := [(.ref s1_5), (.ref a13), (.ref a22)]) (rest := [(.ref b1)]) (lenOf pd__Ljava_lang_String_Ljava_lang_String_Ljava_lang_String__V rfl) rfl (by show 2 * 0 + _ ≤ _; exact Nat.le_of_eq rfl) (hb hby at_17) (fun _ _ => ⟨rfl, e22, (by decide : 7 + 6 ≤ _), (by decide : 16 + 136 ≤ _)⟩)
  dsimp only [Pt.U, Pt.locs, Pt.cells, Pt.slots] at hSn31 hgr31
  dsimp only [Pt.U, Pt.locs, Pt.cells, Pt.slots] at X31 l31 y31 z31 st31 hQ31
  subst l31 y31 z31
  obtain ⟨rfl, N31q, Kc31⟩ := hQ31
  have N31 := Fr.app N5 N31q
  have hkT31 : _ ≤ T22.heap.size := (by rw [e22]; exact hk22)
  obtain ⟨X31, hS31, hZ, hown⟩ := rebS hS22 hkT31 X31 hSn31 hgr31 hZ hown
  refine OGW.step (fun tz kz => st31.trans kz) ?_
  have f32 := f23.keep Kc31 (allS ge1 all0)
  have f33 := f24.keep Kc31
  have f37 := f28.keep Kc31
  have f38 := f29.keep Kc31 (ninS (Ne.symm ne5_b1_s1_5) nin0)
  have f39 := f30.keep Kc31 (ninS (Ne.symm ne5_b1_b1_5) nin0)
  have K31 := K22.trans Kc31 (allS (Or.inr sz1) all0)
  obtain ⟨Lz40, X31, N31⟩ : ∃ Lz, Stand p l e room_1 (s.setVm T31.vm) m #[(.int p0), (.int p1), (.int p2)] below meth c T31 Lz 13 152 ∧ Fr n0 Lz := ⟨_, X31, N31⟩
  show OGW _ _ _ _ _ _ _ (T31.setTop (mkF m 20 #[.val (.int p0), .val (.int p1), .val (.int p2), .unset, .unset, .unset, .unset, .unset, .unset, .unset, .unset, .unset] [(.ref b1)]))
  have s41 : ∀ tz, Steps p.tables e below (T31.setTop (mkF m 21 #[.val (.int p0), .val (.int p1), .val (.int p2), .val (.ref b1), .unset, .unset, .unset, .unset, .unset, .unset, .unset, .unset] [])) tz → Steps p.tables e below (T31.setTop (mkF m 20 #[.val (.int p0), .val (.int p1), .val (.int p2), .unset, .unset, .unset, .unset, .unset, .unset, .unset, .unset, .unset] [(.ref b1)])) tz := by
    intro tz kz
    refine XS.astoreN X31.here hx rfl (hb hby at_20) rfl rfl (l' := #[.val (.int p0), .val (.int p1), .val (.int p2), .val (.ref b1), .unset, .unset, .unset, .unset, .unset, .unset, .unset, .unset]) rfl ?_
    exact kz
  refine OGW.step s41 ?_
  obtain ⟨T42, h42, X42, e42, E42, A42, D42, -, st42⟩ := newO X31 hx hZ hown (hw _ (List.mem_of_getElem? (i := 0) rfl)) (hw _ (List.mem_of_getElem? (i := 1) rfl)) (hw _ (List.mem_of_getElem? (i := 2) rfl)) rfl (g := (mkF m 21 #[.val (.int p0), .val (.int p1), .val (.int p2), .val (.ref b1), .unset, .unset, .unset, .unset, .unset, .unset, .unset, .unset] [])) rfl (hb hby at_21) (by decide) (by decide)
  obtain ⟨b42, g42⟩ : ∃ z, z = T31.heap.size := ⟨_, rfl⟩
  rw [← g42] at A42 D42 st42
  have sz42 : h0.size ≤ b42 := Nat.le_trans K31.1 (Nat.le_of_eq g42.symm)
  have ge42 : n0 ≤ b42 := Nat.le_trans Z0 sz42
  have ne42_b1 : b1 ≠ b42 := Nat.ne_of_lt (Nat.lt_of_lt_of_le f33.lt (Nat.le_of_eq g42.symm))
  have ne42_s1_5 : s1_5 ≠ b42 := Nat.ne_of_lt (Nat.lt_of_lt_of_le f37.lt (Nat.le_of_eq g42.symm))
  have ne42_b1_5 : b1_5 ≠ b42 := Nat.ne_of_lt (Nat.lt_of_lt_of_le f39.lt (Nat.le_of_eq g42.symm))
  refine OGW.step st42 ?_
  have f43 := f32.ext E42
  have f44 := f33.ext E42
  have f45 := f37.ext E42
  have f46 := f38.ext E42
  have f47 := f39.ext E42
  have F42_value : Fld Z h42 b42 "com/example/mergeward/mergeward/core/Identifier" "value" "Ljava/lang/String;" .null := D42 (Or.inr (hw _ (List.mem_of_getElem? (i := 54) rfl))) (ty := (.object "java/lang/String")) (by decide)
  have F42_assigningAuthority : Fld Z h42 b42 "com/example/mergeward/mergeward/core/Identifier" "assigningAuthority" "Ljava/lang/String;" .null := D42 (Or.inr (hw _ (List.mem_of_getElem? (i := 56) rfl))) (ty := (.object "java/lang/String")) (by decide)
  have F42_typeCode : Fld Z h42 b42 "com/example/mergeward/mergeward/core/Identifier" "typeCode" "Ljava/lang/String;" .null := D42 (Or.inr (hw _ (List.mem_of_getElem? (i := 58) rfl))) (ty := (.object "java/lang/String")) (by decide)
  have K42 := K31.ext E42
  have hk48 := Nat.le_trans (Nat.le_refl _) E42.1
  show OGW _ _ _ _ _ _ _ (T42.setTop (mkF m 24 #[.val (.int p0), .val (.int p1), .val (.int p2), .val (.ref b1), .unset, .unset, .unset, .unset, .unset, .unset, .unset, .unset] [(.ref b42)]))
  have s49 : ∀ tz, Steps p.tables e below (T42.setTop (mkF m 31 #[.val (.int p0), .val (.int p1), .val (.int p2), .val (.ref b1), .unset, .unset, .unset, .unset, .unset, .unset, .unset, .unset] [(.int ((p2 &&& (255 : Int32)).toUInt32.toUInt16.toUInt32.toInt32)), (.ref b42), (.ref b42)])) tz → Steps p.tables e below (T42.setTop (mkF m 24 #[.val (.int p0), .val (.int p1), .val (.int p2), .val (.ref b1), .unset, .unset, .unset, .unset, .unset, .unset, .unset, .unset] [(.ref b42)])) tz := by
    intro tz kz
    refine XS.dup X42.here hx rfl (hb hby at_24) rfl rfl ?_
    show Steps p.tables e below (T42.setTop (mkF m 25 #[.val (.int p0), .val (.int p1), .val (.int p2), .val (.ref b1), .unset, .unset, .unset, .unset, .unset, .unset, .unset, .unset] [(.ref b42), (.ref b42)])) _
    refine XS.iloadN X42.here hx rfl (hb hby at_25) rfl ?_
    show Steps p.tables e below (T42.setTop (mkF m 26 #[.val (.int p0), .val (.int p1), .val (.int p2), .val (.ref b1), .unset, .unset, .unset, .unset, .unset, .unset, .unset, .unset] [(.int p2), (.ref b42), (.ref b42)])) _
    refine XS.sipush X42.here hx rfl (hb hby at_26) ?_
    show Steps p.tables e below (T42.setTop (mkF m 29 #[.val (.int p0), .val (.int p1), .val (.int p2), .val (.ref b1), .unset, .unset, .unset, .unset, .unset, .unset, .unset, .unset] [(.int (255 : Int32)), (.int p2), (.ref b42), (.ref b42)])) _
    refine XS.iand X42.here hx rfl (hb hby at_29) rfl ?_
    show Steps p.tables e below (T42.setTop (mkF m 30 #[.val (.int p0), .val (.int p1), .val (.int p2), .val (.ref b1), .unset, .unset, .unset, .unset, .unset, .unset, .unset, .unset] [(.int (p2 &&& (255 : Int32))), (.ref b42), (.ref b42)])) _
    refine XS.i2c X42.here hx rfl (hb hby at_30) rfl ?_
    exact kz
  refine OGW.step s49 ?_
  obtain ⟨_, _, ⟨T50, L50, k50, n50⟩, -, X50, ⟨Lc50, hQ50, l50, y50, z50⟩, st50⟩ := Jvm.LawKit.callS X42 hx (y := (⟨"java/lang/String", "valueOf", "(C)Ljava/lang/String;"⟩ : MethodName)) hown (mvT hZ (hw _ (List.mem_of_getElem? (i := 3) rfl))) (mvT hZ (hw _ (List.mem_of_getElem? (i := 4) rfl))) (mvT hZ (hw _ (List.mem_of_getElem? (i := 5) rfl))) (mvT hZ (hw _ (List.mem_of_getElem? (i := 6) rfl))) (by decide) (backOf (W := 2) (rm1 l Z a0 hw [] ((p2 &&& (255 : Int32)).toUInt32.toUInt16.toUInt32.toInt32) wz h42 n0 (Nat.le_trans Z0 K42.1) (hS.ext f43.2) hnz (own_chr p2)) hZ (hw _ (List.mem_of_getElem? (i := 6) rfl)) (hw _ (List.mem_of_getElem? (i := 5) rfl)) (by decide) (by decide)) (g := (mkF m 31 #[.val (.int p0), .val (.int p1), .val (.int p2), .val (.ref b1), .unset, .unset, .unset, .unset, .unset, .unset, .unset, .unset] [(.int ((p2 &&& (255 : Int32)).toUInt32.toUInt16.toUInt32.toInt32)), (.ref b42), (.ref b42)])) rfl (by rw [hml]; rfl) (argsL := [(.int ((p2 &&& (255 : Int32)).toUInt32.toUInt16.toUInt32.toInt32))]) (rest := [(.ref b42), (.ref b42)]) (lenOf pd__C_Ljava_lang_String_ rfl) rfl (by show 2 * 0 + _ ≤ _; exact Nat.le_of_eq rfl) (hb hby at_31) (fun _ _ => ⟨rfl, e42, (by decide : 14 + 2 ≤ _), (by decide : 155 + 5 ≤ _)⟩)
  dsimp only [Pt.U, Pt.locs, Pt.cells, Pt.slots] at X50 l50 y50 z50 st50 hQ50
  subst l50 y50 z50
  obtain ⟨s1_50, b1_50, kb_50, w1_50, rfl, N50q, Kc50, p50_0, p50_1, p50_2, u50_0, u50_1, u50_2⟩ := hQ50
  have N50 := Fr.app N31 N50q
  refine OGW.step st50 ?_
  have f51 := f43.keep Kc50 all0
  have f52 := f44.keep Kc50
  have f53 := f45.keep Kc50
  have f54 := f46.keep Kc50 nin0
  have f55 := f47.keep Kc50 nin0
  have f56 := A42.keep Kc50
  have f57 := F42_value.keep Kc50 nin0
  have f58 := F42_assigningAuthority.keep Kc50 nin0
  have f59 := F42_typeCode.keep Kc50 nin0
  have hk60 := Nat.le_trans hk48 Kc50.1
  have K50 := K42.trans Kc50 all0
  obtain ⟨Lz61, X50, N50⟩ : ∃ Lz, Stand p l e room_1 (s.setVm T31.vm) m #[(.int p0), (.int p1), (.int p2)] below meth c T50 Lz 16 160 ∧ Fr n0 Lz := ⟨_, X50, N50⟩
  have sz50_s1_50 : h0.size ≤ s1_50 := Nat.le_trans K42.1 u50_0
  have ge50_s1_50 : n0 ≤ s1_50 := Nat.le_trans Z0 sz50_s1_50
  have ne50_b1_s1_50 : b1 ≠ s1_50 := Nat.ne_of_lt (Nat.lt_of_lt_of_le f44.lt u50_0)
  have ne50_s1_5_s1_50 : s1_5 ≠ s1_50 := Nat.ne_of_lt (Nat.lt_of_lt_of_le f45.lt u50_0)
  have ne50_b1_5_s1_50 : b1_5 ≠ s1_50 := Nat.ne_of_lt (Nat.lt_of_lt_of_le f47.lt u50_0)
  have ne50_b42_s1_50 : b42 ≠ s1_50 := Nat.ne_of_lt (Nat.lt_of_lt_of_le A42.lt u50_0)
  have sz50_b1_50 : h0.size ≤ b1_50 := Nat.le_trans K42.1 u50_1
  have ge50_b1_50 : n0 ≤ b1_50 := Nat.le_trans Z0 sz50_b1_50
  have ne50_b1_b1_50 : b1 ≠ b1_50 := Nat.ne_of_lt (Nat.lt_of_lt_of_le f44.lt u50_1)
  have ne50_s1_5_b1_50 : s1_5 ≠ b1_50 := Nat.ne_of_lt (Nat.lt_of_lt_of_le f45.lt u50_1)
  have ne50_b1_5_b1_50 : b1_5 ≠ b1_50 := Nat.ne_of_lt (Nat.lt_of_lt_of_le f47.lt u50_1)
  have ne50_b42_b1_50 : b42 ≠ b1_50 := Nat.ne_of_lt (Nat.lt_of_lt_of_le A42.lt u50_1)
  show OGW _ _ _ _ _ _ _ (T50.setTop (mkF m 34 #[.val (.int p0), .val (.int p1), .val (.int p2), .val (.ref b1), .unset, .unset, .unset, .unset, .unset, .unset, .unset, .unset] [(.ref s1_50), (.ref b42), (.ref b42)]))
  obtain ⟨a62, T62, h62, k62, X62, e62, E62, hS62, hk62, hZ, hown, st62⟩ := ldcS X50 hx hZ hown (hw _ (List.mem_of_getElem? (i := 29) rfl)) wS rfl hS31 hk60 (g := (mkF m 34 #[.val (.int p0), .val (.int p1), .val (.int p2), .val (.ref b1), .unset, .unset, .unset, .unset, .unset, .unset, .unset, .unset] [(.ref s1_50), (.ref b42), (.ref b42)])) rfl (hb hby at_34) (n := 0) (by first | decide | decide +kernel) (by decide) (by decide) (by decide)
  refine OGW.step st62 ?_
  have f63 := f51.ext E62
  have f64 := f52.ext E62
  have f65 := f53.ext E62
  have f66 := f54.ext E62
  have f67 := f55.ext E62
  have f68 := f56.ext E62
  have f69 := f57.ext E62
  have f70 := f58.ext E62
  have f71 := f59.ext E62
  have f72 := p50_0.ext E62
  have f73 := p50_1.ext E62
  have f74 := p50_2.ext E62
  have K62 := K50.ext E62
  show OGW _ _ _ _ _ _ _ (T62.setTop (mkF m 36 #[.val (.int p0), .val (.int p1), .val (.int p2), .val (.ref b1), .unset, .unset, .unset, .unset, .unset, .unset, .unset, .unset] [(.ref a62), (.ref s1_50), (.ref b42), (.ref b42)]))
  obtain ⟨a75, T75, h75, k75, X75, e75, E75, hS75, hk75, hZ, hown, st75⟩ := ldcS X62 hx hZ hown (hw _ (List.mem_of_getElem? (i := 29) rfl)) wS e62 hS62 hk62 (g := (mkF m 36 #[.val (.int p0), .val (.int p1), .val (.int p2), .val (.ref b1), .unset, .unset, .unset, .unset, .unset, .unset, .unset, .unset] [(.ref a62), (.ref s1_50), (.ref b42), (.ref b42)])) rfl (hb hby at_36) (n := 0) (by first | decide | decide +kernel) (by decide) (by decide) (by decide)
  refine OGW.step st75 ?_
  have f76 := f63.ext E75
  have f77 := f64.ext E75
  have f78 := f65.ext E75
  have f79 := f66.ext E75
  have f80 := f67.ext E75
  have f81 := f68.ext E75
  have f82 := f69.ext E75
  have f83 := f70.ext E75
  have f84 := f71.ext E75
  have f85 := f72.ext E75
  have f86 := f73.ext E75
  have f87 := f74.ext E75
  have K75 := K62.ext E75
  show OGW _ _ _ _ _ _ _ (T75.setTop (mkF m 38 #[.val (.int p0), .val (.int p1), .val (.int p2), .val (.ref b1), .unset, .unset, .unset, .unset, .unset, .unset, .unset, .unset] [(.ref a75), (.ref a62), (.ref s1_50), (.ref b42), (.ref b42)]))
  obtain ⟨_, _, ⟨T88, L88, k88, n88⟩, -, X88, hSn88, hgr88, ⟨Lc88, hQ88, l88, y88, z88⟩, st88⟩ := X75.specialBackS hx (y := (⟨"com/example/mergeward/mergeward/core/Identifier", "<init>", "(Ljava/lang/String;Ljava/lang/String;Ljava/lang/String;)V"⟩ : MethodName)) rfl hown (mvT hZ (hw _ (List.mem_of_getElem? (i := 32) rfl))) (mvT hZ (hw _ (List.mem_of_getElem? (i := 33) rfl))) (mvT hZ (hw _ (List.mem_of_getElem? (i := 34) rfl))) (by decide) (backOfS (W := 1) (rm6 l Z a0 hw [] b42 s1_50 a62 a75 .null .null .null b1_50 kb_50 w1_50 h75 n0 (Nat.le_trans Z0 K75.1) f81 f82 f83 f84 f85 f86 f87 ne50_b42_s1_50 ne50_b42_b1_50 ge42) hZ (hw _ (List.mem_of_getElem? (i := 34) rfl)) (hw _ (List.mem_of_getElem? (i := 2) rfl)) (by decide) (by decide)) (g := (mkF m 38 #[.val (.int p0), .val (.int p1), .val (.int p2), .val (.ref b1), .unset, .unset, .unset, .unset, .unset, .unset, .unset, .unset] [(.ref a75), (.ref a62), (.ref s1_50), (.ref b42), (.ref b42)])) rfl (by rw [hml]; rfl) (Steps.refl _) (a := b42) (argsL := [(.ref s1_50), (.ref a62), (.ref a75)]) (rest := [(.ref b42)]) (lenOf pd__Ljava_lang_String_Ljava_lang_String_Ljava_lang_String__V rfl) rfl (by show 2 * 0 + _ ≤ _; exact Nat.le_of_eq rfl) (hb hby at_38) (fun _ _ => ⟨rfl, e75, (by decide : 20 + 6 ≤ _), (by decide : 168 + 136 ≤ _)⟩)
  dsimp only [Pt.U, Pt.locs, Pt.cells, Pt.slots] at hSn88 hgr88
  dsimp only [Pt.U, Pt.locs, Pt.cells, Pt.slots] at X88 l88 y88 z88 st88 hQ88
  subst l88 y88 z88
  obtain ⟨rfl, N88q, Kc88⟩ := hQ88
  have N88 := Fr.app N50 N88q
  have hkT88 : _ ≤ T75.heap.size := (by rw [e75]; exact hk75)
  obtain ⟨X88, hS88, hZ, hown⟩ := rebS hS75 hkT88 X88 hSn88 hgr88 hZ hown
  refine OGW.step (fun tz kz => st88.trans kz) ?_
  have f89 := f76.keep Kc88 (allS ge42 all0)
  have f90 := f77.keep Kc88
  have f91 := f78.keep Kc88
  have f92 := f79.keep Kc88 (ninS ne42_s1_5 nin0)
  have f93 := f80.keep Kc88 (ninS ne42_b1_5 nin0)
  have f94 := f81.keep Kc88
  have f98 := f85.keep Kc88
  have f99 := f86.keep Kc88 (ninS (Ne.symm ne50_b42_s1_50) nin0)
  have f100 := f87.keep Kc88 (ninS (Ne.symm ne50_b42_b1_50) nin0)
  have K88 := K75.trans Kc88 (allS (Or.inr sz42) all0)
  obtain ⟨Lz101, X88, N88⟩ : ∃ Lz, Stand p l e room_1 (s.setVm T88.vm) m #[(.int p0), (.int p1), (.int p2)] below meth c T88 Lz 26 304 ∧ Fr n0 Lz := ⟨_, X88, N88⟩
  show OGW _ _ _ _ _ _ _ (T88.setTop (mkF m 41 #[.val (.int p0), .val (.int p1), .val (.int p2), .val (.ref b1), .unset, .unset, .unset, .unset, .unset, .unset, .unset, .unset] [(.ref b42)]))
  have s102 : ∀ tz, Steps p.tables e below (T88.setTop (mkF m 43 #[.val (.int p0), .val (.int p1), .val (.int p2), .val (.ref b1), .val (.ref b42), .unset, .unset, .unset, .unset, .unset, .unset, .unset] [])) tz → Steps p.tables e below (T88.setTop (mkF m 41 #[.val (.int p0), .val (.int p1), .val (.int p2), .val (.ref b1), .unset, .unset, .unset, .unset, .unset, .unset, .unset, .unset] [(.ref b42)])) tz := by
    intro tz kz
    refine XS.astore X88.here hx rfl (hb hby at_41) rfl rfl (l' := #[.val (.int p0), .val (.int p1), .val (.int p2), .val (.ref b1), .val (.ref b42), .unset, .unset, .unset, .unset, .unset, .unset, .unset]) rfl ?_
    exact kz
  refine OGW.step s102 ?_
  have s103 : ∀ tz, Steps p.tables e below (T88.setTop (mkF m 54 #[.val (.int p0), .val (.int p1), .val (.int p2), .val (.ref b1), .val (.ref b42), .unset, .unset, .unset, .unset, .unset, .unset, .unset] [(.int (bI (¬ ((p0 &&& (1 : Int32)) = (0 : Int32)))))])) tz → Steps p.tables e below (T88.setTop (mkF m 43 #[.val (.int p0), .val (.int p1), .val (.int p2), .val (.ref b1), .val (.ref b42), .unset, .unset, .unset, .unset, .unset, .unset, .unset] [])) tz := by
    intro tz kz
    refine XS.iloadN X88.here hx rfl (hb hby at_43) rfl ?_
    show Steps p.tables e below (T88.setTop (mkF m 44 #[.val (.int p0), .val (.int p1), .val (.int p2), .val (.ref b1), .val (.ref b42), .unset, .unset, .unset, .unset, .unset, .unset, .unset] [(.int p0)])) _
    refine XS.iconst X88.here hx rfl (hb hby at_44) ?_
    show Steps p.tables e below (T88.setTop (mkF m 45 #[.val (.int p0), .val (.int p1), .val (.int p2), .val (.ref b1), .val (.ref b42), .unset, .unset, .unset, .unset, .unset, .unset, .unset] [(.int (1 : Int32)), (.int p0)])) _
    refine XS.iand X88.here hx rfl (hb hby at_45) rfl ?_
    show Steps p.tables e below (T88.setTop (mkF m 46 #[.val (.int p0), .val (.int p1), .val (.int p2), .val (.ref b1), .val (.ref b42), .unset, .unset, .unset, .unset, .unset, .unset, .unset] [(.int (p0 &&& (1 : Int32)))])) _
    by_cases hm46 : (p0 &&& (1 : Int32)) = (0 : Int32)
    · refine XS.ifYes X88.here hx rfl (pc0 := 46) (pc' := 53) rfl (hb hby at_46) rfl ((if0 _ _).trans (teq hm46).1) (by decide) (by decide) ?_
      show Steps p.tables e below (T88.setTop (mkF m 53 #[.val (.int p0), .val (.int p1), .val (.int p2), .val (.ref b1), .val (.ref b42), .unset, .unset, .unset, .unset, .unset, .unset, .unset] [])) _
      refine XS.iconst X88.here hx rfl (hb hby at_53) ?_
      show Steps p.tables e below (T88.setTop (mkF m 54 #[.val (.int p0), .val (.int p1), .val (.int p2), .val (.ref b1), .val (.ref b42), .unset, .unset, .unset, .unset, .unset, .unset, .unset] [(.int (0 : Int32))])) _
      rw [show (bI (¬ ((p0 &&& (1 : Int32)) = (0 : Int32)))) = (0 : Int32) from bI_neg (P := ¬ ((p0 &&& (1 : Int32)) = (0 : Int32))) (fun z => z hm46)] at kz
      exact kz
    · refine XS.ifNo X88.here hx rfl (hb hby at_46) rfl ((if0 _ _).trans (feq hm46).1) ?_
      show Steps p.tables e below (T88.setTop (mkF m 49 #[.val (.int p0), .val (.int p1), .val (.int p2), .val (.ref b1), .val (.ref b42), .unset, .unset, .unset, .unset, .unset, .unset, .unset] [])) _
      refine XS.iconst X88.here hx rfl (hb hby at_49) ?_
      show Steps p.tables e below (T88.setTop (mkF m 50 #[.val (.int p0), .val (.int p1), .val (.int p2), .val (.ref b1), .val (.ref b42), .unset, .unset, .unset, .unset, .unset, .unset, .unset] [(.int (1 : Int32))])) _
      refine XS.goto X88.here hx rfl (pc0 := 50) (pc' := 54) rfl (hb hby at_50) (by decide) (by decide) ?_
      show Steps p.tables e below (T88.setTop (mkF m 54 #[.val (.int p0), .val (.int p1), .val (.int p2), .val (.ref b1), .val (.ref b42), .unset, .unset, .unset, .unset, .unset, .unset, .unset] [(.int (1 : Int32))])) _
      rw [show (bI (¬ ((p0 &&& (1 : Int32)) = (0 : Int32)))) = (1 : Int32) from bI_pos (P := ¬ ((p0 &&& (1 : Int32)) = (0 : Int32))) hm46] at kz
      exact kz
  refine OGW.step s103 ?_
  have s104 : ∀ tz, Steps p.tables e below (T88.setTop (mkF m 56 #[.val (.int p0), .val (.int p1), .val (.int p2), .val (.ref b1), .val (.ref b42), .val (.int (bI (¬ ((p0 &&& (1 : Int32)) = (0 : Int32))))), .unset, .unset, .unset, .unset, .unset, .unset] [])) tz → Steps p.tables e below (T88.setTop (mkF m 54 #[.val (.int p0), .val (.int p1), .val (.int p2), .val (.ref b1), .val (.ref b42), .unset, .unset, .unset, .unset, .unset, .unset, .unset] [(.int (bI (¬ ((p0 &&& (1 : Int32)) = (0 : Int32)))))])) tz := by
    intro tz kz
    refine XS.istore X88.here hx rfl (hb hby at_54) rfl (l' := #[.val (.int p0), .val (.int p1), .val (.int p2), .val (.ref b1), .val (.ref b42), .val (.int (bI (¬ ((p0 &&& (1 : Int32)) = (0 : Int32))))), .unset, .unset, .unset, .unset, .unset, .unset]) rfl ?_
    exact kz
  refine OGW.step s104 ?_
  have s105 : ∀ tz, Steps p.tables e below (T88.setTop (mkF m 67 #[.val (.int p0), .val (.int p1), .val (.int p2), .val (.ref b1), .val (.ref b42), .val (.int (bI (¬ ((p0 &&& (1 : Int32)) = (0 : Int32))))), .unset, .unset, .unset, .unset, .unset, .unset] [(.int (bI (¬ ((p0 &&& (2 : Int32)) = (0 : Int32)))))])) tz → Steps p.tables e below (T88.setTop (mkF m 56 #[.val (.int p0), .val (.int p1), .val (.int p2), .val (.ref b1), .val (.ref b42), .val (.int (bI (¬ ((p0 &&& (1 : Int32)) = (0 : Int32))))), .unset, .unset, .unset, .unset, .unset, .unset] [])) tz := by
    intro tz kz
    refine XS.iloadN X88.here hx rfl (hb hby at_56) rfl ?_
    show Steps p.tables e below (T88.setTop (mkF m 57 #[.val (.int p0), .val (.int p1), .val (.int p2), .val (.ref b1), .val (.ref b42), .val (.int (bI (¬ ((p0 &&& (1 : Int32)) = (0 : Int32))))), .unset, .unset, .unset, .unset, .unset, .unset] [(.int p0)])) _
    refine XS.iconst X88.here hx rfl (hb hby at_57) ?_
    show Steps p.tables e below (T88.setTop (mkF m 58 #[.val (.int p0), .val (.int p1), .val (.int p2), .val (.ref b1), .val (.ref b42), .val (.int (bI (¬ ((p0 &&& (1 : Int32)) = (0 : Int32))))), .unset, .unset, .unset, .unset, .unset, .unset] [(.int (2 : Int32)), (.int p0)])) _
    refine XS.iand X88.here hx rfl (hb hby at_58) rfl ?_
    show Steps p.tables e below (T88.setTop (mkF m 59 #[.val (.int p0), .val (.int p1), .val (.int p2), .val (.ref b1), .val (.ref b42), .val (.int (bI (¬ ((p0 &&& (1 : Int32)) = (0 : Int32))))), .unset, .unset, .unset, .unset, .unset, .unset] [(.int (p0 &&& (2 : Int32)))])) _
    by_cases hm59 : (p0 &&& (2 : Int32)) = (0 : Int32)
    · refine XS.ifYes X88.here hx rfl (pc0 := 59) (pc' := 66) rfl (hb hby at_59) rfl ((if0 _ _).trans (teq hm59).1) (by decide) (by decide) ?_
      show Steps p.tables e below (T88.setTop (mkF m 66 #[.val (.int p0), .val (.int p1), .val (.int p2), .val (.ref b1), .val (.ref b42), .val (.int (bI (¬ ((p0 &&& (1 : Int32)) = (0 : Int32))))), .unset, .unset, .unset, .unset, .unset, .unset] [])) _
      refine XS.iconst X88.here hx rfl (hb hby at_66) ?_
      show Steps p.tables e below (T88.setTop (mkF m 67 #[.val (.int p0), .val (.int p1), .val (.int p2), .val (.ref b1), .val (.ref b42), .val (.int (bI (¬ ((p0 &&& (1 : Int32)) = (0 : Int32))))), .unset, .unset, .unset, .unset, .unset, .unset] [(.int (0 : Int32))])) _
      rw [show (bI (¬ ((p0 &&& (2 : Int32)) = (0 : Int32)))) = (0 : Int32) from bI_neg (P := ¬ ((p0 &&& (2 : Int32)) = (0 : Int32))) (fun z => z hm59)] at kz
      exact kz
    · refine XS.ifNo X88.here hx rfl (hb hby at_59) rfl ((if0 _ _).trans (feq hm59).1) ?_
      show Steps p.tables e below (T88.setTop (mkF m 62 #[.val (.int p0), .val (.int p1), .val (.int p2), .val (.ref b1), .val (.ref b42), .val (.int (bI (¬ ((p0 &&& (1 : Int32)) = (0 : Int32))))), .unset, .unset, .unset, .unset, .unset, .unset] [])) _
      refine XS.iconst X88.here hx rfl (hb hby at_62) ?_
      show Steps p.tables e below (T88.setTop (mkF m 63 #[.val (.int p0), .val (.int p1), .val (.int p2), .val (.ref b1), .val (.ref b42), .val (.int (bI (¬ ((p0 &&& (1 : Int32)) = (0 : Int32))))), .unset, .unset, .unset, .unset, .unset, .unset] [(.int (1 : Int32))])) _
      refine XS.goto X88.here hx rfl (pc0 := 63) (pc' := 67) rfl (hb hby at_63) (by decide) (by decide) ?_
      show Steps p.tables e below (T88.setTop (mkF m 67 #[.val (.int p0), .val (.int p1), .val (.int p2), .val (.ref b1), .val (.ref b42), .val (.int (bI (¬ ((p0 &&& (1 : Int32)) = (0 : Int32))))), .unset, .unset, .unset, .unset, .unset, .unset] [(.int (1 : Int32))])) _
      rw [show (bI (¬ ((p0 &&& (2 : Int32)) = (0 : Int32)))) = (1 : Int32) from bI_pos (P := ¬ ((p0 &&& (2 : Int32)) = (0 : Int32))) hm59] at kz
      exact kz
  refine OGW.step s105 ?_
  have s106 : ∀ tz, Steps p.tables e below (T88.setTop (mkF m 69 #[.val (.int p0), .val (.int p1), .val (.int p2), .val (.ref b1), .val (.ref b42), .val (.int (bI (¬ ((p0 &&& (1 : Int32)) = (0 : Int32))))), .val (.int (bI (¬ ((p0 &&& (2 : Int32)) = (0 : Int32))))), .unset, .unset, .unset, .unset, .unset] [])) tz → Steps p.tables e below (T88.setTop (mkF m 67 #[.val (.int p0), .val (.int p1), .val (.int p2), .val (.ref b1), .val (.ref b42), .val (.int (bI (¬ ((p0 &&& (1 : Int32)) = (0 : Int32))))), .unset, .unset, .unset, .unset, .unset, .unset] [(.int (bI (¬ ((p0 &&& (2 : Int32)) = (0 : Int32)))))])) tz := by
    intro tz kz
    refine XS.istore X88.here hx rfl (hb hby at_67) rfl (l' := #[.val (.int p0), .val (.int p1), .val (.int p2), .val (.ref b1), .val (.ref b42), .val (.int (bI (¬ ((p0 &&& (1 : Int32)) = (0 : Int32))))), .val (.int (bI (¬ ((p0 &&& (2 : Int32)) = (0 : Int32))))), .unset, .unset, .unset, .unset, .unset]) rfl ?_
    exact kz
  refine OGW.step s106 ?_
  have s107 : ∀ tz, Steps p.tables e below (T88.setTop (mkF m 80 #[.val (.int p0), .val (.int p1), .val (.int p2), .val (.ref b1), .val (.ref b42), .val (.int (bI (¬ ((p0 &&& (1 : Int32)) = (0 : Int32))))), .val (.int (bI (¬ ((p0 &&& (2 : Int32)) = (0 : Int32))))), .unset, .unset, .unset, .unset, .unset] [(.int (bI (¬ ((p0 &&& (4 : Int32)) = (0 : Int32)))))])) tz → Steps p.tables e below (T88.setTop (mkF m 69 #[.val (.int p0), .val (.int p1), .val (.int p2), .val (.ref b1), .val (.ref b42), .val (.int (bI (¬ ((p0 &&& (1 : Int32)) = (0 : Int32))))), .val (.int (bI (¬ ((p0 &&& (2 : Int32)) = (0 : Int32))))), .unset, .unset, .unset, .unset, .unset] [])) tz := by
    intro tz kz
    refine XS.iloadN X88.here hx rfl (hb hby at_69) rfl ?_
    show Steps p.tables e below (T88.setTop (mkF m 70 #[.val (.int p0), .val (.int p1), .val (.int p2), .val (.ref b1), .val (.ref b42), .val (.int (bI (¬ ((p0 &&& (1 : Int32)) = (0 : Int32))))), .val (.int (bI (¬ ((p0 &&& (2 : Int32)) = (0 : Int32))))), .unset, .unset, .unset, .unset, .unset] [(.int p0)])) _
    refine XS.iconst X88.here hx rfl (hb hby at_70) ?_
    show Steps p.tables e below (T88.setTop (mkF m 71 #[.val (.int p0), .val (.int p1), .val (.int p2), .val (.ref b1), .val (.ref b42), .val (.int (bI (¬ ((p0 &&& (1 : Int32)) = (0 : Int32))))), .val (.int (bI (¬ ((p0 &&& (2 : Int32)) = (0 : Int32))))), .unset, .unset, .unset, .unset, .unset] [(.int (4 : Int32)), (.int p0)])) _
    refine XS.iand X88.here hx rfl (hb hby at_71) rfl ?_
    show Steps p.tables e below (T88.setTop (mkF m 72 #[.val (.int p0), .val (.int p1), .val (.int p2), .val (.ref b1), .val (.ref b42), .val (.int (bI (¬ ((p0 &&& (1 : Int32)) = (0 : Int32))))), .val (.int (bI (¬ ((p0 &&& (2 : Int32)) = (0 : Int32))))), .unset, .unset, .unset, .unset, .unset] [(.int (p0 &&& (4 : Int32)))])) _
    by_cases hm72 : (p0 &&& (4 : Int32)) = (0 : Int32)
    · refine XS.ifYes X88.here hx rfl (pc0 := 72) (pc' := 79) rfl (hb hby at_72) rfl ((if0 _ _).trans (teq hm72).1) (by decide) (by decide) ?_
      show Steps p.tables e below (T88.setTop (mkF m 79 #[.val (.int p0), .val (.int p1), .val (.int p2), .val (.ref b1), .val (.ref b42), .val (.int (bI (¬ ((p0 &&& (1 : Int32)) = (0 : Int32))))), .val (.int (bI (¬ ((p0 &&& (2 : Int32)) = (0 : Int32))))), .unset, .unset, .unset, .unset, .unset] [])) _
      refine XS.iconst X88.here hx rfl (hb hby at_79) ?_
      show Steps p.tables e below (T88.setTop (mkF m 80 #[.val (.int p0), .val (.int p1), .val (.int p2), .val (.ref b1), .val (.ref b42), .val (.int (bI (¬ ((p0 &&& (1 : Int32)) = (0 : Int32))))), .val (.int (bI (¬ ((p0 &&& (2 : Int32)) = (0 : Int32))))), .unset, .unset, .unset, .unset, .unset] [(.int (0 : Int32))])) _
      rw [show (bI (¬ ((p0 &&& (4 : Int32)) = (0 : Int32)))) = (0 : Int32) from bI_neg (P := ¬ ((p0 &&& (4 : Int32)) = (0 : Int32))) (fun z => z hm72)] at kz
      exact kz
    · refine XS.ifNo X88.here hx rfl (hb hby at_72) rfl ((if0 _ _).trans (feq hm72).1) ?_
      show Steps p.tables e below (T88.setTop (mkF m 75 #[.val (.int p0), .val (.int p1), .val (.int p2), .val (.ref b1), .val (.ref b42), .val (.int (bI (¬ ((p0 &&& (1 : Int32)) = (0 : Int32))))), .val (.int (bI (¬ ((p0 &&& (2 : Int32)) = (0 : Int32))))), .unset, .unset, .unset, .unset, .unset] [])) _
      refine XS.iconst X88.here hx rfl (hb hby at_75) ?_
      show Steps p.tables e below (T88.setTop (mkF m 76 #[.val (.int p0), .val (.int p1), .val (.int p2), .val (.ref b1), .val (.ref b42), .val (.int (bI (¬ ((p0 &&& (1 : Int32)) = (0 : Int32))))), .val (.int (bI (¬ ((p0 &&& (2 : Int32)) = (0 : Int32))))), .unset, .unset, .unset, .unset, .unset] [(.int (1 : Int32))])) _
      refine XS.goto X88.here hx rfl (pc0 := 76) (pc' := 80) rfl (hb hby at_76) (by decide) (by decide) ?_
      show Steps p.tables e below (T88.setTop (mkF m 80 #[.val (.int p0), .val (.int p1), .val (.int p2), .val (.ref b1), .val (.ref b42), .val (.int (bI (¬ ((p0 &&& (1 : Int32)) = (0 : Int32))))), .val (.int (bI (¬ ((p0 &&& (2 : Int32)) = (0 : Int32))))), .unset, .unset, .unset, .unset, .unset] [(.int (1 : Int32))])) _
      rw [show (bI (¬ ((p0 &&& (4 : Int32)) = (0 : Int32)))) = (1 : Int32) from bI_pos (P := ¬ ((p0 &&& (4 : Int32)) = (0 : Int32))) hm72] at kz
      exact kz
  refine OGW.step s107 ?_
  have s108 : ∀ tz, Steps p.tables e below (T88.setTop (mkF m 82 #[.val (.int p0), .val (.int p1), .val (.int p2), .val (.ref b1), .val (.ref b42), .val (.int (bI (¬ ((p0 &&& (1 : Int32)) = (0 : Int32))))), .val (.int (bI (¬ ((p0 &&& (2 : Int32)) = (0 : Int32))))), .val (.int (bI (¬ ((p0 &&& (4 : Int32)) = (0 : Int32))))), .unset, .unset, .unset, .unset] [])) tz → Steps p.tables e below (T88.setTop (mkF m 80 #[.val (.int p0), .val (.int p1), .val (.int p2), .val (.ref b1), .val (.ref b42), .val (.int (bI (¬ ((p0 &&& (1 : Int32)) = (0 : Int32))))), .val (.int (bI (¬ ((p0 &&& (2 : Int32)) = (0 : Int32))))), .unset, .unset, .unset, .unset, .unset] [(.int (bI (¬ ((p0 &&& (4 : Int32)) = (0 : Int32)))))])) tz := by
    intro tz kz
    refine XS.istore X88.here hx rfl (hb hby at_80) rfl (l' := #[.val (.int p0), .val (.int p1), .val (.int p2), .val (.ref b1), .val (.ref b42), .val (.int (bI (¬ ((p0 &&& (1 : Int32)) = (0 : Int32))))), .val (.int (bI (¬ ((p0 &&& (2 : Int32)) = (0 : Int32))))), .val (.int (bI (¬ ((p0 &&& (4 : Int32)) = (0 : Int32))))), .unset, .unset, .unset, .unset]) rfl ?_
    exact kz
  refine OGW.step s108 ?_
  have s109 : ∀ tz, Steps p.tables e below (T88.setTop (mkF m 94 #[.val (.int p0), .val (.int p1), .val (.int p2), .val (.ref b1), .val (.ref b42), .val (.int (bI (¬ ((p0 &&& (1 : Int32)) = (0 : Int32))))), .val (.int (bI (¬ ((p0 &&& (2 : Int32)) = (0 : Int32))))), .val (.int (bI (¬ ((p0 &&& (4 : Int32)) = (0 : Int32))))), .unset, .unset, .unset, .unset] [(.int (bI (¬ ((p0 &&& (8 : Int32)) = (0 : Int32)))))])) tz → Steps p.tables e below (T88.setTop (mkF m 82 #[.val (.int p0), .val (.int p1), .val (.int p2), .val (.ref b1), .val (.ref b42), .val (.int (bI (¬ ((p0 &&& (1 : Int32)) = (0 : Int32))))), .val (.int (bI (¬ ((p0 &&& (2 : Int32)) = (0 : Int32))))), .val (.int (bI (¬ ((p0 &&& (4 : Int32)) = (0 : Int32))))), .unset, .unset, .unset, .unset] [])) tz := by
    intro tz kz
    refine XS.iloadN X88.here hx rfl (hb hby at_82) rfl ?_
    show Steps p.tables e below (T88.setTop (mkF m 83 #[.val (.int p0), .val (.int p1), .val (.int p2), .val (.ref b1), .val (.ref b42), .val (.int (bI (¬ ((p0 &&& (1 : Int32)) = (0 : Int32))))), .val (.int (bI (¬ ((p0 &&& (2 : Int32)) = (0 : Int32))))), .val (.int (bI (¬ ((p0 &&& (4 : Int32)) = (0 : Int32))))), .unset, .unset, .unset, .unset] [(.int p0)])) _
    refine XS.bipush X88.here hx rfl (hb hby at_83) ?_
    show Steps p.tables e below (T88.setTop (mkF m 85 #[.val (.int p0), .val (.int p1), .val (.int p2), .val (.ref b1), .val (.ref b42), .val (.int (bI (¬ ((p0 &&& (1 : Int32)) = (0 : Int32))))), .val (.int (bI (¬ ((p0 &&& (2 : Int32)) = (0 : Int32))))), .val (.int (bI (¬ ((p0 &&& (4 : Int32)) = (0 : Int32))))), .unset, .unset, .unset, .unset] [(.int (8 : Int32)), (.int p0)])) _
    refine XS.iand X88.here hx rfl (hb hby at_85) rfl ?_
    show Steps p.tables e below (T88.setTop (mkF m 86 #[.val (.int p0), .val (.int p1), .val (.int p2), .val (.ref b1), .val (.ref b42), .val (.int (bI (¬ ((p0 &&& (1 : Int32)) = (0 : Int32))))), .val (.int (bI (¬ ((p0 &&& (2 : Int32)) = (0 : Int32))))), .val (.int (bI (¬ ((p0 &&& (4 : Int32)) = (0 : Int32))))), .unset, .unset, .unset, .unset] [(.int (p0 &&& (8 : Int32)))])) _
    by_cases hm86 : (p0 &&& (8 : Int32)) = (0 : Int32)
    · refine XS.ifYes X88.here hx rfl (pc0 := 86) (pc' := 93) rfl (hb hby at_86) rfl ((if0 _ _).trans (teq hm86).1) (by decide) (by decide) ?_
      show Steps p.tables e below (T88.setTop (mkF m 93 #[.val (.int p0), .val (.int p1), .val (.int p2), .val (.ref b1), .val (.ref b42), .val (.int (bI (¬ ((p0 &&& (1 : Int32)) = (0 : Int32))))), .val (.int (bI (¬ ((p0 &&& (2 : Int32)) = (0 : Int32))))), .val (.int (bI (¬ ((p0 &&& (4 : Int32)) = (0 : Int32))))), .unset, .unset, .unset, .unset] [])) _
      refine XS.iconst X88.here hx rfl (hb hby at_93) ?_
      show Steps p.tables e below (T88.setTop (mkF m 94 #[.val (.int p0), .val (.int p1), .val (.int p2), .val (.ref b1), .val (.ref b42), .val (.int (bI (¬ ((p0 &&& (1 : Int32)) = (0 : Int32))))), .val (.int (bI (¬ ((p0 &&& (2 : Int32)) = (0 : Int32))))), .val (.int (bI (¬ ((p0 &&& (4 : Int32)) = (0 : Int32))))), .unset, .unset, .unset, .unset] [(.int (0 : Int32))])) _
      rw [show (bI (¬ ((p0 &&& (8 : Int32)) = (0 : Int32)))) = (0 : Int32) from bI_neg (P := ¬ ((p0 &&& (8 : Int32)) = (0 : Int32))) (fun z => z hm86)] at kz
      exact kz
    · refine XS.ifNo X88.here hx rfl (hb hby at_86) rfl ((if0 _ _).trans (feq hm86).1) ?_
      show Steps p.tables e below (T88.setTop (mkF m 89 #[.val (.int p0), .val (.int p1), .val (.int p2), .val (.ref b1), .val (.ref b42), .val (.int (bI (¬ ((p0 &&& (1 : Int32)) = (0 : Int32))))), .val (.int (bI (¬ ((p0 &&& (2 : Int32)) = (0 : Int32))))), .val (.int (bI (¬ ((p0 &&& (4 : Int32)) = (0 : Int32))))), .unset, .unset, .unset, .unset] [])) _
      refine XS.iconst X88.here hx rfl (hb hby at_89) ?_
      show Steps p.tables e below (T88.setTop (mkF m 90 #[.val (.int p0), .val (.int p1), .val (.int p2), .val (.ref b1), .val (.ref b42), .val (.int (bI (¬ ((p0 &&& (1 : Int32)) = (0 : Int32))))), .val (.int (bI (¬ ((p0 &&& (2 : Int32)) = (0 : Int32))))), .val (.int (bI (¬ ((p0 &&& (4 : Int32)) = (0 : Int32))))), .unset, .unset, .unset, .unset] [(.int (1 : Int32))])) _
      refine XS.goto X88.here hx rfl (pc0 := 90) (pc' := 94) rfl (hb hby at_90) (by decide) (by decide) ?_
      show Steps p.tables e below (T88.setTop (mkF m 94 #[.val (.int p0), .val (.int p1), .val (.int p2), .val (.ref b1), .val (.ref b42), .val (.int (bI (¬ ((p0 &&& (1 : Int32)) = (0 : Int32))))), .val (.int (bI (¬ ((p0 &&& (2 : Int32)) = (0 : Int32))))), .val (.int (bI (¬ ((p0 &&& (4 : Int32)) = (0 : Int32))))), .unset, .unset, .unset, .unset] [(.int (1 : Int32))])) _
      rw [show (bI (¬ ((p0 &&& (8 : Int32)) = (0 : Int32)))) = (1 : Int32) from bI_pos (P := ¬ ((p0 &&& (8 : Int32)) = (0 : Int32))) hm86] at kz
      exact kz
  refine OGW.step s109 ?_
  have s110 : ∀ tz, Steps p.tables e below (T88.setTop (mkF m 96 #[.val (.int p0), .val (.int p1), .val (.int p2), .val (.ref b1), .val (.ref b42), .val (.int (bI (¬ ((p0 &&& (1 : Int32)) = (0 : Int32))))), .val (.int (bI (¬ ((p0 &&& (2 : Int32)) = (0 : Int32))))), .val (.int (bI (¬ ((p0 &&& (4 : Int32)) = (0 : Int32))))), .val (.int (bI (¬ ((p0 &&& (8 : Int32)) = (0 : Int32))))), .unset, .unset, .unset] [])) tz → Steps p.tables e below (T88.setTop (mkF m 94 #[.val (.int p0), .val (.int p1), .val (.int p2), .val (.ref b1), .val (.ref b42), .val (.int (bI (¬ ((p0 &&& (1 : Int32)) = (0 : Int32))))), .val (.int (bI (¬ ((p0 &&& (2 : Int32)) = (0 : Int32))))), .val (.int (bI (¬ ((p0 &&& (4 : Int32)) = (0 : Int32))))), .unset, .unset, .unset, .unset] [(.int (bI (¬ ((p0 &&& (8 : Int32)) = (0 : Int32)))))])) tz := by
    intro tz kz
    refine XS.istore X88.here hx rfl (hb hby at_94) rfl (l' := #[.val (.int p0), .val (.int p1), .val (.int p2), .val (.ref b1), .val (.ref b42), .val (.int (bI (¬ ((p0 &&& (1 : Int32)) = (0 : Int32))))), .val (.int (bI (¬ ((p0 &&& (2 : Int32)) = (0 : Int32))))), .val (.int (bI (¬ ((p0 &&& (4 : Int32)) = (0 : Int32))))), .val (.int (bI (¬ ((p0 &&& (8 : Int32)) = (0 : Int32))))), .unset, .unset, .unset]) rfl ?_
    exact kz
  refine OGW.step s110 ?_
  obtain ⟨T111, h111, X111, e111, E111, A111, D111, -, st111⟩ := newO X88 hx hZ hown (hw _ (List.mem_of_getElem? (i := 59) rfl)) (hw _ (List.mem_of_getElem? (i := 60) rfl)) (hw _ (List.mem_of_getElem? (i := 61) rfl)) rfl (g := (mkF m 96 #[.val (.int p0), .val (.int p1), .val (.int p2), .val (.ref b1), .val (.ref b42), .val (.int (bI (¬ ((p0 &&& (1 : Int32)) = (0 : Int32))))), .val (.int (bI (¬ ((p0 &&& (2 : Int32)) = (0 : Int32))))), .val (.int (bI (¬ ((p0 &&& (4 : Int32)) = (0 : Int32))))), .val (.int (bI (¬ ((p0 &&& (8 : Int32)) = (0 : Int32))))), .unset, .unset, .unset] [])) rfl (hb hby at_96) (by decide) (by decide)
  obtain ⟨b111, g111⟩ : ∃ z, z = T88.heap.size := ⟨_, rfl⟩
  rw [← g111] at A111 D111 st111
  have sz111 : h0.size ≤ b111 := Nat.le_trans K88.1 (Nat.le_of_eq g111.symm)
  have ge111 : n0 ≤ b111 := Nat.le_trans Z0 sz111
  have ne111_b1 : b1 ≠ b111 := Nat.ne_of_lt (Nat.lt_of_lt_of_le f90.lt (Nat.le_of_eq g111.symm))
  have ne111_s1_5 : s1_5 ≠ b111 := Nat.ne_of_lt (Nat.lt_of_lt_of_le f91.lt (Nat.le_of_eq g111.symm))
  have ne111_b1_5 : b1_5 ≠ b111 := Nat.ne_of_lt (Nat.lt_of_lt_of_le f93.lt (Nat.le_of_eq g111.symm))
  have ne111_b42 : b42 ≠ b111 := Nat.ne_of_lt (Nat.lt_of_lt_of_le f94.lt (Nat.le_of_eq g111.symm))
  have ne111_s1_50 : s1_50 ≠ b111 := Nat.ne_of_lt (Nat.lt_of_lt_of_le f98.lt (Nat.le_of_eq g111.symm))
  have ne111_b1_50 : b1_50 ≠ b111 := Nat.ne_of_lt (Nat.lt_of_lt_of_le f100.lt (Nat.le_of_eq g111.symm))
  refine OGW.step st111 ?_
  have f112 := f89.ext E111
  have f113 := f90.ext E111
  have f114 := f91.ext E111
  have f115 := f92.ext E111
  have f116 := f93.ext E111
  have f117 := f94.ext E111
  have f118 := f98.ext E111
  have f119 := f99.ext E111
  have f120 := f100.ext E111
  have F111_patient : Fld Z h111 b111 "com/example/mergeward/mergeward/core/RecordPath" "patient" "Lcom/example/mergeward/mergeward/core/Identifier;" .null := D111 (Or.inr (hw _ (List.mem_of_getElem? (i := 69) rfl))) (ty := (.object "com/example/mergeward/mergeward/core/Identifier")) (by decide)
  have F111_account : Fld Z h111 b111 "com/example/mergeward/mergeward/core/RecordPath" "account" "Lcom/example/mergeward/mergeward/core/Identifier;" .null := D111 (Or.inr (hw _ (List.mem_of_getElem? (i := 71) rfl))) (ty := (.object "com/example/mergeward/mergeward/core/Identifier")) (by decide)
  have F111_visit : Fld Z h111 b111 "com/example/mergeward/mergeward/core/RecordPath" "visit" "Lcom/example/mergeward/mergeward/core/Identifier;" .null := D111 (Or.inr (hw _ (List.mem_of_getElem? (i := 73) rfl))) (ty := (.object "com/example/mergeward/mergeward/core/Identifier")) (by decide)
  have K111 := K88.ext E111
  have hk121 := Nat.le_trans (Nat.le_refl _) E111.1
  show OGW _ _ _ _ _ _ _ (T111.setTop (mkF m 99 #[.val (.int p0), .val (.int p1), .val (.int p2), .val (.ref b1), .val (.ref b42), .val (.int (bI (¬ ((p0 &&& (1 : Int32)) = (0 : Int32))))), .val (.int (bI (¬ ((p0 &&& (2 : Int32)) = (0 : Int32))))), .val (.int (bI (¬ ((p0 &&& (4 : Int32)) = (0 : Int32))))), .val (.int (bI (¬ ((p0 &&& (8 : Int32)) = (0 : Int32))))), .unset, .unset, .unset] [(.ref b111)]))
  have s122 : ∀ tz, Steps p.tables e below (T111.setTop (mkF m 101 #[.val (.int p0), .val (.int p1), .val (.int p2), .val (.ref b1), .val (.ref b42), .val (.int (bI (¬ ((p0 &&& (1 : Int32)) = (0 : Int32))))), .val (.int (bI (¬ ((p0 &&& (2 : Int32)) = (0 : Int32))))), .val (.int (bI (¬ ((p0 &&& (4 : Int32)) = (0 : Int32))))), .val (.int (bI (¬ ((p0 &&& (8 : Int32)) = (0 : Int32))))), .unset, .unset, .unset] [(.ref b1), (.ref b111), (.ref b111)])) tz → Steps p.tables e below (T111.setTop (mkF m 99 #[.val (.int p0), .val (.int p1), .val (.int p2), .val (.ref b1), .val (.ref b42), .val (.int (bI (¬ ((p0 &&& (1 : Int32)) = (0 : Int32))))), .val (.int (bI (¬ ((p0 &&& (2 : Int32)) = (0 : Int32))))), .val (.int (bI (¬ ((p0 &&& (4 : Int32)) = (0 : Int32))))), .val (.int (bI (¬ ((p0 &&& (8 : Int32)) = (0 : Int32))))), .unset, .unset, .unset] [(.ref b111)])) tz := by
    intro tz kz
    refine XS.dup X111.here hx rfl (hb hby at_99) rfl rfl ?_
    show Steps p.tables e below (T111.setTop (mkF m 100 #[.val (.int p0), .val (.int p1), .val (.int p2), .val (.ref b1), .val (.ref b42), .val (.int (bI (¬ ((p0 &&& (1 : Int32)) = (0 : Int32))))), .val (.int (bI (¬ ((p0 &&& (2 : Int32)) = (0 : Int32))))), .val (.int (bI (¬ ((p0 &&& (4 : Int32)) = (0 : Int32))))), .val (.int (bI (¬ ((p0 &&& (8 : Int32)) = (0 : Int32))))), .unset, .unset, .unset] [(.ref b111), (.ref b111)])) _
    refine XS.aloadN X111.here hx rfl (hb hby at_100) rfl rfl ?_
    exact kz
  refine OGW.step s122 ?_
  have s123 : ∀ tz, Steps p.tables e below (T111.setTop (mkF m 111 #[.val (.int p0), .val (.int p1), .val (.int p2), .val (.ref b1), .val (.ref b42), .val (.int (bI (¬ ((p0 &&& (1 : Int32)) = (0 : Int32))))), .val (.int (bI (¬ ((p0 &&& (2 : Int32)) = (0 : Int32))))), .val (.int (bI (¬ ((p0 &&& (4 : Int32)) = (0 : Int32))))), .val (.int (bI (¬ ((p0 &&& (8 : Int32)) = (0 : Int32))))), .unset, .unset, .unset] [(if ¬ ((p0 &&& (1 : Int32)) = (0 : Int32)) then (.ref b1) else .null), (.ref b1), (.ref b111), (.ref b111)])) tz → Steps p.tables e below (T111.setTop (mkF m 101 #[.val (.int p0), .val (.int p1), .val (.int p2), .val (.ref b1), .val (.ref b42), .val (.int (bI (¬ ((p0 &&& (1 : Int32)) = (0 : Int32))))), .val (.int (bI (¬ ((p0 &&& (2 : Int32)) = (0 : Int32))))), .val (.int (bI (¬ ((p0 &&& (4 : Int32)) = (0 : Int32))))), .val (.int (bI (¬ ((p0 &&& (8 : Int32)) = (0 : Int32))))), .unset, .unset, .unset] [(.ref b1), (.ref b111), (.ref b111)])) tz := by
    intro tz kz
    refine XS.iload X111.here hx rfl (hb hby at_101) rfl ?_
    show Steps p.tables e below (T111.setTop (mkF m 103 #[.val (.int p0), .val (.int p1), .val (.int p2), .val (.ref b1), .val (.ref b42), .val (.int (bI (¬ ((p0 &&& (1 : Int32)) = (0 : Int32))))), .val (.int (bI (¬ ((p0 &&& (2 : Int32)) = (0 : Int32))))), .val (.int (bI (¬ ((p0 &&& (4 : Int32)) = (0 : Int32))))), .val (.int (bI (¬ ((p0 &&& (8 : Int32)) = (0 : Int32))))), .unset, .unset, .unset] [(.int (bI (¬ ((p0 &&& (1 : Int32)) = (0 : Int32))))), (.ref b1), (.ref b111), (.ref b111)])) _
    by_cases hm103 : ¬ ((p0 &&& (1 : Int32)) = (0 : Int32))
    · refine XS.ifNo X111.here hx rfl (hb hby at_103) rfl ((if0 _ _).trans (feq (bI_ne0 hm103)).1) ?_
      show Steps p.tables e below (T111.setTop (mkF m 106 #[.val (.int p0), .val (.int p1), .val (.int p2), .val (.ref b1), .val (.ref b42), .val (.int (bI (¬ ((p0 &&& (1 : Int32)) = (0 : Int32))))), .val (.int (bI (¬ ((p0 &&& (2 : Int32)) = (0 : Int32))))), .val (.int (bI (¬ ((p0 &&& (4 : Int32)) = (0 : Int32))))), .val (.int (bI (¬ ((p0 &&& (8 : Int32)) = (0 : Int32))))), .unset, .unset, .unset] [(.ref b1), (.ref b111), (.ref b111)])) _
      refine XS.aloadN X111.here hx rfl (hb hby at_106) rfl rfl ?_
      show Steps p.tables e below (T111.setTop (mkF m 107 #[.val (.int p0), .val (.int p1), .val (.int p2), .val (.ref b1), .val (.ref b42), .val (.int (bI (¬ ((p0 &&& (1 : Int32)) = (0 : Int32))))), .val (.int (bI (¬ ((p0 &&& (2 : Int32)) = (0 : Int32))))), .val (.int (bI (¬ ((p0 &&& (4 : Int32)) = (0 : Int32))))), .val (.int (bI (¬ ((p0 &&& (8 : Int32)) = (0 : Int32))))), .unset, .unset, .unset] [(.ref b1), (.ref b1), (.ref b111), (.ref b111)])) _
      refine XS.goto X111.here hx rfl (pc0 := 107) (pc' := 111) rfl (hb hby at_107) (by decide) (by decide) ?_
      show Steps p.tables e below (T111.setTop (mkF m 111 #[.val (.int p0), .val (.int p1), .val (.int p2), .val (.ref b1), .val (.ref b42), .val (.int (bI (¬ ((p0 &&& (1 : Int32)) = (0 : Int32))))), .val (.int (bI (¬ ((p0 &&& (2 : Int32)) = (0 : Int32))))), .val (.int (bI (¬ ((p0 &&& (4 : Int32)) = (0 : Int32))))), .val (.int (bI (¬ ((p0 &&& (8 : Int32)) = (0 : Int32))))), .unset, .unset, .unset] [(.ref b1), (.ref b1), (.ref b111), (.ref b111)])) _
      rw [show ((if ¬ ((p0 &&& (1 : Int32)) = (0 : Int32)) then (.ref b1) else .null) : Value) = (.ref b1) from (if_pos hm103)] at kz
      exact kz
    · refine XS.ifYes X111.here hx rfl (pc0 := 103) (pc' := 110) rfl (hb hby at_103) rfl ((if0 _ _).trans (teq (bI_0 hm103)).1) (by decide) (by decide) ?_
      show Steps p.tables e below (T111.setTop (mkF m 110 #[.val (.int p0), .val (.int p1), .val (.int p2), .val (.ref b1), .val (.ref b42), .val (.int (bI (¬ ((p0 &&& (1 : Int32)) = (0 : Int32))))), .val (.int (bI (¬ ((p0 &&& (2 : Int32)) = (0 : Int32))))), .val (.int (bI (¬ ((p0 &&& (4 : Int32)) = (0 : Int32))))), .val (.int (bI (¬ ((p0 &&& (8 : Int32)) = (0 : Int32))))), .unset, .unset, .unset] [(.ref b1), (.ref b111), (.ref b111)])) _
      refine XS.aconstNull X111.here hx rfl (hb hby at_110) ?_
      show Steps p.tables e below (T111.setTop (mkF m 111 #[.val (.int p0), .val (.int p1), .val (.int p2), .val (.ref b1), .val (.ref b42), .val (.int (bI (¬ ((p0 &&& (1 : Int32)) = (0 : Int32))))), .val (.int (bI (¬ ((p0 &&& (2 : Int32)) = (0 : Int32))))), .val (.int (bI (¬ ((p0 &&& (4 : Int32)) = (0 : Int32))))), .val (.int (bI (¬ ((p0 &&& (8 : Int32)) = (0 : Int32))))), .unset, .unset, .unset] [.null, (.ref b1), (.ref b111), (.ref b111)])) _
      rw [show ((if ¬ ((p0 &&& (1 : Int32)) = (0 : Int32)) then (.ref b1) else .null) : Value) = .null from (if_neg hm103)] at kz
      exact kz
  refine OGW.step s123 ?_
  have s124 : ∀ tz, Steps p.tables e below (T111.setTop (mkF m 122 #[.val (.int p0), .val (.int p1), .val (.int p2), .val (.ref b1), .val (.ref b42), .val (.int (bI (¬ ((p0 &&& (1 : Int32)) = (0 : Int32))))), .val (.int (bI (¬ ((p0 &&& (2 : Int32)) = (0 : Int32))))), .val (.int (bI (¬ ((p0 &&& (4 : Int32)) = (0 : Int32))))), .val (.int (bI (¬ ((p0 &&& (8 : Int32)) = (0 : Int32))))), .unset, .unset, .unset] [(if ¬ ((p0 &&& (2 : Int32)) = (0 : Int32)) then (.ref b42) else .null), (if ¬ ((p0 &&& (1 : Int32)) = (0 : Int32)) then (.ref b1) else .null), (.ref b1), (.ref b111), (.ref b111)])) tz → Steps p.tables e below (T111.setTop (mkF m 111 #[.val (.int p0), .val (.int p1), .val (.int p2), .val (.ref b1), .val (.ref b42), .val (.int (bI (¬ ((p0 &&& (1 : Int32)) = (0 : Int32))))), .val (.int (bI (¬ ((p0 &&& (2 : Int32)) = (0 : Int32))))), .val (.int (bI (¬ ((p0 &&& (4 : Int32)) = (0 : Int32))))), .val (.int (bI (¬ ((p0 &&& (8 : Int32)) = (0 : Int32))))), .unset, .unset, .unset] [(if ¬ ((p0 &&& (1 : Int32)) = (0 : Int32)) then (.ref b1) else .null), (.ref b1), (.ref b111), (.ref b111)])) tz := by
    intro tz kz
    refine XS.iload X111.here hx rfl (hb hby at_111) rfl ?_
    show Steps p.tables e below (T111.setTop (mkF m 113 #[.val (.int p0), .val (.int p1), .val (.int p2), .val (.ref b1), .val (.ref b42), .val (.int (bI (¬ ((p0 &&& (1 : Int32)) = (0 : Int32))))), .val (.int (bI (¬ ((p0 &&& (2 : Int32)) = (0 : Int32))))), .val (.int (bI (¬ ((p0 &&& (4 : Int32)) = (0 : Int32))))), .val (.int (bI (¬ ((p0 &&& (8 : Int32)) = (0 : Int32))))), .unset, .unset, .unset] [(.int (bI (¬ ((p0 &&& (2 : Int32)) = (0 : Int32))))), (if ¬ ((p0 &&& (1 : Int32)) = (0 : Int32)) then (.ref b1) else .null), (.ref b1), (.ref b111), (.ref b111)])) _
    by_cases hm113 : ¬ ((p0 &&& (2 : Int32)) = (0 : Int32))
    · refine XS.ifNo X111.here hx rfl (hb hby at_113) rfl ((if0 _ _).trans (feq (bI_ne0 hm113)).1) ?_
      show Steps p.tables e below (T111.setTop (mkF m 116 #[.val (.int p0), .val (.int p1), .val (.int p2), .val (.ref b1), .val (.ref b42), .val (.int (bI (¬ ((p0 &&& (1 : Int32)) = (0 : Int32))))), .val (.int (bI (¬ ((p0 &&& (2 : Int32)) = (0 : Int32))))), .val (.int (bI (¬ ((p0 &&& (4 : Int32)) = (0 : Int32))))), .val (.int (bI (¬ ((p0 &&& (8 : Int32)) = (0 : Int32))))), .unset, .unset, .unset] [(if ¬ ((p0 &&& (1 : Int32)) = (0 : Int32)) then (.ref b1) else .null), (.ref b1), (.ref b111), (.ref b111)])) _
      refine XS.aload X111.here hx rfl (hb hby at_116) rfl rfl ?_
      show Steps p.tables e below (T111.setTop (mkF m 118 #[.val (.int p0), .val (.int p1), .val (.int p2), .val (.ref b1), .val (.ref b42), .val (.int (bI (¬ ((p0 &&& (1 : Int32)) = (0 : Int32))))), .val (.int (bI (¬ ((p0 &&& (2 : Int32)) = (0 : Int32))))), .val (.int (bI (¬ ((p0 &&& (4 : Int32)) = (0 : Int32))))), .val (.int (bI (¬ ((p0 &&& (8 : Int32)) = (0 : Int32))))), .unset, .unset, .unset] [(.ref b42), (if ¬ ((p0 &&& (1 : Int32)) = (0 : Int32)) then (.ref b1) else .null), (.ref b1), (.ref b111), (.ref b111)])) _
      refine XS.goto X111.here hx rfl (pc0 := 118) (pc' := 122) rfl (hb hby at_118) (by decide) (by decide) ?_
      show Steps p.tables e below (T111.setTop (mkF m 122 #[.val (.int p0), .val (.int p1), .val (.int p2), .val (.ref b1), .val (.ref b42), .val (.int (bI (¬ ((p0 &&& (1 : Int32)) = (0 : Int32))))), .val (.int (bI (¬ ((p0 &&& (2 : Int32)) = (0 : Int32))))), .val (.int (bI (¬ ((p0 &&& (4 : Int32)) = (0 : Int32))))), .val (.int (bI (¬ ((p0 &&& (8 : Int32)) = (0 : Int32))))), .unset, .unset, .unset] [(.ref b42), (if ¬ ((p0 &&& (1 : Int32)) = (0 : Int32)) then (.ref b1) else .null), (.ref b1), (.ref b111), (.ref b111)])) _
      rw [show ((if ¬ ((p0 &&& (2 : Int32)) = (0 : Int32)) then (.ref b42) else .null) : Value) = (.ref b42) from (if_pos hm113)] at kz
      exact kz
    · refine XS.ifYes X111.here hx rfl (pc0 := 113) (pc' := 121) rfl (hb hby at_113) rfl ((if0 _ _).trans (teq (bI_0 hm113)).1) (by decide) (by decide) ?_
      show Steps p.tables e below (T111.setTop (mkF m 121 #[.val (.int p0), .val (.int p1), .val (.int p2), .val (.ref b1), .val (.ref b42), .val (.int (bI (¬ ((p0 &&& (1 : Int32)) = (0 : Int32))))), .val (.int (bI (¬ ((p0 &&& (2 : Int32)) = (0 : Int32))))), .val (.int (bI (¬ ((p0 &&& (4 : Int32)) = (0 : Int32))))), .val (.int (bI (¬ ((p0 &&& (8 : Int32)) = (0 : Int32))))), .unset, .unset, .unset] [(if ¬ ((p0 &&& (1 : Int32)) = (0 : Int32)) then (.ref b1) else .null), (.ref b1), (.ref b111), (.ref b111)])) _
      refine XS.aconstNull X111.here hx rfl (hb hby at_121) ?_
      show Steps p.tables e below (T111.setTop (mkF m 122 #[.val (.int p0), .val (.int p1), .val (.int p2), .val (.ref b1), .val (.ref b42), .val (.int (bI (¬ ((p0 &&& (1 : Int32)) = (0 : Int32))))), .val (.int (bI (¬ ((p0 &&& (2 : Int32)) = (0 : Int32))))), .val (.int (bI (¬ ((p0 &&& (4 : Int32)) = (0 : Int32))))), .val (.int (bI (¬ ((p0 &&& (8 : Int32)) = (0 : Int32))))), .unset, .unset, .unset] [.null, (if ¬ ((p0 &&& (1 : Int32)) = (0 : Int32)) then (.ref b1) else .null), (.ref b1), (.ref b111), (.ref b111)])) _
      rw [show ((if ¬ ((p0 &&& (2 : Int32)) = (0 : Int32)) then (.ref b42) else .null) : Value) = .null from (if_neg hm113)] at kz
      exact kz
  refine OGW.step s124 ?_
  obtain ⟨_, _, ⟨T125, L125, k125, n125⟩, -, X125, hSn125, hgr125, ⟨Lc125, hQ125, l125, y125, z125⟩, st125⟩ := X111.specialBackS hx (y := (⟨"com/example/mergeward/mergeward/core/RecordPath", "<init>", "(Lcom/example/mergeward/mergeward/core/Identifier;Lcom/example/mergeward/mergeward/core/Identifier;Lcom/example/mergeward/mergeward/core/Identifier;)V"⟩ : MethodName)) rfl hown (mvT hZ (hw _ (List.mem_of_getElem? (i := 62) rfl))) (mvT hZ (hw _ (List.mem_of_getElem? (i := 63) rfl))) (mvT hZ (hw _ (List.mem_of_getElem? (i := 64) rfl))) (by decide) (backOfS (W := 1) (rm10 l Z a0 hw [] b111 b1 (if ¬ ((p0 &&& (1 : Int32)) = (0 : Int32)) then (.ref b1) else .null) (if ¬ ((p0 &&& (2 : Int32)) = (0 : Int32)) then (.ref b42) else .null) .null .null .null h111 n0 (Nat.le_trans Z0 K111.1) A111 F111_patient F111_account F111_visit ge111 (own_isI _ _) (own_isI _ _)) hZ (hw _ (List.mem_of_getElem? (i := 64) rfl)) (hw _ (List.mem_of_getElem? (i := 61) rfl)) (by decide) (by decide)) (g := (mkF m 122 #[.val (.int p0), .val (.int p1), .val (.int p2), .val (.ref b1), .val (.ref b42), .val (.int (bI (¬ ((p0 &&& (1 : Int32)) = (0 : Int32))))), .val (.int (bI (¬ ((p0 &&& (2 : Int32)) = (0 : Int32))))), .val (.int (bI (¬ ((p0 &&& (4 : Int32)) = (0 : Int32))))), .val (.int (bI (¬ ((p0 &&& (8 : Int32)) = (0 : Int32))))), .unset, .unset, .unset] [(if ¬ ((p0 &&& (2 : Int32)) = (0 : Int32)) then (.ref b42) else .null), (if ¬ ((p0 &&& (1 : Int32)) = (0 : Int32)) then (.ref b1) else .null), (.ref b1), (.ref b111), (.ref b111)])) rfl (by rw [hml]; rfl) (Steps.refl _) (a := b111) (argsL := [(.ref b1), (if ¬ ((p0 &&& (1 : Int32)) = (0 : Int32)) then (.ref b1) else .null), (if ¬ ((p0 &&& (2 : Int32)) = (0 : Int32)) then (.ref b42) else .null)]) (rest := [(.ref b111)]) (lenOf pd__Lcom_example_mergeward_mergeward_core_Identifier_Lcom_example_mergeward_mergeward_core_Identifier_Lcom_example_mergeward_mergeward_core_Identifier__V rfl) rfl (by show 2 * 0 + _ ≤ _; exact Nat.le_of_eq rfl) (hb hby at_122) (fun _ _ => ⟨rfl, e111, (by decide : 27 + 2 ≤ _), (by decide : 307 + 32 ≤ _)⟩)
  dsimp only [Pt.U, Pt.locs, Pt.cells, Pt.slots] at hSn125 hgr125
  dsimp only [Pt.U, Pt.locs, Pt.cells, Pt.slots] at X125 l125 y125 z125 st125 hQ125
  subst l125 y125 z125
  obtain ⟨rfl, N125q, Kc125, p125_0, p125_1⟩ := hQ125
  have N125 := Fr.app N88 N125q
  have hkT125 : _ ≤ T111.heap.size := (by rw [e111]; exact hk121)
  obtain ⟨X125, hS125, hZ, hown⟩ := rebS hS88 hkT125 X125 hSn125 hgr125 hZ hown
  refine OGW.step (fun tz kz => st125.trans kz) ?_
  have f126 := f112.keep Kc125 (allS ge111 all0)
  have f127 := f113.keep Kc125
  have f128 := f114.keep Kc125
  have f129 := f115.keep Kc125 (ninS ne111_s1_5 nin0)
  have f130 := f116.keep Kc125 (ninS ne111_b1_5 nin0)
  have f131 := f117.keep Kc125
  have f132 := f118.keep Kc125
  have f133 := f119.keep Kc125 (ninS ne111_s1_50 nin0)
  have f134 := f120.keep Kc125 (ninS ne111_b1_50 nin0)
  have f135 := A111.keep Kc125
  have K125 := K111.trans Kc125 (allS (Or.inr sz111) all0)
  obtain ⟨Lz139, X125, N125⟩ : ∃ Lz, Stand p l e room_1 (s.setVm T125.vm) m #[(.int p0), (.int p1), (.int p2)] below meth c T125 Lz 29 339 ∧ Fr n0 Lz := ⟨_, X125, N125⟩
  show OGW _ _ _ _ _ _ _ (T125.setTop (mkF m 125 #[.val (.int p0), .val (.int p1), .val (.int p2), .val (.ref b1), .val (.ref b42), .val (.int (bI (¬ ((p0 &&& (1 : Int32)) = (0 : Int32))))), .val (.int (bI (¬ ((p0 &&& (2 : Int32)) = (0 : Int32))))), .val (.int (bI (¬ ((p0 &&& (4 : Int32)) = (0 : Int32))))), .val (.int (bI (¬ ((p0 &&& (8 : Int32)) = (0 : Int32))))), .unset, .unset, .unset] [(.ref b111)]))
  have s140 : ∀ tz, Steps p.tables e below (T125.setTop (mkF m 127 #[.val (.int p0), .val (.int p1), .val (.int p2), .val (.ref b1), .val (.ref b42), .val (.int (bI (¬ ((p0 &&& (1 : Int32)) = (0 : Int32))))), .val (.int (bI (¬ ((p0 &&& (2 : Int32)) = (0 : Int32))))), .val (.int (bI (¬ ((p0 &&& (4 : Int32)) = (0 : Int32))))), .val (.int (bI (¬ ((p0 &&& (8 : Int32)) = (0 : Int32))))), .val (.ref b111), .unset, .unset] [])) tz → Steps p.tables e below (T125.setTop (mkF m 125 #[.val (.int p0), .val (.int p1), .val (.int p2), .val (.ref b1), .val (.ref b42), .val (.int (bI (¬ ((p0 &&& (1 : Int32)) = (0 : Int32))))), .val (.int (bI (¬ ((p0 &&& (2 : Int32)) = (0 : Int32))))), .val (.int (bI (¬ ((p0 &&& (4 : Int32)) = (0 : Int32))))), .val (.int (bI (¬ ((p0 &&& (8 : Int32)) = (0 : Int32))))), .unset, .unset, .unset] [(.ref b111)])) tz := by
    intro tz kz
    refine XS.astore X125.here hx rfl (hb hby at_125) rfl rfl (l' := #[.val (.int p0), .val (.int p1), .val (.int p2), .val (.ref b1), .val (.ref b42), .val (.int (bI (¬ ((p0 &&& (1 : Int32)) = (0 : Int32))))), .val (.int (bI (¬ ((p0 &&& (2 : Int32)) = (0 : Int32))))), .val (.int (bI (¬ ((p0 &&& (4 : Int32)) = (0 : Int32))))), .val (.int (bI (¬ ((p0 &&& (8 : Int32)) = (0 : Int32))))), .val (.ref b111), .unset, .unset]) rfl ?_
    exact kz
  refine OGW.step s140 ?_
  obtain ⟨T141, h141, X141, e141, E141, A141, D141, -, st141⟩ := newO X125 hx hZ hown (hw _ (List.mem_of_getElem? (i := 59) rfl)) (hw _ (List.mem_of_getElem? (i := 60) rfl)) (hw _ (List.mem_of_getElem? (i := 61) rfl)) rfl (g := (mkF m 127 #[.val (.int p0), .val (.int p1), .val (.int p2), .val (.ref b1), .val (.ref b42), .val (.int (bI (¬ ((p0 &&& (1 : Int32)) = (0 : Int32))))), .val (.int (bI (¬ ((p0 &&& (2 : Int32)) = (0 : Int32))))), .val (.int (bI (¬ ((p0 &&& (4 : Int32)) = (0 : Int32))))), .val (.int (bI (¬ ((p0 &&& (8 : Int32)) = (0 : Int32))))), .val (.ref b111), .unset, .unset] [])) rfl (hb hby at_127) (by decide) (by decide)
  obtain ⟨b141, g141⟩ : ∃ z, z = T125.heap.size := ⟨_, rfl⟩
  rw [← g141] at A141 D141 st141
  have sz141 : h0.size ≤ b141 := Nat.le_trans K125.1 (Nat.le_of_eq g141.symm)
  have ge141 : n0 ≤ b141 := Nat.le_trans Z0 sz141
  have ne141_b1 : b1 ≠ b141 := Nat.ne_of_lt (Nat.lt_of_lt_of_le f127.lt (Nat.le_of_eq g141.symm))
  have ne141_s1_5 : s1_5 ≠ b141 := Nat.ne_of_lt (Nat.lt_of_lt_of_le f128.lt (Nat.le_of_eq g141.symm))
  have ne141_b1_5 : b1_5 ≠ b141 := Nat.ne_of_lt (Nat.lt_of_lt_of_le f130.lt (Nat.le_of_eq g141.symm))
  have ne141_b42 : b42 ≠ b141 := Nat.ne_of_lt (Nat.lt_of_lt_of_le f131.lt (Nat.le_of_eq g141.symm))
  have ne141_s1_50 : s1_50 ≠ b141 := Nat.ne_of_lt (Nat.lt_of_lt_of_le f132.lt (Nat.le_of_eq g141.symm))
  have ne141_b1_50 : b1_50 ≠ b141 := Nat.ne_of_lt (Nat.lt_of_lt_of_le f134.lt (Nat.le_of_eq g141.symm))
  have ne141_b111 : b111 ≠ b141 := Nat.ne_of_lt (Nat.lt_of_lt_of_le f135.lt (Nat.le_of_eq g141.symm))
  refine OGW.step st141 ?_
  have f142 := f126.ext E141
  have f143 := f127.ext E141
  have f144 := f128.ext E141
  have f145 := f129.ext E141
  have f146 := f130.ext E141
  have f147 := f131.ext E141
  have f148 := f132.ext E141
  have f149 := f133.ext E141
  have f150 := f134.ext E141
  have f151 := f135.ext E141
  have f152 := p125_0.ext E141
  have f153 := p125_1.ext E141
  have F141_patient : Fld Z h141 b141 "com/example/mergeward/mergeward/core/RecordPath" "patient" "Lcom/example/mergeward/mergeward/core/Identifier;" .null := D141 (Or.inr (hw _ (List.mem_of_getElem? (i := 69) rfl))) (ty := (.object "com/example/mergeward/mergeward/core/Identifier")) (by decide)
  have F141_account : Fld Z h141 b141 "com/example/mergeward/mergeward/core/RecordPath" "account" "Lcom/example/mergeward/mergeward/core/Identifier;" .null := D141 (Or.inr (hw _ (List.mem_of_getElem? (i := 71) rfl))) (ty := (.object "com/example/mergeward/mergeward/core/Identifier")) (by decide)
  have F141_visit : Fld Z h141 b141 "com/example/mergeward/mergeward/core/RecordPath" "visit" "Lcom/example/mergeward/mergeward/core/Identifier;" .null := D141 (Or.inr (hw _ (List.mem_of_getElem? (i := 73) rfl))) (ty := (.object "com/example/mergeward/mergeward/core/Identifier")) (by decide)
  have K141 := K125.ext E141
  have hk154 := Nat.le_trans (Nat.le_refl _) E141.1
  show OGW _ _ _ _ _ _ _ (T141.setTop (mkF m 130 #[.val (.int p0), .val (.int p1), .val (.int p2), .val (.ref b1), .val (.ref b42), .val (.int (bI (¬ ((p0 &&& (1 : Int32)) = (0 : Int32))))), .val (.int (bI (¬ ((p0 &&& (2 : Int32)) = (0 : Int32))))), .val (.int (bI (¬ ((p0 &&& (4 : Int32)) = (0 : Int32))))), .val (.int (bI (¬ ((p0 &&& (8 : Int32)) = (0 : Int32))))), .val (.ref b111), .unset, .unset] [(.ref b141)]))
  have s155 : ∀ tz, Steps p.tables e below (T141.setTop (mkF m 133 #[.val (.int p0), .val (.int p1), .val (.int p2), .val (.ref b1), .val (.ref b42), .val (.int (bI (¬ ((p0 &&& (1 : Int32)) = (0 : Int32))))), .val (.int (bI (¬ ((p0 &&& (2 : Int32)) = (0 : Int32))))), .val (.int (bI (¬ ((p0 &&& (4 : Int32)) = (0 : Int32))))), .val (.int (bI (¬ ((p0 &&& (8 : Int32)) = (0 : Int32))))), .val (.ref b111), .unset, .unset] [(.ref b42), (.ref b141), (.ref b141)])) tz → Steps p.tables e below (T141.setTop (mkF m 130 #[.val (.int p0), .val (.int p1), .val (.int p2), .val (.ref b1), .val (.ref b42), .val (.int (bI (¬ ((p0 &&& (1 : Int32)) = (0 : Int32))))), .val (.int (bI (¬ ((p0 &&& (2 : Int32)) = (0 : Int32))))), .val (.int (bI (¬ ((p0 &&& (4 : Int32)) = (0 : Int32))))), .val (.int (bI (¬ ((p0 &&& (8 : Int32)) = (0 : Int32))))), .val (.ref b111), .unset, .unset] [(.ref b141)])) tz := by
    intro tz kz
    refine XS.dup X141.here hx rfl (hb hby at_130) rfl rfl ?_
    show Steps p.tables e below (T141.setTop (mkF m 131 #[.val (.int p0), .val (.int p1), .val (.int p2), .val (.ref b1), .val (.ref b42), .val (.int (bI (¬ ((p0 &&& (1 : Int32)) = (0 : Int32))))), .val (.int (bI (¬ ((p0 &&& (2 : Int32)) = (0 : Int32))))), .val (.int (bI (¬ ((p0 &&& (4 : Int32)) = (0 : Int32))))), .val (.int (bI (¬ ((p0 &&& (8 : Int32)) = (0 : Int32))))), .val (.ref b111), .unset, .unset] [(.ref b141), (.ref b141)])) _
    refine XS.aload X141.here hx rfl (hb hby at_131) rfl rfl ?_
    exact kz
  refine OGW.step s155 ?_
  have s156 : ∀ tz, Steps p.tables e below (T141.setTop (mkF m 144 #[.val (.int p0), .val (.int p1), .val (.int p2), .val (.ref b1), .val (.ref b42), .val (.int (bI (¬ ((p0 &&& (1 : Int32)) = (0 : Int32))))), .val (.int (bI (¬ ((p0 &&& (2 : Int32)) = (0 : Int32))))), .val (.int (bI (¬ ((p0 &&& (4 : Int32)) = (0 : Int32))))), .val (.int (bI (¬ ((p0 &&& (8 : Int32)) = (0 : Int32))))), .val (.ref b111), .unset, .unset] [(if ¬ ((p0 &&& (4 : Int32)) = (0 : Int32)) then (.ref b42) else .null), (.ref b42), (.ref b141), (.ref b141)])) tz → Steps p.tables e below (T141.setTop (mkF m 133 #[.val (.int p0), .val (.int p1), .val (.int p2), .val (.ref b1), .val (.ref b42), .val (.int (bI (¬ ((p0 &&& (1 : Int32)) = (0 : Int32))))), .val (.int (bI (¬ ((p0 &&& (2 : Int32)) = (0 : Int32))))), .val (.int (bI (¬ ((p0 &&& (4 : Int32)) = (0 : Int32))))), .val (.int (bI (¬ ((p0 &&& (8 : Int32)) = (0 : Int32))))), .val (.ref b111), .unset, .unset] [(.ref b42), (.ref b141), (.ref b141)])) tz := by
    intro tz kz
    refine XS.iload X141.here hx rfl (hb hby at_133) rfl ?_
    show Steps p.tables e below (T141.setTop (mkF m 135 #[.val (.int p0), .val (.int p1), .val (.int p2), .val (.ref b1), .val (.ref b42), .val (.int (bI (¬ ((p0 &&& (1 : Int32)) = (0 : Int32))))), .val (.int (bI (¬ ((p0 &&& (2 : Int32)) = (0 : Int32))))), .val (.int (bI (¬ ((p0 &&& (4 : Int32)) = (0 : Int32))))), .val (.int (bI (¬ ((p0 &&& (8 : Int32)) = (0 : Int32))))), .val (.ref b111), .unset, .unset] [(.int (bI (¬ ((p0 &&& (4 : Int32)) = (0 : Int32))))), (.ref b42), (.ref b141), (.ref b141)])) _
    by_cases hm135 : ¬ ((p0 &&& (4 : Int32)) = (0 : Int32))
    · refine XS.ifNo X141.here hx rfl (hb hby at_135) rfl ((if0 _ _).trans (feq (bI_ne0 hm135)).1) ?_
      show Steps p.tables e below (T141.setTop (mkF m 138 #[.val (.int p0), .val (.int p1), .val (.int p2), .val (.ref b1), .val (.ref b42), .val (.int (bI (¬ ((p0 &&& (1 : Int32)) = (0 : Int32))))), .val (.int (bI (¬ ((p0 &&& (2 : Int32)) = (0 : Int32))))), .val (.int (bI (¬ ((p0 &&& (4 : Int32)) = (0 : Int32))))), .val (.int (bI (¬ ((p0 &&& (8 : Int32)) = (0 : Int32))))), .val (.ref b111), .unset, .unset] [(.ref b42), (.ref b141), (.ref b141)])) _
      refine XS.aload X141.here hx rfl (hb hby at_138) rfl rfl ?_
      show Steps p.tables e below (T141.setTop (mkF m 140 #[.val (.int p0), .val (.int p1), .val (.int p2), .val (.ref b1), .val (.ref b42), .val (.int (bI (¬ ((p0 &&& (1 : Int32)) = (0 : Int32))))), .val (.int (bI (¬ ((p0 &&& (2 : Int32)) = (0 : Int32))))), .val (.int (bI (¬ ((p0 &&& (4 : Int32)) = (0 : Int32))))), .val (.int (bI (¬ ((p0 &&& (8 : Int32)) = (0 : Int32))))), .val (.ref b111), .unset, .unset] [(.ref b42), (.ref b42), (.ref b141), (.ref b141)])) _
      refine XS.goto X141.here hx rfl (pc0 := 140) (pc' := 144) rfl (hb hby at_140) (by decide) (by decide) ?_
      show Steps p.tables e below (T141.setTop (mkF m 144 #[.val (.int p0), .val (.int p1), .val (.int p2), .val (.ref b1), .val (.ref b42), .val (.int (bI (¬ ((p0 &&& (1 : Int32)) = (0 : Int32))))), .val (.int (bI (¬ ((p0 &&& (2 : Int32)) = (0 : Int32))))), .val (.int (bI (¬ ((p0 &&& (4 : Int32)) = (0 : Int32))))), .val (.int (bI (¬ ((p0 &&& (8 : Int32)) = (0 : Int32))))), .val (.ref b111), .unset, .unset] [(.ref b42), (.ref b42), (.ref b141), (.ref b141)])) _
      rw [show ((if ¬ ((p0 &&& (4 : Int32)) = (0 : Int32)) then (.ref b42) else .null) : Value) = (.ref b42) from (if_pos hm135)] at kz
      exact kz
    · refine XS.ifYes X141.here hx rfl (pc0 := 135) (pc' := 143) rfl (hb hby at_135) rfl ((if0 _ _).trans (teq (bI_0 hm135)).1) (by decide) (by decide) ?_
      show Steps p.tables e below (T141.setTop (mkF m 143 #[.val (.int p0), .val (.int p1), .val (.int p2), .val (.ref b1), .val (.ref b42), .val (.int (bI (¬ ((p0 &&& (1 : Int32)) = (0 : Int32))))), .val (.int (bI (¬ ((p0 &&& (2 : Int32)) = (0 : Int32))))), .val (.int (bI (¬ ((p0 &&& (4 : Int32)) = (0 : Int32))))), .val (.int (bI (¬ ((p0 &&& (8 : Int32)) = (0 : Int32))))), .val (.ref b111), .unset, .unset] [(.ref b42), (.ref b141), (.ref b141)])) _
      refine XS.aconstNull X141.here hx rfl (hb hby at_143) ?_
      show Steps p.tables e below (T141.setTop (mkF m 144 #[.val (.int p0), .val (.int p1), .val (.int p2), .val (.ref b1), .val (.ref b42), .val (.int (bI (¬ ((p0 &&& (1 : Int32)) = (0 : Int32))))), .val (.int (bI (¬ ((p0 &&& (2 : Int32)) = (0 : Int32))))), .val (.int (bI (¬ ((p0 &&& (4 : Int32)) = (0 : Int32))))), .val (.int (bI (¬ ((p0 &&& (8 : Int32)) = (0 : Int32))))), .val (.ref b111), .unset, .unset] [.null, (.ref b42), (.ref b141), (.ref b141)])) _
      rw [show ((if ¬ ((p0 &&& (4 : Int32)) = (0 : Int32)) then (.ref b42) else .null) : Value) = .null from (if_neg hm135)] at kz
      exact kz
  refine OGW.step s156 ?_
  have s157 : ∀ tz, Steps p.tables e below (T141.setTop (mkF m 154 #[.val (.int p0), .val (.int p1), .val (.int p2), .val (.ref b1), .val (.ref b42), .val (.int (bI (¬ ((p0 &&& (1 : Int32)) = (0 : Int32))))), .val (.int (bI (¬ ((p0 &&& (2 : Int32)) = (0 : Int32))))), .val (.int (bI (¬ ((p0 &&& (4 : Int32)) = (0 : Int32))))), .val (.int (bI (¬ ((p0 &&& (8 : Int32)) = (0 : Int32))))), .val (.ref b111), .unset, .unset] [(if ¬ ((p0 &&& (8 : Int32)) = (0 : Int32)) then (.ref b1) else .null), (if ¬ ((p0 &&& (4 : Int32)) = (0 : Int32)) then (.ref b42) else .null), (.ref b42), (.ref b141), (.ref b141)])) tz → Steps p.tables e below (T141.setTop (mkF m 144 #[.val (.int p0), .val (.int p1), .val (.int p2), .val (.ref b1), .val (.ref b42), .val (.int (bI (¬ ((p0 &&& (1 : Int32)) = (0 : Int32))))), .val (.int (bI (¬ ((p0 &&& (2 : Int32)) = (0 : Int32))))), .val (.int (bI (¬ ((p0 &&& (4 : Int32)) = (0 : Int32))))), .val (.int (bI (¬ ((p0 &&& (8 : Int32)) = (0 : Int32))))), .val (.ref b111), .unset, .unset] [(if ¬ ((p0 &&& (4 : Int32)) = (0 : Int32)) then (.ref b42) else .null), (.ref b42), (.ref b141), (.ref b141)])) tz := by
    intro tz kz
    refine XS.iload X141.here hx rfl (hb hby at_144) rfl ?_
    show Steps p.tables e below (T141.setTop (mkF m 146 #[.val (.int p0), .val (.int p1), .val (.int p2), .val (.ref b1), .val (.ref b42), .val (.int (bI (¬ ((p0 &&& (1 : Int32)) = (0 : Int32))))), .val (.int (bI (¬ ((p0 &&& (2 : Int32)) = (0 : Int32))))), .val (.int (bI (¬ ((p0 &&& (4 : Int32)) = (0 : Int32))))), .val (.int (bI (¬ ((p0 &&& (8 : Int32)) = (0 : Int32))))), .val (.ref b111), .unset, .unset] [(.int (bI (¬ ((p0 &&& (8 : Int32)) = (0 : Int32))))), (if ¬ ((p0 &&& (4 : Int32)) = (0 : Int32)) then (.ref b42) else .null), (.ref b42), (.ref b141), (.ref b141)])) _
    by_cases hm146 : ¬ ((p0 &&& (8 : Int32)) = (0 : Int32))
    · refine XS.ifNo X141.here hx rfl (hb hby at_146) rfl ((if0 _ _).trans (feq (bI_ne0 hm146)).1) ?_
      show Steps p.tables e below (T141.setTop (mkF m 149 #[.val (.int p0), .val (.int p1), .val (.int p2), .val (.ref b1), .val (.ref b42), .val (.int (bI (¬ ((p0 &&& (1 : Int32)) = (0 : Int32))))), .val (.int (bI (¬ ((p0 &&& (2 : Int32)) = (0 : Int32))))), .val (.int (bI (¬ ((p0 &&& (4 : Int32)) = (0 : Int32))))), .val (.int (bI (¬ ((p0 &&& (8 : Int32)) = (0 : Int32))))), .val (.ref b111), .unset, .unset] [(if ¬ ((p0 &&& (4 : Int32)) = (0 : Int32)) then (.ref b42) else .null), (.ref b42), (.ref b141), (.ref b141)])) _
      refine XS.aloadN X141.here hx rfl (hb hby at_149) rfl rfl ?_
      show Steps p.tables e below (T141.setTop (mkF m 150 #[.val (.int p0), .val (.int p1), .val (.int p2), .val (.ref b1), .val (.ref b42), .val (.int (bI (¬ ((p0 &&& (1 : Int32)) = (0 : Int32))))), .val (.int (bI (¬ ((p0 &&& (2 : Int32)) = (0 : Int32))))), .val (.int (bI (¬ ((p0 &&& (4 : Int32)) = (0 : Int32))))), .val (.int (bI (¬ ((p0 &&& (8 : Int32)) = (0 : Int32))))), .val (.ref b111), .unset, .unset] [(.ref b1), (if ¬ ((p0 &&& (4 : Int32)) = (0 : Int32)) then (.ref b42) else .null), (.ref b42), (.ref b141), (.ref b141)])) _
      refine XS.goto X141.here hx rfl (pc0 := 150) (pc' := 154) rfl (hb hby at_150) (by decide) (by decide) ?_
      show Steps p.tables e below (T141.setTop (mkF m 154 #[.val (.int p0), .val (.int p1), .val (.int p2), .val (.ref b1), .val (.ref b42), .val (.int (bI (¬ ((p0 &&& (1 : Int32)) = (0 : Int32))))), .val (.int (bI (¬ ((p0 &&& (2 : Int32)) = (0 : Int32))))), .val (.int (bI (¬ ((p0 &&& (4 : Int32)) = (0 : Int32))))), .val (.int (bI (¬ ((p0 &&& (8 : Int32)) = (0 : Int32))))), .val (.ref b111), .unset, .unset] [(.ref b1), (if ¬ ((p0 &&& (4 : Int32)) = (0 : Int32)) then (.ref b42) else .null), (.ref b42), (.ref b141), (.ref b141)])) _
      rw [show ((if ¬ ((p0 &&& (8 : Int32)) = (0 : Int32)) then (.ref b1) else .null) : Value) = (.ref b1) from (if_pos hm146)] at kz
      exact kz
    · refine XS.ifYes X141.here hx rfl (pc0 := 146) (pc' := 153) rfl (hb hby at_146) rfl ((if0 _ _).trans (teq (bI_0 hm146)).1) (by decide) (by decide) ?_
      show Steps p.tables e below (T141.setTop (mkF m 153 #[.val (.int p0), .val (.int p1), .val (.int p2), .val (.ref b1), .val (.ref b42), .val (.int (bI (¬ ((p0 &&& (1 : Int32)) = (0 : Int32))))), .val (.int (bI (¬ ((p0 &&& (2 : Int32)) = (0 : Int32))))), .val (.int (bI (¬ ((p0 &&& (4 : Int32)) = (0 : Int32))))), .val (.int (bI (¬ ((p0 &&& (8 : Int32)) = (0 : Int32))))), .val (.ref b111), .unset, .unset] [(if ¬ ((p0 &&& (4 : Int32)) = (0 : Int32)) then (.ref b42) else .null), (.ref b42), (.ref b141), (.ref b141)])) _
      refine XS.aconstNull X141.here hx rfl (hb hby at_153) ?_
      show Steps p.tables e below (T141.setTop (mkF m 154 #[.val (.int p0), .val (.int p1), .val (.int p2), .val (.ref b1), .val (.ref b42), .val (.int (bI (¬ ((p0 &&& (1 : Int32)) = (0 : Int32))))), .val (.int (bI (¬ ((p0 &&& (2 : Int32)) = (0 : Int32))))), .val (.int (bI (¬ ((p0 &&& (4 : Int32)) = (0 : Int32))))), .val (.int (bI (¬ ((p0 &&& (8 : Int32)) = (0 : Int32))))), .val (.ref b111), .unset, .unset] [.null, (if ¬ ((p0 &&& (4 : Int32)) = (0 : Int32)) then (.ref b42) else .null), (.ref b42), (.ref b141), (.ref b141)])) _
      rw [show ((if ¬ ((p0 &&& (8 : Int32)) = (0 : Int32)) then (.ref b1) else .null) : Value) = .null from (if_neg hm146)] at kz
      exact kz
  refine OGW.step s157 ?_
  obtain ⟨_, _, ⟨T158, L158, k158, n158⟩, -, X158, hSn158, hgr158, ⟨Lc158, hQ158, l158, y158, z158⟩, st158⟩ := X141.specialBackS hx (y := (⟨"com/example/mergeward/mergeward/core/RecordPath", "<init>", "(Lcom/example/mergeward/mergeward/core/Identifier;Lcom/example/mergeward/mergeward/core/Identifier;Lcom/example/mergeward/mergeward/core/Identifier;)V"⟩ : MethodName)) rfl hown (mvT hZ (hw _ (List.mem_of_getElem? (i := 62) rfl))) (mvT hZ (hw _ (List.mem_of_getElem? (i := 63) rfl))) (mvT hZ (hw _ (List.mem_of_getElem? (i := 64) rfl))) (by decide) (backOfS (W := 1) (rm10 l Z a0 hw [] b141 b42 (if ¬ ((p0 &&& (4 : Int32)) = (0 : Int32)) then (.ref b42) else .null) (if ¬ ((p0 &&& (8 : Int32)) = (0 : Int32)) then (.ref b1) else .null) .null .null .null h141 n0 (Nat.le_trans Z0 K141.1) A141 F141_patient F141_account F141_visit ge141 (own_isI _ _) (own_isI _ _)) hZ (hw _ (List.mem_of_getElem? (i := 64) rfl)) (hw _ (List.mem_of_getElem? (i := 61) rfl)) (by decide) (by decide)) (g := (mkF m 154 #[.val (.int p0), .val (.int p1), .val (.int p2), .val (.ref b1), .val (.ref b42), .val (.int (bI (¬ ((p0 &&& (1 : Int32)) = (0 : Int32))))), .val (.int (bI (¬ ((p0 &&& (2 : Int32)) = (0 : Int32))))), .val (.int (bI (¬ ((p0 &&& (4 : Int32)) = (0 : Int32))))), .val (.int (bI (¬ ((p0 &&& (8 : Int32)) = (0 : Int32))))), .val (.ref b111), .unset, .unset] [(if ¬ ((p0 &&& (8 : Int32)) = (0 : Int32)) then (.ref b1) else .null), (if ¬ ((p0 &&& (4 : Int32)) = (0 : Int32)) then (.ref b42) else .null), (.ref b42), (.ref b141), (.ref b141)])) rfl (by rw [hml]; rfl) (Steps.refl _) (a := b141) (argsL := [(.ref b42), (if ¬ ((p0 &&& (4 : Int32)) = (0 : Int32)) then (.ref b42) else .null), (if ¬ ((p0 &&& (8 : Int32)) = (0 : Int32)) then (.ref b1) else .null)]) (rest := [(.ref b141)]) (lenOf pd__Lcom_example_mergeward_mergeward_core_Identifier_Lcom_example_mergeward_mergeward_core_Identifier_Lcom_example_mergeward_mergeward_core_Identifier__V rfl) rfl (by show 2 * 0 + _ ≤ _; exact Nat.le_of_eq rfl) (hb hby at_154) (fun _ _ => ⟨rfl, e141, (by decide : 30 + 2 ≤ _), (by decide : 342 + 32 ≤ _)⟩)
  dsimp only [Pt.U, Pt.locs, Pt.cells, Pt.slots] at hSn158 hgr158
  dsimp only [Pt.U, Pt.locs, Pt.cells, Pt.slots] at X158 l158 y158 z158 st158 hQ158
  subst l158 y158 z158
  obtain ⟨rfl, N158q, Kc158, p158_0, p158_1⟩ := hQ158
  have N158 := Fr.app N125 N158q
  have hkT158 : _ ≤ T141.heap.size := (by rw [e141]; exact hk154)
  obtain ⟨X158, hS158, hZ, hown⟩ := rebS hS125 hkT158 X158 hSn158 hgr158 hZ hown
  refine OGW.step (fun tz kz => st158.trans kz) ?_
  have f159 := f142.keep Kc158 (allS ge141 all0)
  have f160 := f143.keep Kc158
  have f161 := f144.keep Kc158
  have f162 := f145.keep Kc158 (ninS ne141_s1_5 nin0)
  have f163 := f146.keep Kc158 (ninS ne141_b1_5 nin0)
  have f164 := f147.keep Kc158
  have f165 := f148.keep Kc158
  have f166 := f149.keep Kc158 (ninS ne141_s1_50 nin0)
  have f167 := f150.keep Kc158 (ninS ne141_b1_50 nin0)
  have f168 := f151.keep Kc158
  have f169 := f152.keep Kc158 (ninS ne141_b111 nin0)
  have f170 := f153.keep Kc158 (ninS ne141_b111 nin0)
  have f171 := A141.keep Kc158
  have K158 := K141.trans Kc158 (allS (Or.inr sz141) all0)
  obtain ⟨Lz175, X158, N158⟩ : ∃ Lz, Stand p l e room_1 (s.setVm T158.vm) m #[(.int p0), (.int p1), (.int p2)] below meth c T158 Lz 32 374 ∧ Fr n0 Lz := ⟨_, X158, N158⟩
  show OGW _ _ _ _ _ _ _ (T158.setTop (mkF m 157 #[.val (.int p0), .val (.int p1), .val (.int p2), .val (.ref b1), .val (.ref b42), .val (.int (bI (¬ ((p0 &&& (1 : Int32)) = (0 : Int32))))), .val (.int (bI (¬ ((p0 &&& (2 : Int32)) = (0 : Int32))))), .val (.int (bI (¬ ((p0 &&& (4 : Int32)) = (0 : Int32))))), .val (.int (bI (¬ ((p0 &&& (8 : Int32)) = (0 : Int32))))), .val (.ref b111), .unset, .unset] [(.ref b141)]))
  have s176 : ∀ tz, Steps p.tables e below (T158.setTop (mkF m 163 #[.val (.int p0), .val (.int p1), .val (.int p2), .val (.ref b1), .val (.ref b42), .val (.int (bI (¬ ((p0 &&& (1 : Int32)) = (0 : Int32))))), .val (.int (bI (¬ ((p0 &&& (2 : Int32)) = (0 : Int32))))), .val (.int (bI (¬ ((p0 &&& (4 : Int32)) = (0 : Int32))))), .val (.int (bI (¬ ((p0 &&& (8 : Int32)) = (0 : Int32))))), .val (.ref b111), .val (.ref b141), .unset] [(.int (bI (¬ ((p0 &&& (2 : Int32)) = (0 : Int32))))), (.int (bI (¬ ((p0 &&& (1 : Int32)) = (0 : Int32)))))])) tz → Steps p.tables e below (T158.setTop (mkF m 157 #[.val (.int p0), .val (.int p1), .val (.int p2), .val (.ref b1), .val (.ref b42), .val (.int (bI (¬ ((p0 &&& (1 : Int32)) = (0 : Int32))))), .val (.int (bI (¬ ((p0 &&& (2 : Int32)) = (0 : Int32))))), .val (.int (bI (¬ ((p0 &&& (4 : Int32)) = (0 : Int32))))), .val (.int (bI (¬ ((p0 &&& (8 : Int32)) = (0 : Int32))))), .val (.ref b111), .unset, .unset] [(.ref b141)])) tz := by
    intro tz kz
    refine XS.astore X158.here hx rfl (hb hby at_157) rfl rfl (l' := #[.val (.int p0), .val (.int p1), .val (.int p2), .val (.ref b1), .val (.ref b42), .val (.int (bI (¬ ((p0 &&& (1 : Int32)) = (0 : Int32))))), .val (.int (bI (¬ ((p0 &&& (2 : Int32)) = (0 : Int32))))), .val (.int (bI (¬ ((p0 &&& (4 : Int32)) = (0 : Int32))))), .val (.int (bI (¬ ((p0 &&& (8 : Int32)) = (0 : Int32))))), .val (.ref b111), .val (.ref b141), .unset]) rfl ?_
    show Steps p.tables e below (T158.setTop (mkF m 159 #[.val (.int p0), .val (.int p1), .val (.int p2), .val (.ref b1), .val (.ref b42), .val (.int (bI (¬ ((p0 &&& (1 : Int32)) = (0 : Int32))))), .val (.int (bI (¬ ((p0 &&& (2 : Int32)) = (0 : Int32))))), .val (.int (bI (¬ ((p0 &&& (4 : Int32)) = (0 : Int32))))), .val (.int (bI (¬ ((p0 &&& (8 : Int32)) = (0 : Int32))))), .val (.ref b111), .val (.ref b141), .unset] [])) _
    refine XS.iload X158.here hx rfl (hb hby at_159) rfl ?_
    show Steps p.tables e below (T158.setTop (mkF m 161 #[.val (.int p0), .val (.int p1), .val (.int p2), .val (.ref b1), .val (.ref b42), .val (.int (bI (¬ ((p0 &&& (1 : Int32)) = (0 : Int32))))), .val (.int (bI (¬ ((p0 &&& (2 : Int32)) = (0 : Int32))))), .val (.int (bI (¬ ((p0 &&& (4 : Int32)) = (0 : Int32))))), .val (.int (bI (¬ ((p0 &&& (8 : Int32)) = (0 : Int32))))), .val (.ref b111), .val (.ref b141), .unset] [(.int (bI (¬ ((p0 &&& (1 : Int32)) = (0 : Int32)))))])) _
    refine XS.iload X158.here hx rfl (hb hby at_161) rfl ?_
    exact kz
  refine OGW.step s176 ?_
  obtain ⟨_, _, ⟨T177, L177, k177, n177⟩, -, X177, ⟨Lc177, hQ177, l177, y177, z177⟩, st177⟩ := Jvm.LawKit.callS X158 hx (y := (⟨"com/example/mergeward/mergeward/core/RecordPathSameLevelAsPinLaw", "level", "(ZZ)I"⟩ : MethodName)) hown (mvT hZ (hw _ (List.mem_of_getElem? (i := 74) rfl))) (mvT hZ (hw _ (List.mem_of_getElem? (i := 75) rfl))) (mvT hZ (hw _ (List.mem_of_getElem? (i := 76) rfl))) (mvT hZ (hw _ (List.mem_of_getElem? (i := 77) rfl))) (by decide) (backOf (W := 0) (rm11 l Z a0 hw [] (bI (¬ ((p0 &&& (1 : Int32)) = (0 : Int32)))) (bI (¬ ((p0 &&& (2 : Int32)) = (0 : Int32)))) T158.heap n0 (Nat.le_trans Z0 K158.1)) hZ (hw _ (List.mem_of_getElem? (i := 77) rfl)) (hw _ (List.mem_of_getElem? (i := 76) rfl)) (by decide) (by decide)) (g := (mkF m 163 #[.val (.int p0), .val (.int p1), .val (.int p2), .val (.ref b1), .val (.ref b42), .val (.int (bI (¬ ((p0 &&& (1 : Int32)) = (0 : Int32))))), .val (.int (bI (¬ ((p0 &&& (2 : Int32)) = (0 : Int32))))), .val (.int (bI (¬ ((p0 &&& (4 : Int32)) = (0 : Int32))))), .val (.int (bI (¬ ((p0 &&& (8 : Int32)) = (0 : Int32))))), .val (.ref b111), .val (.ref b141), .unset] [(.int (bI (¬ ((p0 &&& (2 : Int32)) = (0 : Int32))))), (.int (bI (¬ ((p0 &&& (1 : Int32)) = (0 : Int32)))))])) rfl (by rw [hml]; rfl) (argsL := [(.int (bI (¬ ((p0 &&& (1 : Int32)) = (0 : Int32))))), (.int (bI (¬ ((p0 &&& (2 : Int32)) = (0 : Int32)))))]) (rest := []) (lenOf pd__ZZ_I rfl) rfl (by show 2 * 0 + _ ≤ _; exact Nat.le_of_eq rfl) (hb hby at_163) (fun _ _ => ⟨rfl, rfl, (by decide : 32 + 0 ≤ _), (by decide : 374 + 0 ≤ _)⟩)
  dsimp only [Pt.U, Pt.locs, Pt.cells, Pt.slots] at X177 l177 y177 z177 st177 hQ177
  subst l177 y177 z177
  obtain ⟨rfl, N177q, e177⟩ := hQ177
  have N177 := Fr.app N158 N177q
  refine OGW.step st177 ?_
  obtain ⟨Lz178, X177, N177⟩ : ∃ Lz, Stand p l e room_1 (s.setVm T158.vm) m #[(.int p0), (.int p1), (.int p2)] below meth c T177 Lz 32 374 ∧ Fr n0 Lz := ⟨_, X177, N177⟩
  show OGW _ _ _ _ _ _ _ (T177.setTop (mkF m 166 #[.val (.int p0), .val (.int p1), .val (.int p2), .val (.ref b1), .val (.ref b42), .val (.int (bI (¬ ((p0 &&& (1 : Int32)) = (0 : Int32))))), .val (.int (bI (¬ ((p0 &&& (2 : Int32)) = (0 : Int32))))), .val (.int (bI (¬ ((p0 &&& (4 : Int32)) = (0 : Int32))))), .val (.int (bI (¬ ((p0 &&& (8 : Int32)) = (0 : Int32))))), .val (.ref b111), .val (.ref b141), .unset] [(.int (own_lv (bI (¬ ((p0 &&& (1 : Int32)) = (0 : Int32)))) (bI (¬ ((p0 &&& (2 : Int32)) = (0 : Int32))))))]))
  have s179 : ∀ tz, Steps p.tables e below (T177.setTop (mkF m 170 #[.val (.int p0), .val (.int p1), .val (.int p2), .val (.ref b1), .val (.ref b42), .val (.int (bI (¬ ((p0 &&& (1 : Int32)) = (0 : Int32))))), .val (.int (bI (¬ ((p0 &&& (2 : Int32)) = (0 : Int32))))), .val (.int (bI (¬ ((p0 &&& (4 : Int32)) = (0 : Int32))))), .val (.int (bI (¬ ((p0 &&& (8 : Int32)) = (0 : Int32))))), .val (.ref b111), .val (.ref b141), .unset] [(.int (bI (¬ ((p0 &&& (8 : Int32)) = (0 : Int32))))), (.int (bI (¬ ((p0 &&& (4 : Int32)) = (0 : Int32))))), (.int (own_lv (bI (¬ ((p0 &&& (1 : Int32)) = (0 : Int32)))) (bI (¬ ((p0 &&& (2 : Int32)) = (0 : Int32))))))])) tz → Steps p.tables e below (T177.setTop (mkF m 166 #[.val (.int p0), .val (.int p1), .val (.int p2), .val (.ref b1), .val (.ref b42), .val (.int (bI (¬ ((p0 &&& (1 : Int32)) = (0 : Int32))))), .val (.int (bI (¬ ((p0 &&& (2 : Int32)) = (0 : Int32))))), .val (.int (bI (¬ ((p0 &&& (4 : Int32)) = (0 : Int32))))), .val (.int (bI (¬ ((p0 &&& (8 : Int32)) = (0 : Int32))))), .val (.ref b111), .val (.ref b141), .unset] [(.int (own_lv (bI (¬ ((p0 &&& (1 : Int32)) = (0 : Int32)))) (bI (¬ ((p0 &&& (2 : Int32)) = (0 : Int32))))))])) tz := by
    intro tz kz
    refine XS.iload X177.here hx rfl (hb hby at_166) rfl ?_
    show Steps p.tables e below (T177.setTop (mkF m 168 #[.val (.int p0), .val (.int p1), .val (.int p2), .val (.ref b1), .val (.ref b42), .val (.int (bI (¬ ((p0 &&& (1 : Int32)) = (0 : Int32))))), .val (.int (bI (¬ ((p0 &&& (2 : Int32)) = (0 : Int32))))), .val (.int (bI (¬ ((p0 &&& (4 : Int32)) = (0 : Int32))))), .val (.int (bI (¬ ((p0 &&& (8 : Int32)) = (0 : Int32))))), .val (.ref b111), .val (.ref b141), .unset] [(.int (bI (¬ ((p0 &&& (4 : Int32)) = (0 : Int32))))), (.int (own_lv (bI (¬ ((p0 &&& (1 : Int32)) = (0 : Int32)))) (bI (¬ ((p0 &&& (2 : Int32)) = (0 : Int32))))))])) _
    refine XS.iload X177.here hx rfl (hb hby at_168) rfl ?_
    exact kz
  refine OGW.step s179 ?_
  obtain ⟨_, _, ⟨T180, L180, k180, n180⟩, -, X180, ⟨Lc180, hQ180, l180, y180, z180⟩, st180⟩ := Jvm.LawKit.callS X177 hx (y := (⟨"com/example/mergeward/mergeward/core/RecordPathSameLevelAsPinLaw", "level", "(ZZ)I"⟩ : MethodName)) hown (mvT hZ (hw _ (List.mem_of_getElem? (i := 74) rfl))) (mvT hZ (hw _ (List.mem_of_getElem? (i := 75) rfl))) (mvT hZ (hw _ (List.mem_of_getElem? (i := 76) rfl))) (mvT hZ (hw _ (List.mem_of_getElem? (i := 77) rfl))) (by decide) (backOf (W := 1) (rm11 l Z a0 hw [] (bI (¬ ((p0 &&& (4 : Int32)) = (0 : Int32)))) (bI (¬ ((p0 &&& (8 : Int32)) = (0 : Int32)))) T158.heap n0 (Nat.le_trans Z0 K158.1)) hZ (hw _ (List.mem_of_getElem? (i := 77) rfl)) (hw _ (List.mem_of_getElem? (i := 76) rfl)) (by decide) (by decide)) (g := (mkF m 170 #[.val (.int p0), .val (.int p1), .val (.int p2), .val (.ref b1), .val (.ref b42), .val (.int (bI (¬ ((p0 &&& (1 : Int32)) = (0 : Int32))))), .val (.int (bI (¬ ((p0 &&& (2 : Int32)) = (0 : Int32))))), .val (.int (bI (¬ ((p0 &&& (4 : Int32)) = (0 : Int32))))), .val (.int (bI (¬ ((p0 &&& (8 : Int32)) = (0 : Int32))))), .val (.ref b111), .val (.ref b141), .unset] [(.int (bI (¬ ((p0 &&& (8 : Int32)) = (0 : Int32))))), (.int (bI (¬ ((p0 &&& (4 : Int32)) = (0 : Int32))))), (.int (own_lv (bI (¬ ((p0 &&& (1 : Int32)) = (0 : Int32)))) (bI (¬ ((p0 &&& (2 : Int32)) = (0 : Int32))))))])) rfl (by rw [hml]; rfl) (argsL := [(.int (bI (¬ ((p0 &&& (4 : Int32)) = (0 : Int32))))), (.int (bI (¬ ((p0 &&& (8 : Int32)) = (0 : Int32)))))]) (rest := [(.int (own_lv (bI (¬ ((p0 &&& (1 : Int32)) = (0 : Int32)))) (bI (¬ ((p0 &&& (2 : Int32)) = (0 : Int32))))))]) (lenOf pd__ZZ_I rfl) rfl (by show 2 * 0 + _ ≤ _; exact Nat.le_of_eq rfl) (hb hby at_170) (fun _ _ => ⟨rfl, e177, (by decide : 32 + 0 ≤ _), (by decide : 374 + 0 ≤ _)⟩)
  dsimp only [Pt.U, Pt.locs, Pt.cells, Pt.slots] at X180 l180 y180 z180 st180 hQ180
  subst l180 y180 z180
  obtain ⟨rfl, N180q, e180⟩ := hQ180
  have N180 := Fr.app N177 N180q
  refine OGW.step st180 ?_
  obtain ⟨Lz181, X180, N180⟩ : ∃ Lz, Stand p l e room_1 (s.setVm T158.vm) m #[(.int p0), (.int p1), (.int p2)] below meth c T180 Lz 32 374 ∧ Fr n0 Lz := ⟨_, X180, N180⟩
  show OGW _ _ _ _ _ _ _ (T180.setTop (mkF m 173 #[.val (.int p0), .val (.int p1), .val (.int p2), .val (.ref b1), .val (.ref b42), .val (.int (bI (¬ ((p0 &&& (1 : Int32)) = (0 : Int32))))), .val (.int (bI (¬ ((p0 &&& (2 : Int32)) = (0 : Int32))))), .val (.int (bI (¬ ((p0 &&& (4 : Int32)) = (0 : Int32))))), .val (.int (bI (¬ ((p0 &&& (8 : Int32)) = (0 : Int32))))), .val (.ref b111), .val (.ref b141), .unset] [(.int (own_lv (bI (¬ ((p0 &&& (4 : Int32)) = (0 : Int32)))) (bI (¬ ((p0 &&& (8 : Int32)) = (0 : Int32)))))), (.int (own_lv (bI (¬ ((p0 &&& (1 : Int32)) = (0 : Int32)))) (bI (¬ ((p0 &&& (2 : Int32)) = (0 : Int32))))))]))
  have s182 : ∀ tz, Steps p.tables e below (T180.setTop (mkF m 181 #[.val (.int p0), .val (.int p1), .val (.int p2), .val (.ref b1), .val (.ref b42), .val (.int (bI (¬ ((p0 &&& (1 : Int32)) = (0 : Int32))))), .val (.int (bI (¬ ((p0 &&& (2 : Int32)) = (0 : Int32))))), .val (.int (bI (¬ ((p0 &&& (4 : Int32)) = (0 : Int32))))), .val (.int (bI (¬ ((p0 &&& (8 : Int32)) = (0 : Int32))))), .val (.ref b111), .val (.ref b141), .unset] [(.int (bI ((own_lv (bI (¬ ((p0 &&& (1 : Int32)) = (0 : Int32)))) (bI (¬ ((p0 &&& (2 : Int32)) = (0 : Int32))))) = (own_lv (bI (¬ ((p0 &&& (4 : Int32)) = (0 : Int32)))) (bI (¬ ((p0 &&& (8 : Int32)) = (0 : Int32))))))))])) tz → Steps p.tables e below (T180.setTop (mkF m 173 #[.val (.int p0), .val (.int p1), .val (.int p2), .val (.ref b1), .val (.ref b42), .val (.int (bI (¬ ((p0 &&& (1 : Int32)) = (0 : Int32))))), .val (.int (bI (¬ ((p0 &&& (2 : Int32)) = (0 : Int32))))), .val (.int (bI (¬ ((p0 &&& (4 : Int32)) = (0 : Int32))))), .val (.int (bI (¬ ((p0 &&& (8 : Int32)) = (0 : Int32))))), .val (.ref b111), .val (.ref b141), .unset] [(.int (own_lv (bI (¬ ((p0 &&& (4 : Int32)) = (0 : Int32)))) (bI (¬ ((p0 &&& (8 : Int32)) = (0 : Int32)))))), (.int (own_lv (bI (¬ ((p0 &&& (1 : Int32)) = (0 : Int32)))) (bI (¬ ((p0 &&& (2 : Int32)) = (0 : Int32))))))])) tz := by
    intro tz kz
    by_cases hm173 : (own_lv (bI (¬ ((p0 &&& (1 : Int32)) = (0 : Int32)))) (bI (¬ ((p0 &&& (2 : Int32)) = (0 : Int32))))) = (own_lv (bI (¬ ((p0 &&& (4 : Int32)) = (0 : Int32)))) (bI (¬ ((p0 &&& (8 : Int32)) = (0 : Int32)))))
    · refine XS.icmpNo X180.here hx rfl (hb hby at_173) rfl (teq hm173).2 ?_
      show Steps p.tables e below (T180.setTop (mkF m 176 #[.val (.int p0), .val (.int p1), .val (.int p2), .val (.ref b1), .val (.ref b42), .val (.int (bI (¬ ((p0 &&& (1 : Int32)) = (0 : Int32))))), .val (.int (bI (¬ ((p0 &&& (2 : Int32)) = (0 : Int32))))), .val (.int (bI (¬ ((p0 &&& (4 : Int32)) = (0 : Int32))))), .val (.int (bI (¬ ((p0 &&& (8 : Int32)) = (0 : Int32))))), .val (.ref b111), .val (.ref b141), .unset] [])) _
      refine XS.iconst X180.here hx rfl (hb hby at_176) ?_
      show Steps p.tables e below (T180.setTop (mkF m 177 #[.val (.int p0), .val (.int p1), .val (.int p2), .val (.ref b1), .val (.ref b42), .val (.int (bI (¬ ((p0 &&& (1 : Int32)) = (0 : Int32))))), .val (.int (bI (¬ ((p0 &&& (2 : Int32)) = (0 : Int32))))), .val (.int (bI (¬ ((p0 &&& (4 : Int32)) = (0 : Int32))))), .val (.int (bI (¬ ((p0 &&& (8 : Int32)) = (0 : Int32))))), .val (.ref b111), .val (.ref b141), .unset] [(.int (1 : Int32))])) _
      refine XS.goto X180.here hx rfl (pc0 := 177) (pc' := 181) rfl (hb hby at_177) (by decide) (by decide) ?_
      show Steps p.tables e below (T180.setTop (mkF m 181 #[.val (.int p0), .val (.int p1), .val (.int p2), .val (.ref b1), .val (.ref b42), .val (.int (bI (¬ ((p0 &&& (1 : Int32)) = (0 : Int32))))), .val (.int (bI (¬ ((p0 &&& (2 : Int32)) = (0 : Int32))))), .val (.int (bI (¬ ((p0 &&& (4 : Int32)) = (0 : Int32))))), .val (.int (bI (¬ ((p0 &&& (8 : Int32)) = (0 : Int32))))), .val (.ref b111), .val (.ref b141), .unset] [(.int (1 : Int32))])) _
      rw [show (bI ((own_lv (bI (¬ ((p0 &&& (1 : Int32)) = (0 : Int32)))) (bI (¬ ((p0 &&& (2 : Int32)) = (0 : Int32))))) = (own_lv (bI (¬ ((p0 &&& (4 : Int32)) = (0 : Int32)))) (bI (¬ ((p0 &&& (8 : Int32)) = (0 : Int32))))))) = (1 : Int32) from bI_pos (P := (own_lv (bI (¬ ((p0 &&& (1 : Int32)) = (0 : Int32)))) (bI (¬ ((p0 &&& (2 : Int32)) = (0 : Int32))))) = (own_lv (bI (¬ ((p0 &&& (4 : Int32)) = (0 : Int32)))) (bI (¬ ((p0 &&& (8 : Int32)) = (0 : Int32)))))) hm173] at kz
      exact kz
    · refine XS.icmpYes X180.here hx rfl (pc0 := 173) (pc' := 180) rfl (hb hby at_173) rfl (feq hm173).2 (by decide) (by decide) ?_
      show Steps p.tables e below (T180.setTop (mkF m 180 #[.val (.int p0), .val (.int p1), .val (.int p2), .val (.ref b1), .val (.ref b42), .val (.int (bI (¬ ((p0 &&& (1 : Int32)) = (0 : Int32))))), .val (.int (bI (¬ ((p0 &&& (2 : Int32)) = (0 : Int32))))), .val (.int (bI (¬ ((p0 &&& (4 : Int32)) = (0 : Int32))))), .val (.int (bI (¬ ((p0 &&& (8 : Int32)) = (0 : Int32))))), .val (.ref b111), .val (.ref b141), .unset] [])) _
      refine XS.iconst X180.here hx rfl (hb hby at_180) ?_
      show Steps p.tables e below (T180.setTop (mkF m 181 #[.val (.int p0), .val (.int p1), .val (.int p2), .val (.ref b1), .val (.ref b42), .val (.int (bI (¬ ((p0 &&& (1 : Int32)) = (0 : Int32))))), .val (.int (bI (¬ ((p0 &&& (2 : Int32)) = (0 : Int32))))), .val (.int (bI (¬ ((p0 &&& (4 : Int32)) = (0 : Int32))))), .val (.int (bI (¬ ((p0 &&& (8 : Int32)) = (0 : Int32))))), .val (.ref b111), .val (.ref b141), .unset] [(.int (0 : Int32))])) _
      rw [show (bI ((own_lv (bI (¬ ((p0 &&& (1 : Int32)) = (0 : Int32)))) (bI (¬ ((p0 &&& (2 : Int32)) = (0 : Int32))))) = (own_lv (bI (¬ ((p0 &&& (4 : Int32)) = (0 : Int32)))) (bI (¬ ((p0 &&& (8 : Int32)) = (0 : Int32))))))) = (0 : Int32) from bI_neg (P := (own_lv (bI (¬ ((p0 &&& (1 : Int32)) = (0 : Int32)))) (bI (¬ ((p0 &&& (2 : Int32)) = (0 : Int32))))) = (own_lv (bI (¬ ((p0 &&& (4 : Int32)) = (0 : Int32)))) (bI (¬ ((p0 &&& (8 : Int32)) = (0 : Int32)))))) hm173] at kz
      exact kz
  refine OGW.step s182 ?_
  have s183 : ∀ tz, Steps p.tables e below (T180.setTop (mkF m 187 #[.val (.int p0), .val (.int p1), .val (.int p2), .val (.ref b1), .val (.ref b42), .val (.int (bI (¬ ((p0 &&& (1 : Int32)) = (0 : Int32))))), .val (.int (bI (¬ ((p0 &&& (2 : Int32)) = (0 : Int32))))), .val (.int (bI (¬ ((p0 &&& (4 : Int32)) = (0 : Int32))))), .val (.int (bI (¬ ((p0 &&& (8 : Int32)) = (0 : Int32))))), .val (.ref b111), .val (.ref b141), .val (.int (bI ((own_lv (bI (¬ ((p0 &&& (1 : Int32)) = (0 : Int32)))) (bI (¬ ((p0 &&& (2 : Int32)) = (0 : Int32))))) = (own_lv (bI (¬ ((p0 &&& (4 : Int32)) = (0 : Int32)))) (bI (¬ ((p0 &&& (8 : Int32)) = (0 : Int32))))))))] [(.ref b141), (.ref b111)])) tz → Steps p.tables e below (T180.setTop (mkF m 181 #[.val (.int p0), .val (.int p1), .val (.int p2), .val (.ref b1), .val (.ref b42), .val (.int (bI (¬ ((p0 &&& (1 : Int32)) = (0 : Int32))))), .val (.int (bI (¬ ((p0 &&& (2 : Int32)) = (0 : Int32))))), .val (.int (bI (¬ ((p0 &&& (4 : Int32)) = (0 : Int32))))), .val (.int (bI (¬ ((p0 &&& (8 : Int32)) = (0 : Int32))))), .val (.ref b111), .val (.ref b141), .unset] [(.int (bI ((own_lv (bI (¬ ((p0 &&& (1 : Int32)) = (0 : Int32)))) (bI (¬ ((p0 &&& (2 : Int32)) = (0 : Int32))))) = (own_lv (bI (¬ ((p0 &&& (4 : Int32)) = (0 : Int32)))) (bI (¬ ((p0 &&& (8 : Int32)) = (0 : Int32))))))))])) tz := by
    intro tz kz
    refine XS.istore X180.here hx rfl (hb hby at_181) rfl (l' := #[.val (.int p0), .val (.int p1), .val (.int p2), .val (.ref b1), .val (.ref b42), .val (.int (bI (¬ ((p0 &&& (1 : Int32)) = (0 : Int32))))), .val (.int (bI (¬ ((p0 &&& (2 : Int32)) = (0 : Int32))))), .val (.int (bI (¬ ((p0 &&& (4 : Int32)) = (0 : Int32))))), .val (.int (bI (¬ ((p0 &&& (8 : Int32)) = (0 : Int32))))), .val (.ref b111), .val (.ref b141), .val (.int (bI ((own_lv (bI (¬ ((p0 &&& (1 : Int32)) = (0 : Int32)))) (bI (¬ ((p0 &&& (2 : Int32)) = (0 : Int32))))) = (own_lv (bI (¬ ((p0 &&& (4 : Int32)) = (0 : Int32)))) (bI (¬ ((p0 &&& (8 : Int32)) = (0 : Int32))))))))]) rfl ?_
    show Steps p.tables e below (T180.setTop (mkF m 183 #[.val (.int p0), .val (.int p1), .val (.int p2), .val (.ref b1), .val (.ref b42), .val (.int (bI (¬ ((p0 &&& (1 : Int32)) = (0 : Int32))))), .val (.int (bI (¬ ((p0 &&& (2 : Int32)) = (0 : Int32))))), .val (.int (bI (¬ ((p0 &&& (4 : Int32)) = (0 : Int32))))), .val (.int (bI (¬ ((p0 &&& (8 : Int32)) = (0 : Int32))))), .val (.ref b111), .val (.ref b141), .val (.int (bI ((own_lv (bI (¬ ((p0 &&& (1 : Int32)) = (0 : Int32)))) (bI (¬ ((p0 &&& (2 : Int32)) = (0 : Int32))))) = (own_lv (bI (¬ ((p0 &&& (4 : Int32)) = (0 : Int32)))) (bI (¬ ((p0 &&& (8 : Int32)) = (0 : Int32))))))))] [])) _
    refine XS.aload X180.here hx rfl (hb hby at_183) rfl rfl ?_
    show Steps p.tables e below (T180.setTop (mkF m 185 #[.val (.int p0), .val (.int p1), .val (.int p2), .val (.ref b1), .val (.ref b42), .val (.int (bI (¬ ((p0 &&& (1 : Int32)) = (0 : Int32))))), .val (.int (bI (¬ ((p0 &&& (2 : Int32)) = (0 : Int32))))), .val (.int (bI (¬ ((p0 &&& (4 : Int32)) = (0 : Int32))))), .val (.int (bI (¬ ((p0 &&& (8 : Int32)) = (0 : Int32))))), .val (.ref b111), .val (.ref b141), .val (.int (bI ((own_lv (bI (¬ ((p0 &&& (1 : Int32)) = (0 : Int32)))) (bI (¬ ((p0 &&& (2 : Int32)) = (0 : Int32))))) = (own_lv (bI (¬ ((p0 &&& (4 : Int32)) = (0 : Int32)))) (bI (¬ ((p0 &&& (8 : Int32)) = (0 : Int32))))))))] [(.ref b111)])) _
    refine XS.aload X180.here hx rfl (hb hby at_185) rfl rfl ?_
    exact kz
  refine OGW.step s183 ?_
  obtain ⟨cq184, kq184, q184a, q184b, q184c⟩ := isOf hZ e180 f168
  obtain ⟨_, _, ⟨T184, L184, k184, n184⟩, -, X184, ⟨Lc184, hQ184, l184, y184, z184⟩, st184⟩ := X180.virtualBack hx (y := (⟨"com/example/mergeward/mergeward/core/RecordPath", "sameLevelAs", "(Lcom/example/mergeward/mergeward/core/RecordPath;)Z"⟩ : MethodName)) (z := (⟨"com/example/mergeward/mergeward/core/RecordPath", "sameLevelAs", "(Lcom/example/mergeward/mergeward/core/RecordPath;)Z"⟩ : MethodName)) hown (mvT hZ (hw _ (List.mem_of_getElem? (i := 78) rfl))) (mvT hZ (hw _ (List.mem_of_getElem? (i := 79) rfl))) (notFace_of_selects (args := #[]) (mvT hZ (hw _ (List.mem_of_getElem? (i := 81) rfl)))) (mvT hZ (hw _ (List.mem_of_getElem? (i := 81) rfl))) (mvT hZ (hw _ (List.mem_of_getElem? (i := 80) rfl))) (by decide) (backOf (W := 0) (rm12 l Z a0 hw [] b111 b141 (if ¬ ((p0 &&& (2 : Int32)) = (0 : Int32)) then (.ref b42) else .null) (if ¬ ((p0 &&& (1 : Int32)) = (0 : Int32)) then (.ref b1) else .null) (if ¬ ((p0 &&& (8 : Int32)) = (0 : Int32)) then (.ref b1) else .null) (if ¬ ((p0 &&& (4 : Int32)) = (0 : Int32)) then (.ref b42) else .null) T158.heap n0 (Nat.le_trans Z0 K158.1) f170 f169 p158_1 p158_0 (own_irI _ _) (own_irI _ _) (own_irI _ _) (own_irI _ _)) hZ (hw _ (List.mem_of_getElem? (i := 82) rfl)) (hw _ (List.mem_of_getElem? (i := 61) rfl)) (by decide) (by decide)) q184a q184c (g := (mkF m 187 #[.val (.int p0), .val (.int p1), .val (.int p2), .val (.ref b1), .val (.ref b42), .val (.int (bI (¬ ((p0 &&& (1 : Int32)) = (0 : Int32))))), .val (.int (bI (¬ ((p0 &&& (2 : Int32)) = (0 : Int32))))), .val (.int (bI (¬ ((p0 &&& (4 : Int32)) = (0 : Int32))))), .val (.int (bI (¬ ((p0 &&& (8 : Int32)) = (0 : Int32))))), .val (.ref b111), .val (.ref b141), .val (.int (bI ((own_lv (bI (¬ ((p0 &&& (1 : Int32)) = (0 : Int32)))) (bI (¬ ((p0 &&& (2 : Int32)) = (0 : Int32))))) = (own_lv (bI (¬ ((p0 &&& (4 : Int32)) = (0 : Int32)))) (bI (¬ ((p0 &&& (8 : Int32)) = (0 : Int32))))))))] [(.ref b141), (.ref b111)])) rfl (by rw [hml]; rfl) (Steps.refl _) (argsL := [(.ref b141)]) (rest := []) (lenOf pd__Lcom_example_mergeward_mergeward_core_RecordPath__Z rfl) rfl (by show 2 * 0 + _ ≤ _; exact Nat.le_of_eq rfl) (hb hby at_187) (fun _ _ => ⟨rfl, e180, (by decide : 32 + 0 ≤ _), (by decide : 374 + 0 ≤ _)⟩)
  dsimp only [Pt.U, Pt.locs, Pt.cells, Pt.slots] at X184 l184 y184 z184 st184 hQ184
  subst l184 y184 z184
  obtain ⟨rfl, N184q, e184⟩ := hQ184
  have N184 := Fr.app N180 N184q
  refine OGW.step (fun tz kz => st184.trans kz) ?_
  obtain ⟨Lz185, X184, N184⟩ : ∃ Lz, Stand p l e room_1 (s.setVm T158.vm) m #[(.int p0), (.int p1), (.int p2)] below meth c T184 Lz 32 374 ∧ Fr n0 Lz := ⟨_, X184, N184⟩
  show OGW _ _ _ _ _ _ _ (T184.setTop (mkF m 190 #[.val (.int p0), .val (.int p1), .val (.int p2), .val (.ref b1), .val (.ref b42), .val (.int (bI (¬ ((p0 &&& (1 : Int32)) = (0 : Int32))))), .val (.int (bI (¬ ((p0 &&& (2 : Int32)) = (0 : Int32))))), .val (.int (bI (¬ ((p0 &&& (4 : Int32)) = (0 : Int32))))), .val (.int (bI (¬ ((p0 &&& (8 : Int32)) = (0 : Int32))))), .val (.ref b111), .val (.ref b141), .val (.int (bI ((own_lv (bI (¬ ((p0 &&& (1 : Int32)) = (0 : Int32)))) (bI (¬ ((p0 &&& (2 : Int32)) = (0 : Int32))))) = (own_lv (bI (¬ ((p0 &&& (4 : Int32)) = (0 : Int32)))) (bI (¬ ((p0 &&& (8 : Int32)) = (0 : Int32))))))))] [(.int (bI (own_sl (if ¬ ((p0 &&& (2 : Int32)) = (0 : Int32)) then (.ref b42) else .null) (if ¬ ((p0 &&& (1 : Int32)) = (0 : Int32)) then (.ref b1) else .null) (if ¬ ((p0 &&& (8 : Int32)) = (0 : Int32)) then (.ref b1) else .null) (if ¬ ((p0 &&& (4 : Int32)) = (0 : Int32)) then (.ref b42) else .null) = true)))]))
  have s186 : ∀ tz, Steps p.tables e below (T184.setTop (mkF m 200 #[.val (.int p0), .val (.int p1), .val (.int p2), .val (.ref b1), .val (.ref b42), .val (.int (bI (¬ ((p0 &&& (1 : Int32)) = (0 : Int32))))), .val (.int (bI (¬ ((p0 &&& (2 : Int32)) = (0 : Int32))))), .val (.int (bI (¬ ((p0 &&& (4 : Int32)) = (0 : Int32))))), .val (.int (bI (¬ ((p0 &&& (8 : Int32)) = (0 : Int32))))), .val (.ref b111), .val (.ref b141), .val (.int (bI ((own_lv (bI (¬ ((p0 &&& (1 : Int32)) = (0 : Int32)))) (bI (¬ ((p0 &&& (2 : Int32)) = (0 : Int32))))) = (own_lv (bI (¬ ((p0 &&& (4 : Int32)) = (0 : Int32)))) (bI (¬ ((p0 &&& (8 : Int32)) = (0 : Int32))))))))] [(.int (1 : Int32))])) tz → Steps p.tables e below (T184.setTop (mkF m 190 #[.val (.int p0), .val (.int p1), .val (.int p2), .val (.ref b1), .val (.ref b42), .val (.int (bI (¬ ((p0 &&& (1 : Int32)) = (0 : Int32))))), .val (.int (bI (¬ ((p0 &&& (2 : Int32)) = (0 : Int32))))), .val (.int (bI (¬ ((p0 &&& (4 : Int32)) = (0 : Int32))))), .val (.int (bI (¬ ((p0 &&& (8 : Int32)) = (0 : Int32))))), .val (.ref b111), .val (.ref b141), .val (.int (bI ((own_lv (bI (¬ ((p0 &&& (1 : Int32)) = (0 : Int32)))) (bI (¬ ((p0 &&& (2 : Int32)) = (0 : Int32))))) = (own_lv (bI (¬ ((p0 &&& (4 : Int32)) = (0 : Int32)))) (bI (¬ ((p0 &&& (8 : Int32)) = (0 : Int32))))))))] [(.int (bI (own_sl (if ¬ ((p0 &&& (2 : Int32)) = (0 : Int32)) then (.ref b42) else .null) (if ¬ ((p0 &&& (1 : Int32)) = (0 : Int32)) then (.ref b1) else .null) (if ¬ ((p0 &&& (8 : Int32)) = (0 : Int32)) then (.ref b1) else .null) (if ¬ ((p0 &&& (4 : Int32)) = (0 : Int32)) then (.ref b42) else .null) = true)))])) tz := by
    intro tz kz
    refine XS.iload X184.here hx rfl (hb hby at_190) rfl ?_
    show Steps p.tables e below (T184.setTop (mkF m 192 #[.val (.int p0), .val (.int p1), .val (.int p2), .val (.ref b1), .val (.ref b42), .val (.int (bI (¬ ((p0 &&& (1 : Int32)) = (0 : Int32))))), .val (.int (bI (¬ ((p0 &&& (2 : Int32)) = (0 : Int32))))), .val (.int (bI (¬ ((p0 &&& (4 : Int32)) = (0 : Int32))))), .val (.int (bI (¬ ((p0 &&& (8 : Int32)) = (0 : Int32))))), .val (.ref b111), .val (.ref b141), .val (.int (bI ((own_lv (bI (¬ ((p0 &&& (1 : Int32)) = (0 : Int32)))) (bI (¬ ((p0 &&& (2 : Int32)) = (0 : Int32))))) = (own_lv (bI (¬ ((p0 &&& (4 : Int32)) = (0 : Int32)))) (bI (¬ ((p0 &&& (8 : Int32)) = (0 : Int32))))))))] [(.int (bI ((own_lv (bI (¬ ((p0 &&& (1 : Int32)) = (0 : Int32)))) (bI (¬ ((p0 &&& (2 : Int32)) = (0 : Int32))))) = (own_lv (bI (¬ ((p0 &&& (4 : Int32)) = (0 : Int32)))) (bI (¬ ((p0 &&& (8 : Int32)) = (0 : Int32)))))))), (.int (bI (own_sl (if ¬ ((p0 &&& (2 : Int32)) = (0 : Int32)) then (.ref b42) else .null) (if ¬ ((p0 &&& (1 : Int32)) = (0 : Int32)) then (.ref b1) else .null) (if ¬ ((p0 &&& (8 : Int32)) = (0 : Int32)) then (.ref b1) else .null) (if ¬ ((p0 &&& (4 : Int32)) = (0 : Int32)) then (.ref b42) else .null) = true)))])) _
    refine XS.icmpNo X184.here hx rfl (hb hby at_192) rfl (teq (bI_iff.mpr (own_key _ _ _ _ _ _ _ _))).2 ?_
    show Steps p.tables e below (T184.setTop (mkF m 195 #[.val (.int p0), .val (.int p1), .val (.int p2), .val (.ref b1), .val (.ref b42), .val (.int (bI (¬ ((p0 &&& (1 : Int32)) = (0 : Int32))))), .val (.int (bI (¬ ((p0 &&& (2 : Int32)) = (0 : Int32))))), .val (.int (bI (¬ ((p0 &&& (4 : Int32)) = (0 : Int32))))), .val (.int (bI (¬ ((p0 &&& (8 : Int32)) = (0 : Int32))))), .val (.ref b111), .val (.ref b141), .val (.int (bI ((own_lv (bI (¬ ((p0 &&& (1 : Int32)) = (0 : Int32)))) (bI (¬ ((p0 &&& (2 : Int32)) = (0 : Int32))))) = (own_lv (bI (¬ ((p0 &&& (4 : Int32)) = (0 : Int32)))) (bI (¬ ((p0 &&& (8 : Int32)) = (0 : Int32))))))))] [])) _
    refine XS.iconst X184.here hx rfl (hb hby at_195) ?_
    show Steps p.tables e below (T184.setTop (mkF m 196 #[.val (.int p0), .val (.int p1), .val (.int p2), .val (.ref b1), .val (.ref b42), .val (.int (bI (¬ ((p0 &&& (1 : Int32)) = (0 : Int32))))), .val (.int (bI (¬ ((p0 &&& (2 : Int32)) = (0 : Int32))))), .val (.int (bI (¬ ((p0 &&& (4 : Int32)) = (0 : Int32))))), .val (.int (bI (¬ ((p0 &&& (8 : Int32)) = (0 : Int32))))), .val (.ref b111), .val (.ref b141), .val (.int (bI ((own_lv (bI (¬ ((p0 &&& (1 : Int32)) = (0 : Int32)))) (bI (¬ ((p0 &&& (2 : Int32)) = (0 : Int32))))) = (own_lv (bI (¬ ((p0 &&& (4 : Int32)) = (0 : Int32)))) (bI (¬ ((p0 &&& (8 : Int32)) = (0 : Int32))))))))] [(.int (1 : Int32))])) _
    refine XS.goto X184.here hx rfl (pc0 := 196) (pc' := 200) rfl (hb hby at_196) (by decide) (by decide) ?_
    exact kz
  refine OGW.step s186 ?_
  exact OGW.retZ X184 hS158 (Nat.le_refl _) hx hlk Bd.returns (hb hby at_200) (nar_1) e184 ⟨rfl, N184⟩ (by decide) (by decide)
set_option maxRecDepth 65536 in
set_option maxHeartbeats 40000000 in
theorem comes_1 {Post : Tables → Env → Array Value → State → Outcome → State → Prop} (hpost : ∀ tb e args s v u, (limb_1_1.after args s (.returned v) u = true ∧ limb_1_2.after args s (.returned v) u = true ∧ True) → ReturnedEndW s (.returned v) u (Jvm.fieldLocs frame_1_writes args s ++ Jvm.arrayLocs frame_1_arrays args s ++ Jvm.staticLocs frame_1_statics s) 40 5248 → Post tb e args s (.returned v) u) :
    ArmFor flags0 classFile x code maxLocals ret World_1 tables_1 room_1 Calls_1 rest_1 Pre_1 Post := by
  intro l hfl _ _ p e ha hc hk s m args below hf hA hF happ hP
  obtain ⟨hcalls, hrest, hpre⟩ := hP
  obtain ⟨-, -, -, hnamed, -, -, -, hat⟩ := (Spec.applies_iff hf).mp happ
  obtain ⟨hg, hn⟩ := and_e (Cond.before_iff.mp (show (Jvm.Cond.and given_1 narrow_1).before args s = true from hpre))
  obtain ⟨hcount, hg0⟩ := and_e hg
  obtain ⟨ha0, hg1⟩ := and_e hg0
  obtain ⟨ha1, hg2⟩ := and_e hg1
  obtain ⟨w0, w1, w2, rfl⟩ : ∃ w0 w1 w2 : Value, args = #[w0, w1, w2] := by
    have hs : args.size = 3 := by simpa [Cond.value, given_1] using hcount
    obtain ⟨L⟩ := args
    match L, hs with
    | [w0, w1, w2], _ => exact ⟨w0, w1, w2, rfl⟩
  have hw := fun d (hd : d ∈ tables_1) => atoms_spec (ws := Jvm.Cond.code x code maxLocals ret :: tables_1) hat d (List.mem_cons_of_mem _ hd)
  obtain ⟨i0, ei0⟩ := is_v ha0
  obtain rfl : w0 = (.int i0) := Option.some.inj ei0
  obtain ⟨i1, ei1⟩ := is_v ha1
  obtain rfl : w1 = (.int i1) := Option.some.inj ei1
  obtain ⟨i2, ei2⟩ := is_v hg2
  obtain rfl : w2 = (.int i2) := Option.some.inj ei2
  obtain ⟨hsets, hown0⟩ := atoms_of _ (rest_1_c_eq ▸ (show rest_1_c.before _ s = true from hrest))
  obtain ⟨wz, ewz⟩ := is_v (Cond.before_iff.mp (hsets _ (List.mem_of_getElem? (i := 1) rfl)))
  have hS0 : Sta s s.heap "java/lang/String" "COMPACT_STRINGS" "Z" (.int wz) := Sta.start ewz (Or.inl (hsets _ (List.mem_of_getElem? (i := 0) rfl)))
  have hnz : ¬ wz = (0 : Int32) := fun q => by
    have w := not_v (Cond.before_iff.mp (hsets _ (List.mem_of_getElem? (i := 2) rfl)))
    subst q
    have u := eq_i ewz (Term.int_eval (0)) rfl
    exact absurd (w.symm.trans u) (by decide)
  obtain ⟨n, o, h1, h2, h3, _, L, rfl, ⟨rfl, N⟩, hq⟩ := rm0 l s _ hw tables_1 i0 i1 i2 wz s.heap s.heap.size (Nat.le_refl _) (Old.start s) hS0 hnz p e ha hc hk s m _ below hf ((Spec.applies_iff_loose hf).mp happ).1 ⟨rfl, State.Warmed39.refl s, rfl⟩ trivial
  refine ⟨n, _, h1, h2, h3, hpost _ _ _ _ _ _ ⟨Cond.after_iff.mpr rfl, Cond.after_iff.mpr (eq_i res_at (Term.int_eval (1)) rfl), trivial⟩ ⟨hq.1, hq.2.1, hq.2.2.1, (hq.2.2.2.sift fun y hy => Or.inr (N y hy)).mono (by decide) (by decide)⟩⟩
theorem main_1_1 : Claimed_1_1 := comes_1 fun _ _ _ _ _ _ h hF => ⟨h.1, hF⟩
theorem main_1_2 : Claimed_1_2 := comes_1 fun _ _ _ _ _ _ h hF => ⟨h.2.1, hF⟩
end Jvm.Pilot.@@N@@
namespace Jvm.Pilot.@@N@@
open Jvm Jvm.ClassFile Sem Op Lib Jvm.Free Jvm.Stand Jvm.Pilot.@@N@@.Jvm.D
/-! MADE BY PROGRAM (witnessworld.py) out of the Statement's table words and the real class files: 20 classes; the members and pool entries that the words name. The judged class is class 1, her method 1. -/
namespace start1
open Jvm.ClassFile
def u (s : String) : CpInfo := .utf8 (stringToUtf16 s)
/-- a pool by its gaps: so many unusable entries, then the entry; so many at the end -/
def gap : Nat → List CpInfo → List CpInfo
  | 0, r => r
  | n + 1, r => .unusable :: gap n r
def poolList (es : List (Nat × CpInfo)) (last : Nat) : List CpInfo := es.foldr (fun e r => gap e.1 (e.2 :: r)) (gap last [])
def pool (es : List (Nat × CpInfo)) (last : Nat) : Array CpInfo := ⟨poolList es last⟩
def fileOf (pool : Array CpInfo) (this : Nat) (attrs : Array Attribute := #[]) (ms : Array MethodInfo := #[]) (fl : Nat := 33) (sup : Nat := 0) (ifs : Array Nat := #[]) (fds : Array FieldInfo := #[]) : ClassFile where
  minorVersion := 0
  majorVersion := 65
  constantPool := pool
  accessFlags := fl
  thisClass := this
  superClass := sup
  interfaces := ifs
  fields := fds
  methods := ms
  attributes := attrs
def plain (name : String) (sup : Option ClassId) : Class where
  name := name
  kind := .ordinary
  loader := none
  accessFlags := 33
  super := sup
  interfaces := #[]
  cf := none
  fields := #[]
  methods := #[]
  instanceTypes := #[]
  staticTypes := #[]
  resolved := #[]
  callSites := []
  init := .initialized
  statics := none
  mirror := none

def pool0 : Array CpInfo := pool [(5, u "<init>"), (0, u "()V"), (1, .class_ 10), (1, u "java/lang/Object")] 113

def k0c0 : Code := { maxStack := 0, maxLocals := 1, code := object_method_1_code, exceptionTable := #[], attributes := #[] }
def k0m0 : Method := { name := "<init>", desc := "()V", sig := { parameters := [], returnType := none }, accessFlags := 1, code := some k0c0 }
/-- java/lang/Object -/
def k0 : Class := { plain "java/lang/Object" none with
  accessFlags := 33
  interfaces := #[]
  cf := some (fileOf pool0 8 #[] #[{ accessFlags := 1, nameIndex := 5, descriptorIndex := 6, attributes := #[] }] 33 0 #[] #[])
  fields := #[]
  methods := #[k0m0]
  instanceTypes := #[]
  staticTypes := #[]
  resolved := Array.replicate 124 none
  statics := none }

def pool1 : Array CpInfo := pool [(2, .class_ 4), (1, u "java/lang/Object"), (0, u "<init>"), (0, u "()V"), (0, .class_ 8), (0, u "com/example/mergeward/mergeward/core/Identifier"), (0, .methodref 10 11), (0, .class_ 12), (0, .nameAndType 13 14), (0, u "java/lang/String"), (0, u "valueOf"), (0, u "(C)Ljava/lang/String;"), (0, .string 16), (0, u ""), (0, .methodref 7 18), (0, .nameAndType 5 19), (0, u "(Ljava/lang/String;Ljava/lang/String;Ljava/lang/String;)V"), (0, .class_ 21), (0, u "com/example/mergeward/mergeward/core/RecordPath"), (0, .methodref 20 23), (0, .nameAndType 5 24), (0, u "(Lcom/example/mergeward/mergeward/core/Identifier;Lcom/example/mergeward/mergeward/core/Identifier;Lcom/example/mergeward/mergeward/core/Identifier;)V"), (0, .methodref 26 27), (0, .class_ 28), (0, .nameAndType 29 30), (0, u "com/example/mergeward/mergeward/core/RecordPathSameLevelAsPinLaw"), (0, u "level"), (0, u "(ZZ)I"), (0, .methodref 20 32), (0, .nameAndType 33 34), (0, u "sameLevelAs"), (0, u "(Lcom/example/mergeward/mergeward/core/RecordPath;)Z"), (2, u "law"), (0, u "(III)Z")] 3

def k1m0 : Method := { name := "<init>", desc := "()V", sig := { parameters := [], returnType := none }, accessFlags := 1, code := none }
def k1c1 : Code := { maxStack := 5, maxLocals := 12, code := code, exceptionTable := #[], attributes := #[] }
def k1m1 : Method := { name := "law", desc := "(III)Z", sig := { parameters := [.int, .int, .int], returnType := some .boolean }, accessFlags := 9, code := some k1c1 }
def k1c2 : Code := { maxStack := 1, maxLocals := 2, code := method_3_code, exceptionTable := #[], attributes := #[] }
def k1m2 : Method := { name := "level", desc := "(ZZ)I", sig := { parameters := [.boolean, .boolean], returnType := some .int }, accessFlags := 10, code := some k1c2 }
/-- com/example/mergeward/mergeward/core/RecordPathSameLevelAsPinLaw -/
def k1 : Class := { plain "com/example/mergeward/mergeward/core/RecordPathSameLevelAsPinLaw" (some 0) with
  accessFlags := 49
  interfaces := #[]
  cf := some (fileOf pool1 26 #[] #[{ accessFlags := 1, nameIndex := 5, descriptorIndex := 6, attributes := #[] }, { accessFlags := 9, nameIndex := 37, descriptorIndex := 38, attributes := #[] }, { accessFlags := 10, nameIndex := 29, descriptorIndex := 30, attributes := #[] }] 49 2 #[] #[])
  fields := #[]
  methods := #[k1m0, k1m1, k1m2]
  instanceTypes := #[]
  staticTypes := #[]
  resolved := Array.replicate 42 none
  statics := none }

def pool2 : Array CpInfo := pool [(1, .methodref 2 3), (0, .class_ 4), (0, .nameAndType 5 6), (0, u "java/lang/Object"), (0, u "<init>"), (0, u "()V"), (0, .class_ 8), (0, u "java/lang/Record")] 13

def k2c0 : Code := { maxStack := 1, maxLocals := 1, code := jdk_30_method_1_code, exceptionTable := #[], attributes := #[] }
def k2m0 : Method := { name := "<init>", desc := "()V", sig := { parameters := [], returnType := none }, accessFlags := 4, code := some k2c0 }
/-- java/lang/Record -/
def k2 : Class := { plain "java/lang/Record" (some 0) with
  accessFlags := 1057
  interfaces := #[]
  cf := some (fileOf pool2 7 #[] #[{ accessFlags := 4, nameIndex := 5, descriptorIndex := 6, attributes := #[] }] 1057 2 #[] #[])
  fields := #[]
  methods := #[k2m0]
  instanceTypes := #[]
  staticTypes := #[]
  resolved := Array.replicate 22 none
  statics := none }

def pool3 : Array CpInfo := pool [(1, .methodref 2 3), (0, .class_ 4), (0, .nameAndType 5 6), (0, u "java/lang/Record"), (0, u "<init>"), (0, u "()V"), (0, .string 8), (0, u "value"), (0, .methodref 10 11), (0, .class_ 12), (0, .nameAndType 13 14), (0, u "java/util/Objects"), (0, u "requireNonNull"), (0, u "(Ljava/lang/Object;Ljava/lang/String;)Ljava/lang/Object;"), (0, .string 16), (0, u "assigningAuthority"), (0, .string 18), (0, u "typeCode"), (0, .methodref 20 21), (0, .class_ 22), (0, .nameAndType 23 24), (0, u "java/lang/String"), (0, u "isEmpty"), (0, u "()Z"), (7, .fieldref 33 34), (0, .class_ 35), (0, .nameAndType 8 36), (0, u "com/example/mergeward/mergeward/core/Identifier"), (0, u "Ljava/lang/String;"), (0, .fieldref 33 38), (0, .nameAndType 16 36), (0, .fieldref 33 40), (0, .nameAndType 18 36), (71, u "(Ljava/lang/String;Ljava/lang/String;Ljava/lang/String;)V")] 64

def k3c0 : Code := { maxStack := 3, maxLocals := 4, code := prog_32_method_1_code, exceptionTable := #[], attributes := #[] }
def k3m0 : Method := { name := "<init>", desc := "(Ljava/lang/String;Ljava/lang/String;Ljava/lang/String;)V", sig := { parameters := [(.object "java/lang/String"), (.object "java/lang/String"), (.object "java/lang/String")], returnType := none }, accessFlags := 1, code := some k3c0 }
/-- com/example/mergeward/mergeward/core/Identifier -/
def k3 : Class := { plain "com/example/mergeward/mergeward/core/Identifier" (some 2) with
  accessFlags := 49
  interfaces := #[]
  cf := some (fileOf pool3 33 #[] #[{ accessFlags := 1, nameIndex := 5, descriptorIndex := 112, attributes := #[] }] 49 2 #[] #[{ accessFlags := 18, nameIndex := 8, descriptorIndex := 36, attributes := #[] }, { accessFlags := 18, nameIndex := 16, descriptorIndex := 36, attributes := #[] }, { accessFlags := 18, nameIndex := 18, descriptorIndex := 36, attributes := #[] }])
  fields := #[{ name := "value", type := (.object "java/lang/String"), accessFlags := 18, slot := 0, constantValue := 0 }, { name := "assigningAuthority", type := (.object "java/lang/String"), accessFlags := 18, slot := 1, constantValue := 0 }, { name := "typeCode", type := (.object "java/lang/String"), accessFlags := 18, slot := 2, constantValue := 0 }]
  methods := #[k3m0]
  instanceTypes := #[(.object "java/lang/String"), (.object "java/lang/String"), (.object "java/lang/String")]
  staticTypes := #[]
  resolved := Array.replicate 177 none
  statics := none }

def pool4 : Array CpInfo := pool [(1, .class_ 2), (0, u "java/io/Serializable"), (0, .class_ 4), (0, u "java/lang/Object")] 2

/-- java/io/Serializable -/
def k4 : Class := { plain "java/io/Serializable" (some 0) with
  accessFlags := 1537
  interfaces := #[]
  cf := some (fileOf pool4 1 #[] #[] 1537 3 #[] #[])
  fields := #[]
  methods := #[]
  instanceTypes := #[]
  staticTypes := #[]
  resolved := Array.replicate 7 none
  statics := none }

def pool5 : Array CpInfo := pool [(1, .class_ 2), (0, u "java/lang/Comparable"), (0, .class_ 4), (0, u "java/lang/Object")] 7

/-- java/lang/Comparable -/
def k5 : Class := { plain "java/lang/Comparable" (some 0) with
  accessFlags := 1537
  interfaces := #[]
  cf := some (fileOf pool5 1 #[] #[] 1537 3 #[] #[])
  fields := #[]
  methods := #[]
  instanceTypes := #[]
  staticTypes := #[]
  resolved := Array.replicate 12 none
  statics := none }

def pool6 : Array CpInfo := pool [(2, .class_ 4), (1, u "java/lang/CharSequence"), (42, .class_ 48), (0, u "java/lang/CharSequence$1CodePointIterator"), (10, .class_ 60), (0, u "java/lang/CharSequence$1CharIterator"), (5, .class_ 67), (0, u "java/lang/Object")] 63

/-- java/lang/CharSequence -/
def k6 : Class := { plain "java/lang/CharSequence" (some 0) with
  accessFlags := 1537
  interfaces := #[]
  cf := some (fileOf pool6 2 #[.nestMembers #[47, 59]] #[] 1537 66 #[] #[])
  fields := #[]
  methods := #[]
  instanceTypes := #[]
  staticTypes := #[]
  resolved := Array.replicate 131 none
  statics := none }

def pool7 : Array CpInfo := pool [(1, .class_ 2), (0, u "java/lang/constant/Constable"), (0, .class_ 4), (0, u "java/lang/Object")] 6

/-- java/lang/constant/Constable -/
def k7 : Class := { plain "java/lang/constant/Constable" (some 0) with
  accessFlags := 1537
  interfaces := #[]
  cf := some (fileOf pool7 1 #[] #[] 1537 3 #[] #[])
  fields := #[]
  methods := #[]
  instanceTypes := #[]
  staticTypes := #[]
  resolved := Array.replicate 11 none
  statics := none }

def pool8 : Array CpInfo := pool [(1, .class_ 2), (0, u "java/lang/constant/ConstantDesc"), (0, .class_ 4), (0, u "java/lang/Object")] 32

/-- java/lang/constant/ConstantDesc -/
def k8 : Class := { plain "java/lang/constant/ConstantDesc" (some 0) with
  accessFlags := 1537
  interfaces := #[]
  cf := some (fileOf pool8 1 #[] #[] 1537 3 #[] #[])
  fields := #[]
  methods := #[]
  instanceTypes := #[]
  staticTypes := #[]
  resolved := Array.replicate 37 none
  statics := none }

def pool9 : Array CpInfo := pool [(1, .methodref 2 3), (0, .class_ 4), (0, .nameAndType 5 6), (0, u "java/lang/Object"), (0, u "<init>"), (0, u "()V"), (2, .fieldref 10 11), (0, .class_ 12), (0, .nameAndType 13 14), (0, u "java/lang/String"), (0, u "value"), (0, u "[B"), (0, .fieldref 10 16), (0, .nameAndType 17 18), (0, u "coder"), (0, u "B"), (2, u "hash"), (0, u "I"), (2, u "hashIsZero"), (0, u "Z"), (11, .fieldref 10 39), (0, .nameAndType 40 26), (0, u "COMPACT_STRINGS"), (12, u "toBytes"), (53, .class_ 109), (1, u "java/lang/StringLatin1"), (32, u "()Z"), (66, .methodref 10 210), (0, .nameAndType 5 211), (0, u "([BB)V"), (157, u "(C)Z"), (205, .class_ 576), (0, u "java/lang/CharSequence"), (22, u "CASE_INSENSITIVE_ORDER"), (0, u "Ljava/util/Comparator;"), (91, u "isEmpty"), (89, u "valueOf"), (0, u "(C)Ljava/lang/String;"), (231, .methodref 107 1016), (0, .nameAndType 1017 369), (0, u "canEncode"), (0, .methodref 107 1019), (0, .nameAndType 53 1020), (0, u "(C)[B"), (80, u "serialPersistentFields"), (0, u "[Ljava/io/ObjectStreamField;"), (0, .class_ 1104), (0, u "java/lang/String$CaseInsensitiveComparator"), (1, .class_ 1107), (0, u "java/io/Serializable"), (0, .class_ 1109), (0, u "java/lang/Comparable"), (0, .class_ 1111), (0, u "java/lang/constant/Constable"), (0, .class_ 1113), (0, u "java/lang/constant/ConstantDesc"), (2, u "serialVersionUID"), (0, u "J"), (3, u "REPL"), (0, u "C"), (2, u "LATIN1"), (1, u "UTF16")] 323

def k9m0 : Method := { name := "<init>", desc := "()V", sig := { parameters := [], returnType := none }, accessFlags := 1, code := none }
def k9c1 : Code := { maxStack := 1, maxLocals := 1, code := jdk_42_method_55_code, exceptionTable := #[], attributes := #[] }
def k9m1 : Method := { name := "isEmpty", desc := "()Z", sig := { parameters := [], returnType := some .boolean }, accessFlags := 1, code := some k9c1 }
def k9c2 : Code := { maxStack := 4, maxLocals := 1, code := jdk_42_method_139_code, exceptionTable := #[], attributes := #[] }
def k9m2 : Method := { name := "valueOf", desc := "(C)Ljava/lang/String;", sig := { parameters := [.char], returnType := some (.object "java/lang/String") }, accessFlags := 9, code := some k9c2 }
def k9c3 : Code := { maxStack := 2, maxLocals := 3, code := jdk_42_method_151_code, exceptionTable := #[], attributes := #[] }
def k9m3 : Method := { name := "<init>", desc := "([BB)V", sig := { parameters := [(.array .byte), .byte], returnType := none }, accessFlags := 0, code := some k9c3 }
/-- java/lang/String -/
def k9 : Class := { plain "java/lang/String" (some 0) with
  accessFlags := 49
  interfaces := #[4, 5, 6, 7, 8]
  cf := some (fileOf pool9 10 #[.nestMembers #[1103]] #[{ accessFlags := 1, nameIndex := 5, descriptorIndex := 6, attributes := #[] }, { accessFlags := 1, nameIndex := 692, descriptorIndex := 142, attributes := #[] }, { accessFlags := 9, nameIndex := 782, descriptorIndex := 783, attributes := #[] }, { accessFlags := 0, nameIndex := 5, descriptorIndex := 211, attributes := #[] }] 49 2 #[1106, 1108, 575, 1110, 1112] #[{ accessFlags := 18, nameIndex := 13, descriptorIndex := 14, attributes := #[] }, { accessFlags := 18, nameIndex := 17, descriptorIndex := 18, attributes := #[] }, { accessFlags := 2, nameIndex := 21, descriptorIndex := 22, attributes := #[] }, { accessFlags := 2, nameIndex := 25, descriptorIndex := 26, attributes := #[] }, { accessFlags := 26, nameIndex := 1116, descriptorIndex := 1117, attributes := #[] }, { accessFlags := 24, nameIndex := 40, descriptorIndex := 26, attributes := #[] }, { accessFlags := 26, nameIndex := 1101, descriptorIndex := 1102, attributes := #[] }, { accessFlags := 26, nameIndex := 1121, descriptorIndex := 1122, attributes := #[] }, { accessFlags := 25, nameIndex := 599, descriptorIndex := 600, attributes := #[] }, { accessFlags := 24, nameIndex := 1125, descriptorIndex := 18, attributes := #[] }, { accessFlags := 24, nameIndex := 1127, descriptorIndex := 18, attributes := #[] }])
  fields := #[{ name := "value", type := (.array .byte), accessFlags := 18, slot := 0, constantValue := 0 }, { name := "coder", type := .byte, accessFlags := 18, slot := 1, constantValue := 0 }, { name := "hash", type := .int, accessFlags := 2, slot := 2, constantValue := 0 }, { name := "hashIsZero", type := .boolean, accessFlags := 2, slot := 3, constantValue := 0 }, { name := "serialVersionUID", type := .long, accessFlags := 26, slot := 0, constantValue := 0 }, { name := "COMPACT_STRINGS", type := .boolean, accessFlags := 24, slot := 1, constantValue := 0 }, { name := "serialPersistentFields", type := (.array (.object "java/io/ObjectStreamField")), accessFlags := 26, slot := 2, constantValue := 0 }, { name := "REPL", type := .char, accessFlags := 26, slot := 3, constantValue := 0 }, { name := "CASE_INSENSITIVE_ORDER", type := (.object "java/util/Comparator"), accessFlags := 25, slot := 4, constantValue := 0 }, { name := "LATIN1", type := .byte, accessFlags := 24, slot := 5, constantValue := 0 }, { name := "UTF16", type := .byte, accessFlags := 24, slot := 6, constantValue := 0 }]
  methods := #[k9m0, k9m1, k9m2, k9m3]
  instanceTypes := #[(.array .byte), .byte, .int, .boolean]
  staticTypes := #[.long, .boolean, (.array (.object "java/io/ObjectStreamField")), .char, (.object "java/util/Comparator"), .byte, .byte]
  resolved := Array.replicate 1451 none
  statics := some 0 }

def pool10 : Array CpInfo := pool [(4, .class_ 6), (1, u "java/lang/Object"), (0, u "<init>"), (0, u "()V"), (5, .class_ 16), (1, u "java/lang/StringLatin1"), (73, u "canEncode"), (14, u "(C)Z"), (15, u "$assertionsDisabled"), (0, u "Z"), (98, .class_ 223), (1, u "java/lang/StringLatin1$LinesSpliterator"), (156, u "toBytes"), (1, u "(C)[B"), (7, .class_ 391), (0, u "java/lang/StringLatin1$CharsSpliterator")] 3

def k10m0 : Method := { name := "<init>", desc := "()V", sig := { parameters := [], returnType := none }, accessFlags := 0, code := none }
def k10c1 : Code := { maxStack := 2, maxLocals := 1, code := jdk_43_method_3_code, exceptionTable := #[], attributes := #[] }
def k10m1 : Method := { name := "canEncode", desc := "(C)Z", sig := { parameters := [.char], returnType := some .boolean }, accessFlags := 9, code := some k10c1 }
def k10c2 : Code := { maxStack := 4, maxLocals := 1, code := jdk_43_method_46_code, exceptionTable := #[], attributes := #[] }
def k10m2 : Method := { name := "toBytes", desc := "(C)[B", sig := { parameters := [.char], returnType := some (.array .byte) }, accessFlags := 9, code := some k10c2 }
/-- java/lang/StringLatin1 -/
def k10 : Class := { plain "java/lang/StringLatin1" (some 0) with
  accessFlags := 48
  interfaces := #[]
  cf := some (fileOf pool10 14 #[.nestMembers #[390, 221]] #[{ accessFlags := 0, nameIndex := 7, descriptorIndex := 8, attributes := #[] }, { accessFlags := 9, nameIndex := 90, descriptorIndex := 105, attributes := #[] }, { accessFlags := 9, nameIndex := 380, descriptorIndex := 382, attributes := #[] }] 48 4 #[] #[{ accessFlags := 4120, nameIndex := 121, descriptorIndex := 122, attributes := #[] }])
  fields := #[{ name := "$assertionsDisabled", type := .boolean, accessFlags := 4120, slot := 0, constantValue := 0 }]
  methods := #[k10m0, k10m1, k10m2]
  instanceTypes := #[]
  staticTypes := #[.boolean]
  resolved := Array.replicate 395 none
  statics := none }

def pool11 : Array CpInfo := pool [(2, .class_ 4), (1, u "java/lang/Object"), (0, u "<init>"), (0, u "()V"), (35, .class_ 44), (1, u "java/util/Objects"), (0, u "requireNonNull"), (48, u "(Ljava/lang/Object;Ljava/lang/String;)Ljava/lang/Object;")] 89

def k11m0 : Method := { name := "<init>", desc := "()V", sig := { parameters := [], returnType := none }, accessFlags := 2, code := none }
def k11c1 : Code := { maxStack := 3, maxLocals := 2, code := jdk_31_method_11_code, exceptionTable := #[], attributes := #[] }
def k11m1 : Method := { name := "requireNonNull", desc := "(Ljava/lang/Object;Ljava/lang/String;)Ljava/lang/Object;", sig := { parameters := [(.object "java/lang/Object"), (.object "java/lang/String")], returnType := some (.object "java/lang/Object") }, accessFlags := 9, code := some k11c1 }
/-- java/util/Objects -/
def k11 : Class := { plain "java/util/Objects" (some 0) with
  accessFlags := 49
  interfaces := #[]
  cf := some (fileOf pool11 42 #[] #[{ accessFlags := 2, nameIndex := 5, descriptorIndex := 6, attributes := #[] }, { accessFlags := 9, nameIndex := 45, descriptorIndex := 94, attributes := #[] }] 49 2 #[] #[])
  fields := #[]
  methods := #[k11m0, k11m1]
  instanceTypes := #[]
  staticTypes := #[]
  resolved := Array.replicate 184 none
  statics := none }

def pool12 : Array CpInfo := pool [(1, .methodref 2 3), (0, .class_ 4), (0, .nameAndType 5 6), (0, u "java/lang/Record"), (0, u "<init>"), (0, u "()V"), (0, .string 8), (0, u "patient"), (0, .methodref 10 11), (0, .class_ 12), (0, .nameAndType 13 14), (0, u "java/util/Objects"), (0, u "requireNonNull"), (0, u "(Ljava/lang/Object;Ljava/lang/String;)Ljava/lang/Object;"), (0, .fieldref 16 17), (0, .class_ 18), (0, .nameAndType 8 19), (0, u "com/example/mergeward/mergeward/core/RecordPath"), (0, u "Lcom/example/mergeward/mergeward/core/Identifier;"), (0, .fieldref 16 21), (0, .nameAndType 22 19), (0, u "account"), (0, .fieldref 16 24), (0, .nameAndType 25 19), (0, u "visit"), (2, u "(Lcom/example/mergeward/mergeward/core/Identifier;Lcom/example/mergeward/mergeward/core/Identifier;Lcom/example/mergeward/mergeward/core/Identifier;)V"), (78, u "IDENTIFIER_ORDER"), (0, u "Ljava/util/Comparator;"), (14, u "DEPTH_FIRST"), (11, u "sameLevelAs"), (0, u "(Lcom/example/mergeward/mergeward/core/RecordPath;)Z")] 81

def k12c0 : Code := { maxStack := 2, maxLocals := 4, code := prog_84_method_1_code, exceptionTable := #[], attributes := #[] }
def k12m0 : Method := { name := "<init>", desc := "(Lcom/example/mergeward/mergeward/core/Identifier;Lcom/example/mergeward/mergeward/core/Identifier;Lcom/example/mergeward/mergeward/core/Identifier;)V", sig := { parameters := [(.object "com/example/mergeward/mergeward/core/Identifier"), (.object "com/example/mergeward/mergeward/core/Identifier"), (.object "com/example/mergeward/mergeward/core/Identifier")], returnType := none }, accessFlags := 1, code := some k12c0 }
def k12c1 : Code := { maxStack := 2, maxLocals := 2, code := prog_84_method_6_code, exceptionTable := #[], attributes := #[] }
def k12m1 : Method := { name := "sameLevelAs", desc := "(Lcom/example/mergeward/mergeward/core/RecordPath;)Z", sig := { parameters := [(.object "com/example/mergeward/mergeward/core/RecordPath")], returnType := some .boolean }, accessFlags := 0, code := some k12c1 }
/-- com/example/mergeward/mergeward/core/RecordPath -/
def k12 : Class := { plain "com/example/mergeward/mergeward/core/RecordPath" (some 2) with
  accessFlags := 49
  interfaces := #[]
  cf := some (fileOf pool12 16 #[] #[{ accessFlags := 1, nameIndex := 5, descriptorIndex := 28, attributes := #[] }, { accessFlags := 0, nameIndex := 135, descriptorIndex := 136, attributes := #[] }] 49 2 #[] #[{ accessFlags := 18, nameIndex := 8, descriptorIndex := 19, attributes := #[] }, { accessFlags := 18, nameIndex := 22, descriptorIndex := 19, attributes := #[] }, { accessFlags := 18, nameIndex := 25, descriptorIndex := 19, attributes := #[] }, { accessFlags := 26, nameIndex := 107, descriptorIndex := 108, attributes := #[] }, { accessFlags := 24, nameIndex := 123, descriptorIndex := 108, attributes := #[] }])
  fields := #[{ name := "patient", type := (.object "com/example/mergeward/mergeward/core/Identifier"), accessFlags := 18, slot := 0, constantValue := 0 }, { name := "account", type := (.object "com/example/mergeward/mergeward/core/Identifier"), accessFlags := 18, slot := 1, constantValue := 0 }, { name := "visit", type := (.object "com/example/mergeward/mergeward/core/Identifier"), accessFlags := 18, slot := 2, constantValue := 0 }, { name := "IDENTIFIER_ORDER", type := (.object "java/util/Comparator"), accessFlags := 26, slot := 0, constantValue := 0 }, { name := "DEPTH_FIRST", type := (.object "java/util/Comparator"), accessFlags := 24, slot := 1, constantValue := 0 }]
  methods := #[k12m0, k12m1]
  instanceTypes := #[(.object "com/example/mergeward/mergeward/core/Identifier"), (.object "com/example/mergeward/mergeward/core/Identifier"), (.object "com/example/mergeward/mergeward/core/Identifier")]
  staticTypes := #[(.object "java/util/Comparator"), (.object "java/util/Comparator")]
  resolved := Array.replicate 218 none
  statics := none }

def pool13 : Array CpInfo := pool [(2, .class_ 4), (1, u "java/lang/Object"), (0, u "<init>"), (0, u "()V"), (17, .class_ 26), (1, u "jdk/internal/util/Preconditions"), (28, .class_ 56), (0, u "jdk/internal/util/Preconditions$4"), (57, .class_ 115), (0, u "jdk/internal/util/Preconditions$1"), (7, u "SIOOBE_FORMATTER"), (0, u "Ljava/util/function/BiFunction;"), (0, .class_ 126), (0, u "jdk/internal/util/Preconditions$2"), (3, u "AIOOBE_FORMATTER"), (0, .class_ 132), (0, u "jdk/internal/util/Preconditions$3"), (3, u "IOOBE_FORMATTER")] 57

def k13m0 : Method := { name := "<init>", desc := "()V", sig := { parameters := [], returnType := none }, accessFlags := 1, code := none }
/-- jdk/internal/util/Preconditions -/
def k13 : Class := { plain "jdk/internal/util/Preconditions" (some 0) with
  accessFlags := 33
  interfaces := #[]
  cf := some (fileOf pool13 24 #[.nestMembers #[55, 131, 125, 114]] #[{ accessFlags := 1, nameIndex := 5, descriptorIndex := 6, attributes := #[] }] 33 2 #[] #[{ accessFlags := 25, nameIndex := 123, descriptorIndex := 124, attributes := #[] }, { accessFlags := 25, nameIndex := 130, descriptorIndex := 124, attributes := #[] }, { accessFlags := 25, nameIndex := 136, descriptorIndex := 124, attributes := #[] }])
  fields := #[{ name := "SIOOBE_FORMATTER", type := (.object "java/util/function/BiFunction"), accessFlags := 25, slot := 0, constantValue := 0 }, { name := "AIOOBE_FORMATTER", type := (.object "java/util/function/BiFunction"), accessFlags := 25, slot := 1, constantValue := 0 }, { name := "IOOBE_FORMATTER", type := (.object "java/util/function/BiFunction"), accessFlags := 25, slot := 2, constantValue := 0 }]
  methods := #[k13m0]
  instanceTypes := #[]
  staticTypes := #[(.object "java/util/function/BiFunction"), (.object "java/util/function/BiFunction"), (.object "java/util/function/BiFunction")]
  resolved := Array.replicate 194 none
  statics := some 1 }

def pool14 : Array CpInfo := pool [(9, u "<init>"), (6, .class_ 18), (1, u "java/lang/Object"), (0, u "()V"), (1, .class_ 23), (1, u "jdk/internal/util/ArraysSupport"), (0, u "LOG2_ARRAY_LONG_INDEX_SCALE"), (0, u "I"), (2, u "U"), (0, u "Ljdk/internal/misc/Unsafe;"), (8, u "BIG_ENDIAN"), (0, u "Z"), (8, u "LOG2_BYTE_BIT_SIZE"), (4, u "LOG2_ARRAY_INT_INDEX_SCALE"), (54, u "JLA"), (0, u "Ljdk/internal/access/JavaLangAccess;"), (11, u "LOG2_ARRAY_BOOLEAN_INDEX_SCALE"), (9, u "LOG2_ARRAY_BYTE_INDEX_SCALE"), (5, u "LOG2_ARRAY_CHAR_INDEX_SCALE"), (5, u "LOG2_ARRAY_SHORT_INDEX_SCALE"), (18, u "LOG2_ARRAY_FLOAT_INDEX_SCALE"), (24, u "LOG2_ARRAY_DOUBLE_INDEX_SCALE"), (89, u "T_BOOLEAN"), (2, u "T_CHAR"), (1, u "T_FLOAT"), (1, u "T_DOUBLE"), (1, u "T_BYTE"), (1, u "T_SHORT"), (1, u "T_INT"), (1, u "T_LONG"), (1, u "SOFT_MAX_ARRAY_LENGTH")] 83

def k14m0 : Method := { name := "<init>", desc := "()V", sig := { parameters := [], returnType := none }, accessFlags := 2, code := none }
/-- jdk/internal/util/ArraysSupport -/
def k14 : Class := { plain "jdk/internal/util/ArraysSupport" (some 0) with
  accessFlags := 33
  interfaces := #[]
  cf := some (fileOf pool14 21 #[] #[{ accessFlags := 2, nameIndex := 9, descriptorIndex := 19, attributes := #[] }] 33 16 #[] #[{ accessFlags := 24, nameIndex := 28, descriptorIndex := 29, attributes := #[] }, { accessFlags := 26, nameIndex := 38, descriptorIndex := 39, attributes := #[] }, { accessFlags := 25, nameIndex := 121, descriptorIndex := 25, attributes := #[] }, { accessFlags := 25, nameIndex := 131, descriptorIndex := 25, attributes := #[] }, { accessFlags := 25, nameIndex := 137, descriptorIndex := 25, attributes := #[] }, { accessFlags := 25, nameIndex := 143, descriptorIndex := 25, attributes := #[] }, { accessFlags := 25, nameIndex := 53, descriptorIndex := 25, attributes := #[] }, { accessFlags := 25, nameIndex := 24, descriptorIndex := 25, attributes := #[] }, { accessFlags := 25, nameIndex := 162, descriptorIndex := 25, attributes := #[] }, { accessFlags := 25, nameIndex := 187, descriptorIndex := 25, attributes := #[] }, { accessFlags := 26, nameIndex := 48, descriptorIndex := 25, attributes := #[] }, { accessFlags := 25, nameIndex := 277, descriptorIndex := 25, attributes := #[] }, { accessFlags := 25, nameIndex := 280, descriptorIndex := 25, attributes := #[] }, { accessFlags := 25, nameIndex := 282, descriptorIndex := 25, attributes := #[] }, { accessFlags := 25, nameIndex := 284, descriptorIndex := 25, attributes := #[] }, { accessFlags := 25, nameIndex := 286, descriptorIndex := 25, attributes := #[] }, { accessFlags := 25, nameIndex := 288, descriptorIndex := 25, attributes := #[] }, { accessFlags := 25, nameIndex := 290, descriptorIndex := 25, attributes := #[] }, { accessFlags := 25, nameIndex := 292, descriptorIndex := 25, attributes := #[] }, { accessFlags := 26, nameIndex := 108, descriptorIndex := 109, attributes := #[] }, { accessFlags := 25, nameIndex := 294, descriptorIndex := 25, attributes := #[] }])
  fields := #[{ name := "U", type := (.object "jdk/internal/misc/Unsafe"), accessFlags := 24, slot := 0, constantValue := 0 }, { name := "BIG_ENDIAN", type := .boolean, accessFlags := 26, slot := 1, constantValue := 0 }, { name := "LOG2_ARRAY_BOOLEAN_INDEX_SCALE", type := .int, accessFlags := 25, slot := 2, constantValue := 0 }, { name := "LOG2_ARRAY_BYTE_INDEX_SCALE", type := .int, accessFlags := 25, slot := 3, constantValue := 0 }, { name := "LOG2_ARRAY_CHAR_INDEX_SCALE", type := .int, accessFlags := 25, slot := 4, constantValue := 0 }, { name := "LOG2_ARRAY_SHORT_INDEX_SCALE", type := .int, accessFlags := 25, slot := 5, constantValue := 0 }, { name := "LOG2_ARRAY_INT_INDEX_SCALE", type := .int, accessFlags := 25, slot := 6, constantValue := 0 }, { name := "LOG2_ARRAY_LONG_INDEX_SCALE", type := .int, accessFlags := 25, slot := 7, constantValue := 0 }, { name := "LOG2_ARRAY_FLOAT_INDEX_SCALE", type := .int, accessFlags := 25, slot := 8, constantValue := 0 }, { name := "LOG2_ARRAY_DOUBLE_INDEX_SCALE", type := .int, accessFlags := 25, slot := 9, constantValue := 0 }, { name := "LOG2_BYTE_BIT_SIZE", type := .int, accessFlags := 26, slot := 10, constantValue := 0 }, { name := "T_BOOLEAN", type := .int, accessFlags := 25, slot := 11, constantValue := 0 }, { name := "T_CHAR", type := .int, accessFlags := 25, slot := 12, constantValue := 0 }, { name := "T_FLOAT", type := .int, accessFlags := 25, slot := 13, constantValue := 0 }, { name := "T_DOUBLE", type := .int, accessFlags := 25, slot := 14, constantValue := 0 }, { name := "T_BYTE", type := .int, accessFlags := 25, slot := 15, constantValue := 0 }, { name := "T_SHORT", type := .int, accessFlags := 25, slot := 16, constantValue := 0 }, { name := "T_INT", type := .int, accessFlags := 25, slot := 17, constantValue := 0 }, { name := "T_LONG", type := .int, accessFlags := 25, slot := 18, constantValue := 0 }, { name := "JLA", type := (.object "jdk/internal/access/JavaLangAccess"), accessFlags := 26, slot := 19, constantValue := 0 }, { name := "SOFT_MAX_ARRAY_LENGTH", type := .int, accessFlags := 25, slot := 20, constantValue := 0 }]
  methods := #[k14m0]
  instanceTypes := #[]
  staticTypes := #[(.object "jdk/internal/misc/Unsafe"), .boolean, .int, .int, .int, .int, .int, .int, .int, .int, .int, .int, .int, .int, .int, .int, .int, .int, .int, (.object "jdk/internal/access/JavaLangAccess"), .int]
  resolved := Array.replicate 378 none
  statics := none }

def pool15 : Array CpInfo := pool [(1, u "java/lang/Cloneable"), (0, .class_ 1), (0, u "java/lang/Object"), (0, .class_ 3)] 3

/-- java/lang/Cloneable -/
def k15 : Class := { plain "java/lang/Cloneable" (some 0) with
  accessFlags := 1537
  interfaces := #[]
  cf := some (fileOf pool15 2 #[] #[] 1537 4 #[] #[])
  fields := #[]
  methods := #[]
  instanceTypes := #[]
  staticTypes := #[]
  resolved := Array.replicate 8 none
  statics := none }

/-- the primitive byte -/
def k16 : Class := { plain "byte" none with kind := .primitive 'B', accessFlags := 0x411 }
/-- [B -/
def k17 : Class := { plain "[B" (some 0) with kind := .array 16 .byte, interfaces := #[15, 4], accessFlags := 1041 }

/-- the primitive int -/
def k18 : Class := { plain "int" none with kind := .primitive 'I', accessFlags := 0x411 }
/-- [I -/
def k19 : Class := { plain "[I" (some 0) with kind := .array 18 .int, interfaces := #[15, 4], accessFlags := 1041 }

def heap : Heap := #[{ cls := 9, slots := #[.long 0, .int 1, .null, .int 0, .null, .int 0, .int 0], vm := .statics 9 },
  { cls := 13, slots := #[.null, .null, .null], vm := .statics 13 }]
def classes : Array Class := #[k0, k1, k2, k3, k4, k5, k6, k7, k8, k9, k10, k11, k12, k13, k14, k15, k16, k17, k18, k19]
def interned : List (Array UInt16 × Addr) := []
def slotsUsed : Nat := 10
def theMethod : MethodId := ⟨1, 1⟩
def args0 : Array Value := #[.int 1, .int 9, .int 3]
def aboutOver (below : List Frame) : State where
  vm := { classes := classes, interned := interned.toArray }
  heap := heap
  slotsUsed := slotsUsed
  threads := #[{ frames := .invoking theMethod args0 :: below }]
def below0 : List Frame := [.native { method := ⟨0, 0⟩, args := #[] }]
def about1 : State := aboutOver below0
def p0 : Program := .bare "" "" ""
def e0 : Env := launch0.env 0 0 0
theorem w_frames : about1.frames = Frame.invoking theMethod args0 :: below0 := rfl
set_option maxRecDepth 65536 in
theorem w_args : argsFit about1.vm theMethod args0 = true := by decide +kernel
set_option maxRecDepth 65536 in
theorem w_heap : heapFits about1 = true := by decide +kernel
set_option maxRecDepth 65536 in
theorem w_runnable : about1.curStatus? = some .runnable := by decide +kernel
set_option maxRecDepth 65536 in
theorem w_alone : about1.alone = true := by decide +kernel
set_option maxRecDepth 65536 in
theorem w_named : about1.methodNamed? x = some theMethod := by decide +kernel
set_option maxRecDepth 65536 in
theorem w_hears : about1.hears theMethod below0 = true := by decide +kernel
set_option maxRecDepth 65536 in
theorem w_ripe : about1.ripe theMethod args0 below0 = true := by decide +kernel
theorem w_running : about1.status = .running := rfl
set_option maxRecDepth 65536 in
theorem w_room : about1.hasRoom e0.platform room_1 = true :=
  launch0.hasRoom_least _ room_1 (by decide +kernel) (by decide +kernel) (by decide +kernel) (by decide +kernel) (by decide +kernel) (by decide +kernel)
theorem allAtoms_all (ts : List Jvm.Cond) (a : Array Jvm.Value) (st : Jvm.State) : (allAtoms ts).before a st = ts.all (fun c => c.before a st) := by
  induction ts with
  | nil => rfl
  | cons c t ih =>
    show (Jvm.Cond.and c (allAtoms t)).before a st = _
    rw [Jvm.Cond.before_and, ih, List.all_cons]
def words1 : List Jvm.Cond := Jvm.Cond.code x code maxLocals ret :: tables_1
/-- a 'code' word, met by the world's own term for the bytes: nothing is compared byte by byte -/
theorem code_word {y : MethodName} {bytes : ByteArray} {mx : Nat} {rt : Option FieldType} {a : Array Value} {s : State} {m : MethodId} {meth : Method} {c : Code} (h1 : s.methodNamed? y = some m) (h2 : s.vm.method? m = some meth) (h3 : meth.code = some c) (h4 : c.code = bytes)
    (h5 : (c.maxLocals == mx && c.exceptionTable.isEmpty && decide (c.maxStack ≤ mostOperands) && decide (meth.sig.returnType = rt) && !meth.locks && decide (parseMethodDescriptor y.desc = some meth.sig)) = true) : (Jvm.Cond.code y bytes mx rt).before a s = true := by
  simp only [Bool.and_eq_true, beq_iff_eq, Bool.not_eq_true', decide_eq_true_eq] at h5
  obtain ⟨⟨⟨⟨⟨g1, g2⟩, g3⟩, g4⟩, g5⟩, g6⟩ := h5
  simp [Cond.before, Cond.holds, Cond.value, h1, h2, h3, h4, g1, g2, g3, g4, g5, g6]
def isCode : Jvm.Cond → Bool
  | .code _ _ _ _ => true
  | _ => false
theorem all_split {L : List Jvm.Cond} {P : Jvm.Cond → Bool} (h1 : L.all (fun c => isCode c || P c) = true) (h2 : ∀ c ∈ L.filter isCode, P c = true) : L.all P = true := by
  refine List.all_eq_true.mpr fun c hc => ?_
  have h := List.all_eq_true.mp h1 c hc
  rcases Bool.eq_false_or_eq_true (isCode c) with hi | hi
  · exact h2 c (List.mem_filter.mpr ⟨hc, hi⟩)
  · simpa [hi] using h
set_option maxRecDepth 65536 in
theorem w_c0 : (Jvm.Cond.code x code maxLocals ret).before args0 about1 = true := code_word (m := ⟨1, 1⟩) (meth := k1m1) (c := k1c1) (by decide +kernel) rfl rfl rfl (by decide +kernel)
set_option maxRecDepth 65536 in
theorem w_c1 : (Jvm.Cond.code ({ cls := "java/lang/String", name := "valueOf", desc := "(C)Ljava/lang/String;" } : Jvm.MethodName) jdk_42_method_139_code (1 : Nat) (Option.some (Jvm.ClassFile.FieldType.object "java/lang/String"))).before args0 about1 = true := code_word (m := ⟨9, 2⟩) (meth := k9m2) (c := k9c2) (by decide +kernel) rfl rfl rfl (by decide +kernel)
set_option maxRecDepth 65536 in
theorem w_c2 : (Jvm.Cond.code ({ cls := "java/lang/StringLatin1", name := "canEncode", desc := "(C)Z" } : Jvm.MethodName) jdk_43_method_3_code (1 : Nat) (Option.some Jvm.ClassFile.FieldType.boolean)).before args0 about1 = true := code_word (m := ⟨10, 1⟩) (meth := k10m1) (c := k10c1) (by decide +kernel) rfl rfl rfl (by decide +kernel)
set_option maxRecDepth 65536 in
theorem w_c3 : (Jvm.Cond.code ({ cls := "java/lang/StringLatin1", name := "toBytes", desc := "(C)[B" } : Jvm.MethodName) jdk_43_method_46_code (1 : Nat) (Option.some (Jvm.ClassFile.FieldType.array Jvm.ClassFile.FieldType.byte))).before args0 about1 = true := code_word (m := ⟨10, 2⟩) (meth := k10m2) (c := k10c2) (by decide +kernel) rfl rfl rfl (by decide +kernel)
set_option maxRecDepth 65536 in
theorem w_c4 : (Jvm.Cond.code ({ cls := "java/lang/String", name := "<init>", desc := "([BB)V" } : Jvm.MethodName) jdk_42_method_151_code (3 : Nat) (Option.none : Option Jvm.ClassFile.FieldType)).before args0 about1 = true := code_word (m := ⟨9, 3⟩) (meth := k9m3) (c := k9c3) (by decide +kernel) rfl rfl rfl (by decide +kernel)
set_option maxRecDepth 65536 in
theorem w_c5 : (Jvm.Cond.code ({ cls := "java/lang/Object", name := "<init>", desc := "()V" } : Jvm.MethodName) object_method_1_code (1 : Nat) (Option.none : Option Jvm.ClassFile.FieldType)).before args0 about1 = true := code_word (m := ⟨0, 0⟩) (meth := k0m0) (c := k0c0) (by decide +kernel) rfl rfl rfl (by decide +kernel)
set_option maxRecDepth 65536 in
theorem w_c6 : (Jvm.Cond.code ({ cls := "com/example/mergeward/mergeward/core/Identifier", name := "<init>", desc := "(Ljava/lang/String;Ljava/lang/String;Ljava/lang/String;)V" } : Jvm.MethodName) prog_32_method_1_code (4 : Nat) (Option.none : Option Jvm.ClassFile.FieldType)).before args0 about1 = true := code_word (m := ⟨3, 0⟩) (meth := k3m0) (c := k3c0) (by decide +kernel) rfl rfl rfl (by decide +kernel)
set_option maxRecDepth 65536 in
theorem w_c7 : (Jvm.Cond.code ({ cls := "java/lang/Record", name := "<init>", desc := "()V" } : Jvm.MethodName) jdk_30_method_1_code (1 : Nat) (Option.none : Option Jvm.ClassFile.FieldType)).before args0 about1 = true := code_word (m := ⟨2, 0⟩) (meth := k2m0) (c := k2c0) (by decide +kernel) rfl rfl rfl (by decide +kernel)
set_option maxRecDepth 65536 in
theorem w_c8 : (Jvm.Cond.code ({ cls := "java/util/Objects", name := "requireNonNull", desc := "(Ljava/lang/Object;Ljava/lang/String;)Ljava/lang/Object;" } : Jvm.MethodName) jdk_31_method_11_code (2 : Nat) (Option.some (Jvm.ClassFile.FieldType.object "java/lang/Object"))).before args0 about1 = true := code_word (m := ⟨11, 1⟩) (meth := k11m1) (c := k11c1) (by decide +kernel) rfl rfl rfl (by decide +kernel)
set_option maxRecDepth 65536 in
theorem w_c9 : (Jvm.Cond.code ({ cls := "java/lang/String", name := "isEmpty", desc := "()Z" } : Jvm.MethodName) jdk_42_method_55_code (1 : Nat) (Option.some Jvm.ClassFile.FieldType.boolean)).before args0 about1 = true := code_word (m := ⟨9, 1⟩) (meth := k9m1) (c := k9c1) (by decide +kernel) rfl rfl rfl (by decide +kernel)
set_option maxRecDepth 65536 in
theorem w_c10 : (Jvm.Cond.code ({ cls := "com/example/mergeward/mergeward/core/RecordPath", name := "<init>", desc := "(Lcom/example/mergeward/mergeward/core/Identifier;Lcom/example/mergeward/mergeward/core/Identifier;Lcom/example/mergeward/mergeward/core/Identifier;)V" } : Jvm.MethodName) prog_84_method_1_code (4 : Nat) (Option.none : Option Jvm.ClassFile.FieldType)).before args0 about1 = true := code_word (m := ⟨12, 0⟩) (meth := k12m0) (c := k12c0) (by decide +kernel) rfl rfl rfl (by decide +kernel)
set_option maxRecDepth 65536 in
theorem w_c11 : (Jvm.Cond.code ({ cls := "com/example/mergeward/mergeward/core/RecordPathSameLevelAsPinLaw", name := "level", desc := "(ZZ)I" } : Jvm.MethodName) method_3_code (2 : Nat) (Option.some Jvm.ClassFile.FieldType.int)).before args0 about1 = true := code_word (m := ⟨1, 2⟩) (meth := k1m2) (c := k1c2) (by decide +kernel) rfl rfl rfl (by decide +kernel)
set_option maxRecDepth 65536 in
theorem w_c12 : (Jvm.Cond.code ({ cls := "com/example/mergeward/mergeward/core/RecordPath", name := "sameLevelAs", desc := "(Lcom/example/mergeward/mergeward/core/RecordPath;)Z" } : Jvm.MethodName) prog_84_method_6_code (2 : Nat) (Option.some Jvm.ClassFile.FieldType.boolean)).before args0 about1 = true := code_word (m := ⟨12, 1⟩) (meth := k12m1) (c := k12c1) (by decide +kernel) rfl rfl rfl (by decide +kernel)
def codes1 : List Jvm.Cond := [Jvm.Cond.code x code maxLocals ret, Jvm.Cond.code ({ cls := "java/lang/String", name := "valueOf", desc := "(C)Ljava/lang/String;" } : Jvm.MethodName) jdk_42_method_139_code (1 : Nat) (Option.some (Jvm.ClassFile.FieldType.object "java/lang/String")), Jvm.Cond.code ({ cls := "java/lang/StringLatin1", name := "canEncode", desc := "(C)Z" } : Jvm.MethodName) jdk_43_method_3_code (1 : Nat) (Option.some Jvm.ClassFile.FieldType.boolean), Jvm.Cond.code ({ cls := "java/lang/StringLatin1", name := "toBytes", desc := "(C)[B" } : Jvm.MethodName) jdk_43_method_46_code (1 : Nat) (Option.some (Jvm.ClassFile.FieldType.array Jvm.ClassFile.FieldType.byte)), Jvm.Cond.code ({ cls := "java/lang/String", name := "<init>", desc := "([BB)V" } : Jvm.MethodName) jdk_42_method_151_code (3 : Nat) (Option.none : Option Jvm.ClassFile.FieldType), Jvm.Cond.code ({ cls := "java/lang/Object", name := "<init>", desc := "()V" } : Jvm.MethodName) object_method_1_code (1 : Nat) (Option.none : Option Jvm.ClassFile.FieldType), Jvm.Cond.code ({ cls := "com/example/mergeward/mergeward/core/Identifier", name := "<init>", desc := "(Ljava/lang/String;Ljava/lang/String;Ljava/lang/String;)V" } : Jvm.MethodName) prog_32_method_1_code (4 : Nat) (Option.none : Option Jvm.ClassFile.FieldType), Jvm.Cond.code ({ cls := "java/lang/Record", name := "<init>", desc := "()V" } : Jvm.MethodName) jdk_30_method_1_code (1 : Nat) (Option.none : Option Jvm.ClassFile.FieldType), Jvm.Cond.code ({ cls := "java/util/Objects", name := "requireNonNull", desc := "(Ljava/lang/Object;Ljava/lang/String;)Ljava/lang/Object;" } : Jvm.MethodName) jdk_31_method_11_code (2 : Nat) (Option.some (Jvm.ClassFile.FieldType.object "java/lang/Object")), Jvm.Cond.code ({ cls := "java/lang/String", name := "isEmpty", desc := "()Z" } : Jvm.MethodName) jdk_42_method_55_code (1 : Nat) (Option.some Jvm.ClassFile.FieldType.boolean), Jvm.Cond.code ({ cls := "com/example/mergeward/mergeward/core/RecordPath", name := "<init>", desc := "(Lcom/example/mergeward/mergeward/core/Identifier;Lcom/example/mergeward/mergeward/core/Identifier;Lcom/example/mergeward/mergeward/core/Identifier;)V" } : Jvm.MethodName) prog_84_method_1_code (4 : Nat) (Option.none : Option Jvm.ClassFile.FieldType), Jvm.Cond.code ({ cls := "com/example/mergeward/mergeward/core/RecordPathSameLevelAsPinLaw", name := "level", desc := "(ZZ)I" } : Jvm.MethodName) method_3_code (2 : Nat) (Option.some Jvm.ClassFile.FieldType.int), Jvm.Cond.code ({ cls := "com/example/mergeward/mergeward/core/RecordPath", name := "sameLevelAs", desc := "(Lcom/example/mergeward/mergeward/core/RecordPath;)Z" } : Jvm.MethodName) prog_84_method_6_code (2 : Nat) (Option.some Jvm.ClassFile.FieldType.boolean)]
set_option maxRecDepth 65536 in
theorem codes_eq : words1.filter isCode = codes1 := rfl
theorem w_codes : ∀ c ∈ words1.filter isCode, c.before args0 about1 = true := by
  rw [codes_eq]
  intro c hc
  simp only [codes1, List.mem_cons, List.not_mem_nil, or_false] at hc
  rcases hc with rfl | rfl | rfl | rfl | rfl | rfl | rfl | rfl | rfl | rfl | rfl | rfl | rfl
  · exact w_c0
  · exact w_c1
  · exact w_c2
  · exact w_c3
  · exact w_c4
  · exact w_c5
  · exact w_c6
  · exact w_c7
  · exact w_c8
  · exact w_c9
  · exact w_c10
  · exact w_c11
  · exact w_c12
set_option maxRecDepth 65536 in
theorem w_t1 : (words1.take 24).all (fun c => isCode c || c.before args0 about1) = true := by decide +kernel
set_option maxRecDepth 65536 in
theorem w_t2 : ((words1.drop 24).take 24).all (fun c => isCode c || c.before args0 about1) = true := by decide +kernel
set_option maxRecDepth 65536 in
theorem w_t3 : (((words1.drop 24).drop 24).take 24).all (fun c => isCode c || c.before args0 about1) = true := by decide +kernel
set_option maxRecDepth 65536 in
theorem w_t4 : (((words1.drop 24).drop 24).drop 24).all (fun c => isCode c || c.before args0 about1) = true := by decide +kernel
theorem w_tables : (allAtoms (Jvm.Cond.code x code maxLocals ret :: tables_1)).before args0 about1 = true := by
  rw [allAtoms_all]
  show words1.all (fun c => c.before args0 about1) = true
  refine all_split ?_ w_codes
  rw [← List.take_append_drop 24 words1, List.all_append, w_t1, ← List.take_append_drop 24 (words1.drop 24), List.all_append, w_t2, ← List.take_append_drop 24 ((words1.drop 24).drop 24), List.all_append, w_t3, w_t4]
  rfl
set_option maxRecDepth 65536 in
theorem w_rest : rest_1_c.before args0 about1 = true := by decide +kernel
set_option maxRecDepth 65536 in
theorem w_case : (Jvm.Cond.and given_1 narrow_1).before args0 about1 = true := by decide +kernel
theorem w_applies : (headSpec (Jvm.Cond.code x code maxLocals ret :: tables_1) room_1).applies x e0.platform about1 = true :=
  (Spec.applies_iff w_frames).mpr ⟨w_running, w_runnable, w_alone, w_named, w_hears, w_ripe, w_room, w_tables⟩
theorem atStart : AtStart classFile x code maxLocals ret World_1 tables_1 room_1 Calls_1 rest_1 Pre_1 launch0 p0 e0 about1 theMethod args0 below0 :=
  ⟨lists_1, trivial, launch0.admits_env _ _ _, launch0.least_env, fairChoices_fair.cas, fairChoices_fair.clock, w_frames, w_args, w_heap, w_applies, trivial, w_rest, w_case⟩
end start1
theorem witness_1 : WitnessClaimed_1 := ⟨start1.p0, start1.e0, start1.about1, start1.theMethod, start1.args0, start1.below0, start1.atStart⟩
end Jvm.Pilot.@@N@@
